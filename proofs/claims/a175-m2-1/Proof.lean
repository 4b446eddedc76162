import JvmDerived
import JvmDerived.Pilot.@@N@@Statement
import JvmDerived.Pilot.@@N@@Code
set_option linter.unusedVariables false
set_option linter.unusedSimpArgs false
namespace Jvm.RoadKit
open Sem ClassFile Op Lib Jvm.Stand Jvm.Free Jvm.LawKit
/-- the run from S ends, and ends as Q says -/
def Go (tb : Tables) (e : Env) (below : List Frame) (Q : Outcome → State → Prop) (S : State) : Prop := ∃ s₂ o, Steps tb e below S s₂ ∧ s₂.status = .running ∧ Ended s₂ below o ∧ Q o s₂
theorem Go.by {tb : Tables} {e : Env} {below : List Frame} {Q : Outcome → State → Prop} {S S' : State} (h : ∀ t, Steps tb e below S' t → Steps tb e below S t) (k : Go tb e below Q S') : Go tb e below Q S := by
  obtain ⟨s₂, o, h1, r⟩ := k
  exact ⟨s₂, o, h _ h1, r⟩
/-- what a contract says of the end -/
def Ret (s : State) (n0 : Nat) (Q : Option Value → Heap → Prop) (C S : Nat) : Outcome → State → Prop := fun o U => ∃ v L, o = .returned v ∧ (Q v U.heap ∧ Fr n0 L) ∧ FrameEnd s o U L C S
def Met (l : Launch) (Z : State) (n0 : Nat) (y : MethodName) (bytes : ByteArray) (maxL : Nat) (ret : Option FieldType) (ws : List Cond) (rm : Room) (as : Array Value) (h0 : Heap) (Q : Option Value → Heap → Prop) : Prop :=
  MetFree l y (head1 (Cond.code y bytes maxL ret :: ws) rm) (fun a U => a = as ∧ Z.Warmed39 U.vm ∧ U.heap = h0) (fun _ _ _ _ _ => True) (fun _ U o U' => ∃ v L, o = .returned v ∧ (Q v U'.heap ∧ Fr n0 L) ∧ FrameEnd U o U' L rm.cells rm.slots)
/-- where the walk stands: the heap is h, k cells of n slots were made, nothing below n0 was written -/
def Sd (n0 : Nat) (p : Program) (l : Launch) (e : Env) (R : Room) (s : State) (m : MethodId) (args : Array Value) (below : List Frame) (meth : Method) (c : Code) (T : State) (h : Heap) (k n : Nat) : Prop :=
  ∃ locs, Stand p l e R s m args below meth c T locs k n ∧ Fr n0 locs ∧ T.heap = h
section Sds
variable {n0 : Nat} {p : Program} {l : Launch} {e : Env} {R : Room} {s : State} {m : MethodId} {args : Array Value} {below : List Frame} {meth : Method} {c : Code} {T : State} {h : Heap} {k n : Nat} {Z : State} {a0 : Array Value}
theorem catV {v : Value} (h : v.isRef = true) : v.category = 1 := by cases v <;> first | rfl | (cases h; done)
theorem Sd.here (X : Sd n0 p l e R s m args below meth c T h k n) : At T m c below := by obtain ⟨_, X, -⟩ := X; exact X.here
theorem Sd.more (X : Sd n0 p l e R s m args below meth c T h k n) {k' n' : Nat} (hk : k ≤ k') (hn : n ≤ n') : Sd n0 p l e R s m args below meth c T h k' n' := by
  obtain ⟨L, X, N, q⟩ := X; exact ⟨L, X.more hk hn, N, q⟩
theorem enter {y : MethodName} {bytes : ByteArray} {maxL : Nat} {ret : Option FieldType} {ws : List Cond} {rm : Room} {as : Array Value} {h0 : Heap} {Q : Option Value → Heap → Prop} {Ls : Array Slot}
    (hpl : plainFor y = true) (hef : ∀ m, entryFrame m as maxL = mkF m 0 Ls [])
    (body : ∀ (p : Program) (e : Env) (s : State) (m : MethodId) (below : List Frame) (meth : Method) (c : Code) (T0 : State), p.tables.exec = Jvm.exec → c.code = bytes → c.maxLocals = maxL → s.vm.findClass y.cls = some m.cls → meth.name = y.name → meth.sig.returnType = ret → meth.locks = false → Z.Warmed39 s.vm →
      Sd n0 p l e rm s m as below meth c T0 h0 0 0 → Go p.tables e below (Ret s n0 Q rm.cells rm.slots) (T0.setTop (mkF m 0 Ls []))) : Met l Z n0 y bytes maxL ret ws rm as h0 Q := by
  refine MetFree.of_bodySF hpl hisR ?_
  intro p e s m args below meth c s₁ Bd hml0 hP hK
  obtain ⟨rfl, hZ, hh⟩ := hP
  have X0 : Stand p l e rm s m args below meth c s₁ [] 0 0 := Stand.of_body Bd
  have e0 : s₁.heap = h0 := by rw [← hh, Bd.state]; rfl
  have hlk : meth.locks = false := BodyLoose.notSynchronized Bd
  have k := body p e s m below meth c s₁ Bd.exec Bd.bytes hml0 (findClass_of_methodNamed Bd.named) (name_of_methodNamed Bd.named Bd.method).1 Bd.returns hlk hZ ⟨[], X0, Fr.nil n0, e0⟩
  obtain ⟨s₂, o, h1, h2, h3, h4⟩ := k
  exact ⟨s₂, o, castTop (hef m) h1, h2, h3, h4⟩
/-! returns -/
theorem Go.leave (X : Sd n0 p l e R s m args below meth c T h k n) {Q : Option Value → Heap → Prop} {C S : Nat} {v : Option Value} {g : JFrame} (hlk : meth.locks = false) (hv : meth.sig.returnType = none → v = none)
    (hst : ∀ fs, (∀ (f : JFrame) (acts : List Action), f.method = m → f.locked = none → f.entered = [] → (doReturn e (T.setTop f) acts v).1 = T.setFrames fs) → Steps p.tables e below (T.setTop g) (T.setFrames fs))
    (hk : k ≤ C) (hn : n ≤ S) (hQ : Q v h) : Go p.tables e below (Ret s n0 Q C S) (T.setTop g) := by
  obtain ⟨L, X, N, q⟩ := X
  obtain ⟨fs, hr, hrun, hended, hW, hsame⟩ := X.leave (v := v) hv hlk
  refine ⟨_, _, hst fs hr, hrun, hended, _, L, rfl, ⟨?_, N⟩, ⟨_, rfl⟩, hW, hsame.mono hk hn⟩
  show Q v T.heap
  rw [q]; exact hQ
theorem Go.retN (X : Sd n0 p l e R s m args below meth c T h k n) (hx : p.tables.exec = Jvm.exec) (hlk : meth.locks = false) {Q : Option Value → Heap → Prop} {C S : Nat} {t : FieldType} {pc : Nat} {Ls : Array Slot} {z z' : Int32} {rest : List Value} (hret : meth.sig.returnType = some t) (ht : t = .boolean ∨ t = .byte ∨ t = .char ∨ t = .short)
    (hd : decode c.code pc = .ok (.ireturn, 1)) (hz : nar t z = z') (hk : k ≤ C) (hn : n ≤ S) (hQ : Q (some (.int z')) h) : Go p.tables e below (Ret s n0 Q C S) (T.setTop (mkF m pc Ls (.int z :: rest))) := by
  subst hz
  refine Go.leave X hlk (fun q => by rw [hret] at q; cases q) (fun fs hr => ?_) hk hn hQ
  obtain ⟨L, X, -⟩ := X
  exact Jvm.RoadKit.retN X hx hret ht hd hr
theorem Go.retI (X : Sd n0 p l e R s m args below meth c T h k n) (hx : p.tables.exec = Jvm.exec) (hlk : meth.locks = false) {Q : Option Value → Heap → Prop} {C S : Nat} {pc : Nat} {Ls : Array Slot} {z : Int32} {rest : List Value} (hret : meth.sig.returnType = some .int)
    (hd : decode c.code pc = .ok (.ireturn, 1)) (hk : k ≤ C) (hn : n ≤ S) (hQ : Q (some (.int z)) h) : Go p.tables e below (Ret s n0 Q C S) (T.setTop (mkF m pc Ls (.int z :: rest))) := by
  refine Go.leave X hlk (fun q => by rw [hret] at q; cases q) (fun fs hr => ?_) hk hn hQ
  obtain ⟨L, X, -⟩ := X
  exact retOut X hx hret rfl (Or.inl ⟨rfl, Or.inl rfl, _, rfl⟩) hd hr
theorem Go.retL (X : Sd n0 p l e R s m args below meth c T h k n) (hx : p.tables.exec = Jvm.exec) (hlk : meth.locks = false) {Q : Option Value → Heap → Prop} {C S : Nat} {pc : Nat} {Ls : Array Slot} {z : Int64} {rest : List Value} (hret : meth.sig.returnType = some .long)
    (hd : decode c.code pc = .ok (.lreturn, 1)) (hk : k ≤ C) (hn : n ≤ S) (hQ : Q (some (.long z)) h) : Go p.tables e below (Ret s n0 Q C S) (T.setTop (mkF m pc Ls (.long z :: rest))) := by
  refine Go.leave X hlk (fun q => by rw [hret] at q; cases q) (fun fs hr => ?_) hk hn hQ
  obtain ⟨L, X, -⟩ := X
  exact retOut X hx hret rfl (Or.inr (Or.inl ⟨rfl, rfl, _, rfl⟩)) hd hr
theorem Go.retA (X : Sd n0 p l e R s m args below meth c T h k n) (hx : p.tables.exec = Jvm.exec) (hlk : meth.locks = false) {Q : Option Value → Heap → Prop} {C S : Nat} {t : FieldType} {pc : Nat} {Ls : Array Slot} {w : Value} {rest : List Value} (hret : meth.sig.returnType = some t) (ht : t.isReference = true) (hw : w.isRef = true)
    (hd : decode c.code pc = .ok (.areturn, 1)) (hk : k ≤ C) (hn : n ≤ S) (hQ : Q (some w) h) : Go p.tables e below (Ret s n0 Q C S) (T.setTop (mkF m pc Ls (w :: rest))) := by
  refine Go.leave X hlk (fun q => by rw [hret] at q; cases q) (fun fs hr => ?_) hk hn hQ
  obtain ⟨L, X, -⟩ := X
  have hnar : narrow t w = w := by cases t <;> first | (cases ht; done) | (cases w <;> first | rfl | (cases hw; done))
  exact retOut X hx hret hnar (Or.inr (Or.inr (Or.inr (Or.inr ⟨rfl, ht, hw⟩)))) hd hr
theorem Go.ret0 (X : Sd n0 p l e R s m args below meth c T h k n) (hx : p.tables.exec = Jvm.exec) (hlk : meth.locks = false) {Q : Option Value → Heap → Prop} {C S : Nat} {pc : Nat} {Ls : Array Slot} (hret : meth.sig.returnType = none)
    (hd : decode c.code pc = .ok (.return_, 1)) (hk : k ≤ C) (hn : n ≤ S) (hQ : Q none h) : Go p.tables e below (Ret s n0 Q C S) (T.setTop (mkF m pc Ls [])) := by
  refine Go.leave X hlk (fun _ => rfl) (fun fs hr => ?_) hk hn hQ
  obtain ⟨L, X, -⟩ := X
  exact X.returnOut hx hret hd hr
/-! fields, statics, casts -/
theorem Sd.getF (X : Sd n0 p l e R s m args below meth c T h k n) (hx : p.tables.exec = Jvm.exec) (hZ : Z.Warmed39 s.vm) {own R0 O nm d host : String} {index : Nat} (hown : s.vm.findClass own = some m.cls) (w : (Cond.fieldLink own index R0 nm d).before a0 Z = true ∨ (Cond.fieldLinkNest own index R0 nm d host).before a0 Z = true) (via : Via Z R0 O nm d)
    {a : Addr} {v : Value} (F : Fld Z h a O nm d v) {g : JFrame} (hg : g.method = m) {rest : List Value} (hs : g.stack = .ref a :: rest) (hd : decode c.code g.pc = .ok (.getfield index, 3)) :
    ∃ T', Sd n0 p l e R s m args below meth c T' h k n ∧ ∀ target, Steps p.tables e below (T'.setTop { g with pc := g.pc + 3, stack := v :: rest }) target → Steps p.tables e below (T.setTop g) target := by
  obtain ⟨L, X, N, q⟩ := X
  obtain ⟨T', X', e', st⟩ := Jvm.RoadKit.getF X hx hZ hown w via q F hg hs hd
  exact ⟨T', ⟨L, X', N, e'⟩, st⟩
theorem Sd.getS (X : Sd n0 p l e R s m args below meth c T h k n) (hx : p.tables.exec = Jvm.exec) (hZ : Z.Warmed39 s.vm) {own R0 O nm d host : String} {index : Nat} (hown : s.vm.findClass own = some m.cls) (w : (Cond.fieldLink own index R0 nm d).before a0 Z = true ∨ (Cond.fieldLinkNest own index R0 nm d host).before a0 Z = true) (via : Via Z R0 O nm d)
    {v : Value} (F : Sta Z h O nm d v) {g : JFrame} (hg : g.method = m) (hd : decode c.code g.pc = .ok (.getstatic index, 3)) :
    ∃ T', Sd n0 p l e R s m args below meth c T' h k n ∧ ∀ target, Steps p.tables e below (T'.setTop { g with pc := g.pc + 3, stack := v :: g.stack }) target → Steps p.tables e below (T.setTop g) target := by
  obtain ⟨L, X, N, q⟩ := X
  obtain ⟨T', X', e', st⟩ := getS2 X hx hZ hown w via q F hg hd
  exact ⟨T', ⟨L, X', N, e'⟩, st⟩
theorem Sd.putF (X : Sd n0 p l e R s m args below meth c T h k n) (hx : p.tables.exec = Jvm.exec) (hZ : Z.Warmed39 s.vm) {own R0 O nm d host C : String} {index kk : Nat} {ty : FieldType} (hown : s.vm.findClass own = some m.cls) (w : (Cond.fieldLink own index R0 nm d).before a0 Z = true ∨ (Cond.fieldLinkNest own index R0 nm d host).before a0 Z = true) (via : Via Z R0 O nm d)
    {a : Addr} {v old : Value} (F : Fld Z h a O nm d old) (E : Exa Z h a C) (ga : n0 ≤ a) (L : (Cond.lays C O nm d).before a0 Z = true ∨ ((Cond.laysFinal C O nm d).before a0 Z = true ∧ own = O ∧ meth.name = "<init>")) (wi : (Cond.instantiable C kk).before a0 Z = true)
    (hty : parseFieldDescriptor d = some ty) (hnr : narrow ty v = v) (hf : fits ty v = true) {g : JFrame} (hg : g.method = m) {rest : List Value} (hs : g.stack = v :: .ref a :: rest) (hd : decode c.code g.pc = .ok (.putfield index, 3)) :
    ∃ T' h', Sd n0 p l e R s m args below meth c T' h' k n ∧ Wr h h' a (slotOf Z O nm d) v ∧ ∀ target, Steps p.tables e below (T'.setTop { g with pc := g.pc + 3, stack := rest }) target → Steps p.tables e below (T.setTop g) target := by
  obtain ⟨Lc, X, N, q⟩ := X
  obtain ⟨T', h', X', e', W, st⟩ := Jvm.RoadKit.putF X hx hZ hown w via q F E L wi hty hnr hf hg hs hd
  exact ⟨T', h', ⟨_, X', Fr.snoc X' N ga, e'⟩, W, st⟩
theorem Sd.putFN (X : Sd n0 p l e R s m args below meth c T h k n) (hx : p.tables.exec = Jvm.exec) (hZ : Z.Warmed39 s.vm) {own R0 O nm d C : String} {index kk : Nat} {ty : FieldType} (hown : s.vm.findClass own = some m.cls) (w : (Cond.fieldLink own index R0 nm d).before a0 Z = true) (via : Via Z R0 O nm d)
    {a : Addr} {v v' old : Value} (F : Fld Z h a O nm d old) (E : Exa Z h a C) (ga : n0 ≤ a) (L : (Cond.lays C O nm d).before a0 Z = true ∨ ((Cond.laysFinal C O nm d).before a0 Z = true ∧ own = O ∧ meth.name = "<init>")) (wi : (Cond.instantiable C kk).before a0 Z = true)
    (hty : parseFieldDescriptor d = some ty) (hnr : narrow ty v = v') (hf : fits ty v' = true) {g : JFrame} (hg : g.method = m) {rest : List Value} (hs : g.stack = v :: .ref a :: rest) (hd : decode c.code g.pc = .ok (.putfield index, 3)) :
    ∃ T' h', Sd n0 p l e R s m args below meth c T' h' k n ∧ Wr h h' a (slotOf Z O nm d) v' ∧ ∀ target, Steps p.tables e below (T'.setTop { g with pc := g.pc + 3, stack := rest }) target → Steps p.tables e below (T.setTop g) target := by
  obtain ⟨Lc, X, N, q⟩ := X
  obtain ⟨T', h', X', e', W, st⟩ := Jvm.RoadKit.putFN X hx hZ hown w via q F E L wi hty hnr hf hg hs hd
  exact ⟨T', h', ⟨_, X', Fr.snoc X' N ga, e'⟩, W, st⟩
theorem Sd.castY (X : Sd n0 p l e R s m args below meth c T h k n) (hx : p.tables.exec = Jvm.exec) (hZ : Z.Warmed39 s.vm) {own K : String} {index : Nat} (hown : s.vm.findClass own = some m.cls) (w : (Cond.classLink own index K).before a0 Z = true) {a : Addr} (F : Ins Z h a K true)
    {g : JFrame} (hg : g.method = m) {rest : List Value} (hs : g.stack = .ref a :: rest) (hd : decode c.code g.pc = .ok (.checkcast index, 3)) :
    ∃ T', Sd n0 p l e R s m args below meth c T' h k n ∧ ∀ target, Steps p.tables e below (T'.setTop { g with pc := g.pc + 3 }) target → Steps p.tables e below (T.setTop g) target := by
  obtain ⟨L, X, N, q⟩ := X
  obtain ⟨T', X', e', st⟩ := Jvm.RoadKit.castY X hx hZ hown w q F hg hs hd
  exact ⟨T', ⟨L, X', N, e'⟩, st⟩
theorem Sd.instY (X : Sd n0 p l e R s m args below meth c T h k n) (hx : p.tables.exec = Jvm.exec) (hZ : Z.Warmed39 s.vm) {own K : String} {index : Nat} (hown : s.vm.findClass own = some m.cls) (w : (Cond.classLink own index K).before a0 Z = true) {a : Addr} (F : Ins Z h a K true)
    {g : JFrame} (hg : g.method = m) {rest : List Value} (hs : g.stack = .ref a :: rest) (hd : decode c.code g.pc = .ok (.instanceof index, 3)) :
    ∃ T', Sd n0 p l e R s m args below meth c T' h k n ∧ ∀ target, Steps p.tables e below (T'.setTop { g with pc := g.pc + 3, stack := .int 1 :: rest }) target → Steps p.tables e below (T.setTop g) target := by
  obtain ⟨L, X, N, q⟩ := X
  obtain ⟨T', X', e', st⟩ := Jvm.RoadKit.instY X hx hZ hown w q F hg hs hd
  exact ⟨T', ⟨L, X', N, e'⟩, st⟩
theorem Sd.instNull (X : Sd n0 p l e R s m args below meth c T h k n) (hx : p.tables.exec = Jvm.exec) {index : Nat} {g : JFrame} (hg : g.method = m) {rest : List Value} (hs : g.stack = .null :: rest) (hd : decode c.code g.pc = .ok (.instanceof index, 3)) :
    ∀ target, Steps p.tables e below (T.setTop { g with pc := g.pc + 3, stack := .int 0 :: rest }) target → Steps p.tables e below (T.setTop g) target := by
  obtain ⟨L, X, -⟩ := X; exact X.instanceofNull hx hg hs hd
theorem Sd.ldcInt (X : Sd n0 p l e R s m args below meth c T h k n) (hx : p.tables.exec = Jvm.exec) (hZ : Z.Warmed39 s.vm) {own : String} {index : Nat} {v : Int32} (hown : s.vm.findClass own = some m.cls) (w : (Cond.constant own index v).before a0 Z = true) {g : JFrame} (hg : g.method = m) (hd : decode c.code g.pc = .ok (.ldc index, 2)) :
    ∀ target, Steps p.tables e below (T.setTop { g with pc := g.pc + 2, stack := .int v :: g.stack }) target → Steps p.tables e below (T.setTop g) target := by
  obtain ⟨L, X, -⟩ := X; exact X.ldcInt hx hown (mvT hZ w) hg hd
theorem Sd.ldc2Long (X : Sd n0 p l e R s m args below meth c T h k n) (hx : p.tables.exec = Jvm.exec) (hZ : Z.Warmed39 s.vm) {own : String} {index : Nat} {v : Int64} (hown : s.vm.findClass own = some m.cls) (w : (Cond.constantLong own index v).before a0 Z = true) {g : JFrame} (hg : g.method = m) (hd : decode c.code g.pc = .ok (.ldc2_w index, 3)) :
    ∀ target, Steps p.tables e below (T.setTop { g with pc := g.pc + 3, stack := .long v :: g.stack }) target → Steps p.tables e below (T.setTop g) target := by
  obtain ⟨L, X, -⟩ := X; exact X.ldc2Long hx hown (mvT hZ w) hg hd
theorem Sd.acmp {g : JFrame} (X : Sd n0 p l e R s m args below meth c T h k n) (hx : p.tables.exec = Jvm.exec) (hg : g.method = m) {cd : ACond} {x y : Value} (h1 : x.isRef = true) (h2 : y.isRef = true) {rest : List Value} {o : Int} {pc0 pc' : Nat} {same : Bool} (hpc : g.pc = pc0)
    (hd : decode c.code g.pc = .ok (.if_acmp cd o, 3)) (hs : g.stack = y :: x :: rest) (hq : decide (x = y) = same) (ho : 0 ≤ (pc0 : Int) + o) (hp : pc' = if acV cd same = true then ((pc0 : Int) + o).toNat else pc0 + 3) :
    ∀ target, Steps p.tables e below (T.setTop { g with pc := pc', stack := rest }) target → Steps p.tables e below (T.setTop g) target := by
  obtain ⟨L, X, -⟩ := X; exact fun _ => Jvm.RoadKit.acmp X hx hg h1 h2 hpc hd hs hq ho hp
theorem Sd.getFR (X : Sd n0 p l e R s m args below meth c T h k n) (hx : p.tables.exec = Jvm.exec) (hZ : Z.Warmed39 s.vm) {own O nm d : String} {index : Nat} (hown : s.vm.findClass own = some m.cls) (w : (Cond.fieldRef own index O nm d).before a0 Z = true)
    {a : Addr} {v : Value} (F : Fld Z h a O nm d v) {g : JFrame} (hg : g.method = m) {rest : List Value} (hs : g.stack = .ref a :: rest) (hd : decode c.code g.pc = .ok (.getfield index, 3)) :
    ∀ target, Steps p.tables e below (T.setTop { g with pc := g.pc + 3, stack := v :: rest }) target → Steps p.tables e below (T.setTop g) target := by
  obtain ⟨L, X, N, q⟩ := X
  obtain ⟨cell, cf, kk, i, f, h1, h2, h3, h4, h5, h6, h7⟩ := F
  have hT : Z.Warmed39 T.vm := wtrans hZ X.warmed
  have w' := Cond.fieldRef_warmed39 hT w
  have hcur : (Z.setVm T.vm).vm.findClass own = some m.cls := by show T.vm.findClass own = _; rw [X.warmed.alike.findClass]; exact hown
  obtain ⟨c', k', i', f', e1, e2⟩ := Cond.fieldRef_spec hcur w'
  obtain ⟨k2, hi, -⟩ := State.fieldFound?_setVm (s := Z) hT.alike h2
  cases e1.symm.trans hi
  intro target hrest
  subst hg
  jvm_step X.here [hx, hd, getfield.wp_ready (e := e) (s := T) (f := g) X.here.top e2 h3 hs (by rw [q]; exact h1) h4 h7]
  exact hrest
/-! making -/
theorem Sd.newO (X : Sd n0 p l e R s m args below meth c T h k n) (hx : p.tables.exec = Jvm.exec) (hZ : Z.Warmed39 s.vm) {own C : String} {index sz k' n' : Nat} (hown : s.vm.findClass own = some m.cls) (w : (Cond.classLink own index C).before a0 Z = true) (wi : (Cond.instantiable C sz).before a0 Z = true) (wz : (Cond.initialized C).before a0 Z = true)
    {g : JFrame} (hg : g.method = m) (hd : decode c.code g.pc = .ok (.new index, 3)) (hk : k + 1 = k') (hn : n + sz = n') (hc : k' ≤ R.cells) (hl : n' ≤ R.slots) :
    ∃ T' h' a, Sd n0 p l e R s m args below meth c T' h' k' n' ∧ a = h.size ∧ Ext h h' ∧ Exa Z h' a C ∧ (∀ {O nm d : String} {ty : FieldType}, Laid Z a0 C O nm d → parseFieldDescriptor d = some ty → Fld Z h' a O nm d (defaultValue ty)) ∧
      ∀ target, Steps p.tables e below (T'.setTop { g with pc := g.pc + 3, stack := .ref a :: g.stack }) target → Steps p.tables e below (T.setTop g) target := by
  subst hk hn
  obtain ⟨L, X, N, q⟩ := X
  obtain ⟨T', h', X', e', E, A, D, -, st⟩ := Jvm.RoadKit.newO X hx hZ hown w wi wz q hg hd hc hl
  exact ⟨T', h', _, ⟨L, X', N, e'⟩, rfl, E, A, D, st⟩
theorem Sd.initO (X : Sd n0 p l e R s m args below meth c T h k n) (hx : p.tables.exec = Jvm.exec) (hZ : Z.Warmed39 s.vm) {own : String} {idx : Nat} (hown : s.vm.findClass own = some m.cls) (w1 : (Cond.methodLink own idx Lib.objectInit).before a0 Z = true) (w2 : (Cond.instanceMethod Lib.objectInit).before a0 Z = true)
    (w3 : (Cond.code Lib.objectInit ⟨#[0xb1]⟩ 1 none).before a0 Z = true) {g : JFrame} (hg : g.method = m) (hsize : g.locals.size = c.maxLocals) {a : Addr} {rest : List Value} (hs : g.stack = .ref a :: rest) (hd : decode c.code g.pc = .ok (.invokespecial idx, 3))
    (hf : 1 ≤ R.frames) (hl : 2 * g.monitorRoom + (rest.map fun v => v.category).sum + 12 ≤ R.locals) :
    ∃ T', Sd n0 p l e R s m args below meth c T' h k n ∧ ∀ target, Steps p.tables e below (T'.setTop { g with pc := g.pc + 3, stack := rest }) target → Steps p.tables e below (T.setTop g) target := by
  obtain ⟨L, X, N, q⟩ := X
  obtain ⟨T', X', e', st⟩ := Jvm.RoadKit.initO X hx hZ hown w1 w2 w3 q hg hsize hs hd hf (W := 2 * g.monitorRoom + (rest.map fun v => v.category).sum) (Nat.le_refl _) hl
  exact ⟨T', ⟨L, X', N, e'⟩, st⟩
/-- an array of n' places, place i holds f i -/
def Avf (Z : State) (h : Heap) (a : Addr) (kc : ClassId) (ty : FieldType) (sz : Nat) (f : Nat → Value) : Prop := ∃ cl : Cell, Arr Z h a cl ty ∧ cl.cls = kc ∧ cl.slots.size = sz ∧ sz < 2 ^ 31 ∧ ∀ i, i < sz → cl.slots[i]? = some (f i) ∧ fits ty (f i) = true
theorem Avf.lt {h : Heap} {a : Addr} {kc : ClassId} {ty : FieldType} {sz : Nat} {f : Nat → Value} (F : Avf Z h a kc ty sz f) : a < h.size := by obtain ⟨_, A, -⟩ := F; exact A.lt
theorem Avf.ext {h h' : Heap} {a : Addr} {kc : ClassId} {ty : FieldType} {sz : Nat} {f : Nat → Value} (F : Avf Z h a kc ty sz f) (E : Ext h h') : Avf Z h' a kc ty sz f := by obtain ⟨cl, A, r⟩ := F; exact ⟨cl, A.ext E, r⟩
theorem Avf.other {h h' : Heap} {a b : Addr} {kc : ClassId} {ty : FieldType} {sz sl : Nat} {f : Nat → Value} {v : Value} (F : Avf Z h b kc ty sz f) (W : Wr h h' a sl v) (q : b ≠ a) : Avf Z h' b kc ty sz f := by obtain ⟨cl, A, r⟩ := F; exact ⟨cl, A.other W q, r⟩
theorem Avf.keep {h h' : Heap} {a : Addr} {kc : ClassId} {ty : FieldType} {sz : Nat} {f : Nat → Value} {ws : List Addr} (F : Avf Z h a kc ty sz f) (K : Keep h h' ws) (q : a ∉ ws) : Avf Z h' a kc ty sz f := by obtain ⟨cl, A, r⟩ := F; exact ⟨cl, ⟨K.2.1 a cl A.1 q, A.2⟩, r⟩
theorem Avf.cong {h : Heap} {a : Addr} {kc : ClassId} {ty : FieldType} {sz : Nat} {f g : Nat → Value} (F : Avf Z h a kc ty sz f) (q : ∀ i, i < sz → f i = g i) : Avf Z h a kc ty sz g := by
  obtain ⟨cl, A, r1, r2, r3, r4⟩ := F; exact ⟨cl, A, r1, r2, r3, fun i hi => by rw [← q i hi]; exact r4 i hi⟩
theorem Avf.set {h h' : Heap} {a : Addr} {kc : ClassId} {ty : FieldType} {sz : Nat} {f : Nat → Value} {v : Value} {j : Nat} (F : Avf Z h a kc ty sz f) (W : Wr h h' a j v) (hv : fits ty v = true) : Avf Z h' a kc ty sz (fun i => if i = j then v else f i) := by
  obtain ⟨cl, A, r1, r2, r3, r4⟩ := F
  refine ⟨_, A.same W, r1, by rw [sz_set]; exact r2, r3, fun i hi => ?_⟩
  by_cases q : i = j
  · subst q; simp [Cell.setSlot, r2, hi, hv]
  · simp [Cell.setSlot, q, r4 i hi, Array.getElem?_setIfInBounds_ne (Ne.symm q)]
theorem Avf.of_arv {h : Heap} {a : Addr} {kc : ClassId} {ty : FieldType} {z : Int32} {vs : List Value} {dv : Value} (F : Arv Z h a kc ty z vs dv) : Avf Z h a kc ty z.toNatClampNeg (fun i => vs.getD i dv) := by
  obtain ⟨cl, A, r1, r2, r3, H, G⟩ := F
  exact ⟨cl, A, r1, r2, (back32 r3).2, fun i hi => ⟨H i (by rw [r2]; exact hi), G i (by rw [r2]; exact hi)⟩⟩
theorem Sd.newP (X : Sd n0 p l e R s m args below meth c T h k n) (hx : p.tables.exec = Jvm.exec) (hZ : Z.Warmed39 s.vm) {aty : ArrayType} (w : (Cond.arrayClass (newarray.typeOf aty)).before a0 Z = true) {g : JFrame} (hg : g.method = m) (hd : decode c.code g.pc = .ok (.newarray aty, 2)) {z : Int32} {rest : List Value} (hs : g.stack = .int z :: rest)
    (hz : ¬ z < 0) {sz cap k' n' : Nat} (hsz : z.toNatClampNeg = sz) (hcap : sz ≤ cap) (hb : cap * 8 ≤ 536870912) (hk : k + 1 = k') (hn : n + cap = n') (hc : k' ≤ R.cells) (hl : n' ≤ R.slots) {ad : String} (had : "[" ++ (newarray.typeOf aty).toString = ad) :
    ∃ T' h' kc a, Sd n0 p l e R s m args below meth c T' h' k' n' ∧ a = h.size ∧ Ext h h' ∧ Exa Z h' a ad ∧ Avf Z h' a kc (newarray.typeOf aty) sz (fun _ => defaultValue (newarray.typeOf aty)) ∧
      ∀ target, Steps p.tables e below (T'.setTop { g with pc := g.pc + 2, stack := .ref a :: rest }) target → Steps p.tables e below (T.setTop g) target := by
  subst hk hn hsz
  obtain ⟨L, X, N, q⟩ := X
  obtain ⟨T', h', kc, X', e', E, A, Ex, st⟩ := Jvm.RoadKit.newPE X hx hZ w q hg hd hs hz hcap hb hc hl had
  refine ⟨T', h', kc, _, ⟨L, X', N, e'⟩, rfl, E, Ex, ⟨_, A, rfl, sz_new _ _ _, (back32 hz).2, fun i hi => ⟨by simp [newA, hi], ?_⟩⟩, st⟩
  cases aty <;> rfl
theorem Sd.newR (X : Sd n0 p l e R s m args below meth c T h k n) (hx : p.tables.exec = Jvm.exec) (hZ : Z.Warmed39 s.vm) {own C : String} {index : Nat} (hown : s.vm.findClass own = some m.cls) (w1 : (Cond.classLink own index C).before a0 Z = true) (w2 : (Cond.arrayOver (.object C)).before a0 Z = true)
    {g : JFrame} (hg : g.method = m) (hd : decode c.code g.pc = .ok (.anewarray index, 3)) {z : Int32} {rest : List Value} (hs : g.stack = .int z :: rest)
    (hz : ¬ z < 0) {sz cap k' n' : Nat} (hsz : z.toNatClampNeg = sz) (hcap : sz ≤ cap) (hb : cap * 8 ≤ 536870912) (hk : k + 1 = k') (hn : n + cap = n') (hc : k' ≤ R.cells) (hl : n' ≤ R.slots) {ad : String} (had : "[" ++ (FieldType.object C).toString = ad) :
    ∃ T' h' kc a, Sd n0 p l e R s m args below meth c T' h' k' n' ∧ a = h.size ∧ Ext h h' ∧ Exa Z h' a ad ∧ Avf Z h' a kc (.object C) sz (fun _ => .null) ∧ Ovr Z kc C ∧
      ∀ target, Steps p.tables e below (T'.setTop { g with pc := g.pc + 3, stack := .ref a :: rest }) target → Steps p.tables e below (T.setTop g) target := by
  subst hk hn hsz
  obtain ⟨L, X, N, q⟩ := X
  obtain ⟨T', h', kc, X', e', E, A, Ex, O, st⟩ := Jvm.RoadKit.newRE X hx hZ hown w1 w2 q hg hd hs hz hcap hb hc hl had
  exact ⟨T', h', kc, _, ⟨L, X', N, e'⟩, rfl, E, Ex, ⟨_, A, rfl, sz_new _ _ _, (back32 hz).2, fun i hi => ⟨by simp [newA, hi, defaultValue], rfl⟩⟩, O, st⟩
theorem Sd.clone (X : Sd n0 p l e R s m args below meth c T h k n) (hx : p.tables.exec = Jvm.exec) (hZ : Z.Warmed39 s.vm) {own ad : String} {index : Nat} (hown : s.vm.findClass own = some m.cls)
    (w1 : (Cond.methodLink own index ⟨ad, "clone", "()Ljava/lang/Object;"⟩).before a0 Z = true) (w2 : (Cond.sameMethod ad "java/lang/Object" "clone" "()Ljava/lang/Object;").before a0 Z = true) (w3 : (Cond.native ⟨"java/lang/Object", "clone", "()Ljava/lang/Object;"⟩).before a0 Z = true)
    (w4 : (Cond.instanceMethod ⟨"java/lang/Object", "clone", "()Ljava/lang/Object;"⟩).before a0 Z = true) (w5 : (Cond.selects ad ⟨ad, "clone", "()Ljava/lang/Object;"⟩ ⟨"java/lang/Object", "clone", "()Ljava/lang/Object;"⟩).before a0 Z = true) (w6 : (Cond.castable ad "java/lang/Cloneable").before a0 Z = true)
    {a : Addr} {kc : ClassId} {ty : FieldType} {sz : Nat} {f : Nat → Value} (F : Avf Z h a kc ty sz f) (E : Exa Z h a ad) {g : JFrame} (hg : g.method = m) (hsize : g.locals.size = c.maxLocals) {rest : List Value} (hst : g.stack = .ref a :: rest) (hd : decode c.code g.pc = .ok (.invokevirtual index, 3))
    (hf : 1 ≤ R.frames) (hl : 2 * g.monitorRoom + (rest.map fun v => v.category).sum + 14 ≤ R.locals) {cap k' n' : Nat} (hcap : sz ≤ cap) (hk : k + 1 = k') (hn : n + cap = n') (hc : k' ≤ R.cells) (hs : n' ≤ R.slots) :
    ∃ T' h' b, Sd n0 p l e R s m args below meth c T' h' k' n' ∧ b = h.size ∧ Ext h h' ∧ Exa Z h' b ad ∧ Avf Z h' b kc ty sz f ∧ ∀ target, Steps p.tables e below (T'.setTop { g with pc := g.pc + 3, stack := .ref b :: rest }) target → Steps p.tables e below (T.setTop g) target := by
  subst hk hn
  obtain ⟨L, X, N, q⟩ := X
  obtain ⟨cl, A, r1, r2, r3, r4⟩ := F
  have FC : FitC Z cl := fitC_of A fun i hi v hv => by rw [(r4 i (r2 ▸ hi)).1] at hv; cases hv; exact (r4 i (r2 ▸ hi)).2
  obtain ⟨T', h', X', e', ex, A', E', st⟩ := cloneA X hx hZ hown w1 w2 w3 w4 w5 w6 q A E FC hg hsize hst hd hf (W := 2 * g.monitorRoom + (rest.map fun v => v.category).sum) (Nat.le_refl _) hl (by rw [r2]; exact hcap) hc hs
  exact ⟨T', h', _, ⟨L, X', N, e'⟩, rfl, ex, E', ⟨cloneOf cl, A', r1, r2, r3, r4⟩, st⟩
/-! arrays: length, load, store -/
theorem Sd.len (X : Sd n0 p l e R s m args below meth c T h k n) (hx : p.tables.exec = Jvm.exec) (hZ : Z.Warmed39 s.vm) {a : Addr} {kc : ClassId} {ty : FieldType} {sz : Nat} {f : Nat → Value} (F : Avf Z h a kc ty sz f) {z : Int32} (hz : sz.toInt32 = z)
    {g : JFrame} (hg : g.method = m) {rest : List Value} (hs : g.stack = .ref a :: rest) (hd : decode c.code g.pc = .ok (.arraylength, 1)) :
    ∀ target, Steps p.tables e below (T.setTop { g with pc := g.pc + 1, stack := .int z :: rest }) target → Steps p.tables e below (T.setTop g) target := by
  obtain ⟨L, X, -, q⟩ := X
  obtain ⟨cl, A, r1, r2, r3, r4⟩ := F
  intro t kt
  refine X.arraylength hx (by rw [q]; exact A.1) (State.isArrayOf_alike hZ.alike A.2.1) hg hs hd _ ?_
  rw [r2, hz]; exact kt
theorem inb {cl : Cell} {sz i : Nat} {j : Int32} (r2 : cl.slots.size = sz) (hj : ¬ j < 0) (hi : j.toNatClampNeg = i) (hlt : i < sz) : ¬ (j < 0 ∨ cl.slots.size ≤ j.toNatClampNeg) := fun q => q.elim hj fun q => by omega
theorem Sd.ldI (X : Sd n0 p l e R s m args below meth c T h k n) (hx : p.tables.exec = Jvm.exec) (hZ : Z.Warmed39 s.vm) {a : Addr} {kc : ClassId} {sz : Nat} {f : Nat → Value} (F : Avf Z h a kc .int sz f) {j : Int32} (hj : ¬ j < 0) {i : Nat} (hi : j.toNatClampNeg = i) (hlt : i < sz) {v : Value} (hv : f i = v)
    {g : JFrame} (hg : g.method = m) {rest : List Value} (hs : g.stack = .int j :: .ref a :: rest) (hd : decode c.code g.pc = .ok (.iaload, 1)) :
    ∀ target, Steps p.tables e below (T.setTop { g with pc := g.pc + 1, stack := v :: rest }) target → Steps p.tables e below (T.setTop g) target := by
  subst hv
  obtain ⟨L, X, -, q⟩ := X
  obtain ⟨cl, A, r1, r2, r3, r4⟩ := F
  exact X.iaload hx (by rw [q]; exact A.1) (State.isArrayOf_alike hZ.alike A.2.1) A.2.2 (inb r2 hj hi hlt) (by rw [hi]; exact (r4 i hlt).1) hg hs hd
theorem Sd.ldJ (X : Sd n0 p l e R s m args below meth c T h k n) (hx : p.tables.exec = Jvm.exec) (hZ : Z.Warmed39 s.vm) {a : Addr} {kc : ClassId} {sz : Nat} {f : Nat → Value} (F : Avf Z h a kc .long sz f) {j : Int32} (hj : ¬ j < 0) {i : Nat} (hi : j.toNatClampNeg = i) (hlt : i < sz) {v : Value} (hv : f i = v)
    {g : JFrame} (hg : g.method = m) {rest : List Value} (hs : g.stack = .int j :: .ref a :: rest) (hd : decode c.code g.pc = .ok (.laload, 1)) :
    ∀ target, Steps p.tables e below (T.setTop { g with pc := g.pc + 1, stack := v :: rest }) target → Steps p.tables e below (T.setTop g) target := by
  subst hv
  obtain ⟨L, X, -, q⟩ := X
  obtain ⟨cl, A, r1, r2, r3, r4⟩ := F
  exact X.laload hx (by rw [q]; exact A.1) (State.isArrayOf_alike hZ.alike A.2.1) A.2.2 (inb r2 hj hi hlt) (by rw [hi]; exact (r4 i hlt).1) hg hs hd
theorem Sd.ldC (X : Sd n0 p l e R s m args below meth c T h k n) (hx : p.tables.exec = Jvm.exec) (hZ : Z.Warmed39 s.vm) {a : Addr} {kc : ClassId} {sz : Nat} {f : Nat → Value} (F : Avf Z h a kc .char sz f) {j : Int32} (hj : ¬ j < 0) {i : Nat} (hi : j.toNatClampNeg = i) (hlt : i < sz) {v : Value} (hv : f i = v)
    {g : JFrame} (hg : g.method = m) {rest : List Value} (hs : g.stack = .int j :: .ref a :: rest) (hd : decode c.code g.pc = .ok (.caload, 1)) :
    ∀ target, Steps p.tables e below (T.setTop { g with pc := g.pc + 1, stack := v :: rest }) target → Steps p.tables e below (T.setTop g) target := by
  subst hv
  obtain ⟨L, X, -, q⟩ := X
  obtain ⟨cl, A, r1, r2, r3, r4⟩ := F
  exact X.caload hx (by rw [q]; exact A.1) (State.isArrayOf_alike hZ.alike A.2.1) A.2.2 (inb r2 hj hi hlt) (by rw [hi]; exact (r4 i hlt).1) hg hs hd
theorem Sd.ldB (X : Sd n0 p l e R s m args below meth c T h k n) (hx : p.tables.exec = Jvm.exec) (hZ : Z.Warmed39 s.vm) {a : Addr} {kc : ClassId} {sz : Nat} {f : Nat → Value} (F : Avf Z h a kc .byte sz f) {j : Int32} (hj : ¬ j < 0) {i : Nat} (hi : j.toNatClampNeg = i) (hlt : i < sz) {v : Value} (hv : f i = v)
    {g : JFrame} (hg : g.method = m) {rest : List Value} (hs : g.stack = .int j :: .ref a :: rest) (hd : decode c.code g.pc = .ok (.baload, 1)) :
    ∀ target, Steps p.tables e below (T.setTop { g with pc := g.pc + 1, stack := v :: rest }) target → Steps p.tables e below (T.setTop g) target := by
  subst hv
  obtain ⟨L, X, -, q⟩ := X
  obtain ⟨cl, A, r1, r2, r3, r4⟩ := F
  exact X.baloadBytes hx (by rw [q]; exact A.1) (State.isArrayOf_alike hZ.alike A.2.1) A.2.2 (inb r2 hj hi hlt) (by rw [hi]; exact (r4 i hlt).1) hg hs hd
theorem Sd.ldA (X : Sd n0 p l e R s m args below meth c T h k n) (hx : p.tables.exec = Jvm.exec) (hZ : Z.Warmed39 s.vm) {a : Addr} {kc : ClassId} {ty : FieldType} {sz : Nat} {f : Nat → Value} (F : Avf Z h a kc ty sz f) (hty : ty.isReference = true) {j : Int32} (hj : ¬ j < 0) {i : Nat} (hi : j.toNatClampNeg = i) (hlt : i < sz) {v : Value} (hv : f i = v)
    {g : JFrame} (hg : g.method = m) {rest : List Value} (hs : g.stack = .int j :: .ref a :: rest) (hd : decode c.code g.pc = .ok (.aaload, 1)) :
    ∀ target, Steps p.tables e below (T.setTop { g with pc := g.pc + 1, stack := v :: rest }) target → Steps p.tables e below (T.setTop g) target := by
  subst hv
  obtain ⟨L, X, -, q⟩ := X
  obtain ⟨cl, A, r1, r2, r3, r4⟩ := F
  exact X.aaload hx (by rw [q]; exact A.1) (State.isArrayOf_alike hZ.alike A.2.1) hty A.2.2 (inb r2 hj hi hlt) (by rw [hi]; exact (r4 i hlt).1) hg hs hd
theorem Sd.stI (X : Sd n0 p l e R s m args below meth c T h k n) (hx : p.tables.exec = Jvm.exec) (hZ : Z.Warmed39 s.vm) {a : Addr} {kc : ClassId} {sz : Nat} {f : Nat → Value} (F : Avf Z h a kc .int sz f) (ga : n0 ≤ a) {j x : Int32} (hj : ¬ j < 0) {i : Nat} (hi : j.toNatClampNeg = i) (hlt : i < sz)
    {g : JFrame} (hg : g.method = m) {rest : List Value} (hs : g.stack = .int x :: .int j :: .ref a :: rest) (hd : decode c.code g.pc = .ok (.iastore, 1)) :
    ∃ T' h', Sd n0 p l e R s m args below meth c T' h' k n ∧ Wr h h' a i (.int x) ∧ Avf Z h' a kc .int sz (fun t => if t = i then .int x else f t) ∧ ∀ target, Steps p.tables e below (T'.setTop { g with pc := g.pc + 1, stack := rest }) target → Steps p.tables e below (T.setTop g) target := by
  obtain ⟨L, X, N, q⟩ := X
  obtain ⟨cl, A, r1, r2, r3, r4⟩ := F
  obtain ⟨T', h', X', e', W, st⟩ := Jvm.RoadKit.stI X hx hZ q A (inb r2 hj hi hlt) hg hs hd
  subst hi
  exact ⟨T', h', ⟨_, X', Fr.snoc X' N ga, e'⟩, W, Avf.set ⟨cl, A, r1, r2, r3, r4⟩ W rfl, st⟩
theorem Sd.stJ (X : Sd n0 p l e R s m args below meth c T h k n) (hx : p.tables.exec = Jvm.exec) (hZ : Z.Warmed39 s.vm) {a : Addr} {kc : ClassId} {sz : Nat} {f : Nat → Value} (F : Avf Z h a kc .long sz f) (ga : n0 ≤ a) {j : Int32} {x : Int64} (hj : ¬ j < 0) {i : Nat} (hi : j.toNatClampNeg = i) (hlt : i < sz)
    {g : JFrame} (hg : g.method = m) {rest : List Value} (hs : g.stack = .long x :: .int j :: .ref a :: rest) (hd : decode c.code g.pc = .ok (.lastore, 1)) :
    ∃ T' h', Sd n0 p l e R s m args below meth c T' h' k n ∧ Wr h h' a i (.long x) ∧ Avf Z h' a kc .long sz (fun t => if t = i then .long x else f t) ∧ ∀ target, Steps p.tables e below (T'.setTop { g with pc := g.pc + 1, stack := rest }) target → Steps p.tables e below (T.setTop g) target := by
  obtain ⟨L, X, N, q⟩ := X
  obtain ⟨cl, A, r1, r2, r3, r4⟩ := F
  obtain ⟨T', h', X', e', W, st⟩ := Jvm.RoadKit.stJ X hx hZ q A (inb r2 hj hi hlt) hg hs hd
  subst hi
  exact ⟨T', h', ⟨_, X', Fr.snoc X' N ga, e'⟩, W, Avf.set ⟨cl, A, r1, r2, r3, r4⟩ W rfl, st⟩
theorem Sd.stB (X : Sd n0 p l e R s m args below meth c T h k n) (hx : p.tables.exec = Jvm.exec) (hZ : Z.Warmed39 s.vm) {a : Addr} {kc : ClassId} {sz : Nat} {f : Nat → Value} (F : Avf Z h a kc .byte sz f) (ga : n0 ≤ a) {j x : Int32} (hj : ¬ j < 0) {i : Nat} (hi : j.toNatClampNeg = i) (hlt : i < sz)
    {g : JFrame} (hg : g.method = m) {rest : List Value} (hs : g.stack = .int x :: .int j :: .ref a :: rest) (hd : decode c.code g.pc = .ok (.bastore, 1)) :
    ∃ T' h', Sd n0 p l e R s m args below meth c T' h' k n ∧ Wr h h' a i (.int x.toInt8.toInt32) ∧ Avf Z h' a kc .byte sz (fun t => if t = i then .int x.toInt8.toInt32 else f t) ∧ ∀ target, Steps p.tables e below (T'.setTop { g with pc := g.pc + 1, stack := rest }) target → Steps p.tables e below (T.setTop g) target := by
  obtain ⟨L, X, N, q⟩ := X
  obtain ⟨cl, A, r1, r2, r3, r4⟩ := F
  obtain ⟨T', h', X', e', W, st⟩ := Jvm.RoadKit.stB X hx hZ q A (inb r2 hj hi hlt) hg hs hd
  subst hi
  exact ⟨T', h', ⟨_, X', Fr.snoc X' N ga, e'⟩, W, Avf.set ⟨cl, A, r1, r2, r3, r4⟩ W (fits_nar_byte _), st⟩
theorem Sd.stC (X : Sd n0 p l e R s m args below meth c T h k n) (hx : p.tables.exec = Jvm.exec) (hZ : Z.Warmed39 s.vm) {a : Addr} {kc : ClassId} {sz : Nat} {f : Nat → Value} (F : Avf Z h a kc .char sz f) (ga : n0 ≤ a) {j x : Int32} (hj : ¬ j < 0) {i : Nat} (hi : j.toNatClampNeg = i) (hlt : i < sz)
    {g : JFrame} (hg : g.method = m) {rest : List Value} (hs : g.stack = .int x :: .int j :: .ref a :: rest) (hd : decode c.code g.pc = .ok (.castore, 1)) :
    ∃ T' h', Sd n0 p l e R s m args below meth c T' h' k n ∧ Wr h h' a i (.int (nar .char x)) ∧ Avf Z h' a kc .char sz (fun t => if t = i then .int (nar .char x) else f t) ∧ ∀ target, Steps p.tables e below (T'.setTop { g with pc := g.pc + 1, stack := rest }) target → Steps p.tables e below (T.setTop g) target := by
  obtain ⟨L, X, N, q⟩ := X
  obtain ⟨cl, A, r1, r2, r3, r4⟩ := F
  obtain ⟨T', h', X', e', W, st⟩ := Jvm.RoadKit.stC X hx hZ q A (inb r2 hj hi hlt) hg hs hd
  subst hi
  exact ⟨T', h', ⟨_, X', Fr.snoc X' N ga, e'⟩, W, Avf.set ⟨cl, A, r1, r2, r3, r4⟩ W (fits_nar_char _), st⟩
theorem Sd.newRA (X : Sd n0 p l e R s m args below meth c T h k n) (hx : p.tables.exec = Jvm.exec) (hZ : Z.Warmed39 s.vm) {own C : String} {ty : FieldType} {index : Nat} (hown : s.vm.findClass own = some m.cls) (hC : (FieldType.array ty).toString = C) (w1 : (Cond.classLink own index C).before a0 Z = true) (w2 : (Cond.arrayOver (.array ty)).before a0 Z = true)
    {g : JFrame} (hg : g.method = m) (hd : decode c.code g.pc = .ok (.anewarray index, 3)) {z : Int32} {rest : List Value} (hs : g.stack = .int z :: rest)
    (hz : ¬ z < 0) {sz cap k' n' : Nat} (hsz : z.toNatClampNeg = sz) (hcap : sz ≤ cap) (hb : cap * 8 ≤ 536870912) (hk : k + 1 = k') (hn : n + cap = n') (hc : k' ≤ R.cells) (hl : n' ≤ R.slots) {ad : String} (had : "[" ++ C = ad) :
    ∃ T' h' kc a, Sd n0 p l e R s m args below meth c T' h' k' n' ∧ a = h.size ∧ Ext h h' ∧ Exa Z h' a ad ∧ Avf Z h' a kc (.array ty) sz (fun _ => .null) ∧ OvrA Z kc ty C ∧
      ∀ target, Steps p.tables e below (T'.setTop { g with pc := g.pc + 3, stack := .ref a :: rest }) target → Steps p.tables e below (T.setTop g) target := by
  subst hk hn hsz
  obtain ⟨L, X, N, q⟩ := X
  obtain ⟨T', h', kc, X', e', E, A, Ex, O, st⟩ := Jvm.RoadKit.newRA X hx hZ hown hC w1 w2 q hg hd hs hz hcap hb hc hl had
  exact ⟨T', h', kc, _, ⟨L, X', N, e'⟩, rfl, E, Ex, ⟨_, A, rfl, sz_new _ _ _, (back32 hz).2, fun i hi => ⟨by simp [newA, hi, defaultValue], rfl⟩⟩, O, st⟩
theorem Sd.stR (X : Sd n0 p l e R s m args below meth c T h k n) (hx : p.tables.exec = Jvm.exec) (hZ : Z.Warmed39 s.vm) {a : Addr} {kc : ClassId} {ty : FieldType} {sz : Nat} {f : Nat → Value} (F : Avf Z h a kc ty sz f) (ga : n0 ≤ a) (hty : ty.isReference = true) {j : Int32} {v : Value} (hv : v.isRef = true) (St : Sto Z h a v) (hj : ¬ j < 0) {i : Nat} (hi : j.toNatClampNeg = i) (hlt : i < sz)
    {g : JFrame} (hg : g.method = m) {rest : List Value} (hs : g.stack = v :: .int j :: .ref a :: rest) (hd : decode c.code g.pc = .ok (.aastore, 1)) :
    ∃ T' h', Sd n0 p l e R s m args below meth c T' h' k n ∧ Wr h h' a i v ∧ Avf Z h' a kc ty sz (fun t => if t = i then v else f t) ∧ ∀ target, Steps p.tables e below (T'.setTop { g with pc := g.pc + 1, stack := rest }) target → Steps p.tables e below (T.setTop g) target := by
  obtain ⟨L, X, N, q⟩ := X
  obtain ⟨cl, A, r1, r2, r3, r4⟩ := F
  obtain ⟨T', h', X', e', W, st⟩ := Jvm.RoadKit.stR X hx hZ q A (inb r2 hj hi hlt) hty St hg hs hd
  subst hi
  have hf : fits ty v = true := by cases ty <;> first | (cases hty; done) | (cases v <;> first | rfl | (cases hv; done))
  exact ⟨T', h', ⟨_, X', Fr.snoc X' N ga, e'⟩, W, Avf.set ⟨cl, A, r1, r2, r3, r4⟩ W hf, st⟩
/-! calls -/
theorem Sd.callS (X : Sd n0 p l e R s m args below meth c T h k n) (hx : p.tables.exec = Jvm.exec) (hZ : Z.Warmed39 s.vm) {own : String} {index : Nat} {y : MethodName} {bytes : ByteArray} {maxL : Nat} {ret : Option FieldType} {rm : Room} {as' : Array Value} {Q : Option Value → Heap → Prop}
    (hown : s.vm.findClass own = some m.cls) (w1 : (Cond.methodLink own index y).before a0 Z = true) (w2 : (Cond.static y).before a0 Z = true) (w3 : (Cond.initialized y.cls).before a0 Z = true) (w4 : (Cond.code y bytes maxL ret).before a0 Z = true) (hy : y.cls ≠ "java/lang/invoke/MethodHandle" ∧ y.cls ≠ "java/lang/invoke/VarHandle")
    (hM : Met l Z n0 y bytes maxL ret [] rm as' h Q) {g : JFrame} (hg : g.method = m) (hsize : g.locals.size = c.maxLocals) {argsL rest : List Value} (hlen : ∀ sig, parseMethodDescriptor y.desc = some sig → argsL.length = sig.parameters.length)
    (hstack : g.stack = argsL.reverse ++ rest) (hd : decode c.code g.pc = .ok (.invokestatic index, 3)) (has : argsL.toArray = as') (hf : rm.frames + 1 ≤ R.frames) (hl : 2 * g.monitorRoom + (rest.map fun v => v.category).sum + (maxL + 11) + rm.locals ≤ R.locals)
    {k' n' : Nat} (hk : k + rm.cells = k') (hn : n + rm.slots = n') (hc : k' ≤ R.cells) (hs : n' ≤ R.slots) :
    ∃ v T' h', Sd n0 p l e R s m args below meth c T' h' k' n' ∧ Q v h' ∧ ∀ target, Steps p.tables e below (T'.setTop { g with pc := g.pc + 3, stack := v.toList ++ rest }) target → Steps p.tables e below (T.setTop g) target := by
  subst hk hn
  obtain ⟨L, X, N, q⟩ := X
  obtain ⟨v, _, ⟨T', L', k1, n1⟩, -, X', ⟨Lc, hQ, q1, q2, q3⟩, st⟩ := Jvm.LawKit.callS X hx (y := y) hown (mvT hZ w1) (mvT hZ w2) (mvT hZ w3) (mvT hZ w4) hy (backOf (Q := fun v h L => Q v h ∧ Fr n0 L) hM hZ w4 w3 hf hl) hg hsize hlen hstack (Nat.le_refl _) hd (fun _ _ => ⟨has, q, hc, hs⟩)
  dsimp only [Pt.U, Pt.locs, Pt.cells, Pt.slots] at X' q1 q2 q3 st hQ
  subst q1 q2 q3
  exact ⟨v, T', _, ⟨_, X', Fr.app N hQ.2, rfl⟩, hQ.1, st⟩
theorem Sd.callI (X : Sd n0 p l e R s m args below meth c T h k n) (hx : p.tables.exec = Jvm.exec) (hZ : Z.Warmed39 s.vm) {own : String} {index : Nat} {y : MethodName} {bytes : ByteArray} {maxL : Nat} {rm : Room} {as' : Array Value} {Q : Option Value → Heap → Prop} (hy1 : y.name = "<init>")
    (hown : s.vm.findClass own = some m.cls) (w1 : (Cond.methodLink own index y).before a0 Z = true) (w2 : (Cond.instanceMethod y).before a0 Z = true) (w3 : (Cond.initialized y.cls).before a0 Z = true) (w4 : (Cond.code y bytes maxL none).before a0 Z = true) (hy : y.cls ≠ "java/lang/invoke/MethodHandle" ∧ y.cls ≠ "java/lang/invoke/VarHandle")
    (hM : Met l Z n0 y bytes maxL none [] rm as' h Q) {g : JFrame} (hg : g.method = m) (hsize : g.locals.size = c.maxLocals) {a : Addr} {argsL rest : List Value} (hlen : ∀ sig, parseMethodDescriptor y.desc = some sig → argsL.length = sig.parameters.length)
    (hstack : g.stack = argsL.reverse ++ .ref a :: rest) (hd : decode c.code g.pc = .ok (.invokespecial index, 3)) (has : (.ref a :: argsL).toArray = as') (hf : rm.frames + 1 ≤ R.frames) (hl : 2 * g.monitorRoom + (rest.map fun v => v.category).sum + (maxL + 11) + rm.locals ≤ R.locals)
    {k' n' : Nat} (hk : k + rm.cells = k') (hn : n + rm.slots = n') (hc : k' ≤ R.cells) (hs : n' ≤ R.slots) :
    ∃ v T' h', Sd n0 p l e R s m args below meth c T' h' k' n' ∧ Q v h' ∧ ∀ target, Steps p.tables e below (T'.setTop { g with pc := g.pc + 3, stack := v.toList ++ rest }) target → Steps p.tables e below (T.setTop g) target := by
  subst hk hn
  obtain ⟨L, X, N, q⟩ := X
  obtain ⟨v, _, ⟨T', L', k1, n1⟩, -, X', ⟨Lc, hQ, q1, q2, q3⟩, st⟩ := X.specialBack hx (y := y) hy1 hown (mvT hZ w1) (mvT hZ w2) (mvT hZ w4) hy (backOf (Q := fun v h L => Q v h ∧ Fr n0 L) hM hZ w4 w3 hf hl) hg hsize (Steps.refl _) hlen hstack (Nat.le_refl _) hd (fun _ _ => ⟨has, q, hc, hs⟩)
  dsimp only [Pt.U, Pt.locs, Pt.cells, Pt.slots] at X' q1 q2 q3 st hQ
  subst q1 q2 q3
  exact ⟨v, T', _, ⟨_, X', Fr.app N hQ.2, rfl⟩, hQ.1, fun _ kt => st.trans kt⟩
theorem Sd.callV (X : Sd n0 p l e R s m args below meth c T h k n) (hx : p.tables.exec = Jvm.exec) (hZ : Z.Warmed39 s.vm) {own C : String} {index : Nat} {y z : MethodName} {bytes : ByteArray} {maxL : Nat} {ret : Option FieldType} {rm : Room} {as' : Array Value} {Q : Option Value → Heap → Prop}
    (hown : s.vm.findClass own = some m.cls) (w1 : (Cond.methodLink own index y).before a0 Z = true) (w2 : (Cond.declares y).before a0 Z = true) (hnf : NotFace s y) (w5 : (Cond.selects C y z).before a0 Z = true) (w6 : (Cond.instanceMethod z).before a0 Z = true) (w3 : (Cond.initialized z.cls).before a0 Z = true) (w4 : (Cond.code z bytes maxL ret).before a0 Z = true) (hy : y.cls ≠ "java/lang/invoke/MethodHandle" ∧ y.cls ≠ "java/lang/invoke/VarHandle")
    (hM : Met l Z n0 z bytes maxL ret [] rm as' h Q) {a : Addr} (E : Exa Z h a C) {g : JFrame} (hg : g.method = m) (hsize : g.locals.size = c.maxLocals) {argsL rest : List Value} (hlen : ∀ sig, parseMethodDescriptor y.desc = some sig → argsL.length = sig.parameters.length)
    (hstack : g.stack = argsL.reverse ++ .ref a :: rest) (hd : decode c.code g.pc = .ok (.invokevirtual index, 3)) (has : (.ref a :: argsL).toArray = as') (hf : rm.frames + 1 ≤ R.frames) (hl : 2 * g.monitorRoom + (rest.map fun v => v.category).sum + (maxL + 11) + rm.locals ≤ R.locals)
    {k' n' : Nat} (hk : k + rm.cells = k') (hn : n + rm.slots = n') (hc : k' ≤ R.cells) (hs : n' ≤ R.slots) :
    ∃ v T' h', Sd n0 p l e R s m args below meth c T' h' k' n' ∧ Q v h' ∧ ∀ target, Steps p.tables e below (T'.setTop { g with pc := g.pc + 3, stack := v.toList ++ rest }) target → Steps p.tables e below (T.setTop g) target := by
  subst hk hn
  obtain ⟨L, X, N, q⟩ := X
  obtain ⟨cB, kB, b1, b2, b3⟩ := isOf (T := T) hZ q E
  obtain ⟨v, _, ⟨T', L', k1, n1⟩, -, X', ⟨Lc, hQ, q1, q2, q3⟩, st⟩ := X.virtualBack hx (y := y) (z := z) hown (mvT hZ w1) (mvT hZ w2) hnf (mvT hZ w5) (mvT hZ w6) hy (backOf (Q := fun v h L => Q v h ∧ Fr n0 L) hM hZ w4 w3 hf hl) b1 b3 hg hsize (Steps.refl _) hlen hstack (Nat.le_refl _) hd (fun _ _ => ⟨has, q, hc, hs⟩)
  dsimp only [Pt.U, Pt.locs, Pt.cells, Pt.slots] at X' q1 q2 q3 st hQ
  subst q1 q2 q3
  exact ⟨v, T', _, ⟨_, X', Fr.app N hQ.2, rfl⟩, hQ.1, fun _ kt => st.trans kt⟩
theorem Sd.callP (X : Sd n0 p l e R s m args below meth c T h k n) (hx : p.tables.exec = Jvm.exec) (hZ : Z.Warmed39 s.vm) {own C : String} {index : Nat} {y : MethodName} {bytes : ByteArray} {maxL : Nat} {ret : Option FieldType} {rm : Room} {as' : Array Value} {Q : Option Value → Heap → Prop}
    (hown : s.vm.findClass own = some m.cls) (w1 : (Cond.methodLink own index y).before a0 Z = true) (w6 : (Cond.instanceMethod y).before a0 Z = true) (w5 : (Cond.selects y.cls y y).before a0 Z = true) (w7 : (Cond.privateMethod y).before a0 Z = true) (w3 : (Cond.initialized y.cls).before a0 Z = true) (w4 : (Cond.code y bytes maxL ret).before a0 Z = true) (hy : y.cls ≠ "java/lang/invoke/MethodHandle" ∧ y.cls ≠ "java/lang/invoke/VarHandle")
    (hM : Met l Z n0 y bytes maxL ret [] rm as' h Q) {a : Addr} (E : Exa Z h a C) {g : JFrame} (hg : g.method = m) (hsize : g.locals.size = c.maxLocals) {argsL rest : List Value} (hlen : ∀ sig, parseMethodDescriptor y.desc = some sig → argsL.length = sig.parameters.length)
    (hstack : g.stack = argsL.reverse ++ .ref a :: rest) (hd : decode c.code g.pc = .ok (.invokevirtual index, 3)) (has : (.ref a :: argsL).toArray = as') (hf : rm.frames + 1 ≤ R.frames) (hl : 2 * g.monitorRoom + (rest.map fun v => v.category).sum + (maxL + 11) + rm.locals ≤ R.locals)
    {k' n' : Nat} (hk : k + rm.cells = k') (hn : n + rm.slots = n') (hc : k' ≤ R.cells) (hs : n' ≤ R.slots) :
    ∃ v T' h', Sd n0 p l e R s m args below meth c T' h' k' n' ∧ Q v h' ∧ ∀ target, Steps p.tables e below (T'.setTop { g with pc := g.pc + 3, stack := v.toList ++ rest }) target → Steps p.tables e below (T.setTop g) target := by
  subst hk hn
  obtain ⟨L, X, N, q⟩ := X
  obtain ⟨cl, b1, b2⟩ := E.cell
  obtain ⟨v, _, ⟨T', L', k1, n1⟩, -, X', ⟨Lc, hQ, q1, q2, q3⟩, st⟩ := X.privateBack hx (y := y) hown (mvT hZ w1) (mvT hZ w6) (mvT hZ w5) (Cond.privateMethod_at (mvP hZ w7 (args := #[]))) (mvT hZ w4) hy (backOf (Q := fun v h L => Q v h ∧ Fr n0 L) hM hZ w4 w3 hf hl) hg hsize (Steps.refl _) (a := a) (by rw [q]; exact b1) b2 hlen hstack (Nat.le_refl _) hd (fun _ _ => ⟨has, q, hc, hs⟩)
  dsimp only [Pt.U, Pt.locs, Pt.cells, Pt.slots] at X' q1 q2 q3 st hQ
  subst q1 q2 q3
  exact ⟨v, T', _, ⟨_, X', Fr.app N hQ.2, rfl⟩, hQ.1, fun _ kt => st.trans kt⟩
theorem Sd.callU (X : Sd n0 p l e R s m args below meth c T h k n) (hx : p.tables.exec = Jvm.exec) (hZ : Z.Warmed39 s.vm) {own C owner : String} {index : Nat} {y z : MethodName} {bytes : ByteArray} {maxL : Nat} {ret : Option FieldType} {rm : Room} {as' : Array Value} {Q : Option Value → Heap → Prop}
    (hown : s.vm.findClass own = some m.cls) (w1 : (Cond.methodLink own index y).before a0 Z = true) (w2 : (Cond.sameMethod y.cls owner y.name y.desc).before a0 Z = true) (w7 : (Cond.declares ⟨owner, y.name, y.desc⟩).before a0 Z = true) (ho : owner ≠ "java/lang/invoke/MethodHandle" ∧ owner ≠ "java/lang/invoke/VarHandle") (w5 : (Cond.selects C y z).before a0 Z = true) (w6 : (Cond.instanceMethod z).before a0 Z = true) (w3 : (Cond.initialized z.cls).before a0 Z = true) (w4 : (Cond.code z bytes maxL ret).before a0 Z = true)
    (hM : Met l Z n0 z bytes maxL ret [] rm as' h Q) {a : Addr} (E : Exa Z h a C) {g : JFrame} (hg : g.method = m) (hsize : g.locals.size = c.maxLocals) {argsL rest : List Value} (hlen : ∀ sig, parseMethodDescriptor y.desc = some sig → argsL.length = sig.parameters.length)
    (hstack : g.stack = argsL.reverse ++ .ref a :: rest) (hd : decode c.code g.pc = .ok (.invokevirtual index, 3)) (has : (.ref a :: argsL).toArray = as') (hf : rm.frames + 1 ≤ R.frames) (hl : 2 * g.monitorRoom + (rest.map fun v => v.category).sum + (maxL + 11) + rm.locals ≤ R.locals)
    {k' n' : Nat} (hk : k + rm.cells = k') (hn : n + rm.slots = n') (hc : k' ≤ R.cells) (hs : n' ≤ R.slots) :
    ∃ v T' h', Sd n0 p l e R s m args below meth c T' h' k' n' ∧ Q v h' ∧ ∀ target, Steps p.tables e below (T'.setTop { g with pc := g.pc + 3, stack := v.toList ++ rest }) target → Steps p.tables e below (T.setTop g) target := by
  subst hk hn
  obtain ⟨L, X, N, q⟩ := X
  obtain ⟨cB, kB, b1, b2, b3⟩ := isOf (T := T) hZ q E
  obtain ⟨v, _, ⟨T', L', k1, n1⟩, -, X', ⟨Lc, hQ, q1, q2, q3⟩, st⟩ := X.virtualBackUp hx (x := y) (y := z) hown (mvT hZ w1) (mvT hZ w2) (mvT hZ w7) ho (mvT hZ w5) (mvT hZ w6) (backOf (Q := fun v h L => Q v h ∧ Fr n0 L) hM hZ w4 w3 hf hl) b1 b3 hg hsize (Steps.refl _) hlen hstack (Nat.le_refl _) hd (fun _ _ => ⟨has, q, hc, hs⟩)
  dsimp only [Pt.U, Pt.locs, Pt.cells, Pt.slots] at X' q1 q2 q3 st hQ
  subst q1 q2 q3
  exact ⟨v, T', _, ⟨_, X', Fr.app N hQ.2, rfl⟩, hQ.1, fun _ kt => st.trans kt⟩
theorem Sd.instNo (X : Sd n0 p l e R s m args below meth c T h k n) (hx : p.tables.exec = Jvm.exec) (hZ : Z.Warmed39 s.vm) {own K C : String} {index : Nat} (hown : s.vm.findClass own = some m.cls) (w : (Cond.classLink own index K).before a0 Z = true) {a : Addr} (E : Exa Z h a C) (F : ∃ c t, Z.vm.findClass C = some c ∧ Z.vm.findClass K = some t ∧ Z.vm.assignable c t = false)
    {g : JFrame} (hg : g.method = m) {rest : List Value} (hs : g.stack = .ref a :: rest) (hd : decode c.code g.pc = .ok (.instanceof index, 3)) :
    ∃ T', Sd n0 p l e R s m args below meth c T' h k n ∧ ∀ target, Steps p.tables e below (T'.setTop { g with pc := g.pc + 3, stack := .int 0 :: rest }) target → Steps p.tables e below (T.setTop g) target := by
  obtain ⟨L, X, N, q⟩ := X
  obtain ⟨T', X', e', st⟩ := Jvm.RoadKit.instNo X hx hZ hown w q E F hg hs hd
  exact ⟨T', ⟨L, X', N, e'⟩, st⟩
theorem ns_root {O K : String} {kk : Nat} (w : (Cond.noSuperclass O).before a0 Z = true) (wk : (Cond.instantiable K kk).before a0 Z = true) (hn : O ≠ K) : NS Z O K := by
  obtain ⟨c, k, h1, h2, h3, -, -⟩ := Cond.noSuperclass_spec w
  obtain ⟨t, k2, g1, -⟩ := Cond.instantiable_spec wk
  have ne := ids_ne h1 g1 hn
  refine ⟨c, t, h1, g1, fun fuel => ?_⟩
  cases fuel with
  | zero => rfl
  | succ f => simp [Vm.isSubclassAux, ne, h2, h3]
theorem ns_no {C K : String} {k1 k2 : Nat} (w : (Cond.instantiable C k1).before a0 Z = true) (wk : (Cond.instantiable K k2).before a0 Z = true) (n : NS Z C K) (hn : C ≠ K) : ∃ c t, Z.vm.findClass C = some c ∧ Z.vm.findClass K = some t ∧ Z.vm.assignable c t = false := by
  obtain ⟨c, t, h0, g0, n3⟩ := n
  obtain ⟨c', kc, h1, h2, h3, h4, -⟩ := Cond.instantiable_spec w
  obtain ⟨t', kt, g1, g2, g3, g4, -⟩ := Cond.instantiable_spec wk
  cases h0.symm.trans h1
  cases g0.symm.trans g1
  have ne := ids_ne h0 g0 hn
  refine ⟨c, t, h0, g0, ?_⟩
  have g5 : kt.isInterface = false := by simp at g4; exact g4.1
  show Z.vm.assignableAux (255 + 1) c t = false
  simp [Vm.assignableAux, ne, h2, g2, h3, g3, g5, Vm.isSubclass, n3]
theorem keep_ext {h h' : Heap} (K : Keep h h' []) : Ext h h' := ⟨K.1, fun x c q => K.2.1 x c q nin0⟩
theorem Exa.plain {h : Heap} {a : Addr} {C : String} (F : Exa Z h a C) : ∀ cell : Cell, h[a]? = some cell → cell.vm.isStatics = false := fun cell hc => by
  obtain ⟨c, k, h1, -, -, h4, -⟩ := F
  cases h1.symm.trans hc; exact h4
theorem Avf.plain {h : Heap} {a : Addr} {kc : ClassId} {ty : FieldType} {sz : Nat} {f : Nat → Value} (F : Avf Z h a kc ty sz f) : ∀ cell : Cell, h[a]? = some cell → cell.vm.isStatics = false := fun cell hc => by
  obtain ⟨cl, A, -⟩ := F
  cases A.1.symm.trans hc; exact Arr.plain A
theorem Sta.keepN {h h' : Heap} {C f d : String} {v : Value} {ws : List Addr} (F : Sta Z h C f d v) (K : Keep h h' ws) (q : ∀ x ∈ ws, ∀ cell : Cell, h[x]? = some cell → cell.vm.isStatics = false) : Sta Z h' C f d v := by
  obtain ⟨cf, i, k, fl, st, cell, h1, h2, h3, h4, h5, h6, h7⟩ := F
  exact ⟨cf, i, k, fl, st, cell, h1, h2, h3, h4, K.2.1 st cell h5 (fun z => by rw [q st z cell h5] at h6; cases h6), h6, h7⟩
/-! at the start -/
theorem sta_exa {args : Array Value} {C f d K : String} (hx : (Cond.exactly (.static C f d) K).value args Z none Z [] = some true) (wi : (Cond.initialized C).before args Z = true) (wl : (Cond.laysStatic C f d).before args Z = true) : ∃ a, (Term.static C f d).eval args Z none [] Z = some (.ref a) ∧ Sta Z Z.heap C f d (.ref a) ∧ Exa Z Z.heap a K := by
  obtain ⟨a, ev⟩ := exa_v hx
  exact ⟨a, ev, Sta.start ev (Or.inr ⟨wi, wl⟩), Exa.start ev hx⟩
theorem sta_arr {args : Array Value} {C f d : String} {ty : FieldType} (hx : (Cond.arrayOf (.static C f d) ty).value args Z none Z [] = some true) (wi : (Cond.initialized C).before args Z = true) (wl : (Cond.laysStatic C f d).before args Z = true) : ∃ a cl, (Term.static C f d).eval args Z none [] Z = some (.ref a) ∧ Sta Z Z.heap C f d (.ref a) ∧ Arr Z Z.heap a cl ty := by
  obtain ⟨a, ev⟩ := arr_v hx
  obtain ⟨cl, A⟩ := Arr.start ev hx
  exact ⟨a, cl, ev, Sta.start ev (Or.inr ⟨wi, wl⟩), A⟩
theorem int_of_eq {args : Array Value} {t : Term} {kk : Int32} (h : (Cond.eq t (.int kk)).value args Z none Z [] = some true) : t.eval args Z none [] Z = some (.int kk) := by
  obtain ⟨x, y, h1, h2, k1, k2⟩ := cmp_v (Or.inl h)
  cases (Option.some.inj h2 : Value.int kk = y)
  obtain ⟨z, rfl⟩ : ∃ z, x = .int z := k2
  have q : z = kk := by simpa [Cond.value, h1, Term.eval] using h
  rw [h1, q]
theorem fld_eq {args : Array Value} {t : Term} {C f d : String} {a : Addr} {kk : Int32} (ht : t.eval args Z none [] Z = some (.ref a)) (h : (Cond.eq (.field t C f d) (.int kk)).value args Z none Z [] = some true) : Fld Z Z.heap a C f d (.int kk) :=
  Fld.start ((fld_at ht).symm.trans (int_of_eq h))
theorem ref_of_eq {args : Array Value} {t u : Term} {a : Addr} (hu : u.eval args Z none [] Z = some (.ref a)) (h : (Cond.eq t u).value args Z none Z [] = some true) : t.eval args Z none [] Z = some (.ref a) := by
  obtain ⟨x, y, h1, h2, k1, k2⟩ := cmp_v (Or.inl h)
  cases (Option.some.inj (hu.symm.trans h2) : Value.ref a = y)
  have kx : x.isRef = true := k2.2
  rw [h1, gotT (eq_R h1 hu kx rfl) h]
theorem avf_len {args : Array Value} {t : Term} {a : Addr} {cl : Cell} {ty : FieldType} {z : Int32} {sz : Nat} (A : Arr Z Z.heap a cl ty) (ev : t.eval args Z none [] Z = some (.ref a)) (h : (Term.length t).eval args Z none [] Z = some (.int z)) (hz : z.toNatClampNeg = sz) : cl.slots.size = sz := by
  have ha : Z.arrayAt? a = some cl := A.fin (Vm.Alike.refl _)
  simp only [Term.eval, ev, ha, Option.bind_eq_bind, Option.bind_some] at h
  split at h
  · rename_i hl
    have e : cl.slots.size.toInt32 = z := by simpa using h
    rw [← hz, ← e]
    have q := len_toInt hl
    simp only [Int32.toNatClampNeg, q]; omega
  · cases h
theorem iremS {g : JFrame} {target : State} (X : Sd n0 p l e R s m args below meth c T h k n) (hx : p.tables.exec = Jvm.exec) (hg : g.method = m) {x y : Int32} {rest : List Value} (hd : decode c.code g.pc = .ok (.irem, 1)) (hs : g.stack = .int y :: .int x :: rest) (hy : y ≠ 0)
    (hr : Steps p.tables e below (T.setTop { g with pc := g.pc + 1, stack := .int (x % y) :: rest }) target) : Steps p.tables e below (T.setTop g) target := by
  obtain ⟨L, X, -⟩ := X; exact iremM X hx hg hd hs hy hr
end Sds
end Jvm.RoadKit
namespace Jvm.Pilot.@@N@@
open Jvm Jvm.ClassFile Sem Op Lib Jvm.Free Jvm.Stand Jvm.LawKit Jvm.RoadKit Bundle Jvm.Pilot.@@N@@.Jvm.D
theorem tw {a0 : Array Value} {Z : State} (hw : ∀ d ∈ tables_1, d.before a0 Z = true) (i : Nat) {d : Jvm.Cond} (h : tables_1[i]? = some d) : d.before a0 Z = true := hw _ (List.mem_of_getElem? h)
theorem own_c (x : Int32) : ¬ (255 : Int32) < (x &&& (255 : Int32)).toUInt32.toUInt16.toUInt32.toInt32 := by
  have q := c_mask x 255 8 (by decide) (by decide)
  rw [i2c_mask, Int32.lt_iff_toInt_lt, q]
  have e1 : (255 : Int32).toInt = 255 := rfl
  rw [e1]
  omega
theorem own_lim (x : Int32) : ∃ n : Int32, (1 : Int32) + ((x &&& (2147483647 : Int32)) % (10485760 : Int32)) = n ∧ 1 ≤ n.toInt ∧ n.toInt ≤ 10485760 := by
  have q := c_mask x 2147483647 31 (by decide) (by decide)
  have r := Int32.toInt_mod (x &&& (2147483647 : Int32)) 10485760
  have e3 : (10485760 : Int32).toInt = 10485760 := rfl
  rw [e3, Int.tmod_eq_emod_of_nonneg (by omega)] at r
  have a := c_iadd 1 ((x &&& (2147483647 : Int32)) % (10485760 : Int32))
  have b := rng32 ((1 : Int32) + ((x &&& (2147483647 : Int32)) % (10485760 : Int32)))
  have e1 : (1 : Int32).toInt = 1 := rfl
  rw [e1] at a
  refine ⟨_, rfl, ?_, ?_⟩ <;> omega
theorem d2_0 : decode jdk_43_method_3_code 0 = .ok (.iload_n 0, 1) := by decide +kernel
theorem d2_1 : decode jdk_43_method_3_code 1 = .ok (.sipush 255, 3) := by decide +kernel
theorem d2_4 : decode jdk_43_method_3_code 4 = .ok (.if_icmp .gt 7, 3) := by decide +kernel
theorem d2_7 : decode jdk_43_method_3_code 7 = .ok (.iconst 1, 1) := by decide +kernel
theorem d2_8 : decode jdk_43_method_3_code 8 = .ok (.goto 4, 3) := by decide +kernel
theorem d2_12 : decode jdk_43_method_3_code 12 = .ok (.ireturn, 1) := by decide +kernel
abbrev Rm2 : Room := { frames := 0, cells := 0, slots := 0, locals := 0 }
theorem pn0 : plainName "java/lang/StringLatin1" = true := by first | (simp [plainName, overriddenIn]; done) | decide +kernel
set_option maxRecDepth 65536 in
set_option maxHeartbeats 40000000 in
theorem rm2 (l : Launch) (Z : State) (a0 : Array Value) (hw : ∀ d ∈ tables_1, d.before a0 Z = true) (ws : List Jvm.Cond) (p1 : Int32) (h0 : Heap) (n0 : Nat) (Z0 : n0 ≤ h0.size) (hp : ¬ (255 : Int32) < p1) :
    Met l Z n0 (⟨"java/lang/StringLatin1", "canEncode", "(C)Z"⟩ : MethodName) jdk_43_method_3_code 1 (some .boolean) ws Rm2 #[(.int p1)] h0 (fun v h => v = some (.int 1) ∧ h0 = h) := by
  refine enter (Ls := #[.val (.int p1)]) (plainFor_of_name pn0) (fun m => by first | rfl | (simp [entryFrame, mkF, argsToLocals, Value.category]; done)) ?_
  intro p e s m below meth c T0 hx hby hml hown hnm hret hlk hZ X0
  show Go p.tables e below _ (T0.setTop (mkF m 0 #[.val (.int p1)] []))
  refine Go.by (fun _ => XS.iloadN X0.here hx rfl (hb hby d2_0) rfl) ?_
  show Go p.tables e below _ (T0.setTop (mkF m 1 #[.val (.int p1)] [(.int p1)]))
  refine Go.by (fun _ => XS.sipush X0.here hx rfl (hb hby d2_1)) ?_
  show Go p.tables e below _ (T0.setTop (mkF m 4 #[.val (.int p1)] [(.int (255 : Int32)), (.int p1)]))
  refine Go.by (fun _ => XS.icmpNo X0.here hx rfl (hb hby d2_4) rfl (flt hp).2.2.1) ?_
  show Go p.tables e below _ (T0.setTop (mkF m 7 #[.val (.int p1)] []))
  refine Go.by (fun _ => XS.iconst X0.here hx rfl (hb hby d2_7)) ?_
  show Go p.tables e below _ (T0.setTop (mkF m 8 #[.val (.int p1)] [(.int (1 : Int32))]))
  refine Go.by (fun _ => XS.goto X0.here hx rfl (pc0 := 8) (pc' := 12) rfl (hb hby d2_8) (by decide) (by decide)) ?_
  show Go p.tables e below _ (T0.setTop (mkF m 12 #[.val (.int p1)] [(.int (1 : Int32))]))
  exact Go.retN X0 hx hlk (z' := (1 : Int32)) hret (by simp) (hb hby d2_12) rfl (by decide) (by decide) ⟨rfl, rfl⟩
theorem d3_0 : decode jdk_43_method_46_code 0 = .ok (.iconst 1, 1) := by decide +kernel
theorem d3_1 : decode jdk_43_method_46_code 1 = .ok (.newarray .byte, 2) := by decide +kernel
theorem d3_3 : decode jdk_43_method_46_code 3 = .ok (.dup, 1) := by decide +kernel
theorem d3_4 : decode jdk_43_method_46_code 4 = .ok (.iconst 0, 1) := by decide +kernel
theorem d3_5 : decode jdk_43_method_46_code 5 = .ok (.iload_n 0, 1) := by decide +kernel
theorem d3_6 : decode jdk_43_method_46_code 6 = .ok (.i2b, 1) := by decide +kernel
theorem d3_7 : decode jdk_43_method_46_code 7 = .ok (.bastore, 1) := by decide +kernel
theorem d3_8 : decode jdk_43_method_46_code 8 = .ok (.areturn, 1) := by decide +kernel
abbrev Rm3 : Room := { frames := 0, cells := 1, slots := 1, locals := 0 }
set_option maxRecDepth 65536 in
set_option maxHeartbeats 40000000 in
theorem rm3 (l : Launch) (Z : State) (a0 : Array Value) (hw : ∀ d ∈ tables_1, d.before a0 Z = true) (ws : List Jvm.Cond) (p1 : Int32) (h0 : Heap) (n0 : Nat) (Z0 : n0 ≤ h0.size) :
    Met l Z n0 (⟨"java/lang/StringLatin1", "toBytes", "(C)[B"⟩ : MethodName) jdk_43_method_46_code 1 (some (.array .byte)) ws Rm3 #[(.int p1)] h0 (fun v h => ∃ b kc, v = some (.ref b) ∧ h0.size ≤ b ∧ Keep h0 h [] ∧ Avf Z h b kc .byte 1 (fun _ => (.int (p1.toInt8.toInt32)))) := by
  refine enter (Ls := #[.val (.int p1)]) (plainFor_of_name pn0) (fun m => by first | rfl | (simp [entryFrame, mkF, argsToLocals, Value.category]; done)) ?_
  intro p e s m below meth c T0 hx hby hml hown hnm hret hlk hZ X0
  have K0 := Keep.refl h0 []
  show Go p.tables e below _ (T0.setTop (mkF m 0 #[.val (.int p1)] []))
  refine Go.by (fun _ => XS.iconst X0.here hx rfl (hb hby d3_0)) ?_
  show Go p.tables e below _ (T0.setTop (mkF m 1 #[.val (.int p1)] [(.int (1 : Int32))]))
  obtain ⟨T1, h1, kc1, b1, X1, g1, E1, A1, V1, st1⟩ := X0.newP hx hZ (tw hw 20 rfl) (g := (mkF m 1 #[.val (.int p1)] [(.int (1 : Int32))])) rfl (hb hby d3_1) rfl (by decide) (sz := 1) (cap := 1) (k' := 1) (n' := 1) rfl (Nat.le_refl _) (by decide) rfl rfl (by decide) (by decide) (ad := "[B") (by decide)
  have g_b1 : n0 ≤ b1 := by rw [g1]; exact Z0
  have sz_b1 : h0.size ≤ b1 := by rw [g1]; exact K0.1
  have f2_7 := K0.ext E1
  have Zs2 : n0 ≤ h1.size := Nat.le_trans Z0 E1.1
  refine Go.by st1 ?_
  show Go p.tables e below _ (T1.setTop (mkF m 3 #[.val (.int p1)] [(.ref b1)]))
  refine Go.by (fun _ => XS.dup X1.here hx rfl (hb hby d3_3) rfl rfl) ?_
  show Go p.tables e below _ (T1.setTop (mkF m 4 #[.val (.int p1)] [(.ref b1), (.ref b1)]))
  refine Go.by (fun _ => XS.iconst X1.here hx rfl (hb hby d3_4)) ?_
  show Go p.tables e below _ (T1.setTop (mkF m 5 #[.val (.int p1)] [(.int (0 : Int32)), (.ref b1), (.ref b1)]))
  refine Go.by (fun _ => XS.iloadN X1.here hx rfl (hb hby d3_5) rfl) ?_
  show Go p.tables e below _ (T1.setTop (mkF m 6 #[.val (.int p1)] [(.int p1), (.int (0 : Int32)), (.ref b1), (.ref b1)]))
  refine Go.by (fun _ => XS.i2b X1.here hx rfl (hb hby d3_6) rfl) ?_
  show Go p.tables e below _ (T1.setTop (mkF m 7 #[.val (.int p1)] [(.int (p1.toInt8.toInt32)), (.int (0 : Int32)), (.ref b1), (.ref b1)]))
  obtain ⟨T3, h3, X3, W3, V3, st3⟩ := X1.stB hx hZ V1 g_b1 (by decide) (i := 0) rfl (by decide) (g := (mkF m 7 #[.val (.int p1)] [(.int (p1.toInt8.toInt32)), (.int (0 : Int32)), (.ref b1), (.ref b1)])) rfl rfl (hb hby d3_7)
  have f4_20 := f2_7.wr W3 (Or.inr sz_b1)
  have f4_21 := A1.wr W3
  have Zs4 : n0 ≤ h3.size := by rw [W3.size]; exact Zs2
  refine Go.by st3 ?_
  show Go p.tables e below _ (T3.setTop (mkF m 8 #[.val (.int p1)] [(.ref b1)]))
  refine Go.retA X3 hx hlk hret rfl rfl (hb hby d3_8) (by decide) (by decide) ?_
  refine ⟨b1, kc1, rfl, sz_b1, f4_20, Avf.cong V3 (fun i hi => ?_)⟩
  match i, hi with
  | 0, _ => simp
theorem d4_0 : decode jdk_42_method_151_code 0 = .ok (.aload_n 0, 1) := by decide +kernel
theorem d4_1 : decode jdk_42_method_151_code 1 = .ok (.invokespecial 1, 3) := by decide +kernel
theorem d4_4 : decode jdk_42_method_151_code 4 = .ok (.aload_n 0, 1) := by decide +kernel
theorem d4_5 : decode jdk_42_method_151_code 5 = .ok (.aload_n 1, 1) := by decide +kernel
theorem d4_6 : decode jdk_42_method_151_code 6 = .ok (.putfield 9, 3) := by decide +kernel
theorem d4_9 : decode jdk_42_method_151_code 9 = .ok (.aload_n 0, 1) := by decide +kernel
theorem d4_10 : decode jdk_42_method_151_code 10 = .ok (.iload_n 2, 1) := by decide +kernel
theorem d4_11 : decode jdk_42_method_151_code 11 = .ok (.putfield 15, 3) := by decide +kernel
theorem d4_14 : decode jdk_42_method_151_code 14 = .ok (.return_, 1) := by decide +kernel
abbrev Rm4 : Room := { frames := 1, cells := 0, slots := 0, locals := 12 }
theorem pn1 : plainName "java/lang/String" = true := by first | (simp [plainName, overriddenIn]; done) | decide +kernel
set_option maxRecDepth 65536 in
set_option maxHeartbeats 40000000 in
theorem rm4 (l : Launch) (Z : State) (a0 : Array Value) (hw : ∀ d ∈ tables_1, d.before a0 Z = true) (ws : List Jvm.Cond) (a1 : Addr) (a2 : Addr) (h0 : Heap) (n0 : Nat) (Z0 : n0 ≤ h0.size) (E_a1 : Exa Z h0 a1 "java/lang/String") (g_a1 : n0 ≤ a1) (Fv : Fld Z h0 a1 "java/lang/String" "value" "[B" .null) (Fc : Fld Z h0 a1 "java/lang/String" "coder" "B" (.int (0 : Int32))) :
    Met l Z n0 (⟨"java/lang/String", "<init>", "([BB)V"⟩ : MethodName) jdk_42_method_151_code 3 none ws Rm4 #[(.ref a1), (.ref a2), (.int (0 : Int32))] h0 (fun v h => v = none ∧ Keep h0 h [a1] ∧ Exa Z h a1 "java/lang/String" ∧ Fld Z h a1 "java/lang/String" "value" "[B" (.ref a2) ∧ Fld Z h a1 "java/lang/String" "coder" "B" (.int (0 : Int32))) := by
  refine enter (Ls := #[.val (.ref a1), .val (.ref a2), .val (.int (0 : Int32))]) (plainFor_of_name pn1) (fun m => by first | rfl | (simp [entryFrame, mkF, argsToLocals, Value.category]; done)) ?_
  intro p e s m below meth c T0 hx hby hml hown hnm hret hlk hZ X0
  have K0 := Keep.refl h0 [a1]
  show Go p.tables e below _ (T0.setTop (mkF m 0 #[.val (.ref a1), .val (.ref a2), .val (.int (0 : Int32))] []))
  refine Go.by (fun _ => XS.aloadN X0.here hx rfl (hb hby d4_0) rfl rfl) ?_
  show Go p.tables e below _ (T0.setTop (mkF m 1 #[.val (.ref a1), .val (.ref a2), .val (.int (0 : Int32))] [(.ref a1)]))
  obtain ⟨T1, X1, st1⟩ := X0.initO hx hZ hown (tw hw 25 rfl) (tw hw 26 rfl) (tw hw 27 rfl) (g := (mkF m 1 #[.val (.ref a1), .val (.ref a2), .val (.int (0 : Int32))] [(.ref a1)])) rfl (by rw [hml]; rfl) rfl (hb hby d4_1) (by decide) (Nat.le_of_ble_eq_true rfl)
  refine Go.by st1 ?_
  show Go p.tables e below _ (T1.setTop (mkF m 4 #[.val (.ref a1), .val (.ref a2), .val (.int (0 : Int32))] []))
  refine Go.by (fun _ => XS.aloadN X1.here hx rfl (hb hby d4_4) rfl rfl) ?_
  show Go p.tables e below _ (T1.setTop (mkF m 5 #[.val (.ref a1), .val (.ref a2), .val (.int (0 : Int32))] [(.ref a1)]))
  refine Go.by (fun _ => XS.aloadN X1.here hx rfl (hb hby d4_5) rfl rfl) ?_
  show Go p.tables e below _ (T1.setTop (mkF m 6 #[.val (.ref a1), .val (.ref a2), .val (.int (0 : Int32))] [(.ref a2), (.ref a1)]))
  obtain ⟨T2, h2, X2, W2, st2⟩ := X1.putF hx hZ hown (host := "") (Or.inl (tw hw 28 rfl)) Via.refl Fv E_a1 g_a1 (Or.inr ⟨(tw hw 29 rfl), rfl, hnm⟩) (tw hw 16 rfl) (ty := (.array .byte)) (by decide) rfl rfl (g := (mkF m 6 #[.val (.ref a1), .val (.ref a2), .val (.int (0 : Int32))] [(.ref a2), (.ref a1)])) rfl rfl (hb hby d4_6)
  have Fw2 := Fv.same W2
  have f3_13 := E_a1.wr W2
  have f3_14 := Fc.other W2 (Or.inr (slot_ne (Or.inr (tw hw 31 rfl)) (Or.inr (tw hw 29 rfl)) (by decide) (t := .byte) (t' := (.array .byte)) (by decide) (by decide)))
  have f3_15 := K0.wr W2 (Or.inl (List.mem_of_getElem? (i := 0) rfl))
  have Zs3 : n0 ≤ h2.size := by rw [W2.size]; exact Z0
  refine Go.by st2 ?_
  show Go p.tables e below _ (T2.setTop (mkF m 9 #[.val (.ref a1), .val (.ref a2), .val (.int (0 : Int32))] []))
  refine Go.by (fun _ => XS.aloadN X2.here hx rfl (hb hby d4_9) rfl rfl) ?_
  show Go p.tables e below _ (T2.setTop (mkF m 10 #[.val (.ref a1), .val (.ref a2), .val (.int (0 : Int32))] [(.ref a1)]))
  refine Go.by (fun _ => XS.iloadN X2.here hx rfl (hb hby d4_10) rfl) ?_
  show Go p.tables e below _ (T2.setTop (mkF m 11 #[.val (.ref a1), .val (.ref a2), .val (.int (0 : Int32))] [(.int (0 : Int32)), (.ref a1)]))
  obtain ⟨T4, h4, X4, W4, st4⟩ := X2.putFN hx hZ hown (tw hw 30 rfl) Via.refl f3_14 f3_13 g_a1 (Or.inr ⟨(tw hw 31 rfl), rfl, hnm⟩) (tw hw 16 rfl) (ty := .byte) (v' := (.int (0 : Int32))) (by decide) rfl rfl (g := (mkF m 11 #[.val (.ref a1), .val (.ref a2), .val (.int (0 : Int32))] [(.int (0 : Int32)), (.ref a1)])) rfl rfl (hb hby d4_11)
  have Fw4 := f3_14.same W4
  have f5_25 := f3_13.wr W4
  have f5_26 := Fw2.other W4 (Or.inr (slot_ne (Or.inr (tw hw 29 rfl)) (Or.inr (tw hw 31 rfl)) (by decide) (t := (.array .byte)) (t' := .byte) (by decide) (by decide)))
  have f5_27 := f3_15.wr W4 (Or.inl (List.mem_of_getElem? (i := 0) rfl))
  have Zs5 : n0 ≤ h4.size := by rw [W4.size]; exact Zs3
  refine Go.by st4 ?_
  show Go p.tables e below _ (T4.setTop (mkF m 14 #[.val (.ref a1), .val (.ref a2), .val (.int (0 : Int32))] []))
  exact Go.ret0 X4 hx hlk hret (hb hby d4_14) (by decide) (by decide) ⟨rfl, f5_27, f5_25, f5_26, Fw4⟩
theorem d1_0 : decode jdk_42_method_139_code 0 = .ok (.getstatic 38, 3) := by decide +kernel
theorem d1_3 : decode jdk_42_method_139_code 3 = .ok (.ifCond .eq 23, 3) := by decide +kernel
theorem d1_6 : decode jdk_42_method_139_code 6 = .ok (.iload_n 0, 1) := by decide +kernel
theorem d1_7 : decode jdk_42_method_139_code 7 = .ok (.invokestatic 1015, 3) := by decide +kernel
theorem pd0 : parseMethodDescriptor "(C)Z" = some ⟨[.char], some .boolean⟩ := by decide +kernel
theorem d1_10 : decode jdk_42_method_139_code 10 = .ok (.ifCond .eq 16, 3) := by decide +kernel
theorem d1_13 : decode jdk_42_method_139_code 13 = .ok (.new 10, 3) := by decide +kernel
theorem d1_16 : decode jdk_42_method_139_code 16 = .ok (.dup, 1) := by decide +kernel
theorem d1_17 : decode jdk_42_method_139_code 17 = .ok (.iload_n 0, 1) := by decide +kernel
theorem d1_18 : decode jdk_42_method_139_code 18 = .ok (.invokestatic 1018, 3) := by decide +kernel
theorem pd1 : parseMethodDescriptor "(C)[B" = some ⟨[.char], some (.array .byte)⟩ := by decide +kernel
theorem d1_21 : decode jdk_42_method_139_code 21 = .ok (.iconst 0, 1) := by decide +kernel
theorem d1_22 : decode jdk_42_method_139_code 22 = .ok (.invokespecial 209, 3) := by decide +kernel
theorem pd2 : parseMethodDescriptor "([BB)V" = some ⟨[(.array .byte), .byte], none⟩ := by decide +kernel
theorem d1_25 : decode jdk_42_method_139_code 25 = .ok (.areturn, 1) := by decide +kernel
abbrev Rm1 : Room := { frames := 2, cells := 2, slots := 5, locals := 27 }
set_option maxRecDepth 65536 in
set_option maxHeartbeats 40000000 in
theorem rm1 (l : Launch) (Z : State) (a0 : Array Value) (hw : ∀ d ∈ tables_1, d.before a0 Z = true) (ws : List Jvm.Cond) (p1 : Int32) (cs : Int32) (h0 : Heap) (n0 : Nat) (Z0 : n0 ≤ h0.size) (O0 : Old Z n0 h0) (S_CS0 : Sta Z Z.heap "java/lang/String" "COMPACT_STRINGS" "Z" (.int cs)) (hcs : ¬ cs = 0) (hp : ¬ (255 : Int32) < p1) :
    Met l Z n0 (⟨"java/lang/String", "valueOf", "(C)Ljava/lang/String;"⟩ : MethodName) jdk_42_method_139_code 1 (some (.object "java/lang/String")) ws Rm1 #[(.int p1)] h0 (fun v h => ∃ r b kc, v = some (.ref r) ∧ h0.size ≤ r ∧ h0.size ≤ b ∧ Keep h0 h [] ∧ Exa Z h r "java/lang/String" ∧ Fld Z h r "java/lang/String" "value" "[B" (.ref b) ∧ Fld Z h r "java/lang/String" "coder" "B" (.int (0 : Int32)) ∧ Avf Z h b kc .byte 1 (fun _ => (.int (p1.toInt8.toInt32)))) := by
  refine enter (Ls := #[.val (.int p1)]) (plainFor_of_name pn1) (fun m => by first | rfl | (simp [entryFrame, mkF, argsToLocals, Value.category]; done)) ?_
  intro p e s m below meth c T0 hx hby hml hown hnm hret hlk hZ X0
  have S_CS := S_CS0.ext O0.2
  have K0 := Keep.refl h0 []
  show Go p.tables e below _ (T0.setTop (mkF m 0 #[.val (.int p1)] []))
  obtain ⟨T1, X1, st1⟩ := X0.getS hx hZ hown (host := "") (Or.inl (tw hw 10 rfl)) Via.refl S_CS (g := (mkF m 0 #[.val (.int p1)] [])) rfl (hb hby d1_0)
  refine Go.by st1 ?_
  show Go p.tables e below _ (T1.setTop (mkF m 3 #[.val (.int p1)] [(.int cs)]))
  refine Go.by (fun _ => XS.ifNo X1.here hx rfl (hb hby d1_3) rfl ((if0 _ _).trans (feq hcs).1)) ?_
  show Go p.tables e below _ (T1.setTop (mkF m 6 #[.val (.int p1)] []))
  refine Go.by (fun _ => XS.iloadN X1.here hx rfl (hb hby d1_6) rfl) ?_
  show Go p.tables e below _ (T1.setTop (mkF m 7 #[.val (.int p1)] [(.int p1)]))
  obtain ⟨v2, T2, h2, X2, q2, st2⟩ := X1.callS hx hZ (y := (⟨"java/lang/StringLatin1", "canEncode", "(C)Z"⟩ : MethodName)) hown (tw hw 11 rfl) (tw hw 12 rfl) (tw hw 13 rfl) (tw hw 14 rfl) (by decide) (rm2 l Z a0 hw [] p1 h0 n0 Z0 hp) (g := (mkF m 7 #[.val (.int p1)] [(.int p1)])) rfl (by rw [hml]; rfl) (argsL := [(.int p1)]) (rest := []) (lenOf pd0 rfl) rfl (hb hby d1_7) rfl (by decide) (Nat.le_of_ble_eq_true rfl) (k' := 0) (n' := 0) rfl rfl (by decide) (by decide)
  refine Go.by st2 ?_
  obtain ⟨rfl, rfl⟩ := q2
  show Go p.tables e below _ (T2.setTop (mkF m 10 #[.val (.int p1)] [(.int (1 : Int32))]))
  refine Go.by (fun _ => XS.ifNo X2.here hx rfl (hb hby d1_10) rfl ((if0 _ _).trans (feq (by decide)).1)) ?_
  show Go p.tables e below _ (T2.setTop (mkF m 13 #[.val (.int p1)] []))
  obtain ⟨T3, h3, b3, X3, g3, E3, A3, D3, st3⟩ := X2.newO hx hZ hown (tw hw 15 rfl) (tw hw 16 rfl) (tw hw 8 rfl) (g := (mkF m 13 #[.val (.int p1)] [])) rfl (hb hby d1_13) (k' := 1) (n' := 4) rfl rfl (by decide) (by decide)
  have g_b3 : n0 ≤ b3 := by rw [g3]; exact Z0
  have sz_b3 : h0.size ≤ b3 := by rw [g3]; exact K0.1
  have f4_19 := S_CS.ext E3
  have f4_20 := K0.ext E3
  have Zs4 : n0 ≤ h3.size := Nat.le_trans Z0 E3.1
  have F3_value : Fld Z h3 b3 "java/lang/String" "value" "[B" .null := D3 (Or.inr (tw hw 29 rfl)) (ty := (.array .byte)) (by decide)
  have F3_coder : Fld Z h3 b3 "java/lang/String" "coder" "B" (.int (0 : Int32)) := D3 (Or.inr (tw hw 31 rfl)) (ty := .byte) (by decide)
  refine Go.by st3 ?_
  show Go p.tables e below _ (T3.setTop (mkF m 16 #[.val (.int p1)] [(.ref b3)]))
  refine Go.by (fun _ => XS.dup X3.here hx rfl (hb hby d1_16) rfl rfl) ?_
  show Go p.tables e below _ (T3.setTop (mkF m 17 #[.val (.int p1)] [(.ref b3), (.ref b3)]))
  refine Go.by (fun _ => XS.iloadN X3.here hx rfl (hb hby d1_17) rfl) ?_
  show Go p.tables e below _ (T3.setTop (mkF m 18 #[.val (.int p1)] [(.int p1), (.ref b3), (.ref b3)]))
  obtain ⟨v5, T5, h5, X5, q5, st5⟩ := X3.callS hx hZ (y := (⟨"java/lang/StringLatin1", "toBytes", "(C)[B"⟩ : MethodName)) hown (tw hw 17 rfl) (tw hw 18 rfl) (tw hw 13 rfl) (tw hw 19 rfl) (by decide) (rm3 l Z a0 hw [] p1 h3 n0 Zs4) (g := (mkF m 18 #[.val (.int p1)] [(.int p1), (.ref b3), (.ref b3)])) rfl (by rw [hml]; rfl) (argsL := [(.int p1)]) (rest := [(.ref b3), (.ref b3)]) (lenOf pd1 rfl) rfl (hb hby d1_18) rfl (by decide) (Nat.le_of_ble_eq_true rfl) (k' := 2) (n' := 5) rfl rfl (by decide) (by decide)
  refine Go.by st5 ?_
  obtain ⟨d5, kc5, rfl, sd5, K5, V5⟩ := q5
  have g_d5 : n0 ≤ d5 := Nat.le_trans Zs4 sd5
  have sz_d5 : h0.size ≤ d5 := Nat.le_trans f4_20.1 sd5
  have ne_b3_d5 : b3 ≠ d5 := Nat.ne_of_lt (Nat.lt_of_lt_of_le A3.lt sd5)
  have f6_36 := f4_19.ext (keep_ext K5)
  have f6_37 := f4_20.ext (keep_ext K5)
  have f6_38 := A3.ext (keep_ext K5)
  have f6_39 := F3_value.ext (keep_ext K5)
  have f6_40 := F3_coder.ext (keep_ext K5)
  have Zs6 : n0 ≤ h5.size := Nat.le_trans Zs4 (keep_ext K5).1
  show Go p.tables e below _ (T5.setTop (mkF m 21 #[.val (.int p1)] [(.ref d5), (.ref b3), (.ref b3)]))
  refine Go.by (fun _ => XS.iconst X5.here hx rfl (hb hby d1_21)) ?_
  show Go p.tables e below _ (T5.setTop (mkF m 22 #[.val (.int p1)] [(.int (0 : Int32)), (.ref d5), (.ref b3), (.ref b3)]))
  obtain ⟨v7, T7, h7, X7, q7, st7⟩ := X5.callI hx hZ (y := (⟨"java/lang/String", "<init>", "([BB)V"⟩ : MethodName)) rfl hown (tw hw 21 rfl) (tw hw 22 rfl) (tw hw 8 rfl) (tw hw 24 rfl) (by decide) (rm4 l Z a0 hw [] b3 d5 h5 n0 Zs6 f6_38 g_b3 f6_39 f6_40) (g := (mkF m 22 #[.val (.int p1)] [(.int (0 : Int32)), (.ref d5), (.ref b3), (.ref b3)])) rfl (by rw [hml]; rfl) (argsL := [(.ref d5), (.int (0 : Int32))]) (rest := [(.ref b3)]) (lenOf pd2 rfl) rfl (hb hby d1_22) rfl (by decide) (Nat.le_of_ble_eq_true rfl) (k' := 2) (n' := 5) rfl rfl (by decide) (by decide)
  refine Go.by st7 ?_
  obtain ⟨rfl, K7, Ex7, Fv7, Fc7⟩ := q7
  have f8_48 := Sta.keepN f6_36 K7 (allS f6_38.plain all0)
  have f8_49 := f6_37.trans K7 (allS (Or.inr sz_b3) all0)
  have f8_50 := f6_38.keep K7
  have f8_51 := Avf.keep V5 K7 (ninS (Ne.symm ne_b3_d5) nin0)
  have Zs8 : n0 ≤ h7.size := Nat.le_trans Zs6 K7.1
  show Go p.tables e below _ (T7.setTop (mkF m 25 #[.val (.int p1)] [(.ref b3)]))
  exact Go.retA X7 hx hlk hret rfl rfl (hb hby d1_25) (by decide) (by decide) ⟨b3, d5, kc5, rfl, sz_b3, sz_d5, f8_49, Ex7, Fv7, Fc7, f8_51⟩
theorem d9_0 : decode jdk_30_method_1_code 0 = .ok (.aload_n 0, 1) := by decide +kernel
theorem d9_1 : decode jdk_30_method_1_code 1 = .ok (.invokespecial 1, 3) := by decide +kernel
theorem d9_4 : decode jdk_30_method_1_code 4 = .ok (.return_, 1) := by decide +kernel
abbrev Rm9 : Room := { frames := 1, cells := 0, slots := 0, locals := 12 }
theorem pn2 : plainName "java/lang/Record" = true := by first | (simp [plainName, overriddenIn]; done) | decide +kernel
set_option maxRecDepth 65536 in
set_option maxHeartbeats 40000000 in
theorem rm9 (l : Launch) (Z : State) (a0 : Array Value) (hw : ∀ d ∈ tables_1, d.before a0 Z = true) (ws : List Jvm.Cond) (a1 : Addr) (h0 : Heap) (n0 : Nat) (Z0 : n0 ≤ h0.size) :
    Met l Z n0 (⟨"java/lang/Record", "<init>", "()V"⟩ : MethodName) jdk_30_method_1_code 1 none ws Rm9 #[(.ref a1)] h0 (fun v h => v = none ∧ h0 = h) := by
  refine enter (Ls := #[.val (.ref a1)]) (plainFor_of_name pn2) (fun m => by first | rfl | (simp [entryFrame, mkF, argsToLocals, Value.category]; done)) ?_
  intro p e s m below meth c T0 hx hby hml hown hnm hret hlk hZ X0
  show Go p.tables e below _ (T0.setTop (mkF m 0 #[.val (.ref a1)] []))
  refine Go.by (fun _ => XS.aloadN X0.here hx rfl (hb hby d9_0) rfl rfl) ?_
  show Go p.tables e below _ (T0.setTop (mkF m 1 #[.val (.ref a1)] [(.ref a1)]))
  obtain ⟨T1, X1, st1⟩ := X0.initO hx hZ hown (tw hw 48 rfl) (tw hw 26 rfl) (tw hw 27 rfl) (g := (mkF m 1 #[.val (.ref a1)] [(.ref a1)])) rfl (by rw [hml]; rfl) rfl (hb hby d9_1) (by decide) (Nat.le_of_ble_eq_true rfl)
  refine Go.by st1 ?_
  show Go p.tables e below _ (T1.setTop (mkF m 4 #[.val (.ref a1)] []))
  exact Go.ret0 X1 hx hlk hret (hb hby d9_4) (by decide) (by decide) ⟨rfl, rfl⟩
theorem d7_0 : decode jdk_32_method_1_code 0 = .ok (.getstatic 1, 3) := by decide +kernel
theorem d7_3 : decode jdk_32_method_1_code 3 = .ok (.astore_n 0, 1) := by decide +kernel
theorem d7_4 : decode jdk_32_method_1_code 4 = .ok (.aload_n 0, 1) := by decide +kernel
theorem d7_5 : decode jdk_32_method_1_code 5 = .ok (.areturn, 1) := by decide +kernel
abbrev Rm7 : Room := { frames := 0, cells := 0, slots := 0, locals := 0 }
theorem pn3 : plainName "java/util/Optional" = true := by first | (simp [plainName, overriddenIn]; done) | decide +kernel
set_option maxRecDepth 65536 in
set_option maxHeartbeats 40000000 in
theorem rm7 (l : Launch) (Z : State) (a0 : Array Value) (hw : ∀ d ∈ tables_1, d.before a0 Z = true) (ws : List Jvm.Cond) (ae : Addr) (h0 : Heap) (n0 : Nat) (Z0 : n0 ≤ h0.size) (O0 : Old Z n0 h0) (S_E0 : Sta Z Z.heap "java/util/Optional" "EMPTY" "Ljava/util/Optional;" (.ref ae)) :
    Met l Z n0 (⟨"java/util/Optional", "empty", "()Ljava/util/Optional;"⟩ : MethodName) jdk_32_method_1_code 1 (some (.object "java/util/Optional")) ws Rm7 #[] h0 (fun v h => v = some (.ref ae) ∧ h0 = h) := by
  refine enter (Ls := #[.unset]) (plainFor_of_name pn3) (fun m => by first | rfl | (simp [entryFrame, mkF, argsToLocals, Value.category]; done)) ?_
  intro p e s m below meth c T0 hx hby hml hown hnm hret hlk hZ X0
  have S_E := S_E0.ext O0.2
  show Go p.tables e below _ (T0.setTop (mkF m 0 #[.unset] []))
  obtain ⟨T1, X1, st1⟩ := X0.getS hx hZ hown (host := "") (Or.inl (tw hw 39 rfl)) Via.refl S_E (g := (mkF m 0 #[.unset] [])) rfl (hb hby d7_0)
  refine Go.by st1 ?_
  show Go p.tables e below _ (T1.setTop (mkF m 3 #[.unset] [(.ref ae)]))
  refine Go.by (fun _ => XS.astoreN X1.here hx rfl (hb hby d7_3) rfl rfl (l' := #[.val (.ref ae)]) rfl) ?_
  show Go p.tables e below _ (T1.setTop (mkF m 4 #[.val (.ref ae)] []))
  refine Go.by (fun _ => XS.aloadN X1.here hx rfl (hb hby d7_4) rfl rfl) ?_
  show Go p.tables e below _ (T1.setTop (mkF m 5 #[.val (.ref ae)] [(.ref ae)]))
  exact Go.retA X1 hx hlk hret rfl rfl (hb hby d7_5) (by decide) (by decide) ⟨rfl, rfl⟩
theorem d8_0 : decode prog_11_method_2_code 0 = .ok (.aload_n 0, 1) := by decide +kernel
theorem d8_1 : decode prog_11_method_2_code 1 = .ok (.invokespecial 1, 3) := by decide +kernel
theorem pd3 : parseMethodDescriptor "()V" = some ⟨[], none⟩ := by decide +kernel
theorem d8_4 : decode prog_11_method_2_code 4 = .ok (.aload_n 0, 1) := by decide +kernel
theorem d8_5 : decode prog_11_method_2_code 5 = .ok (.aload_n 1, 1) := by decide +kernel
theorem d8_6 : decode prog_11_method_2_code 6 = .ok (.putfield 7, 3) := by decide +kernel
theorem d8_9 : decode prog_11_method_2_code 9 = .ok (.aload_n 0, 1) := by decide +kernel
theorem d8_10 : decode prog_11_method_2_code 10 = .ok (.aload_n 2, 1) := by decide +kernel
theorem d8_11 : decode prog_11_method_2_code 11 = .ok (.putfield 13, 3) := by decide +kernel
theorem d8_14 : decode prog_11_method_2_code 14 = .ok (.aload_n 0, 1) := by decide +kernel
theorem d8_15 : decode prog_11_method_2_code 15 = .ok (.iload_n 3, 1) := by decide +kernel
theorem d8_16 : decode prog_11_method_2_code 16 = .ok (.putfield 17, 3) := by decide +kernel
theorem d8_19 : decode prog_11_method_2_code 19 = .ok (.aload_n 0, 1) := by decide +kernel
theorem d8_20 : decode prog_11_method_2_code 20 = .ok (.iload 4, 2) := by decide +kernel
theorem d8_22 : decode prog_11_method_2_code 22 = .ok (.putfield 21, 3) := by decide +kernel
theorem d8_25 : decode prog_11_method_2_code 25 = .ok (.aload_n 0, 1) := by decide +kernel
theorem d8_26 : decode prog_11_method_2_code 26 = .ok (.aload 5, 2) := by decide +kernel
theorem d8_28 : decode prog_11_method_2_code 28 = .ok (.putfield 25, 3) := by decide +kernel
theorem d8_31 : decode prog_11_method_2_code 31 = .ok (.return_, 1) := by decide +kernel
abbrev Rm8 : Room := { frames := 2, cells := 0, slots := 0, locals := 24 }
theorem pn4 : plainName "com/example/interlace/interlace/Column" = true := by first | (simp [plainName, overriddenIn]; done) | decide +kernel
set_option maxRecDepth 65536 in
set_option maxHeartbeats 40000000 in
theorem rm8 (l : Launch) (Z : State) (a0 : Array Value) (hw : ∀ d ∈ tables_1, d.before a0 Z = true) (ws : List Jvm.Cond) (a1 : Addr) (a2 : Addr) (a3 : Addr) (p4 : Int32) (p5 : Int32) (a6 : Addr) (h0 : Heap) (n0 : Nat) (Z0 : n0 ≤ h0.size) (E_a1 : Exa Z h0 a1 "com/example/interlace/interlace/Column") (g_a1 : n0 ≤ a1) (F_name : Fld Z h0 a1 "com/example/interlace/interlace/Column" "name" "Ljava/lang/String;" .null) (F_type : Fld Z h0 a1 "com/example/interlace/interlace/Column" "type" "Lcom/example/interlace/interlace/DataType;" .null) (F_maxLength : Fld Z h0 a1 "com/example/interlace/interlace/Column" "maxLength" "I" (.int (0 : Int32))) (F_notNull : Fld Z h0 a1 "com/example/interlace/interlace/Column" "notNull" "Z" (.int (0 : Int32))) (F_defaultExpression : Fld Z h0 a1 "com/example/interlace/interlace/Column" "defaultExpression" "Ljava/util/Optional;" .null) :
    Met l Z n0 (⟨"com/example/interlace/interlace/Column", "<init>", "(Ljava/lang/String;Lcom/example/interlace/interlace/DataType;IZLjava/util/Optional;)V"⟩ : MethodName) prog_11_method_2_code 6 none ws Rm8 #[(.ref a1), (.ref a2), (.ref a3), (.int p4), (.int p5), (.ref a6)] h0 (fun v h => v = none ∧ Keep h0 h [a1] ∧ Exa Z h a1 "com/example/interlace/interlace/Column" ∧ Fld Z h a1 "com/example/interlace/interlace/Column" "maxLength" "I" (.int p4)) := by
  refine enter (Ls := #[.val (.ref a1), .val (.ref a2), .val (.ref a3), .val (.int p4), .val (.int p5), .val (.ref a6)]) (plainFor_of_name pn4) (fun m => by first | rfl | (simp [entryFrame, mkF, argsToLocals, Value.category]; done)) ?_
  intro p e s m below meth c T0 hx hby hml hown hnm hret hlk hZ X0
  have K0 := Keep.refl h0 [a1]
  show Go p.tables e below _ (T0.setTop (mkF m 0 #[.val (.ref a1), .val (.ref a2), .val (.ref a3), .val (.int p4), .val (.int p5), .val (.ref a6)] []))
  refine Go.by (fun _ => XS.aloadN X0.here hx rfl (hb hby d8_0) rfl rfl) ?_
  show Go p.tables e below _ (T0.setTop (mkF m 1 #[.val (.ref a1), .val (.ref a2), .val (.ref a3), .val (.int p4), .val (.int p5), .val (.ref a6)] [(.ref a1)]))
  obtain ⟨v1, T1, h1, X1, q1, st1⟩ := X0.callI hx hZ (y := (⟨"java/lang/Record", "<init>", "()V"⟩ : MethodName)) rfl hown (tw hw 43 rfl) (tw hw 44 rfl) (tw hw 46 rfl) (tw hw 47 rfl) (by decide) (rm9 l Z a0 hw [] a1 h0 n0 Z0) (g := (mkF m 1 #[.val (.ref a1), .val (.ref a2), .val (.ref a3), .val (.int p4), .val (.int p5), .val (.ref a6)] [(.ref a1)])) rfl (by rw [hml]; rfl) (argsL := []) (rest := []) (lenOf pd3 rfl) rfl (hb hby d8_1) rfl (by decide) (Nat.le_of_ble_eq_true rfl) (k' := 0) (n' := 0) rfl rfl (by decide) (by decide)
  refine Go.by st1 ?_
  obtain ⟨rfl, rfl⟩ := q1
  show Go p.tables e below _ (T1.setTop (mkF m 4 #[.val (.ref a1), .val (.ref a2), .val (.ref a3), .val (.int p4), .val (.int p5), .val (.ref a6)] []))
  refine Go.by (fun _ => XS.aloadN X1.here hx rfl (hb hby d8_4) rfl rfl) ?_
  show Go p.tables e below _ (T1.setTop (mkF m 5 #[.val (.ref a1), .val (.ref a2), .val (.ref a3), .val (.int p4), .val (.int p5), .val (.ref a6)] [(.ref a1)]))
  refine Go.by (fun _ => XS.aloadN X1.here hx rfl (hb hby d8_5) rfl rfl) ?_
  show Go p.tables e below _ (T1.setTop (mkF m 6 #[.val (.ref a1), .val (.ref a2), .val (.ref a3), .val (.int p4), .val (.int p5), .val (.ref a6)] [(.ref a2), (.ref a1)]))
  obtain ⟨T2, h2, X2, W2, st2⟩ := X1.putF hx hZ hown (host := "") (Or.inl (tw hw 49 rfl)) Via.refl F_name E_a1 g_a1 (Or.inr ⟨(tw hw 50 rfl), rfl, hnm⟩) (tw hw 4 rfl) (ty := (.object "java/lang/String")) (by decide) rfl rfl (g := (mkF m 6 #[.val (.ref a1), .val (.ref a2), .val (.ref a3), .val (.int p4), .val (.int p5), .val (.ref a6)] [(.ref a2), (.ref a1)])) rfl rfl (hb hby d8_6)
  have Fw2 := F_name.same W2
  have f3_14 := E_a1.wr W2
  have f3_15 := F_type.other W2 (Or.inr (slot_ne (Or.inr (tw hw 52 rfl)) (Or.inr (tw hw 50 rfl)) (by decide) (t := (.object "com/example/interlace/interlace/DataType")) (t' := (.object "java/lang/String")) (by decide) (by decide)))
  have f3_16 := F_maxLength.other W2 (Or.inr (slot_ne (Or.inr (tw hw 54 rfl)) (Or.inr (tw hw 50 rfl)) (by decide) (t := .int) (t' := (.object "java/lang/String")) (by decide) (by decide)))
  have f3_17 := F_notNull.other W2 (Or.inr (slot_ne (Or.inr (tw hw 56 rfl)) (Or.inr (tw hw 50 rfl)) (by decide) (t := .boolean) (t' := (.object "java/lang/String")) (by decide) (by decide)))
  have f3_18 := F_defaultExpression.other W2 (Or.inr (slot_ne (Or.inr (tw hw 58 rfl)) (Or.inr (tw hw 50 rfl)) (by decide) (t := (.object "java/util/Optional")) (t' := (.object "java/lang/String")) (by decide) (by decide)))
  have f3_19 := K0.wr W2 (Or.inl (List.mem_of_getElem? (i := 0) rfl))
  have Zs3 : n0 ≤ h2.size := by rw [W2.size]; exact Z0
  refine Go.by st2 ?_
  show Go p.tables e below _ (T2.setTop (mkF m 9 #[.val (.ref a1), .val (.ref a2), .val (.ref a3), .val (.int p4), .val (.int p5), .val (.ref a6)] []))
  refine Go.by (fun _ => XS.aloadN X2.here hx rfl (hb hby d8_9) rfl rfl) ?_
  show Go p.tables e below _ (T2.setTop (mkF m 10 #[.val (.ref a1), .val (.ref a2), .val (.ref a3), .val (.int p4), .val (.int p5), .val (.ref a6)] [(.ref a1)]))
  refine Go.by (fun _ => XS.aloadN X2.here hx rfl (hb hby d8_10) rfl rfl) ?_
  show Go p.tables e below _ (T2.setTop (mkF m 11 #[.val (.ref a1), .val (.ref a2), .val (.ref a3), .val (.int p4), .val (.int p5), .val (.ref a6)] [(.ref a3), (.ref a1)]))
  obtain ⟨T4, h4, X4, W4, st4⟩ := X2.putF hx hZ hown (host := "") (Or.inl (tw hw 51 rfl)) Via.refl f3_15 f3_14 g_a1 (Or.inr ⟨(tw hw 52 rfl), rfl, hnm⟩) (tw hw 4 rfl) (ty := (.object "com/example/interlace/interlace/DataType")) (by decide) rfl rfl (g := (mkF m 11 #[.val (.ref a1), .val (.ref a2), .val (.ref a3), .val (.int p4), .val (.int p5), .val (.ref a6)] [(.ref a3), (.ref a1)])) rfl rfl (hb hby d8_11)
  have Fw4 := f3_15.same W4
  have f5_29 := f3_14.wr W4
  have f5_30 := Fw2.other W4 (Or.inr (slot_ne (Or.inr (tw hw 50 rfl)) (Or.inr (tw hw 52 rfl)) (by decide) (t := (.object "java/lang/String")) (t' := (.object "com/example/interlace/interlace/DataType")) (by decide) (by decide)))
  have f5_31 := f3_16.other W4 (Or.inr (slot_ne (Or.inr (tw hw 54 rfl)) (Or.inr (tw hw 52 rfl)) (by decide) (t := .int) (t' := (.object "com/example/interlace/interlace/DataType")) (by decide) (by decide)))
  have f5_32 := f3_17.other W4 (Or.inr (slot_ne (Or.inr (tw hw 56 rfl)) (Or.inr (tw hw 52 rfl)) (by decide) (t := .boolean) (t' := (.object "com/example/interlace/interlace/DataType")) (by decide) (by decide)))
  have f5_33 := f3_18.other W4 (Or.inr (slot_ne (Or.inr (tw hw 58 rfl)) (Or.inr (tw hw 52 rfl)) (by decide) (t := (.object "java/util/Optional")) (t' := (.object "com/example/interlace/interlace/DataType")) (by decide) (by decide)))
  have f5_34 := f3_19.wr W4 (Or.inl (List.mem_of_getElem? (i := 0) rfl))
  have Zs5 : n0 ≤ h4.size := by rw [W4.size]; exact Zs3
  refine Go.by st4 ?_
  show Go p.tables e below _ (T4.setTop (mkF m 14 #[.val (.ref a1), .val (.ref a2), .val (.ref a3), .val (.int p4), .val (.int p5), .val (.ref a6)] []))
  refine Go.by (fun _ => XS.aloadN X4.here hx rfl (hb hby d8_14) rfl rfl) ?_
  show Go p.tables e below _ (T4.setTop (mkF m 15 #[.val (.ref a1), .val (.ref a2), .val (.ref a3), .val (.int p4), .val (.int p5), .val (.ref a6)] [(.ref a1)]))
  refine Go.by (fun _ => XS.iloadN X4.here hx rfl (hb hby d8_15) rfl) ?_
  show Go p.tables e below _ (T4.setTop (mkF m 16 #[.val (.ref a1), .val (.ref a2), .val (.ref a3), .val (.int p4), .val (.int p5), .val (.ref a6)] [(.int p4), (.ref a1)]))
  obtain ⟨T6, h6, X6, W6, st6⟩ := X4.putF hx hZ hown (host := "") (Or.inl (tw hw 53 rfl)) Via.refl f5_31 f5_29 g_a1 (Or.inr ⟨(tw hw 54 rfl), rfl, hnm⟩) (tw hw 4 rfl) (ty := .int) (by decide) rfl rfl (g := (mkF m 16 #[.val (.ref a1), .val (.ref a2), .val (.ref a3), .val (.int p4), .val (.int p5), .val (.ref a6)] [(.int p4), (.ref a1)])) rfl rfl (hb hby d8_16)
  have Fw6 := f5_31.same W6
  have f7_44 := f5_29.wr W6
  have f7_45 := f5_30.other W6 (Or.inr (slot_ne (Or.inr (tw hw 50 rfl)) (Or.inr (tw hw 54 rfl)) (by decide) (t := (.object "java/lang/String")) (t' := .int) (by decide) (by decide)))
  have f7_46 := Fw4.other W6 (Or.inr (slot_ne (Or.inr (tw hw 52 rfl)) (Or.inr (tw hw 54 rfl)) (by decide) (t := (.object "com/example/interlace/interlace/DataType")) (t' := .int) (by decide) (by decide)))
  have f7_47 := f5_32.other W6 (Or.inr (slot_ne (Or.inr (tw hw 56 rfl)) (Or.inr (tw hw 54 rfl)) (by decide) (t := .boolean) (t' := .int) (by decide) (by decide)))
  have f7_48 := f5_33.other W6 (Or.inr (slot_ne (Or.inr (tw hw 58 rfl)) (Or.inr (tw hw 54 rfl)) (by decide) (t := (.object "java/util/Optional")) (t' := .int) (by decide) (by decide)))
  have f7_49 := f5_34.wr W6 (Or.inl (List.mem_of_getElem? (i := 0) rfl))
  have Zs7 : n0 ≤ h6.size := by rw [W6.size]; exact Zs5
  refine Go.by st6 ?_
  show Go p.tables e below _ (T6.setTop (mkF m 19 #[.val (.ref a1), .val (.ref a2), .val (.ref a3), .val (.int p4), .val (.int p5), .val (.ref a6)] []))
  refine Go.by (fun _ => XS.aloadN X6.here hx rfl (hb hby d8_19) rfl rfl) ?_
  show Go p.tables e below _ (T6.setTop (mkF m 20 #[.val (.ref a1), .val (.ref a2), .val (.ref a3), .val (.int p4), .val (.int p5), .val (.ref a6)] [(.ref a1)]))
  refine Go.by (fun _ => XS.iload X6.here hx rfl (hb hby d8_20) rfl) ?_
  show Go p.tables e below _ (T6.setTop (mkF m 22 #[.val (.ref a1), .val (.ref a2), .val (.ref a3), .val (.int p4), .val (.int p5), .val (.ref a6)] [(.int p5), (.ref a1)]))
  obtain ⟨T8, h8, X8, W8, st8⟩ := X6.putFN hx hZ hown (tw hw 55 rfl) Via.refl f7_47 f7_44 g_a1 (Or.inr ⟨(tw hw 56 rfl), rfl, hnm⟩) (tw hw 4 rfl) (ty := .boolean) (v' := (.int (nar .boolean p5))) (by decide) rfl (fits_nar_bool _) (g := (mkF m 22 #[.val (.ref a1), .val (.ref a2), .val (.ref a3), .val (.int p4), .val (.int p5), .val (.ref a6)] [(.int p5), (.ref a1)])) rfl rfl (hb hby d8_22)
  have Fw8 := f7_47.same W8
  have f9_59 := f7_44.wr W8
  have f9_60 := f7_45.other W8 (Or.inr (slot_ne (Or.inr (tw hw 50 rfl)) (Or.inr (tw hw 56 rfl)) (by decide) (t := (.object "java/lang/String")) (t' := .boolean) (by decide) (by decide)))
  have f9_61 := f7_46.other W8 (Or.inr (slot_ne (Or.inr (tw hw 52 rfl)) (Or.inr (tw hw 56 rfl)) (by decide) (t := (.object "com/example/interlace/interlace/DataType")) (t' := .boolean) (by decide) (by decide)))
  have f9_62 := Fw6.other W8 (Or.inr (slot_ne (Or.inr (tw hw 54 rfl)) (Or.inr (tw hw 56 rfl)) (by decide) (t := .int) (t' := .boolean) (by decide) (by decide)))
  have f9_63 := f7_48.other W8 (Or.inr (slot_ne (Or.inr (tw hw 58 rfl)) (Or.inr (tw hw 56 rfl)) (by decide) (t := (.object "java/util/Optional")) (t' := .boolean) (by decide) (by decide)))
  have f9_64 := f7_49.wr W8 (Or.inl (List.mem_of_getElem? (i := 0) rfl))
  have Zs9 : n0 ≤ h8.size := by rw [W8.size]; exact Zs7
  refine Go.by st8 ?_
  show Go p.tables e below _ (T8.setTop (mkF m 25 #[.val (.ref a1), .val (.ref a2), .val (.ref a3), .val (.int p4), .val (.int p5), .val (.ref a6)] []))
  refine Go.by (fun _ => XS.aloadN X8.here hx rfl (hb hby d8_25) rfl rfl) ?_
  show Go p.tables e below _ (T8.setTop (mkF m 26 #[.val (.ref a1), .val (.ref a2), .val (.ref a3), .val (.int p4), .val (.int p5), .val (.ref a6)] [(.ref a1)]))
  refine Go.by (fun _ => XS.aload X8.here hx rfl (hb hby d8_26) rfl rfl) ?_
  show Go p.tables e below _ (T8.setTop (mkF m 28 #[.val (.ref a1), .val (.ref a2), .val (.ref a3), .val (.int p4), .val (.int p5), .val (.ref a6)] [(.ref a6), (.ref a1)]))
  obtain ⟨T10, h10, X10, W10, st10⟩ := X8.putF hx hZ hown (host := "") (Or.inl (tw hw 57 rfl)) Via.refl f9_63 f9_59 g_a1 (Or.inr ⟨(tw hw 58 rfl), rfl, hnm⟩) (tw hw 4 rfl) (ty := (.object "java/util/Optional")) (by decide) rfl rfl (g := (mkF m 28 #[.val (.ref a1), .val (.ref a2), .val (.ref a3), .val (.int p4), .val (.int p5), .val (.ref a6)] [(.ref a6), (.ref a1)])) rfl rfl (hb hby d8_28)
  have Fw10 := f9_63.same W10
  have f11_74 := f9_59.wr W10
  have f11_75 := f9_60.other W10 (Or.inr (slot_ne (Or.inr (tw hw 50 rfl)) (Or.inr (tw hw 58 rfl)) (by decide) (t := (.object "java/lang/String")) (t' := (.object "java/util/Optional")) (by decide) (by decide)))
  have f11_76 := f9_61.other W10 (Or.inr (slot_ne (Or.inr (tw hw 52 rfl)) (Or.inr (tw hw 58 rfl)) (by decide) (t := (.object "com/example/interlace/interlace/DataType")) (t' := (.object "java/util/Optional")) (by decide) (by decide)))
  have f11_77 := f9_62.other W10 (Or.inr (slot_ne (Or.inr (tw hw 54 rfl)) (Or.inr (tw hw 58 rfl)) (by decide) (t := .int) (t' := (.object "java/util/Optional")) (by decide) (by decide)))
  have f11_78 := Fw8.other W10 (Or.inr (slot_ne (Or.inr (tw hw 56 rfl)) (Or.inr (tw hw 58 rfl)) (by decide) (t := .boolean) (t' := (.object "java/util/Optional")) (by decide) (by decide)))
  have f11_79 := f9_64.wr W10 (Or.inl (List.mem_of_getElem? (i := 0) rfl))
  have Zs11 : n0 ≤ h10.size := by rw [W10.size]; exact Zs9
  refine Go.by st10 ?_
  show Go p.tables e below _ (T10.setTop (mkF m 31 #[.val (.ref a1), .val (.ref a2), .val (.ref a3), .val (.int p4), .val (.int p5), .val (.ref a6)] []))
  exact Go.ret0 X10 hx hlk hret (hb hby d8_31) (by decide) (by decide) ⟨rfl, f11_79, f11_74, f11_77⟩
theorem d6_0 : decode prog_11_method_1_code 0 = .ok (.aload_n 0, 1) := by decide +kernel
theorem d6_1 : decode prog_11_method_1_code 1 = .ok (.aload_n 1, 1) := by decide +kernel
theorem d6_2 : decode prog_11_method_1_code 2 = .ok (.aload_n 2, 1) := by decide +kernel
theorem d6_3 : decode prog_11_method_1_code 3 = .ok (.iload_n 3, 1) := by decide +kernel
theorem d6_4 : decode prog_11_method_1_code 4 = .ok (.iload 4, 2) := by decide +kernel
theorem d6_6 : decode prog_11_method_1_code 6 = .ok (.invokestatic 92, 3) := by decide +kernel
theorem pd4 : parseMethodDescriptor "()Ljava/util/Optional;" = some ⟨[], some (.object "java/util/Optional")⟩ := by decide +kernel
theorem d6_9 : decode prog_11_method_1_code 9 = .ok (.invokespecial 98, 3) := by decide +kernel
theorem pd5 : parseMethodDescriptor "(Ljava/lang/String;Lcom/example/interlace/interlace/DataType;IZLjava/util/Optional;)V" = some ⟨[(.object "java/lang/String"), (.object "com/example/interlace/interlace/DataType"), .int, .boolean, (.object "java/util/Optional")], none⟩ := by decide +kernel
theorem d6_12 : decode prog_11_method_1_code 12 = .ok (.return_, 1) := by decide +kernel
abbrev Rm6 : Room := { frames := 3, cells := 0, slots := 0, locals := 41 }
set_option maxRecDepth 65536 in
set_option maxHeartbeats 40000000 in
theorem rm6 (l : Launch) (Z : State) (a0 : Array Value) (hw : ∀ d ∈ tables_1, d.before a0 Z = true) (ws : List Jvm.Cond) (a1 : Addr) (a2 : Addr) (a3 : Addr) (p4 : Int32) (p5 : Int32) (ae : Addr) (h0 : Heap) (n0 : Nat) (Z0 : n0 ≤ h0.size) (O0 : Old Z n0 h0) (S_E0 : Sta Z Z.heap "java/util/Optional" "EMPTY" "Ljava/util/Optional;" (.ref ae)) (E_a1 : Exa Z h0 a1 "com/example/interlace/interlace/Column") (g_a1 : n0 ≤ a1) (F_name : Fld Z h0 a1 "com/example/interlace/interlace/Column" "name" "Ljava/lang/String;" .null) (F_type : Fld Z h0 a1 "com/example/interlace/interlace/Column" "type" "Lcom/example/interlace/interlace/DataType;" .null) (F_maxLength : Fld Z h0 a1 "com/example/interlace/interlace/Column" "maxLength" "I" (.int (0 : Int32))) (F_notNull : Fld Z h0 a1 "com/example/interlace/interlace/Column" "notNull" "Z" (.int (0 : Int32))) (F_defaultExpression : Fld Z h0 a1 "com/example/interlace/interlace/Column" "defaultExpression" "Ljava/util/Optional;" .null) :
    Met l Z n0 (⟨"com/example/interlace/interlace/Column", "<init>", "(Ljava/lang/String;Lcom/example/interlace/interlace/DataType;IZ)V"⟩ : MethodName) prog_11_method_1_code 5 none ws Rm6 #[(.ref a1), (.ref a2), (.ref a3), (.int p4), (.int p5)] h0 (fun v h => v = none ∧ Keep h0 h [a1] ∧ Exa Z h a1 "com/example/interlace/interlace/Column" ∧ Fld Z h a1 "com/example/interlace/interlace/Column" "maxLength" "I" (.int p4)) := by
  refine enter (Ls := #[.val (.ref a1), .val (.ref a2), .val (.ref a3), .val (.int p4), .val (.int p5)]) (plainFor_of_name pn4) (fun m => by first | rfl | (simp [entryFrame, mkF, argsToLocals, Value.category]; done)) ?_
  intro p e s m below meth c T0 hx hby hml hown hnm hret hlk hZ X0
  have K0 := Keep.refl h0 [a1]
  show Go p.tables e below _ (T0.setTop (mkF m 0 #[.val (.ref a1), .val (.ref a2), .val (.ref a3), .val (.int p4), .val (.int p5)] []))
  refine Go.by (fun _ => XS.aloadN X0.here hx rfl (hb hby d6_0) rfl rfl) ?_
  show Go p.tables e below _ (T0.setTop (mkF m 1 #[.val (.ref a1), .val (.ref a2), .val (.ref a3), .val (.int p4), .val (.int p5)] [(.ref a1)]))
  refine Go.by (fun _ => XS.aloadN X0.here hx rfl (hb hby d6_1) rfl rfl) ?_
  show Go p.tables e below _ (T0.setTop (mkF m 2 #[.val (.ref a1), .val (.ref a2), .val (.ref a3), .val (.int p4), .val (.int p5)] [(.ref a2), (.ref a1)]))
  refine Go.by (fun _ => XS.aloadN X0.here hx rfl (hb hby d6_2) rfl rfl) ?_
  show Go p.tables e below _ (T0.setTop (mkF m 3 #[.val (.ref a1), .val (.ref a2), .val (.ref a3), .val (.int p4), .val (.int p5)] [(.ref a3), (.ref a2), (.ref a1)]))
  refine Go.by (fun _ => XS.iloadN X0.here hx rfl (hb hby d6_3) rfl) ?_
  show Go p.tables e below _ (T0.setTop (mkF m 4 #[.val (.ref a1), .val (.ref a2), .val (.ref a3), .val (.int p4), .val (.int p5)] [(.int p4), (.ref a3), (.ref a2), (.ref a1)]))
  refine Go.by (fun _ => XS.iload X0.here hx rfl (hb hby d6_4) rfl) ?_
  show Go p.tables e below _ (T0.setTop (mkF m 6 #[.val (.ref a1), .val (.ref a2), .val (.ref a3), .val (.int p4), .val (.int p5)] [(.int p5), (.int p4), (.ref a3), (.ref a2), (.ref a1)]))
  obtain ⟨v1, T1, h1, X1, q1, st1⟩ := X0.callS hx hZ (y := (⟨"java/util/Optional", "empty", "()Ljava/util/Optional;"⟩ : MethodName)) hown (tw hw 35 rfl) (tw hw 36 rfl) (tw hw 37 rfl) (tw hw 38 rfl) (by decide) (rm7 l Z a0 hw [] ae h0 n0 Z0 O0 S_E0) (g := (mkF m 6 #[.val (.ref a1), .val (.ref a2), .val (.ref a3), .val (.int p4), .val (.int p5)] [(.int p5), (.int p4), (.ref a3), (.ref a2), (.ref a1)])) rfl (by rw [hml]; rfl) (argsL := []) (rest := [(.int p5), (.int p4), (.ref a3), (.ref a2), (.ref a1)]) (lenOf pd4 rfl) rfl (hb hby d6_6) rfl (by decide) (Nat.le_of_ble_eq_true rfl) (k' := 0) (n' := 0) rfl rfl (by decide) (by decide)
  refine Go.by st1 ?_
  obtain ⟨rfl, rfl⟩ := q1
  show Go p.tables e below _ (T1.setTop (mkF m 9 #[.val (.ref a1), .val (.ref a2), .val (.ref a3), .val (.int p4), .val (.int p5)] [(.ref ae), (.int p5), (.int p4), (.ref a3), (.ref a2), (.ref a1)]))
  obtain ⟨v2, T2, h2, X2, q2, st2⟩ := X1.callI hx hZ (y := (⟨"com/example/interlace/interlace/Column", "<init>", "(Ljava/lang/String;Lcom/example/interlace/interlace/DataType;IZLjava/util/Optional;)V"⟩ : MethodName)) rfl hown (tw hw 40 rfl) (tw hw 41 rfl) (tw hw 5 rfl) (tw hw 42 rfl) (by decide) (rm8 l Z a0 hw [] a1 a2 a3 p4 p5 ae h0 n0 Z0 E_a1 g_a1 F_name F_type F_maxLength F_notNull F_defaultExpression) (g := (mkF m 9 #[.val (.ref a1), .val (.ref a2), .val (.ref a3), .val (.int p4), .val (.int p5)] [(.ref ae), (.int p5), (.int p4), (.ref a3), (.ref a2), (.ref a1)])) rfl (by rw [hml]; rfl) (argsL := [(.ref a2), (.ref a3), (.int p4), (.int p5), (.ref ae)]) (rest := []) (lenOf pd5 rfl) rfl (hb hby d6_9) rfl (by decide) (Nat.le_of_ble_eq_true rfl) (k' := 0) (n' := 0) rfl rfl (by decide) (by decide)
  refine Go.by st2 ?_
  obtain ⟨rfl, K2, Ex2, Fm2⟩ := q2
  have f3_19 := E_a1.keep K2
  have f3_20 := O0.keep K2 (allS g_a1 all0)
  have f3_21 := K0.trans K2 (allS (Or.inl (List.mem_of_getElem? (i := 0) rfl)) all0)
  have Zs3 : n0 ≤ h2.size := Nat.le_trans Z0 K2.1
  show Go p.tables e below _ (T2.setTop (mkF m 12 #[.val (.ref a1), .val (.ref a2), .val (.ref a3), .val (.int p4), .val (.int p5)] []))
  exact Go.ret0 X2 hx hlk hret (hb hby d6_12) (by decide) (by decide) ⟨rfl, f3_21, Ex2, Fm2⟩
theorem d10_0 : decode prog_11_method_11_code 0 = .ok (.aload_n 0, 1) := by decide +kernel
theorem d10_1 : decode prog_11_method_11_code 1 = .ok (.getfield 17, 3) := by decide +kernel
theorem d10_4 : decode prog_11_method_11_code 4 = .ok (.iconst (-1), 1) := by decide +kernel
theorem d10_5 : decode prog_11_method_11_code 5 = .ok (.if_icmp .ne 7, 3) := by decide +kernel
theorem d10_8 : decode prog_11_method_11_code 8 = .ok (.iconst (-1), 1) := by decide +kernel
theorem d10_9 : decode prog_11_method_11_code 9 = .ok (.goto 9, 3) := by decide +kernel
theorem d10_18 : decode prog_11_method_11_code 18 = .ok (.ireturn, 1) := by decide +kernel
theorem d10_12 : decode prog_11_method_11_code 12 = .ok (.aload_n 0, 1) := by decide +kernel
theorem d10_13 : decode prog_11_method_11_code 13 = .ok (.getfield 17, 3) := by decide +kernel
theorem d10_16 : decode prog_11_method_11_code 16 = .ok (.iconst 4, 1) := by decide +kernel
theorem d10_17 : decode prog_11_method_11_code 17 = .ok (.iadd, 1) := by decide +kernel
abbrev Rm10 : Room := { frames := 0, cells := 0, slots := 0, locals := 0 }
set_option maxRecDepth 65536 in
set_option maxHeartbeats 40000000 in
theorem rm10 (l : Launch) (Z : State) (a0 : Array Value) (hw : ∀ d ∈ tables_1, d.before a0 Z = true) (ws : List Jvm.Cond) (a1 : Addr) (lv : Int32) (h0 : Heap) (n0 : Nat) (Z0 : n0 ≤ h0.size) (F_m : Fld Z h0 a1 "com/example/interlace/interlace/Column" "maxLength" "I" (.int lv)) :
    Met l Z n0 (⟨"com/example/interlace/interlace/Column", "typeModifier", "()I"⟩ : MethodName) prog_11_method_11_code 1 (some .int) ws Rm10 #[(.ref a1)] h0 (fun v h => ((lv = -1 ∧ v = some (.int (-1))) ∨ (¬ lv = -1 ∧ v = some (.int (lv + 4)))) ∧ h0 = h) := by
  refine enter (Ls := #[.val (.ref a1)]) (plainFor_of_name pn4) (fun m => by first | rfl | (simp [entryFrame, mkF, argsToLocals, Value.category]; done)) ?_
  intro p e s m below meth c T0 hx hby hml hown hnm hret hlk hZ X0
  show Go p.tables e below _ (T0.setTop (mkF m 0 #[.val (.ref a1)] []))
  refine Go.by (fun _ => XS.aloadN X0.here hx rfl (hb hby d10_0) rfl rfl) ?_
  show Go p.tables e below _ (T0.setTop (mkF m 1 #[.val (.ref a1)] [(.ref a1)]))
  obtain ⟨T1, X1, st1⟩ := X0.getF hx hZ hown (host := "") (Or.inl (tw hw 53 rfl)) Via.refl F_m (g := (mkF m 1 #[.val (.ref a1)] [(.ref a1)])) rfl rfl (hb hby d10_1)
  refine Go.by st1 ?_
  show Go p.tables e below _ (T1.setTop (mkF m 4 #[.val (.ref a1)] [(.int lv)]))
  refine Go.by (fun _ => XS.iconst X1.here hx rfl (hb hby d10_4)) ?_
  show Go p.tables e below _ (T1.setTop (mkF m 5 #[.val (.ref a1)] [(.int (-1 : Int32)), (.int lv)]))
  by_cases hc5_2 : lv = (-1 : Int32)
  · skip
    refine Go.by (fun _ => XS.icmpNo X1.here hx rfl (hb hby d10_5) rfl (teq hc5_2).2) ?_
    show Go p.tables e below _ (T1.setTop (mkF m 8 #[.val (.ref a1)] []))
    refine Go.by (fun _ => XS.iconst X1.here hx rfl (hb hby d10_8)) ?_
    show Go p.tables e below _ (T1.setTop (mkF m 9 #[.val (.ref a1)] [(.int (-1 : Int32))]))
    refine Go.by (fun _ => XS.goto X1.here hx rfl (pc0 := 9) (pc' := 18) rfl (hb hby d10_9) (by decide) (by decide)) ?_
    show Go p.tables e below _ (T1.setTop (mkF m 18 #[.val (.ref a1)] [(.int (-1 : Int32))]))
    exact Go.retI X1 hx hlk hret (hb hby d10_18) (by decide) (by decide) ⟨Or.inl ⟨hc5_2, rfl⟩, rfl⟩
  · skip
    refine Go.by (fun _ => XS.icmpYes X1.here hx rfl (pc0 := 5) (pc' := 12) rfl (hb hby d10_5) rfl (feq hc5_2).2 (by decide) (by decide)) ?_
    show Go p.tables e below _ (T1.setTop (mkF m 12 #[.val (.ref a1)] []))
    refine Go.by (fun _ => XS.aloadN X1.here hx rfl (hb hby d10_12) rfl rfl) ?_
    show Go p.tables e below _ (T1.setTop (mkF m 13 #[.val (.ref a1)] [(.ref a1)]))
    obtain ⟨T3, X3, st3⟩ := X1.getF hx hZ hown (host := "") (Or.inl (tw hw 53 rfl)) Via.refl F_m (g := (mkF m 13 #[.val (.ref a1)] [(.ref a1)])) rfl rfl (hb hby d10_13)
    refine Go.by st3 ?_
    show Go p.tables e below _ (T3.setTop (mkF m 16 #[.val (.ref a1)] [(.int lv)]))
    refine Go.by (fun _ => XS.iconst X3.here hx rfl (hb hby d10_16)) ?_
    show Go p.tables e below _ (T3.setTop (mkF m 17 #[.val (.ref a1)] [(.int (4 : Int32)), (.int lv)]))
    refine Go.by (fun _ => XS.iadd X3.here hx rfl (hb hby d10_17) rfl) ?_
    show Go p.tables e below _ (T3.setTop (mkF m 18 #[.val (.ref a1)] [(.int (lv + (4 : Int32)))]))
    exact Go.retI X3 hx hlk hret (hb hby d10_18) (by decide) (by decide) ⟨Or.inr ⟨hc5_2, rfl⟩, rfl⟩
theorem pd6 : parseMethodDescriptor "(C)Ljava/lang/String;" = some ⟨[.char], some (.object "java/lang/String")⟩ := by decide +kernel
theorem pd7 : parseMethodDescriptor "(Ljava/lang/String;Lcom/example/interlace/interlace/DataType;IZ)V" = some ⟨[(.object "java/lang/String"), (.object "com/example/interlace/interlace/DataType"), .int, .boolean], none⟩ := by decide +kernel
theorem pd8 : parseMethodDescriptor "()I" = some ⟨[], some .int⟩ := by decide +kernel
theorem pn5 : plainName "com/example/interlace/interlace/ColumnTypeModifierPinLaw" = true := by first | (simp [plainName, overriddenIn]; done) | decide +kernel
set_option maxRecDepth 65536 in
set_option maxHeartbeats 40000000 in
theorem rm0 (l : Launch) (Z : State) (a0 : Array Value) (hw : ∀ d ∈ tables_1, d.before a0 Z = true) (ws : List Jvm.Cond) (p0 : Int32) (p1 : Int32) (p2 : Int32) (a_TEXT : Addr) (a_VARCHAR : Addr) (cs : Int32) (ae : Addr) (h0 : Heap) (n0 : Nat) (Z0 : n0 ≤ h0.size) (S_TEXT : Sta Z h0 "com/example/interlace/interlace/DataType" "TEXT" "Lcom/example/interlace/interlace/DataType;" (.ref a_TEXT)) (E_TEXT : Exa Z h0 a_TEXT "com/example/interlace/interlace/DataType$10") (S_VARCHAR : Sta Z h0 "com/example/interlace/interlace/DataType" "VARCHAR" "Lcom/example/interlace/interlace/DataType;" (.ref a_VARCHAR)) (E_VARCHAR : Exa Z h0 a_VARCHAR "com/example/interlace/interlace/DataType$11") (O0 : Old Z n0 h0) (S_CS0 : Sta Z Z.heap "java/lang/String" "COMPACT_STRINGS" "Z" (.int cs)) (hcs : ¬ cs = 0) (S_E0 : Sta Z Z.heap "java/util/Optional" "EMPTY" "Ljava/util/Optional;" (.ref ae)) :
    Met l Z n0 x code maxLocals ret ws room_1 #[(.int p0), (.int p1), (.int p2)] h0 (fun v h => v = some (.int 1)) := by
  refine enter (Ls := #[.val (.int p0), .val (.int p1), .val (.int p2), .unset, .unset, .unset, .unset, .unset, .unset, .unset]) (plainFor_of_name pn5) (fun m => by first | rfl | (simp [entryFrame, mkF, argsToLocals, Value.category, maxLocals]; done)) ?_
  intro p e s m below meth c T0 hx hby hml hown hnm hret hlk hZ X0
  show Go p.tables e below _ (T0.setTop (mkF m 0 #[.val (.int p0), .val (.int p1), .val (.int p2), .unset, .unset, .unset, .unset, .unset, .unset, .unset] []))
  refine Go.by (fun _ => XS.iloadN X0.here hx rfl (hb hby at_0) rfl) ?_
  show Go p.tables e below _ (T0.setTop (mkF m 1 #[.val (.int p0), .val (.int p1), .val (.int p2), .unset, .unset, .unset, .unset, .unset, .unset, .unset] [(.int p1)]))
  refine Go.by (fun _ => XS.iconst X0.here hx rfl (hb hby at_1)) ?_
  show Go p.tables e below _ (T0.setTop (mkF m 2 #[.val (.int p0), .val (.int p1), .val (.int p2), .unset, .unset, .unset, .unset, .unset, .unset, .unset] [(.int (1 : Int32)), (.int p1)]))
  refine Go.by (fun _ => XS.iand X0.here hx rfl (hb hby at_2) rfl) ?_
  show Go p.tables e below _ (T0.setTop (mkF m 3 #[.val (.int p0), .val (.int p1), .val (.int p2), .unset, .unset, .unset, .unset, .unset, .unset, .unset] [(.int (p1 &&& (1 : Int32)))]))
  by_cases hc3_1 : (p1 &&& (1 : Int32)) = (0 : Int32)
  · skip
    refine Go.by (fun _ => XS.ifYes X0.here hx rfl (pc0 := 3) (pc' := 10) rfl (hb hby at_3) rfl ((if0 _ _).trans (teq hc3_1).1) (by decide) (by decide)) ?_
    show Go p.tables e below _ (T0.setTop (mkF m 10 #[.val (.int p0), .val (.int p1), .val (.int p2), .unset, .unset, .unset, .unset, .unset, .unset, .unset] []))
    refine Go.by (fun _ => XS.iconst X0.here hx rfl (hb hby at_10)) ?_
    show Go p.tables e below _ (T0.setTop (mkF m 11 #[.val (.int p0), .val (.int p1), .val (.int p2), .unset, .unset, .unset, .unset, .unset, .unset, .unset] [(.int (0 : Int32))]))
    refine Go.by (fun _ => XS.istoreN X0.here hx rfl (hb hby at_11) rfl (l' := #[.val (.int p0), .val (.int p1), .val (.int p2), .val (.int (0 : Int32)), .unset, .unset, .unset, .unset, .unset, .unset]) rfl) ?_
    show Go p.tables e below _ (T0.setTop (mkF m 12 #[.val (.int p0), .val (.int p1), .val (.int p2), .val (.int (0 : Int32)), .unset, .unset, .unset, .unset, .unset, .unset] []))
    refine Go.by (fun _ => XS.iloadN X0.here hx rfl (hb hby at_12) rfl) ?_
    show Go p.tables e below _ (T0.setTop (mkF m 13 #[.val (.int p0), .val (.int p1), .val (.int p2), .val (.int (0 : Int32)), .unset, .unset, .unset, .unset, .unset, .unset] [(.int p1)]))
    refine Go.by (fun _ => XS.iconst X0.here hx rfl (hb hby at_13)) ?_
    show Go p.tables e below _ (T0.setTop (mkF m 14 #[.val (.int p0), .val (.int p1), .val (.int p2), .val (.int (0 : Int32)), .unset, .unset, .unset, .unset, .unset, .unset] [(.int (2 : Int32)), (.int p1)]))
    refine Go.by (fun _ => XS.iand X0.here hx rfl (hb hby at_14) rfl) ?_
    show Go p.tables e below _ (T0.setTop (mkF m 15 #[.val (.int p0), .val (.int p1), .val (.int p2), .val (.int (0 : Int32)), .unset, .unset, .unset, .unset, .unset, .unset] [(.int (p1 &&& (2 : Int32)))]))
    have J2 : ∀ (Tj2 : State), Sd n0 p l e room_1 s m #[(.int p0), (.int p1), (.int p2)] below meth c Tj2 h0 0 0 → ∀ (nn : Int32), True → Go p.tables e below (Ret s n0 (fun v h => v = some (.int 1)) room_1.cells room_1.slots) (Tj2.setTop (mkF m 23 #[.val (.int p0), .val (.int p1), .val (.int p2), .val (.int (0 : Int32)), .unset, .unset, .unset, .unset, .unset, .unset] [(.int nn)])) := by
      intro Tj2 Xj2 nn hj2
      refine Go.by (fun _ => XS.istore Xj2.here hx rfl (hb hby at_23) rfl (l' := #[.val (.int p0), .val (.int p1), .val (.int p2), .val (.int (0 : Int32)), .val (.int nn), .unset, .unset, .unset, .unset, .unset]) rfl) ?_
      show Go p.tables e below _ (Tj2.setTop (mkF m 25 #[.val (.int p0), .val (.int p1), .val (.int p2), .val (.int (0 : Int32)), .val (.int nn), .unset, .unset, .unset, .unset, .unset] []))
      refine Go.by (fun _ => XS.iloadN Xj2.here hx rfl (hb hby at_25) rfl) ?_
      show Go p.tables e below _ (Tj2.setTop (mkF m 26 #[.val (.int p0), .val (.int p1), .val (.int p2), .val (.int (0 : Int32)), .val (.int nn), .unset, .unset, .unset, .unset, .unset] [(.int p1)]))
      refine Go.by (fun _ => XS.iconst Xj2.here hx rfl (hb hby at_26)) ?_
      show Go p.tables e below _ (Tj2.setTop (mkF m 27 #[.val (.int p0), .val (.int p1), .val (.int p2), .val (.int (0 : Int32)), .val (.int nn), .unset, .unset, .unset, .unset, .unset] [(.int (4 : Int32)), (.int p1)]))
      refine Go.by (fun _ => XS.iand Xj2.here hx rfl (hb hby at_27) rfl) ?_
      show Go p.tables e below _ (Tj2.setTop (mkF m 28 #[.val (.int p0), .val (.int p1), .val (.int p2), .val (.int (0 : Int32)), .val (.int nn), .unset, .unset, .unset, .unset, .unset] [(.int (p1 &&& (4 : Int32)))]))
      have J3 : ∀ (Tj3 : State), Sd n0 p l e room_1 s m #[(.int p0), (.int p1), (.int p2)] below meth c Tj3 h0 0 0 → ∀ (vu : Int32), True → Go p.tables e below (Ret s n0 (fun v h => v = some (.int 1)) room_1.cells room_1.slots) (Tj3.setTop (mkF m 36 #[.val (.int p0), .val (.int p1), .val (.int p2), .val (.int (0 : Int32)), .val (.int nn), .unset, .unset, .unset, .unset, .unset] [(.int vu)])) := by
        intro Tj3 Xj3 vu hj3
        refine Go.by (fun _ => XS.istore Xj3.here hx rfl (hb hby at_36) rfl (l' := #[.val (.int p0), .val (.int p1), .val (.int p2), .val (.int (0 : Int32)), .val (.int nn), .val (.int vu), .unset, .unset, .unset, .unset]) rfl) ?_
        show Go p.tables e below _ (Tj3.setTop (mkF m 38 #[.val (.int p0), .val (.int p1), .val (.int p2), .val (.int (0 : Int32)), .val (.int nn), .val (.int vu), .unset, .unset, .unset, .unset] []))
        refine Go.by (fun _ => XS.iloadN Xj3.here hx rfl (hb hby at_38) rfl) ?_
        show Go p.tables e below _ (Tj3.setTop (mkF m 39 #[.val (.int p0), .val (.int p1), .val (.int p2), .val (.int (0 : Int32)), .val (.int nn), .val (.int vu), .unset, .unset, .unset, .unset] [(.int (0 : Int32))]))
        refine Go.by (fun _ => XS.ifYes Xj3.here hx rfl (pc0 := 39) (pc' := 46) rfl (hb hby at_39) rfl ((if0 _ _).trans (teq (by decide)).1) (by decide) (by decide)) ?_
        show Go p.tables e below _ (Tj3.setTop (mkF m 46 #[.val (.int p0), .val (.int p1), .val (.int p2), .val (.int (0 : Int32)), .val (.int nn), .val (.int vu), .unset, .unset, .unset, .unset] []))
        refine Go.by (fun _ => XS.iconst Xj3.here hx rfl (hb hby at_46)) ?_
        show Go p.tables e below _ (Tj3.setTop (mkF m 47 #[.val (.int p0), .val (.int p1), .val (.int p2), .val (.int (0 : Int32)), .val (.int nn), .val (.int vu), .unset, .unset, .unset, .unset] [(.int (1 : Int32))]))
        refine Go.by (fun _ => XS.iloadN Xj3.here hx rfl (hb hby at_47) rfl) ?_
        show Go p.tables e below _ (Tj3.setTop (mkF m 48 #[.val (.int p0), .val (.int p1), .val (.int p2), .val (.int (0 : Int32)), .val (.int nn), .val (.int vu), .unset, .unset, .unset, .unset] [(.int p0), (.int (1 : Int32))]))
        refine Go.by (Xj3.ldcInt hx hZ hown (tw hw 64 rfl) (g := (mkF m 48 #[.val (.int p0), .val (.int p1), .val (.int p2), .val (.int (0 : Int32)), .val (.int nn), .val (.int vu), .unset, .unset, .unset, .unset] [(.int p0), (.int (1 : Int32))])) rfl (hb hby at_48)) ?_
        show Go p.tables e below _ (Tj3.setTop (mkF m 50 #[.val (.int p0), .val (.int p1), .val (.int p2), .val (.int (0 : Int32)), .val (.int nn), .val (.int vu), .unset, .unset, .unset, .unset] [(.int (2147483647 : Int32)), (.int p0), (.int (1 : Int32))]))
        refine Go.by (fun _ => XS.iand Xj3.here hx rfl (hb hby at_50) rfl) ?_
        show Go p.tables e below _ (Tj3.setTop (mkF m 51 #[.val (.int p0), .val (.int p1), .val (.int p2), .val (.int (0 : Int32)), .val (.int nn), .val (.int vu), .unset, .unset, .unset, .unset] [(.int (p0 &&& (2147483647 : Int32))), (.int (1 : Int32))]))
        refine Go.by (Xj3.ldcInt hx hZ hown (tw hw 65 rfl) (g := (mkF m 51 #[.val (.int p0), .val (.int p1), .val (.int p2), .val (.int (0 : Int32)), .val (.int nn), .val (.int vu), .unset, .unset, .unset, .unset] [(.int (p0 &&& (2147483647 : Int32))), (.int (1 : Int32))])) rfl (hb hby at_51)) ?_
        show Go p.tables e below _ (Tj3.setTop (mkF m 53 #[.val (.int p0), .val (.int p1), .val (.int p2), .val (.int (0 : Int32)), .val (.int nn), .val (.int vu), .unset, .unset, .unset, .unset] [(.int (10485760 : Int32)), (.int (p0 &&& (2147483647 : Int32))), (.int (1 : Int32))]))
        refine Go.by (fun _ => iremS Xj3 hx rfl (hb hby at_53) rfl (by decide)) ?_
        show Go p.tables e below _ (Tj3.setTop (mkF m 54 #[.val (.int p0), .val (.int p1), .val (.int p2), .val (.int (0 : Int32)), .val (.int nn), .val (.int vu), .unset, .unset, .unset, .unset] [(.int ((p0 &&& (2147483647 : Int32)) % (10485760 : Int32))), (.int (1 : Int32))]))
        refine Go.by (fun _ => XS.iadd Xj3.here hx rfl (hb hby at_54) rfl) ?_
        show Go p.tables e below _ (Tj3.setTop (mkF m 55 #[.val (.int p0), .val (.int p1), .val (.int p2), .val (.int (0 : Int32)), .val (.int nn), .val (.int vu), .unset, .unset, .unset, .unset] [(.int ((1 : Int32) + ((p0 &&& (2147483647 : Int32)) % (10485760 : Int32))))]))
        refine Go.by (fun _ => XS.istore Xj3.here hx rfl (hb hby at_55) rfl (l' := #[.val (.int p0), .val (.int p1), .val (.int p2), .val (.int (0 : Int32)), .val (.int nn), .val (.int vu), .val (.int ((1 : Int32) + ((p0 &&& (2147483647 : Int32)) % (10485760 : Int32)))), .unset, .unset, .unset]) rfl) ?_
        show Go p.tables e below _ (Tj3.setTop (mkF m 57 #[.val (.int p0), .val (.int p1), .val (.int p2), .val (.int (0 : Int32)), .val (.int nn), .val (.int vu), .val (.int ((1 : Int32) + ((p0 &&& (2147483647 : Int32)) % (10485760 : Int32)))), .unset, .unset, .unset] []))
        obtain ⟨nl, enl, hl1, hl2⟩ := own_lim p0
        rw [enl]
        show Go p.tables e below _ (Tj3.setTop (mkF m 57 #[.val (.int p0), .val (.int p1), .val (.int p2), .val (.int (0 : Int32)), .val (.int nn), .val (.int vu), .val (.int nl), .unset, .unset, .unset] []))
        have J4 : ∀ (Tj4 : State), Sd n0 p l e room_1 s m #[(.int p0), (.int p1), (.int p2)] below meth c Tj4 h0 0 0 → ∀ (ty : Addr), True → Go p.tables e below (Ret s n0 (fun v h => v = some (.int 1)) room_1.cells room_1.slots) (Tj4.setTop (mkF m 75 #[.val (.int p0), .val (.int p1), .val (.int p2), .val (.int (0 : Int32)), .val (.int nn), .val (.int vu), .val (.int nl), .unset, .unset, .unset] [(.ref ty)])) := by
          intro Tj4 Xj4 ty hj4
          refine Go.by (fun _ => XS.astore Xj4.here hx rfl (hb hby at_75) rfl rfl (l' := #[.val (.int p0), .val (.int p1), .val (.int p2), .val (.int (0 : Int32)), .val (.int nn), .val (.int vu), .val (.int nl), .val (.ref ty), .unset, .unset]) rfl) ?_
          show Go p.tables e below _ (Tj4.setTop (mkF m 77 #[.val (.int p0), .val (.int p1), .val (.int p2), .val (.int (0 : Int32)), .val (.int nn), .val (.int vu), .val (.int nl), .val (.ref ty), .unset, .unset] []))
          obtain ⟨T5, h5, b5, X5, g5, E5, A5, D5, st5⟩ := Xj4.newO hx hZ hown (tw hw 3 rfl) (tw hw 4 rfl) (tw hw 5 rfl) (g := (mkF m 77 #[.val (.int p0), .val (.int p1), .val (.int p2), .val (.int (0 : Int32)), .val (.int nn), .val (.int vu), .val (.int nl), .val (.ref ty), .unset, .unset] [])) rfl (hb hby at_77) (k' := 1) (n' := 5) rfl rfl (by decide) (by decide)
          have g_b5 : n0 ≤ b5 := by rw [g5]; exact Z0
          have ne_a_TEXT_b5 : a_TEXT ≠ b5 := Nat.ne_of_lt (by rw [g5]; exact E_TEXT.lt)
          have ne_a_VARCHAR_b5 : a_VARCHAR ≠ b5 := Nat.ne_of_lt (by rw [g5]; exact E_VARCHAR.lt)
          have f6_66 := S_TEXT.ext E5
          have f6_67 := E_TEXT.ext E5
          have f6_68 := S_VARCHAR.ext E5
          have f6_69 := E_VARCHAR.ext E5
          have f6_70 := O0.ext E5
          have Zs6 : n0 ≤ h5.size := Nat.le_trans Z0 E5.1
          have F5_name : Fld Z h5 b5 "com/example/interlace/interlace/Column" "name" "Ljava/lang/String;" .null := D5 (Or.inr (tw hw 50 rfl)) (ty := (.object "java/lang/String")) (by decide)
          have F5_type : Fld Z h5 b5 "com/example/interlace/interlace/Column" "type" "Lcom/example/interlace/interlace/DataType;" .null := D5 (Or.inr (tw hw 52 rfl)) (ty := (.object "com/example/interlace/interlace/DataType")) (by decide)
          have F5_maxLength : Fld Z h5 b5 "com/example/interlace/interlace/Column" "maxLength" "I" (.int (0 : Int32)) := D5 (Or.inr (tw hw 54 rfl)) (ty := .int) (by decide)
          have F5_notNull : Fld Z h5 b5 "com/example/interlace/interlace/Column" "notNull" "Z" (.int (0 : Int32)) := D5 (Or.inr (tw hw 56 rfl)) (ty := .boolean) (by decide)
          have F5_defaultExpression : Fld Z h5 b5 "com/example/interlace/interlace/Column" "defaultExpression" "Ljava/util/Optional;" .null := D5 (Or.inr (tw hw 58 rfl)) (ty := (.object "java/util/Optional")) (by decide)
          refine Go.by st5 ?_
          show Go p.tables e below _ (T5.setTop (mkF m 80 #[.val (.int p0), .val (.int p1), .val (.int p2), .val (.int (0 : Int32)), .val (.int nn), .val (.int vu), .val (.int nl), .val (.ref ty), .unset, .unset] [(.ref b5)]))
          refine Go.by (fun _ => XS.dup X5.here hx rfl (hb hby at_80) rfl rfl) ?_
          show Go p.tables e below _ (T5.setTop (mkF m 81 #[.val (.int p0), .val (.int p1), .val (.int p2), .val (.int (0 : Int32)), .val (.int nn), .val (.int vu), .val (.int nl), .val (.ref ty), .unset, .unset] [(.ref b5), (.ref b5)]))
          refine Go.by (fun _ => XS.iloadN X5.here hx rfl (hb hby at_81) rfl) ?_
          show Go p.tables e below _ (T5.setTop (mkF m 82 #[.val (.int p0), .val (.int p1), .val (.int p2), .val (.int (0 : Int32)), .val (.int nn), .val (.int vu), .val (.int nl), .val (.ref ty), .unset, .unset] [(.int p2), (.ref b5), (.ref b5)]))
          refine Go.by (fun _ => XS.sipush X5.here hx rfl (hb hby at_82)) ?_
          show Go p.tables e below _ (T5.setTop (mkF m 85 #[.val (.int p0), .val (.int p1), .val (.int p2), .val (.int (0 : Int32)), .val (.int nn), .val (.int vu), .val (.int nl), .val (.ref ty), .unset, .unset] [(.int (255 : Int32)), (.int p2), (.ref b5), (.ref b5)]))
          refine Go.by (fun _ => XS.iand X5.here hx rfl (hb hby at_85) rfl) ?_
          show Go p.tables e below _ (T5.setTop (mkF m 86 #[.val (.int p0), .val (.int p1), .val (.int p2), .val (.int (0 : Int32)), .val (.int nn), .val (.int vu), .val (.int nl), .val (.ref ty), .unset, .unset] [(.int (p2 &&& (255 : Int32))), (.ref b5), (.ref b5)]))
          refine Go.by (fun _ => XS.i2c X5.here hx rfl (hb hby at_86) rfl) ?_
          show Go p.tables e below _ (T5.setTop (mkF m 87 #[.val (.int p0), .val (.int p1), .val (.int p2), .val (.int (0 : Int32)), .val (.int nn), .val (.int vu), .val (.int nl), .val (.ref ty), .unset, .unset] [(.int ((p2 &&& (255 : Int32)).toUInt32.toUInt16.toUInt32.toInt32)), (.ref b5), (.ref b5)]))
          obtain ⟨v7, T7, h7, X7, q7, st7⟩ := X5.callS hx hZ (y := (⟨"java/lang/String", "valueOf", "(C)Ljava/lang/String;"⟩ : MethodName)) hown (tw hw 6 rfl) (tw hw 7 rfl) (tw hw 8 rfl) (tw hw 9 rfl) (by decide) (rm1 l Z a0 hw [] ((p2 &&& (255 : Int32)).toUInt32.toUInt16.toUInt32.toInt32) cs h5 n0 Zs6 f6_70 S_CS0 hcs (own_c _)) (g := (mkF m 87 #[.val (.int p0), .val (.int p1), .val (.int p2), .val (.int (0 : Int32)), .val (.int nn), .val (.int vu), .val (.int nl), .val (.ref ty), .unset, .unset] [(.int ((p2 &&& (255 : Int32)).toUInt32.toUInt16.toUInt32.toInt32)), (.ref b5), (.ref b5)])) rfl (by rw [hml]; rfl) (argsL := [(.int ((p2 &&& (255 : Int32)).toUInt32.toUInt16.toUInt32.toInt32))]) (rest := [(.ref b5), (.ref b5)]) (lenOf pd6 rfl) rfl (hb hby at_87) rfl (by decide) (Nat.le_of_ble_eq_true rfl) (k' := 3) (n' := 10) rfl rfl (by decide) (by decide)
          refine Go.by st7 ?_
          obtain ⟨r7, d7, kc7, rfl, sr7, sd7, K7, Ex7, Fv7, Fc7, V7⟩ := q7
          have g_r7 : n0 ≤ r7 := Nat.le_trans Zs6 sr7
          have ne_a_TEXT_r7 : a_TEXT ≠ r7 := Nat.ne_of_lt (Nat.lt_of_lt_of_le f6_67.lt sr7)
          have ne_a_VARCHAR_r7 : a_VARCHAR ≠ r7 := Nat.ne_of_lt (Nat.lt_of_lt_of_le f6_69.lt sr7)
          have ne_b5_r7 : b5 ≠ r7 := Nat.ne_of_lt (Nat.lt_of_lt_of_le A5.lt sr7)
          have g_d7 : n0 ≤ d7 := Nat.le_trans Zs6 sd7
          have ne_a_TEXT_d7 : a_TEXT ≠ d7 := Nat.ne_of_lt (Nat.lt_of_lt_of_le f6_67.lt sd7)
          have ne_a_VARCHAR_d7 : a_VARCHAR ≠ d7 := Nat.ne_of_lt (Nat.lt_of_lt_of_le f6_69.lt sd7)
          have ne_b5_d7 : b5 ≠ d7 := Nat.ne_of_lt (Nat.lt_of_lt_of_le A5.lt sd7)
          have f8_100 := f6_66.ext (keep_ext K7)
          have f8_101 := f6_67.ext (keep_ext K7)
          have f8_102 := f6_68.ext (keep_ext K7)
          have f8_103 := f6_69.ext (keep_ext K7)
          have f8_104 := f6_70.ext (keep_ext K7)
          have f8_105 := A5.ext (keep_ext K7)
          have f8_106 := F5_name.ext (keep_ext K7)
          have f8_107 := F5_type.ext (keep_ext K7)
          have f8_108 := F5_maxLength.ext (keep_ext K7)
          have f8_109 := F5_notNull.ext (keep_ext K7)
          have f8_110 := F5_defaultExpression.ext (keep_ext K7)
          have Zs8 : n0 ≤ h7.size := Nat.le_trans Zs6 (keep_ext K7).1
          show Go p.tables e below _ (T7.setTop (mkF m 90 #[.val (.int p0), .val (.int p1), .val (.int p2), .val (.int (0 : Int32)), .val (.int nn), .val (.int vu), .val (.int nl), .val (.ref ty), .unset, .unset] [(.ref r7), (.ref b5), (.ref b5)]))
          refine Go.by (fun _ => XS.aload X7.here hx rfl (hb hby at_90) rfl rfl) ?_
          show Go p.tables e below _ (T7.setTop (mkF m 92 #[.val (.int p0), .val (.int p1), .val (.int p2), .val (.int (0 : Int32)), .val (.int nn), .val (.int vu), .val (.int nl), .val (.ref ty), .unset, .unset] [(.ref ty), (.ref r7), (.ref b5), (.ref b5)]))
          refine Go.by (fun _ => XS.iload X7.here hx rfl (hb hby at_92) rfl) ?_
          show Go p.tables e below _ (T7.setTop (mkF m 94 #[.val (.int p0), .val (.int p1), .val (.int p2), .val (.int (0 : Int32)), .val (.int nn), .val (.int vu), .val (.int nl), .val (.ref ty), .unset, .unset] [(.int nl), (.ref ty), (.ref r7), (.ref b5), (.ref b5)]))
          refine Go.by (fun _ => XS.iload X7.here hx rfl (hb hby at_94) rfl) ?_
          show Go p.tables e below _ (T7.setTop (mkF m 96 #[.val (.int p0), .val (.int p1), .val (.int p2), .val (.int (0 : Int32)), .val (.int nn), .val (.int vu), .val (.int nl), .val (.ref ty), .unset, .unset] [(.int nn), (.int nl), (.ref ty), (.ref r7), (.ref b5), (.ref b5)]))
          obtain ⟨v9, T9, h9, X9, q9, st9⟩ := X7.callI hx hZ (y := (⟨"com/example/interlace/interlace/Column", "<init>", "(Ljava/lang/String;Lcom/example/interlace/interlace/DataType;IZ)V"⟩ : MethodName)) rfl hown (tw hw 32 rfl) (tw hw 33 rfl) (tw hw 5 rfl) (tw hw 34 rfl) (by decide) (rm6 l Z a0 hw [] b5 r7 ty nl nn ae h7 n0 Zs8 f8_104 S_E0 f8_105 g_b5 f8_106 f8_107 f8_108 f8_109 f8_110) (g := (mkF m 96 #[.val (.int p0), .val (.int p1), .val (.int p2), .val (.int (0 : Int32)), .val (.int nn), .val (.int vu), .val (.int nl), .val (.ref ty), .unset, .unset] [(.int nn), (.int nl), (.ref ty), (.ref r7), (.ref b5), (.ref b5)])) rfl (by rw [hml]; rfl) (argsL := [(.ref r7), (.ref ty), (.int nl), (.int nn)]) (rest := [(.ref b5)]) (lenOf pd7 rfl) rfl (hb hby at_96) rfl (by decide) (Nat.le_of_ble_eq_true rfl) (k' := 3) (n' := 10) rfl rfl (by decide) (by decide)
          refine Go.by st9 ?_
          obtain ⟨rfl, K9, Ex9, Fm9⟩ := q9
          have f10_122 := Sta.keepN f8_100 K9 (allS f8_105.plain all0)
          have f10_123 := f8_101.keep K9
          have f10_124 := Sta.keepN f8_102 K9 (allS f8_105.plain all0)
          have f10_125 := f8_103.keep K9
          have f10_126 := f8_104.keep K9 (allS g_b5 all0)
          have f10_127 := f8_105.keep K9
          have f10_128 := Ex7.keep K9
          have f10_129 := Fv7.keep K9 (ninS (Ne.symm ne_b5_r7) nin0)
          have f10_130 := Fc7.keep K9 (ninS (Ne.symm ne_b5_r7) nin0)
          have f10_131 := Avf.keep V7 K9 (ninS (Ne.symm ne_b5_d7) nin0)
          have Zs10 : n0 ≤ h9.size := Nat.le_trans Zs8 K9.1
          show Go p.tables e below _ (T9.setTop (mkF m 99 #[.val (.int p0), .val (.int p1), .val (.int p2), .val (.int (0 : Int32)), .val (.int nn), .val (.int vu), .val (.int nl), .val (.ref ty), .unset, .unset] [(.ref b5)]))
          refine Go.by (fun _ => XS.astore X9.here hx rfl (hb hby at_99) rfl rfl (l' := #[.val (.int p0), .val (.int p1), .val (.int p2), .val (.int (0 : Int32)), .val (.int nn), .val (.int vu), .val (.int nl), .val (.ref ty), .val (.ref b5), .unset]) rfl) ?_
          show Go p.tables e below _ (T9.setTop (mkF m 101 #[.val (.int p0), .val (.int p1), .val (.int p2), .val (.int (0 : Int32)), .val (.int nn), .val (.int vu), .val (.int nl), .val (.ref ty), .val (.ref b5), .unset] []))
          refine Go.by (fun _ => XS.aload X9.here hx rfl (hb hby at_101) rfl rfl) ?_
          show Go p.tables e below _ (T9.setTop (mkF m 103 #[.val (.int p0), .val (.int p1), .val (.int p2), .val (.int (0 : Int32)), .val (.int nn), .val (.int vu), .val (.int nl), .val (.ref ty), .val (.ref b5), .unset] [(.ref b5)]))
          obtain ⟨v11, T11, h11, X11, q11, st11⟩ := X9.callV hx hZ (y := (⟨"com/example/interlace/interlace/Column", "typeModifier", "()I"⟩ : MethodName)) (z := (⟨"com/example/interlace/interlace/Column", "typeModifier", "()I"⟩ : MethodName)) hown (tw hw 59 rfl) (tw hw 60 rfl) (notFace_of_selects (args := #[]) (mvT hZ (tw hw 62 rfl))) (tw hw 62 rfl) (tw hw 61 rfl) (tw hw 5 rfl) (tw hw 63 rfl) (by decide) (rm10 l Z a0 hw [] b5 nl h9 n0 Zs10 Fm9) Ex9 (g := (mkF m 103 #[.val (.int p0), .val (.int p1), .val (.int p2), .val (.int (0 : Int32)), .val (.int nn), .val (.int vu), .val (.int nl), .val (.ref ty), .val (.ref b5), .unset] [(.ref b5)])) rfl (by rw [hml]; rfl) (argsL := []) (rest := []) (lenOf pd8 rfl) rfl (hb hby at_103) rfl (by decide) (Nat.le_of_ble_eq_true rfl) (k' := 3) (n' := 10) rfl rfl (by decide) (by decide)
          refine Go.by st11 ?_
          rcases q11 with ⟨⟨ht11, rfl⟩ | ⟨ht11, rfl⟩, rfl⟩
          · skip
            show Go p.tables e below _ (T11.setTop (mkF m 106 #[.val (.int p0), .val (.int p1), .val (.int p2), .val (.int (0 : Int32)), .val (.int nn), .val (.int vu), .val (.int nl), .val (.ref ty), .val (.ref b5), .unset] [(.int (-1 : Int32))]))
            refine Go.by (fun _ => XS.istore X11.here hx rfl (hb hby at_106) rfl (l' := #[.val (.int p0), .val (.int p1), .val (.int p2), .val (.int (0 : Int32)), .val (.int nn), .val (.int vu), .val (.int nl), .val (.ref ty), .val (.ref b5), .val (.int (-1 : Int32))]) rfl) ?_
            show Go p.tables e below _ (T11.setTop (mkF m 108 #[.val (.int p0), .val (.int p1), .val (.int p2), .val (.int (0 : Int32)), .val (.int nn), .val (.int vu), .val (.int nl), .val (.ref ty), .val (.ref b5), .val (.int (-1 : Int32))] []))
            refine Go.by (fun _ => XS.iloadN X11.here hx rfl (hb hby at_108) rfl) ?_
            show Go p.tables e below _ (T11.setTop (mkF m 109 #[.val (.int p0), .val (.int p1), .val (.int p2), .val (.int (0 : Int32)), .val (.int nn), .val (.int vu), .val (.int nl), .val (.ref ty), .val (.ref b5), .val (.int (-1 : Int32))] [(.int (0 : Int32))]))
            refine Go.by (fun _ => XS.ifYes X11.here hx rfl (pc0 := 109) (pc' := 124) rfl (hb hby at_109) rfl ((if0 _ _).trans (teq (by decide)).1) (by decide) (by decide)) ?_
            show Go p.tables e below _ (T11.setTop (mkF m 124 #[.val (.int p0), .val (.int p1), .val (.int p2), .val (.int (0 : Int32)), .val (.int nn), .val (.int vu), .val (.int nl), .val (.ref ty), .val (.ref b5), .val (.int (-1 : Int32))] []))
            refine Go.by (fun _ => XS.iload X11.here hx rfl (hb hby at_124) rfl) ?_
            show Go p.tables e below _ (T11.setTop (mkF m 126 #[.val (.int p0), .val (.int p1), .val (.int p2), .val (.int (0 : Int32)), .val (.int nn), .val (.int vu), .val (.int nl), .val (.ref ty), .val (.ref b5), .val (.int (-1 : Int32))] [(.int (-1 : Int32))]))
            refine Go.by (fun _ => XS.iconst X11.here hx rfl (hb hby at_126)) ?_
            show Go p.tables e below _ (T11.setTop (mkF m 127 #[.val (.int p0), .val (.int p1), .val (.int p2), .val (.int (0 : Int32)), .val (.int nn), .val (.int vu), .val (.int nl), .val (.ref ty), .val (.ref b5), .val (.int (-1 : Int32))] [(.int (4 : Int32)), (.int (-1 : Int32))]))
            refine Go.by (fun _ => XS.isub X11.here hx rfl (hb hby at_127) rfl) ?_
            show Go p.tables e below _ (T11.setTop (mkF m 128 #[.val (.int p0), .val (.int p1), .val (.int p2), .val (.int (0 : Int32)), .val (.int nn), .val (.int vu), .val (.int nl), .val (.ref ty), .val (.ref b5), .val (.int (-1 : Int32))] [(.int (-5 : Int32))]))
            refine Go.by (fun _ => XS.iload X11.here hx rfl (hb hby at_128) rfl) ?_
            show Go p.tables e below _ (T11.setTop (mkF m 130 #[.val (.int p0), .val (.int p1), .val (.int p2), .val (.int (0 : Int32)), .val (.int nn), .val (.int vu), .val (.int nl), .val (.ref ty), .val (.ref b5), .val (.int (-1 : Int32))] [(.int nl), (.int (-5 : Int32))]))
            by_cases hc130_12 : (-5 : Int32) = nl
            · skip
              refine Go.by (fun _ => XS.icmpNo X11.here hx rfl (hb hby at_130) rfl (teq hc130_12).2) ?_
              show Go p.tables e below _ (T11.setTop (mkF m 133 #[.val (.int p0), .val (.int p1), .val (.int p2), .val (.int (0 : Int32)), .val (.int nn), .val (.int vu), .val (.int nl), .val (.ref ty), .val (.ref b5), .val (.int (-1 : Int32))] []))
              refine Go.by (fun _ => XS.iload X11.here hx rfl (hb hby at_133) rfl) ?_
              show Go p.tables e below _ (T11.setTop (mkF m 135 #[.val (.int p0), .val (.int p1), .val (.int p2), .val (.int (0 : Int32)), .val (.int nn), .val (.int vu), .val (.int nl), .val (.ref ty), .val (.ref b5), .val (.int (-1 : Int32))] [(.int (-1 : Int32))]))
              refine Go.by (fun _ => XS.iconst X11.here hx rfl (hb hby at_135)) ?_
              show Go p.tables e below _ (T11.setTop (mkF m 136 #[.val (.int p0), .val (.int p1), .val (.int p2), .val (.int (0 : Int32)), .val (.int nn), .val (.int vu), .val (.int nl), .val (.ref ty), .val (.ref b5), .val (.int (-1 : Int32))] [(.int (5 : Int32)), (.int (-1 : Int32))]))
              refine Go.by (fun _ => XS.icmpYes X11.here hx rfl (pc0 := 136) (pc' := 150) rfl (hb hby at_136) rfl (tlt (by decide)).1 (by decide) (by decide)) ?_
              show Go p.tables e below _ (T11.setTop (mkF m 150 #[.val (.int p0), .val (.int p1), .val (.int p2), .val (.int (0 : Int32)), .val (.int nn), .val (.int vu), .val (.int nl), .val (.ref ty), .val (.ref b5), .val (.int (-1 : Int32))] []))
              refine Go.by (fun _ => XS.iconst X11.here hx rfl (hb hby at_150)) ?_
              show Go p.tables e below _ (T11.setTop (mkF m 151 #[.val (.int p0), .val (.int p1), .val (.int p2), .val (.int (0 : Int32)), .val (.int nn), .val (.int vu), .val (.int nl), .val (.ref ty), .val (.ref b5), .val (.int (-1 : Int32))] [(.int (0 : Int32))]))
              refine Go.retN X11 hx hlk (z' := (0 : Int32)) hret (by simp) (hb hby at_151) rfl (by decide) (by decide) ?_
              exfalso
              simp only [Int32.lt_iff_toInt_lt, ← Int32.toInt_inj, Int32.reduceToInt] at ht11 hc130_12
              omega
            · skip
              refine Go.by (fun _ => XS.icmpYes X11.here hx rfl (pc0 := 130) (pc' := 150) rfl (hb hby at_130) rfl (feq hc130_12).2 (by decide) (by decide)) ?_
              show Go p.tables e below _ (T11.setTop (mkF m 150 #[.val (.int p0), .val (.int p1), .val (.int p2), .val (.int (0 : Int32)), .val (.int nn), .val (.int vu), .val (.int nl), .val (.ref ty), .val (.ref b5), .val (.int (-1 : Int32))] []))
              refine Go.by (fun _ => XS.iconst X11.here hx rfl (hb hby at_150)) ?_
              show Go p.tables e below _ (T11.setTop (mkF m 151 #[.val (.int p0), .val (.int p1), .val (.int p2), .val (.int (0 : Int32)), .val (.int nn), .val (.int vu), .val (.int nl), .val (.ref ty), .val (.ref b5), .val (.int (-1 : Int32))] [(.int (0 : Int32))]))
              refine Go.retN X11 hx hlk (z' := (0 : Int32)) hret (by simp) (hb hby at_151) rfl (by decide) (by decide) ?_
              exfalso
              simp only [Int32.lt_iff_toInt_lt, ← Int32.toInt_inj, Int32.reduceToInt] at ht11 hc130_12
              omega
          · skip
            show Go p.tables e below _ (T11.setTop (mkF m 106 #[.val (.int p0), .val (.int p1), .val (.int p2), .val (.int (0 : Int32)), .val (.int nn), .val (.int vu), .val (.int nl), .val (.ref ty), .val (.ref b5), .unset] [(.int (nl + (4 : Int32)))]))
            refine Go.by (fun _ => XS.istore X11.here hx rfl (hb hby at_106) rfl (l' := #[.val (.int p0), .val (.int p1), .val (.int p2), .val (.int (0 : Int32)), .val (.int nn), .val (.int vu), .val (.int nl), .val (.ref ty), .val (.ref b5), .val (.int (nl + (4 : Int32)))]) rfl) ?_
            show Go p.tables e below _ (T11.setTop (mkF m 108 #[.val (.int p0), .val (.int p1), .val (.int p2), .val (.int (0 : Int32)), .val (.int nn), .val (.int vu), .val (.int nl), .val (.ref ty), .val (.ref b5), .val (.int (nl + (4 : Int32)))] []))
            refine Go.by (fun _ => XS.iloadN X11.here hx rfl (hb hby at_108) rfl) ?_
            show Go p.tables e below _ (T11.setTop (mkF m 109 #[.val (.int p0), .val (.int p1), .val (.int p2), .val (.int (0 : Int32)), .val (.int nn), .val (.int vu), .val (.int nl), .val (.ref ty), .val (.ref b5), .val (.int (nl + (4 : Int32)))] [(.int (0 : Int32))]))
            refine Go.by (fun _ => XS.ifYes X11.here hx rfl (pc0 := 109) (pc' := 124) rfl (hb hby at_109) rfl ((if0 _ _).trans (teq (by decide)).1) (by decide) (by decide)) ?_
            show Go p.tables e below _ (T11.setTop (mkF m 124 #[.val (.int p0), .val (.int p1), .val (.int p2), .val (.int (0 : Int32)), .val (.int nn), .val (.int vu), .val (.int nl), .val (.ref ty), .val (.ref b5), .val (.int (nl + (4 : Int32)))] []))
            refine Go.by (fun _ => XS.iload X11.here hx rfl (hb hby at_124) rfl) ?_
            show Go p.tables e below _ (T11.setTop (mkF m 126 #[.val (.int p0), .val (.int p1), .val (.int p2), .val (.int (0 : Int32)), .val (.int nn), .val (.int vu), .val (.int nl), .val (.ref ty), .val (.ref b5), .val (.int (nl + (4 : Int32)))] [(.int (nl + (4 : Int32)))]))
            refine Go.by (fun _ => XS.iconst X11.here hx rfl (hb hby at_126)) ?_
            show Go p.tables e below _ (T11.setTop (mkF m 127 #[.val (.int p0), .val (.int p1), .val (.int p2), .val (.int (0 : Int32)), .val (.int nn), .val (.int vu), .val (.int nl), .val (.ref ty), .val (.ref b5), .val (.int (nl + (4 : Int32)))] [(.int (4 : Int32)), (.int (nl + (4 : Int32)))]))
            refine Go.by (fun _ => XS.isub X11.here hx rfl (hb hby at_127) rfl) ?_
            show Go p.tables e below _ (T11.setTop (mkF m 128 #[.val (.int p0), .val (.int p1), .val (.int p2), .val (.int (0 : Int32)), .val (.int nn), .val (.int vu), .val (.int nl), .val (.ref ty), .val (.ref b5), .val (.int (nl + (4 : Int32)))] [(.int ((nl + (4 : Int32)) - (4 : Int32)))]))
            refine Go.by (fun _ => XS.iload X11.here hx rfl (hb hby at_128) rfl) ?_
            show Go p.tables e below _ (T11.setTop (mkF m 130 #[.val (.int p0), .val (.int p1), .val (.int p2), .val (.int (0 : Int32)), .val (.int nn), .val (.int vu), .val (.int nl), .val (.ref ty), .val (.ref b5), .val (.int (nl + (4 : Int32)))] [(.int nl), (.int ((nl + (4 : Int32)) - (4 : Int32)))]))
            by_cases hc130_13 : ((nl + (4 : Int32)) - (4 : Int32)) = nl
            · skip
              refine Go.by (fun _ => XS.icmpNo X11.here hx rfl (hb hby at_130) rfl (teq hc130_13).2) ?_
              show Go p.tables e below _ (T11.setTop (mkF m 133 #[.val (.int p0), .val (.int p1), .val (.int p2), .val (.int (0 : Int32)), .val (.int nn), .val (.int vu), .val (.int nl), .val (.ref ty), .val (.ref b5), .val (.int (nl + (4 : Int32)))] []))
              refine Go.by (fun _ => XS.iload X11.here hx rfl (hb hby at_133) rfl) ?_
              show Go p.tables e below _ (T11.setTop (mkF m 135 #[.val (.int p0), .val (.int p1), .val (.int p2), .val (.int (0 : Int32)), .val (.int nn), .val (.int vu), .val (.int nl), .val (.ref ty), .val (.ref b5), .val (.int (nl + (4 : Int32)))] [(.int (nl + (4 : Int32)))]))
              refine Go.by (fun _ => XS.iconst X11.here hx rfl (hb hby at_135)) ?_
              show Go p.tables e below _ (T11.setTop (mkF m 136 #[.val (.int p0), .val (.int p1), .val (.int p2), .val (.int (0 : Int32)), .val (.int nn), .val (.int vu), .val (.int nl), .val (.ref ty), .val (.ref b5), .val (.int (nl + (4 : Int32)))] [(.int (5 : Int32)), (.int (nl + (4 : Int32)))]))
              by_cases hc136_14 : (nl + (4 : Int32)) < (5 : Int32)
              · skip
                refine Go.by (fun _ => XS.icmpYes X11.here hx rfl (pc0 := 136) (pc' := 150) rfl (hb hby at_136) rfl (tlt hc136_14).1 (by decide) (by decide)) ?_
                show Go p.tables e below _ (T11.setTop (mkF m 150 #[.val (.int p0), .val (.int p1), .val (.int p2), .val (.int (0 : Int32)), .val (.int nn), .val (.int vu), .val (.int nl), .val (.ref ty), .val (.ref b5), .val (.int (nl + (4 : Int32)))] []))
                refine Go.by (fun _ => XS.iconst X11.here hx rfl (hb hby at_150)) ?_
                show Go p.tables e below _ (T11.setTop (mkF m 151 #[.val (.int p0), .val (.int p1), .val (.int p2), .val (.int (0 : Int32)), .val (.int nn), .val (.int vu), .val (.int nl), .val (.ref ty), .val (.ref b5), .val (.int (nl + (4 : Int32)))] [(.int (0 : Int32))]))
                refine Go.retN X11 hx hlk (z' := (0 : Int32)) hret (by simp) (hb hby at_151) rfl (by decide) (by decide) ?_
                exfalso
                have q1 := c_iadd nl 4
                have q2 := rng32 (nl + 4)
                have q3 := c_isub (nl + 4) 4
                have q4 := rng32 (nl + 4 - 4)
                simp only [Int32.lt_iff_toInt_lt, ← Int32.toInt_inj, Int32.reduceToInt] at ht11 hc130_13 hc136_14 q1 q3
                omega
              · skip
                refine Go.by (fun _ => XS.icmpNo X11.here hx rfl (hb hby at_136) rfl (flt hc136_14).1) ?_
                show Go p.tables e below _ (T11.setTop (mkF m 139 #[.val (.int p0), .val (.int p1), .val (.int p2), .val (.int (0 : Int32)), .val (.int nn), .val (.int vu), .val (.int nl), .val (.ref ty), .val (.ref b5), .val (.int (nl + (4 : Int32)))] []))
                refine Go.by (fun _ => XS.iload X11.here hx rfl (hb hby at_139) rfl) ?_
                show Go p.tables e below _ (T11.setTop (mkF m 141 #[.val (.int p0), .val (.int p1), .val (.int p2), .val (.int (0 : Int32)), .val (.int nn), .val (.int vu), .val (.int nl), .val (.ref ty), .val (.ref b5), .val (.int (nl + (4 : Int32)))] [(.int (nl + (4 : Int32)))]))
                refine Go.by (X11.ldcInt hx hZ hown (tw hw 68 rfl) (g := (mkF m 141 #[.val (.int p0), .val (.int p1), .val (.int p2), .val (.int (0 : Int32)), .val (.int nn), .val (.int vu), .val (.int nl), .val (.ref ty), .val (.ref b5), .val (.int (nl + (4 : Int32)))] [(.int (nl + (4 : Int32)))])) rfl (hb hby at_141)) ?_
                show Go p.tables e below _ (T11.setTop (mkF m 143 #[.val (.int p0), .val (.int p1), .val (.int p2), .val (.int (0 : Int32)), .val (.int nn), .val (.int vu), .val (.int nl), .val (.ref ty), .val (.ref b5), .val (.int (nl + (4 : Int32)))] [(.int (10485764 : Int32)), (.int (nl + (4 : Int32)))]))
                by_cases hc143_15 : (10485764 : Int32) < (nl + (4 : Int32))
                · skip
                  refine Go.by (fun _ => XS.icmpYes X11.here hx rfl (pc0 := 143) (pc' := 150) rfl (hb hby at_143) rfl (tlt hc143_15).2.2.1 (by decide) (by decide)) ?_
                  show Go p.tables e below _ (T11.setTop (mkF m 150 #[.val (.int p0), .val (.int p1), .val (.int p2), .val (.int (0 : Int32)), .val (.int nn), .val (.int vu), .val (.int nl), .val (.ref ty), .val (.ref b5), .val (.int (nl + (4 : Int32)))] []))
                  refine Go.by (fun _ => XS.iconst X11.here hx rfl (hb hby at_150)) ?_
                  show Go p.tables e below _ (T11.setTop (mkF m 151 #[.val (.int p0), .val (.int p1), .val (.int p2), .val (.int (0 : Int32)), .val (.int nn), .val (.int vu), .val (.int nl), .val (.ref ty), .val (.ref b5), .val (.int (nl + (4 : Int32)))] [(.int (0 : Int32))]))
                  refine Go.retN X11 hx hlk (z' := (0 : Int32)) hret (by simp) (hb hby at_151) rfl (by decide) (by decide) ?_
                  exfalso
                  have q1 := c_iadd nl 4
                  have q2 := rng32 (nl + 4)
                  have q3 := c_isub (nl + 4) 4
                  have q4 := rng32 (nl + 4 - 4)
                  simp only [Int32.lt_iff_toInt_lt, ← Int32.toInt_inj, Int32.reduceToInt] at ht11 hc130_13 hc136_14 hc143_15 q1 q3
                  omega
                · skip
                  refine Go.by (fun _ => XS.icmpNo X11.here hx rfl (hb hby at_143) rfl (flt hc143_15).2.2.1) ?_
                  show Go p.tables e below _ (T11.setTop (mkF m 146 #[.val (.int p0), .val (.int p1), .val (.int p2), .val (.int (0 : Int32)), .val (.int nn), .val (.int vu), .val (.int nl), .val (.ref ty), .val (.ref b5), .val (.int (nl + (4 : Int32)))] []))
                  refine Go.by (fun _ => XS.iconst X11.here hx rfl (hb hby at_146)) ?_
                  show Go p.tables e below _ (T11.setTop (mkF m 147 #[.val (.int p0), .val (.int p1), .val (.int p2), .val (.int (0 : Int32)), .val (.int nn), .val (.int vu), .val (.int nl), .val (.ref ty), .val (.ref b5), .val (.int (nl + (4 : Int32)))] [(.int (1 : Int32))]))
                  refine Go.by (fun _ => XS.goto X11.here hx rfl (pc0 := 147) (pc' := 151) rfl (hb hby at_147) (by decide) (by decide)) ?_
                  show Go p.tables e below _ (T11.setTop (mkF m 151 #[.val (.int p0), .val (.int p1), .val (.int p2), .val (.int (0 : Int32)), .val (.int nn), .val (.int vu), .val (.int nl), .val (.ref ty), .val (.ref b5), .val (.int (nl + (4 : Int32)))] [(.int (1 : Int32))]))
                  exact Go.retN X11 hx hlk (z' := (1 : Int32)) hret (by simp) (hb hby at_151) rfl (by decide) (by decide) rfl
            · skip
              refine Go.by (fun _ => XS.icmpYes X11.here hx rfl (pc0 := 130) (pc' := 150) rfl (hb hby at_130) rfl (feq hc130_13).2 (by decide) (by decide)) ?_
              show Go p.tables e below _ (T11.setTop (mkF m 150 #[.val (.int p0), .val (.int p1), .val (.int p2), .val (.int (0 : Int32)), .val (.int nn), .val (.int vu), .val (.int nl), .val (.ref ty), .val (.ref b5), .val (.int (nl + (4 : Int32)))] []))
              refine Go.by (fun _ => XS.iconst X11.here hx rfl (hb hby at_150)) ?_
              show Go p.tables e below _ (T11.setTop (mkF m 151 #[.val (.int p0), .val (.int p1), .val (.int p2), .val (.int (0 : Int32)), .val (.int nn), .val (.int vu), .val (.int nl), .val (.ref ty), .val (.ref b5), .val (.int (nl + (4 : Int32)))] [(.int (0 : Int32))]))
              refine Go.retN X11 hx hlk (z' := (0 : Int32)) hret (by simp) (hb hby at_151) rfl (by decide) (by decide) ?_
              exfalso
              have q1 := c_iadd nl 4
              have q2 := rng32 (nl + 4)
              have q3 := c_isub (nl + 4) 4
              have q4 := rng32 (nl + 4 - 4)
              simp only [Int32.lt_iff_toInt_lt, ← Int32.toInt_inj, Int32.reduceToInt] at ht11 hc130_13 q1 q3
              omega
        refine Go.by (fun _ => XS.iloadN Xj3.here hx rfl (hb hby at_57) rfl) ?_
        show Go p.tables e below _ (Tj3.setTop (mkF m 58 #[.val (.int p0), .val (.int p1), .val (.int p2), .val (.int (0 : Int32)), .val (.int nn), .val (.int vu), .val (.int nl), .unset, .unset, .unset] [(.int (0 : Int32))]))
        refine Go.by (fun _ => XS.ifYes Xj3.here hx rfl (pc0 := 58) (pc' := 72) rfl (hb hby at_58) rfl ((if0 _ _).trans (teq (by decide)).1) (by decide) (by decide)) ?_
        show Go p.tables e below _ (Tj3.setTop (mkF m 72 #[.val (.int p0), .val (.int p1), .val (.int p2), .val (.int (0 : Int32)), .val (.int nn), .val (.int vu), .val (.int nl), .unset, .unset, .unset] []))
        obtain ⟨T16, X16, st16⟩ := Xj3.getS hx hZ hown (host := "") (Or.inl (tw hw 66 rfl)) Via.refl S_VARCHAR (g := (mkF m 72 #[.val (.int p0), .val (.int p1), .val (.int p2), .val (.int (0 : Int32)), .val (.int nn), .val (.int vu), .val (.int nl), .unset, .unset, .unset] [])) rfl (hb hby at_72)
        refine Go.by st16 ?_
        show Go p.tables e below _ (T16.setTop (mkF m 75 #[.val (.int p0), .val (.int p1), .val (.int p2), .val (.int (0 : Int32)), .val (.int nn), .val (.int vu), .val (.int nl), .unset, .unset, .unset] [(.ref a_VARCHAR)]))
        exact J4 _ X16 _ trivial
      by_cases hc28_17 : (p1 &&& (4 : Int32)) = (0 : Int32)
      · skip
        refine Go.by (fun _ => XS.ifYes Xj2.here hx rfl (pc0 := 28) (pc' := 35) rfl (hb hby at_28) rfl ((if0 _ _).trans (teq hc28_17).1) (by decide) (by decide)) ?_
        show Go p.tables e below _ (Tj2.setTop (mkF m 35 #[.val (.int p0), .val (.int p1), .val (.int p2), .val (.int (0 : Int32)), .val (.int nn), .unset, .unset, .unset, .unset, .unset] []))
        refine Go.by (fun _ => XS.iconst Xj2.here hx rfl (hb hby at_35)) ?_
        show Go p.tables e below _ (Tj2.setTop (mkF m 36 #[.val (.int p0), .val (.int p1), .val (.int p2), .val (.int (0 : Int32)), .val (.int nn), .unset, .unset, .unset, .unset, .unset] [(.int (0 : Int32))]))
        exact J3 _ Xj2 _ trivial
      · skip
        refine Go.by (fun _ => XS.ifNo Xj2.here hx rfl (hb hby at_28) rfl ((if0 _ _).trans (feq hc28_17).1)) ?_
        show Go p.tables e below _ (Tj2.setTop (mkF m 31 #[.val (.int p0), .val (.int p1), .val (.int p2), .val (.int (0 : Int32)), .val (.int nn), .unset, .unset, .unset, .unset, .unset] []))
        refine Go.by (fun _ => XS.iconst Xj2.here hx rfl (hb hby at_31)) ?_
        show Go p.tables e below _ (Tj2.setTop (mkF m 32 #[.val (.int p0), .val (.int p1), .val (.int p2), .val (.int (0 : Int32)), .val (.int nn), .unset, .unset, .unset, .unset, .unset] [(.int (1 : Int32))]))
        refine Go.by (fun _ => XS.goto Xj2.here hx rfl (pc0 := 32) (pc' := 36) rfl (hb hby at_32) (by decide) (by decide)) ?_
        show Go p.tables e below _ (Tj2.setTop (mkF m 36 #[.val (.int p0), .val (.int p1), .val (.int p2), .val (.int (0 : Int32)), .val (.int nn), .unset, .unset, .unset, .unset, .unset] [(.int (1 : Int32))]))
        exact J3 _ Xj2 _ trivial
    by_cases hc15_18 : (p1 &&& (2 : Int32)) = (0 : Int32)
    · skip
      refine Go.by (fun _ => XS.ifYes X0.here hx rfl (pc0 := 15) (pc' := 22) rfl (hb hby at_15) rfl ((if0 _ _).trans (teq hc15_18).1) (by decide) (by decide)) ?_
      show Go p.tables e below _ (T0.setTop (mkF m 22 #[.val (.int p0), .val (.int p1), .val (.int p2), .val (.int (0 : Int32)), .unset, .unset, .unset, .unset, .unset, .unset] []))
      refine Go.by (fun _ => XS.iconst X0.here hx rfl (hb hby at_22)) ?_
      show Go p.tables e below _ (T0.setTop (mkF m 23 #[.val (.int p0), .val (.int p1), .val (.int p2), .val (.int (0 : Int32)), .unset, .unset, .unset, .unset, .unset, .unset] [(.int (0 : Int32))]))
      exact J2 _ X0 _ trivial
    · skip
      refine Go.by (fun _ => XS.ifNo X0.here hx rfl (hb hby at_15) rfl ((if0 _ _).trans (feq hc15_18).1)) ?_
      show Go p.tables e below _ (T0.setTop (mkF m 18 #[.val (.int p0), .val (.int p1), .val (.int p2), .val (.int (0 : Int32)), .unset, .unset, .unset, .unset, .unset, .unset] []))
      refine Go.by (fun _ => XS.iconst X0.here hx rfl (hb hby at_18)) ?_
      show Go p.tables e below _ (T0.setTop (mkF m 19 #[.val (.int p0), .val (.int p1), .val (.int p2), .val (.int (0 : Int32)), .unset, .unset, .unset, .unset, .unset, .unset] [(.int (1 : Int32))]))
      refine Go.by (fun _ => XS.goto X0.here hx rfl (pc0 := 19) (pc' := 23) rfl (hb hby at_19) (by decide) (by decide)) ?_
      show Go p.tables e below _ (T0.setTop (mkF m 23 #[.val (.int p0), .val (.int p1), .val (.int p2), .val (.int (0 : Int32)), .unset, .unset, .unset, .unset, .unset, .unset] [(.int (1 : Int32))]))
      exact J2 _ X0 _ trivial
  · skip
    refine Go.by (fun _ => XS.ifNo X0.here hx rfl (hb hby at_3) rfl ((if0 _ _).trans (feq hc3_1).1)) ?_
    show Go p.tables e below _ (T0.setTop (mkF m 6 #[.val (.int p0), .val (.int p1), .val (.int p2), .unset, .unset, .unset, .unset, .unset, .unset, .unset] []))
    refine Go.by (fun _ => XS.iconst X0.here hx rfl (hb hby at_6)) ?_
    show Go p.tables e below _ (T0.setTop (mkF m 7 #[.val (.int p0), .val (.int p1), .val (.int p2), .unset, .unset, .unset, .unset, .unset, .unset, .unset] [(.int (1 : Int32))]))
    refine Go.by (fun _ => XS.goto X0.here hx rfl (pc0 := 7) (pc' := 11) rfl (hb hby at_7) (by decide) (by decide)) ?_
    show Go p.tables e below _ (T0.setTop (mkF m 11 #[.val (.int p0), .val (.int p1), .val (.int p2), .unset, .unset, .unset, .unset, .unset, .unset, .unset] [(.int (1 : Int32))]))
    refine Go.by (fun _ => XS.istoreN X0.here hx rfl (hb hby at_11) rfl (l' := #[.val (.int p0), .val (.int p1), .val (.int p2), .val (.int (1 : Int32)), .unset, .unset, .unset, .unset, .unset, .unset]) rfl) ?_
    show Go p.tables e below _ (T0.setTop (mkF m 12 #[.val (.int p0), .val (.int p1), .val (.int p2), .val (.int (1 : Int32)), .unset, .unset, .unset, .unset, .unset, .unset] []))
    refine Go.by (fun _ => XS.iloadN X0.here hx rfl (hb hby at_12) rfl) ?_
    show Go p.tables e below _ (T0.setTop (mkF m 13 #[.val (.int p0), .val (.int p1), .val (.int p2), .val (.int (1 : Int32)), .unset, .unset, .unset, .unset, .unset, .unset] [(.int p1)]))
    refine Go.by (fun _ => XS.iconst X0.here hx rfl (hb hby at_13)) ?_
    show Go p.tables e below _ (T0.setTop (mkF m 14 #[.val (.int p0), .val (.int p1), .val (.int p2), .val (.int (1 : Int32)), .unset, .unset, .unset, .unset, .unset, .unset] [(.int (2 : Int32)), (.int p1)]))
    refine Go.by (fun _ => XS.iand X0.here hx rfl (hb hby at_14) rfl) ?_
    show Go p.tables e below _ (T0.setTop (mkF m 15 #[.val (.int p0), .val (.int p1), .val (.int p2), .val (.int (1 : Int32)), .unset, .unset, .unset, .unset, .unset, .unset] [(.int (p1 &&& (2 : Int32)))]))
    have J19 : ∀ (Tj19 : State), Sd n0 p l e room_1 s m #[(.int p0), (.int p1), (.int p2)] below meth c Tj19 h0 0 0 → ∀ (nn : Int32), True → Go p.tables e below (Ret s n0 (fun v h => v = some (.int 1)) room_1.cells room_1.slots) (Tj19.setTop (mkF m 23 #[.val (.int p0), .val (.int p1), .val (.int p2), .val (.int (1 : Int32)), .unset, .unset, .unset, .unset, .unset, .unset] [(.int nn)])) := by
      intro Tj19 Xj19 nn hj19
      refine Go.by (fun _ => XS.istore Xj19.here hx rfl (hb hby at_23) rfl (l' := #[.val (.int p0), .val (.int p1), .val (.int p2), .val (.int (1 : Int32)), .val (.int nn), .unset, .unset, .unset, .unset, .unset]) rfl) ?_
      show Go p.tables e below _ (Tj19.setTop (mkF m 25 #[.val (.int p0), .val (.int p1), .val (.int p2), .val (.int (1 : Int32)), .val (.int nn), .unset, .unset, .unset, .unset, .unset] []))
      refine Go.by (fun _ => XS.iloadN Xj19.here hx rfl (hb hby at_25) rfl) ?_
      show Go p.tables e below _ (Tj19.setTop (mkF m 26 #[.val (.int p0), .val (.int p1), .val (.int p2), .val (.int (1 : Int32)), .val (.int nn), .unset, .unset, .unset, .unset, .unset] [(.int p1)]))
      refine Go.by (fun _ => XS.iconst Xj19.here hx rfl (hb hby at_26)) ?_
      show Go p.tables e below _ (Tj19.setTop (mkF m 27 #[.val (.int p0), .val (.int p1), .val (.int p2), .val (.int (1 : Int32)), .val (.int nn), .unset, .unset, .unset, .unset, .unset] [(.int (4 : Int32)), (.int p1)]))
      refine Go.by (fun _ => XS.iand Xj19.here hx rfl (hb hby at_27) rfl) ?_
      show Go p.tables e below _ (Tj19.setTop (mkF m 28 #[.val (.int p0), .val (.int p1), .val (.int p2), .val (.int (1 : Int32)), .val (.int nn), .unset, .unset, .unset, .unset, .unset] [(.int (p1 &&& (4 : Int32)))]))
      have J20 : ∀ (Tj20 : State), Sd n0 p l e room_1 s m #[(.int p0), (.int p1), (.int p2)] below meth c Tj20 h0 0 0 → ∀ (vu : Int32), True → Go p.tables e below (Ret s n0 (fun v h => v = some (.int 1)) room_1.cells room_1.slots) (Tj20.setTop (mkF m 36 #[.val (.int p0), .val (.int p1), .val (.int p2), .val (.int (1 : Int32)), .val (.int nn), .unset, .unset, .unset, .unset, .unset] [(.int vu)])) := by
        intro Tj20 Xj20 vu hj20
        refine Go.by (fun _ => XS.istore Xj20.here hx rfl (hb hby at_36) rfl (l' := #[.val (.int p0), .val (.int p1), .val (.int p2), .val (.int (1 : Int32)), .val (.int nn), .val (.int vu), .unset, .unset, .unset, .unset]) rfl) ?_
        show Go p.tables e below _ (Tj20.setTop (mkF m 38 #[.val (.int p0), .val (.int p1), .val (.int p2), .val (.int (1 : Int32)), .val (.int nn), .val (.int vu), .unset, .unset, .unset, .unset] []))
        refine Go.by (fun _ => XS.iloadN Xj20.here hx rfl (hb hby at_38) rfl) ?_
        show Go p.tables e below _ (Tj20.setTop (mkF m 39 #[.val (.int p0), .val (.int p1), .val (.int p2), .val (.int (1 : Int32)), .val (.int nn), .val (.int vu), .unset, .unset, .unset, .unset] [(.int (1 : Int32))]))
        refine Go.by (fun _ => XS.ifNo Xj20.here hx rfl (hb hby at_39) rfl ((if0 _ _).trans (feq (by decide)).1)) ?_
        show Go p.tables e below _ (Tj20.setTop (mkF m 42 #[.val (.int p0), .val (.int p1), .val (.int p2), .val (.int (1 : Int32)), .val (.int nn), .val (.int vu), .unset, .unset, .unset, .unset] []))
        refine Go.by (fun _ => XS.iconst Xj20.here hx rfl (hb hby at_42)) ?_
        show Go p.tables e below _ (Tj20.setTop (mkF m 43 #[.val (.int p0), .val (.int p1), .val (.int p2), .val (.int (1 : Int32)), .val (.int nn), .val (.int vu), .unset, .unset, .unset, .unset] [(.int (-1 : Int32))]))
        refine Go.by (fun _ => XS.goto Xj20.here hx rfl (pc0 := 43) (pc' := 55) rfl (hb hby at_43) (by decide) (by decide)) ?_
        show Go p.tables e below _ (Tj20.setTop (mkF m 55 #[.val (.int p0), .val (.int p1), .val (.int p2), .val (.int (1 : Int32)), .val (.int nn), .val (.int vu), .unset, .unset, .unset, .unset] [(.int (-1 : Int32))]))
        refine Go.by (fun _ => XS.istore Xj20.here hx rfl (hb hby at_55) rfl (l' := #[.val (.int p0), .val (.int p1), .val (.int p2), .val (.int (1 : Int32)), .val (.int nn), .val (.int vu), .val (.int (-1 : Int32)), .unset, .unset, .unset]) rfl) ?_
        show Go p.tables e below _ (Tj20.setTop (mkF m 57 #[.val (.int p0), .val (.int p1), .val (.int p2), .val (.int (1 : Int32)), .val (.int nn), .val (.int vu), .val (.int (-1 : Int32)), .unset, .unset, .unset] []))
        have J21 : ∀ (Tj21 : State), Sd n0 p l e room_1 s m #[(.int p0), (.int p1), (.int p2)] below meth c Tj21 h0 0 0 → ∀ (ty : Addr), True → Go p.tables e below (Ret s n0 (fun v h => v = some (.int 1)) room_1.cells room_1.slots) (Tj21.setTop (mkF m 75 #[.val (.int p0), .val (.int p1), .val (.int p2), .val (.int (1 : Int32)), .val (.int nn), .val (.int vu), .val (.int (-1 : Int32)), .unset, .unset, .unset] [(.ref ty)])) := by
          intro Tj21 Xj21 ty hj21
          refine Go.by (fun _ => XS.astore Xj21.here hx rfl (hb hby at_75) rfl rfl (l' := #[.val (.int p0), .val (.int p1), .val (.int p2), .val (.int (1 : Int32)), .val (.int nn), .val (.int vu), .val (.int (-1 : Int32)), .val (.ref ty), .unset, .unset]) rfl) ?_
          show Go p.tables e below _ (Tj21.setTop (mkF m 77 #[.val (.int p0), .val (.int p1), .val (.int p2), .val (.int (1 : Int32)), .val (.int nn), .val (.int vu), .val (.int (-1 : Int32)), .val (.ref ty), .unset, .unset] []))
          obtain ⟨T22, h22, b22, X22, g22, E22, A22, D22, st22⟩ := Xj21.newO hx hZ hown (tw hw 3 rfl) (tw hw 4 rfl) (tw hw 5 rfl) (g := (mkF m 77 #[.val (.int p0), .val (.int p1), .val (.int p2), .val (.int (1 : Int32)), .val (.int nn), .val (.int vu), .val (.int (-1 : Int32)), .val (.ref ty), .unset, .unset] [])) rfl (hb hby at_77) (k' := 1) (n' := 5) rfl rfl (by decide) (by decide)
          have g_b22 : n0 ≤ b22 := by rw [g22]; exact Z0
          have ne_a_TEXT_b22 : a_TEXT ≠ b22 := Nat.ne_of_lt (by rw [g22]; exact E_TEXT.lt)
          have ne_a_VARCHAR_b22 : a_VARCHAR ≠ b22 := Nat.ne_of_lt (by rw [g22]; exact E_VARCHAR.lt)
          have f23_347 := S_TEXT.ext E22
          have f23_348 := E_TEXT.ext E22
          have f23_349 := S_VARCHAR.ext E22
          have f23_350 := E_VARCHAR.ext E22
          have f23_351 := O0.ext E22
          have Zs23 : n0 ≤ h22.size := Nat.le_trans Z0 E22.1
          have F22_name : Fld Z h22 b22 "com/example/interlace/interlace/Column" "name" "Ljava/lang/String;" .null := D22 (Or.inr (tw hw 50 rfl)) (ty := (.object "java/lang/String")) (by decide)
          have F22_type : Fld Z h22 b22 "com/example/interlace/interlace/Column" "type" "Lcom/example/interlace/interlace/DataType;" .null := D22 (Or.inr (tw hw 52 rfl)) (ty := (.object "com/example/interlace/interlace/DataType")) (by decide)
          have F22_maxLength : Fld Z h22 b22 "com/example/interlace/interlace/Column" "maxLength" "I" (.int (0 : Int32)) := D22 (Or.inr (tw hw 54 rfl)) (ty := .int) (by decide)
          have F22_notNull : Fld Z h22 b22 "com/example/interlace/interlace/Column" "notNull" "Z" (.int (0 : Int32)) := D22 (Or.inr (tw hw 56 rfl)) (ty := .boolean) (by decide)
          have F22_defaultExpression : Fld Z h22 b22 "com/example/interlace/interlace/Column" "defaultExpression" "Ljava/util/Optional;" .null := D22 (Or.inr (tw hw 58 rfl)) (ty := (.object "java/util/Optional")) (by decide)
          refine Go.by st22 ?_
          show Go p.tables e below _ (T22.setTop (mkF m 80 #[.val (.int p0), .val (.int p1), .val (.int p2), .val (.int (1 : Int32)), .val (.int nn), .val (.int vu), .val (.int (-1 : Int32)), .val (.ref ty), .unset, .unset] [(.ref b22)]))
          refine Go.by (fun _ => XS.dup X22.here hx rfl (hb hby at_80) rfl rfl) ?_
          show Go p.tables e below _ (T22.setTop (mkF m 81 #[.val (.int p0), .val (.int p1), .val (.int p2), .val (.int (1 : Int32)), .val (.int nn), .val (.int vu), .val (.int (-1 : Int32)), .val (.ref ty), .unset, .unset] [(.ref b22), (.ref b22)]))
          refine Go.by (fun _ => XS.iloadN X22.here hx rfl (hb hby at_81) rfl) ?_
          show Go p.tables e below _ (T22.setTop (mkF m 82 #[.val (.int p0), .val (.int p1), .val (.int p2), .val (.int (1 : Int32)), .val (.int nn), .val (.int vu), .val (.int (-1 : Int32)), .val (.ref ty), .unset, .unset] [(.int p2), (.ref b22), (.ref b22)]))
          refine Go.by (fun _ => XS.sipush X22.here hx rfl (hb hby at_82)) ?_
          show Go p.tables e below _ (T22.setTop (mkF m 85 #[.val (.int p0), .val (.int p1), .val (.int p2), .val (.int (1 : Int32)), .val (.int nn), .val (.int vu), .val (.int (-1 : Int32)), .val (.ref ty), .unset, .unset] [(.int (255 : Int32)), (.int p2), (.ref b22), (.ref b22)]))
          refine Go.by (fun _ => XS.iand X22.here hx rfl (hb hby at_85) rfl) ?_
          show Go p.tables e below _ (T22.setTop (mkF m 86 #[.val (.int p0), .val (.int p1), .val (.int p2), .val (.int (1 : Int32)), .val (.int nn), .val (.int vu), .val (.int (-1 : Int32)), .val (.ref ty), .unset, .unset] [(.int (p2 &&& (255 : Int32))), (.ref b22), (.ref b22)]))
          refine Go.by (fun _ => XS.i2c X22.here hx rfl (hb hby at_86) rfl) ?_
          show Go p.tables e below _ (T22.setTop (mkF m 87 #[.val (.int p0), .val (.int p1), .val (.int p2), .val (.int (1 : Int32)), .val (.int nn), .val (.int vu), .val (.int (-1 : Int32)), .val (.ref ty), .unset, .unset] [(.int ((p2 &&& (255 : Int32)).toUInt32.toUInt16.toUInt32.toInt32)), (.ref b22), (.ref b22)]))
          obtain ⟨v24, T24, h24, X24, q24, st24⟩ := X22.callS hx hZ (y := (⟨"java/lang/String", "valueOf", "(C)Ljava/lang/String;"⟩ : MethodName)) hown (tw hw 6 rfl) (tw hw 7 rfl) (tw hw 8 rfl) (tw hw 9 rfl) (by decide) (rm1 l Z a0 hw [] ((p2 &&& (255 : Int32)).toUInt32.toUInt16.toUInt32.toInt32) cs h22 n0 Zs23 f23_351 S_CS0 hcs (own_c _)) (g := (mkF m 87 #[.val (.int p0), .val (.int p1), .val (.int p2), .val (.int (1 : Int32)), .val (.int nn), .val (.int vu), .val (.int (-1 : Int32)), .val (.ref ty), .unset, .unset] [(.int ((p2 &&& (255 : Int32)).toUInt32.toUInt16.toUInt32.toInt32)), (.ref b22), (.ref b22)])) rfl (by rw [hml]; rfl) (argsL := [(.int ((p2 &&& (255 : Int32)).toUInt32.toUInt16.toUInt32.toInt32))]) (rest := [(.ref b22), (.ref b22)]) (lenOf pd6 rfl) rfl (hb hby at_87) rfl (by decide) (Nat.le_of_ble_eq_true rfl) (k' := 3) (n' := 10) rfl rfl (by decide) (by decide)
          refine Go.by st24 ?_
          obtain ⟨r24, d24, kc24, rfl, sr24, sd24, K24, Ex24, Fv24, Fc24, V24⟩ := q24
          have g_r24 : n0 ≤ r24 := Nat.le_trans Zs23 sr24
          have ne_a_TEXT_r24 : a_TEXT ≠ r24 := Nat.ne_of_lt (Nat.lt_of_lt_of_le f23_348.lt sr24)
          have ne_a_VARCHAR_r24 : a_VARCHAR ≠ r24 := Nat.ne_of_lt (Nat.lt_of_lt_of_le f23_350.lt sr24)
          have ne_b22_r24 : b22 ≠ r24 := Nat.ne_of_lt (Nat.lt_of_lt_of_le A22.lt sr24)
          have g_d24 : n0 ≤ d24 := Nat.le_trans Zs23 sd24
          have ne_a_TEXT_d24 : a_TEXT ≠ d24 := Nat.ne_of_lt (Nat.lt_of_lt_of_le f23_348.lt sd24)
          have ne_a_VARCHAR_d24 : a_VARCHAR ≠ d24 := Nat.ne_of_lt (Nat.lt_of_lt_of_le f23_350.lt sd24)
          have ne_b22_d24 : b22 ≠ d24 := Nat.ne_of_lt (Nat.lt_of_lt_of_le A22.lt sd24)
          have f25_381 := f23_347.ext (keep_ext K24)
          have f25_382 := f23_348.ext (keep_ext K24)
          have f25_383 := f23_349.ext (keep_ext K24)
          have f25_384 := f23_350.ext (keep_ext K24)
          have f25_385 := f23_351.ext (keep_ext K24)
          have f25_386 := A22.ext (keep_ext K24)
          have f25_387 := F22_name.ext (keep_ext K24)
          have f25_388 := F22_type.ext (keep_ext K24)
          have f25_389 := F22_maxLength.ext (keep_ext K24)
          have f25_390 := F22_notNull.ext (keep_ext K24)
          have f25_391 := F22_defaultExpression.ext (keep_ext K24)
          have Zs25 : n0 ≤ h24.size := Nat.le_trans Zs23 (keep_ext K24).1
          show Go p.tables e below _ (T24.setTop (mkF m 90 #[.val (.int p0), .val (.int p1), .val (.int p2), .val (.int (1 : Int32)), .val (.int nn), .val (.int vu), .val (.int (-1 : Int32)), .val (.ref ty), .unset, .unset] [(.ref r24), (.ref b22), (.ref b22)]))
          refine Go.by (fun _ => XS.aload X24.here hx rfl (hb hby at_90) rfl rfl) ?_
          show Go p.tables e below _ (T24.setTop (mkF m 92 #[.val (.int p0), .val (.int p1), .val (.int p2), .val (.int (1 : Int32)), .val (.int nn), .val (.int vu), .val (.int (-1 : Int32)), .val (.ref ty), .unset, .unset] [(.ref ty), (.ref r24), (.ref b22), (.ref b22)]))
          refine Go.by (fun _ => XS.iload X24.here hx rfl (hb hby at_92) rfl) ?_
          show Go p.tables e below _ (T24.setTop (mkF m 94 #[.val (.int p0), .val (.int p1), .val (.int p2), .val (.int (1 : Int32)), .val (.int nn), .val (.int vu), .val (.int (-1 : Int32)), .val (.ref ty), .unset, .unset] [(.int (-1 : Int32)), (.ref ty), (.ref r24), (.ref b22), (.ref b22)]))
          refine Go.by (fun _ => XS.iload X24.here hx rfl (hb hby at_94) rfl) ?_
          show Go p.tables e below _ (T24.setTop (mkF m 96 #[.val (.int p0), .val (.int p1), .val (.int p2), .val (.int (1 : Int32)), .val (.int nn), .val (.int vu), .val (.int (-1 : Int32)), .val (.ref ty), .unset, .unset] [(.int nn), (.int (-1 : Int32)), (.ref ty), (.ref r24), (.ref b22), (.ref b22)]))
          obtain ⟨v26, T26, h26, X26, q26, st26⟩ := X24.callI hx hZ (y := (⟨"com/example/interlace/interlace/Column", "<init>", "(Ljava/lang/String;Lcom/example/interlace/interlace/DataType;IZ)V"⟩ : MethodName)) rfl hown (tw hw 32 rfl) (tw hw 33 rfl) (tw hw 5 rfl) (tw hw 34 rfl) (by decide) (rm6 l Z a0 hw [] b22 r24 ty (-1 : Int32) nn ae h24 n0 Zs25 f25_385 S_E0 f25_386 g_b22 f25_387 f25_388 f25_389 f25_390 f25_391) (g := (mkF m 96 #[.val (.int p0), .val (.int p1), .val (.int p2), .val (.int (1 : Int32)), .val (.int nn), .val (.int vu), .val (.int (-1 : Int32)), .val (.ref ty), .unset, .unset] [(.int nn), (.int (-1 : Int32)), (.ref ty), (.ref r24), (.ref b22), (.ref b22)])) rfl (by rw [hml]; rfl) (argsL := [(.ref r24), (.ref ty), (.int (-1 : Int32)), (.int nn)]) (rest := [(.ref b22)]) (lenOf pd7 rfl) rfl (hb hby at_96) rfl (by decide) (Nat.le_of_ble_eq_true rfl) (k' := 3) (n' := 10) rfl rfl (by decide) (by decide)
          refine Go.by st26 ?_
          obtain ⟨rfl, K26, Ex26, Fm26⟩ := q26
          have f27_403 := Sta.keepN f25_381 K26 (allS f25_386.plain all0)
          have f27_404 := f25_382.keep K26
          have f27_405 := Sta.keepN f25_383 K26 (allS f25_386.plain all0)
          have f27_406 := f25_384.keep K26
          have f27_407 := f25_385.keep K26 (allS g_b22 all0)
          have f27_408 := f25_386.keep K26
          have f27_409 := Ex24.keep K26
          have f27_410 := Fv24.keep K26 (ninS (Ne.symm ne_b22_r24) nin0)
          have f27_411 := Fc24.keep K26 (ninS (Ne.symm ne_b22_r24) nin0)
          have f27_412 := Avf.keep V24 K26 (ninS (Ne.symm ne_b22_d24) nin0)
          have Zs27 : n0 ≤ h26.size := Nat.le_trans Zs25 K26.1
          show Go p.tables e below _ (T26.setTop (mkF m 99 #[.val (.int p0), .val (.int p1), .val (.int p2), .val (.int (1 : Int32)), .val (.int nn), .val (.int vu), .val (.int (-1 : Int32)), .val (.ref ty), .unset, .unset] [(.ref b22)]))
          refine Go.by (fun _ => XS.astore X26.here hx rfl (hb hby at_99) rfl rfl (l' := #[.val (.int p0), .val (.int p1), .val (.int p2), .val (.int (1 : Int32)), .val (.int nn), .val (.int vu), .val (.int (-1 : Int32)), .val (.ref ty), .val (.ref b22), .unset]) rfl) ?_
          show Go p.tables e below _ (T26.setTop (mkF m 101 #[.val (.int p0), .val (.int p1), .val (.int p2), .val (.int (1 : Int32)), .val (.int nn), .val (.int vu), .val (.int (-1 : Int32)), .val (.ref ty), .val (.ref b22), .unset] []))
          refine Go.by (fun _ => XS.aload X26.here hx rfl (hb hby at_101) rfl rfl) ?_
          show Go p.tables e below _ (T26.setTop (mkF m 103 #[.val (.int p0), .val (.int p1), .val (.int p2), .val (.int (1 : Int32)), .val (.int nn), .val (.int vu), .val (.int (-1 : Int32)), .val (.ref ty), .val (.ref b22), .unset] [(.ref b22)]))
          obtain ⟨v28, T28, h28, X28, q28, st28⟩ := X26.callV hx hZ (y := (⟨"com/example/interlace/interlace/Column", "typeModifier", "()I"⟩ : MethodName)) (z := (⟨"com/example/interlace/interlace/Column", "typeModifier", "()I"⟩ : MethodName)) hown (tw hw 59 rfl) (tw hw 60 rfl) (notFace_of_selects (args := #[]) (mvT hZ (tw hw 62 rfl))) (tw hw 62 rfl) (tw hw 61 rfl) (tw hw 5 rfl) (tw hw 63 rfl) (by decide) (rm10 l Z a0 hw [] b22 (-1 : Int32) h26 n0 Zs27 Fm26) Ex26 (g := (mkF m 103 #[.val (.int p0), .val (.int p1), .val (.int p2), .val (.int (1 : Int32)), .val (.int nn), .val (.int vu), .val (.int (-1 : Int32)), .val (.ref ty), .val (.ref b22), .unset] [(.ref b22)])) rfl (by rw [hml]; rfl) (argsL := []) (rest := []) (lenOf pd8 rfl) rfl (hb hby at_103) rfl (by decide) (Nat.le_of_ble_eq_true rfl) (k' := 3) (n' := 10) rfl rfl (by decide) (by decide)
          refine Go.by st28 ?_
          rcases q28 with ⟨⟨ht28, rfl⟩ | ⟨ht28, rfl⟩, rfl⟩
          · skip
            show Go p.tables e below _ (T28.setTop (mkF m 106 #[.val (.int p0), .val (.int p1), .val (.int p2), .val (.int (1 : Int32)), .val (.int nn), .val (.int vu), .val (.int (-1 : Int32)), .val (.ref ty), .val (.ref b22), .unset] [(.int (-1 : Int32))]))
            refine Go.by (fun _ => XS.istore X28.here hx rfl (hb hby at_106) rfl (l' := #[.val (.int p0), .val (.int p1), .val (.int p2), .val (.int (1 : Int32)), .val (.int nn), .val (.int vu), .val (.int (-1 : Int32)), .val (.ref ty), .val (.ref b22), .val (.int (-1 : Int32))]) rfl) ?_
            show Go p.tables e below _ (T28.setTop (mkF m 108 #[.val (.int p0), .val (.int p1), .val (.int p2), .val (.int (1 : Int32)), .val (.int nn), .val (.int vu), .val (.int (-1 : Int32)), .val (.ref ty), .val (.ref b22), .val (.int (-1 : Int32))] []))
            refine Go.by (fun _ => XS.iloadN X28.here hx rfl (hb hby at_108) rfl) ?_
            show Go p.tables e below _ (T28.setTop (mkF m 109 #[.val (.int p0), .val (.int p1), .val (.int p2), .val (.int (1 : Int32)), .val (.int nn), .val (.int vu), .val (.int (-1 : Int32)), .val (.ref ty), .val (.ref b22), .val (.int (-1 : Int32))] [(.int (1 : Int32))]))
            refine Go.by (fun _ => XS.ifNo X28.here hx rfl (hb hby at_109) rfl ((if0 _ _).trans (feq (by decide)).1)) ?_
            show Go p.tables e below _ (T28.setTop (mkF m 112 #[.val (.int p0), .val (.int p1), .val (.int p2), .val (.int (1 : Int32)), .val (.int nn), .val (.int vu), .val (.int (-1 : Int32)), .val (.ref ty), .val (.ref b22), .val (.int (-1 : Int32))] []))
            refine Go.by (fun _ => XS.iload X28.here hx rfl (hb hby at_112) rfl) ?_
            show Go p.tables e below _ (T28.setTop (mkF m 114 #[.val (.int p0), .val (.int p1), .val (.int p2), .val (.int (1 : Int32)), .val (.int nn), .val (.int vu), .val (.int (-1 : Int32)), .val (.ref ty), .val (.ref b22), .val (.int (-1 : Int32))] [(.int (-1 : Int32))]))
            refine Go.by (fun _ => XS.iconst X28.here hx rfl (hb hby at_114)) ?_
            show Go p.tables e below _ (T28.setTop (mkF m 115 #[.val (.int p0), .val (.int p1), .val (.int p2), .val (.int (1 : Int32)), .val (.int nn), .val (.int vu), .val (.int (-1 : Int32)), .val (.ref ty), .val (.ref b22), .val (.int (-1 : Int32))] [(.int (-1 : Int32)), (.int (-1 : Int32))]))
            refine Go.by (fun _ => XS.icmpNo X28.here hx rfl (hb hby at_115) rfl (teq (by decide)).2) ?_
            show Go p.tables e below _ (T28.setTop (mkF m 118 #[.val (.int p0), .val (.int p1), .val (.int p2), .val (.int (1 : Int32)), .val (.int nn), .val (.int vu), .val (.int (-1 : Int32)), .val (.ref ty), .val (.ref b22), .val (.int (-1 : Int32))] []))
            refine Go.by (fun _ => XS.iconst X28.here hx rfl (hb hby at_118)) ?_
            show Go p.tables e below _ (T28.setTop (mkF m 119 #[.val (.int p0), .val (.int p1), .val (.int p2), .val (.int (1 : Int32)), .val (.int nn), .val (.int vu), .val (.int (-1 : Int32)), .val (.ref ty), .val (.ref b22), .val (.int (-1 : Int32))] [(.int (1 : Int32))]))
            refine Go.by (fun _ => XS.goto X28.here hx rfl (pc0 := 119) (pc' := 123) rfl (hb hby at_119) (by decide) (by decide)) ?_
            show Go p.tables e below _ (T28.setTop (mkF m 123 #[.val (.int p0), .val (.int p1), .val (.int p2), .val (.int (1 : Int32)), .val (.int nn), .val (.int vu), .val (.int (-1 : Int32)), .val (.ref ty), .val (.ref b22), .val (.int (-1 : Int32))] [(.int (1 : Int32))]))
            exact Go.retN X28 hx hlk (z' := (1 : Int32)) hret (by simp) (hb hby at_123) rfl (by decide) (by decide) rfl
          · skip
            show Go p.tables e below _ (T28.setTop (mkF m 106 #[.val (.int p0), .val (.int p1), .val (.int p2), .val (.int (1 : Int32)), .val (.int nn), .val (.int vu), .val (.int (-1 : Int32)), .val (.ref ty), .val (.ref b22), .unset] [(.int (3 : Int32))]))
            refine Go.by (fun _ => XS.istore X28.here hx rfl (hb hby at_106) rfl (l' := #[.val (.int p0), .val (.int p1), .val (.int p2), .val (.int (1 : Int32)), .val (.int nn), .val (.int vu), .val (.int (-1 : Int32)), .val (.ref ty), .val (.ref b22), .val (.int (3 : Int32))]) rfl) ?_
            show Go p.tables e below _ (T28.setTop (mkF m 108 #[.val (.int p0), .val (.int p1), .val (.int p2), .val (.int (1 : Int32)), .val (.int nn), .val (.int vu), .val (.int (-1 : Int32)), .val (.ref ty), .val (.ref b22), .val (.int (3 : Int32))] []))
            refine Go.by (fun _ => XS.iloadN X28.here hx rfl (hb hby at_108) rfl) ?_
            show Go p.tables e below _ (T28.setTop (mkF m 109 #[.val (.int p0), .val (.int p1), .val (.int p2), .val (.int (1 : Int32)), .val (.int nn), .val (.int vu), .val (.int (-1 : Int32)), .val (.ref ty), .val (.ref b22), .val (.int (3 : Int32))] [(.int (1 : Int32))]))
            refine Go.by (fun _ => XS.ifNo X28.here hx rfl (hb hby at_109) rfl ((if0 _ _).trans (feq (by decide)).1)) ?_
            show Go p.tables e below _ (T28.setTop (mkF m 112 #[.val (.int p0), .val (.int p1), .val (.int p2), .val (.int (1 : Int32)), .val (.int nn), .val (.int vu), .val (.int (-1 : Int32)), .val (.ref ty), .val (.ref b22), .val (.int (3 : Int32))] []))
            refine Go.by (fun _ => XS.iload X28.here hx rfl (hb hby at_112) rfl) ?_
            show Go p.tables e below _ (T28.setTop (mkF m 114 #[.val (.int p0), .val (.int p1), .val (.int p2), .val (.int (1 : Int32)), .val (.int nn), .val (.int vu), .val (.int (-1 : Int32)), .val (.ref ty), .val (.ref b22), .val (.int (3 : Int32))] [(.int (3 : Int32))]))
            refine Go.by (fun _ => XS.iconst X28.here hx rfl (hb hby at_114)) ?_
            show Go p.tables e below _ (T28.setTop (mkF m 115 #[.val (.int p0), .val (.int p1), .val (.int p2), .val (.int (1 : Int32)), .val (.int nn), .val (.int vu), .val (.int (-1 : Int32)), .val (.ref ty), .val (.ref b22), .val (.int (3 : Int32))] [(.int (-1 : Int32)), (.int (3 : Int32))]))
            refine Go.by (fun _ => XS.icmpYes X28.here hx rfl (pc0 := 115) (pc' := 122) rfl (hb hby at_115) rfl (feq (by decide)).2 (by decide) (by decide)) ?_
            show Go p.tables e below _ (T28.setTop (mkF m 122 #[.val (.int p0), .val (.int p1), .val (.int p2), .val (.int (1 : Int32)), .val (.int nn), .val (.int vu), .val (.int (-1 : Int32)), .val (.ref ty), .val (.ref b22), .val (.int (3 : Int32))] []))
            refine Go.by (fun _ => XS.iconst X28.here hx rfl (hb hby at_122)) ?_
            show Go p.tables e below _ (T28.setTop (mkF m 123 #[.val (.int p0), .val (.int p1), .val (.int p2), .val (.int (1 : Int32)), .val (.int nn), .val (.int vu), .val (.int (-1 : Int32)), .val (.ref ty), .val (.ref b22), .val (.int (3 : Int32))] [(.int (0 : Int32))]))
            refine Go.retN X28 hx hlk (z' := (0 : Int32)) hret (by simp) (hb hby at_123) rfl (by decide) (by decide) ?_
            exact absurd rfl ht28
        refine Go.by (fun _ => XS.iloadN Xj20.here hx rfl (hb hby at_57) rfl) ?_
        show Go p.tables e below _ (Tj20.setTop (mkF m 58 #[.val (.int p0), .val (.int p1), .val (.int p2), .val (.int (1 : Int32)), .val (.int nn), .val (.int vu), .val (.int (-1 : Int32)), .unset, .unset, .unset] [(.int (1 : Int32))]))
        refine Go.by (fun _ => XS.ifNo Xj20.here hx rfl (hb hby at_58) rfl ((if0 _ _).trans (feq (by decide)).1)) ?_
        show Go p.tables e below _ (Tj20.setTop (mkF m 61 #[.val (.int p0), .val (.int p1), .val (.int p2), .val (.int (1 : Int32)), .val (.int nn), .val (.int vu), .val (.int (-1 : Int32)), .unset, .unset, .unset] []))
        refine Go.by (fun _ => XS.iload Xj20.here hx rfl (hb hby at_61) rfl) ?_
        show Go p.tables e below _ (Tj20.setTop (mkF m 63 #[.val (.int p0), .val (.int p1), .val (.int p2), .val (.int (1 : Int32)), .val (.int nn), .val (.int vu), .val (.int (-1 : Int32)), .unset, .unset, .unset] [(.int vu)]))
        by_cases hc63_29 : vu = (0 : Int32)
        · skip
          refine Go.by (fun _ => XS.ifNo Xj20.here hx rfl (hb hby at_63) rfl ((if0 _ _).trans (teq hc63_29).2)) ?_
          show Go p.tables e below _ (Tj20.setTop (mkF m 66 #[.val (.int p0), .val (.int p1), .val (.int p2), .val (.int (1 : Int32)), .val (.int nn), .val (.int vu), .val (.int (-1 : Int32)), .unset, .unset, .unset] []))
          obtain ⟨T30, X30, st30⟩ := Xj20.getS hx hZ hown (host := "") (Or.inl (tw hw 0 rfl)) Via.refl S_TEXT (g := (mkF m 66 #[.val (.int p0), .val (.int p1), .val (.int p2), .val (.int (1 : Int32)), .val (.int nn), .val (.int vu), .val (.int (-1 : Int32)), .unset, .unset, .unset] [])) rfl (hb hby at_66)
          refine Go.by st30 ?_
          show Go p.tables e below _ (T30.setTop (mkF m 69 #[.val (.int p0), .val (.int p1), .val (.int p2), .val (.int (1 : Int32)), .val (.int nn), .val (.int vu), .val (.int (-1 : Int32)), .unset, .unset, .unset] [(.ref a_TEXT)]))
          refine Go.by (fun _ => XS.goto X30.here hx rfl (pc0 := 69) (pc' := 75) rfl (hb hby at_69) (by decide) (by decide)) ?_
          show Go p.tables e below _ (T30.setTop (mkF m 75 #[.val (.int p0), .val (.int p1), .val (.int p2), .val (.int (1 : Int32)), .val (.int nn), .val (.int vu), .val (.int (-1 : Int32)), .unset, .unset, .unset] [(.ref a_TEXT)]))
          exact J21 _ X30 _ trivial
        · skip
          refine Go.by (fun _ => XS.ifYes Xj20.here hx rfl (pc0 := 63) (pc' := 72) rfl (hb hby at_63) rfl ((if0 _ _).trans (feq hc63_29).2) (by decide) (by decide)) ?_
          show Go p.tables e below _ (Tj20.setTop (mkF m 72 #[.val (.int p0), .val (.int p1), .val (.int p2), .val (.int (1 : Int32)), .val (.int nn), .val (.int vu), .val (.int (-1 : Int32)), .unset, .unset, .unset] []))
          obtain ⟨T31, X31, st31⟩ := Xj20.getS hx hZ hown (host := "") (Or.inl (tw hw 66 rfl)) Via.refl S_VARCHAR (g := (mkF m 72 #[.val (.int p0), .val (.int p1), .val (.int p2), .val (.int (1 : Int32)), .val (.int nn), .val (.int vu), .val (.int (-1 : Int32)), .unset, .unset, .unset] [])) rfl (hb hby at_72)
          refine Go.by st31 ?_
          show Go p.tables e below _ (T31.setTop (mkF m 75 #[.val (.int p0), .val (.int p1), .val (.int p2), .val (.int (1 : Int32)), .val (.int nn), .val (.int vu), .val (.int (-1 : Int32)), .unset, .unset, .unset] [(.ref a_VARCHAR)]))
          exact J21 _ X31 _ trivial
      by_cases hc28_32 : (p1 &&& (4 : Int32)) = (0 : Int32)
      · skip
        refine Go.by (fun _ => XS.ifYes Xj19.here hx rfl (pc0 := 28) (pc' := 35) rfl (hb hby at_28) rfl ((if0 _ _).trans (teq hc28_32).1) (by decide) (by decide)) ?_
        show Go p.tables e below _ (Tj19.setTop (mkF m 35 #[.val (.int p0), .val (.int p1), .val (.int p2), .val (.int (1 : Int32)), .val (.int nn), .unset, .unset, .unset, .unset, .unset] []))
        refine Go.by (fun _ => XS.iconst Xj19.here hx rfl (hb hby at_35)) ?_
        show Go p.tables e below _ (Tj19.setTop (mkF m 36 #[.val (.int p0), .val (.int p1), .val (.int p2), .val (.int (1 : Int32)), .val (.int nn), .unset, .unset, .unset, .unset, .unset] [(.int (0 : Int32))]))
        exact J20 _ Xj19 _ trivial
      · skip
        refine Go.by (fun _ => XS.ifNo Xj19.here hx rfl (hb hby at_28) rfl ((if0 _ _).trans (feq hc28_32).1)) ?_
        show Go p.tables e below _ (Tj19.setTop (mkF m 31 #[.val (.int p0), .val (.int p1), .val (.int p2), .val (.int (1 : Int32)), .val (.int nn), .unset, .unset, .unset, .unset, .unset] []))
        refine Go.by (fun _ => XS.iconst Xj19.here hx rfl (hb hby at_31)) ?_
        show Go p.tables e below _ (Tj19.setTop (mkF m 32 #[.val (.int p0), .val (.int p1), .val (.int p2), .val (.int (1 : Int32)), .val (.int nn), .unset, .unset, .unset, .unset, .unset] [(.int (1 : Int32))]))
        refine Go.by (fun _ => XS.goto Xj19.here hx rfl (pc0 := 32) (pc' := 36) rfl (hb hby at_32) (by decide) (by decide)) ?_
        show Go p.tables e below _ (Tj19.setTop (mkF m 36 #[.val (.int p0), .val (.int p1), .val (.int p2), .val (.int (1 : Int32)), .val (.int nn), .unset, .unset, .unset, .unset, .unset] [(.int (1 : Int32))]))
        exact J20 _ Xj19 _ trivial
    by_cases hc15_33 : (p1 &&& (2 : Int32)) = (0 : Int32)
    · skip
      refine Go.by (fun _ => XS.ifYes X0.here hx rfl (pc0 := 15) (pc' := 22) rfl (hb hby at_15) rfl ((if0 _ _).trans (teq hc15_33).1) (by decide) (by decide)) ?_
      show Go p.tables e below _ (T0.setTop (mkF m 22 #[.val (.int p0), .val (.int p1), .val (.int p2), .val (.int (1 : Int32)), .unset, .unset, .unset, .unset, .unset, .unset] []))
      refine Go.by (fun _ => XS.iconst X0.here hx rfl (hb hby at_22)) ?_
      show Go p.tables e below _ (T0.setTop (mkF m 23 #[.val (.int p0), .val (.int p1), .val (.int p2), .val (.int (1 : Int32)), .unset, .unset, .unset, .unset, .unset, .unset] [(.int (0 : Int32))]))
      exact J19 _ X0 _ trivial
    · skip
      refine Go.by (fun _ => XS.ifNo X0.here hx rfl (hb hby at_15) rfl ((if0 _ _).trans (feq hc15_33).1)) ?_
      show Go p.tables e below _ (T0.setTop (mkF m 18 #[.val (.int p0), .val (.int p1), .val (.int p2), .val (.int (1 : Int32)), .unset, .unset, .unset, .unset, .unset, .unset] []))
      refine Go.by (fun _ => XS.iconst X0.here hx rfl (hb hby at_18)) ?_
      show Go p.tables e below _ (T0.setTop (mkF m 19 #[.val (.int p0), .val (.int p1), .val (.int p2), .val (.int (1 : Int32)), .unset, .unset, .unset, .unset, .unset, .unset] [(.int (1 : Int32))]))
      refine Go.by (fun _ => XS.goto X0.here hx rfl (pc0 := 19) (pc' := 23) rfl (hb hby at_19) (by decide) (by decide)) ?_
      show Go p.tables e below _ (T0.setTop (mkF m 23 #[.val (.int p0), .val (.int p1), .val (.int p2), .val (.int (1 : Int32)), .unset, .unset, .unset, .unset, .unset, .unset] [(.int (1 : Int32))]))
      exact J19 _ X0 _ trivial
set_option maxRecDepth 65536 in
set_option maxHeartbeats 40000000 in
theorem comes_1 {Post : Tables → Env → Array Value → State → Outcome → State → Prop} (hpost : ∀ tb e args s v u, (limb_1_1.after args s (.returned v) u = true ∧ limb_1_2.after args s (.returned v) u = true ∧ True) → FrameEnd s (.returned v) u (Jvm.fieldLocs frame_1_writes args s ++ Jvm.arrayLocs frame_1_arrays args s ++ Jvm.staticLocs frame_1_statics s) 16 128 → Post tb e args s (.returned v) u) :
    ArmFor flags0 classFile x code maxLocals ret World_1 tables_1 room_1 Calls_1 rest_1 Pre_1 Post := by
  intro l hfl _ _ p e ha hc hk s m args below hf hA hF happ hP
  obtain ⟨hcalls, hrest, hpre⟩ := hP
  obtain ⟨-, -, -, hnamed, -, -, -, hat⟩ := (Spec.applies_iff hf).mp happ
  obtain ⟨hg, hn⟩ := and_e (Cond.before_iff.mp (show (Jvm.Cond.and given_1 narrow_1).before args s = true from hpre))
  obtain ⟨gc, gr0⟩ := and_e hg
  obtain ⟨ga0, gr1⟩ := and_e gr0
  obtain ⟨ga1, ga2⟩ := and_e gr1
  obtain ⟨w0, w1, w2, rfl⟩ : ∃ w0 w1 w2 : Value, args = #[w0, w1, w2] := by
    have hs : args.size = 3 := by simpa [Cond.value, given_1] using gc
    obtain ⟨L⟩ := args
    match L, hs with
    | [w0, w1, w2], _ => exact ⟨w0, w1, w2, rfl⟩
  have hw := fun d (hd : d ∈ tables_1) => atoms_spec (ws := Jvm.Cond.code x code maxLocals ret :: tables_1) hat d (List.mem_cons_of_mem _ hd)
  have hfit : Fit s := fun {y c} hc i hi => by
    obtain ⟨ha, rfl⟩ := Array.getElem?_eq_some_iff.mp hc
    have q := List.all_eq_true.mp ((Array.all_eq_true_iff_forall_mem.mp hF) _ (Array.getElem_mem ha)) i (List.mem_range.mpr hi)
    simpa [Array.getElem?_eq_getElem hi] using q
  obtain ⟨hsets, hown0⟩ := atoms_of _ (rest_1_c_eq ▸ (show rest_1_c.before _ s = true from hrest))
  have hr0 := Cond.before_iff.mp hown0
  obtain ⟨i0, ei0⟩ := is_v ga0
  obtain rfl : w0 = (.int i0) := Option.some.inj ei0
  obtain ⟨i1, ei1⟩ := is_v ga1
  obtain rfl : w1 = (.int i1) := Option.some.inj ei1
  obtain ⟨i2, ei2⟩ := is_v ga2
  obtain rfl : w2 = (.int i2) := Option.some.inj ei2
  obtain ⟨nw0, nw1⟩ := and_e hn
  obtain ⟨a_TEXT, ev_TEXT, S_TEXT, E_TEXT⟩ := sta_exa nw0 (tw hw 1 rfl) (tw hw 2 rfl)
  obtain ⟨a_VARCHAR, ev_VARCHAR, S_VARCHAR, E_VARCHAR⟩ := sta_exa nw1 (tw hw 1 rfl) (tw hw 67 rfl)
  obtain ⟨cs, evcs⟩ := is_v (Cond.before_iff.mp (hsets _ (List.mem_of_getElem? (i := 1) rfl)))
  have S_CS0 : Sta s s.heap "java/lang/String" "COMPACT_STRINGS" "Z" (.int cs) := Sta.start evcs (Or.inl (hsets _ (List.mem_of_getElem? (i := 0) rfl)))
  have hcs : ¬ cs = 0 := gotF (Cond.eq_ints evcs (Term.int_eval 0)) (not_v (Cond.before_iff.mp (hsets _ (List.mem_of_getElem? (i := 2) rfl))))
  have xe := Cond.before_iff.mp (hsets _ (List.mem_of_getElem? (i := 11) rfl))
  obtain ⟨ae, eve⟩ := exa_v xe
  have S_E0 : Sta s s.heap "java/util/Optional" "EMPTY" "Ljava/util/Optional;" (.ref ae) := Sta.start eve (Or.inl (hsets _ (List.mem_of_getElem? (i := 10) rfl)))
  obtain ⟨n, o, h1, h2, h3, _, L, rfl, ⟨rfl, N⟩, hq⟩ := rm0 l s _ hw tables_1 i0 i1 i2 a_TEXT a_VARCHAR cs ae s.heap s.heap.size (Nat.le_refl _) S_TEXT E_TEXT S_VARCHAR E_VARCHAR (Old.start s) S_CS0 hcs S_E0 p e ha hc hk s m _ below hf ((Spec.applies_iff_loose hf).mp happ).1 ⟨rfl, State.Warmed39.refl s, rfl⟩ trivial
  refine ⟨n, _, h1, h2, h3, hpost _ _ _ _ _ _ ⟨Cond.after_iff.mpr rfl, Cond.after_iff.mpr (eq_i res_at (Term.int_eval (1)) rfl), trivial⟩ ⟨hq.1, hq.2.1, (hq.2.2.sift fun y hy => Or.inr (N y hy)).mono (by decide) (by decide)⟩⟩
theorem main_1_1 : Claimed_1_1 := comes_1 fun _ _ _ _ _ _ h hF => ⟨h.1, hF⟩
theorem main_1_2 : Claimed_1_2 := comes_1 fun _ _ _ _ _ _ h hF => ⟨h.2.1, hF⟩
end Jvm.Pilot.@@N@@
namespace Jvm.Pilot.@@N@@
open Jvm Jvm.ClassFile Sem Op Lib Jvm.Free Jvm.Stand Jvm.Pilot.@@N@@.Jvm.D
/-! MADE BY PROGRAM (witnessworld.py) out of the Statement's table words and the real class files: 23 classes; the members and pool entries that the words name. The judged class is class 1, her method 1. -/
namespace start1
open Jvm.ClassFile
def u (s : String) : CpInfo := .utf8 (stringToUtf16 s)
/-- a pool by its gaps: so many unusable entries, then the entry; so many at the end -/
def gap : Nat → List CpInfo → List CpInfo
  | 0, r => r
  | n + 1, r => .unusable :: gap n r
def poolList (es : List (Nat × CpInfo)) (last : Nat) : List CpInfo := es.foldr (fun e r => gap e.1 (e.2 :: r)) (gap last [])
def pool (es : List (Nat × CpInfo)) (last : Nat) : Array CpInfo := ⟨poolList es last⟩
def fileOf (pool : Array CpInfo) (this : Nat) (attrs : Array Attribute := #[]) (ms : Array MethodInfo := #[]) (fl : Nat := 33) (sup : Nat := 0) (ifs : Array Nat := #[]) (fds : Array FieldInfo := #[]) : ClassFile where
  minorVersion := 0
  majorVersion := 65
  constantPool := pool
  accessFlags := fl
  thisClass := this
  superClass := sup
  interfaces := ifs
  fields := fds
  methods := ms
  attributes := attrs
def plain (name : String) (sup : Option ClassId) : Class where
  name := name
  kind := .ordinary
  loader := none
  accessFlags := 33
  super := sup
  interfaces := #[]
  cf := none
  fields := #[]
  methods := #[]
  instanceTypes := #[]
  staticTypes := #[]
  resolved := #[]
  callSites := []
  init := .initialized
  statics := none
  mirror := none

def pool0 : Array CpInfo := pool [(5, u "<init>"), (0, u "()V"), (1, .class_ 10), (1, u "java/lang/Object")] 113

def k0c0 : Code := { maxStack := 0, maxLocals := 1, code := object_method_1_code, exceptionTable := #[], attributes := #[] }
def k0m0 : Method := { name := "<init>", desc := "()V", sig := { parameters := [], returnType := none }, accessFlags := 1, code := some k0c0 }
/-- java/lang/Object -/
def k0 : Class := { plain "java/lang/Object" none with
  accessFlags := 33
  interfaces := #[]
  cf := some (fileOf pool0 8 #[] #[{ accessFlags := 1, nameIndex := 5, descriptorIndex := 6, attributes := #[] }] 33 0 #[] #[])
  fields := #[]
  methods := #[k0m0]
  instanceTypes := #[]
  staticTypes := #[]
  resolved := Array.replicate 124 none
  statics := none }

def pool1 : Array CpInfo := pool [(2, .class_ 4), (1, u "java/lang/Object"), (0, u "<init>"), (0, u "()V"), (0, .class_ 8), (0, u "com/example/interlace/interlace/Column"), (0, .integer 2147483647), (0, .integer 10485760), (0, .fieldref 12 13), (0, .class_ 14), (0, .nameAndType 15 16), (0, u "com/example/interlace/interlace/DataType"), (0, u "TEXT"), (0, u "Lcom/example/interlace/interlace/DataType;"), (0, .fieldref 12 18), (0, .nameAndType 19 16), (0, u "VARCHAR"), (0, .methodref 21 22), (0, .class_ 23), (0, .nameAndType 24 25), (0, u "java/lang/String"), (0, u "valueOf"), (0, u "(C)Ljava/lang/String;"), (0, .methodref 7 27), (0, .nameAndType 5 28), (0, u "(Ljava/lang/String;Lcom/example/interlace/interlace/DataType;IZ)V"), (0, .methodref 7 30), (0, .nameAndType 31 32), (0, u "typeModifier"), (0, u "()I"), (0, .integer 10485764), (0, .class_ 35), (0, u "com/example/interlace/interlace/ColumnTypeModifierPinLaw"), (2, u "law"), (0, u "(III)Z")] 3

def k1m0 : Method := { name := "<init>", desc := "()V", sig := { parameters := [], returnType := none }, accessFlags := 1, code := none }
def k1c1 : Code := { maxStack := 6, maxLocals := 10, code := code, exceptionTable := #[], attributes := #[] }
def k1m1 : Method := { name := "law", desc := "(III)Z", sig := { parameters := [.int, .int, .int], returnType := some .boolean }, accessFlags := 9, code := some k1c1 }
/-- com/example/interlace/interlace/ColumnTypeModifierPinLaw -/
def k1 : Class := { plain "com/example/interlace/interlace/ColumnTypeModifierPinLaw" (some 0) with
  accessFlags := 49
  interfaces := #[]
  cf := some (fileOf pool1 34 #[] #[{ accessFlags := 1, nameIndex := 5, descriptorIndex := 6, attributes := #[] }, { accessFlags := 9, nameIndex := 38, descriptorIndex := 39, attributes := #[] }] 49 2 #[] #[])
  fields := #[]
  methods := #[k1m0, k1m1]
  instanceTypes := #[]
  staticTypes := #[]
  resolved := Array.replicate 43 none
  statics := none }

def pool2 : Array CpInfo := pool [(1, .class_ 2), (0, u "java/lang/constant/Constable"), (0, .class_ 4), (0, u "java/lang/Object")] 6

/-- java/lang/constant/Constable -/
def k2 : Class := { plain "java/lang/constant/Constable" (some 0) with
  accessFlags := 1537
  interfaces := #[]
  cf := some (fileOf pool2 1 #[] #[] 1537 3 #[] #[])
  fields := #[]
  methods := #[]
  instanceTypes := #[]
  staticTypes := #[]
  resolved := Array.replicate 11 none
  statics := none }

def pool3 : Array CpInfo := pool [(1, .class_ 2), (0, u "java/lang/Comparable"), (0, .class_ 4), (0, u "java/lang/Object")] 7

/-- java/lang/Comparable -/
def k3 : Class := { plain "java/lang/Comparable" (some 0) with
  accessFlags := 1537
  interfaces := #[]
  cf := some (fileOf pool3 1 #[] #[] 1537 3 #[] #[])
  fields := #[]
  methods := #[]
  instanceTypes := #[]
  staticTypes := #[]
  resolved := Array.replicate 12 none
  statics := none }

def pool4 : Array CpInfo := pool [(1, .class_ 2), (0, u "java/io/Serializable"), (0, .class_ 4), (0, u "java/lang/Object")] 2

/-- java/io/Serializable -/
def k4 : Class := { plain "java/io/Serializable" (some 0) with
  accessFlags := 1537
  interfaces := #[]
  cf := some (fileOf pool4 1 #[] #[] 1537 3 #[] #[])
  fields := #[]
  methods := #[]
  instanceTypes := #[]
  staticTypes := #[]
  resolved := Array.replicate 7 none
  statics := none }

def pool5 : Array CpInfo := pool [(2, .class_ 4), (1, u "java/lang/Enum"), (0, u "name"), (0, u "Ljava/lang/String;"), (2, u "ordinal"), (0, u "I"), (1, .class_ 14), (1, u "java/lang/Object"), (4, u "hash"), (86, .class_ 108), (1, u "java/lang/Enum$EnumDesc"), (2, .class_ 112), (0, u "java/lang/constant/Constable"), (0, .class_ 114), (0, u "java/lang/Comparable"), (0, .class_ 116), (0, u "java/io/Serializable")] 87

/-- java/lang/Enum -/
def k5 : Class := { plain "java/lang/Enum" (some 0) with
  accessFlags := 1057
  interfaces := #[2, 3, 4]
  cf := some (fileOf pool5 2 #[.nestMembers #[106]] #[] 1057 12 #[111, 113, 115] #[{ accessFlags := 18, nameIndex := 5, descriptorIndex := 6, attributes := #[] }, { accessFlags := 18, nameIndex := 9, descriptorIndex := 10, attributes := #[] }, { accessFlags := 2, nameIndex := 19, descriptorIndex := 10, attributes := #[] }])
  fields := #[{ name := "name", type := (.object "java/lang/String"), accessFlags := 18, slot := 0, constantValue := 0 }, { name := "ordinal", type := .int, accessFlags := 18, slot := 1, constantValue := 0 }, { name := "hash", type := .int, accessFlags := 2, slot := 2, constantValue := 0 }]
  methods := #[]
  instanceTypes := #[(.object "java/lang/String"), .int, .int]
  staticTypes := #[]
  resolved := Array.replicate 204 none
  statics := none }

def pool6 : Array CpInfo := pool [(3, .class_ 4), (0, u "com/example/interlace/interlace/DataType"), (2, u "SMALLINT"), (0, u "Lcom/example/interlace/interlace/DataType;"), (2, u "INTEGER"), (2, u "NUMERIC"), (2, u "REAL"), (2, u "TIMESTAMPTZ"), (2, u "JSONB"), (2, u "BIGINT"), (2, u "DOUBLE_PRECISION"), (2, u "BOOLEAN"), (2, u "TEXT"), (2, u "VARCHAR"), (2, u "BYTEA"), (2, u "$VALUES"), (0, u "[Lcom/example/interlace/interlace/DataType;"), (6, .class_ 54), (1, u "java/lang/Enum"), (8, u "displayName"), (0, u "Ljava/lang/String;"), (2, u "oid"), (0, u "I"), (2, u "size"), (30, u "INTEGER_TEXT"), (0, u "Ljava/util/regex/Pattern;"), (353, .class_ 458), (0, u "com/example/interlace/interlace/DataType$1"), (6, .class_ 466), (0, u "com/example/interlace/interlace/DataType$2"), (4, .class_ 472), (0, u "com/example/interlace/interlace/DataType$3"), (4, .class_ 478), (0, u "com/example/interlace/interlace/DataType$4"), (4, .class_ 484), (0, u "com/example/interlace/interlace/DataType$5"), (4, .class_ 490), (0, u "com/example/interlace/interlace/DataType$6"), (4, .class_ 496), (0, u "com/example/interlace/interlace/DataType$7"), (4, .class_ 502), (0, u "com/example/interlace/interlace/DataType$8"), (4, .class_ 508), (0, u "com/example/interlace/interlace/DataType$9"), (4, .class_ 514), (0, u "com/example/interlace/interlace/DataType$10"), (4, .class_ 520), (0, u "com/example/interlace/interlace/DataType$11"), (4, .class_ 526), (0, u "com/example/interlace/interlace/DataType$12"), (17, u "NUMERIC_SPECIALS"), (0, u "MAX_NUMERIC_INTEGER_DIGITS"), (2, u "MAX_NUMERIC_FRACTION_DIGITS"), (1, u "NUMERIC_EXPONENT_LIMIT"), (0, u "J"), (0, u "POSTGRES_EPOCH")] 87

/-- com/example/interlace/interlace/DataType -/
def k6 : Class := { plain "com/example/interlace/interlace/DataType" (some 5) with
  accessFlags := 17440
  interfaces := #[]
  cf := some (fileOf pool6 3 #[.nestMembers #[525, 519, 513, 507, 501, 495, 489, 483, 477, 471, 465, 457]] #[] 17440 52 #[] #[{ accessFlags := 16409, nameIndex := 7, descriptorIndex := 8, attributes := #[] }, { accessFlags := 16409, nameIndex := 11, descriptorIndex := 8, attributes := #[] }, { accessFlags := 16409, nameIndex := 14, descriptorIndex := 8, attributes := #[] }, { accessFlags := 16409, nameIndex := 17, descriptorIndex := 8, attributes := #[] }, { accessFlags := 16409, nameIndex := 20, descriptorIndex := 8, attributes := #[] }, { accessFlags := 16409, nameIndex := 23, descriptorIndex := 8, attributes := #[] }, { accessFlags := 16409, nameIndex := 26, descriptorIndex := 8, attributes := #[] }, { accessFlags := 16409, nameIndex := 29, descriptorIndex := 8, attributes := #[] }, { accessFlags := 16409, nameIndex := 32, descriptorIndex := 8, attributes := #[] }, { accessFlags := 16409, nameIndex := 35, descriptorIndex := 8, attributes := #[] }, { accessFlags := 16409, nameIndex := 38, descriptorIndex := 8, attributes := #[] }, { accessFlags := 16409, nameIndex := 41, descriptorIndex := 8, attributes := #[] }, { accessFlags := 26, nameIndex := 102, descriptorIndex := 103, attributes := #[] }, { accessFlags := 26, nameIndex := 544, descriptorIndex := 103, attributes := #[] }, { accessFlags := 26, nameIndex := 545, descriptorIndex := 68, attributes := #[] }, { accessFlags := 24, nameIndex := 548, descriptorIndex := 68, attributes := #[] }, { accessFlags := 26, nameIndex := 550, descriptorIndex := 551, attributes := #[] }, { accessFlags := 26, nameIndex := 552, descriptorIndex := 551, attributes := #[] }, { accessFlags := 18, nameIndex := 63, descriptorIndex := 64, attributes := #[] }, { accessFlags := 18, nameIndex := 67, descriptorIndex := 68, attributes := #[] }, { accessFlags := 18, nameIndex := 71, descriptorIndex := 68, attributes := #[] }, { accessFlags := 4122, nameIndex := 44, descriptorIndex := 45, attributes := #[] }])
  fields := #[{ name := "SMALLINT", type := (.object "com/example/interlace/interlace/DataType"), accessFlags := 16409, slot := 0, constantValue := 0 }, { name := "INTEGER", type := (.object "com/example/interlace/interlace/DataType"), accessFlags := 16409, slot := 1, constantValue := 0 }, { name := "NUMERIC", type := (.object "com/example/interlace/interlace/DataType"), accessFlags := 16409, slot := 2, constantValue := 0 }, { name := "REAL", type := (.object "com/example/interlace/interlace/DataType"), accessFlags := 16409, slot := 3, constantValue := 0 }, { name := "TIMESTAMPTZ", type := (.object "com/example/interlace/interlace/DataType"), accessFlags := 16409, slot := 4, constantValue := 0 }, { name := "JSONB", type := (.object "com/example/interlace/interlace/DataType"), accessFlags := 16409, slot := 5, constantValue := 0 }, { name := "BIGINT", type := (.object "com/example/interlace/interlace/DataType"), accessFlags := 16409, slot := 6, constantValue := 0 }, { name := "DOUBLE_PRECISION", type := (.object "com/example/interlace/interlace/DataType"), accessFlags := 16409, slot := 7, constantValue := 0 }, { name := "BOOLEAN", type := (.object "com/example/interlace/interlace/DataType"), accessFlags := 16409, slot := 8, constantValue := 0 }, { name := "TEXT", type := (.object "com/example/interlace/interlace/DataType"), accessFlags := 16409, slot := 9, constantValue := 0 }, { name := "VARCHAR", type := (.object "com/example/interlace/interlace/DataType"), accessFlags := 16409, slot := 10, constantValue := 0 }, { name := "BYTEA", type := (.object "com/example/interlace/interlace/DataType"), accessFlags := 16409, slot := 11, constantValue := 0 }, { name := "INTEGER_TEXT", type := (.object "java/util/regex/Pattern"), accessFlags := 26, slot := 12, constantValue := 0 }, { name := "NUMERIC_SPECIALS", type := (.object "java/util/regex/Pattern"), accessFlags := 26, slot := 13, constantValue := 0 }, { name := "MAX_NUMERIC_INTEGER_DIGITS", type := .int, accessFlags := 26, slot := 14, constantValue := 0 }, { name := "MAX_NUMERIC_FRACTION_DIGITS", type := .int, accessFlags := 24, slot := 15, constantValue := 0 }, { name := "NUMERIC_EXPONENT_LIMIT", type := .long, accessFlags := 26, slot := 16, constantValue := 0 }, { name := "POSTGRES_EPOCH", type := .long, accessFlags := 26, slot := 17, constantValue := 0 }, { name := "displayName", type := (.object "java/lang/String"), accessFlags := 18, slot := 3, constantValue := 0 }, { name := "oid", type := .int, accessFlags := 18, slot := 4, constantValue := 0 }, { name := "size", type := .int, accessFlags := 18, slot := 5, constantValue := 0 }, { name := "$VALUES", type := (.array (.object "com/example/interlace/interlace/DataType")), accessFlags := 4122, slot := 18, constantValue := 0 }]
  methods := #[]
  instanceTypes := #[(.object "java/lang/String"), .int, .int, (.object "java/lang/String"), .int, .int]
  staticTypes := #[(.object "com/example/interlace/interlace/DataType"), (.object "com/example/interlace/interlace/DataType"), (.object "com/example/interlace/interlace/DataType"), (.object "com/example/interlace/interlace/DataType"), (.object "com/example/interlace/interlace/DataType"), (.object "com/example/interlace/interlace/DataType"), (.object "com/example/interlace/interlace/DataType"), (.object "com/example/interlace/interlace/DataType"), (.object "com/example/interlace/interlace/DataType"), (.object "com/example/interlace/interlace/DataType"), (.object "com/example/interlace/interlace/DataType"), (.object "com/example/interlace/interlace/DataType"), (.object "java/util/regex/Pattern"), (.object "java/util/regex/Pattern"), .int, .int, .long, .long, (.array (.object "com/example/interlace/interlace/DataType"))]
  resolved := Array.replicate 640 none
  statics := some 0 }

def pool7 : Array CpInfo := pool [(1, .methodref 2 3), (0, .class_ 4), (0, .nameAndType 5 6), (0, u "java/lang/Object"), (0, u "<init>"), (0, u "()V"), (0, .class_ 8), (0, u "java/lang/Record")] 13

def k7c0 : Code := { maxStack := 1, maxLocals := 1, code := jdk_30_method_1_code, exceptionTable := #[], attributes := #[] }
def k7m0 : Method := { name := "<init>", desc := "()V", sig := { parameters := [], returnType := none }, accessFlags := 4, code := some k7c0 }
/-- java/lang/Record -/
def k7 : Class := { plain "java/lang/Record" (some 0) with
  accessFlags := 1057
  interfaces := #[]
  cf := some (fileOf pool7 7 #[] #[{ accessFlags := 4, nameIndex := 5, descriptorIndex := 6, attributes := #[] }] 1057 2 #[] #[])
  fields := #[]
  methods := #[k7m0]
  instanceTypes := #[]
  staticTypes := #[]
  resolved := Array.replicate 22 none
  statics := none }

def pool8 : Array CpInfo := pool [(1, .methodref 2 3), (0, .class_ 4), (0, .nameAndType 5 6), (0, u "java/lang/Record"), (0, u "<init>"), (0, u "()V"), (0, .fieldref 8 9), (0, .class_ 10), (0, .nameAndType 11 12), (0, u "com/example/interlace/interlace/Column"), (0, u "name"), (0, u "Ljava/lang/String;"), (0, .fieldref 8 14), (0, .nameAndType 15 16), (0, u "type"), (0, u "Lcom/example/interlace/interlace/DataType;"), (0, .fieldref 8 18), (0, .nameAndType 19 20), (0, u "maxLength"), (0, u "I"), (0, .fieldref 8 22), (0, .nameAndType 23 24), (0, u "notNull"), (0, u "Z"), (0, .fieldref 8 26), (0, .nameAndType 27 28), (0, u "defaultExpression"), (0, u "Ljava/util/Optional;"), (63, .methodref 93 94), (0, .class_ 95), (0, .nameAndType 96 97), (0, u "java/util/Optional"), (0, u "empty"), (0, u "()Ljava/util/Optional;"), (0, .methodref 8 99), (0, .nameAndType 5 100), (0, u "(Ljava/lang/String;Lcom/example/interlace/interlace/DataType;IZLjava/util/Optional;)V"), (16, u "()I"), (48, u "NO_LIMIT"), (2, u "MAX_LIMIT"), (1, u "(Ljava/lang/String;Lcom/example/interlace/interlace/DataType;IZ)V"), (20, u "typeModifier")] 62

def k8c0 : Code := { maxStack := 6, maxLocals := 5, code := prog_11_method_1_code, exceptionTable := #[], attributes := #[] }
def k8m0 : Method := { name := "<init>", desc := "(Ljava/lang/String;Lcom/example/interlace/interlace/DataType;IZ)V", sig := { parameters := [(.object "java/lang/String"), (.object "com/example/interlace/interlace/DataType"), .int, .boolean], returnType := none }, accessFlags := 0, code := some k8c0 }
def k8c1 : Code := { maxStack := 2, maxLocals := 6, code := prog_11_method_2_code, exceptionTable := #[], attributes := #[] }
def k8m1 : Method := { name := "<init>", desc := "(Ljava/lang/String;Lcom/example/interlace/interlace/DataType;IZLjava/util/Optional;)V", sig := { parameters := [(.object "java/lang/String"), (.object "com/example/interlace/interlace/DataType"), .int, .boolean, (.object "java/util/Optional")], returnType := none }, accessFlags := 0, code := some k8c1 }
def k8c2 : Code := { maxStack := 2, maxLocals := 1, code := prog_11_method_11_code, exceptionTable := #[], attributes := #[] }
def k8m2 : Method := { name := "typeModifier", desc := "()I", sig := { parameters := [], returnType := some .int }, accessFlags := 0, code := some k8c2 }
/-- com/example/interlace/interlace/Column -/
def k8 : Class := { plain "com/example/interlace/interlace/Column" (some 7) with
  accessFlags := 48
  interfaces := #[]
  cf := some (fileOf pool8 8 #[] #[{ accessFlags := 0, nameIndex := 5, descriptorIndex := 171, attributes := #[] }, { accessFlags := 0, nameIndex := 5, descriptorIndex := 100, attributes := #[] }, { accessFlags := 0, nameIndex := 192, descriptorIndex := 117, attributes := #[] }] 48 2 #[] #[{ accessFlags := 18, nameIndex := 11, descriptorIndex := 12, attributes := #[] }, { accessFlags := 18, nameIndex := 15, descriptorIndex := 16, attributes := #[] }, { accessFlags := 18, nameIndex := 19, descriptorIndex := 20, attributes := #[] }, { accessFlags := 18, nameIndex := 23, descriptorIndex := 24, attributes := #[] }, { accessFlags := 18, nameIndex := 27, descriptorIndex := 28, attributes := #[] }, { accessFlags := 24, nameIndex := 166, descriptorIndex := 20, attributes := #[] }, { accessFlags := 24, nameIndex := 169, descriptorIndex := 20, attributes := #[] }])
  fields := #[{ name := "name", type := (.object "java/lang/String"), accessFlags := 18, slot := 0, constantValue := 0 }, { name := "type", type := (.object "com/example/interlace/interlace/DataType"), accessFlags := 18, slot := 1, constantValue := 0 }, { name := "maxLength", type := .int, accessFlags := 18, slot := 2, constantValue := 0 }, { name := "notNull", type := .boolean, accessFlags := 18, slot := 3, constantValue := 0 }, { name := "defaultExpression", type := (.object "java/util/Optional"), accessFlags := 18, slot := 4, constantValue := 0 }, { name := "NO_LIMIT", type := .int, accessFlags := 24, slot := 0, constantValue := 0 }, { name := "MAX_LIMIT", type := .int, accessFlags := 24, slot := 1, constantValue := 0 }]
  methods := #[k8m0, k8m1, k8m2]
  instanceTypes := #[(.object "java/lang/String"), (.object "com/example/interlace/interlace/DataType"), .int, .boolean, (.object "java/util/Optional")]
  staticTypes := #[.int, .int]
  resolved := Array.replicate 255 none
  statics := none }

def pool9 : Array CpInfo := pool [(2, .class_ 4), (1, u "java/lang/CharSequence"), (42, .class_ 48), (0, u "java/lang/CharSequence$1CodePointIterator"), (10, .class_ 60), (0, u "java/lang/CharSequence$1CharIterator"), (5, .class_ 67), (0, u "java/lang/Object")] 63

/-- java/lang/CharSequence -/
def k9 : Class := { plain "java/lang/CharSequence" (some 0) with
  accessFlags := 1537
  interfaces := #[]
  cf := some (fileOf pool9 2 #[.nestMembers #[47, 59]] #[] 1537 66 #[] #[])
  fields := #[]
  methods := #[]
  instanceTypes := #[]
  staticTypes := #[]
  resolved := Array.replicate 131 none
  statics := none }

def pool10 : Array CpInfo := pool [(1, .class_ 2), (0, u "java/lang/constant/ConstantDesc"), (0, .class_ 4), (0, u "java/lang/Object")] 32

/-- java/lang/constant/ConstantDesc -/
def k10 : Class := { plain "java/lang/constant/ConstantDesc" (some 0) with
  accessFlags := 1537
  interfaces := #[]
  cf := some (fileOf pool10 1 #[] #[] 1537 3 #[] #[])
  fields := #[]
  methods := #[]
  instanceTypes := #[]
  staticTypes := #[]
  resolved := Array.replicate 37 none
  statics := none }

def pool11 : Array CpInfo := pool [(1, .methodref 2 3), (0, .class_ 4), (0, .nameAndType 5 6), (0, u "java/lang/Object"), (0, u "<init>"), (0, u "()V"), (2, .fieldref 10 11), (0, .class_ 12), (0, .nameAndType 13 14), (0, u "java/lang/String"), (0, u "value"), (0, u "[B"), (0, .fieldref 10 16), (0, .nameAndType 17 18), (0, u "coder"), (0, u "B"), (2, u "hash"), (0, u "I"), (2, u "hashIsZero"), (0, u "Z"), (11, .fieldref 10 39), (0, .nameAndType 40 26), (0, u "COMPACT_STRINGS"), (12, u "toBytes"), (53, .class_ 109), (1, u "java/lang/StringLatin1"), (99, .methodref 10 210), (0, .nameAndType 5 211), (0, u "([BB)V"), (157, u "(C)Z"), (205, .class_ 576), (0, u "java/lang/CharSequence"), (22, u "CASE_INSENSITIVE_ORDER"), (0, u "Ljava/util/Comparator;"), (181, u "valueOf"), (0, u "(C)Ljava/lang/String;"), (231, .methodref 107 1016), (0, .nameAndType 1017 369), (0, u "canEncode"), (0, .methodref 107 1019), (0, .nameAndType 53 1020), (0, u "(C)[B"), (80, u "serialPersistentFields"), (0, u "[Ljava/io/ObjectStreamField;"), (0, .class_ 1104), (0, u "java/lang/String$CaseInsensitiveComparator"), (1, .class_ 1107), (0, u "java/io/Serializable"), (0, .class_ 1109), (0, u "java/lang/Comparable"), (0, .class_ 1111), (0, u "java/lang/constant/Constable"), (0, .class_ 1113), (0, u "java/lang/constant/ConstantDesc"), (2, u "serialVersionUID"), (0, u "J"), (3, u "REPL"), (0, u "C"), (2, u "LATIN1"), (1, u "UTF16")] 323

def k11m0 : Method := { name := "<init>", desc := "()V", sig := { parameters := [], returnType := none }, accessFlags := 1, code := none }
def k11c1 : Code := { maxStack := 4, maxLocals := 1, code := jdk_42_method_139_code, exceptionTable := #[], attributes := #[] }
def k11m1 : Method := { name := "valueOf", desc := "(C)Ljava/lang/String;", sig := { parameters := [.char], returnType := some (.object "java/lang/String") }, accessFlags := 9, code := some k11c1 }
def k11c2 : Code := { maxStack := 2, maxLocals := 3, code := jdk_42_method_151_code, exceptionTable := #[], attributes := #[] }
def k11m2 : Method := { name := "<init>", desc := "([BB)V", sig := { parameters := [(.array .byte), .byte], returnType := none }, accessFlags := 0, code := some k11c2 }
/-- java/lang/String -/
def k11 : Class := { plain "java/lang/String" (some 0) with
  accessFlags := 49
  interfaces := #[4, 3, 9, 2, 10]
  cf := some (fileOf pool11 10 #[.nestMembers #[1103]] #[{ accessFlags := 1, nameIndex := 5, descriptorIndex := 6, attributes := #[] }, { accessFlags := 9, nameIndex := 782, descriptorIndex := 783, attributes := #[] }, { accessFlags := 0, nameIndex := 5, descriptorIndex := 211, attributes := #[] }] 49 2 #[1106, 1108, 575, 1110, 1112] #[{ accessFlags := 18, nameIndex := 13, descriptorIndex := 14, attributes := #[] }, { accessFlags := 18, nameIndex := 17, descriptorIndex := 18, attributes := #[] }, { accessFlags := 2, nameIndex := 21, descriptorIndex := 22, attributes := #[] }, { accessFlags := 2, nameIndex := 25, descriptorIndex := 26, attributes := #[] }, { accessFlags := 26, nameIndex := 1116, descriptorIndex := 1117, attributes := #[] }, { accessFlags := 24, nameIndex := 40, descriptorIndex := 26, attributes := #[] }, { accessFlags := 26, nameIndex := 1101, descriptorIndex := 1102, attributes := #[] }, { accessFlags := 26, nameIndex := 1121, descriptorIndex := 1122, attributes := #[] }, { accessFlags := 25, nameIndex := 599, descriptorIndex := 600, attributes := #[] }, { accessFlags := 24, nameIndex := 1125, descriptorIndex := 18, attributes := #[] }, { accessFlags := 24, nameIndex := 1127, descriptorIndex := 18, attributes := #[] }])
  fields := #[{ name := "value", type := (.array .byte), accessFlags := 18, slot := 0, constantValue := 0 }, { name := "coder", type := .byte, accessFlags := 18, slot := 1, constantValue := 0 }, { name := "hash", type := .int, accessFlags := 2, slot := 2, constantValue := 0 }, { name := "hashIsZero", type := .boolean, accessFlags := 2, slot := 3, constantValue := 0 }, { name := "serialVersionUID", type := .long, accessFlags := 26, slot := 0, constantValue := 0 }, { name := "COMPACT_STRINGS", type := .boolean, accessFlags := 24, slot := 1, constantValue := 0 }, { name := "serialPersistentFields", type := (.array (.object "java/io/ObjectStreamField")), accessFlags := 26, slot := 2, constantValue := 0 }, { name := "REPL", type := .char, accessFlags := 26, slot := 3, constantValue := 0 }, { name := "CASE_INSENSITIVE_ORDER", type := (.object "java/util/Comparator"), accessFlags := 25, slot := 4, constantValue := 0 }, { name := "LATIN1", type := .byte, accessFlags := 24, slot := 5, constantValue := 0 }, { name := "UTF16", type := .byte, accessFlags := 24, slot := 6, constantValue := 0 }]
  methods := #[k11m0, k11m1, k11m2]
  instanceTypes := #[(.array .byte), .byte, .int, .boolean]
  staticTypes := #[.long, .boolean, (.array (.object "java/io/ObjectStreamField")), .char, (.object "java/util/Comparator"), .byte, .byte]
  resolved := Array.replicate 1451 none
  statics := some 1 }

def pool12 : Array CpInfo := pool [(4, .class_ 6), (1, u "java/lang/Object"), (0, u "<init>"), (0, u "()V"), (5, .class_ 16), (1, u "java/lang/StringLatin1"), (73, u "canEncode"), (14, u "(C)Z"), (15, u "$assertionsDisabled"), (0, u "Z"), (98, .class_ 223), (1, u "java/lang/StringLatin1$LinesSpliterator"), (156, u "toBytes"), (1, u "(C)[B"), (7, .class_ 391), (0, u "java/lang/StringLatin1$CharsSpliterator")] 3

def k12m0 : Method := { name := "<init>", desc := "()V", sig := { parameters := [], returnType := none }, accessFlags := 0, code := none }
def k12c1 : Code := { maxStack := 2, maxLocals := 1, code := jdk_43_method_3_code, exceptionTable := #[], attributes := #[] }
def k12m1 : Method := { name := "canEncode", desc := "(C)Z", sig := { parameters := [.char], returnType := some .boolean }, accessFlags := 9, code := some k12c1 }
def k12c2 : Code := { maxStack := 4, maxLocals := 1, code := jdk_43_method_46_code, exceptionTable := #[], attributes := #[] }
def k12m2 : Method := { name := "toBytes", desc := "(C)[B", sig := { parameters := [.char], returnType := some (.array .byte) }, accessFlags := 9, code := some k12c2 }
/-- java/lang/StringLatin1 -/
def k12 : Class := { plain "java/lang/StringLatin1" (some 0) with
  accessFlags := 48
  interfaces := #[]
  cf := some (fileOf pool12 14 #[.nestMembers #[390, 221]] #[{ accessFlags := 0, nameIndex := 7, descriptorIndex := 8, attributes := #[] }, { accessFlags := 9, nameIndex := 90, descriptorIndex := 105, attributes := #[] }, { accessFlags := 9, nameIndex := 380, descriptorIndex := 382, attributes := #[] }] 48 4 #[] #[{ accessFlags := 4120, nameIndex := 121, descriptorIndex := 122, attributes := #[] }])
  fields := #[{ name := "$assertionsDisabled", type := .boolean, accessFlags := 4120, slot := 0, constantValue := 0 }]
  methods := #[k12m0, k12m1, k12m2]
  instanceTypes := #[]
  staticTypes := #[.boolean]
  resolved := Array.replicate 395 none
  statics := none }

def pool13 : Array CpInfo := pool [(1, .fieldref 2 3), (0, .class_ 4), (0, .nameAndType 5 6), (0, u "java/util/Optional"), (0, u "EMPTY"), (0, u "Ljava/util/Optional;"), (1, .class_ 10), (1, u "java/lang/Object"), (4, u "value"), (0, u "Ljava/lang/Object;"), (38, u "empty"), (0, u "()Ljava/util/Optional;")] 130

def k13c0 : Code := { maxStack := 1, maxLocals := 1, code := jdk_32_method_1_code, exceptionTable := #[], attributes := #[] }
def k13m0 : Method := { name := "empty", desc := "()Ljava/util/Optional;", sig := { parameters := [], returnType := some (.object "java/util/Optional") }, accessFlags := 9, code := some k13c0 }
/-- java/util/Optional -/
def k13 : Class := { plain "java/util/Optional" (some 0) with
  accessFlags := 49
  interfaces := #[]
  cf := some (fileOf pool13 2 #[] #[{ accessFlags := 9, nameIndex := 55, descriptorIndex := 56, attributes := #[] }] 49 8 #[] #[{ accessFlags := 26, nameIndex := 5, descriptorIndex := 6, attributes := #[] }, { accessFlags := 18, nameIndex := 15, descriptorIndex := 16, attributes := #[] }])
  fields := #[{ name := "EMPTY", type := (.object "java/util/Optional"), accessFlags := 26, slot := 0, constantValue := 0 }, { name := "value", type := (.object "java/lang/Object"), accessFlags := 18, slot := 0, constantValue := 0 }]
  methods := #[k13m0]
  instanceTypes := #[(.object "java/lang/Object")]
  staticTypes := #[(.object "java/util/Optional")]
  resolved := Array.replicate 187 none
  statics := some 2 }

def pool14 : Array CpInfo := pool [(2, .class_ 4), (1, u "java/lang/Object"), (0, u "<init>"), (0, u "()V"), (17, .class_ 26), (1, u "jdk/internal/util/Preconditions"), (28, .class_ 56), (0, u "jdk/internal/util/Preconditions$4"), (57, .class_ 115), (0, u "jdk/internal/util/Preconditions$1"), (7, u "SIOOBE_FORMATTER"), (0, u "Ljava/util/function/BiFunction;"), (0, .class_ 126), (0, u "jdk/internal/util/Preconditions$2"), (3, u "AIOOBE_FORMATTER"), (0, .class_ 132), (0, u "jdk/internal/util/Preconditions$3"), (3, u "IOOBE_FORMATTER")] 57

def k14m0 : Method := { name := "<init>", desc := "()V", sig := { parameters := [], returnType := none }, accessFlags := 1, code := none }
/-- jdk/internal/util/Preconditions -/
def k14 : Class := { plain "jdk/internal/util/Preconditions" (some 0) with
  accessFlags := 33
  interfaces := #[]
  cf := some (fileOf pool14 24 #[.nestMembers #[55, 131, 125, 114]] #[{ accessFlags := 1, nameIndex := 5, descriptorIndex := 6, attributes := #[] }] 33 2 #[] #[{ accessFlags := 25, nameIndex := 123, descriptorIndex := 124, attributes := #[] }, { accessFlags := 25, nameIndex := 130, descriptorIndex := 124, attributes := #[] }, { accessFlags := 25, nameIndex := 136, descriptorIndex := 124, attributes := #[] }])
  fields := #[{ name := "SIOOBE_FORMATTER", type := (.object "java/util/function/BiFunction"), accessFlags := 25, slot := 0, constantValue := 0 }, { name := "AIOOBE_FORMATTER", type := (.object "java/util/function/BiFunction"), accessFlags := 25, slot := 1, constantValue := 0 }, { name := "IOOBE_FORMATTER", type := (.object "java/util/function/BiFunction"), accessFlags := 25, slot := 2, constantValue := 0 }]
  methods := #[k14m0]
  instanceTypes := #[]
  staticTypes := #[(.object "java/util/function/BiFunction"), (.object "java/util/function/BiFunction"), (.object "java/util/function/BiFunction")]
  resolved := Array.replicate 194 none
  statics := some 3 }

def pool15 : Array CpInfo := pool [(9, u "<init>"), (6, .class_ 18), (1, u "java/lang/Object"), (0, u "()V"), (1, .class_ 23), (1, u "jdk/internal/util/ArraysSupport"), (0, u "LOG2_ARRAY_LONG_INDEX_SCALE"), (0, u "I"), (2, u "U"), (0, u "Ljdk/internal/misc/Unsafe;"), (8, u "BIG_ENDIAN"), (0, u "Z"), (8, u "LOG2_BYTE_BIT_SIZE"), (4, u "LOG2_ARRAY_INT_INDEX_SCALE"), (54, u "JLA"), (0, u "Ljdk/internal/access/JavaLangAccess;"), (11, u "LOG2_ARRAY_BOOLEAN_INDEX_SCALE"), (9, u "LOG2_ARRAY_BYTE_INDEX_SCALE"), (5, u "LOG2_ARRAY_CHAR_INDEX_SCALE"), (5, u "LOG2_ARRAY_SHORT_INDEX_SCALE"), (18, u "LOG2_ARRAY_FLOAT_INDEX_SCALE"), (24, u "LOG2_ARRAY_DOUBLE_INDEX_SCALE"), (89, u "T_BOOLEAN"), (2, u "T_CHAR"), (1, u "T_FLOAT"), (1, u "T_DOUBLE"), (1, u "T_BYTE"), (1, u "T_SHORT"), (1, u "T_INT"), (1, u "T_LONG"), (1, u "SOFT_MAX_ARRAY_LENGTH")] 83

def k15m0 : Method := { name := "<init>", desc := "()V", sig := { parameters := [], returnType := none }, accessFlags := 2, code := none }
/-- jdk/internal/util/ArraysSupport -/
def k15 : Class := { plain "jdk/internal/util/ArraysSupport" (some 0) with
  accessFlags := 33
  interfaces := #[]
  cf := some (fileOf pool15 21 #[] #[{ accessFlags := 2, nameIndex := 9, descriptorIndex := 19, attributes := #[] }] 33 16 #[] #[{ accessFlags := 24, nameIndex := 28, descriptorIndex := 29, attributes := #[] }, { accessFlags := 26, nameIndex := 38, descriptorIndex := 39, attributes := #[] }, { accessFlags := 25, nameIndex := 121, descriptorIndex := 25, attributes := #[] }, { accessFlags := 25, nameIndex := 131, descriptorIndex := 25, attributes := #[] }, { accessFlags := 25, nameIndex := 137, descriptorIndex := 25, attributes := #[] }, { accessFlags := 25, nameIndex := 143, descriptorIndex := 25, attributes := #[] }, { accessFlags := 25, nameIndex := 53, descriptorIndex := 25, attributes := #[] }, { accessFlags := 25, nameIndex := 24, descriptorIndex := 25, attributes := #[] }, { accessFlags := 25, nameIndex := 162, descriptorIndex := 25, attributes := #[] }, { accessFlags := 25, nameIndex := 187, descriptorIndex := 25, attributes := #[] }, { accessFlags := 26, nameIndex := 48, descriptorIndex := 25, attributes := #[] }, { accessFlags := 25, nameIndex := 277, descriptorIndex := 25, attributes := #[] }, { accessFlags := 25, nameIndex := 280, descriptorIndex := 25, attributes := #[] }, { accessFlags := 25, nameIndex := 282, descriptorIndex := 25, attributes := #[] }, { accessFlags := 25, nameIndex := 284, descriptorIndex := 25, attributes := #[] }, { accessFlags := 25, nameIndex := 286, descriptorIndex := 25, attributes := #[] }, { accessFlags := 25, nameIndex := 288, descriptorIndex := 25, attributes := #[] }, { accessFlags := 25, nameIndex := 290, descriptorIndex := 25, attributes := #[] }, { accessFlags := 25, nameIndex := 292, descriptorIndex := 25, attributes := #[] }, { accessFlags := 26, nameIndex := 108, descriptorIndex := 109, attributes := #[] }, { accessFlags := 25, nameIndex := 294, descriptorIndex := 25, attributes := #[] }])
  fields := #[{ name := "U", type := (.object "jdk/internal/misc/Unsafe"), accessFlags := 24, slot := 0, constantValue := 0 }, { name := "BIG_ENDIAN", type := .boolean, accessFlags := 26, slot := 1, constantValue := 0 }, { name := "LOG2_ARRAY_BOOLEAN_INDEX_SCALE", type := .int, accessFlags := 25, slot := 2, constantValue := 0 }, { name := "LOG2_ARRAY_BYTE_INDEX_SCALE", type := .int, accessFlags := 25, slot := 3, constantValue := 0 }, { name := "LOG2_ARRAY_CHAR_INDEX_SCALE", type := .int, accessFlags := 25, slot := 4, constantValue := 0 }, { name := "LOG2_ARRAY_SHORT_INDEX_SCALE", type := .int, accessFlags := 25, slot := 5, constantValue := 0 }, { name := "LOG2_ARRAY_INT_INDEX_SCALE", type := .int, accessFlags := 25, slot := 6, constantValue := 0 }, { name := "LOG2_ARRAY_LONG_INDEX_SCALE", type := .int, accessFlags := 25, slot := 7, constantValue := 0 }, { name := "LOG2_ARRAY_FLOAT_INDEX_SCALE", type := .int, accessFlags := 25, slot := 8, constantValue := 0 }, { name := "LOG2_ARRAY_DOUBLE_INDEX_SCALE", type := .int, accessFlags := 25, slot := 9, constantValue := 0 }, { name := "LOG2_BYTE_BIT_SIZE", type := .int, accessFlags := 26, slot := 10, constantValue := 0 }, { name := "T_BOOLEAN", type := .int, accessFlags := 25, slot := 11, constantValue := 0 }, { name := "T_CHAR", type := .int, accessFlags := 25, slot := 12, constantValue := 0 }, { name := "T_FLOAT", type := .int, accessFlags := 25, slot := 13, constantValue := 0 }, { name := "T_DOUBLE", type := .int, accessFlags := 25, slot := 14, constantValue := 0 }, { name := "T_BYTE", type := .int, accessFlags := 25, slot := 15, constantValue := 0 }, { name := "T_SHORT", type := .int, accessFlags := 25, slot := 16, constantValue := 0 }, { name := "T_INT", type := .int, accessFlags := 25, slot := 17, constantValue := 0 }, { name := "T_LONG", type := .int, accessFlags := 25, slot := 18, constantValue := 0 }, { name := "JLA", type := (.object "jdk/internal/access/JavaLangAccess"), accessFlags := 26, slot := 19, constantValue := 0 }, { name := "SOFT_MAX_ARRAY_LENGTH", type := .int, accessFlags := 25, slot := 20, constantValue := 0 }]
  methods := #[k15m0]
  instanceTypes := #[]
  staticTypes := #[(.object "jdk/internal/misc/Unsafe"), .boolean, .int, .int, .int, .int, .int, .int, .int, .int, .int, .int, .int, .int, .int, .int, .int, .int, .int, (.object "jdk/internal/access/JavaLangAccess"), .int]
  resolved := Array.replicate 378 none
  statics := none }

def pool16 : Array CpInfo := pool [(2, .class_ 4), (1, u "com/example/interlace/interlace/DataType"), (5, .class_ 12), (1, u "com/example/interlace/interlace/DataType$10")] 37

/-- com/example/interlace/interlace/DataType$10 -/
def k16 : Class := { plain "com/example/interlace/interlace/DataType$10" (some 6) with
  accessFlags := 16432
  interfaces := #[]
  cf := some (fileOf pool16 10 #[.nestHost 2] #[] 16432 2 #[] #[])
  fields := #[]
  methods := #[]
  instanceTypes := #[(.object "java/lang/String"), .int, .int, (.object "java/lang/String"), .int, .int]
  staticTypes := #[]
  resolved := Array.replicate 50 none
  statics := none }

def pool17 : Array CpInfo := pool [(2, .class_ 4), (1, u "com/example/interlace/interlace/DataType"), (3, .class_ 10), (1, u "com/example/interlace/interlace/DataType$11")] 33

/-- com/example/interlace/interlace/DataType$11 -/
def k17 : Class := { plain "com/example/interlace/interlace/DataType$11" (some 6) with
  accessFlags := 16432
  interfaces := #[]
  cf := some (fileOf pool17 8 #[.nestHost 2] #[] 16432 2 #[] #[])
  fields := #[]
  methods := #[]
  instanceTypes := #[(.object "java/lang/String"), .int, .int, (.object "java/lang/String"), .int, .int]
  staticTypes := #[]
  resolved := Array.replicate 44 none
  statics := none }

def pool18 : Array CpInfo := pool [(1, u "java/lang/Cloneable"), (0, .class_ 1), (0, u "java/lang/Object"), (0, .class_ 3)] 3

/-- java/lang/Cloneable -/
def k18 : Class := { plain "java/lang/Cloneable" (some 0) with
  accessFlags := 1537
  interfaces := #[]
  cf := some (fileOf pool18 2 #[] #[] 1537 4 #[] #[])
  fields := #[]
  methods := #[]
  instanceTypes := #[]
  staticTypes := #[]
  resolved := Array.replicate 8 none
  statics := none }

/-- the primitive byte -/
def k19 : Class := { plain "byte" none with kind := .primitive 'B', accessFlags := 0x411 }
/-- [B -/
def k20 : Class := { plain "[B" (some 0) with kind := .array 19 .byte, interfaces := #[18, 4], accessFlags := 1041 }

/-- the primitive int -/
def k21 : Class := { plain "int" none with kind := .primitive 'I', accessFlags := 0x411 }
/-- [I -/
def k22 : Class := { plain "[I" (some 0) with kind := .array 21 .int, interfaces := #[18, 4], accessFlags := 1041 }

def heap : Heap := #[{ cls := 6, slots := #[.null, .null, .null, .null, .null, .null, .null, .null, .null, .ref 4, .ref 5, .null, .null, .null, .int 0, .int 0, .long 0, .long 0, .null], vm := .statics 6 },
  { cls := 11, slots := #[.long 0, .int 1, .null, .int 0, .null, .int 0, .int 0], vm := .statics 11 },
  { cls := 13, slots := #[.ref 6], vm := .statics 13 },
  { cls := 14, slots := #[.null, .null, .null], vm := .statics 14 },
  { cls := 16, slots := #[.null, .int 9, .int 0, .null, .int 0, .int 0], vm := .none },
  { cls := 17, slots := #[.null, .int 10, .int 0, .null, .int 0, .int 0], vm := .none },
  { cls := 13, slots := #[.null], vm := .none }]
def classes : Array Class := #[k0, k1, k2, k3, k4, k5, k6, k7, k8, k9, k10, k11, k12, k13, k14, k15, k16, k17, k18, k19, k20, k21, k22]
def interned : List (Array UInt16 × Addr) := []
def slotsUsed : Nat := 43
def theMethod : MethodId := ⟨1, 1⟩
def args0 : Array Value := #[.int 5, .int 7, .int 8]
def aboutOver (below : List Frame) : State where
  vm := { classes := classes, interned := interned.toArray }
  heap := heap
  slotsUsed := slotsUsed
  threads := #[{ frames := .invoking theMethod args0 :: below }]
def below0 : List Frame := [.native { method := ⟨0, 0⟩, args := #[] }]
def about1 : State := aboutOver below0
def p0 : Program := .bare "" "" ""
def e0 : Env := launch0.env 0 0 0
theorem w_frames : about1.frames = Frame.invoking theMethod args0 :: below0 := rfl
set_option maxRecDepth 65536 in
theorem w_args : argsFit about1.vm theMethod args0 = true := by decide +kernel
set_option maxRecDepth 65536 in
theorem w_heap : heapFits about1 = true := by decide +kernel
set_option maxRecDepth 65536 in
theorem w_runnable : about1.curStatus? = some .runnable := by decide +kernel
set_option maxRecDepth 65536 in
theorem w_alone : about1.alone = true := by decide +kernel
set_option maxRecDepth 65536 in
theorem w_named : about1.methodNamed? x = some theMethod := by decide +kernel
set_option maxRecDepth 65536 in
theorem w_hears : about1.hears theMethod below0 = true := by decide +kernel
set_option maxRecDepth 65536 in
theorem w_ripe : about1.ripe theMethod args0 below0 = true := by decide +kernel
theorem w_running : about1.status = .running := rfl
set_option maxRecDepth 65536 in
theorem w_room : about1.hasRoom e0.platform room_1 = true :=
  launch0.hasRoom_least _ room_1 (by decide +kernel) (by decide +kernel) (by decide +kernel) (by decide +kernel) (by decide +kernel) (by decide +kernel)
theorem allAtoms_all (ts : List Jvm.Cond) (a : Array Jvm.Value) (st : Jvm.State) : (allAtoms ts).before a st = ts.all (fun c => c.before a st) := by
  induction ts with
  | nil => rfl
  | cons c t ih =>
    show (Jvm.Cond.and c (allAtoms t)).before a st = _
    rw [Jvm.Cond.before_and, ih, List.all_cons]
def words1 : List Jvm.Cond := Jvm.Cond.code x code maxLocals ret :: tables_1
/-- a 'code' word, met by the world's own term for the bytes: nothing is compared byte by byte -/
theorem code_word {y : MethodName} {bytes : ByteArray} {mx : Nat} {rt : Option FieldType} {a : Array Value} {s : State} {m : MethodId} {meth : Method} {c : Code} (h1 : s.methodNamed? y = some m) (h2 : s.vm.method? m = some meth) (h3 : meth.code = some c) (h4 : c.code = bytes)
    (h5 : (c.maxLocals == mx && c.exceptionTable.isEmpty && decide (c.maxStack ≤ mostOperands) && decide (meth.sig.returnType = rt) && !meth.locks && decide (parseMethodDescriptor y.desc = some meth.sig)) = true) : (Jvm.Cond.code y bytes mx rt).before a s = true := by
  simp only [Bool.and_eq_true, beq_iff_eq, Bool.not_eq_true', decide_eq_true_eq] at h5
  obtain ⟨⟨⟨⟨⟨g1, g2⟩, g3⟩, g4⟩, g5⟩, g6⟩ := h5
  simp [Cond.before, Cond.holds, Cond.value, h1, h2, h3, h4, g1, g2, g3, g4, g5, g6]
def isCode : Jvm.Cond → Bool
  | .code _ _ _ _ => true
  | _ => false
theorem all_split {L : List Jvm.Cond} {P : Jvm.Cond → Bool} (h1 : L.all (fun c => isCode c || P c) = true) (h2 : ∀ c ∈ L.filter isCode, P c = true) : L.all P = true := by
  refine List.all_eq_true.mpr fun c hc => ?_
  have h := List.all_eq_true.mp h1 c hc
  rcases Bool.eq_false_or_eq_true (isCode c) with hi | hi
  · exact h2 c (List.mem_filter.mpr ⟨hc, hi⟩)
  · simpa [hi] using h
set_option maxRecDepth 65536 in
theorem w_c0 : (Jvm.Cond.code x code maxLocals ret).before args0 about1 = true := code_word (m := ⟨1, 1⟩) (meth := k1m1) (c := k1c1) (by decide +kernel) rfl rfl rfl (by decide +kernel)
set_option maxRecDepth 65536 in
theorem w_c1 : (Jvm.Cond.code ({ cls := "java/lang/String", name := "valueOf", desc := "(C)Ljava/lang/String;" } : Jvm.MethodName) jdk_42_method_139_code (1 : Nat) (Option.some (Jvm.ClassFile.FieldType.object "java/lang/String"))).before args0 about1 = true := code_word (m := ⟨11, 1⟩) (meth := k11m1) (c := k11c1) (by decide +kernel) rfl rfl rfl (by decide +kernel)
set_option maxRecDepth 65536 in
theorem w_c2 : (Jvm.Cond.code ({ cls := "java/lang/StringLatin1", name := "canEncode", desc := "(C)Z" } : Jvm.MethodName) jdk_43_method_3_code (1 : Nat) (Option.some Jvm.ClassFile.FieldType.boolean)).before args0 about1 = true := code_word (m := ⟨12, 1⟩) (meth := k12m1) (c := k12c1) (by decide +kernel) rfl rfl rfl (by decide +kernel)
set_option maxRecDepth 65536 in
theorem w_c3 : (Jvm.Cond.code ({ cls := "java/lang/StringLatin1", name := "toBytes", desc := "(C)[B" } : Jvm.MethodName) jdk_43_method_46_code (1 : Nat) (Option.some (Jvm.ClassFile.FieldType.array Jvm.ClassFile.FieldType.byte))).before args0 about1 = true := code_word (m := ⟨12, 2⟩) (meth := k12m2) (c := k12c2) (by decide +kernel) rfl rfl rfl (by decide +kernel)
set_option maxRecDepth 65536 in
theorem w_c4 : (Jvm.Cond.code ({ cls := "java/lang/String", name := "<init>", desc := "([BB)V" } : Jvm.MethodName) jdk_42_method_151_code (3 : Nat) (Option.none : Option Jvm.ClassFile.FieldType)).before args0 about1 = true := code_word (m := ⟨11, 2⟩) (meth := k11m2) (c := k11c2) (by decide +kernel) rfl rfl rfl (by decide +kernel)
set_option maxRecDepth 65536 in
theorem w_c5 : (Jvm.Cond.code ({ cls := "java/lang/Object", name := "<init>", desc := "()V" } : Jvm.MethodName) object_method_1_code (1 : Nat) (Option.none : Option Jvm.ClassFile.FieldType)).before args0 about1 = true := code_word (m := ⟨0, 0⟩) (meth := k0m0) (c := k0c0) (by decide +kernel) rfl rfl rfl (by decide +kernel)
set_option maxRecDepth 65536 in
theorem w_c6 : (Jvm.Cond.code ({ cls := "com/example/interlace/interlace/Column", name := "<init>", desc := "(Ljava/lang/String;Lcom/example/interlace/interlace/DataType;IZ)V" } : Jvm.MethodName) prog_11_method_1_code (5 : Nat) (Option.none : Option Jvm.ClassFile.FieldType)).before args0 about1 = true := code_word (m := ⟨8, 0⟩) (meth := k8m0) (c := k8c0) (by decide +kernel) rfl rfl rfl (by decide +kernel)
set_option maxRecDepth 65536 in
theorem w_c7 : (Jvm.Cond.code ({ cls := "java/util/Optional", name := "empty", desc := "()Ljava/util/Optional;" } : Jvm.MethodName) jdk_32_method_1_code (1 : Nat) (Option.some (Jvm.ClassFile.FieldType.object "java/util/Optional"))).before args0 about1 = true := code_word (m := ⟨13, 0⟩) (meth := k13m0) (c := k13c0) (by decide +kernel) rfl rfl rfl (by decide +kernel)
set_option maxRecDepth 65536 in
theorem w_c8 : (Jvm.Cond.code ({ cls := "com/example/interlace/interlace/Column", name := "<init>", desc := "(Ljava/lang/String;Lcom/example/interlace/interlace/DataType;IZLjava/util/Optional;)V" } : Jvm.MethodName) prog_11_method_2_code (6 : Nat) (Option.none : Option Jvm.ClassFile.FieldType)).before args0 about1 = true := code_word (m := ⟨8, 1⟩) (meth := k8m1) (c := k8c1) (by decide +kernel) rfl rfl rfl (by decide +kernel)
set_option maxRecDepth 65536 in
theorem w_c9 : (Jvm.Cond.code ({ cls := "java/lang/Record", name := "<init>", desc := "()V" } : Jvm.MethodName) jdk_30_method_1_code (1 : Nat) (Option.none : Option Jvm.ClassFile.FieldType)).before args0 about1 = true := code_word (m := ⟨7, 0⟩) (meth := k7m0) (c := k7c0) (by decide +kernel) rfl rfl rfl (by decide +kernel)
set_option maxRecDepth 65536 in
theorem w_c10 : (Jvm.Cond.code ({ cls := "com/example/interlace/interlace/Column", name := "typeModifier", desc := "()I" } : Jvm.MethodName) prog_11_method_11_code (1 : Nat) (Option.some Jvm.ClassFile.FieldType.int)).before args0 about1 = true := code_word (m := ⟨8, 2⟩) (meth := k8m2) (c := k8c2) (by decide +kernel) rfl rfl rfl (by decide +kernel)
def codes1 : List Jvm.Cond := [Jvm.Cond.code x code maxLocals ret, Jvm.Cond.code ({ cls := "java/lang/String", name := "valueOf", desc := "(C)Ljava/lang/String;" } : Jvm.MethodName) jdk_42_method_139_code (1 : Nat) (Option.some (Jvm.ClassFile.FieldType.object "java/lang/String")), Jvm.Cond.code ({ cls := "java/lang/StringLatin1", name := "canEncode", desc := "(C)Z" } : Jvm.MethodName) jdk_43_method_3_code (1 : Nat) (Option.some Jvm.ClassFile.FieldType.boolean), Jvm.Cond.code ({ cls := "java/lang/StringLatin1", name := "toBytes", desc := "(C)[B" } : Jvm.MethodName) jdk_43_method_46_code (1 : Nat) (Option.some (Jvm.ClassFile.FieldType.array Jvm.ClassFile.FieldType.byte)), Jvm.Cond.code ({ cls := "java/lang/String", name := "<init>", desc := "([BB)V" } : Jvm.MethodName) jdk_42_method_151_code (3 : Nat) (Option.none : Option Jvm.ClassFile.FieldType), Jvm.Cond.code ({ cls := "java/lang/Object", name := "<init>", desc := "()V" } : Jvm.MethodName) object_method_1_code (1 : Nat) (Option.none : Option Jvm.ClassFile.FieldType), Jvm.Cond.code ({ cls := "com/example/interlace/interlace/Column", name := "<init>", desc := "(Ljava/lang/String;Lcom/example/interlace/interlace/DataType;IZ)V" } : Jvm.MethodName) prog_11_method_1_code (5 : Nat) (Option.none : Option Jvm.ClassFile.FieldType), Jvm.Cond.code ({ cls := "java/util/Optional", name := "empty", desc := "()Ljava/util/Optional;" } : Jvm.MethodName) jdk_32_method_1_code (1 : Nat) (Option.some (Jvm.ClassFile.FieldType.object "java/util/Optional")), Jvm.Cond.code ({ cls := "com/example/interlace/interlace/Column", name := "<init>", desc := "(Ljava/lang/String;Lcom/example/interlace/interlace/DataType;IZLjava/util/Optional;)V" } : Jvm.MethodName) prog_11_method_2_code (6 : Nat) (Option.none : Option Jvm.ClassFile.FieldType), Jvm.Cond.code ({ cls := "java/lang/Record", name := "<init>", desc := "()V" } : Jvm.MethodName) jdk_30_method_1_code (1 : Nat) (Option.none : Option Jvm.ClassFile.FieldType), Jvm.Cond.code ({ cls := "com/example/interlace/interlace/Column", name := "typeModifier", desc := "()I" } : Jvm.MethodName) prog_11_method_11_code (1 : Nat) (Option.some Jvm.ClassFile.FieldType.int)]
set_option maxRecDepth 65536 in
theorem codes_eq : words1.filter isCode = codes1 := rfl
theorem w_codes : ∀ c ∈ words1.filter isCode, c.before args0 about1 = true := by
  rw [codes_eq]
  intro c hc
  simp only [codes1, List.mem_cons, List.not_mem_nil, or_false] at hc
  rcases hc with rfl | rfl | rfl | rfl | rfl | rfl | rfl | rfl | rfl | rfl | rfl
  · exact w_c0
  · exact w_c1
  · exact w_c2
  · exact w_c3
  · exact w_c4
  · exact w_c5
  · exact w_c6
  · exact w_c7
  · exact w_c8
  · exact w_c9
  · exact w_c10
set_option maxRecDepth 65536 in
theorem w_t1 : (words1.take 24).all (fun c => isCode c || c.before args0 about1) = true := by decide +kernel
set_option maxRecDepth 65536 in
theorem w_t2 : ((words1.drop 24).take 24).all (fun c => isCode c || c.before args0 about1) = true := by decide +kernel
set_option maxRecDepth 65536 in
theorem w_t3 : ((words1.drop 24).drop 24).all (fun c => isCode c || c.before args0 about1) = true := by decide +kernel
theorem w_tables : (allAtoms (Jvm.Cond.code x code maxLocals ret :: tables_1)).before args0 about1 = true := by
  rw [allAtoms_all]
  show words1.all (fun c => c.before args0 about1) = true
  refine all_split ?_ w_codes
  rw [← List.take_append_drop 24 words1, List.all_append, w_t1, ← List.take_append_drop 24 (words1.drop 24), List.all_append, w_t2, w_t3]
  rfl
set_option maxRecDepth 65536 in
theorem w_rest : rest_1_c.before args0 about1 = true := by decide +kernel
set_option maxRecDepth 65536 in
theorem w_case : (Jvm.Cond.and given_1 narrow_1).before args0 about1 = true := by decide +kernel
theorem w_applies : (headSpec (Jvm.Cond.code x code maxLocals ret :: tables_1) room_1).applies x e0.platform about1 = true :=
  (Spec.applies_iff w_frames).mpr ⟨w_running, w_runnable, w_alone, w_named, w_hears, w_ripe, w_room, w_tables⟩
theorem atStart : AtStart classFile x code maxLocals ret World_1 tables_1 room_1 Calls_1 rest_1 Pre_1 launch0 p0 e0 about1 theMethod args0 below0 :=
  ⟨lists_1, trivial, launch0.admits_env _ _ _, launch0.least_env, fairChoices_fair.cas, fairChoices_fair.clock, w_frames, w_args, w_heap, w_applies, trivial, w_rest, w_case⟩
end start1
theorem witness_1 : WitnessClaimed_1 := ⟨start1.p0, start1.e0, start1.about1, start1.theMethod, start1.args0, start1.below0, start1.atStart⟩
end Jvm.Pilot.@@N@@
