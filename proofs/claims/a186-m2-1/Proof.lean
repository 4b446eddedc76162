import JvmDerived
import JvmDerived.Pilot.@@N@@Statement
import JvmDerived.Pilot.@@N@@Code
set_option linter.unusedVariables false
set_option linter.unusedSimpArgs false
namespace Jvm.RoadKit
open Sem ClassFile Op Lib Jvm.Stand Jvm.Free Jvm.LawKit
/-- the run from S ends, and ends as Q says -/
def Go (tb : Tables) (e : Env) (below : List Frame) (Q : Outcome → State → Prop) (S : State) : Prop := ∃ s₂ o, Steps tb e below S s₂ ∧ s₂.status = .running ∧ Ended s₂ below o ∧ Q o s₂
theorem Go.by {tb : Tables} {e : Env} {below : List Frame} {Q : Outcome → State → Prop} {S S' : State} (h : ∀ t, Steps tb e below S' t → Steps tb e below S t) (k : Go tb e below Q S') : Go tb e below Q S := by
  obtain ⟨s₂, o, h1, r⟩ := k
  exact ⟨s₂, o, h _ h1, r⟩
/-- what a contract says of the end -/
def Ret (s : State) (n0 : Nat) (Q : Option Value → Heap → Prop) (C S : Nat) : Outcome → State → Prop := fun o U => ∃ v L, o = .returned v ∧ (Q v U.heap ∧ Fr n0 L) ∧ FrameEnd s o U L C S
def Met (l : Launch) (Z : State) (n0 : Nat) (y : MethodName) (bytes : ByteArray) (maxL : Nat) (ret : Option FieldType) (ws : List Cond) (rm : Room) (as : Array Value) (h0 : Heap) (Q : Option Value → Heap → Prop) : Prop :=
  MetFree l y (head1 (Cond.code y bytes maxL ret :: ws) rm) (fun a U => a = as ∧ Z.Warmed39 U.vm ∧ U.heap = h0) (fun _ _ _ _ _ => True) (fun _ U o U' => ∃ v L, o = .returned v ∧ (Q v U'.heap ∧ Fr n0 L) ∧ FrameEnd U o U' L rm.cells rm.slots)
/-- where the walk stands: the heap is h, k cells of n slots were made, nothing below n0 was written -/
def Sd (n0 : Nat) (p : Program) (l : Launch) (e : Env) (R : Room) (s : State) (m : MethodId) (args : Array Value) (below : List Frame) (meth : Method) (c : Code) (T : State) (h : Heap) (k n : Nat) : Prop :=
  ∃ locs, Stand p l e R s m args below meth c T locs k n ∧ Fr n0 locs ∧ T.heap = h
section Sds
variable {n0 : Nat} {p : Program} {l : Launch} {e : Env} {R : Room} {s : State} {m : MethodId} {args : Array Value} {below : List Frame} {meth : Method} {c : Code} {T : State} {h : Heap} {k n : Nat} {Z : State} {a0 : Array Value}
theorem catV {v : Value} (h : v.isRef = true) : v.category = 1 := by cases v <;> first | rfl | (cases h; done)
theorem Sd.here (X : Sd n0 p l e R s m args below meth c T h k n) : At T m c below := by obtain ⟨_, X, -⟩ := X; exact X.here
theorem Sd.more (X : Sd n0 p l e R s m args below meth c T h k n) {k' n' : Nat} (hk : k ≤ k') (hn : n ≤ n') : Sd n0 p l e R s m args below meth c T h k' n' := by
  obtain ⟨L, X, N, q⟩ := X; exact ⟨L, X.more hk hn, N, q⟩
theorem enter {y : MethodName} {bytes : ByteArray} {maxL : Nat} {ret : Option FieldType} {ws : List Cond} {rm : Room} {as : Array Value} {h0 : Heap} {Q : Option Value → Heap → Prop} {Ls : Array Slot}
    (hpl : plainFor y = true) (hef : ∀ m, entryFrame m as maxL = mkF m 0 Ls [])
    (body : ∀ (p : Program) (e : Env) (s : State) (m : MethodId) (below : List Frame) (meth : Method) (c : Code) (T0 : State), p.tables.exec = Jvm.exec → c.code = bytes → c.maxLocals = maxL → s.vm.findClass y.cls = some m.cls → meth.name = y.name → meth.sig.returnType = ret → meth.locks = false → Z.Warmed39 s.vm →
      Sd n0 p l e rm s m as below meth c T0 h0 0 0 → Go p.tables e below (Ret s n0 Q rm.cells rm.slots) (T0.setTop (mkF m 0 Ls []))) : Met l Z n0 y bytes maxL ret ws rm as h0 Q := by
  refine MetFree.of_bodySF hpl hisR ?_
  intro p e s m args below meth c s₁ Bd hml0 hP hK
  obtain ⟨rfl, hZ, hh⟩ := hP
  have X0 : Stand p l e rm s m args below meth c s₁ [] 0 0 := Stand.of_body Bd
  have e0 : s₁.heap = h0 := by rw [← hh, Bd.state]; rfl
  have hlk : meth.locks = false := BodyLoose.notSynchronized Bd
  have k := body p e s m below meth c s₁ Bd.exec Bd.bytes hml0 (findClass_of_methodNamed Bd.named) (name_of_methodNamed Bd.named Bd.method).1 Bd.returns hlk hZ ⟨[], X0, Fr.nil n0, e0⟩
  obtain ⟨s₂, o, h1, h2, h3, h4⟩ := k
  exact ⟨s₂, o, castTop (hef m) h1, h2, h3, h4⟩
/-! returns -/
theorem Go.leave (X : Sd n0 p l e R s m args below meth c T h k n) {Q : Option Value → Heap → Prop} {C S : Nat} {v : Option Value} {g : JFrame} (hlk : meth.locks = false) (hv : meth.sig.returnType = none → v = none)
    (hst : ∀ fs, (∀ (f : JFrame) (acts : List Action), f.method = m → f.locked = none → f.entered = [] → (doReturn e (T.setTop f) acts v).1 = T.setFrames fs) → Steps p.tables e below (T.setTop g) (T.setFrames fs))
    (hk : k ≤ C) (hn : n ≤ S) (hQ : Q v h) : Go p.tables e below (Ret s n0 Q C S) (T.setTop g) := by
  obtain ⟨L, X, N, q⟩ := X
  obtain ⟨fs, hr, hrun, hended, hW, hsame⟩ := X.leave (v := v) hv hlk
  refine ⟨_, _, hst fs hr, hrun, hended, _, L, rfl, ⟨?_, N⟩, ⟨_, rfl⟩, hW, hsame.mono hk hn⟩
  show Q v T.heap
  rw [q]; exact hQ
theorem Go.retN (X : Sd n0 p l e R s m args below meth c T h k n) (hx : p.tables.exec = Jvm.exec) (hlk : meth.locks = false) {Q : Option Value → Heap → Prop} {C S : Nat} {t : FieldType} {pc : Nat} {Ls : Array Slot} {z z' : Int32} {rest : List Value} (hret : meth.sig.returnType = some t) (ht : t = .boolean ∨ t = .byte ∨ t = .char ∨ t = .short)
    (hd : decode c.code pc = .ok (.ireturn, 1)) (hz : nar t z = z') (hk : k ≤ C) (hn : n ≤ S) (hQ : Q (some (.int z')) h) : Go p.tables e below (Ret s n0 Q C S) (T.setTop (mkF m pc Ls (.int z :: rest))) := by
  subst hz
  refine Go.leave X hlk (fun q => by rw [hret] at q; cases q) (fun fs hr => ?_) hk hn hQ
  obtain ⟨L, X, -⟩ := X
  exact Jvm.RoadKit.retN X hx hret ht hd hr
theorem Go.retI (X : Sd n0 p l e R s m args below meth c T h k n) (hx : p.tables.exec = Jvm.exec) (hlk : meth.locks = false) {Q : Option Value → Heap → Prop} {C S : Nat} {pc : Nat} {Ls : Array Slot} {z : Int32} {rest : List Value} (hret : meth.sig.returnType = some .int)
    (hd : decode c.code pc = .ok (.ireturn, 1)) (hk : k ≤ C) (hn : n ≤ S) (hQ : Q (some (.int z)) h) : Go p.tables e below (Ret s n0 Q C S) (T.setTop (mkF m pc Ls (.int z :: rest))) := by
  refine Go.leave X hlk (fun q => by rw [hret] at q; cases q) (fun fs hr => ?_) hk hn hQ
  obtain ⟨L, X, -⟩ := X
  exact retOut X hx hret rfl (Or.inl ⟨rfl, Or.inl rfl, _, rfl⟩) hd hr
theorem Go.retL (X : Sd n0 p l e R s m args below meth c T h k n) (hx : p.tables.exec = Jvm.exec) (hlk : meth.locks = false) {Q : Option Value → Heap → Prop} {C S : Nat} {pc : Nat} {Ls : Array Slot} {z : Int64} {rest : List Value} (hret : meth.sig.returnType = some .long)
    (hd : decode c.code pc = .ok (.lreturn, 1)) (hk : k ≤ C) (hn : n ≤ S) (hQ : Q (some (.long z)) h) : Go p.tables e below (Ret s n0 Q C S) (T.setTop (mkF m pc Ls (.long z :: rest))) := by
  refine Go.leave X hlk (fun q => by rw [hret] at q; cases q) (fun fs hr => ?_) hk hn hQ
  obtain ⟨L, X, -⟩ := X
  exact retOut X hx hret rfl (Or.inr (Or.inl ⟨rfl, rfl, _, rfl⟩)) hd hr
theorem Go.retA (X : Sd n0 p l e R s m args below meth c T h k n) (hx : p.tables.exec = Jvm.exec) (hlk : meth.locks = false) {Q : Option Value → Heap → Prop} {C S : Nat} {t : FieldType} {pc : Nat} {Ls : Array Slot} {w : Value} {rest : List Value} (hret : meth.sig.returnType = some t) (ht : t.isReference = true) (hw : w.isRef = true)
    (hd : decode c.code pc = .ok (.areturn, 1)) (hk : k ≤ C) (hn : n ≤ S) (hQ : Q (some w) h) : Go p.tables e below (Ret s n0 Q C S) (T.setTop (mkF m pc Ls (w :: rest))) := by
  refine Go.leave X hlk (fun q => by rw [hret] at q; cases q) (fun fs hr => ?_) hk hn hQ
  obtain ⟨L, X, -⟩ := X
  have hnar : narrow t w = w := by cases t <;> first | (cases ht; done) | (cases w <;> first | rfl | (cases hw; done))
  exact retOut X hx hret hnar (Or.inr (Or.inr (Or.inr (Or.inr ⟨rfl, ht, hw⟩)))) hd hr
theorem Go.ret0 (X : Sd n0 p l e R s m args below meth c T h k n) (hx : p.tables.exec = Jvm.exec) (hlk : meth.locks = false) {Q : Option Value → Heap → Prop} {C S : Nat} {pc : Nat} {Ls : Array Slot} (hret : meth.sig.returnType = none)
    (hd : decode c.code pc = .ok (.return_, 1)) (hk : k ≤ C) (hn : n ≤ S) (hQ : Q none h) : Go p.tables e below (Ret s n0 Q C S) (T.setTop (mkF m pc Ls [])) := by
  refine Go.leave X hlk (fun _ => rfl) (fun fs hr => ?_) hk hn hQ
  obtain ⟨L, X, -⟩ := X
  exact X.returnOut hx hret hd hr
/-! fields, statics, casts -/
theorem Sd.getF (X : Sd n0 p l e R s m args below meth c T h k n) (hx : p.tables.exec = Jvm.exec) (hZ : Z.Warmed39 s.vm) {own R0 O nm d host : String} {index : Nat} (hown : s.vm.findClass own = some m.cls) (w : (Cond.fieldLink own index R0 nm d).before a0 Z = true ∨ (Cond.fieldLinkNest own index R0 nm d host).before a0 Z = true) (via : Via Z R0 O nm d)
    {a : Addr} {v : Value} (F : Fld Z h a O nm d v) {g : JFrame} (hg : g.method = m) {rest : List Value} (hs : g.stack = .ref a :: rest) (hd : decode c.code g.pc = .ok (.getfield index, 3)) :
    ∃ T', Sd n0 p l e R s m args below meth c T' h k n ∧ ∀ target, Steps p.tables e below (T'.setTop { g with pc := g.pc + 3, stack := v :: rest }) target → Steps p.tables e below (T.setTop g) target := by
  obtain ⟨L, X, N, q⟩ := X
  obtain ⟨T', X', e', st⟩ := Jvm.RoadKit.getF X hx hZ hown w via q F hg hs hd
  exact ⟨T', ⟨L, X', N, e'⟩, st⟩
theorem Sd.getS (X : Sd n0 p l e R s m args below meth c T h k n) (hx : p.tables.exec = Jvm.exec) (hZ : Z.Warmed39 s.vm) {own R0 O nm d host : String} {index : Nat} (hown : s.vm.findClass own = some m.cls) (w : (Cond.fieldLink own index R0 nm d).before a0 Z = true ∨ (Cond.fieldLinkNest own index R0 nm d host).before a0 Z = true) (via : Via Z R0 O nm d)
    {v : Value} (F : Sta Z h O nm d v) {g : JFrame} (hg : g.method = m) (hd : decode c.code g.pc = .ok (.getstatic index, 3)) :
    ∃ T', Sd n0 p l e R s m args below meth c T' h k n ∧ ∀ target, Steps p.tables e below (T'.setTop { g with pc := g.pc + 3, stack := v :: g.stack }) target → Steps p.tables e below (T.setTop g) target := by
  obtain ⟨L, X, N, q⟩ := X
  obtain ⟨T', X', e', st⟩ := getS2 X hx hZ hown w via q F hg hd
  exact ⟨T', ⟨L, X', N, e'⟩, st⟩
theorem Sd.putF (X : Sd n0 p l e R s m args below meth c T h k n) (hx : p.tables.exec = Jvm.exec) (hZ : Z.Warmed39 s.vm) {own R0 O nm d host C : String} {index kk : Nat} {ty : FieldType} (hown : s.vm.findClass own = some m.cls) (w : (Cond.fieldLink own index R0 nm d).before a0 Z = true ∨ (Cond.fieldLinkNest own index R0 nm d host).before a0 Z = true) (via : Via Z R0 O nm d)
    {a : Addr} {v old : Value} (F : Fld Z h a O nm d old) (E : Exa Z h a C) (ga : n0 ≤ a) (L : (Cond.lays C O nm d).before a0 Z = true ∨ ((Cond.laysFinal C O nm d).before a0 Z = true ∧ own = O ∧ meth.name = "<init>")) (wi : (Cond.instantiable C kk).before a0 Z = true)
    (hty : parseFieldDescriptor d = some ty) (hnr : narrow ty v = v) (hf : fits ty v = true) {g : JFrame} (hg : g.method = m) {rest : List Value} (hs : g.stack = v :: .ref a :: rest) (hd : decode c.code g.pc = .ok (.putfield index, 3)) :
    ∃ T' h', Sd n0 p l e R s m args below meth c T' h' k n ∧ Wr h h' a (slotOf Z O nm d) v ∧ ∀ target, Steps p.tables e below (T'.setTop { g with pc := g.pc + 3, stack := rest }) target → Steps p.tables e below (T.setTop g) target := by
  obtain ⟨Lc, X, N, q⟩ := X
  obtain ⟨T', h', X', e', W, st⟩ := Jvm.RoadKit.putF X hx hZ hown w via q F E L wi hty hnr hf hg hs hd
  exact ⟨T', h', ⟨_, X', Fr.snoc X' N ga, e'⟩, W, st⟩
theorem Sd.putFN (X : Sd n0 p l e R s m args below meth c T h k n) (hx : p.tables.exec = Jvm.exec) (hZ : Z.Warmed39 s.vm) {own R0 O nm d C : String} {index kk : Nat} {ty : FieldType} (hown : s.vm.findClass own = some m.cls) (w : (Cond.fieldLink own index R0 nm d).before a0 Z = true) (via : Via Z R0 O nm d)
    {a : Addr} {v v' old : Value} (F : Fld Z h a O nm d old) (E : Exa Z h a C) (ga : n0 ≤ a) (L : (Cond.lays C O nm d).before a0 Z = true ∨ ((Cond.laysFinal C O nm d).before a0 Z = true ∧ own = O ∧ meth.name = "<init>")) (wi : (Cond.instantiable C kk).before a0 Z = true)
    (hty : parseFieldDescriptor d = some ty) (hnr : narrow ty v = v') (hf : fits ty v' = true) {g : JFrame} (hg : g.method = m) {rest : List Value} (hs : g.stack = v :: .ref a :: rest) (hd : decode c.code g.pc = .ok (.putfield index, 3)) :
    ∃ T' h', Sd n0 p l e R s m args below meth c T' h' k n ∧ Wr h h' a (slotOf Z O nm d) v' ∧ ∀ target, Steps p.tables e below (T'.setTop { g with pc := g.pc + 3, stack := rest }) target → Steps p.tables e below (T.setTop g) target := by
  obtain ⟨Lc, X, N, q⟩ := X
  obtain ⟨T', h', X', e', W, st⟩ := Jvm.RoadKit.putFN X hx hZ hown w via q F E L wi hty hnr hf hg hs hd
  exact ⟨T', h', ⟨_, X', Fr.snoc X' N ga, e'⟩, W, st⟩
theorem Sd.castY (X : Sd n0 p l e R s m args below meth c T h k n) (hx : p.tables.exec = Jvm.exec) (hZ : Z.Warmed39 s.vm) {own K : String} {index : Nat} (hown : s.vm.findClass own = some m.cls) (w : (Cond.classLink own index K).before a0 Z = true) {a : Addr} (F : Ins Z h a K true)
    {g : JFrame} (hg : g.method = m) {rest : List Value} (hs : g.stack = .ref a :: rest) (hd : decode c.code g.pc = .ok (.checkcast index, 3)) :
    ∃ T', Sd n0 p l e R s m args below meth c T' h k n ∧ ∀ target, Steps p.tables e below (T'.setTop { g with pc := g.pc + 3 }) target → Steps p.tables e below (T.setTop g) target := by
  obtain ⟨L, X, N, q⟩ := X
  obtain ⟨T', X', e', st⟩ := Jvm.RoadKit.castY X hx hZ hown w q F hg hs hd
  exact ⟨T', ⟨L, X', N, e'⟩, st⟩
theorem Sd.instY (X : Sd n0 p l e R s m args below meth c T h k n) (hx : p.tables.exec = Jvm.exec) (hZ : Z.Warmed39 s.vm) {own K : String} {index : Nat} (hown : s.vm.findClass own = some m.cls) (w : (Cond.classLink own index K).before a0 Z = true) {a : Addr} (F : Ins Z h a K true)
    {g : JFrame} (hg : g.method = m) {rest : List Value} (hs : g.stack = .ref a :: rest) (hd : decode c.code g.pc = .ok (.instanceof index, 3)) :
    ∃ T', Sd n0 p l e R s m args below meth c T' h k n ∧ ∀ target, Steps p.tables e below (T'.setTop { g with pc := g.pc + 3, stack := .int 1 :: rest }) target → Steps p.tables e below (T.setTop g) target := by
  obtain ⟨L, X, N, q⟩ := X
  obtain ⟨T', X', e', st⟩ := Jvm.RoadKit.instY X hx hZ hown w q F hg hs hd
  exact ⟨T', ⟨L, X', N, e'⟩, st⟩
theorem Sd.instNull (X : Sd n0 p l e R s m args below meth c T h k n) (hx : p.tables.exec = Jvm.exec) {index : Nat} {g : JFrame} (hg : g.method = m) {rest : List Value} (hs : g.stack = .null :: rest) (hd : decode c.code g.pc = .ok (.instanceof index, 3)) :
    ∀ target, Steps p.tables e below (T.setTop { g with pc := g.pc + 3, stack := .int 0 :: rest }) target → Steps p.tables e below (T.setTop g) target := by
  obtain ⟨L, X, -⟩ := X; exact X.instanceofNull hx hg hs hd
theorem Sd.ldcInt (X : Sd n0 p l e R s m args below meth c T h k n) (hx : p.tables.exec = Jvm.exec) (hZ : Z.Warmed39 s.vm) {own : String} {index : Nat} {v : Int32} (hown : s.vm.findClass own = some m.cls) (w : (Cond.constant own index v).before a0 Z = true) {g : JFrame} (hg : g.method = m) (hd : decode c.code g.pc = .ok (.ldc index, 2)) :
    ∀ target, Steps p.tables e below (T.setTop { g with pc := g.pc + 2, stack := .int v :: g.stack }) target → Steps p.tables e below (T.setTop g) target := by
  obtain ⟨L, X, -⟩ := X; exact X.ldcInt hx hown (mvT hZ w) hg hd
theorem Sd.ldc2Long (X : Sd n0 p l e R s m args below meth c T h k n) (hx : p.tables.exec = Jvm.exec) (hZ : Z.Warmed39 s.vm) {own : String} {index : Nat} {v : Int64} (hown : s.vm.findClass own = some m.cls) (w : (Cond.constantLong own index v).before a0 Z = true) {g : JFrame} (hg : g.method = m) (hd : decode c.code g.pc = .ok (.ldc2_w index, 3)) :
    ∀ target, Steps p.tables e below (T.setTop { g with pc := g.pc + 3, stack := .long v :: g.stack }) target → Steps p.tables e below (T.setTop g) target := by
  obtain ⟨L, X, -⟩ := X; exact X.ldc2Long hx hown (mvT hZ w) hg hd
theorem Sd.acmp {g : JFrame} (X : Sd n0 p l e R s m args below meth c T h k n) (hx : p.tables.exec = Jvm.exec) (hg : g.method = m) {cd : ACond} {x y : Value} (h1 : x.isRef = true) (h2 : y.isRef = true) {rest : List Value} {o : Int} {pc0 pc' : Nat} {same : Bool} (hpc : g.pc = pc0)
    (hd : decode c.code g.pc = .ok (.if_acmp cd o, 3)) (hs : g.stack = y :: x :: rest) (hq : decide (x = y) = same) (ho : 0 ≤ (pc0 : Int) + o) (hp : pc' = if acV cd same = true then ((pc0 : Int) + o).toNat else pc0 + 3) :
    ∀ target, Steps p.tables e below (T.setTop { g with pc := pc', stack := rest }) target → Steps p.tables e below (T.setTop g) target := by
  obtain ⟨L, X, -⟩ := X; exact fun _ => Jvm.RoadKit.acmp X hx hg h1 h2 hpc hd hs hq ho hp
theorem Sd.getFR (X : Sd n0 p l e R s m args below meth c T h k n) (hx : p.tables.exec = Jvm.exec) (hZ : Z.Warmed39 s.vm) {own O nm d : String} {index : Nat} (hown : s.vm.findClass own = some m.cls) (w : (Cond.fieldRef own index O nm d).before a0 Z = true)
    {a : Addr} {v : Value} (F : Fld Z h a O nm d v) {g : JFrame} (hg : g.method = m) {rest : List Value} (hs : g.stack = .ref a :: rest) (hd : decode c.code g.pc = .ok (.getfield index, 3)) :
    ∀ target, Steps p.tables e below (T.setTop { g with pc := g.pc + 3, stack := v :: rest }) target → Steps p.tables e below (T.setTop g) target := by
  obtain ⟨L, X, N, q⟩ := X
  obtain ⟨cell, cf, kk, i, f, h1, h2, h3, h4, h5, h6, h7⟩ := F
  have hT : Z.Warmed39 T.vm := wtrans hZ X.warmed
  have w' := Cond.fieldRef_warmed39 hT w
  have hcur : (Z.setVm T.vm).vm.findClass own = some m.cls := by show T.vm.findClass own = _; rw [X.warmed.alike.findClass]; exact hown
  obtain ⟨c', k', i', f', e1, e2⟩ := Cond.fieldRef_spec hcur w'
  obtain ⟨k2, hi, -⟩ := State.fieldFound?_setVm (s := Z) hT.alike h2
  cases e1.symm.trans hi
  intro target hrest
  subst hg
  jvm_step X.here [hx, hd, getfield.wp_ready (e := e) (s := T) (f := g) X.here.top e2 h3 hs (by rw [q]; exact h1) h4 h7]
  exact hrest
/-! making -/
theorem Sd.newO (X : Sd n0 p l e R s m args below meth c T h k n) (hx : p.tables.exec = Jvm.exec) (hZ : Z.Warmed39 s.vm) {own C : String} {index sz k' n' : Nat} (hown : s.vm.findClass own = some m.cls) (w : (Cond.classLink own index C).before a0 Z = true) (wi : (Cond.instantiable C sz).before a0 Z = true) (wz : (Cond.initialized C).before a0 Z = true)
    {g : JFrame} (hg : g.method = m) (hd : decode c.code g.pc = .ok (.new index, 3)) (hk : k + 1 = k') (hn : n + sz = n') (hc : k' ≤ R.cells) (hl : n' ≤ R.slots) :
    ∃ T' h' a, Sd n0 p l e R s m args below meth c T' h' k' n' ∧ a = h.size ∧ Ext h h' ∧ Exa Z h' a C ∧ (∀ {O nm d : String} {ty : FieldType}, Laid Z a0 C O nm d → parseFieldDescriptor d = some ty → Fld Z h' a O nm d (defaultValue ty)) ∧
      ∀ target, Steps p.tables e below (T'.setTop { g with pc := g.pc + 3, stack := .ref a :: g.stack }) target → Steps p.tables e below (T.setTop g) target := by
  subst hk hn
  obtain ⟨L, X, N, q⟩ := X
  obtain ⟨T', h', X', e', E, A, D, -, st⟩ := Jvm.RoadKit.newO X hx hZ hown w wi wz q hg hd hc hl
  exact ⟨T', h', _, ⟨L, X', N, e'⟩, rfl, E, A, D, st⟩
theorem Sd.initO (X : Sd n0 p l e R s m args below meth c T h k n) (hx : p.tables.exec = Jvm.exec) (hZ : Z.Warmed39 s.vm) {own : String} {idx : Nat} (hown : s.vm.findClass own = some m.cls) (w1 : (Cond.methodLink own idx Lib.objectInit).before a0 Z = true) (w2 : (Cond.instanceMethod Lib.objectInit).before a0 Z = true)
    (w3 : (Cond.code Lib.objectInit ⟨#[0xb1]⟩ 1 none).before a0 Z = true) {g : JFrame} (hg : g.method = m) (hsize : g.locals.size = c.maxLocals) {a : Addr} {rest : List Value} (hs : g.stack = .ref a :: rest) (hd : decode c.code g.pc = .ok (.invokespecial idx, 3))
    (hf : 1 ≤ R.frames) (hl : 2 * g.monitorRoom + (rest.map fun v => v.category).sum + 12 ≤ R.locals) :
    ∃ T', Sd n0 p l e R s m args below meth c T' h k n ∧ ∀ target, Steps p.tables e below (T'.setTop { g with pc := g.pc + 3, stack := rest }) target → Steps p.tables e below (T.setTop g) target := by
  obtain ⟨L, X, N, q⟩ := X
  obtain ⟨T', X', e', st⟩ := Jvm.RoadKit.initO X hx hZ hown w1 w2 w3 q hg hsize hs hd hf (W := 2 * g.monitorRoom + (rest.map fun v => v.category).sum) (Nat.le_refl _) hl
  exact ⟨T', ⟨L, X', N, e'⟩, st⟩
/-- an array of n' places, place i holds f i -/
def Avf (Z : State) (h : Heap) (a : Addr) (kc : ClassId) (ty : FieldType) (sz : Nat) (f : Nat → Value) : Prop := ∃ cl : Cell, Arr Z h a cl ty ∧ cl.cls = kc ∧ cl.slots.size = sz ∧ sz < 2 ^ 31 ∧ ∀ i, i < sz → cl.slots[i]? = some (f i) ∧ fits ty (f i) = true
theorem Avf.lt {h : Heap} {a : Addr} {kc : ClassId} {ty : FieldType} {sz : Nat} {f : Nat → Value} (F : Avf Z h a kc ty sz f) : a < h.size := by obtain ⟨_, A, -⟩ := F; exact A.lt
theorem Avf.ext {h h' : Heap} {a : Addr} {kc : ClassId} {ty : FieldType} {sz : Nat} {f : Nat → Value} (F : Avf Z h a kc ty sz f) (E : Ext h h') : Avf Z h' a kc ty sz f := by obtain ⟨cl, A, r⟩ := F; exact ⟨cl, A.ext E, r⟩
theorem Avf.other {h h' : Heap} {a b : Addr} {kc : ClassId} {ty : FieldType} {sz sl : Nat} {f : Nat → Value} {v : Value} (F : Avf Z h b kc ty sz f) (W : Wr h h' a sl v) (q : b ≠ a) : Avf Z h' b kc ty sz f := by obtain ⟨cl, A, r⟩ := F; exact ⟨cl, A.other W q, r⟩
theorem Avf.keep {h h' : Heap} {a : Addr} {kc : ClassId} {ty : FieldType} {sz : Nat} {f : Nat → Value} {ws : List Addr} (F : Avf Z h a kc ty sz f) (K : Keep h h' ws) (q : a ∉ ws) : Avf Z h' a kc ty sz f := by obtain ⟨cl, A, r⟩ := F; exact ⟨cl, ⟨K.2.1 a cl A.1 q, A.2⟩, r⟩
theorem Avf.cong {h : Heap} {a : Addr} {kc : ClassId} {ty : FieldType} {sz : Nat} {f g : Nat → Value} (F : Avf Z h a kc ty sz f) (q : ∀ i, i < sz → f i = g i) : Avf Z h a kc ty sz g := by
  obtain ⟨cl, A, r1, r2, r3, r4⟩ := F; exact ⟨cl, A, r1, r2, r3, fun i hi => by rw [← q i hi]; exact r4 i hi⟩
theorem Avf.set {h h' : Heap} {a : Addr} {kc : ClassId} {ty : FieldType} {sz : Nat} {f : Nat → Value} {v : Value} {j : Nat} (F : Avf Z h a kc ty sz f) (W : Wr h h' a j v) (hv : fits ty v = true) : Avf Z h' a kc ty sz (fun i => if i = j then v else f i) := by
  obtain ⟨cl, A, r1, r2, r3, r4⟩ := F
  refine ⟨_, A.same W, r1, by rw [sz_set]; exact r2, r3, fun i hi => ?_⟩
  by_cases q : i = j
  · subst q; simp [Cell.setSlot, r2, hi, hv]
  · simp [Cell.setSlot, q, r4 i hi, Array.getElem?_setIfInBounds_ne (Ne.symm q)]
theorem Avf.of_arv {h : Heap} {a : Addr} {kc : ClassId} {ty : FieldType} {z : Int32} {vs : List Value} {dv : Value} (F : Arv Z h a kc ty z vs dv) : Avf Z h a kc ty z.toNatClampNeg (fun i => vs.getD i dv) := by
  obtain ⟨cl, A, r1, r2, r3, H, G⟩ := F
  exact ⟨cl, A, r1, r2, (back32 r3).2, fun i hi => ⟨H i (by rw [r2]; exact hi), G i (by rw [r2]; exact hi)⟩⟩
theorem Sd.newP (X : Sd n0 p l e R s m args below meth c T h k n) (hx : p.tables.exec = Jvm.exec) (hZ : Z.Warmed39 s.vm) {aty : ArrayType} (w : (Cond.arrayClass (newarray.typeOf aty)).before a0 Z = true) {g : JFrame} (hg : g.method = m) (hd : decode c.code g.pc = .ok (.newarray aty, 2)) {z : Int32} {rest : List Value} (hs : g.stack = .int z :: rest)
    (hz : ¬ z < 0) {sz cap k' n' : Nat} (hsz : z.toNatClampNeg = sz) (hcap : sz ≤ cap) (hb : cap * 8 ≤ 536870912) (hk : k + 1 = k') (hn : n + cap = n') (hc : k' ≤ R.cells) (hl : n' ≤ R.slots) {ad : String} (had : "[" ++ (newarray.typeOf aty).toString = ad) :
    ∃ T' h' kc a, Sd n0 p l e R s m args below meth c T' h' k' n' ∧ a = h.size ∧ Ext h h' ∧ Exa Z h' a ad ∧ Avf Z h' a kc (newarray.typeOf aty) sz (fun _ => defaultValue (newarray.typeOf aty)) ∧
      ∀ target, Steps p.tables e below (T'.setTop { g with pc := g.pc + 2, stack := .ref a :: rest }) target → Steps p.tables e below (T.setTop g) target := by
  subst hk hn hsz
  obtain ⟨L, X, N, q⟩ := X
  obtain ⟨T', h', kc, X', e', E, A, Ex, st⟩ := Jvm.RoadKit.newPE X hx hZ w q hg hd hs hz hcap hb hc hl had
  refine ⟨T', h', kc, _, ⟨L, X', N, e'⟩, rfl, E, Ex, ⟨_, A, rfl, sz_new _ _ _, (back32 hz).2, fun i hi => ⟨by simp [newA, hi], ?_⟩⟩, st⟩
  cases aty <;> rfl
theorem Sd.newR (X : Sd n0 p l e R s m args below meth c T h k n) (hx : p.tables.exec = Jvm.exec) (hZ : Z.Warmed39 s.vm) {own C : String} {index : Nat} (hown : s.vm.findClass own = some m.cls) (w1 : (Cond.classLink own index C).before a0 Z = true) (w2 : (Cond.arrayOver (.object C)).before a0 Z = true)
    {g : JFrame} (hg : g.method = m) (hd : decode c.code g.pc = .ok (.anewarray index, 3)) {z : Int32} {rest : List Value} (hs : g.stack = .int z :: rest)
    (hz : ¬ z < 0) {sz cap k' n' : Nat} (hsz : z.toNatClampNeg = sz) (hcap : sz ≤ cap) (hb : cap * 8 ≤ 536870912) (hk : k + 1 = k') (hn : n + cap = n') (hc : k' ≤ R.cells) (hl : n' ≤ R.slots) {ad : String} (had : "[" ++ (FieldType.object C).toString = ad) :
    ∃ T' h' kc a, Sd n0 p l e R s m args below meth c T' h' k' n' ∧ a = h.size ∧ Ext h h' ∧ Exa Z h' a ad ∧ Avf Z h' a kc (.object C) sz (fun _ => .null) ∧ Ovr Z kc C ∧
      ∀ target, Steps p.tables e below (T'.setTop { g with pc := g.pc + 3, stack := .ref a :: rest }) target → Steps p.tables e below (T.setTop g) target := by
  subst hk hn hsz
  obtain ⟨L, X, N, q⟩ := X
  obtain ⟨T', h', kc, X', e', E, A, Ex, O, st⟩ := Jvm.RoadKit.newRE X hx hZ hown w1 w2 q hg hd hs hz hcap hb hc hl had
  exact ⟨T', h', kc, _, ⟨L, X', N, e'⟩, rfl, E, Ex, ⟨_, A, rfl, sz_new _ _ _, (back32 hz).2, fun i hi => ⟨by simp [newA, hi, defaultValue], rfl⟩⟩, O, st⟩
theorem Sd.clone (X : Sd n0 p l e R s m args below meth c T h k n) (hx : p.tables.exec = Jvm.exec) (hZ : Z.Warmed39 s.vm) {own ad : String} {index : Nat} (hown : s.vm.findClass own = some m.cls)
    (w1 : (Cond.methodLink own index ⟨ad, "clone", "()Ljava/lang/Object;"⟩).before a0 Z = true) (w2 : (Cond.sameMethod ad "java/lang/Object" "clone" "()Ljava/lang/Object;").before a0 Z = true) (w3 : (Cond.native ⟨"java/lang/Object", "clone", "()Ljava/lang/Object;"⟩).before a0 Z = true)
    (w4 : (Cond.instanceMethod ⟨"java/lang/Object", "clone", "()Ljava/lang/Object;"⟩).before a0 Z = true) (w5 : (Cond.selects ad ⟨ad, "clone", "()Ljava/lang/Object;"⟩ ⟨"java/lang/Object", "clone", "()Ljava/lang/Object;"⟩).before a0 Z = true) (w6 : (Cond.castable ad "java/lang/Cloneable").before a0 Z = true)
    {a : Addr} {kc : ClassId} {ty : FieldType} {sz : Nat} {f : Nat → Value} (F : Avf Z h a kc ty sz f) (E : Exa Z h a ad) {g : JFrame} (hg : g.method = m) (hsize : g.locals.size = c.maxLocals) {rest : List Value} (hst : g.stack = .ref a :: rest) (hd : decode c.code g.pc = .ok (.invokevirtual index, 3))
    (hf : 1 ≤ R.frames) (hl : 2 * g.monitorRoom + (rest.map fun v => v.category).sum + 14 ≤ R.locals) {cap k' n' : Nat} (hcap : sz ≤ cap) (hk : k + 1 = k') (hn : n + cap = n') (hc : k' ≤ R.cells) (hs : n' ≤ R.slots) :
    ∃ T' h' b, Sd n0 p l e R s m args below meth c T' h' k' n' ∧ b = h.size ∧ Ext h h' ∧ Exa Z h' b ad ∧ Avf Z h' b kc ty sz f ∧ ∀ target, Steps p.tables e below (T'.setTop { g with pc := g.pc + 3, stack := .ref b :: rest }) target → Steps p.tables e below (T.setTop g) target := by
  subst hk hn
  obtain ⟨L, X, N, q⟩ := X
  obtain ⟨cl, A, r1, r2, r3, r4⟩ := F
  have FC : FitC Z cl := fitC_of A fun i hi v hv => by rw [(r4 i (r2 ▸ hi)).1] at hv; cases hv; exact (r4 i (r2 ▸ hi)).2
  obtain ⟨T', h', X', e', ex, A', E', st⟩ := cloneA X hx hZ hown w1 w2 w3 w4 w5 w6 q A E FC hg hsize hst hd hf (W := 2 * g.monitorRoom + (rest.map fun v => v.category).sum) (Nat.le_refl _) hl (by rw [r2]; exact hcap) hc hs
  exact ⟨T', h', _, ⟨L, X', N, e'⟩, rfl, ex, E', ⟨cloneOf cl, A', r1, r2, r3, r4⟩, st⟩
/-! arrays: length, load, store -/
theorem Sd.len (X : Sd n0 p l e R s m args below meth c T h k n) (hx : p.tables.exec = Jvm.exec) (hZ : Z.Warmed39 s.vm) {a : Addr} {kc : ClassId} {ty : FieldType} {sz : Nat} {f : Nat → Value} (F : Avf Z h a kc ty sz f) {z : Int32} (hz : sz.toInt32 = z)
    {g : JFrame} (hg : g.method = m) {rest : List Value} (hs : g.stack = .ref a :: rest) (hd : decode c.code g.pc = .ok (.arraylength, 1)) :
    ∀ target, Steps p.tables e below (T.setTop { g with pc := g.pc + 1, stack := .int z :: rest }) target → Steps p.tables e below (T.setTop g) target := by
  obtain ⟨L, X, -, q⟩ := X
  obtain ⟨cl, A, r1, r2, r3, r4⟩ := F
  intro t kt
  refine X.arraylength hx (by rw [q]; exact A.1) (State.isArrayOf_alike hZ.alike A.2.1) hg hs hd _ ?_
  rw [r2, hz]; exact kt
theorem inb {cl : Cell} {sz i : Nat} {j : Int32} (r2 : cl.slots.size = sz) (hj : ¬ j < 0) (hi : j.toNatClampNeg = i) (hlt : i < sz) : ¬ (j < 0 ∨ cl.slots.size ≤ j.toNatClampNeg) := fun q => q.elim hj fun q => by omega
theorem Sd.ldI (X : Sd n0 p l e R s m args below meth c T h k n) (hx : p.tables.exec = Jvm.exec) (hZ : Z.Warmed39 s.vm) {a : Addr} {kc : ClassId} {sz : Nat} {f : Nat → Value} (F : Avf Z h a kc .int sz f) {j : Int32} (hj : ¬ j < 0) {i : Nat} (hi : j.toNatClampNeg = i) (hlt : i < sz) {v : Value} (hv : f i = v)
    {g : JFrame} (hg : g.method = m) {rest : List Value} (hs : g.stack = .int j :: .ref a :: rest) (hd : decode c.code g.pc = .ok (.iaload, 1)) :
    ∀ target, Steps p.tables e below (T.setTop { g with pc := g.pc + 1, stack := v :: rest }) target → Steps p.tables e below (T.setTop g) target := by
  subst hv
  obtain ⟨L, X, -, q⟩ := X
  obtain ⟨cl, A, r1, r2, r3, r4⟩ := F
  exact X.iaload hx (by rw [q]; exact A.1) (State.isArrayOf_alike hZ.alike A.2.1) A.2.2 (inb r2 hj hi hlt) (by rw [hi]; exact (r4 i hlt).1) hg hs hd
theorem Sd.ldJ (X : Sd n0 p l e R s m args below meth c T h k n) (hx : p.tables.exec = Jvm.exec) (hZ : Z.Warmed39 s.vm) {a : Addr} {kc : ClassId} {sz : Nat} {f : Nat → Value} (F : Avf Z h a kc .long sz f) {j : Int32} (hj : ¬ j < 0) {i : Nat} (hi : j.toNatClampNeg = i) (hlt : i < sz) {v : Value} (hv : f i = v)
    {g : JFrame} (hg : g.method = m) {rest : List Value} (hs : g.stack = .int j :: .ref a :: rest) (hd : decode c.code g.pc = .ok (.laload, 1)) :
    ∀ target, Steps p.tables e below (T.setTop { g with pc := g.pc + 1, stack := v :: rest }) target → Steps p.tables e below (T.setTop g) target := by
  subst hv
  obtain ⟨L, X, -, q⟩ := X
  obtain ⟨cl, A, r1, r2, r3, r4⟩ := F
  exact X.laload hx (by rw [q]; exact A.1) (State.isArrayOf_alike hZ.alike A.2.1) A.2.2 (inb r2 hj hi hlt) (by rw [hi]; exact (r4 i hlt).1) hg hs hd
theorem Sd.ldC (X : Sd n0 p l e R s m args below meth c T h k n) (hx : p.tables.exec = Jvm.exec) (hZ : Z.Warmed39 s.vm) {a : Addr} {kc : ClassId} {sz : Nat} {f : Nat → Value} (F : Avf Z h a kc .char sz f) {j : Int32} (hj : ¬ j < 0) {i : Nat} (hi : j.toNatClampNeg = i) (hlt : i < sz) {v : Value} (hv : f i = v)
    {g : JFrame} (hg : g.method = m) {rest : List Value} (hs : g.stack = .int j :: .ref a :: rest) (hd : decode c.code g.pc = .ok (.caload, 1)) :
    ∀ target, Steps p.tables e below (T.setTop { g with pc := g.pc + 1, stack := v :: rest }) target → Steps p.tables e below (T.setTop g) target := by
  subst hv
  obtain ⟨L, X, -, q⟩ := X
  obtain ⟨cl, A, r1, r2, r3, r4⟩ := F
  exact X.caload hx (by rw [q]; exact A.1) (State.isArrayOf_alike hZ.alike A.2.1) A.2.2 (inb r2 hj hi hlt) (by rw [hi]; exact (r4 i hlt).1) hg hs hd
theorem Sd.ldB (X : Sd n0 p l e R s m args below meth c T h k n) (hx : p.tables.exec = Jvm.exec) (hZ : Z.Warmed39 s.vm) {a : Addr} {kc : ClassId} {sz : Nat} {f : Nat → Value} (F : Avf Z h a kc .byte sz f) {j : Int32} (hj : ¬ j < 0) {i : Nat} (hi : j.toNatClampNeg = i) (hlt : i < sz) {v : Value} (hv : f i = v)
    {g : JFrame} (hg : g.method = m) {rest : List Value} (hs : g.stack = .int j :: .ref a :: rest) (hd : decode c.code g.pc = .ok (.baload, 1)) :
    ∀ target, Steps p.tables e below (T.setTop { g with pc := g.pc + 1, stack := v :: rest }) target → Steps p.tables e below (T.setTop g) target := by
  subst hv
  obtain ⟨L, X, -, q⟩ := X
  obtain ⟨cl, A, r1, r2, r3, r4⟩ := F
  exact X.baloadBytes hx (by rw [q]; exact A.1) (State.isArrayOf_alike hZ.alike A.2.1) A.2.2 (inb r2 hj hi hlt) (by rw [hi]; exact (r4 i hlt).1) hg hs hd
theorem Sd.ldA (X : Sd n0 p l e R s m args below meth c T h k n) (hx : p.tables.exec = Jvm.exec) (hZ : Z.Warmed39 s.vm) {a : Addr} {kc : ClassId} {ty : FieldType} {sz : Nat} {f : Nat → Value} (F : Avf Z h a kc ty sz f) (hty : ty.isReference = true) {j : Int32} (hj : ¬ j < 0) {i : Nat} (hi : j.toNatClampNeg = i) (hlt : i < sz) {v : Value} (hv : f i = v)
    {g : JFrame} (hg : g.method = m) {rest : List Value} (hs : g.stack = .int j :: .ref a :: rest) (hd : decode c.code g.pc = .ok (.aaload, 1)) :
    ∀ target, Steps p.tables e below (T.setTop { g with pc := g.pc + 1, stack := v :: rest }) target → Steps p.tables e below (T.setTop g) target := by
  subst hv
  obtain ⟨L, X, -, q⟩ := X
  obtain ⟨cl, A, r1, r2, r3, r4⟩ := F
  exact X.aaload hx (by rw [q]; exact A.1) (State.isArrayOf_alike hZ.alike A.2.1) hty A.2.2 (inb r2 hj hi hlt) (by rw [hi]; exact (r4 i hlt).1) hg hs hd
theorem Sd.stI (X : Sd n0 p l e R s m args below meth c T h k n) (hx : p.tables.exec = Jvm.exec) (hZ : Z.Warmed39 s.vm) {a : Addr} {kc : ClassId} {sz : Nat} {f : Nat → Value} (F : Avf Z h a kc .int sz f) (ga : n0 ≤ a) {j x : Int32} (hj : ¬ j < 0) {i : Nat} (hi : j.toNatClampNeg = i) (hlt : i < sz)
    {g : JFrame} (hg : g.method = m) {rest : List Value} (hs : g.stack = .int x :: .int j :: .ref a :: rest) (hd : decode c.code g.pc = .ok (.iastore, 1)) :
    ∃ T' h', Sd n0 p l e R s m args below meth c T' h' k n ∧ Wr h h' a i (.int x) ∧ Avf Z h' a kc .int sz (fun t => if t = i then .int x else f t) ∧ ∀ target, Steps p.tables e below (T'.setTop { g with pc := g.pc + 1, stack := rest }) target → Steps p.tables e below (T.setTop g) target := by
  obtain ⟨L, X, N, q⟩ := X
  obtain ⟨cl, A, r1, r2, r3, r4⟩ := F
  obtain ⟨T', h', X', e', W, st⟩ := Jvm.RoadKit.stI X hx hZ q A (inb r2 hj hi hlt) hg hs hd
  subst hi
  exact ⟨T', h', ⟨_, X', Fr.snoc X' N ga, e'⟩, W, Avf.set ⟨cl, A, r1, r2, r3, r4⟩ W rfl, st⟩
theorem Sd.stJ (X : Sd n0 p l e R s m args below meth c T h k n) (hx : p.tables.exec = Jvm.exec) (hZ : Z.Warmed39 s.vm) {a : Addr} {kc : ClassId} {sz : Nat} {f : Nat → Value} (F : Avf Z h a kc .long sz f) (ga : n0 ≤ a) {j : Int32} {x : Int64} (hj : ¬ j < 0) {i : Nat} (hi : j.toNatClampNeg = i) (hlt : i < sz)
    {g : JFrame} (hg : g.method = m) {rest : List Value} (hs : g.stack = .long x :: .int j :: .ref a :: rest) (hd : decode c.code g.pc = .ok (.lastore, 1)) :
    ∃ T' h', Sd n0 p l e R s m args below meth c T' h' k n ∧ Wr h h' a i (.long x) ∧ Avf Z h' a kc .long sz (fun t => if t = i then .long x else f t) ∧ ∀ target, Steps p.tables e below (T'.setTop { g with pc := g.pc + 1, stack := rest }) target → Steps p.tables e below (T.setTop g) target := by
  obtain ⟨L, X, N, q⟩ := X
  obtain ⟨cl, A, r1, r2, r3, r4⟩ := F
  obtain ⟨T', h', X', e', W, st⟩ := Jvm.RoadKit.stJ X hx hZ q A (inb r2 hj hi hlt) hg hs hd
  subst hi
  exact ⟨T', h', ⟨_, X', Fr.snoc X' N ga, e'⟩, W, Avf.set ⟨cl, A, r1, r2, r3, r4⟩ W rfl, st⟩
theorem Sd.stB (X : Sd n0 p l e R s m args below meth c T h k n) (hx : p.tables.exec = Jvm.exec) (hZ : Z.Warmed39 s.vm) {a : Addr} {kc : ClassId} {sz : Nat} {f : Nat → Value} (F : Avf Z h a kc .byte sz f) (ga : n0 ≤ a) {j x : Int32} (hj : ¬ j < 0) {i : Nat} (hi : j.toNatClampNeg = i) (hlt : i < sz)
    {g : JFrame} (hg : g.method = m) {rest : List Value} (hs : g.stack = .int x :: .int j :: .ref a :: rest) (hd : decode c.code g.pc = .ok (.bastore, 1)) :
    ∃ T' h', Sd n0 p l e R s m args below meth c T' h' k n ∧ Wr h h' a i (.int x.toInt8.toInt32) ∧ Avf Z h' a kc .byte sz (fun t => if t = i then .int x.toInt8.toInt32 else f t) ∧ ∀ target, Steps p.tables e below (T'.setTop { g with pc := g.pc + 1, stack := rest }) target → Steps p.tables e below (T.setTop g) target := by
  obtain ⟨L, X, N, q⟩ := X
  obtain ⟨cl, A, r1, r2, r3, r4⟩ := F
  obtain ⟨T', h', X', e', W, st⟩ := Jvm.RoadKit.stB X hx hZ q A (inb r2 hj hi hlt) hg hs hd
  subst hi
  exact ⟨T', h', ⟨_, X', Fr.snoc X' N ga, e'⟩, W, Avf.set ⟨cl, A, r1, r2, r3, r4⟩ W (fits_nar_byte _), st⟩
theorem Sd.stC (X : Sd n0 p l e R s m args below meth c T h k n) (hx : p.tables.exec = Jvm.exec) (hZ : Z.Warmed39 s.vm) {a : Addr} {kc : ClassId} {sz : Nat} {f : Nat → Value} (F : Avf Z h a kc .char sz f) (ga : n0 ≤ a) {j x : Int32} (hj : ¬ j < 0) {i : Nat} (hi : j.toNatClampNeg = i) (hlt : i < sz)
    {g : JFrame} (hg : g.method = m) {rest : List Value} (hs : g.stack = .int x :: .int j :: .ref a :: rest) (hd : decode c.code g.pc = .ok (.castore, 1)) :
    ∃ T' h', Sd n0 p l e R s m args below meth c T' h' k n ∧ Wr h h' a i (.int (nar .char x)) ∧ Avf Z h' a kc .char sz (fun t => if t = i then .int (nar .char x) else f t) ∧ ∀ target, Steps p.tables e below (T'.setTop { g with pc := g.pc + 1, stack := rest }) target → Steps p.tables e below (T.setTop g) target := by
  obtain ⟨L, X, N, q⟩ := X
  obtain ⟨cl, A, r1, r2, r3, r4⟩ := F
  obtain ⟨T', h', X', e', W, st⟩ := Jvm.RoadKit.stC X hx hZ q A (inb r2 hj hi hlt) hg hs hd
  subst hi
  exact ⟨T', h', ⟨_, X', Fr.snoc X' N ga, e'⟩, W, Avf.set ⟨cl, A, r1, r2, r3, r4⟩ W (fits_nar_char _), st⟩
theorem Sd.newRA (X : Sd n0 p l e R s m args below meth c T h k n) (hx : p.tables.exec = Jvm.exec) (hZ : Z.Warmed39 s.vm) {own C : String} {ty : FieldType} {index : Nat} (hown : s.vm.findClass own = some m.cls) (hC : (FieldType.array ty).toString = C) (w1 : (Cond.classLink own index C).before a0 Z = true) (w2 : (Cond.arrayOver (.array ty)).before a0 Z = true)
    {g : JFrame} (hg : g.method = m) (hd : decode c.code g.pc = .ok (.anewarray index, 3)) {z : Int32} {rest : List Value} (hs : g.stack = .int z :: rest)
    (hz : ¬ z < 0) {sz cap k' n' : Nat} (hsz : z.toNatClampNeg = sz) (hcap : sz ≤ cap) (hb : cap * 8 ≤ 536870912) (hk : k + 1 = k') (hn : n + cap = n') (hc : k' ≤ R.cells) (hl : n' ≤ R.slots) {ad : String} (had : "[" ++ C = ad) :
    ∃ T' h' kc a, Sd n0 p l e R s m args below meth c T' h' k' n' ∧ a = h.size ∧ Ext h h' ∧ Exa Z h' a ad ∧ Avf Z h' a kc (.array ty) sz (fun _ => .null) ∧ OvrA Z kc ty C ∧
      ∀ target, Steps p.tables e below (T'.setTop { g with pc := g.pc + 3, stack := .ref a :: rest }) target → Steps p.tables e below (T.setTop g) target := by
  subst hk hn hsz
  obtain ⟨L, X, N, q⟩ := X
  obtain ⟨T', h', kc, X', e', E, A, Ex, O, st⟩ := Jvm.RoadKit.newRA X hx hZ hown hC w1 w2 q hg hd hs hz hcap hb hc hl had
  exact ⟨T', h', kc, _, ⟨L, X', N, e'⟩, rfl, E, Ex, ⟨_, A, rfl, sz_new _ _ _, (back32 hz).2, fun i hi => ⟨by simp [newA, hi, defaultValue], rfl⟩⟩, O, st⟩
theorem Sd.stR (X : Sd n0 p l e R s m args below meth c T h k n) (hx : p.tables.exec = Jvm.exec) (hZ : Z.Warmed39 s.vm) {a : Addr} {kc : ClassId} {ty : FieldType} {sz : Nat} {f : Nat → Value} (F : Avf Z h a kc ty sz f) (ga : n0 ≤ a) (hty : ty.isReference = true) {j : Int32} {v : Value} (hv : v.isRef = true) (St : Sto Z h a v) (hj : ¬ j < 0) {i : Nat} (hi : j.toNatClampNeg = i) (hlt : i < sz)
    {g : JFrame} (hg : g.method = m) {rest : List Value} (hs : g.stack = v :: .int j :: .ref a :: rest) (hd : decode c.code g.pc = .ok (.aastore, 1)) :
    ∃ T' h', Sd n0 p l e R s m args below meth c T' h' k n ∧ Wr h h' a i v ∧ Avf Z h' a kc ty sz (fun t => if t = i then v else f t) ∧ ∀ target, Steps p.tables e below (T'.setTop { g with pc := g.pc + 1, stack := rest }) target → Steps p.tables e below (T.setTop g) target := by
  obtain ⟨L, X, N, q⟩ := X
  obtain ⟨cl, A, r1, r2, r3, r4⟩ := F
  obtain ⟨T', h', X', e', W, st⟩ := Jvm.RoadKit.stR X hx hZ q A (inb r2 hj hi hlt) hty St hg hs hd
  subst hi
  have hf : fits ty v = true := by cases ty <;> first | (cases hty; done) | (cases v <;> first | rfl | (cases hv; done))
  exact ⟨T', h', ⟨_, X', Fr.snoc X' N ga, e'⟩, W, Avf.set ⟨cl, A, r1, r2, r3, r4⟩ W hf, st⟩
/-! calls -/
theorem Sd.callS (X : Sd n0 p l e R s m args below meth c T h k n) (hx : p.tables.exec = Jvm.exec) (hZ : Z.Warmed39 s.vm) {own : String} {index : Nat} {y : MethodName} {bytes : ByteArray} {maxL : Nat} {ret : Option FieldType} {rm : Room} {as' : Array Value} {Q : Option Value → Heap → Prop}
    (hown : s.vm.findClass own = some m.cls) (w1 : (Cond.methodLink own index y).before a0 Z = true) (w2 : (Cond.static y).before a0 Z = true) (w3 : (Cond.initialized y.cls).before a0 Z = true) (w4 : (Cond.code y bytes maxL ret).before a0 Z = true) (hy : y.cls ≠ "java/lang/invoke/MethodHandle" ∧ y.cls ≠ "java/lang/invoke/VarHandle")
    (hM : Met l Z n0 y bytes maxL ret [] rm as' h Q) {g : JFrame} (hg : g.method = m) (hsize : g.locals.size = c.maxLocals) {argsL rest : List Value} (hlen : ∀ sig, parseMethodDescriptor y.desc = some sig → argsL.length = sig.parameters.length)
    (hstack : g.stack = argsL.reverse ++ rest) (hd : decode c.code g.pc = .ok (.invokestatic index, 3)) (has : argsL.toArray = as') (hf : rm.frames + 1 ≤ R.frames) (hl : 2 * g.monitorRoom + (rest.map fun v => v.category).sum + (maxL + 11) + rm.locals ≤ R.locals)
    {k' n' : Nat} (hk : k + rm.cells = k') (hn : n + rm.slots = n') (hc : k' ≤ R.cells) (hs : n' ≤ R.slots) :
    ∃ v T' h', Sd n0 p l e R s m args below meth c T' h' k' n' ∧ Q v h' ∧ ∀ target, Steps p.tables e below (T'.setTop { g with pc := g.pc + 3, stack := v.toList ++ rest }) target → Steps p.tables e below (T.setTop g) target := by
  subst hk hn
  obtain ⟨L, X, N, q⟩ := X
  obtain ⟨v, _, ⟨T', L', k1, n1⟩, -, X', ⟨Lc, hQ, q1, q2, q3⟩, st⟩ := Jvm.LawKit.callS X hx (y := y) hown (mvT hZ w1) (mvT hZ w2) (mvT hZ w3) (mvT hZ w4) hy (backOf (Q := fun v h L => Q v h ∧ Fr n0 L) hM hZ w4 w3 hf hl) hg hsize hlen hstack (Nat.le_refl _) hd (fun _ _ => ⟨has, q, hc, hs⟩)
  dsimp only [Pt.U, Pt.locs, Pt.cells, Pt.slots] at X' q1 q2 q3 st hQ
  subst q1 q2 q3
  exact ⟨v, T', _, ⟨_, X', Fr.app N hQ.2, rfl⟩, hQ.1, st⟩
theorem Sd.callI (X : Sd n0 p l e R s m args below meth c T h k n) (hx : p.tables.exec = Jvm.exec) (hZ : Z.Warmed39 s.vm) {own : String} {index : Nat} {y : MethodName} {bytes : ByteArray} {maxL : Nat} {rm : Room} {as' : Array Value} {Q : Option Value → Heap → Prop} (hy1 : y.name = "<init>")
    (hown : s.vm.findClass own = some m.cls) (w1 : (Cond.methodLink own index y).before a0 Z = true) (w2 : (Cond.instanceMethod y).before a0 Z = true) (w3 : (Cond.initialized y.cls).before a0 Z = true) (w4 : (Cond.code y bytes maxL none).before a0 Z = true) (hy : y.cls ≠ "java/lang/invoke/MethodHandle" ∧ y.cls ≠ "java/lang/invoke/VarHandle")
    (hM : Met l Z n0 y bytes maxL none [] rm as' h Q) {g : JFrame} (hg : g.method = m) (hsize : g.locals.size = c.maxLocals) {a : Addr} {argsL rest : List Value} (hlen : ∀ sig, parseMethodDescriptor y.desc = some sig → argsL.length = sig.parameters.length)
    (hstack : g.stack = argsL.reverse ++ .ref a :: rest) (hd : decode c.code g.pc = .ok (.invokespecial index, 3)) (has : (.ref a :: argsL).toArray = as') (hf : rm.frames + 1 ≤ R.frames) (hl : 2 * g.monitorRoom + (rest.map fun v => v.category).sum + (maxL + 11) + rm.locals ≤ R.locals)
    {k' n' : Nat} (hk : k + rm.cells = k') (hn : n + rm.slots = n') (hc : k' ≤ R.cells) (hs : n' ≤ R.slots) :
    ∃ v T' h', Sd n0 p l e R s m args below meth c T' h' k' n' ∧ Q v h' ∧ ∀ target, Steps p.tables e below (T'.setTop { g with pc := g.pc + 3, stack := v.toList ++ rest }) target → Steps p.tables e below (T.setTop g) target := by
  subst hk hn
  obtain ⟨L, X, N, q⟩ := X
  obtain ⟨v, _, ⟨T', L', k1, n1⟩, -, X', ⟨Lc, hQ, q1, q2, q3⟩, st⟩ := X.specialBack hx (y := y) hy1 hown (mvT hZ w1) (mvT hZ w2) (mvT hZ w4) hy (backOf (Q := fun v h L => Q v h ∧ Fr n0 L) hM hZ w4 w3 hf hl) hg hsize (Steps.refl _) hlen hstack (Nat.le_refl _) hd (fun _ _ => ⟨has, q, hc, hs⟩)
  dsimp only [Pt.U, Pt.locs, Pt.cells, Pt.slots] at X' q1 q2 q3 st hQ
  subst q1 q2 q3
  exact ⟨v, T', _, ⟨_, X', Fr.app N hQ.2, rfl⟩, hQ.1, fun _ kt => st.trans kt⟩
theorem Sd.callV (X : Sd n0 p l e R s m args below meth c T h k n) (hx : p.tables.exec = Jvm.exec) (hZ : Z.Warmed39 s.vm) {own C : String} {index : Nat} {y z : MethodName} {bytes : ByteArray} {maxL : Nat} {ret : Option FieldType} {rm : Room} {as' : Array Value} {Q : Option Value → Heap → Prop}
    (hown : s.vm.findClass own = some m.cls) (w1 : (Cond.methodLink own index y).before a0 Z = true) (w2 : (Cond.declares y).before a0 Z = true) (hnf : NotFace s y) (w5 : (Cond.selects C y z).before a0 Z = true) (w6 : (Cond.instanceMethod z).before a0 Z = true) (w3 : (Cond.initialized z.cls).before a0 Z = true) (w4 : (Cond.code z bytes maxL ret).before a0 Z = true) (hy : y.cls ≠ "java/lang/invoke/MethodHandle" ∧ y.cls ≠ "java/lang/invoke/VarHandle")
    (hM : Met l Z n0 z bytes maxL ret [] rm as' h Q) {a : Addr} (E : Exa Z h a C) {g : JFrame} (hg : g.method = m) (hsize : g.locals.size = c.maxLocals) {argsL rest : List Value} (hlen : ∀ sig, parseMethodDescriptor y.desc = some sig → argsL.length = sig.parameters.length)
    (hstack : g.stack = argsL.reverse ++ .ref a :: rest) (hd : decode c.code g.pc = .ok (.invokevirtual index, 3)) (has : (.ref a :: argsL).toArray = as') (hf : rm.frames + 1 ≤ R.frames) (hl : 2 * g.monitorRoom + (rest.map fun v => v.category).sum + (maxL + 11) + rm.locals ≤ R.locals)
    {k' n' : Nat} (hk : k + rm.cells = k') (hn : n + rm.slots = n') (hc : k' ≤ R.cells) (hs : n' ≤ R.slots) :
    ∃ v T' h', Sd n0 p l e R s m args below meth c T' h' k' n' ∧ Q v h' ∧ ∀ target, Steps p.tables e below (T'.setTop { g with pc := g.pc + 3, stack := v.toList ++ rest }) target → Steps p.tables e below (T.setTop g) target := by
  subst hk hn
  obtain ⟨L, X, N, q⟩ := X
  obtain ⟨cB, kB, b1, b2, b3⟩ := isOf (T := T) hZ q E
  obtain ⟨v, _, ⟨T', L', k1, n1⟩, -, X', ⟨Lc, hQ, q1, q2, q3⟩, st⟩ := X.virtualBack hx (y := y) (z := z) hown (mvT hZ w1) (mvT hZ w2) hnf (mvT hZ w5) (mvT hZ w6) hy (backOf (Q := fun v h L => Q v h ∧ Fr n0 L) hM hZ w4 w3 hf hl) b1 b3 hg hsize (Steps.refl _) hlen hstack (Nat.le_refl _) hd (fun _ _ => ⟨has, q, hc, hs⟩)
  dsimp only [Pt.U, Pt.locs, Pt.cells, Pt.slots] at X' q1 q2 q3 st hQ
  subst q1 q2 q3
  exact ⟨v, T', _, ⟨_, X', Fr.app N hQ.2, rfl⟩, hQ.1, fun _ kt => st.trans kt⟩
theorem Sd.callP (X : Sd n0 p l e R s m args below meth c T h k n) (hx : p.tables.exec = Jvm.exec) (hZ : Z.Warmed39 s.vm) {own C : String} {index : Nat} {y : MethodName} {bytes : ByteArray} {maxL : Nat} {ret : Option FieldType} {rm : Room} {as' : Array Value} {Q : Option Value → Heap → Prop}
    (hown : s.vm.findClass own = some m.cls) (w1 : (Cond.methodLink own index y).before a0 Z = true) (w6 : (Cond.instanceMethod y).before a0 Z = true) (w5 : (Cond.selects y.cls y y).before a0 Z = true) (w7 : (Cond.privateMethod y).before a0 Z = true) (w3 : (Cond.initialized y.cls).before a0 Z = true) (w4 : (Cond.code y bytes maxL ret).before a0 Z = true) (hy : y.cls ≠ "java/lang/invoke/MethodHandle" ∧ y.cls ≠ "java/lang/invoke/VarHandle")
    (hM : Met l Z n0 y bytes maxL ret [] rm as' h Q) {a : Addr} (E : Exa Z h a C) {g : JFrame} (hg : g.method = m) (hsize : g.locals.size = c.maxLocals) {argsL rest : List Value} (hlen : ∀ sig, parseMethodDescriptor y.desc = some sig → argsL.length = sig.parameters.length)
    (hstack : g.stack = argsL.reverse ++ .ref a :: rest) (hd : decode c.code g.pc = .ok (.invokevirtual index, 3)) (has : (.ref a :: argsL).toArray = as') (hf : rm.frames + 1 ≤ R.frames) (hl : 2 * g.monitorRoom + (rest.map fun v => v.category).sum + (maxL + 11) + rm.locals ≤ R.locals)
    {k' n' : Nat} (hk : k + rm.cells = k') (hn : n + rm.slots = n') (hc : k' ≤ R.cells) (hs : n' ≤ R.slots) :
    ∃ v T' h', Sd n0 p l e R s m args below meth c T' h' k' n' ∧ Q v h' ∧ ∀ target, Steps p.tables e below (T'.setTop { g with pc := g.pc + 3, stack := v.toList ++ rest }) target → Steps p.tables e below (T.setTop g) target := by
  subst hk hn
  obtain ⟨L, X, N, q⟩ := X
  obtain ⟨cl, b1, b2⟩ := E.cell
  obtain ⟨v, _, ⟨T', L', k1, n1⟩, -, X', ⟨Lc, hQ, q1, q2, q3⟩, st⟩ := X.privateBack hx (y := y) hown (mvT hZ w1) (mvT hZ w6) (mvT hZ w5) (Cond.privateMethod_at (mvP hZ w7 (args := #[]))) (mvT hZ w4) hy (backOf (Q := fun v h L => Q v h ∧ Fr n0 L) hM hZ w4 w3 hf hl) hg hsize (Steps.refl _) (a := a) (by rw [q]; exact b1) b2 hlen hstack (Nat.le_refl _) hd (fun _ _ => ⟨has, q, hc, hs⟩)
  dsimp only [Pt.U, Pt.locs, Pt.cells, Pt.slots] at X' q1 q2 q3 st hQ
  subst q1 q2 q3
  exact ⟨v, T', _, ⟨_, X', Fr.app N hQ.2, rfl⟩, hQ.1, fun _ kt => st.trans kt⟩
theorem Sd.callU (X : Sd n0 p l e R s m args below meth c T h k n) (hx : p.tables.exec = Jvm.exec) (hZ : Z.Warmed39 s.vm) {own C owner : String} {index : Nat} {y z : MethodName} {bytes : ByteArray} {maxL : Nat} {ret : Option FieldType} {rm : Room} {as' : Array Value} {Q : Option Value → Heap → Prop}
    (hown : s.vm.findClass own = some m.cls) (w1 : (Cond.methodLink own index y).before a0 Z = true) (w2 : (Cond.sameMethod y.cls owner y.name y.desc).before a0 Z = true) (w7 : (Cond.declares ⟨owner, y.name, y.desc⟩).before a0 Z = true) (ho : owner ≠ "java/lang/invoke/MethodHandle" ∧ owner ≠ "java/lang/invoke/VarHandle") (w5 : (Cond.selects C y z).before a0 Z = true) (w6 : (Cond.instanceMethod z).before a0 Z = true) (w3 : (Cond.initialized z.cls).before a0 Z = true) (w4 : (Cond.code z bytes maxL ret).before a0 Z = true)
    (hM : Met l Z n0 z bytes maxL ret [] rm as' h Q) {a : Addr} (E : Exa Z h a C) {g : JFrame} (hg : g.method = m) (hsize : g.locals.size = c.maxLocals) {argsL rest : List Value} (hlen : ∀ sig, parseMethodDescriptor y.desc = some sig → argsL.length = sig.parameters.length)
    (hstack : g.stack = argsL.reverse ++ .ref a :: rest) (hd : decode c.code g.pc = .ok (.invokevirtual index, 3)) (has : (.ref a :: argsL).toArray = as') (hf : rm.frames + 1 ≤ R.frames) (hl : 2 * g.monitorRoom + (rest.map fun v => v.category).sum + (maxL + 11) + rm.locals ≤ R.locals)
    {k' n' : Nat} (hk : k + rm.cells = k') (hn : n + rm.slots = n') (hc : k' ≤ R.cells) (hs : n' ≤ R.slots) :
    ∃ v T' h', Sd n0 p l e R s m args below meth c T' h' k' n' ∧ Q v h' ∧ ∀ target, Steps p.tables e below (T'.setTop { g with pc := g.pc + 3, stack := v.toList ++ rest }) target → Steps p.tables e below (T.setTop g) target := by
  subst hk hn
  obtain ⟨L, X, N, q⟩ := X
  obtain ⟨cB, kB, b1, b2, b3⟩ := isOf (T := T) hZ q E
  obtain ⟨v, _, ⟨T', L', k1, n1⟩, -, X', ⟨Lc, hQ, q1, q2, q3⟩, st⟩ := X.virtualBackUp hx (x := y) (y := z) hown (mvT hZ w1) (mvT hZ w2) (mvT hZ w7) ho (mvT hZ w5) (mvT hZ w6) (backOf (Q := fun v h L => Q v h ∧ Fr n0 L) hM hZ w4 w3 hf hl) b1 b3 hg hsize (Steps.refl _) hlen hstack (Nat.le_refl _) hd (fun _ _ => ⟨has, q, hc, hs⟩)
  dsimp only [Pt.U, Pt.locs, Pt.cells, Pt.slots] at X' q1 q2 q3 st hQ
  subst q1 q2 q3
  exact ⟨v, T', _, ⟨_, X', Fr.app N hQ.2, rfl⟩, hQ.1, fun _ kt => st.trans kt⟩
theorem Sd.instNo (X : Sd n0 p l e R s m args below meth c T h k n) (hx : p.tables.exec = Jvm.exec) (hZ : Z.Warmed39 s.vm) {own K C : String} {index : Nat} (hown : s.vm.findClass own = some m.cls) (w : (Cond.classLink own index K).before a0 Z = true) {a : Addr} (E : Exa Z h a C) (F : ∃ c t, Z.vm.findClass C = some c ∧ Z.vm.findClass K = some t ∧ Z.vm.assignable c t = false)
    {g : JFrame} (hg : g.method = m) {rest : List Value} (hs : g.stack = .ref a :: rest) (hd : decode c.code g.pc = .ok (.instanceof index, 3)) :
    ∃ T', Sd n0 p l e R s m args below meth c T' h k n ∧ ∀ target, Steps p.tables e below (T'.setTop { g with pc := g.pc + 3, stack := .int 0 :: rest }) target → Steps p.tables e below (T.setTop g) target := by
  obtain ⟨L, X, N, q⟩ := X
  obtain ⟨T', X', e', st⟩ := Jvm.RoadKit.instNo X hx hZ hown w q E F hg hs hd
  exact ⟨T', ⟨L, X', N, e'⟩, st⟩
theorem ns_root {O K : String} {kk : Nat} (w : (Cond.noSuperclass O).before a0 Z = true) (wk : (Cond.instantiable K kk).before a0 Z = true) (hn : O ≠ K) : NS Z O K := by
  obtain ⟨c, k, h1, h2, h3, -, -⟩ := Cond.noSuperclass_spec w
  obtain ⟨t, k2, g1, -⟩ := Cond.instantiable_spec wk
  have ne := ids_ne h1 g1 hn
  refine ⟨c, t, h1, g1, fun fuel => ?_⟩
  cases fuel with
  | zero => rfl
  | succ f => simp [Vm.isSubclassAux, ne, h2, h3]
theorem ns_no {C K : String} {k1 k2 : Nat} (w : (Cond.instantiable C k1).before a0 Z = true) (wk : (Cond.instantiable K k2).before a0 Z = true) (n : NS Z C K) (hn : C ≠ K) : ∃ c t, Z.vm.findClass C = some c ∧ Z.vm.findClass K = some t ∧ Z.vm.assignable c t = false := by
  obtain ⟨c, t, h0, g0, n3⟩ := n
  obtain ⟨c', kc, h1, h2, h3, h4, -⟩ := Cond.instantiable_spec w
  obtain ⟨t', kt, g1, g2, g3, g4, -⟩ := Cond.instantiable_spec wk
  cases h0.symm.trans h1
  cases g0.symm.trans g1
  have ne := ids_ne h0 g0 hn
  refine ⟨c, t, h0, g0, ?_⟩
  have g5 : kt.isInterface = false := by simp at g4; exact g4.1
  show Z.vm.assignableAux (255 + 1) c t = false
  simp [Vm.assignableAux, ne, h2, g2, h3, g3, g5, Vm.isSubclass, n3]
theorem keep_ext {h h' : Heap} (K : Keep h h' []) : Ext h h' := ⟨K.1, fun x c q => K.2.1 x c q nin0⟩
theorem Exa.plain {h : Heap} {a : Addr} {C : String} (F : Exa Z h a C) : ∀ cell : Cell, h[a]? = some cell → cell.vm.isStatics = false := fun cell hc => by
  obtain ⟨c, k, h1, -, -, h4, -⟩ := F
  cases h1.symm.trans hc; exact h4
theorem Avf.plain {h : Heap} {a : Addr} {kc : ClassId} {ty : FieldType} {sz : Nat} {f : Nat → Value} (F : Avf Z h a kc ty sz f) : ∀ cell : Cell, h[a]? = some cell → cell.vm.isStatics = false := fun cell hc => by
  obtain ⟨cl, A, -⟩ := F
  cases A.1.symm.trans hc; exact Arr.plain A
theorem Sta.keepN {h h' : Heap} {C f d : String} {v : Value} {ws : List Addr} (F : Sta Z h C f d v) (K : Keep h h' ws) (q : ∀ x ∈ ws, ∀ cell : Cell, h[x]? = some cell → cell.vm.isStatics = false) : Sta Z h' C f d v := by
  obtain ⟨cf, i, k, fl, st, cell, h1, h2, h3, h4, h5, h6, h7⟩ := F
  exact ⟨cf, i, k, fl, st, cell, h1, h2, h3, h4, K.2.1 st cell h5 (fun z => by rw [q st z cell h5] at h6; cases h6), h6, h7⟩
/-! at the start -/
theorem sta_exa {args : Array Value} {C f d K : String} (hx : (Cond.exactly (.static C f d) K).value args Z none Z [] = some true) (wi : (Cond.initialized C).before args Z = true) (wl : (Cond.laysStatic C f d).before args Z = true) : ∃ a, (Term.static C f d).eval args Z none [] Z = some (.ref a) ∧ Sta Z Z.heap C f d (.ref a) ∧ Exa Z Z.heap a K := by
  obtain ⟨a, ev⟩ := exa_v hx
  exact ⟨a, ev, Sta.start ev (Or.inr ⟨wi, wl⟩), Exa.start ev hx⟩
theorem sta_arr {args : Array Value} {C f d : String} {ty : FieldType} (hx : (Cond.arrayOf (.static C f d) ty).value args Z none Z [] = some true) (wi : (Cond.initialized C).before args Z = true) (wl : (Cond.laysStatic C f d).before args Z = true) : ∃ a cl, (Term.static C f d).eval args Z none [] Z = some (.ref a) ∧ Sta Z Z.heap C f d (.ref a) ∧ Arr Z Z.heap a cl ty := by
  obtain ⟨a, ev⟩ := arr_v hx
  obtain ⟨cl, A⟩ := Arr.start ev hx
  exact ⟨a, cl, ev, Sta.start ev (Or.inr ⟨wi, wl⟩), A⟩
theorem int_of_eq {args : Array Value} {t : Term} {kk : Int32} (h : (Cond.eq t (.int kk)).value args Z none Z [] = some true) : t.eval args Z none [] Z = some (.int kk) := by
  obtain ⟨x, y, h1, h2, k1, k2⟩ := cmp_v (Or.inl h)
  cases (Option.some.inj h2 : Value.int kk = y)
  obtain ⟨z, rfl⟩ : ∃ z, x = .int z := k2
  have q : z = kk := by simpa [Cond.value, h1, Term.eval] using h
  rw [h1, q]
theorem fld_eq {args : Array Value} {t : Term} {C f d : String} {a : Addr} {kk : Int32} (ht : t.eval args Z none [] Z = some (.ref a)) (h : (Cond.eq (.field t C f d) (.int kk)).value args Z none Z [] = some true) : Fld Z Z.heap a C f d (.int kk) :=
  Fld.start ((fld_at ht).symm.trans (int_of_eq h))
theorem ref_of_eq {args : Array Value} {t u : Term} {a : Addr} (hu : u.eval args Z none [] Z = some (.ref a)) (h : (Cond.eq t u).value args Z none Z [] = some true) : t.eval args Z none [] Z = some (.ref a) := by
  obtain ⟨x, y, h1, h2, k1, k2⟩ := cmp_v (Or.inl h)
  cases (Option.some.inj (hu.symm.trans h2) : Value.ref a = y)
  have kx : x.isRef = true := k2.2
  rw [h1, gotT (eq_R h1 hu kx rfl) h]
theorem avf_len {args : Array Value} {t : Term} {a : Addr} {cl : Cell} {ty : FieldType} {z : Int32} {sz : Nat} (A : Arr Z Z.heap a cl ty) (ev : t.eval args Z none [] Z = some (.ref a)) (h : (Term.length t).eval args Z none [] Z = some (.int z)) (hz : z.toNatClampNeg = sz) : cl.slots.size = sz := by
  have ha : Z.arrayAt? a = some cl := A.fin (Vm.Alike.refl _)
  simp only [Term.eval, ev, ha, Option.bind_eq_bind, Option.bind_some] at h
  split at h
  · rename_i hl
    have e : cl.slots.size.toInt32 = z := by simpa using h
    rw [← hz, ← e]
    have q := len_toInt hl
    simp only [Int32.toNatClampNeg, q]; omega
  · cases h
theorem iremS {g : JFrame} {target : State} (X : Sd n0 p l e R s m args below meth c T h k n) (hx : p.tables.exec = Jvm.exec) (hg : g.method = m) {x y : Int32} {rest : List Value} (hd : decode c.code g.pc = .ok (.irem, 1)) (hs : g.stack = .int y :: .int x :: rest) (hy : y ≠ 0)
    (hr : Steps p.tables e below (T.setTop { g with pc := g.pc + 1, stack := .int (x % y) :: rest }) target) : Steps p.tables e below (T.setTop g) target := by
  obtain ⟨L, X, -⟩ := X; exact iremM X hx hg hd hs hy hr
end Sds
end Jvm.RoadKit
namespace Jvm.Pilot.@@N@@
open Jvm Jvm.ClassFile Sem Op Lib Jvm.Free Jvm.Stand Jvm.LawKit Jvm.RoadKit Bundle Jvm.Pilot.@@N@@.Jvm.D
theorem tw {a0 : Array Value} {Z : State} (hw : ∀ d ∈ tables_1, d.before a0 Z = true) (i : Nat) {d : Jvm.Cond} (h : tables_1[i]? = some d) : d.before a0 Z = true := hw _ (List.mem_of_getElem? h)
theorem own_pos (x : Int32) (h : ¬ (x &&& 2147483647) = 0) : ¬ (x &&& 2147483647) < 1 := by
  have q := c_mask x 2147483647 31 (by decide) (by decide)
  rw [← Int32.toInt_inj] at h
  rw [Int32.lt_iff_toInt_lt]
  have e1 : (0 : Int32).toInt = 0 := rfl
  have e2 : (1 : Int32).toInt = 1 := rfl
  rw [e1] at h
  rw [e2]
  omega
theorem d2_0 : decode prog_65_method_1_code 0 = .ok (.aload_n 0, 1) := by decide +kernel
theorem d2_1 : decode prog_65_method_1_code 1 = .ok (.invokespecial 1, 3) := by decide +kernel
theorem d2_4 : decode prog_65_method_1_code 4 = .ok (.aload_n 0, 1) := by decide +kernel
theorem d2_5 : decode prog_65_method_1_code 5 = .ok (.aload_n 1, 1) := by decide +kernel
theorem d2_6 : decode prog_65_method_1_code 6 = .ok (.putfield 7, 3) := by decide +kernel
theorem d2_9 : decode prog_65_method_1_code 9 = .ok (.aload_n 0, 1) := by decide +kernel
theorem d2_10 : decode prog_65_method_1_code 10 = .ok (.iload_n 2, 1) := by decide +kernel
theorem d2_11 : decode prog_65_method_1_code 11 = .ok (.putfield 13, 3) := by decide +kernel
theorem d2_14 : decode prog_65_method_1_code 14 = .ok (.return_, 1) := by decide +kernel
abbrev Rm2 : Room := { frames := 1, cells := 0, slots := 0, locals := 12 }
theorem pn0 : plainName "com/example/istorie/istorie/ShadowScope" = true := by first | (simp [plainName, overriddenIn]; done) | decide +kernel
set_option maxRecDepth 65536 in
set_option maxHeartbeats 40000000 in
theorem rm2 (l : Launch) (Z : State) (a0 : Array Value) (hw : ∀ d ∈ tables_1, d.before a0 Z = true) (ws : List Jvm.Cond) (a1 : Addr) (a2 : Addr) (p3 : Int32) (h0 : Heap) (n0 : Nat) (Z0 : n0 ≤ h0.size) (E_a1 : Exa Z h0 a1 "com/example/istorie/istorie/ShadowScope") (g_a1 : n0 ≤ a1) (Fk : Fld Z h0 a1 "com/example/istorie/istorie/ShadowScope" "kind" "Lcom/example/istorie/istorie/ShadowScope$Kind;" .null) (Fl : Fld Z h0 a1 "com/example/istorie/istorie/ShadowScope" "levels" "I" (.int (0 : Int32))) :
    Met l Z n0 (⟨"com/example/istorie/istorie/ShadowScope", "<init>", "(Lcom/example/istorie/istorie/ShadowScope$Kind;I)V"⟩ : MethodName) prog_65_method_1_code 3 none ws Rm2 #[(.ref a1), (.ref a2), (.int p3)] h0 (fun v h => v = none ∧ Keep h0 h [a1] ∧ Exa Z h a1 "com/example/istorie/istorie/ShadowScope" ∧ Fld Z h a1 "com/example/istorie/istorie/ShadowScope" "kind" "Lcom/example/istorie/istorie/ShadowScope$Kind;" (.ref a2) ∧ Fld Z h a1 "com/example/istorie/istorie/ShadowScope" "levels" "I" (.int p3)) := by
  refine enter (Ls := #[.val (.ref a1), .val (.ref a2), .val (.int p3)]) (plainFor_of_name pn0) (fun m => by first | rfl | (simp [entryFrame, mkF, argsToLocals, Value.category]; done)) ?_
  intro p e s m below meth c T0 hx hby hml hown hnm hret hlk hZ X0
  have K0 := Keep.refl h0 [a1]
  show Go p.tables e below _ (T0.setTop (mkF m 0 #[.val (.ref a1), .val (.ref a2), .val (.int p3)] []))
  refine Go.by (fun _ => XS.aloadN X0.here hx rfl (hb hby d2_0) rfl rfl) ?_
  show Go p.tables e below _ (T0.setTop (mkF m 1 #[.val (.ref a1), .val (.ref a2), .val (.int p3)] [(.ref a1)]))
  obtain ⟨T1, X1, st1⟩ := X0.initO hx hZ hown (tw hw 13 rfl) (tw hw 14 rfl) (tw hw 15 rfl) (g := (mkF m 1 #[.val (.ref a1), .val (.ref a2), .val (.int p3)] [(.ref a1)])) rfl (by rw [hml]; rfl) rfl (hb hby d2_1) (by decide) (Nat.le_of_ble_eq_true rfl)
  refine Go.by st1 ?_
  show Go p.tables e below _ (T1.setTop (mkF m 4 #[.val (.ref a1), .val (.ref a2), .val (.int p3)] []))
  refine Go.by (fun _ => XS.aloadN X1.here hx rfl (hb hby d2_4) rfl rfl) ?_
  show Go p.tables e below _ (T1.setTop (mkF m 5 #[.val (.ref a1), .val (.ref a2), .val (.int p3)] [(.ref a1)]))
  refine Go.by (fun _ => XS.aloadN X1.here hx rfl (hb hby d2_5) rfl rfl) ?_
  show Go p.tables e below _ (T1.setTop (mkF m 6 #[.val (.ref a1), .val (.ref a2), .val (.int p3)] [(.ref a2), (.ref a1)]))
  obtain ⟨T2, h2, X2, W2, st2⟩ := X1.putF hx hZ hown (host := "") (Or.inl (tw hw 16 rfl)) Via.refl Fk E_a1 g_a1 (Or.inr ⟨(tw hw 17 rfl), rfl, hnm⟩) (tw hw 6 rfl) (ty := (.object "com/example/istorie/istorie/ShadowScope$Kind")) (by decide) rfl rfl (g := (mkF m 6 #[.val (.ref a1), .val (.ref a2), .val (.int p3)] [(.ref a2), (.ref a1)])) rfl rfl (hb hby d2_6)
  have Fw2 := Fk.same W2
  have f3_13 := E_a1.wr W2
  have f3_14 := Fl.other W2 (Or.inr (slot_ne (Or.inr (tw hw 19 rfl)) (Or.inr (tw hw 17 rfl)) (by decide) (t := .int) (t' := (.object "com/example/istorie/istorie/ShadowScope$Kind")) (by decide) (by decide)))
  have f3_15 := K0.wr W2 (Or.inl (List.mem_of_getElem? (i := 0) rfl))
  have Zs3 : n0 ≤ h2.size := by rw [W2.size]; exact Z0
  refine Go.by st2 ?_
  show Go p.tables e below _ (T2.setTop (mkF m 9 #[.val (.ref a1), .val (.ref a2), .val (.int p3)] []))
  refine Go.by (fun _ => XS.aloadN X2.here hx rfl (hb hby d2_9) rfl rfl) ?_
  show Go p.tables e below _ (T2.setTop (mkF m 10 #[.val (.ref a1), .val (.ref a2), .val (.int p3)] [(.ref a1)]))
  refine Go.by (fun _ => XS.iloadN X2.here hx rfl (hb hby d2_10) rfl) ?_
  show Go p.tables e below _ (T2.setTop (mkF m 11 #[.val (.ref a1), .val (.ref a2), .val (.int p3)] [(.int p3), (.ref a1)]))
  obtain ⟨T4, h4, X4, W4, st4⟩ := X2.putF hx hZ hown (host := "") (Or.inl (tw hw 18 rfl)) Via.refl f3_14 f3_13 g_a1 (Or.inr ⟨(tw hw 19 rfl), rfl, hnm⟩) (tw hw 6 rfl) (ty := .int) (by decide) rfl rfl (g := (mkF m 11 #[.val (.ref a1), .val (.ref a2), .val (.int p3)] [(.int p3), (.ref a1)])) rfl rfl (hb hby d2_11)
  have Fw4 := f3_14.same W4
  have f5_25 := f3_13.wr W4
  have f5_26 := Fw2.other W4 (Or.inr (slot_ne (Or.inr (tw hw 17 rfl)) (Or.inr (tw hw 19 rfl)) (by decide) (t := (.object "com/example/istorie/istorie/ShadowScope$Kind")) (t' := .int) (by decide) (by decide)))
  have f5_27 := f3_15.wr W4 (Or.inl (List.mem_of_getElem? (i := 0) rfl))
  have Zs5 : n0 ≤ h4.size := by rw [W4.size]; exact Zs3
  refine Go.by st4 ?_
  show Go p.tables e below _ (T4.setTop (mkF m 14 #[.val (.ref a1), .val (.ref a2), .val (.int p3)] []))
  exact Go.ret0 X4 hx hlk hret (hb hby d2_14) (by decide) (by decide) ⟨rfl, f5_27, f5_25, f5_26, Fw4⟩
theorem d1_0 : decode prog_65_method_4_code 0 = .ok (.iload_n 0, 1) := by decide +kernel
theorem d1_1 : decode prog_65_method_4_code 1 = .ok (.iconst 1, 1) := by decide +kernel
theorem d1_2 : decode prog_65_method_4_code 2 = .ok (.if_icmp .ge 17, 3) := by decide +kernel
theorem d1_19 : decode prog_65_method_4_code 19 = .ok (.new 8, 3) := by decide +kernel
theorem d1_22 : decode prog_65_method_4_code 22 = .ok (.dup, 1) := by decide +kernel
theorem d1_23 : decode prog_65_method_4_code 23 = .ok (.getstatic 33, 3) := by decide +kernel
theorem d1_26 : decode prog_65_method_4_code 26 = .ok (.iload_n 0, 1) := by decide +kernel
theorem d1_27 : decode prog_65_method_4_code 27 = .ok (.invokespecial 38, 3) := by decide +kernel
theorem pd0 : parseMethodDescriptor "(Lcom/example/istorie/istorie/ShadowScope$Kind;I)V" = some ⟨[(.object "com/example/istorie/istorie/ShadowScope$Kind"), .int], none⟩ := by decide +kernel
theorem d1_30 : decode prog_65_method_4_code 30 = .ok (.areturn, 1) := by decide +kernel
abbrev Rm1 : Room := { frames := 2, cells := 1, slots := 2, locals := 27 }
set_option maxRecDepth 65536 in
set_option maxHeartbeats 40000000 in
theorem rm1 (l : Launch) (Z : State) (a0 : Array Value) (hw : ∀ d ∈ tables_1, d.before a0 Z = true) (ws : List Jvm.Cond) (p1 : Int32) (a_DEEP_PLUS : Addr) (a_COMMIT_DEEP : Addr) (h0 : Heap) (n0 : Nat) (Z0 : n0 ≤ h0.size) (S_DEEP_PLUS : Sta Z h0 "com/example/istorie/istorie/ShadowScope$Kind" "DEEP_PLUS" "Lcom/example/istorie/istorie/ShadowScope$Kind;" (.ref a_DEEP_PLUS)) (E_DEEP_PLUS : Exa Z h0 a_DEEP_PLUS "com/example/istorie/istorie/ShadowScope$Kind") (S_COMMIT_DEEP : Sta Z h0 "com/example/istorie/istorie/ShadowScope$Kind" "COMMIT_DEEP" "Lcom/example/istorie/istorie/ShadowScope$Kind;" (.ref a_COMMIT_DEEP)) (E_COMMIT_DEEP : Exa Z h0 a_COMMIT_DEEP "com/example/istorie/istorie/ShadowScope$Kind") (F_DEEP_PLUS_ordinal : Fld Z h0 a_DEEP_PLUS "java/lang/Enum" "ordinal" "I" (.int (2 : Int32))) (F_COMMIT_DEEP_ordinal : Fld Z h0 a_COMMIT_DEEP "java/lang/Enum" "ordinal" "I" (.int (1 : Int32))) (hlv : ¬ p1 < 1) :
    Met l Z n0 (⟨"com/example/istorie/istorie/ShadowScope", "deepPlus", "(I)Lcom/example/istorie/istorie/ShadowScope;"⟩ : MethodName) prog_65_method_4_code 1 (some (.object "com/example/istorie/istorie/ShadowScope")) ws Rm1 #[(.int p1)] h0 (fun v h => ∃ r, v = some (.ref r) ∧ h0.size ≤ r ∧ Keep h0 h [] ∧ Exa Z h r "com/example/istorie/istorie/ShadowScope" ∧ Fld Z h r "com/example/istorie/istorie/ShadowScope" "kind" "Lcom/example/istorie/istorie/ShadowScope$Kind;" (.ref a_DEEP_PLUS) ∧ Fld Z h r "com/example/istorie/istorie/ShadowScope" "levels" "I" (.int p1)) := by
  refine enter (Ls := #[.val (.int p1)]) (plainFor_of_name pn0) (fun m => by first | rfl | (simp [entryFrame, mkF, argsToLocals, Value.category]; done)) ?_
  intro p e s m below meth c T0 hx hby hml hown hnm hret hlk hZ X0
  have K0 := Keep.refl h0 []
  show Go p.tables e below _ (T0.setTop (mkF m 0 #[.val (.int p1)] []))
  refine Go.by (fun _ => XS.iloadN X0.here hx rfl (hb hby d1_0) rfl) ?_
  show Go p.tables e below _ (T0.setTop (mkF m 1 #[.val (.int p1)] [(.int p1)]))
  refine Go.by (fun _ => XS.iconst X0.here hx rfl (hb hby d1_1)) ?_
  show Go p.tables e below _ (T0.setTop (mkF m 2 #[.val (.int p1)] [(.int (1 : Int32)), (.int p1)]))
  refine Go.by (fun _ => XS.icmpYes X0.here hx rfl (pc0 := 2) (pc' := 19) rfl (hb hby d1_2) rfl (flt hlv).2.1 (by decide) (by decide)) ?_
  show Go p.tables e below _ (T0.setTop (mkF m 19 #[.val (.int p1)] []))
  obtain ⟨T1, h1, b1, X1, g1, E1, A1, D1, st1⟩ := X0.newO hx hZ hown (tw hw 5 rfl) (tw hw 6 rfl) (tw hw 3 rfl) (g := (mkF m 19 #[.val (.int p1)] [])) rfl (hb hby d1_19) (k' := 1) (n' := 2) rfl rfl (by decide) (by decide)
  have g_b1 : n0 ≤ b1 := by rw [g1]; exact Z0
  have sz_b1 : h0.size ≤ b1 := by rw [g1]; exact K0.1
  have ne_a_DEEP_PLUS_b1 : a_DEEP_PLUS ≠ b1 := Nat.ne_of_lt (by rw [g1]; exact E_DEEP_PLUS.lt)
  have ne_a_COMMIT_DEEP_b1 : a_COMMIT_DEEP ≠ b1 := Nat.ne_of_lt (by rw [g1]; exact E_COMMIT_DEEP.lt)
  have f2_13 := S_DEEP_PLUS.ext E1
  have f2_14 := E_DEEP_PLUS.ext E1
  have f2_15 := S_COMMIT_DEEP.ext E1
  have f2_16 := E_COMMIT_DEEP.ext E1
  have f2_17 := F_DEEP_PLUS_ordinal.ext E1
  have f2_18 := F_COMMIT_DEEP_ordinal.ext E1
  have f2_19 := K0.ext E1
  have Zs2 : n0 ≤ h1.size := Nat.le_trans Z0 E1.1
  have F1_kind : Fld Z h1 b1 "com/example/istorie/istorie/ShadowScope" "kind" "Lcom/example/istorie/istorie/ShadowScope$Kind;" .null := D1 (Or.inr (tw hw 17 rfl)) (ty := (.object "com/example/istorie/istorie/ShadowScope$Kind")) (by decide)
  have F1_levels : Fld Z h1 b1 "com/example/istorie/istorie/ShadowScope" "levels" "I" (.int (0 : Int32)) := D1 (Or.inr (tw hw 19 rfl)) (ty := .int) (by decide)
  refine Go.by st1 ?_
  show Go p.tables e below _ (T1.setTop (mkF m 22 #[.val (.int p1)] [(.ref b1)]))
  refine Go.by (fun _ => XS.dup X1.here hx rfl (hb hby d1_22) rfl rfl) ?_
  show Go p.tables e below _ (T1.setTop (mkF m 23 #[.val (.int p1)] [(.ref b1), (.ref b1)]))
  obtain ⟨T3, X3, st3⟩ := X1.getS hx hZ hown (host := "") (Or.inl (tw hw 7 rfl)) Via.refl f2_13 (g := (mkF m 23 #[.val (.int p1)] [(.ref b1), (.ref b1)])) rfl (hb hby d1_23)
  refine Go.by st3 ?_
  show Go p.tables e below _ (T3.setTop (mkF m 26 #[.val (.int p1)] [(.ref a_DEEP_PLUS), (.ref b1), (.ref b1)]))
  refine Go.by (fun _ => XS.iloadN X3.here hx rfl (hb hby d1_26) rfl) ?_
  show Go p.tables e below _ (T3.setTop (mkF m 27 #[.val (.int p1)] [(.int p1), (.ref a_DEEP_PLUS), (.ref b1), (.ref b1)]))
  obtain ⟨v4, T4, h4, X4, q4, st4⟩ := X3.callI hx hZ (y := (⟨"com/example/istorie/istorie/ShadowScope", "<init>", "(Lcom/example/istorie/istorie/ShadowScope$Kind;I)V"⟩ : MethodName)) rfl hown (tw hw 10 rfl) (tw hw 11 rfl) (tw hw 3 rfl) (tw hw 12 rfl) (by decide) (rm2 l Z a0 hw [] b1 a_DEEP_PLUS p1 h1 n0 Zs2 A1 g_b1 F1_kind F1_levels) (g := (mkF m 27 #[.val (.int p1)] [(.int p1), (.ref a_DEEP_PLUS), (.ref b1), (.ref b1)])) rfl (by rw [hml]; rfl) (argsL := [(.ref a_DEEP_PLUS), (.int p1)]) (rest := [(.ref b1)]) (lenOf pd0 rfl) rfl (hb hby d1_27) rfl (by decide) (Nat.le_of_ble_eq_true rfl) (k' := 1) (n' := 2) rfl rfl (by decide) (by decide)
  refine Go.by st4 ?_
  obtain ⟨rfl, K4, Ex4, Fk4, Fl4⟩ := q4
  have f5_35 := Sta.keepN f2_13 K4 (allS A1.plain all0)
  have f5_36 := f2_14.keep K4
  have f5_37 := Sta.keepN f2_15 K4 (allS A1.plain all0)
  have f5_38 := f2_16.keep K4
  have f5_39 := f2_17.keep K4 (ninS ne_a_DEEP_PLUS_b1 nin0)
  have f5_40 := f2_18.keep K4 (ninS ne_a_COMMIT_DEEP_b1 nin0)
  have f5_41 := f2_19.trans K4 (allS (Or.inr sz_b1) all0)
  have f5_42 := A1.keep K4
  have Zs5 : n0 ≤ h4.size := Nat.le_trans Zs2 K4.1
  show Go p.tables e below _ (T4.setTop (mkF m 30 #[.val (.int p1)] [(.ref b1)]))
  exact Go.retA X4 hx hlk hret rfl rfl (hb hby d1_30) (by decide) (by decide) ⟨b1, rfl, sz_b1, f5_41, Ex4, Fk4, Fl4⟩
theorem d4_0 : decode prog_65_method_5_code 0 = .ok (.aload_n 0, 1) := by decide +kernel
theorem d4_1 : decode prog_65_method_5_code 1 = .ok (.getfield 7, 3) := by decide +kernel
theorem d4_4 : decode prog_65_method_5_code 4 = .ok (.getstatic 41, 3) := by decide +kernel
theorem d4_7 : decode prog_65_method_5_code 7 = .ok (.if_acmp .ne 7, 3) := by decide +kernel
theorem d4_14 : decode prog_65_method_5_code 14 = .ok (.iconst 0, 1) := by decide +kernel
theorem d4_15 : decode prog_65_method_5_code 15 = .ok (.ireturn, 1) := by decide +kernel
abbrev Rm4 : Room := { frames := 0, cells := 0, slots := 0, locals := 0 }
set_option maxRecDepth 65536 in
set_option maxHeartbeats 40000000 in
theorem rm4 (l : Launch) (Z : State) (a0 : Array Value) (hw : ∀ d ∈ tables_1, d.before a0 Z = true) (ws : List Jvm.Cond) (a1 : Addr) (a_DEEP_PLUS : Addr) (a_COMMIT_DEEP : Addr) (h0 : Heap) (n0 : Nat) (Z0 : n0 ≤ h0.size) (S_DEEP_PLUS : Sta Z h0 "com/example/istorie/istorie/ShadowScope$Kind" "DEEP_PLUS" "Lcom/example/istorie/istorie/ShadowScope$Kind;" (.ref a_DEEP_PLUS)) (E_DEEP_PLUS : Exa Z h0 a_DEEP_PLUS "com/example/istorie/istorie/ShadowScope$Kind") (S_COMMIT_DEEP : Sta Z h0 "com/example/istorie/istorie/ShadowScope$Kind" "COMMIT_DEEP" "Lcom/example/istorie/istorie/ShadowScope$Kind;" (.ref a_COMMIT_DEEP)) (E_COMMIT_DEEP : Exa Z h0 a_COMMIT_DEEP "com/example/istorie/istorie/ShadowScope$Kind") (F_DEEP_PLUS_ordinal : Fld Z h0 a_DEEP_PLUS "java/lang/Enum" "ordinal" "I" (.int (2 : Int32))) (F_COMMIT_DEEP_ordinal : Fld Z h0 a_COMMIT_DEEP "java/lang/Enum" "ordinal" "I" (.int (1 : Int32))) (Fk : Fld Z h0 a1 "com/example/istorie/istorie/ShadowScope" "kind" "Lcom/example/istorie/istorie/ShadowScope$Kind;" (.ref a_DEEP_PLUS)) :
    Met l Z n0 (⟨"com/example/istorie/istorie/ShadowScope", "needsEntitiesOfShadowCommits", "()Z"⟩ : MethodName) prog_65_method_5_code 1 (some .boolean) ws Rm4 #[(.ref a1)] h0 (fun v h => v = some (.int 0) ∧ h0 = h) := by
  refine enter (Ls := #[.val (.ref a1)]) (plainFor_of_name pn0) (fun m => by first | rfl | (simp [entryFrame, mkF, argsToLocals, Value.category]; done)) ?_
  intro p e s m below meth c T0 hx hby hml hown hnm hret hlk hZ X0
  have nDC : a_DEEP_PLUS ≠ a_COMMIT_DEEP := F_DEEP_PLUS_ordinal.ne F_COMMIT_DEEP_ordinal (by decide)
  show Go p.tables e below _ (T0.setTop (mkF m 0 #[.val (.ref a1)] []))
  refine Go.by (fun _ => XS.aloadN X0.here hx rfl (hb hby d4_0) rfl rfl) ?_
  show Go p.tables e below _ (T0.setTop (mkF m 1 #[.val (.ref a1)] [(.ref a1)]))
  obtain ⟨T1, X1, st1⟩ := X0.getF hx hZ hown (host := "") (Or.inl (tw hw 16 rfl)) Via.refl Fk (g := (mkF m 1 #[.val (.ref a1)] [(.ref a1)])) rfl rfl (hb hby d4_1)
  refine Go.by st1 ?_
  show Go p.tables e below _ (T1.setTop (mkF m 4 #[.val (.ref a1)] [(.ref a_DEEP_PLUS)]))
  obtain ⟨T2, X2, st2⟩ := X1.getS hx hZ hown (host := "") (Or.inl (tw hw 25 rfl)) Via.refl S_COMMIT_DEEP (g := (mkF m 4 #[.val (.ref a1)] [(.ref a_DEEP_PLUS)])) rfl (hb hby d4_4)
  refine Go.by st2 ?_
  show Go p.tables e below _ (T2.setTop (mkF m 7 #[.val (.ref a1)] [(.ref a_COMMIT_DEEP), (.ref a_DEEP_PLUS)]))
  refine Go.by (X2.acmp (g := (mkF m 7 #[.val (.ref a1)] [(.ref a_COMMIT_DEEP), (.ref a_DEEP_PLUS)])) hx rfl rfl rfl (pc0 := 7) (pc' := 14) (same := false) rfl (hb hby d4_7) rfl (decide_eq_false fun q => nDC (Value.ref.inj q)) (by decide) (by decide)) ?_
  show Go p.tables e below _ (T2.setTop (mkF m 14 #[.val (.ref a1)] []))
  refine Go.by (fun _ => XS.iconst X2.here hx rfl (hb hby d4_14)) ?_
  show Go p.tables e below _ (T2.setTop (mkF m 15 #[.val (.ref a1)] [(.int (0 : Int32))]))
  exact Go.retN X2 hx hlk (z' := (0 : Int32)) hret (by simp) (hb hby d4_15) rfl (by decide) (by decide) ⟨rfl, rfl⟩
theorem d6_0 : decode jdk_37_method_2_code 0 = .ok (.aload_n 0, 1) := by decide +kernel
theorem d6_1 : decode jdk_37_method_2_code 1 = .ok (.getfield 7, 3) := by decide +kernel
theorem d6_4 : decode jdk_37_method_2_code 4 = .ok (.ireturn, 1) := by decide +kernel
abbrev Rm6 : Room := { frames := 0, cells := 0, slots := 0, locals := 0 }
theorem pn1 : plainName "java/lang/Enum" = true := by first | (simp [plainName, overriddenIn]; done) | decide +kernel
set_option maxRecDepth 65536 in
set_option maxHeartbeats 40000000 in
theorem rm6 (l : Launch) (Z : State) (a0 : Array Value) (hw : ∀ d ∈ tables_1, d.before a0 Z = true) (ws : List Jvm.Cond) (a1 : Addr) (o1 : Int32) (h0 : Heap) (n0 : Nat) (Z0 : n0 ≤ h0.size) (Fo : Fld Z h0 a1 "java/lang/Enum" "ordinal" "I" (.int o1)) :
    Met l Z n0 (⟨"java/lang/Enum", "ordinal", "()I"⟩ : MethodName) jdk_37_method_2_code 1 (some .int) ws Rm6 #[(.ref a1)] h0 (fun v h => v = some (.int o1) ∧ h0 = h) := by
  refine enter (Ls := #[.val (.ref a1)]) (plainFor_of_name pn1) (fun m => by first | rfl | (simp [entryFrame, mkF, argsToLocals, Value.category]; done)) ?_
  intro p e s m below meth c T0 hx hby hml hown hnm hret hlk hZ X0
  show Go p.tables e below _ (T0.setTop (mkF m 0 #[.val (.ref a1)] []))
  refine Go.by (fun _ => XS.aloadN X0.here hx rfl (hb hby d6_0) rfl rfl) ?_
  show Go p.tables e below _ (T0.setTop (mkF m 1 #[.val (.ref a1)] [(.ref a1)]))
  obtain ⟨T1, X1, st1⟩ := X0.getF hx hZ hown (host := "") (Or.inl (tw hw 39 rfl)) Via.refl Fo (g := (mkF m 1 #[.val (.ref a1)] [(.ref a1)])) rfl rfl (hb hby d6_1)
  refine Go.by st1 ?_
  show Go p.tables e below _ (T1.setTop (mkF m 4 #[.val (.ref a1)] [(.int o1)]))
  exact Go.retI X1 hx hlk hret (hb hby d6_4) (by decide) (by decide) ⟨rfl, rfl⟩
theorem d5_0 : decode prog_65_method_6_code 0 = .ok (.aload_n 0, 1) := by decide +kernel
theorem d5_1 : decode prog_65_method_6_code 1 = .ok (.getfield 7, 3) := by decide +kernel
theorem d5_4 : decode prog_65_method_6_code 4 = .ok (.invokevirtual 43, 3) := by decide +kernel
theorem pd1 : parseMethodDescriptor "()I" = some ⟨[], some .int⟩ := by decide +kernel
theorem d5_7 : decode prog_65_method_6_code 7 = .ok (.tableswitch 25 0 2 #[35, 39, 49], 25) := by decide +kernel
theorem d5_56 : decode prog_65_method_6_code 56 = .ok (.iload_n 2, 1) := by decide +kernel
theorem d5_57 : decode prog_65_method_6_code 57 = .ok (.aload_n 0, 1) := by decide +kernel
theorem d5_58 : decode prog_65_method_6_code 58 = .ok (.getfield 13, 3) := by decide +kernel
theorem d5_61 : decode prog_65_method_6_code 61 = .ok (.if_icmp .gt 7, 3) := by decide +kernel
theorem d5_68 : decode prog_65_method_6_code 68 = .ok (.iconst 0, 1) := by decide +kernel
theorem d5_69 : decode prog_65_method_6_code 69 = .ok (.ireturn, 1) := by decide +kernel
theorem d5_64 : decode prog_65_method_6_code 64 = .ok (.iconst 1, 1) := by decide +kernel
theorem d5_65 : decode prog_65_method_6_code 65 = .ok (.goto 4, 3) := by decide +kernel
abbrev Rm5 : Room := { frames := 1, cells := 0, slots := 0, locals := 12 }
set_option maxRecDepth 65536 in
set_option maxHeartbeats 40000000 in
theorem rm5 (l : Launch) (Z : State) (a0 : Array Value) (hw : ∀ d ∈ tables_1, d.before a0 Z = true) (ws : List Jvm.Cond) (a1 : Addr) (p2 : Int32) (lv : Int32) (a_DEEP_PLUS : Addr) (a_COMMIT_DEEP : Addr) (h0 : Heap) (n0 : Nat) (Z0 : n0 ≤ h0.size) (S_DEEP_PLUS : Sta Z h0 "com/example/istorie/istorie/ShadowScope$Kind" "DEEP_PLUS" "Lcom/example/istorie/istorie/ShadowScope$Kind;" (.ref a_DEEP_PLUS)) (E_DEEP_PLUS : Exa Z h0 a_DEEP_PLUS "com/example/istorie/istorie/ShadowScope$Kind") (S_COMMIT_DEEP : Sta Z h0 "com/example/istorie/istorie/ShadowScope$Kind" "COMMIT_DEEP" "Lcom/example/istorie/istorie/ShadowScope$Kind;" (.ref a_COMMIT_DEEP)) (E_COMMIT_DEEP : Exa Z h0 a_COMMIT_DEEP "com/example/istorie/istorie/ShadowScope$Kind") (F_DEEP_PLUS_ordinal : Fld Z h0 a_DEEP_PLUS "java/lang/Enum" "ordinal" "I" (.int (2 : Int32))) (F_COMMIT_DEEP_ordinal : Fld Z h0 a_COMMIT_DEEP "java/lang/Enum" "ordinal" "I" (.int (1 : Int32))) (Fk : Fld Z h0 a1 "com/example/istorie/istorie/ShadowScope" "kind" "Lcom/example/istorie/istorie/ShadowScope$Kind;" (.ref a_DEEP_PLUS)) (Fl : Fld Z h0 a1 "com/example/istorie/istorie/ShadowScope" "levels" "I" (.int lv)) :
    Met l Z n0 (⟨"com/example/istorie/istorie/ShadowScope", "follows", "(Lcom/example/istorie/istorie/EntityId;ILjava/util/Set;)Z"⟩ : MethodName) prog_65_method_6_code 4 (some .boolean) ws Rm5 #[(.ref a1), .null, (.int p2), .null] h0 (fun v h => ((lv < p2 ∧ v = some (.int 0)) ∨ (¬ lv < p2 ∧ v = some (.int 1))) ∧ h0 = h) := by
  refine enter (Ls := #[.val (.ref a1), .val .null, .val (.int p2), .val .null]) (plainFor_of_name pn0) (fun m => by first | rfl | (simp [entryFrame, mkF, argsToLocals, Value.category]; done)) ?_
  intro p e s m below meth c T0 hx hby hml hown hnm hret hlk hZ X0
  show Go p.tables e below _ (T0.setTop (mkF m 0 #[.val (.ref a1), .val .null, .val (.int p2), .val .null] []))
  refine Go.by (fun _ => XS.aloadN X0.here hx rfl (hb hby d5_0) rfl rfl) ?_
  show Go p.tables e below _ (T0.setTop (mkF m 1 #[.val (.ref a1), .val .null, .val (.int p2), .val .null] [(.ref a1)]))
  obtain ⟨T1, X1, st1⟩ := X0.getF hx hZ hown (host := "") (Or.inl (tw hw 16 rfl)) Via.refl Fk (g := (mkF m 1 #[.val (.ref a1), .val .null, .val (.int p2), .val .null] [(.ref a1)])) rfl rfl (hb hby d5_1)
  refine Go.by st1 ?_
  show Go p.tables e below _ (T1.setTop (mkF m 4 #[.val (.ref a1), .val .null, .val (.int p2), .val .null] [(.ref a_DEEP_PLUS)]))
  obtain ⟨v2, T2, h2, X2, q2, st2⟩ := X1.callU hx hZ (y := (⟨"com/example/istorie/istorie/ShadowScope$Kind", "ordinal", "()I"⟩ : MethodName)) (z := (⟨"java/lang/Enum", "ordinal", "()I"⟩ : MethodName)) hown (tw hw 32 rfl) (tw hw 33 rfl) (tw hw 34 rfl) (by decide) (tw hw 36 rfl) (tw hw 35 rfl) (tw hw 37 rfl) (tw hw 38 rfl) (rm6 l Z a0 hw [] a_DEEP_PLUS (2 : Int32) h0 n0 Z0 F_DEEP_PLUS_ordinal) E_DEEP_PLUS (g := (mkF m 4 #[.val (.ref a1), .val .null, .val (.int p2), .val .null] [(.ref a_DEEP_PLUS)])) rfl (by rw [hml]; rfl) (argsL := []) (rest := []) (lenOf pd1 rfl) rfl (hb hby d5_4) rfl (by decide) (Nat.le_of_ble_eq_true rfl) (k' := 0) (n' := 0) rfl rfl (by decide) (by decide)
  refine Go.by st2 ?_
  obtain ⟨rfl, rfl⟩ := q2
  show Go p.tables e below _ (T2.setTop (mkF m 7 #[.val (.ref a1), .val .null, .val (.int p2), .val .null] [(.int (2 : Int32))]))
  have zi3 : ¬ ((2 : Int32).toInt < 0 ∨ (2 : Int32).toInt > 2) := by decide +kernel
  have zo3 : (#[35, 39, 49] : Array Int)[((2 : Int32).toInt - 0).toNat]? = some 49 := by decide +kernel
  have zd3 := (hb hby d5_7)
  refine Go.by (fun _ => XS.tswIn (g := (mkF m 7 #[.val (.ref a1), .val .null, .val (.int p2), .val .null] [(.int (2 : Int32))])) X2.here hx rfl (pc0 := 7) (pc' := 56) rfl zd3 rfl zi3 zo3 (by decide) (by decide)) ?_
  show Go p.tables e below _ (T2.setTop (mkF m 56 #[.val (.ref a1), .val .null, .val (.int p2), .val .null] []))
  refine Go.by (fun _ => XS.iloadN X2.here hx rfl (hb hby d5_56) rfl) ?_
  show Go p.tables e below _ (T2.setTop (mkF m 57 #[.val (.ref a1), .val .null, .val (.int p2), .val .null] [(.int p2)]))
  refine Go.by (fun _ => XS.aloadN X2.here hx rfl (hb hby d5_57) rfl rfl) ?_
  show Go p.tables e below _ (T2.setTop (mkF m 58 #[.val (.ref a1), .val .null, .val (.int p2), .val .null] [(.ref a1), (.int p2)]))
  obtain ⟨T4, X4, st4⟩ := X2.getF hx hZ hown (host := "") (Or.inl (tw hw 18 rfl)) Via.refl Fl (g := (mkF m 58 #[.val (.ref a1), .val .null, .val (.int p2), .val .null] [(.ref a1), (.int p2)])) rfl rfl (hb hby d5_58)
  refine Go.by st4 ?_
  show Go p.tables e below _ (T4.setTop (mkF m 61 #[.val (.ref a1), .val .null, .val (.int p2), .val .null] [(.int lv), (.int p2)]))
  by_cases hc61_5 : lv < p2
  · skip
    refine Go.by (fun _ => XS.icmpYes X4.here hx rfl (pc0 := 61) (pc' := 68) rfl (hb hby d5_61) rfl (tlt hc61_5).2.2.1 (by decide) (by decide)) ?_
    show Go p.tables e below _ (T4.setTop (mkF m 68 #[.val (.ref a1), .val .null, .val (.int p2), .val .null] []))
    refine Go.by (fun _ => XS.iconst X4.here hx rfl (hb hby d5_68)) ?_
    show Go p.tables e below _ (T4.setTop (mkF m 69 #[.val (.ref a1), .val .null, .val (.int p2), .val .null] [(.int (0 : Int32))]))
    exact Go.retN X4 hx hlk (z' := (0 : Int32)) hret (by simp) (hb hby d5_69) rfl (by decide) (by decide) ⟨Or.inl ⟨hc61_5, rfl⟩, rfl⟩
  · skip
    refine Go.by (fun _ => XS.icmpNo X4.here hx rfl (hb hby d5_61) rfl (flt hc61_5).2.2.1) ?_
    show Go p.tables e below _ (T4.setTop (mkF m 64 #[.val (.ref a1), .val .null, .val (.int p2), .val .null] []))
    refine Go.by (fun _ => XS.iconst X4.here hx rfl (hb hby d5_64)) ?_
    show Go p.tables e below _ (T4.setTop (mkF m 65 #[.val (.ref a1), .val .null, .val (.int p2), .val .null] [(.int (1 : Int32))]))
    refine Go.by (fun _ => XS.goto X4.here hx rfl (pc0 := 65) (pc' := 69) rfl (hb hby d5_65) (by decide) (by decide)) ?_
    show Go p.tables e below _ (T4.setTop (mkF m 69 #[.val (.ref a1), .val .null, .val (.int p2), .val .null] [(.int (1 : Int32))]))
    exact Go.retN X4 hx hlk (z' := (1 : Int32)) hret (by simp) (hb hby d5_69) rfl (by decide) (by decide) ⟨Or.inr ⟨hc61_5, rfl⟩, rfl⟩
theorem pd2 : parseMethodDescriptor "(I)Lcom/example/istorie/istorie/ShadowScope;" = some ⟨[.int], some (.object "com/example/istorie/istorie/ShadowScope")⟩ := by decide +kernel
theorem pd3 : parseMethodDescriptor "()Z" = some ⟨[], some .boolean⟩ := by decide +kernel
theorem pd4 : parseMethodDescriptor "(Lcom/example/istorie/istorie/EntityId;ILjava/util/Set;)Z" = some ⟨[(.object "com/example/istorie/istorie/EntityId"), .int, (.object "java/util/Set")], some .boolean⟩ := by decide +kernel
theorem pn2 : plainName "com/example/istorie/istorie/ShadowScopeDeepPlusPinLaw" = true := by first | (simp [plainName, overriddenIn]; done) | decide +kernel
set_option maxRecDepth 65536 in
set_option maxHeartbeats 40000000 in
theorem rm0 (l : Launch) (Z : State) (a0 : Array Value) (hw : ∀ d ∈ tables_1, d.before a0 Z = true) (ws : List Jvm.Cond) (p0 : Int32) (p1 : Int32) (a_DEEP_PLUS : Addr) (a_COMMIT_DEEP : Addr) (h0 : Heap) (n0 : Nat) (Z0 : n0 ≤ h0.size) (S_DEEP_PLUS : Sta Z h0 "com/example/istorie/istorie/ShadowScope$Kind" "DEEP_PLUS" "Lcom/example/istorie/istorie/ShadowScope$Kind;" (.ref a_DEEP_PLUS)) (E_DEEP_PLUS : Exa Z h0 a_DEEP_PLUS "com/example/istorie/istorie/ShadowScope$Kind") (S_COMMIT_DEEP : Sta Z h0 "com/example/istorie/istorie/ShadowScope$Kind" "COMMIT_DEEP" "Lcom/example/istorie/istorie/ShadowScope$Kind;" (.ref a_COMMIT_DEEP)) (E_COMMIT_DEEP : Exa Z h0 a_COMMIT_DEEP "com/example/istorie/istorie/ShadowScope$Kind") (F_DEEP_PLUS_ordinal : Fld Z h0 a_DEEP_PLUS "java/lang/Enum" "ordinal" "I" (.int (2 : Int32))) (F_COMMIT_DEEP_ordinal : Fld Z h0 a_COMMIT_DEEP "java/lang/Enum" "ordinal" "I" (.int (1 : Int32))) :
    Met l Z n0 x code maxLocals ret ws room_1 #[(.int p0), (.int p1)] h0 (fun v h => v = some (.int 1)) := by
  refine enter (Ls := #[.val (.int p0), .val (.int p1), .unset, .unset]) (plainFor_of_name pn2) (fun m => by first | rfl | (simp [entryFrame, mkF, argsToLocals, Value.category, maxLocals]; done)) ?_
  intro p e s m below meth c T0 hx hby hml hown hnm hret hlk hZ X0
  show Go p.tables e below _ (T0.setTop (mkF m 0 #[.val (.int p0), .val (.int p1), .unset, .unset] []))
  refine Go.by (fun _ => XS.iloadN X0.here hx rfl (hb hby at_0) rfl) ?_
  show Go p.tables e below _ (T0.setTop (mkF m 1 #[.val (.int p0), .val (.int p1), .unset, .unset] [(.int p0)]))
  refine Go.by (X0.ldcInt hx hZ hown (tw hw 0 rfl) (g := (mkF m 1 #[.val (.int p0), .val (.int p1), .unset, .unset] [(.int p0)])) rfl (hb hby at_1)) ?_
  show Go p.tables e below _ (T0.setTop (mkF m 3 #[.val (.int p0), .val (.int p1), .unset, .unset] [(.int (2147483647 : Int32)), (.int p0)]))
  refine Go.by (fun _ => XS.iand X0.here hx rfl (hb hby at_3) rfl) ?_
  show Go p.tables e below _ (T0.setTop (mkF m 4 #[.val (.int p0), .val (.int p1), .unset, .unset] [(.int (p0 &&& (2147483647 : Int32)))]))
  refine Go.by (fun _ => XS.istoreN X0.here hx rfl (hb hby at_4) rfl (l' := #[.val (.int p0), .val (.int p1), .val (.int (p0 &&& (2147483647 : Int32))), .unset]) rfl) ?_
  show Go p.tables e below _ (T0.setTop (mkF m 5 #[.val (.int p0), .val (.int p1), .val (.int (p0 &&& (2147483647 : Int32))), .unset] []))
  refine Go.by (fun _ => XS.iloadN X0.here hx rfl (hb hby at_5) rfl) ?_
  show Go p.tables e below _ (T0.setTop (mkF m 6 #[.val (.int p0), .val (.int p1), .val (.int (p0 &&& (2147483647 : Int32))), .unset] [(.int (p0 &&& (2147483647 : Int32)))]))
  have J1 : ∀ (Tj1 : State), Sd n0 p l e room_1 s m #[(.int p0), (.int p1)] below meth c Tj1 h0 0 0 → ∀ (lv : Int32), ¬ lv < 1 → Go p.tables e below (Ret s n0 (fun v h => v = some (.int 1)) room_1.cells room_1.slots) (Tj1.setTop (mkF m 11 #[.val (.int p0), .val (.int p1), .val (.int lv), .unset] [])) := by
    intro Tj1 Xj1 lv hj1
    refine Go.by (fun _ => XS.iloadN Xj1.here hx rfl (hb hby at_11) rfl) ?_
    show Go p.tables e below _ (Tj1.setTop (mkF m 12 #[.val (.int p0), .val (.int p1), .val (.int lv), .unset] [(.int lv)]))
    obtain ⟨v2, T2, h2, X2, q2, st2⟩ := Xj1.callS hx hZ (y := (⟨"com/example/istorie/istorie/ShadowScope", "deepPlus", "(I)Lcom/example/istorie/istorie/ShadowScope;"⟩ : MethodName)) hown (tw hw 1 rfl) (tw hw 2 rfl) (tw hw 3 rfl) (tw hw 4 rfl) (by decide) (rm1 l Z a0 hw [] lv a_DEEP_PLUS a_COMMIT_DEEP h0 n0 Z0 S_DEEP_PLUS E_DEEP_PLUS S_COMMIT_DEEP E_COMMIT_DEEP F_DEEP_PLUS_ordinal F_COMMIT_DEEP_ordinal hj1) (g := (mkF m 12 #[.val (.int p0), .val (.int p1), .val (.int lv), .unset] [(.int lv)])) rfl (by rw [hml]; rfl) (argsL := [(.int lv)]) (rest := []) (lenOf pd2 rfl) rfl (hb hby at_12) rfl (by decide) (Nat.le_of_ble_eq_true rfl) (k' := 1) (n' := 2) rfl rfl (by decide) (by decide)
    refine Go.by st2 ?_
    obtain ⟨r2, rfl, sr2, K2, Ex2, Fk2, Fl2⟩ := q2
    have g_r2 : n0 ≤ r2 := Nat.le_trans Z0 sr2
    have ne_a_DEEP_PLUS_r2 : a_DEEP_PLUS ≠ r2 := Nat.ne_of_lt (Nat.lt_of_lt_of_le E_DEEP_PLUS.lt sr2)
    have ne_a_COMMIT_DEEP_r2 : a_COMMIT_DEEP ≠ r2 := Nat.ne_of_lt (Nat.lt_of_lt_of_le E_COMMIT_DEEP.lt sr2)
    have f3_21 := S_DEEP_PLUS.ext (keep_ext K2)
    have f3_22 := E_DEEP_PLUS.ext (keep_ext K2)
    have f3_23 := S_COMMIT_DEEP.ext (keep_ext K2)
    have f3_24 := E_COMMIT_DEEP.ext (keep_ext K2)
    have f3_25 := F_DEEP_PLUS_ordinal.ext (keep_ext K2)
    have f3_26 := F_COMMIT_DEEP_ordinal.ext (keep_ext K2)
    have Zs3 : n0 ≤ h2.size := Nat.le_trans Z0 (keep_ext K2).1
    show Go p.tables e below _ (T2.setTop (mkF m 15 #[.val (.int p0), .val (.int p1), .val (.int lv), .unset] [(.ref r2)]))
    refine Go.by (fun _ => XS.astoreN X2.here hx rfl (hb hby at_15) rfl rfl (l' := #[.val (.int p0), .val (.int p1), .val (.int lv), .val (.ref r2)]) rfl) ?_
    show Go p.tables e below _ (T2.setTop (mkF m 16 #[.val (.int p0), .val (.int p1), .val (.int lv), .val (.ref r2)] []))
    refine Go.by (fun _ => XS.aloadN X2.here hx rfl (hb hby at_16) rfl rfl) ?_
    show Go p.tables e below _ (T2.setTop (mkF m 17 #[.val (.int p0), .val (.int p1), .val (.int lv), .val (.ref r2)] [(.ref r2)]))
    refine Go.by (fun _ => XS.ifnonnullYes X2.here hx rfl (pc0 := 17) (pc' := 22) rfl (hb hby at_17) rfl (by decide) (by decide)) ?_
    show Go p.tables e below _ (T2.setTop (mkF m 22 #[.val (.int p0), .val (.int p1), .val (.int lv), .val (.ref r2)] []))
    refine Go.by (fun _ => XS.aloadN X2.here hx rfl (hb hby at_22) rfl rfl) ?_
    show Go p.tables e below _ (T2.setTop (mkF m 23 #[.val (.int p0), .val (.int p1), .val (.int lv), .val (.ref r2)] [(.ref r2)]))
    obtain ⟨v4, T4, h4, X4, q4, st4⟩ := X2.callV hx hZ (y := (⟨"com/example/istorie/istorie/ShadowScope", "needsEntitiesOfShadowCommits", "()Z"⟩ : MethodName)) (z := (⟨"com/example/istorie/istorie/ShadowScope", "needsEntitiesOfShadowCommits", "()Z"⟩ : MethodName)) hown (tw hw 20 rfl) (tw hw 21 rfl) (notFace_of_selects (args := #[]) (mvT hZ (tw hw 23 rfl))) (tw hw 23 rfl) (tw hw 22 rfl) (tw hw 3 rfl) (tw hw 24 rfl) (by decide) (rm4 l Z a0 hw [] r2 a_DEEP_PLUS a_COMMIT_DEEP h2 n0 Zs3 f3_21 f3_22 f3_23 f3_24 f3_25 f3_26 Fk2) Ex2 (g := (mkF m 23 #[.val (.int p0), .val (.int p1), .val (.int lv), .val (.ref r2)] [(.ref r2)])) rfl (by rw [hml]; rfl) (argsL := []) (rest := []) (lenOf pd3 rfl) rfl (hb hby at_23) rfl (by decide) (Nat.le_of_ble_eq_true rfl) (k' := 1) (n' := 2) rfl rfl (by decide) (by decide)
    refine Go.by st4 ?_
    obtain ⟨rfl, rfl⟩ := q4
    show Go p.tables e below _ (T4.setTop (mkF m 26 #[.val (.int p0), .val (.int p1), .val (.int lv), .val (.ref r2)] [(.int (0 : Int32))]))
    refine Go.by (fun _ => XS.ifYes X4.here hx rfl (pc0 := 26) (pc' := 31) rfl (hb hby at_26) rfl ((if0 _ _).trans (teq (by decide)).1) (by decide) (by decide)) ?_
    show Go p.tables e below _ (T4.setTop (mkF m 31 #[.val (.int p0), .val (.int p1), .val (.int lv), .val (.ref r2)] []))
    refine Go.by (fun _ => XS.aloadN X4.here hx rfl (hb hby at_31) rfl rfl) ?_
    show Go p.tables e below _ (T4.setTop (mkF m 32 #[.val (.int p0), .val (.int p1), .val (.int lv), .val (.ref r2)] [(.ref r2)]))
    refine Go.by (fun _ => XS.aconstNull X4.here hx rfl (hb hby at_32)) ?_
    show Go p.tables e below _ (T4.setTop (mkF m 33 #[.val (.int p0), .val (.int p1), .val (.int lv), .val (.ref r2)] [.null, (.ref r2)]))
    refine Go.by (fun _ => XS.iloadN X4.here hx rfl (hb hby at_33) rfl) ?_
    show Go p.tables e below _ (T4.setTop (mkF m 34 #[.val (.int p0), .val (.int p1), .val (.int lv), .val (.ref r2)] [(.int p1), .null, (.ref r2)]))
    refine Go.by (fun _ => XS.aconstNull X4.here hx rfl (hb hby at_34)) ?_
    show Go p.tables e below _ (T4.setTop (mkF m 35 #[.val (.int p0), .val (.int p1), .val (.int lv), .val (.ref r2)] [.null, (.int p1), .null, (.ref r2)]))
    obtain ⟨v5, T5, h5, X5, q5, st5⟩ := X4.callV hx hZ (y := (⟨"com/example/istorie/istorie/ShadowScope", "follows", "(Lcom/example/istorie/istorie/EntityId;ILjava/util/Set;)Z"⟩ : MethodName)) (z := (⟨"com/example/istorie/istorie/ShadowScope", "follows", "(Lcom/example/istorie/istorie/EntityId;ILjava/util/Set;)Z"⟩ : MethodName)) hown (tw hw 27 rfl) (tw hw 28 rfl) (notFace_of_selects (args := #[]) (mvT hZ (tw hw 30 rfl))) (tw hw 30 rfl) (tw hw 29 rfl) (tw hw 3 rfl) (tw hw 31 rfl) (by decide) (rm5 l Z a0 hw [] r2 p1 lv a_DEEP_PLUS a_COMMIT_DEEP h2 n0 Zs3 f3_21 f3_22 f3_23 f3_24 f3_25 f3_26 Fk2 Fl2) Ex2 (g := (mkF m 35 #[.val (.int p0), .val (.int p1), .val (.int lv), .val (.ref r2)] [.null, (.int p1), .null, (.ref r2)])) rfl (by rw [hml]; rfl) (argsL := [.null, (.int p1), .null]) (rest := []) (lenOf pd4 rfl) rfl (hb hby at_35) rfl (by decide) (Nat.le_of_ble_eq_true rfl) (k' := 1) (n' := 2) rfl rfl (by decide) (by decide)
    refine Go.by st5 ?_
    rcases q5 with ⟨⟨hf5, rfl⟩ | ⟨hf5, rfl⟩, rfl⟩
    · skip
      show Go p.tables e below _ (T5.setTop (mkF m 38 #[.val (.int p0), .val (.int p1), .val (.int lv), .val (.ref r2)] [(.int (0 : Int32))]))
      refine Go.by (fun _ => XS.iloadN X5.here hx rfl (hb hby at_38) rfl) ?_
      show Go p.tables e below _ (T5.setTop (mkF m 39 #[.val (.int p0), .val (.int p1), .val (.int lv), .val (.ref r2)] [(.int p1), (.int (0 : Int32))]))
      refine Go.by (fun _ => XS.iloadN X5.here hx rfl (hb hby at_39) rfl) ?_
      show Go p.tables e below _ (T5.setTop (mkF m 40 #[.val (.int p0), .val (.int p1), .val (.int lv), .val (.ref r2)] [(.int lv), (.int p1), (.int (0 : Int32))]))
      by_cases hc40_6 : lv < p1
      · skip
        refine Go.by (fun _ => XS.icmpYes X5.here hx rfl (pc0 := 40) (pc' := 47) rfl (hb hby at_40) rfl (tlt hc40_6).2.2.1 (by decide) (by decide)) ?_
        show Go p.tables e below _ (T5.setTop (mkF m 47 #[.val (.int p0), .val (.int p1), .val (.int lv), .val (.ref r2)] [(.int (0 : Int32))]))
        refine Go.by (fun _ => XS.iconst X5.here hx rfl (hb hby at_47)) ?_
        show Go p.tables e below _ (T5.setTop (mkF m 48 #[.val (.int p0), .val (.int p1), .val (.int lv), .val (.ref r2)] [(.int (0 : Int32)), (.int (0 : Int32))]))
        refine Go.by (fun _ => XS.icmpYes X5.here hx rfl (pc0 := 48) (pc' := 53) rfl (hb hby at_48) rfl (teq (by decide)).1 (by decide) (by decide)) ?_
        show Go p.tables e below _ (T5.setTop (mkF m 53 #[.val (.int p0), .val (.int p1), .val (.int lv), .val (.ref r2)] []))
        refine Go.by (fun _ => XS.aloadN X5.here hx rfl (hb hby at_53) rfl rfl) ?_
        show Go p.tables e below _ (T5.setTop (mkF m 54 #[.val (.int p0), .val (.int p1), .val (.int lv), .val (.ref r2)] [(.ref r2)]))
        refine Go.by (fun _ => XS.aconstNull X5.here hx rfl (hb hby at_54)) ?_
        show Go p.tables e below _ (T5.setTop (mkF m 55 #[.val (.int p0), .val (.int p1), .val (.int lv), .val (.ref r2)] [.null, (.ref r2)]))
        refine Go.by (fun _ => XS.iloadN X5.here hx rfl (hb hby at_55) rfl) ?_
        show Go p.tables e below _ (T5.setTop (mkF m 56 #[.val (.int p0), .val (.int p1), .val (.int lv), .val (.ref r2)] [(.int lv), .null, (.ref r2)]))
        refine Go.by (fun _ => XS.aconstNull X5.here hx rfl (hb hby at_56)) ?_
        show Go p.tables e below _ (T5.setTop (mkF m 57 #[.val (.int p0), .val (.int p1), .val (.int lv), .val (.ref r2)] [.null, (.int lv), .null, (.ref r2)]))
        obtain ⟨v7, T7, h7, X7, q7, st7⟩ := X5.callV hx hZ (y := (⟨"com/example/istorie/istorie/ShadowScope", "follows", "(Lcom/example/istorie/istorie/EntityId;ILjava/util/Set;)Z"⟩ : MethodName)) (z := (⟨"com/example/istorie/istorie/ShadowScope", "follows", "(Lcom/example/istorie/istorie/EntityId;ILjava/util/Set;)Z"⟩ : MethodName)) hown (tw hw 27 rfl) (tw hw 28 rfl) (notFace_of_selects (args := #[]) (mvT hZ (tw hw 30 rfl))) (tw hw 30 rfl) (tw hw 29 rfl) (tw hw 3 rfl) (tw hw 31 rfl) (by decide) (rm5 l Z a0 hw [] r2 lv lv a_DEEP_PLUS a_COMMIT_DEEP h2 n0 Zs3 f3_21 f3_22 f3_23 f3_24 f3_25 f3_26 Fk2 Fl2) Ex2 (g := (mkF m 57 #[.val (.int p0), .val (.int p1), .val (.int lv), .val (.ref r2)] [.null, (.int lv), .null, (.ref r2)])) rfl (by rw [hml]; rfl) (argsL := [.null, (.int lv), .null]) (rest := []) (lenOf pd4 rfl) rfl (hb hby at_57) rfl (by decide) (Nat.le_of_ble_eq_true rfl) (k' := 1) (n' := 2) rfl rfl (by decide) (by decide)
        refine Go.by st7 ?_
        rcases q7 with ⟨⟨hf7, rfl⟩ | ⟨hf7, rfl⟩, rfl⟩
        · skip
          show Go p.tables e below _ (T7.setTop (mkF m 60 #[.val (.int p0), .val (.int p1), .val (.int lv), .val (.ref r2)] [(.int (0 : Int32))]))
          refine Go.by (fun _ => XS.ifNo X7.here hx rfl (hb hby at_60) rfl ((if0 _ _).trans (teq (by decide)).2)) ?_
          show Go p.tables e below _ (T7.setTop (mkF m 63 #[.val (.int p0), .val (.int p1), .val (.int lv), .val (.ref r2)] []))
          refine Go.by (fun _ => XS.iconst X7.here hx rfl (hb hby at_63)) ?_
          show Go p.tables e below _ (T7.setTop (mkF m 64 #[.val (.int p0), .val (.int p1), .val (.int lv), .val (.ref r2)] [(.int (0 : Int32))]))
          refine Go.retN X7 hx hlk (z' := (0 : Int32)) hret (by simp) (hb hby at_64) rfl (by decide) (by decide) ?_
          exfalso
          have q1 := c_iadd lv 1
          have q2 := rng32 (lv + 1)
          have q3 := rng32 lv
          simp only [Int32.lt_iff_toInt_lt, ← Int32.toInt_inj, Int32.reduceToInt] at hj1 hf5 hc40_6 hf7 q1
          omega
        · skip
          show Go p.tables e below _ (T7.setTop (mkF m 60 #[.val (.int p0), .val (.int p1), .val (.int lv), .val (.ref r2)] [(.int (1 : Int32))]))
          refine Go.by (fun _ => XS.ifYes X7.here hx rfl (pc0 := 60) (pc' := 65) rfl (hb hby at_60) rfl ((if0 _ _).trans (feq (by decide)).2) (by decide) (by decide)) ?_
          show Go p.tables e below _ (T7.setTop (mkF m 65 #[.val (.int p0), .val (.int p1), .val (.int lv), .val (.ref r2)] []))
          refine Go.by (fun _ => XS.iloadN X7.here hx rfl (hb hby at_65) rfl) ?_
          show Go p.tables e below _ (T7.setTop (mkF m 66 #[.val (.int p0), .val (.int p1), .val (.int lv), .val (.ref r2)] [(.int lv)]))
          refine Go.by (X7.ldcInt hx hZ hown (tw hw 0 rfl) (g := (mkF m 66 #[.val (.int p0), .val (.int p1), .val (.int lv), .val (.ref r2)] [(.int lv)])) rfl (hb hby at_66)) ?_
          show Go p.tables e below _ (T7.setTop (mkF m 68 #[.val (.int p0), .val (.int p1), .val (.int lv), .val (.ref r2)] [(.int (2147483647 : Int32)), (.int lv)]))
          by_cases hc68_8 : lv < (2147483647 : Int32)
          · skip
            refine Go.by (fun _ => XS.icmpNo X7.here hx rfl (hb hby at_68) rfl (tlt hc68_8).2.1) ?_
            show Go p.tables e below _ (T7.setTop (mkF m 71 #[.val (.int p0), .val (.int p1), .val (.int lv), .val (.ref r2)] []))
            refine Go.by (fun _ => XS.aloadN X7.here hx rfl (hb hby at_71) rfl rfl) ?_
            show Go p.tables e below _ (T7.setTop (mkF m 72 #[.val (.int p0), .val (.int p1), .val (.int lv), .val (.ref r2)] [(.ref r2)]))
            refine Go.by (fun _ => XS.aconstNull X7.here hx rfl (hb hby at_72)) ?_
            show Go p.tables e below _ (T7.setTop (mkF m 73 #[.val (.int p0), .val (.int p1), .val (.int lv), .val (.ref r2)] [.null, (.ref r2)]))
            refine Go.by (fun _ => XS.iloadN X7.here hx rfl (hb hby at_73) rfl) ?_
            show Go p.tables e below _ (T7.setTop (mkF m 74 #[.val (.int p0), .val (.int p1), .val (.int lv), .val (.ref r2)] [(.int lv), .null, (.ref r2)]))
            refine Go.by (fun _ => XS.iconst X7.here hx rfl (hb hby at_74)) ?_
            show Go p.tables e below _ (T7.setTop (mkF m 75 #[.val (.int p0), .val (.int p1), .val (.int lv), .val (.ref r2)] [(.int (1 : Int32)), (.int lv), .null, (.ref r2)]))
            refine Go.by (fun _ => XS.iadd X7.here hx rfl (hb hby at_75) rfl) ?_
            show Go p.tables e below _ (T7.setTop (mkF m 76 #[.val (.int p0), .val (.int p1), .val (.int lv), .val (.ref r2)] [(.int (lv + (1 : Int32))), .null, (.ref r2)]))
            refine Go.by (fun _ => XS.aconstNull X7.here hx rfl (hb hby at_76)) ?_
            show Go p.tables e below _ (T7.setTop (mkF m 77 #[.val (.int p0), .val (.int p1), .val (.int lv), .val (.ref r2)] [.null, (.int (lv + (1 : Int32))), .null, (.ref r2)]))
            obtain ⟨v9, T9, h9, X9, q9, st9⟩ := X7.callV hx hZ (y := (⟨"com/example/istorie/istorie/ShadowScope", "follows", "(Lcom/example/istorie/istorie/EntityId;ILjava/util/Set;)Z"⟩ : MethodName)) (z := (⟨"com/example/istorie/istorie/ShadowScope", "follows", "(Lcom/example/istorie/istorie/EntityId;ILjava/util/Set;)Z"⟩ : MethodName)) hown (tw hw 27 rfl) (tw hw 28 rfl) (notFace_of_selects (args := #[]) (mvT hZ (tw hw 30 rfl))) (tw hw 30 rfl) (tw hw 29 rfl) (tw hw 3 rfl) (tw hw 31 rfl) (by decide) (rm5 l Z a0 hw [] r2 (lv + (1 : Int32)) lv a_DEEP_PLUS a_COMMIT_DEEP h2 n0 Zs3 f3_21 f3_22 f3_23 f3_24 f3_25 f3_26 Fk2 Fl2) Ex2 (g := (mkF m 77 #[.val (.int p0), .val (.int p1), .val (.int lv), .val (.ref r2)] [.null, (.int (lv + (1 : Int32))), .null, (.ref r2)])) rfl (by rw [hml]; rfl) (argsL := [.null, (.int (lv + (1 : Int32))), .null]) (rest := []) (lenOf pd4 rfl) rfl (hb hby at_77) rfl (by decide) (Nat.le_of_ble_eq_true rfl) (k' := 1) (n' := 2) rfl rfl (by decide) (by decide)
            refine Go.by st9 ?_
            rcases q9 with ⟨⟨hf9, rfl⟩ | ⟨hf9, rfl⟩, rfl⟩
            · skip
              show Go p.tables e below _ (T9.setTop (mkF m 80 #[.val (.int p0), .val (.int p1), .val (.int lv), .val (.ref r2)] [(.int (0 : Int32))]))
              refine Go.by (fun _ => XS.ifYes X9.here hx rfl (pc0 := 80) (pc' := 85) rfl (hb hby at_80) rfl ((if0 _ _).trans (teq (by decide)).1) (by decide) (by decide)) ?_
              show Go p.tables e below _ (T9.setTop (mkF m 85 #[.val (.int p0), .val (.int p1), .val (.int lv), .val (.ref r2)] []))
              refine Go.by (fun _ => XS.iconst X9.here hx rfl (hb hby at_85)) ?_
              show Go p.tables e below _ (T9.setTop (mkF m 86 #[.val (.int p0), .val (.int p1), .val (.int lv), .val (.ref r2)] [(.int (1 : Int32))]))
              exact Go.retN X9 hx hlk (z' := (1 : Int32)) hret (by simp) (hb hby at_86) rfl (by decide) (by decide) rfl
            · skip
              show Go p.tables e below _ (T9.setTop (mkF m 80 #[.val (.int p0), .val (.int p1), .val (.int lv), .val (.ref r2)] [(.int (1 : Int32))]))
              refine Go.by (fun _ => XS.ifNo X9.here hx rfl (hb hby at_80) rfl ((if0 _ _).trans (feq (by decide)).1)) ?_
              show Go p.tables e below _ (T9.setTop (mkF m 83 #[.val (.int p0), .val (.int p1), .val (.int lv), .val (.ref r2)] []))
              refine Go.by (fun _ => XS.iconst X9.here hx rfl (hb hby at_83)) ?_
              show Go p.tables e below _ (T9.setTop (mkF m 84 #[.val (.int p0), .val (.int p1), .val (.int lv), .val (.ref r2)] [(.int (0 : Int32))]))
              refine Go.retN X9 hx hlk (z' := (0 : Int32)) hret (by simp) (hb hby at_84) rfl (by decide) (by decide) ?_
              exfalso
              have q1 := c_iadd lv 1
              have q2 := rng32 (lv + 1)
              have q3 := rng32 lv
              simp only [Int32.lt_iff_toInt_lt, ← Int32.toInt_inj, Int32.reduceToInt] at hj1 hf5 hc40_6 hf7 hc68_8 hf9 q1
              omega
          · skip
            refine Go.by (fun _ => XS.icmpYes X7.here hx rfl (pc0 := 68) (pc' := 85) rfl (hb hby at_68) rfl (flt hc68_8).2.1 (by decide) (by decide)) ?_
            show Go p.tables e below _ (T7.setTop (mkF m 85 #[.val (.int p0), .val (.int p1), .val (.int lv), .val (.ref r2)] []))
            refine Go.by (fun _ => XS.iconst X7.here hx rfl (hb hby at_85)) ?_
            show Go p.tables e below _ (T7.setTop (mkF m 86 #[.val (.int p0), .val (.int p1), .val (.int lv), .val (.ref r2)] [(.int (1 : Int32))]))
            exact Go.retN X7 hx hlk (z' := (1 : Int32)) hret (by simp) (hb hby at_86) rfl (by decide) (by decide) rfl
      · skip
        refine Go.by (fun _ => XS.icmpNo X5.here hx rfl (hb hby at_40) rfl (flt hc40_6).2.2.1) ?_
        show Go p.tables e below _ (T5.setTop (mkF m 43 #[.val (.int p0), .val (.int p1), .val (.int lv), .val (.ref r2)] [(.int (0 : Int32))]))
        refine Go.by (fun _ => XS.iconst X5.here hx rfl (hb hby at_43)) ?_
        show Go p.tables e below _ (T5.setTop (mkF m 44 #[.val (.int p0), .val (.int p1), .val (.int lv), .val (.ref r2)] [(.int (1 : Int32)), (.int (0 : Int32))]))
        refine Go.by (fun _ => XS.goto X5.here hx rfl (pc0 := 44) (pc' := 48) rfl (hb hby at_44) (by decide) (by decide)) ?_
        show Go p.tables e below _ (T5.setTop (mkF m 48 #[.val (.int p0), .val (.int p1), .val (.int lv), .val (.ref r2)] [(.int (1 : Int32)), (.int (0 : Int32))]))
        refine Go.by (fun _ => XS.icmpNo X5.here hx rfl (hb hby at_48) rfl (feq (by decide)).1) ?_
        show Go p.tables e below _ (T5.setTop (mkF m 51 #[.val (.int p0), .val (.int p1), .val (.int lv), .val (.ref r2)] []))
        refine Go.by (fun _ => XS.iconst X5.here hx rfl (hb hby at_51)) ?_
        show Go p.tables e below _ (T5.setTop (mkF m 52 #[.val (.int p0), .val (.int p1), .val (.int lv), .val (.ref r2)] [(.int (0 : Int32))]))
        refine Go.retN X5 hx hlk (z' := (0 : Int32)) hret (by simp) (hb hby at_52) rfl (by decide) (by decide) ?_
        exfalso
        have q1 := c_iadd lv 1
        have q2 := rng32 (lv + 1)
        have q3 := rng32 lv
        simp only [Int32.lt_iff_toInt_lt, ← Int32.toInt_inj, Int32.reduceToInt] at hj1 hf5 hc40_6 q1
        omega
    · skip
      show Go p.tables e below _ (T5.setTop (mkF m 38 #[.val (.int p0), .val (.int p1), .val (.int lv), .val (.ref r2)] [(.int (1 : Int32))]))
      refine Go.by (fun _ => XS.iloadN X5.here hx rfl (hb hby at_38) rfl) ?_
      show Go p.tables e below _ (T5.setTop (mkF m 39 #[.val (.int p0), .val (.int p1), .val (.int lv), .val (.ref r2)] [(.int p1), (.int (1 : Int32))]))
      refine Go.by (fun _ => XS.iloadN X5.here hx rfl (hb hby at_39) rfl) ?_
      show Go p.tables e below _ (T5.setTop (mkF m 40 #[.val (.int p0), .val (.int p1), .val (.int lv), .val (.ref r2)] [(.int lv), (.int p1), (.int (1 : Int32))]))
      by_cases hc40_10 : lv < p1
      · skip
        refine Go.by (fun _ => XS.icmpYes X5.here hx rfl (pc0 := 40) (pc' := 47) rfl (hb hby at_40) rfl (tlt hc40_10).2.2.1 (by decide) (by decide)) ?_
        show Go p.tables e below _ (T5.setTop (mkF m 47 #[.val (.int p0), .val (.int p1), .val (.int lv), .val (.ref r2)] [(.int (1 : Int32))]))
        refine Go.by (fun _ => XS.iconst X5.here hx rfl (hb hby at_47)) ?_
        show Go p.tables e below _ (T5.setTop (mkF m 48 #[.val (.int p0), .val (.int p1), .val (.int lv), .val (.ref r2)] [(.int (0 : Int32)), (.int (1 : Int32))]))
        refine Go.by (fun _ => XS.icmpNo X5.here hx rfl (hb hby at_48) rfl (feq (by decide)).1) ?_
        show Go p.tables e below _ (T5.setTop (mkF m 51 #[.val (.int p0), .val (.int p1), .val (.int lv), .val (.ref r2)] []))
        refine Go.by (fun _ => XS.iconst X5.here hx rfl (hb hby at_51)) ?_
        show Go p.tables e below _ (T5.setTop (mkF m 52 #[.val (.int p0), .val (.int p1), .val (.int lv), .val (.ref r2)] [(.int (0 : Int32))]))
        refine Go.retN X5 hx hlk (z' := (0 : Int32)) hret (by simp) (hb hby at_52) rfl (by decide) (by decide) ?_
        exfalso
        have q1 := c_iadd lv 1
        have q2 := rng32 (lv + 1)
        have q3 := rng32 lv
        simp only [Int32.lt_iff_toInt_lt, ← Int32.toInt_inj, Int32.reduceToInt] at hj1 hf5 hc40_10 q1
        omega
      · skip
        refine Go.by (fun _ => XS.icmpNo X5.here hx rfl (hb hby at_40) rfl (flt hc40_10).2.2.1) ?_
        show Go p.tables e below _ (T5.setTop (mkF m 43 #[.val (.int p0), .val (.int p1), .val (.int lv), .val (.ref r2)] [(.int (1 : Int32))]))
        refine Go.by (fun _ => XS.iconst X5.here hx rfl (hb hby at_43)) ?_
        show Go p.tables e below _ (T5.setTop (mkF m 44 #[.val (.int p0), .val (.int p1), .val (.int lv), .val (.ref r2)] [(.int (1 : Int32)), (.int (1 : Int32))]))
        refine Go.by (fun _ => XS.goto X5.here hx rfl (pc0 := 44) (pc' := 48) rfl (hb hby at_44) (by decide) (by decide)) ?_
        show Go p.tables e below _ (T5.setTop (mkF m 48 #[.val (.int p0), .val (.int p1), .val (.int lv), .val (.ref r2)] [(.int (1 : Int32)), (.int (1 : Int32))]))
        refine Go.by (fun _ => XS.icmpYes X5.here hx rfl (pc0 := 48) (pc' := 53) rfl (hb hby at_48) rfl (teq (by decide)).1 (by decide) (by decide)) ?_
        show Go p.tables e below _ (T5.setTop (mkF m 53 #[.val (.int p0), .val (.int p1), .val (.int lv), .val (.ref r2)] []))
        refine Go.by (fun _ => XS.aloadN X5.here hx rfl (hb hby at_53) rfl rfl) ?_
        show Go p.tables e below _ (T5.setTop (mkF m 54 #[.val (.int p0), .val (.int p1), .val (.int lv), .val (.ref r2)] [(.ref r2)]))
        refine Go.by (fun _ => XS.aconstNull X5.here hx rfl (hb hby at_54)) ?_
        show Go p.tables e below _ (T5.setTop (mkF m 55 #[.val (.int p0), .val (.int p1), .val (.int lv), .val (.ref r2)] [.null, (.ref r2)]))
        refine Go.by (fun _ => XS.iloadN X5.here hx rfl (hb hby at_55) rfl) ?_
        show Go p.tables e below _ (T5.setTop (mkF m 56 #[.val (.int p0), .val (.int p1), .val (.int lv), .val (.ref r2)] [(.int lv), .null, (.ref r2)]))
        refine Go.by (fun _ => XS.aconstNull X5.here hx rfl (hb hby at_56)) ?_
        show Go p.tables e below _ (T5.setTop (mkF m 57 #[.val (.int p0), .val (.int p1), .val (.int lv), .val (.ref r2)] [.null, (.int lv), .null, (.ref r2)]))
        obtain ⟨v11, T11, h11, X11, q11, st11⟩ := X5.callV hx hZ (y := (⟨"com/example/istorie/istorie/ShadowScope", "follows", "(Lcom/example/istorie/istorie/EntityId;ILjava/util/Set;)Z"⟩ : MethodName)) (z := (⟨"com/example/istorie/istorie/ShadowScope", "follows", "(Lcom/example/istorie/istorie/EntityId;ILjava/util/Set;)Z"⟩ : MethodName)) hown (tw hw 27 rfl) (tw hw 28 rfl) (notFace_of_selects (args := #[]) (mvT hZ (tw hw 30 rfl))) (tw hw 30 rfl) (tw hw 29 rfl) (tw hw 3 rfl) (tw hw 31 rfl) (by decide) (rm5 l Z a0 hw [] r2 lv lv a_DEEP_PLUS a_COMMIT_DEEP h2 n0 Zs3 f3_21 f3_22 f3_23 f3_24 f3_25 f3_26 Fk2 Fl2) Ex2 (g := (mkF m 57 #[.val (.int p0), .val (.int p1), .val (.int lv), .val (.ref r2)] [.null, (.int lv), .null, (.ref r2)])) rfl (by rw [hml]; rfl) (argsL := [.null, (.int lv), .null]) (rest := []) (lenOf pd4 rfl) rfl (hb hby at_57) rfl (by decide) (Nat.le_of_ble_eq_true rfl) (k' := 1) (n' := 2) rfl rfl (by decide) (by decide)
        refine Go.by st11 ?_
        rcases q11 with ⟨⟨hf11, rfl⟩ | ⟨hf11, rfl⟩, rfl⟩
        · skip
          show Go p.tables e below _ (T11.setTop (mkF m 60 #[.val (.int p0), .val (.int p1), .val (.int lv), .val (.ref r2)] [(.int (0 : Int32))]))
          refine Go.by (fun _ => XS.ifNo X11.here hx rfl (hb hby at_60) rfl ((if0 _ _).trans (teq (by decide)).2)) ?_
          show Go p.tables e below _ (T11.setTop (mkF m 63 #[.val (.int p0), .val (.int p1), .val (.int lv), .val (.ref r2)] []))
          refine Go.by (fun _ => XS.iconst X11.here hx rfl (hb hby at_63)) ?_
          show Go p.tables e below _ (T11.setTop (mkF m 64 #[.val (.int p0), .val (.int p1), .val (.int lv), .val (.ref r2)] [(.int (0 : Int32))]))
          refine Go.retN X11 hx hlk (z' := (0 : Int32)) hret (by simp) (hb hby at_64) rfl (by decide) (by decide) ?_
          exfalso
          have q1 := c_iadd lv 1
          have q2 := rng32 (lv + 1)
          have q3 := rng32 lv
          simp only [Int32.lt_iff_toInt_lt, ← Int32.toInt_inj, Int32.reduceToInt] at hj1 hf5 hc40_10 hf11 q1
          omega
        · skip
          show Go p.tables e below _ (T11.setTop (mkF m 60 #[.val (.int p0), .val (.int p1), .val (.int lv), .val (.ref r2)] [(.int (1 : Int32))]))
          refine Go.by (fun _ => XS.ifYes X11.here hx rfl (pc0 := 60) (pc' := 65) rfl (hb hby at_60) rfl ((if0 _ _).trans (feq (by decide)).2) (by decide) (by decide)) ?_
          show Go p.tables e below _ (T11.setTop (mkF m 65 #[.val (.int p0), .val (.int p1), .val (.int lv), .val (.ref r2)] []))
          refine Go.by (fun _ => XS.iloadN X11.here hx rfl (hb hby at_65) rfl) ?_
          show Go p.tables e below _ (T11.setTop (mkF m 66 #[.val (.int p0), .val (.int p1), .val (.int lv), .val (.ref r2)] [(.int lv)]))
          refine Go.by (X11.ldcInt hx hZ hown (tw hw 0 rfl) (g := (mkF m 66 #[.val (.int p0), .val (.int p1), .val (.int lv), .val (.ref r2)] [(.int lv)])) rfl (hb hby at_66)) ?_
          show Go p.tables e below _ (T11.setTop (mkF m 68 #[.val (.int p0), .val (.int p1), .val (.int lv), .val (.ref r2)] [(.int (2147483647 : Int32)), (.int lv)]))
          by_cases hc68_12 : lv < (2147483647 : Int32)
          · skip
            refine Go.by (fun _ => XS.icmpNo X11.here hx rfl (hb hby at_68) rfl (tlt hc68_12).2.1) ?_
            show Go p.tables e below _ (T11.setTop (mkF m 71 #[.val (.int p0), .val (.int p1), .val (.int lv), .val (.ref r2)] []))
            refine Go.by (fun _ => XS.aloadN X11.here hx rfl (hb hby at_71) rfl rfl) ?_
            show Go p.tables e below _ (T11.setTop (mkF m 72 #[.val (.int p0), .val (.int p1), .val (.int lv), .val (.ref r2)] [(.ref r2)]))
            refine Go.by (fun _ => XS.aconstNull X11.here hx rfl (hb hby at_72)) ?_
            show Go p.tables e below _ (T11.setTop (mkF m 73 #[.val (.int p0), .val (.int p1), .val (.int lv), .val (.ref r2)] [.null, (.ref r2)]))
            refine Go.by (fun _ => XS.iloadN X11.here hx rfl (hb hby at_73) rfl) ?_
            show Go p.tables e below _ (T11.setTop (mkF m 74 #[.val (.int p0), .val (.int p1), .val (.int lv), .val (.ref r2)] [(.int lv), .null, (.ref r2)]))
            refine Go.by (fun _ => XS.iconst X11.here hx rfl (hb hby at_74)) ?_
            show Go p.tables e below _ (T11.setTop (mkF m 75 #[.val (.int p0), .val (.int p1), .val (.int lv), .val (.ref r2)] [(.int (1 : Int32)), (.int lv), .null, (.ref r2)]))
            refine Go.by (fun _ => XS.iadd X11.here hx rfl (hb hby at_75) rfl) ?_
            show Go p.tables e below _ (T11.setTop (mkF m 76 #[.val (.int p0), .val (.int p1), .val (.int lv), .val (.ref r2)] [(.int (lv + (1 : Int32))), .null, (.ref r2)]))
            refine Go.by (fun _ => XS.aconstNull X11.here hx rfl (hb hby at_76)) ?_
            show Go p.tables e below _ (T11.setTop (mkF m 77 #[.val (.int p0), .val (.int p1), .val (.int lv), .val (.ref r2)] [.null, (.int (lv + (1 : Int32))), .null, (.ref r2)]))
            obtain ⟨v13, T13, h13, X13, q13, st13⟩ := X11.callV hx hZ (y := (⟨"com/example/istorie/istorie/ShadowScope", "follows", "(Lcom/example/istorie/istorie/EntityId;ILjava/util/Set;)Z"⟩ : MethodName)) (z := (⟨"com/example/istorie/istorie/ShadowScope", "follows", "(Lcom/example/istorie/istorie/EntityId;ILjava/util/Set;)Z"⟩ : MethodName)) hown (tw hw 27 rfl) (tw hw 28 rfl) (notFace_of_selects (args := #[]) (mvT hZ (tw hw 30 rfl))) (tw hw 30 rfl) (tw hw 29 rfl) (tw hw 3 rfl) (tw hw 31 rfl) (by decide) (rm5 l Z a0 hw [] r2 (lv + (1 : Int32)) lv a_DEEP_PLUS a_COMMIT_DEEP h2 n0 Zs3 f3_21 f3_22 f3_23 f3_24 f3_25 f3_26 Fk2 Fl2) Ex2 (g := (mkF m 77 #[.val (.int p0), .val (.int p1), .val (.int lv), .val (.ref r2)] [.null, (.int (lv + (1 : Int32))), .null, (.ref r2)])) rfl (by rw [hml]; rfl) (argsL := [.null, (.int (lv + (1 : Int32))), .null]) (rest := []) (lenOf pd4 rfl) rfl (hb hby at_77) rfl (by decide) (Nat.le_of_ble_eq_true rfl) (k' := 1) (n' := 2) rfl rfl (by decide) (by decide)
            refine Go.by st13 ?_
            rcases q13 with ⟨⟨hf13, rfl⟩ | ⟨hf13, rfl⟩, rfl⟩
            · skip
              show Go p.tables e below _ (T13.setTop (mkF m 80 #[.val (.int p0), .val (.int p1), .val (.int lv), .val (.ref r2)] [(.int (0 : Int32))]))
              refine Go.by (fun _ => XS.ifYes X13.here hx rfl (pc0 := 80) (pc' := 85) rfl (hb hby at_80) rfl ((if0 _ _).trans (teq (by decide)).1) (by decide) (by decide)) ?_
              show Go p.tables e below _ (T13.setTop (mkF m 85 #[.val (.int p0), .val (.int p1), .val (.int lv), .val (.ref r2)] []))
              refine Go.by (fun _ => XS.iconst X13.here hx rfl (hb hby at_85)) ?_
              show Go p.tables e below _ (T13.setTop (mkF m 86 #[.val (.int p0), .val (.int p1), .val (.int lv), .val (.ref r2)] [(.int (1 : Int32))]))
              exact Go.retN X13 hx hlk (z' := (1 : Int32)) hret (by simp) (hb hby at_86) rfl (by decide) (by decide) rfl
            · skip
              show Go p.tables e below _ (T13.setTop (mkF m 80 #[.val (.int p0), .val (.int p1), .val (.int lv), .val (.ref r2)] [(.int (1 : Int32))]))
              refine Go.by (fun _ => XS.ifNo X13.here hx rfl (hb hby at_80) rfl ((if0 _ _).trans (feq (by decide)).1)) ?_
              show Go p.tables e below _ (T13.setTop (mkF m 83 #[.val (.int p0), .val (.int p1), .val (.int lv), .val (.ref r2)] []))
              refine Go.by (fun _ => XS.iconst X13.here hx rfl (hb hby at_83)) ?_
              show Go p.tables e below _ (T13.setTop (mkF m 84 #[.val (.int p0), .val (.int p1), .val (.int lv), .val (.ref r2)] [(.int (0 : Int32))]))
              refine Go.retN X13 hx hlk (z' := (0 : Int32)) hret (by simp) (hb hby at_84) rfl (by decide) (by decide) ?_
              exfalso
              have q1 := c_iadd lv 1
              have q2 := rng32 (lv + 1)
              have q3 := rng32 lv
              simp only [Int32.lt_iff_toInt_lt, ← Int32.toInt_inj, Int32.reduceToInt] at hj1 hf5 hc40_10 hf11 hc68_12 hf13 q1
              omega
          · skip
            refine Go.by (fun _ => XS.icmpYes X11.here hx rfl (pc0 := 68) (pc' := 85) rfl (hb hby at_68) rfl (flt hc68_12).2.1 (by decide) (by decide)) ?_
            show Go p.tables e below _ (T11.setTop (mkF m 85 #[.val (.int p0), .val (.int p1), .val (.int lv), .val (.ref r2)] []))
            refine Go.by (fun _ => XS.iconst X11.here hx rfl (hb hby at_85)) ?_
            show Go p.tables e below _ (T11.setTop (mkF m 86 #[.val (.int p0), .val (.int p1), .val (.int lv), .val (.ref r2)] [(.int (1 : Int32))]))
            exact Go.retN X11 hx hlk (z' := (1 : Int32)) hret (by simp) (hb hby at_86) rfl (by decide) (by decide) rfl
  by_cases hc6_14 : (p0 &&& (2147483647 : Int32)) = (0 : Int32)
  · skip
    refine Go.by (fun _ => XS.ifNo X0.here hx rfl (hb hby at_6) rfl ((if0 _ _).trans (teq hc6_14).2)) ?_
    show Go p.tables e below _ (T0.setTop (mkF m 9 #[.val (.int p0), .val (.int p1), .val (.int (p0 &&& (2147483647 : Int32))), .unset] []))
    refine Go.by (fun _ => XS.iconst X0.here hx rfl (hb hby at_9)) ?_
    show Go p.tables e below _ (T0.setTop (mkF m 10 #[.val (.int p0), .val (.int p1), .val (.int (p0 &&& (2147483647 : Int32))), .unset] [(.int (1 : Int32))]))
    refine Go.by (fun _ => XS.istoreN X0.here hx rfl (hb hby at_10) rfl (l' := #[.val (.int p0), .val (.int p1), .val (.int (1 : Int32)), .unset]) rfl) ?_
    show Go p.tables e below _ (T0.setTop (mkF m 11 #[.val (.int p0), .val (.int p1), .val (.int (1 : Int32)), .unset] []))
    exact J1 _ X0 _ (by decide)
  · skip
    refine Go.by (fun _ => XS.ifYes X0.here hx rfl (pc0 := 6) (pc' := 11) rfl (hb hby at_6) rfl ((if0 _ _).trans (feq hc6_14).2) (by decide) (by decide)) ?_
    show Go p.tables e below _ (T0.setTop (mkF m 11 #[.val (.int p0), .val (.int p1), .val (.int (p0 &&& (2147483647 : Int32))), .unset] []))
    exact J1 _ X0 _ (own_pos _ hc6_14)
set_option maxRecDepth 65536 in
set_option maxHeartbeats 40000000 in
theorem comes_1 {Post : Tables → Env → Array Value → State → Outcome → State → Prop} (hpost : ∀ tb e args s v u, (limb_1_1.after args s (.returned v) u = true ∧ limb_1_2.after args s (.returned v) u = true ∧ True) → FrameEnd s (.returned v) u (Jvm.fieldLocs frame_1_writes args s ++ Jvm.arrayLocs frame_1_arrays args s ++ Jvm.staticLocs frame_1_statics s) 16 128 → Post tb e args s (.returned v) u) :
    ArmFor flags0 classFile x code maxLocals ret World_1 tables_1 room_1 Calls_1 rest_1 Pre_1 Post := by
  intro l hfl _ _ p e ha hc hk s m args below hf hA hF happ hP
  obtain ⟨hcalls, hrest, hpre⟩ := hP
  obtain ⟨-, -, -, hnamed, -, -, -, hat⟩ := (Spec.applies_iff hf).mp happ
  obtain ⟨hg, hn⟩ := and_e (Cond.before_iff.mp (show (Jvm.Cond.and given_1 narrow_1).before args s = true from hpre))
  obtain ⟨gc, gr0⟩ := and_e hg
  obtain ⟨ga0, ga1⟩ := and_e gr0
  obtain ⟨w0, w1, rfl⟩ : ∃ w0 w1 : Value, args = #[w0, w1] := by
    have hs : args.size = 2 := by simpa [Cond.value, given_1] using gc
    obtain ⟨L⟩ := args
    match L, hs with
    | [w0, w1], _ => exact ⟨w0, w1, rfl⟩
  have hw := fun d (hd : d ∈ tables_1) => atoms_spec (ws := Jvm.Cond.code x code maxLocals ret :: tables_1) hat d (List.mem_cons_of_mem _ hd)
  have hfit : Fit s := fun {y c} hc i hi => by
    obtain ⟨ha, rfl⟩ := Array.getElem?_eq_some_iff.mp hc
    have q := List.all_eq_true.mp ((Array.all_eq_true_iff_forall_mem.mp hF) _ (Array.getElem_mem ha)) i (List.mem_range.mpr hi)
    simpa [Array.getElem?_eq_getElem hi] using q
  obtain ⟨i0, ei0⟩ := is_v ga0
  obtain rfl : w0 = (.int i0) := Option.some.inj ei0
  obtain ⟨i1, ei1⟩ := is_v ga1
  obtain rfl : w1 = (.int i1) := Option.some.inj ei1
  obtain ⟨nw0, nwr0⟩ := and_e hn
  obtain ⟨nw1, nwr1⟩ := and_e nwr0
  obtain ⟨nw2, nw3⟩ := and_e nwr1
  obtain ⟨a_DEEP_PLUS, ev_DEEP_PLUS, S_DEEP_PLUS, E_DEEP_PLUS⟩ := sta_exa nw0 (tw hw 8 rfl) (tw hw 9 rfl)
  obtain ⟨a_COMMIT_DEEP, ev_COMMIT_DEEP, S_COMMIT_DEEP, E_COMMIT_DEEP⟩ := sta_exa nw1 (tw hw 8 rfl) (tw hw 26 rfl)
  have F_DEEP_PLUS_ordinal := fld_eq ev_DEEP_PLUS nw2
  have F_COMMIT_DEEP_ordinal := fld_eq ev_COMMIT_DEEP nw3
  obtain ⟨n, o, h1, h2, h3, _, L, rfl, ⟨rfl, N⟩, hq⟩ := rm0 l s _ hw tables_1 i0 i1 a_DEEP_PLUS a_COMMIT_DEEP s.heap s.heap.size (Nat.le_refl _) S_DEEP_PLUS E_DEEP_PLUS S_COMMIT_DEEP E_COMMIT_DEEP F_DEEP_PLUS_ordinal F_COMMIT_DEEP_ordinal p e ha hc hk s m _ below hf ((Spec.applies_iff_loose hf).mp happ).1 ⟨rfl, State.Warmed39.refl s, rfl⟩ trivial
  refine ⟨n, _, h1, h2, h3, hpost _ _ _ _ _ _ ⟨Cond.after_iff.mpr rfl, Cond.after_iff.mpr (eq_i res_at (Term.int_eval (1)) rfl), trivial⟩ ⟨hq.1, hq.2.1, (hq.2.2.sift fun y hy => Or.inr (N y hy)).mono (by decide) (by decide)⟩⟩
theorem main_1_1 : Claimed_1_1 := comes_1 fun _ _ _ _ _ _ h hF => ⟨h.1, hF⟩
theorem main_1_2 : Claimed_1_2 := comes_1 fun _ _ _ _ _ _ h hF => ⟨h.2.1, hF⟩
end Jvm.Pilot.@@N@@
namespace Jvm.Pilot.@@N@@
open Jvm Jvm.ClassFile Sem Op Lib Jvm.Free Jvm.Stand Jvm.Pilot.@@N@@.Jvm.D
/-! MADE BY PROGRAM (witnessworld.py) out of the Statement's table words and the real class files: 13 classes; the members and pool entries that the words name. The judged class is class 1, her method 1. -/
namespace start1
open Jvm.ClassFile
def u (s : String) : CpInfo := .utf8 (stringToUtf16 s)
/-- a pool by its gaps: so many unusable entries, then the entry; so many at the end -/
def gap : Nat → List CpInfo → List CpInfo
  | 0, r => r
  | n + 1, r => .unusable :: gap n r
def poolList (es : List (Nat × CpInfo)) (last : Nat) : List CpInfo := es.foldr (fun e r => gap e.1 (e.2 :: r)) (gap last [])
def pool (es : List (Nat × CpInfo)) (last : Nat) : Array CpInfo := ⟨poolList es last⟩
def fileOf (pool : Array CpInfo) (this : Nat) (attrs : Array Attribute := #[]) (ms : Array MethodInfo := #[]) (fl : Nat := 33) (sup : Nat := 0) (ifs : Array Nat := #[]) (fds : Array FieldInfo := #[]) : ClassFile where
  minorVersion := 0
  majorVersion := 65
  constantPool := pool
  accessFlags := fl
  thisClass := this
  superClass := sup
  interfaces := ifs
  fields := fds
  methods := ms
  attributes := attrs
def plain (name : String) (sup : Option ClassId) : Class where
  name := name
  kind := .ordinary
  loader := none
  accessFlags := 33
  super := sup
  interfaces := #[]
  cf := none
  fields := #[]
  methods := #[]
  instanceTypes := #[]
  staticTypes := #[]
  resolved := #[]
  callSites := []
  init := .initialized
  statics := none
  mirror := none

def pool0 : Array CpInfo := pool [(5, u "<init>"), (0, u "()V"), (1, .class_ 10), (1, u "java/lang/Object")] 113

def k0c0 : Code := { maxStack := 0, maxLocals := 1, code := object_method_1_code, exceptionTable := #[], attributes := #[] }
def k0m0 : Method := { name := "<init>", desc := "()V", sig := { parameters := [], returnType := none }, accessFlags := 1, code := some k0c0 }
/-- java/lang/Object -/
def k0 : Class := { plain "java/lang/Object" none with
  accessFlags := 33
  interfaces := #[]
  cf := some (fileOf pool0 8 #[] #[{ accessFlags := 1, nameIndex := 5, descriptorIndex := 6, attributes := #[] }] 33 0 #[] #[])
  fields := #[]
  methods := #[k0m0]
  instanceTypes := #[]
  staticTypes := #[]
  resolved := Array.replicate 124 none
  statics := none }

def pool1 : Array CpInfo := pool [(2, .class_ 4), (1, u "java/lang/Object"), (0, u "<init>"), (0, u "()V"), (0, .integer 2147483647), (0, .methodref 9 10), (0, .class_ 11), (0, .nameAndType 12 13), (0, u "com/example/istorie/istorie/ShadowScope"), (0, u "deepPlus"), (0, u "(I)Lcom/example/istorie/istorie/ShadowScope;"), (0, .methodref 9 15), (0, .nameAndType 16 17), (0, u "needsEntitiesOfShadowCommits"), (0, u "()Z"), (0, .methodref 9 19), (0, .nameAndType 20 21), (0, u "follows"), (0, u "(Lcom/example/istorie/istorie/EntityId;ILjava/util/Set;)Z"), (2, .class_ 25), (0, u "com/example/istorie/istorie/ShadowScopeDeepPlusPinLaw"), (2, u "law"), (0, u "(II)Z")] 3

def k1m0 : Method := { name := "<init>", desc := "()V", sig := { parameters := [], returnType := none }, accessFlags := 1, code := none }
def k1c1 : Code := { maxStack := 4, maxLocals := 4, code := code, exceptionTable := #[], attributes := #[] }
def k1m1 : Method := { name := "law", desc := "(II)Z", sig := { parameters := [.int, .int], returnType := some .boolean }, accessFlags := 9, code := some k1c1 }
/-- com/example/istorie/istorie/ShadowScopeDeepPlusPinLaw -/
def k1 : Class := { plain "com/example/istorie/istorie/ShadowScopeDeepPlusPinLaw" (some 0) with
  accessFlags := 49
  interfaces := #[]
  cf := some (fileOf pool1 24 #[] #[{ accessFlags := 1, nameIndex := 5, descriptorIndex := 6, attributes := #[] }, { accessFlags := 9, nameIndex := 28, descriptorIndex := 29, attributes := #[] }] 49 2 #[] #[])
  fields := #[]
  methods := #[k1m0, k1m1]
  instanceTypes := #[]
  staticTypes := #[]
  resolved := Array.replicate 33 none
  statics := none }

def pool2 : Array CpInfo := pool [(1, .methodref 2 3), (0, .class_ 4), (0, .nameAndType 5 6), (0, u "java/lang/Object"), (0, u "<init>"), (0, u "()V"), (0, .fieldref 8 9), (0, .class_ 10), (0, .nameAndType 11 12), (0, u "com/example/istorie/istorie/ShadowScope"), (0, u "kind"), (0, u "Lcom/example/istorie/istorie/ShadowScope$Kind;"), (0, .fieldref 8 14), (0, .nameAndType 15 16), (0, u "levels"), (0, u "I"), (2, u "SHALLOW"), (0, u "Lcom/example/istorie/istorie/ShadowScope;"), (2, u "COMMIT_DEEP"), (9, .fieldref 34 35), (0, .class_ 36), (0, .nameAndType 37 12), (0, u "com/example/istorie/istorie/ShadowScope$Kind"), (0, u "DEEP_PLUS"), (0, .methodref 8 39), (0, .nameAndType 5 40), (0, u "(Lcom/example/istorie/istorie/ShadowScope$Kind;I)V"), (0, .fieldref 34 42), (0, .nameAndType 23 12), (0, .methodref 34 44), (0, .nameAndType 45 46), (0, u "ordinal"), (0, u "()I"), (18, u "deepPlus"), (0, u "(I)Lcom/example/istorie/istorie/ShadowScope;"), (1, u "needsEntitiesOfShadowCommits"), (0, u "()Z"), (0, u "follows"), (0, u "(Lcom/example/istorie/istorie/EntityId;ILjava/util/Set;)Z")] 22

def k2c0 : Code := { maxStack := 2, maxLocals := 3, code := prog_65_method_1_code, exceptionTable := #[], attributes := #[] }
def k2m0 : Method := { name := "<init>", desc := "(Lcom/example/istorie/istorie/ShadowScope$Kind;I)V", sig := { parameters := [(.object "com/example/istorie/istorie/ShadowScope$Kind"), .int], returnType := none }, accessFlags := 2, code := some k2c0 }
def k2c1 : Code := { maxStack := 4, maxLocals := 1, code := prog_65_method_4_code, exceptionTable := #[], attributes := #[] }
def k2m1 : Method := { name := "deepPlus", desc := "(I)Lcom/example/istorie/istorie/ShadowScope;", sig := { parameters := [.int], returnType := some (.object "com/example/istorie/istorie/ShadowScope") }, accessFlags := 9, code := some k2c1 }
def k2c2 : Code := { maxStack := 2, maxLocals := 1, code := prog_65_method_5_code, exceptionTable := #[], attributes := #[] }
def k2m2 : Method := { name := "needsEntitiesOfShadowCommits", desc := "()Z", sig := { parameters := [], returnType := some .boolean }, accessFlags := 0, code := some k2c2 }
def k2c3 : Code := { maxStack := 4, maxLocals := 4, code := prog_65_method_6_code, exceptionTable := #[], attributes := #[] }
def k2m3 : Method := { name := "follows", desc := "(Lcom/example/istorie/istorie/EntityId;ILjava/util/Set;)Z", sig := { parameters := [(.object "com/example/istorie/istorie/EntityId"), .int, (.object "java/util/Set")], returnType := some .boolean }, accessFlags := 0, code := some k2c3 }
/-- com/example/istorie/istorie/ShadowScope -/
def k2 : Class := { plain "com/example/istorie/istorie/ShadowScope" (some 0) with
  accessFlags := 49
  interfaces := #[]
  cf := some (fileOf pool2 8 #[.nestMembers #[34]] #[{ accessFlags := 2, nameIndex := 5, descriptorIndex := 40, attributes := #[] }, { accessFlags := 9, nameIndex := 65, descriptorIndex := 66, attributes := #[] }, { accessFlags := 0, nameIndex := 68, descriptorIndex := 69, attributes := #[] }, { accessFlags := 0, nameIndex := 70, descriptorIndex := 71, attributes := #[] }] 49 2 #[] #[{ accessFlags := 26, nameIndex := 19, descriptorIndex := 20, attributes := #[] }, { accessFlags := 26, nameIndex := 23, descriptorIndex := 20, attributes := #[] }, { accessFlags := 18, nameIndex := 11, descriptorIndex := 12, attributes := #[] }, { accessFlags := 18, nameIndex := 15, descriptorIndex := 16, attributes := #[] }])
  fields := #[{ name := "SHALLOW", type := (.object "com/example/istorie/istorie/ShadowScope"), accessFlags := 26, slot := 0, constantValue := 0 }, { name := "COMMIT_DEEP", type := (.object "com/example/istorie/istorie/ShadowScope"), accessFlags := 26, slot := 1, constantValue := 0 }, { name := "kind", type := (.object "com/example/istorie/istorie/ShadowScope$Kind"), accessFlags := 18, slot := 0, constantValue := 0 }, { name := "levels", type := .int, accessFlags := 18, slot := 1, constantValue := 0 }]
  methods := #[k2m0, k2m1, k2m2, k2m3]
  instanceTypes := #[(.object "com/example/istorie/istorie/ShadowScope$Kind"), .int]
  staticTypes := #[(.object "com/example/istorie/istorie/ShadowScope"), (.object "com/example/istorie/istorie/ShadowScope")]
  resolved := Array.replicate 94 none
  statics := none }

def pool3 : Array CpInfo := pool [(1, .class_ 2), (0, u "java/lang/constant/Constable"), (0, .class_ 4), (0, u "java/lang/Object")] 6

/-- java/lang/constant/Constable -/
def k3 : Class := { plain "java/lang/constant/Constable" (some 0) with
  accessFlags := 1537
  interfaces := #[]
  cf := some (fileOf pool3 1 #[] #[] 1537 3 #[] #[])
  fields := #[]
  methods := #[]
  instanceTypes := #[]
  staticTypes := #[]
  resolved := Array.replicate 11 none
  statics := none }

def pool4 : Array CpInfo := pool [(1, .class_ 2), (0, u "java/lang/Comparable"), (0, .class_ 4), (0, u "java/lang/Object")] 7

/-- java/lang/Comparable -/
def k4 : Class := { plain "java/lang/Comparable" (some 0) with
  accessFlags := 1537
  interfaces := #[]
  cf := some (fileOf pool4 1 #[] #[] 1537 3 #[] #[])
  fields := #[]
  methods := #[]
  instanceTypes := #[]
  staticTypes := #[]
  resolved := Array.replicate 12 none
  statics := none }

def pool5 : Array CpInfo := pool [(1, .class_ 2), (0, u "java/io/Serializable"), (0, .class_ 4), (0, u "java/lang/Object")] 2

/-- java/io/Serializable -/
def k5 : Class := { plain "java/io/Serializable" (some 0) with
  accessFlags := 1537
  interfaces := #[]
  cf := some (fileOf pool5 1 #[] #[] 1537 3 #[] #[])
  fields := #[]
  methods := #[]
  instanceTypes := #[]
  staticTypes := #[]
  resolved := Array.replicate 7 none
  statics := none }

def pool6 : Array CpInfo := pool [(2, .class_ 4), (1, u "java/lang/Enum"), (0, u "name"), (0, u "Ljava/lang/String;"), (0, .fieldref 2 8), (0, .nameAndType 9 10), (0, u "ordinal"), (0, u "I"), (1, .class_ 14), (1, u "java/lang/Object"), (4, u "hash"), (86, .class_ 108), (1, u "java/lang/Enum$EnumDesc"), (2, .class_ 112), (0, u "java/lang/constant/Constable"), (0, .class_ 114), (0, u "java/lang/Comparable"), (0, .class_ 116), (0, u "java/io/Serializable"), (9, u "()I")] 77

def k6c0 : Code := { maxStack := 1, maxLocals := 1, code := jdk_37_method_2_code, exceptionTable := #[], attributes := #[] }
def k6m0 : Method := { name := "ordinal", desc := "()I", sig := { parameters := [], returnType := some .int }, accessFlags := 17, code := some k6c0 }
/-- java/lang/Enum -/
def k6 : Class := { plain "java/lang/Enum" (some 0) with
  accessFlags := 1057
  interfaces := #[3, 4, 5]
  cf := some (fileOf pool6 2 #[.nestMembers #[106]] #[{ accessFlags := 17, nameIndex := 9, descriptorIndex := 126, attributes := #[] }] 1057 12 #[111, 113, 115] #[{ accessFlags := 18, nameIndex := 5, descriptorIndex := 6, attributes := #[] }, { accessFlags := 18, nameIndex := 9, descriptorIndex := 10, attributes := #[] }, { accessFlags := 2, nameIndex := 19, descriptorIndex := 10, attributes := #[] }])
  fields := #[{ name := "name", type := (.object "java/lang/String"), accessFlags := 18, slot := 0, constantValue := 0 }, { name := "ordinal", type := .int, accessFlags := 18, slot := 1, constantValue := 0 }, { name := "hash", type := .int, accessFlags := 2, slot := 2, constantValue := 0 }]
  methods := #[k6m0]
  instanceTypes := #[(.object "java/lang/String"), .int, .int]
  staticTypes := #[]
  resolved := Array.replicate 204 none
  statics := none }

def pool7 : Array CpInfo := pool [(1, .class_ 2), (0, u "com/example/istorie/istorie/ShadowScope$Kind"), (2, u "SHALLOW"), (0, u "Lcom/example/istorie/istorie/ShadowScope$Kind;"), (2, u "COMMIT_DEEP"), (2, u "DEEP_PLUS"), (2, u "$VALUES"), (0, u "[Lcom/example/istorie/istorie/ShadowScope$Kind;"), (6, .class_ 25), (1, u "java/lang/Enum"), (26, .class_ 53), (0, u "com/example/istorie/istorie/ShadowScope")] 2

/-- com/example/istorie/istorie/ShadowScope$Kind -/
def k7 : Class := { plain "com/example/istorie/istorie/ShadowScope$Kind" (some 6) with
  accessFlags := 16432
  interfaces := #[]
  cf := some (fileOf pool7 1 #[.nestHost 52] #[] 16432 23 #[] #[{ accessFlags := 16409, nameIndex := 5, descriptorIndex := 6, attributes := #[] }, { accessFlags := 16409, nameIndex := 9, descriptorIndex := 6, attributes := #[] }, { accessFlags := 16409, nameIndex := 12, descriptorIndex := 6, attributes := #[] }, { accessFlags := 4122, nameIndex := 15, descriptorIndex := 16, attributes := #[] }])
  fields := #[{ name := "SHALLOW", type := (.object "com/example/istorie/istorie/ShadowScope$Kind"), accessFlags := 16409, slot := 0, constantValue := 0 }, { name := "COMMIT_DEEP", type := (.object "com/example/istorie/istorie/ShadowScope$Kind"), accessFlags := 16409, slot := 1, constantValue := 0 }, { name := "DEEP_PLUS", type := (.object "com/example/istorie/istorie/ShadowScope$Kind"), accessFlags := 16409, slot := 2, constantValue := 0 }, { name := "$VALUES", type := (.array (.object "com/example/istorie/istorie/ShadowScope$Kind")), accessFlags := 4122, slot := 3, constantValue := 0 }]
  methods := #[]
  instanceTypes := #[(.object "java/lang/String"), .int, .int]
  staticTypes := #[(.object "com/example/istorie/istorie/ShadowScope$Kind"), (.object "com/example/istorie/istorie/ShadowScope$Kind"), (.object "com/example/istorie/istorie/ShadowScope$Kind"), (.array (.object "com/example/istorie/istorie/ShadowScope$Kind"))]
  resolved := Array.replicate 56 none
  statics := some 0 }

def pool8 : Array CpInfo := pool [(1, u "java/lang/Cloneable"), (0, .class_ 1), (0, u "java/lang/Object"), (0, .class_ 3)] 3

/-- java/lang/Cloneable -/
def k8 : Class := { plain "java/lang/Cloneable" (some 0) with
  accessFlags := 1537
  interfaces := #[]
  cf := some (fileOf pool8 2 #[] #[] 1537 4 #[] #[])
  fields := #[]
  methods := #[]
  instanceTypes := #[]
  staticTypes := #[]
  resolved := Array.replicate 8 none
  statics := none }

/-- the primitive byte -/
def k9 : Class := { plain "byte" none with kind := .primitive 'B', accessFlags := 0x411 }
/-- [B -/
def k10 : Class := { plain "[B" (some 0) with kind := .array 9 .byte, interfaces := #[8, 5], accessFlags := 1041 }

/-- the primitive int -/
def k11 : Class := { plain "int" none with kind := .primitive 'I', accessFlags := 0x411 }
/-- [I -/
def k12 : Class := { plain "[I" (some 0) with kind := .array 11 .int, interfaces := #[8, 5], accessFlags := 1041 }

def heap : Heap := #[{ cls := 7, slots := #[.null, .ref 2, .ref 1, .null], vm := .statics 7 },
  { cls := 7, slots := #[.null, .int 2, .int 0], vm := .none },
  { cls := 7, slots := #[.null, .int 1, .int 0], vm := .none }]
def classes : Array Class := #[k0, k1, k2, k3, k4, k5, k6, k7, k8, k9, k10, k11, k12]
def interned : List (Array UInt16 × Addr) := []
def slotsUsed : Nat := 10
def theMethod : MethodId := ⟨1, 1⟩
def args0 : Array Value := #[.int 5, .int 7]
def aboutOver (below : List Frame) : State where
  vm := { classes := classes, interned := interned.toArray }
  heap := heap
  slotsUsed := slotsUsed
  threads := #[{ frames := .invoking theMethod args0 :: below }]
def below0 : List Frame := [.native { method := ⟨0, 0⟩, args := #[] }]
def about1 : State := aboutOver below0
def p0 : Program := .bare "" "" ""
def e0 : Env := launch0.env 0 0 0
theorem w_frames : about1.frames = Frame.invoking theMethod args0 :: below0 := rfl
set_option maxRecDepth 65536 in
theorem w_args : argsFit about1.vm theMethod args0 = true := by decide +kernel
set_option maxRecDepth 65536 in
theorem w_heap : heapFits about1 = true := by decide +kernel
set_option maxRecDepth 65536 in
theorem w_runnable : about1.curStatus? = some .runnable := by decide +kernel
set_option maxRecDepth 65536 in
theorem w_alone : about1.alone = true := by decide +kernel
set_option maxRecDepth 65536 in
theorem w_named : about1.methodNamed? x = some theMethod := by decide +kernel
set_option maxRecDepth 65536 in
theorem w_hears : about1.hears theMethod below0 = true := by decide +kernel
set_option maxRecDepth 65536 in
theorem w_ripe : about1.ripe theMethod args0 below0 = true := by decide +kernel
theorem w_running : about1.status = .running := rfl
set_option maxRecDepth 65536 in
theorem w_room : about1.hasRoom e0.platform room_1 = true :=
  launch0.hasRoom_least _ room_1 (by decide +kernel) (by decide +kernel) (by decide +kernel) (by decide +kernel) (by decide +kernel) (by decide +kernel)
theorem allAtoms_all (ts : List Jvm.Cond) (a : Array Jvm.Value) (st : Jvm.State) : (allAtoms ts).before a st = ts.all (fun c => c.before a st) := by
  induction ts with
  | nil => rfl
  | cons c t ih =>
    show (Jvm.Cond.and c (allAtoms t)).before a st = _
    rw [Jvm.Cond.before_and, ih, List.all_cons]
def words1 : List Jvm.Cond := Jvm.Cond.code x code maxLocals ret :: tables_1
/-- a 'code' word, met by the world's own term for the bytes: nothing is compared byte by byte -/
theorem code_word {y : MethodName} {bytes : ByteArray} {mx : Nat} {rt : Option FieldType} {a : Array Value} {s : State} {m : MethodId} {meth : Method} {c : Code} (h1 : s.methodNamed? y = some m) (h2 : s.vm.method? m = some meth) (h3 : meth.code = some c) (h4 : c.code = bytes)
    (h5 : (c.maxLocals == mx && c.exceptionTable.isEmpty && decide (c.maxStack ≤ mostOperands) && decide (meth.sig.returnType = rt) && !meth.locks && decide (parseMethodDescriptor y.desc = some meth.sig)) = true) : (Jvm.Cond.code y bytes mx rt).before a s = true := by
  simp only [Bool.and_eq_true, beq_iff_eq, Bool.not_eq_true', decide_eq_true_eq] at h5
  obtain ⟨⟨⟨⟨⟨g1, g2⟩, g3⟩, g4⟩, g5⟩, g6⟩ := h5
  simp [Cond.before, Cond.holds, Cond.value, h1, h2, h3, h4, g1, g2, g3, g4, g5, g6]
def isCode : Jvm.Cond → Bool
  | .code _ _ _ _ => true
  | _ => false
theorem all_split {L : List Jvm.Cond} {P : Jvm.Cond → Bool} (h1 : L.all (fun c => isCode c || P c) = true) (h2 : ∀ c ∈ L.filter isCode, P c = true) : L.all P = true := by
  refine List.all_eq_true.mpr fun c hc => ?_
  have h := List.all_eq_true.mp h1 c hc
  rcases Bool.eq_false_or_eq_true (isCode c) with hi | hi
  · exact h2 c (List.mem_filter.mpr ⟨hc, hi⟩)
  · simpa [hi] using h
set_option maxRecDepth 65536 in
theorem w_c0 : (Jvm.Cond.code x code maxLocals ret).before args0 about1 = true := code_word (m := ⟨1, 1⟩) (meth := k1m1) (c := k1c1) (by decide +kernel) rfl rfl rfl (by decide +kernel)
set_option maxRecDepth 65536 in
theorem w_c1 : (Jvm.Cond.code ({ cls := "com/example/istorie/istorie/ShadowScope", name := "deepPlus", desc := "(I)Lcom/example/istorie/istorie/ShadowScope;" } : Jvm.MethodName) prog_65_method_4_code (1 : Nat) (Option.some (Jvm.ClassFile.FieldType.object "com/example/istorie/istorie/ShadowScope"))).before args0 about1 = true := code_word (m := ⟨2, 1⟩) (meth := k2m1) (c := k2c1) (by decide +kernel) rfl rfl rfl (by decide +kernel)
set_option maxRecDepth 65536 in
theorem w_c2 : (Jvm.Cond.code ({ cls := "com/example/istorie/istorie/ShadowScope", name := "<init>", desc := "(Lcom/example/istorie/istorie/ShadowScope$Kind;I)V" } : Jvm.MethodName) prog_65_method_1_code (3 : Nat) (Option.none : Option Jvm.ClassFile.FieldType)).before args0 about1 = true := code_word (m := ⟨2, 0⟩) (meth := k2m0) (c := k2c0) (by decide +kernel) rfl rfl rfl (by decide +kernel)
set_option maxRecDepth 65536 in
theorem w_c3 : (Jvm.Cond.code ({ cls := "java/lang/Object", name := "<init>", desc := "()V" } : Jvm.MethodName) object_method_1_code (1 : Nat) (Option.none : Option Jvm.ClassFile.FieldType)).before args0 about1 = true := code_word (m := ⟨0, 0⟩) (meth := k0m0) (c := k0c0) (by decide +kernel) rfl rfl rfl (by decide +kernel)
set_option maxRecDepth 65536 in
theorem w_c4 : (Jvm.Cond.code ({ cls := "com/example/istorie/istorie/ShadowScope", name := "needsEntitiesOfShadowCommits", desc := "()Z" } : Jvm.MethodName) prog_65_method_5_code (1 : Nat) (Option.some Jvm.ClassFile.FieldType.boolean)).before args0 about1 = true := code_word (m := ⟨2, 2⟩) (meth := k2m2) (c := k2c2) (by decide +kernel) rfl rfl rfl (by decide +kernel)
set_option maxRecDepth 65536 in
theorem w_c5 : (Jvm.Cond.code ({ cls := "com/example/istorie/istorie/ShadowScope", name := "follows", desc := "(Lcom/example/istorie/istorie/EntityId;ILjava/util/Set;)Z" } : Jvm.MethodName) prog_65_method_6_code (4 : Nat) (Option.some Jvm.ClassFile.FieldType.boolean)).before args0 about1 = true := code_word (m := ⟨2, 3⟩) (meth := k2m3) (c := k2c3) (by decide +kernel) rfl rfl rfl (by decide +kernel)
set_option maxRecDepth 65536 in
theorem w_c6 : (Jvm.Cond.code ({ cls := "java/lang/Enum", name := "ordinal", desc := "()I" } : Jvm.MethodName) jdk_37_method_2_code (1 : Nat) (Option.some Jvm.ClassFile.FieldType.int)).before args0 about1 = true := code_word (m := ⟨6, 0⟩) (meth := k6m0) (c := k6c0) (by decide +kernel) rfl rfl rfl (by decide +kernel)
def codes1 : List Jvm.Cond := [Jvm.Cond.code x code maxLocals ret, Jvm.Cond.code ({ cls := "com/example/istorie/istorie/ShadowScope", name := "deepPlus", desc := "(I)Lcom/example/istorie/istorie/ShadowScope;" } : Jvm.MethodName) prog_65_method_4_code (1 : Nat) (Option.some (Jvm.ClassFile.FieldType.object "com/example/istorie/istorie/ShadowScope")), Jvm.Cond.code ({ cls := "com/example/istorie/istorie/ShadowScope", name := "<init>", desc := "(Lcom/example/istorie/istorie/ShadowScope$Kind;I)V" } : Jvm.MethodName) prog_65_method_1_code (3 : Nat) (Option.none : Option Jvm.ClassFile.FieldType), Jvm.Cond.code ({ cls := "java/lang/Object", name := "<init>", desc := "()V" } : Jvm.MethodName) object_method_1_code (1 : Nat) (Option.none : Option Jvm.ClassFile.FieldType), Jvm.Cond.code ({ cls := "com/example/istorie/istorie/ShadowScope", name := "needsEntitiesOfShadowCommits", desc := "()Z" } : Jvm.MethodName) prog_65_method_5_code (1 : Nat) (Option.some Jvm.ClassFile.FieldType.boolean), Jvm.Cond.code ({ cls := "com/example/istorie/istorie/ShadowScope", name := "follows", desc := "(Lcom/example/istorie/istorie/EntityId;ILjava/util/Set;)Z" } : Jvm.MethodName) prog_65_method_6_code (4 : Nat) (Option.some Jvm.ClassFile.FieldType.boolean), Jvm.Cond.code ({ cls := "java/lang/Enum", name := "ordinal", desc := "()I" } : Jvm.MethodName) jdk_37_method_2_code (1 : Nat) (Option.some Jvm.ClassFile.FieldType.int)]
set_option maxRecDepth 65536 in
theorem codes_eq : words1.filter isCode = codes1 := rfl
theorem w_codes : ∀ c ∈ words1.filter isCode, c.before args0 about1 = true := by
  rw [codes_eq]
  intro c hc
  simp only [codes1, List.mem_cons, List.not_mem_nil, or_false] at hc
  rcases hc with rfl | rfl | rfl | rfl | rfl | rfl | rfl
  · exact w_c0
  · exact w_c1
  · exact w_c2
  · exact w_c3
  · exact w_c4
  · exact w_c5
  · exact w_c6
set_option maxRecDepth 65536 in
theorem w_t1 : (words1.take 24).all (fun c => isCode c || c.before args0 about1) = true := by decide +kernel
set_option maxRecDepth 65536 in
theorem w_t2 : (words1.drop 24).all (fun c => isCode c || c.before args0 about1) = true := by decide +kernel
theorem w_tables : (allAtoms (Jvm.Cond.code x code maxLocals ret :: tables_1)).before args0 about1 = true := by
  rw [allAtoms_all]
  show words1.all (fun c => c.before args0 about1) = true
  refine all_split ?_ w_codes
  rw [← List.take_append_drop 24 words1, List.all_append, w_t1, w_t2]
  rfl
set_option maxRecDepth 65536 in
theorem w_case : (Jvm.Cond.and given_1 narrow_1).before args0 about1 = true := by decide +kernel
theorem w_applies : (headSpec (Jvm.Cond.code x code maxLocals ret :: tables_1) room_1).applies x e0.platform about1 = true :=
  (Spec.applies_iff w_frames).mpr ⟨w_running, w_runnable, w_alone, w_named, w_hears, w_ripe, w_room, w_tables⟩
theorem atStart : AtStart classFile x code maxLocals ret World_1 tables_1 room_1 Calls_1 rest_1 Pre_1 launch0 p0 e0 about1 theMethod args0 below0 :=
  ⟨lists_1, trivial, launch0.admits_env _ _ _, launch0.least_env, fairChoices_fair.cas, fairChoices_fair.clock, w_frames, w_args, w_heap, w_applies, trivial, trivial, w_case⟩
end start1
theorem witness_1 : WitnessClaimed_1 := ⟨start1.p0, start1.e0, start1.about1, start1.theMethod, start1.args0, start1.below0, start1.atStart⟩
end Jvm.Pilot.@@N@@
