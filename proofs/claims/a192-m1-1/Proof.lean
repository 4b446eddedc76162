import JvmDerived
import JvmDerived.Pilot.@@N@@Statement
import JvmDerived.Pilot.@@N@@Code
set_option linter.unusedVariables false
set_option linter.unusedSimpArgs false
namespace Jvm.RoadKit
open Sem ClassFile Op Lib Jvm.Stand Jvm.Free Jvm.LawKit
/-- the run from S ends, and ends as Q says -/
def Go (tb : Tables) (e : Env) (below : List Frame) (Q : Outcome → State → Prop) (S : State) : Prop := ∃ s₂ o, Steps tb e below S s₂ ∧ s₂.status = .running ∧ Ended s₂ below o ∧ Q o s₂
theorem Go.by {tb : Tables} {e : Env} {below : List Frame} {Q : Outcome → State → Prop} {S S' : State} (h : ∀ t, Steps tb e below S' t → Steps tb e below S t) (k : Go tb e below Q S') : Go tb e below Q S := by
  obtain ⟨s₂, o, h1, r⟩ := k
  exact ⟨s₂, o, h _ h1, r⟩
/-- what a contract says of the end -/
def Ret (s : State) (n0 : Nat) (Q : Option Value → Heap → Prop) (C S : Nat) : Outcome → State → Prop := fun o U => ∃ v L, o = .returned v ∧ (Q v U.heap ∧ Fr n0 L) ∧ FrameEnd s o U L C S
def Met (l : Launch) (Z : State) (n0 : Nat) (y : MethodName) (bytes : ByteArray) (maxL : Nat) (ret : Option FieldType) (ws : List Cond) (rm : Room) (as : Array Value) (h0 : Heap) (Q : Option Value → Heap → Prop) : Prop :=
  MetFree l y (head1 (Cond.code y bytes maxL ret :: ws) rm) (fun a U => a = as ∧ Z.Warmed39 U.vm ∧ U.heap = h0) (fun _ _ _ _ _ => True) (fun _ U o U' => ∃ v L, o = .returned v ∧ (Q v U'.heap ∧ Fr n0 L) ∧ FrameEnd U o U' L rm.cells rm.slots)
/-- where the walk stands: the heap is h, k cells of n slots were made, nothing below n0 was written -/
def Sd (n0 : Nat) (p : Program) (l : Launch) (e : Env) (R : Room) (s : State) (m : MethodId) (args : Array Value) (below : List Frame) (meth : Method) (c : Code) (T : State) (h : Heap) (k n : Nat) : Prop :=
  ∃ locs, Stand p l e R s m args below meth c T locs k n ∧ Fr n0 locs ∧ T.heap = h
section Sds
variable {n0 : Nat} {p : Program} {l : Launch} {e : Env} {R : Room} {s : State} {m : MethodId} {args : Array Value} {below : List Frame} {meth : Method} {c : Code} {T : State} {h : Heap} {k n : Nat} {Z : State} {a0 : Array Value}
theorem catV {v : Value} (h : v.isRef = true) : v.category = 1 := by cases v <;> first | rfl | (cases h; done)
theorem Sd.here (X : Sd n0 p l e R s m args below meth c T h k n) : At T m c below := by obtain ⟨_, X, -⟩ := X; exact X.here
theorem Sd.more (X : Sd n0 p l e R s m args below meth c T h k n) {k' n' : Nat} (hk : k ≤ k') (hn : n ≤ n') : Sd n0 p l e R s m args below meth c T h k' n' := by
  obtain ⟨L, X, N, q⟩ := X; exact ⟨L, X.more hk hn, N, q⟩
theorem enter {y : MethodName} {bytes : ByteArray} {maxL : Nat} {ret : Option FieldType} {ws : List Cond} {rm : Room} {as : Array Value} {h0 : Heap} {Q : Option Value → Heap → Prop} {Ls : Array Slot}
    (hpl : plainFor y = true) (hef : ∀ m, entryFrame m as maxL = mkF m 0 Ls [])
    (body : ∀ (p : Program) (e : Env) (s : State) (m : MethodId) (below : List Frame) (meth : Method) (c : Code) (T0 : State), p.tables.exec = Jvm.exec → c.code = bytes → c.maxLocals = maxL → s.vm.findClass y.cls = some m.cls → meth.name = y.name → meth.sig.returnType = ret → meth.locks = false → Z.Warmed39 s.vm →
      Sd n0 p l e rm s m as below meth c T0 h0 0 0 → Go p.tables e below (Ret s n0 Q rm.cells rm.slots) (T0.setTop (mkF m 0 Ls []))) : Met l Z n0 y bytes maxL ret ws rm as h0 Q := by
  refine MetFree.of_bodySF hpl hisR ?_
  intro p e s m args below meth c s₁ Bd hml0 hP hK
  obtain ⟨rfl, hZ, hh⟩ := hP
  have X0 : Stand p l e rm s m args below meth c s₁ [] 0 0 := Stand.of_body Bd
  have e0 : s₁.heap = h0 := by rw [← hh, Bd.state]; rfl
  have hlk : meth.locks = false := BodyLoose.notSynchronized Bd
  have k := body p e s m below meth c s₁ Bd.exec Bd.bytes hml0 (findClass_of_methodNamed Bd.named) (name_of_methodNamed Bd.named Bd.method).1 Bd.returns hlk hZ ⟨[], X0, Fr.nil n0, e0⟩
  obtain ⟨s₂, o, h1, h2, h3, h4⟩ := k
  exact ⟨s₂, o, castTop (hef m) h1, h2, h3, h4⟩
/-! returns -/
theorem Go.leave (X : Sd n0 p l e R s m args below meth c T h k n) {Q : Option Value → Heap → Prop} {C S : Nat} {v : Option Value} {g : JFrame} (hlk : meth.locks = false) (hv : meth.sig.returnType = none → v = none)
    (hst : ∀ fs, (∀ (f : JFrame) (acts : List Action), f.method = m → f.locked = none → f.entered = [] → (doReturn e (T.setTop f) acts v).1 = T.setFrames fs) → Steps p.tables e below (T.setTop g) (T.setFrames fs))
    (hk : k ≤ C) (hn : n ≤ S) (hQ : Q v h) : Go p.tables e below (Ret s n0 Q C S) (T.setTop g) := by
  obtain ⟨L, X, N, q⟩ := X
  obtain ⟨fs, hr, hrun, hended, hW, hsame⟩ := X.leave (v := v) hv hlk
  refine ⟨_, _, hst fs hr, hrun, hended, _, L, rfl, ⟨?_, N⟩, ⟨_, rfl⟩, hW, hsame.mono hk hn⟩
  show Q v T.heap
  rw [q]; exact hQ
theorem Go.retN (X : Sd n0 p l e R s m args below meth c T h k n) (hx : p.tables.exec = Jvm.exec) (hlk : meth.locks = false) {Q : Option Value → Heap → Prop} {C S : Nat} {t : FieldType} {pc : Nat} {Ls : Array Slot} {z z' : Int32} {rest : List Value} (hret : meth.sig.returnType = some t) (ht : t = .boolean ∨ t = .byte ∨ t = .char ∨ t = .short)
    (hd : decode c.code pc = .ok (.ireturn, 1)) (hz : nar t z = z') (hk : k ≤ C) (hn : n ≤ S) (hQ : Q (some (.int z')) h) : Go p.tables e below (Ret s n0 Q C S) (T.setTop (mkF m pc Ls (.int z :: rest))) := by
  subst hz
  refine Go.leave X hlk (fun q => by rw [hret] at q; cases q) (fun fs hr => ?_) hk hn hQ
  obtain ⟨L, X, -⟩ := X
  exact Jvm.RoadKit.retN X hx hret ht hd hr
theorem Go.retI (X : Sd n0 p l e R s m args below meth c T h k n) (hx : p.tables.exec = Jvm.exec) (hlk : meth.locks = false) {Q : Option Value → Heap → Prop} {C S : Nat} {pc : Nat} {Ls : Array Slot} {z : Int32} {rest : List Value} (hret : meth.sig.returnType = some .int)
    (hd : decode c.code pc = .ok (.ireturn, 1)) (hk : k ≤ C) (hn : n ≤ S) (hQ : Q (some (.int z)) h) : Go p.tables e below (Ret s n0 Q C S) (T.setTop (mkF m pc Ls (.int z :: rest))) := by
  refine Go.leave X hlk (fun q => by rw [hret] at q; cases q) (fun fs hr => ?_) hk hn hQ
  obtain ⟨L, X, -⟩ := X
  exact retOut X hx hret rfl (Or.inl ⟨rfl, Or.inl rfl, _, rfl⟩) hd hr
theorem Go.retL (X : Sd n0 p l e R s m args below meth c T h k n) (hx : p.tables.exec = Jvm.exec) (hlk : meth.locks = false) {Q : Option Value → Heap → Prop} {C S : Nat} {pc : Nat} {Ls : Array Slot} {z : Int64} {rest : List Value} (hret : meth.sig.returnType = some .long)
    (hd : decode c.code pc = .ok (.lreturn, 1)) (hk : k ≤ C) (hn : n ≤ S) (hQ : Q (some (.long z)) h) : Go p.tables e below (Ret s n0 Q C S) (T.setTop (mkF m pc Ls (.long z :: rest))) := by
  refine Go.leave X hlk (fun q => by rw [hret] at q; cases q) (fun fs hr => ?_) hk hn hQ
  obtain ⟨L, X, -⟩ := X
  exact retOut X hx hret rfl (Or.inr (Or.inl ⟨rfl, rfl, _, rfl⟩)) hd hr
theorem Go.retA (X : Sd n0 p l e R s m args below meth c T h k n) (hx : p.tables.exec = Jvm.exec) (hlk : meth.locks = false) {Q : Option Value → Heap → Prop} {C S : Nat} {t : FieldType} {pc : Nat} {Ls : Array Slot} {w : Value} {rest : List Value} (hret : meth.sig.returnType = some t) (ht : t.isReference = true) (hw : w.isRef = true)
    (hd : decode c.code pc = .ok (.areturn, 1)) (hk : k ≤ C) (hn : n ≤ S) (hQ : Q (some w) h) : Go p.tables e below (Ret s n0 Q C S) (T.setTop (mkF m pc Ls (w :: rest))) := by
  refine Go.leave X hlk (fun q => by rw [hret] at q; cases q) (fun fs hr => ?_) hk hn hQ
  obtain ⟨L, X, -⟩ := X
  have hnar : narrow t w = w := by cases t <;> first | (cases ht; done) | (cases w <;> first | rfl | (cases hw; done))
  exact retOut X hx hret hnar (Or.inr (Or.inr (Or.inr (Or.inr ⟨rfl, ht, hw⟩)))) hd hr
theorem Go.ret0 (X : Sd n0 p l e R s m args below meth c T h k n) (hx : p.tables.exec = Jvm.exec) (hlk : meth.locks = false) {Q : Option Value → Heap → Prop} {C S : Nat} {pc : Nat} {Ls : Array Slot} (hret : meth.sig.returnType = none)
    (hd : decode c.code pc = .ok (.return_, 1)) (hk : k ≤ C) (hn : n ≤ S) (hQ : Q none h) : Go p.tables e below (Ret s n0 Q C S) (T.setTop (mkF m pc Ls [])) := by
  refine Go.leave X hlk (fun _ => rfl) (fun fs hr => ?_) hk hn hQ
  obtain ⟨L, X, -⟩ := X
  exact X.returnOut hx hret hd hr
/-! fields, statics, casts -/
theorem Sd.getF (X : Sd n0 p l e R s m args below meth c T h k n) (hx : p.tables.exec = Jvm.exec) (hZ : Z.Warmed39 s.vm) {own R0 O nm d host : String} {index : Nat} (hown : s.vm.findClass own = some m.cls) (w : (Cond.fieldLink own index R0 nm d).before a0 Z = true ∨ (Cond.fieldLinkNest own index R0 nm d host).before a0 Z = true) (via : Via Z R0 O nm d)
    {a : Addr} {v : Value} (F : Fld Z h a O nm d v) {g : JFrame} (hg : g.method = m) {rest : List Value} (hs : g.stack = .ref a :: rest) (hd : decode c.code g.pc = .ok (.getfield index, 3)) :
    ∃ T', Sd n0 p l e R s m args below meth c T' h k n ∧ ∀ target, Steps p.tables e below (T'.setTop { g with pc := g.pc + 3, stack := v :: rest }) target → Steps p.tables e below (T.setTop g) target := by
  obtain ⟨L, X, N, q⟩ := X
  obtain ⟨T', X', e', st⟩ := Jvm.RoadKit.getF X hx hZ hown w via q F hg hs hd
  exact ⟨T', ⟨L, X', N, e'⟩, st⟩
theorem Sd.getS (X : Sd n0 p l e R s m args below meth c T h k n) (hx : p.tables.exec = Jvm.exec) (hZ : Z.Warmed39 s.vm) {own R0 O nm d host : String} {index : Nat} (hown : s.vm.findClass own = some m.cls) (w : (Cond.fieldLink own index R0 nm d).before a0 Z = true ∨ (Cond.fieldLinkNest own index R0 nm d host).before a0 Z = true) (via : Via Z R0 O nm d)
    {v : Value} (F : Sta Z h O nm d v) {g : JFrame} (hg : g.method = m) (hd : decode c.code g.pc = .ok (.getstatic index, 3)) :
    ∃ T', Sd n0 p l e R s m args below meth c T' h k n ∧ ∀ target, Steps p.tables e below (T'.setTop { g with pc := g.pc + 3, stack := v :: g.stack }) target → Steps p.tables e below (T.setTop g) target := by
  obtain ⟨L, X, N, q⟩ := X
  obtain ⟨T', X', e', st⟩ := getS2 X hx hZ hown w via q F hg hd
  exact ⟨T', ⟨L, X', N, e'⟩, st⟩
theorem Sd.putF (X : Sd n0 p l e R s m args below meth c T h k n) (hx : p.tables.exec = Jvm.exec) (hZ : Z.Warmed39 s.vm) {own R0 O nm d host C : String} {index kk : Nat} {ty : FieldType} (hown : s.vm.findClass own = some m.cls) (w : (Cond.fieldLink own index R0 nm d).before a0 Z = true ∨ (Cond.fieldLinkNest own index R0 nm d host).before a0 Z = true) (via : Via Z R0 O nm d)
    {a : Addr} {v old : Value} (F : Fld Z h a O nm d old) (E : Exa Z h a C) (ga : n0 ≤ a) (L : (Cond.lays C O nm d).before a0 Z = true ∨ ((Cond.laysFinal C O nm d).before a0 Z = true ∧ own = O ∧ meth.name = "<init>")) (wi : (Cond.instantiable C kk).before a0 Z = true)
    (hty : parseFieldDescriptor d = some ty) (hnr : narrow ty v = v) (hf : fits ty v = true) {g : JFrame} (hg : g.method = m) {rest : List Value} (hs : g.stack = v :: .ref a :: rest) (hd : decode c.code g.pc = .ok (.putfield index, 3)) :
    ∃ T' h', Sd n0 p l e R s m args below meth c T' h' k n ∧ Wr h h' a (slotOf Z O nm d) v ∧ ∀ target, Steps p.tables e below (T'.setTop { g with pc := g.pc + 3, stack := rest }) target → Steps p.tables e below (T.setTop g) target := by
  obtain ⟨Lc, X, N, q⟩ := X
  obtain ⟨T', h', X', e', W, st⟩ := Jvm.RoadKit.putF X hx hZ hown w via q F E L wi hty hnr hf hg hs hd
  exact ⟨T', h', ⟨_, X', Fr.snoc X' N ga, e'⟩, W, st⟩
theorem Sd.putFN (X : Sd n0 p l e R s m args below meth c T h k n) (hx : p.tables.exec = Jvm.exec) (hZ : Z.Warmed39 s.vm) {own R0 O nm d C : String} {index kk : Nat} {ty : FieldType} (hown : s.vm.findClass own = some m.cls) (w : (Cond.fieldLink own index R0 nm d).before a0 Z = true) (via : Via Z R0 O nm d)
    {a : Addr} {v v' old : Value} (F : Fld Z h a O nm d old) (E : Exa Z h a C) (ga : n0 ≤ a) (L : (Cond.lays C O nm d).before a0 Z = true ∨ ((Cond.laysFinal C O nm d).before a0 Z = true ∧ own = O ∧ meth.name = "<init>")) (wi : (Cond.instantiable C kk).before a0 Z = true)
    (hty : parseFieldDescriptor d = some ty) (hnr : narrow ty v = v') (hf : fits ty v' = true) {g : JFrame} (hg : g.method = m) {rest : List Value} (hs : g.stack = v :: .ref a :: rest) (hd : decode c.code g.pc = .ok (.putfield index, 3)) :
    ∃ T' h', Sd n0 p l e R s m args below meth c T' h' k n ∧ Wr h h' a (slotOf Z O nm d) v' ∧ ∀ target, Steps p.tables e below (T'.setTop { g with pc := g.pc + 3, stack := rest }) target → Steps p.tables e below (T.setTop g) target := by
  obtain ⟨Lc, X, N, q⟩ := X
  obtain ⟨T', h', X', e', W, st⟩ := Jvm.RoadKit.putFN X hx hZ hown w via q F E L wi hty hnr hf hg hs hd
  exact ⟨T', h', ⟨_, X', Fr.snoc X' N ga, e'⟩, W, st⟩
theorem Sd.castY (X : Sd n0 p l e R s m args below meth c T h k n) (hx : p.tables.exec = Jvm.exec) (hZ : Z.Warmed39 s.vm) {own K : String} {index : Nat} (hown : s.vm.findClass own = some m.cls) (w : (Cond.classLink own index K).before a0 Z = true) {a : Addr} (F : Ins Z h a K true)
    {g : JFrame} (hg : g.method = m) {rest : List Value} (hs : g.stack = .ref a :: rest) (hd : decode c.code g.pc = .ok (.checkcast index, 3)) :
    ∃ T', Sd n0 p l e R s m args below meth c T' h k n ∧ ∀ target, Steps p.tables e below (T'.setTop { g with pc := g.pc + 3 }) target → Steps p.tables e below (T.setTop g) target := by
  obtain ⟨L, X, N, q⟩ := X
  obtain ⟨T', X', e', st⟩ := Jvm.RoadKit.castY X hx hZ hown w q F hg hs hd
  exact ⟨T', ⟨L, X', N, e'⟩, st⟩
theorem Sd.instY (X : Sd n0 p l e R s m args below meth c T h k n) (hx : p.tables.exec = Jvm.exec) (hZ : Z.Warmed39 s.vm) {own K : String} {index : Nat} (hown : s.vm.findClass own = some m.cls) (w : (Cond.classLink own index K).before a0 Z = true) {a : Addr} (F : Ins Z h a K true)
    {g : JFrame} (hg : g.method = m) {rest : List Value} (hs : g.stack = .ref a :: rest) (hd : decode c.code g.pc = .ok (.instanceof index, 3)) :
    ∃ T', Sd n0 p l e R s m args below meth c T' h k n ∧ ∀ target, Steps p.tables e below (T'.setTop { g with pc := g.pc + 3, stack := .int 1 :: rest }) target → Steps p.tables e below (T.setTop g) target := by
  obtain ⟨L, X, N, q⟩ := X
  obtain ⟨T', X', e', st⟩ := Jvm.RoadKit.instY X hx hZ hown w q F hg hs hd
  exact ⟨T', ⟨L, X', N, e'⟩, st⟩
theorem Sd.instNull (X : Sd n0 p l e R s m args below meth c T h k n) (hx : p.tables.exec = Jvm.exec) {index : Nat} {g : JFrame} (hg : g.method = m) {rest : List Value} (hs : g.stack = .null :: rest) (hd : decode c.code g.pc = .ok (.instanceof index, 3)) :
    ∀ target, Steps p.tables e below (T.setTop { g with pc := g.pc + 3, stack := .int 0 :: rest }) target → Steps p.tables e below (T.setTop g) target := by
  obtain ⟨L, X, -⟩ := X; exact X.instanceofNull hx hg hs hd
theorem Sd.ldcInt (X : Sd n0 p l e R s m args below meth c T h k n) (hx : p.tables.exec = Jvm.exec) (hZ : Z.Warmed39 s.vm) {own : String} {index : Nat} {v : Int32} (hown : s.vm.findClass own = some m.cls) (w : (Cond.constant own index v).before a0 Z = true) {g : JFrame} (hg : g.method = m) (hd : decode c.code g.pc = .ok (.ldc index, 2)) :
    ∀ target, Steps p.tables e below (T.setTop { g with pc := g.pc + 2, stack := .int v :: g.stack }) target → Steps p.tables e below (T.setTop g) target := by
  obtain ⟨L, X, -⟩ := X; exact X.ldcInt hx hown (mvT hZ w) hg hd
theorem Sd.ldc2Long (X : Sd n0 p l e R s m args below meth c T h k n) (hx : p.tables.exec = Jvm.exec) (hZ : Z.Warmed39 s.vm) {own : String} {index : Nat} {v : Int64} (hown : s.vm.findClass own = some m.cls) (w : (Cond.constantLong own index v).before a0 Z = true) {g : JFrame} (hg : g.method = m) (hd : decode c.code g.pc = .ok (.ldc2_w index, 3)) :
    ∀ target, Steps p.tables e below (T.setTop { g with pc := g.pc + 3, stack := .long v :: g.stack }) target → Steps p.tables e below (T.setTop g) target := by
  obtain ⟨L, X, -⟩ := X; exact X.ldc2Long hx hown (mvT hZ w) hg hd
theorem Sd.acmp {g : JFrame} (X : Sd n0 p l e R s m args below meth c T h k n) (hx : p.tables.exec = Jvm.exec) (hg : g.method = m) {cd : ACond} {x y : Value} (h1 : x.isRef = true) (h2 : y.isRef = true) {rest : List Value} {o : Int} {pc0 pc' : Nat} {same : Bool} (hpc : g.pc = pc0)
    (hd : decode c.code g.pc = .ok (.if_acmp cd o, 3)) (hs : g.stack = y :: x :: rest) (hq : decide (x = y) = same) (ho : 0 ≤ (pc0 : Int) + o) (hp : pc' = if acV cd same = true then ((pc0 : Int) + o).toNat else pc0 + 3) :
    ∀ target, Steps p.tables e below (T.setTop { g with pc := pc', stack := rest }) target → Steps p.tables e below (T.setTop g) target := by
  obtain ⟨L, X, -⟩ := X; exact fun _ => Jvm.RoadKit.acmp X hx hg h1 h2 hpc hd hs hq ho hp
theorem Sd.getFR (X : Sd n0 p l e R s m args below meth c T h k n) (hx : p.tables.exec = Jvm.exec) (hZ : Z.Warmed39 s.vm) {own O nm d : String} {index : Nat} (hown : s.vm.findClass own = some m.cls) (w : (Cond.fieldRef own index O nm d).before a0 Z = true)
    {a : Addr} {v : Value} (F : Fld Z h a O nm d v) {g : JFrame} (hg : g.method = m) {rest : List Value} (hs : g.stack = .ref a :: rest) (hd : decode c.code g.pc = .ok (.getfield index, 3)) :
    ∀ target, Steps p.tables e below (T.setTop { g with pc := g.pc + 3, stack := v :: rest }) target → Steps p.tables e below (T.setTop g) target := by
  obtain ⟨L, X, N, q⟩ := X
  obtain ⟨cell, cf, kk, i, f, h1, h2, h3, h4, h5, h6, h7⟩ := F
  have hT : Z.Warmed39 T.vm := wtrans hZ X.warmed
  have w' := Cond.fieldRef_warmed39 hT w
  have hcur : (Z.setVm T.vm).vm.findClass own = some m.cls := by show T.vm.findClass own = _; rw [X.warmed.alike.findClass]; exact hown
  obtain ⟨c', k', i', f', e1, e2⟩ := Cond.fieldRef_spec hcur w'
  obtain ⟨k2, hi, -⟩ := State.fieldFound?_setVm (s := Z) hT.alike h2
  cases e1.symm.trans hi
  intro target hrest
  subst hg
  jvm_step X.here [hx, hd, getfield.wp_ready (e := e) (s := T) (f := g) X.here.top e2 h3 hs (by rw [q]; exact h1) h4 h7]
  exact hrest
/-! making -/
theorem Sd.newO (X : Sd n0 p l e R s m args below meth c T h k n) (hx : p.tables.exec = Jvm.exec) (hZ : Z.Warmed39 s.vm) {own C : String} {index sz k' n' : Nat} (hown : s.vm.findClass own = some m.cls) (w : (Cond.classLink own index C).before a0 Z = true) (wi : (Cond.instantiable C sz).before a0 Z = true) (wz : (Cond.initialized C).before a0 Z = true)
    {g : JFrame} (hg : g.method = m) (hd : decode c.code g.pc = .ok (.new index, 3)) (hk : k + 1 = k') (hn : n + sz = n') (hc : k' ≤ R.cells) (hl : n' ≤ R.slots) :
    ∃ T' h' a, Sd n0 p l e R s m args below meth c T' h' k' n' ∧ a = h.size ∧ Ext h h' ∧ Exa Z h' a C ∧ (∀ {O nm d : String} {ty : FieldType}, Laid Z a0 C O nm d → parseFieldDescriptor d = some ty → Fld Z h' a O nm d (defaultValue ty)) ∧
      ∀ target, Steps p.tables e below (T'.setTop { g with pc := g.pc + 3, stack := .ref a :: g.stack }) target → Steps p.tables e below (T.setTop g) target := by
  subst hk hn
  obtain ⟨L, X, N, q⟩ := X
  obtain ⟨T', h', X', e', E, A, D, -, st⟩ := Jvm.RoadKit.newO X hx hZ hown w wi wz q hg hd hc hl
  exact ⟨T', h', _, ⟨L, X', N, e'⟩, rfl, E, A, D, st⟩
theorem Sd.initO (X : Sd n0 p l e R s m args below meth c T h k n) (hx : p.tables.exec = Jvm.exec) (hZ : Z.Warmed39 s.vm) {own : String} {idx : Nat} (hown : s.vm.findClass own = some m.cls) (w1 : (Cond.methodLink own idx Lib.objectInit).before a0 Z = true) (w2 : (Cond.instanceMethod Lib.objectInit).before a0 Z = true)
    (w3 : (Cond.code Lib.objectInit ⟨#[0xb1]⟩ 1 none).before a0 Z = true) {g : JFrame} (hg : g.method = m) (hsize : g.locals.size = c.maxLocals) {a : Addr} {rest : List Value} (hs : g.stack = .ref a :: rest) (hd : decode c.code g.pc = .ok (.invokespecial idx, 3))
    (hf : 1 ≤ R.frames) (hl : 2 * g.monitorRoom + (rest.map fun v => v.category).sum + 12 ≤ R.locals) :
    ∃ T', Sd n0 p l e R s m args below meth c T' h k n ∧ ∀ target, Steps p.tables e below (T'.setTop { g with pc := g.pc + 3, stack := rest }) target → Steps p.tables e below (T.setTop g) target := by
  obtain ⟨L, X, N, q⟩ := X
  obtain ⟨T', X', e', st⟩ := Jvm.RoadKit.initO X hx hZ hown w1 w2 w3 q hg hsize hs hd hf (W := 2 * g.monitorRoom + (rest.map fun v => v.category).sum) (Nat.le_refl _) hl
  exact ⟨T', ⟨L, X', N, e'⟩, st⟩
/-- an array of n' places, place i holds f i -/
def Avf (Z : State) (h : Heap) (a : Addr) (kc : ClassId) (ty : FieldType) (sz : Nat) (f : Nat → Value) : Prop := ∃ cl : Cell, Arr Z h a cl ty ∧ cl.cls = kc ∧ cl.slots.size = sz ∧ sz < 2 ^ 31 ∧ ∀ i, i < sz → cl.slots[i]? = some (f i) ∧ fits ty (f i) = true
theorem Avf.lt {h : Heap} {a : Addr} {kc : ClassId} {ty : FieldType} {sz : Nat} {f : Nat → Value} (F : Avf Z h a kc ty sz f) : a < h.size := by obtain ⟨_, A, -⟩ := F; exact A.lt
theorem Avf.ext {h h' : Heap} {a : Addr} {kc : ClassId} {ty : FieldType} {sz : Nat} {f : Nat → Value} (F : Avf Z h a kc ty sz f) (E : Ext h h') : Avf Z h' a kc ty sz f := by obtain ⟨cl, A, r⟩ := F; exact ⟨cl, A.ext E, r⟩
theorem Avf.other {h h' : Heap} {a b : Addr} {kc : ClassId} {ty : FieldType} {sz sl : Nat} {f : Nat → Value} {v : Value} (F : Avf Z h b kc ty sz f) (W : Wr h h' a sl v) (q : b ≠ a) : Avf Z h' b kc ty sz f := by obtain ⟨cl, A, r⟩ := F; exact ⟨cl, A.other W q, r⟩
theorem Avf.keep {h h' : Heap} {a : Addr} {kc : ClassId} {ty : FieldType} {sz : Nat} {f : Nat → Value} {ws : List Addr} (F : Avf Z h a kc ty sz f) (K : Keep h h' ws) (q : a ∉ ws) : Avf Z h' a kc ty sz f := by obtain ⟨cl, A, r⟩ := F; exact ⟨cl, ⟨K.2.1 a cl A.1 q, A.2⟩, r⟩
theorem Avf.cong {h : Heap} {a : Addr} {kc : ClassId} {ty : FieldType} {sz : Nat} {f g : Nat → Value} (F : Avf Z h a kc ty sz f) (q : ∀ i, i < sz → f i = g i) : Avf Z h a kc ty sz g := by
  obtain ⟨cl, A, r1, r2, r3, r4⟩ := F; exact ⟨cl, A, r1, r2, r3, fun i hi => by rw [← q i hi]; exact r4 i hi⟩
theorem Avf.set {h h' : Heap} {a : Addr} {kc : ClassId} {ty : FieldType} {sz : Nat} {f : Nat → Value} {v : Value} {j : Nat} (F : Avf Z h a kc ty sz f) (W : Wr h h' a j v) (hv : fits ty v = true) : Avf Z h' a kc ty sz (fun i => if i = j then v else f i) := by
  obtain ⟨cl, A, r1, r2, r3, r4⟩ := F
  refine ⟨_, A.same W, r1, by rw [sz_set]; exact r2, r3, fun i hi => ?_⟩
  by_cases q : i = j
  · subst q; simp [Cell.setSlot, r2, hi, hv]
  · simp [Cell.setSlot, q, r4 i hi, Array.getElem?_setIfInBounds_ne (Ne.symm q)]
theorem Avf.of_arv {h : Heap} {a : Addr} {kc : ClassId} {ty : FieldType} {z : Int32} {vs : List Value} {dv : Value} (F : Arv Z h a kc ty z vs dv) : Avf Z h a kc ty z.toNatClampNeg (fun i => vs.getD i dv) := by
  obtain ⟨cl, A, r1, r2, r3, H, G⟩ := F
  exact ⟨cl, A, r1, r2, (back32 r3).2, fun i hi => ⟨H i (by rw [r2]; exact hi), G i (by rw [r2]; exact hi)⟩⟩
theorem Sd.newP (X : Sd n0 p l e R s m args below meth c T h k n) (hx : p.tables.exec = Jvm.exec) (hZ : Z.Warmed39 s.vm) {aty : ArrayType} (w : (Cond.arrayClass (newarray.typeOf aty)).before a0 Z = true) {g : JFrame} (hg : g.method = m) (hd : decode c.code g.pc = .ok (.newarray aty, 2)) {z : Int32} {rest : List Value} (hs : g.stack = .int z :: rest)
    (hz : ¬ z < 0) {sz cap k' n' : Nat} (hsz : z.toNatClampNeg = sz) (hcap : sz ≤ cap) (hb : cap * 8 ≤ 536870912) (hk : k + 1 = k') (hn : n + cap = n') (hc : k' ≤ R.cells) (hl : n' ≤ R.slots) {ad : String} (had : "[" ++ (newarray.typeOf aty).toString = ad) :
    ∃ T' h' kc a, Sd n0 p l e R s m args below meth c T' h' k' n' ∧ a = h.size ∧ Ext h h' ∧ Exa Z h' a ad ∧ Avf Z h' a kc (newarray.typeOf aty) sz (fun _ => defaultValue (newarray.typeOf aty)) ∧
      ∀ target, Steps p.tables e below (T'.setTop { g with pc := g.pc + 2, stack := .ref a :: rest }) target → Steps p.tables e below (T.setTop g) target := by
  subst hk hn hsz
  obtain ⟨L, X, N, q⟩ := X
  obtain ⟨T', h', kc, X', e', E, A, Ex, st⟩ := Jvm.RoadKit.newPE X hx hZ w q hg hd hs hz hcap hb hc hl had
  refine ⟨T', h', kc, _, ⟨L, X', N, e'⟩, rfl, E, Ex, ⟨_, A, rfl, sz_new _ _ _, (back32 hz).2, fun i hi => ⟨by simp [newA, hi], ?_⟩⟩, st⟩
  cases aty <;> rfl
theorem Sd.newR (X : Sd n0 p l e R s m args below meth c T h k n) (hx : p.tables.exec = Jvm.exec) (hZ : Z.Warmed39 s.vm) {own C : String} {index : Nat} (hown : s.vm.findClass own = some m.cls) (w1 : (Cond.classLink own index C).before a0 Z = true) (w2 : (Cond.arrayOver (.object C)).before a0 Z = true)
    {g : JFrame} (hg : g.method = m) (hd : decode c.code g.pc = .ok (.anewarray index, 3)) {z : Int32} {rest : List Value} (hs : g.stack = .int z :: rest)
    (hz : ¬ z < 0) {sz cap k' n' : Nat} (hsz : z.toNatClampNeg = sz) (hcap : sz ≤ cap) (hb : cap * 8 ≤ 536870912) (hk : k + 1 = k') (hn : n + cap = n') (hc : k' ≤ R.cells) (hl : n' ≤ R.slots) {ad : String} (had : "[" ++ (FieldType.object C).toString = ad) :
    ∃ T' h' kc a, Sd n0 p l e R s m args below meth c T' h' k' n' ∧ a = h.size ∧ Ext h h' ∧ Exa Z h' a ad ∧ Avf Z h' a kc (.object C) sz (fun _ => .null) ∧ Ovr Z kc C ∧
      ∀ target, Steps p.tables e below (T'.setTop { g with pc := g.pc + 3, stack := .ref a :: rest }) target → Steps p.tables e below (T.setTop g) target := by
  subst hk hn hsz
  obtain ⟨L, X, N, q⟩ := X
  obtain ⟨T', h', kc, X', e', E, A, Ex, O, st⟩ := Jvm.RoadKit.newRE X hx hZ hown w1 w2 q hg hd hs hz hcap hb hc hl had
  exact ⟨T', h', kc, _, ⟨L, X', N, e'⟩, rfl, E, Ex, ⟨_, A, rfl, sz_new _ _ _, (back32 hz).2, fun i hi => ⟨by simp [newA, hi, defaultValue], rfl⟩⟩, O, st⟩
theorem Sd.clone (X : Sd n0 p l e R s m args below meth c T h k n) (hx : p.tables.exec = Jvm.exec) (hZ : Z.Warmed39 s.vm) {own ad : String} {index : Nat} (hown : s.vm.findClass own = some m.cls)
    (w1 : (Cond.methodLink own index ⟨ad, "clone", "()Ljava/lang/Object;"⟩).before a0 Z = true) (w2 : (Cond.sameMethod ad "java/lang/Object" "clone" "()Ljava/lang/Object;").before a0 Z = true) (w3 : (Cond.native ⟨"java/lang/Object", "clone", "()Ljava/lang/Object;"⟩).before a0 Z = true)
    (w4 : (Cond.instanceMethod ⟨"java/lang/Object", "clone", "()Ljava/lang/Object;"⟩).before a0 Z = true) (w5 : (Cond.selects ad ⟨ad, "clone", "()Ljava/lang/Object;"⟩ ⟨"java/lang/Object", "clone", "()Ljava/lang/Object;"⟩).before a0 Z = true) (w6 : (Cond.castable ad "java/lang/Cloneable").before a0 Z = true)
    {a : Addr} {kc : ClassId} {ty : FieldType} {sz : Nat} {f : Nat → Value} (F : Avf Z h a kc ty sz f) (E : Exa Z h a ad) {g : JFrame} (hg : g.method = m) (hsize : g.locals.size = c.maxLocals) {rest : List Value} (hst : g.stack = .ref a :: rest) (hd : decode c.code g.pc = .ok (.invokevirtual index, 3))
    (hf : 1 ≤ R.frames) (hl : 2 * g.monitorRoom + (rest.map fun v => v.category).sum + 14 ≤ R.locals) {cap k' n' : Nat} (hcap : sz ≤ cap) (hk : k + 1 = k') (hn : n + cap = n') (hc : k' ≤ R.cells) (hs : n' ≤ R.slots) :
    ∃ T' h' b, Sd n0 p l e R s m args below meth c T' h' k' n' ∧ b = h.size ∧ Ext h h' ∧ Exa Z h' b ad ∧ Avf Z h' b kc ty sz f ∧ ∀ target, Steps p.tables e below (T'.setTop { g with pc := g.pc + 3, stack := .ref b :: rest }) target → Steps p.tables e below (T.setTop g) target := by
  subst hk hn
  obtain ⟨L, X, N, q⟩ := X
  obtain ⟨cl, A, r1, r2, r3, r4⟩ := F
  have FC : FitC Z cl := fitC_of A fun i hi v hv => by rw [(r4 i (r2 ▸ hi)).1] at hv; cases hv; exact (r4 i (r2 ▸ hi)).2
  obtain ⟨T', h', X', e', ex, A', E', st⟩ := cloneA X hx hZ hown w1 w2 w3 w4 w5 w6 q A E FC hg hsize hst hd hf (W := 2 * g.monitorRoom + (rest.map fun v => v.category).sum) (Nat.le_refl _) hl (by rw [r2]; exact hcap) hc hs
  exact ⟨T', h', _, ⟨L, X', N, e'⟩, rfl, ex, E', ⟨cloneOf cl, A', r1, r2, r3, r4⟩, st⟩
/-! arrays: length, load, store -/
theorem Sd.len (X : Sd n0 p l e R s m args below meth c T h k n) (hx : p.tables.exec = Jvm.exec) (hZ : Z.Warmed39 s.vm) {a : Addr} {kc : ClassId} {ty : FieldType} {sz : Nat} {f : Nat → Value} (F : Avf Z h a kc ty sz f) {z : Int32} (hz : sz.toInt32 = z)
    {g : JFrame} (hg : g.method = m) {rest : List Value} (hs : g.stack = .ref a :: rest) (hd : decode c.code g.pc = .ok (.arraylength, 1)) :
    ∀ target, Steps p.tables e below (T.setTop { g with pc := g.pc + 1, stack := .int z :: rest }) target → Steps p.tables e below (T.setTop g) target := by
  obtain ⟨L, X, -, q⟩ := X
  obtain ⟨cl, A, r1, r2, r3, r4⟩ := F
  intro t kt
  refine X.arraylength hx (by rw [q]; exact A.1) (State.isArrayOf_alike hZ.alike A.2.1) hg hs hd _ ?_
  rw [r2, hz]; exact kt
theorem inb {cl : Cell} {sz i : Nat} {j : Int32} (r2 : cl.slots.size = sz) (hj : ¬ j < 0) (hi : j.toNatClampNeg = i) (hlt : i < sz) : ¬ (j < 0 ∨ cl.slots.size ≤ j.toNatClampNeg) := fun q => q.elim hj fun q => by omega
theorem Sd.ldI (X : Sd n0 p l e R s m args below meth c T h k n) (hx : p.tables.exec = Jvm.exec) (hZ : Z.Warmed39 s.vm) {a : Addr} {kc : ClassId} {sz : Nat} {f : Nat → Value} (F : Avf Z h a kc .int sz f) {j : Int32} (hj : ¬ j < 0) {i : Nat} (hi : j.toNatClampNeg = i) (hlt : i < sz) {v : Value} (hv : f i = v)
    {g : JFrame} (hg : g.method = m) {rest : List Value} (hs : g.stack = .int j :: .ref a :: rest) (hd : decode c.code g.pc = .ok (.iaload, 1)) :
    ∀ target, Steps p.tables e below (T.setTop { g with pc := g.pc + 1, stack := v :: rest }) target → Steps p.tables e below (T.setTop g) target := by
  subst hv
  obtain ⟨L, X, -, q⟩ := X
  obtain ⟨cl, A, r1, r2, r3, r4⟩ := F
  exact X.iaload hx (by rw [q]; exact A.1) (State.isArrayOf_alike hZ.alike A.2.1) A.2.2 (inb r2 hj hi hlt) (by rw [hi]; exact (r4 i hlt).1) hg hs hd
theorem Sd.ldJ (X : Sd n0 p l e R s m args below meth c T h k n) (hx : p.tables.exec = Jvm.exec) (hZ : Z.Warmed39 s.vm) {a : Addr} {kc : ClassId} {sz : Nat} {f : Nat → Value} (F : Avf Z h a kc .long sz f) {j : Int32} (hj : ¬ j < 0) {i : Nat} (hi : j.toNatClampNeg = i) (hlt : i < sz) {v : Value} (hv : f i = v)
    {g : JFrame} (hg : g.method = m) {rest : List Value} (hs : g.stack = .int j :: .ref a :: rest) (hd : decode c.code g.pc = .ok (.laload, 1)) :
    ∀ target, Steps p.tables e below (T.setTop { g with pc := g.pc + 1, stack := v :: rest }) target → Steps p.tables e below (T.setTop g) target := by
  subst hv
  obtain ⟨L, X, -, q⟩ := X
  obtain ⟨cl, A, r1, r2, r3, r4⟩ := F
  exact X.laload hx (by rw [q]; exact A.1) (State.isArrayOf_alike hZ.alike A.2.1) A.2.2 (inb r2 hj hi hlt) (by rw [hi]; exact (r4 i hlt).1) hg hs hd
theorem Sd.ldC (X : Sd n0 p l e R s m args below meth c T h k n) (hx : p.tables.exec = Jvm.exec) (hZ : Z.Warmed39 s.vm) {a : Addr} {kc : ClassId} {sz : Nat} {f : Nat → Value} (F : Avf Z h a kc .char sz f) {j : Int32} (hj : ¬ j < 0) {i : Nat} (hi : j.toNatClampNeg = i) (hlt : i < sz) {v : Value} (hv : f i = v)
    {g : JFrame} (hg : g.method = m) {rest : List Value} (hs : g.stack = .int j :: .ref a :: rest) (hd : decode c.code g.pc = .ok (.caload, 1)) :
    ∀ target, Steps p.tables e below (T.setTop { g with pc := g.pc + 1, stack := v :: rest }) target → Steps p.tables e below (T.setTop g) target := by
  subst hv
  obtain ⟨L, X, -, q⟩ := X
  obtain ⟨cl, A, r1, r2, r3, r4⟩ := F
  exact X.caload hx (by rw [q]; exact A.1) (State.isArrayOf_alike hZ.alike A.2.1) A.2.2 (inb r2 hj hi hlt) (by rw [hi]; exact (r4 i hlt).1) hg hs hd
theorem Sd.ldB (X : Sd n0 p l e R s m args below meth c T h k n) (hx : p.tables.exec = Jvm.exec) (hZ : Z.Warmed39 s.vm) {a : Addr} {kc : ClassId} {sz : Nat} {f : Nat → Value} (F : Avf Z h a kc .byte sz f) {j : Int32} (hj : ¬ j < 0) {i : Nat} (hi : j.toNatClampNeg = i) (hlt : i < sz) {v : Value} (hv : f i = v)
    {g : JFrame} (hg : g.method = m) {rest : List Value} (hs : g.stack = .int j :: .ref a :: rest) (hd : decode c.code g.pc = .ok (.baload, 1)) :
    ∀ target, Steps p.tables e below (T.setTop { g with pc := g.pc + 1, stack := v :: rest }) target → Steps p.tables e below (T.setTop g) target := by
  subst hv
  obtain ⟨L, X, -, q⟩ := X
  obtain ⟨cl, A, r1, r2, r3, r4⟩ := F
  exact X.baloadBytes hx (by rw [q]; exact A.1) (State.isArrayOf_alike hZ.alike A.2.1) A.2.2 (inb r2 hj hi hlt) (by rw [hi]; exact (r4 i hlt).1) hg hs hd
theorem Sd.ldA (X : Sd n0 p l e R s m args below meth c T h k n) (hx : p.tables.exec = Jvm.exec) (hZ : Z.Warmed39 s.vm) {a : Addr} {kc : ClassId} {ty : FieldType} {sz : Nat} {f : Nat → Value} (F : Avf Z h a kc ty sz f) (hty : ty.isReference = true) {j : Int32} (hj : ¬ j < 0) {i : Nat} (hi : j.toNatClampNeg = i) (hlt : i < sz) {v : Value} (hv : f i = v)
    {g : JFrame} (hg : g.method = m) {rest : List Value} (hs : g.stack = .int j :: .ref a :: rest) (hd : decode c.code g.pc = .ok (.aaload, 1)) :
    ∀ target, Steps p.tables e below (T.setTop { g with pc := g.pc + 1, stack := v :: rest }) target → Steps p.tables e below (T.setTop g) target := by
  subst hv
  obtain ⟨L, X, -, q⟩ := X
  obtain ⟨cl, A, r1, r2, r3, r4⟩ := F
  exact X.aaload hx (by rw [q]; exact A.1) (State.isArrayOf_alike hZ.alike A.2.1) hty A.2.2 (inb r2 hj hi hlt) (by rw [hi]; exact (r4 i hlt).1) hg hs hd
theorem Sd.stI (X : Sd n0 p l e R s m args below meth c T h k n) (hx : p.tables.exec = Jvm.exec) (hZ : Z.Warmed39 s.vm) {a : Addr} {kc : ClassId} {sz : Nat} {f : Nat → Value} (F : Avf Z h a kc .int sz f) (ga : n0 ≤ a) {j x : Int32} (hj : ¬ j < 0) {i : Nat} (hi : j.toNatClampNeg = i) (hlt : i < sz)
    {g : JFrame} (hg : g.method = m) {rest : List Value} (hs : g.stack = .int x :: .int j :: .ref a :: rest) (hd : decode c.code g.pc = .ok (.iastore, 1)) :
    ∃ T' h', Sd n0 p l e R s m args below meth c T' h' k n ∧ Wr h h' a i (.int x) ∧ Avf Z h' a kc .int sz (fun t => if t = i then .int x else f t) ∧ ∀ target, Steps p.tables e below (T'.setTop { g with pc := g.pc + 1, stack := rest }) target → Steps p.tables e below (T.setTop g) target := by
  obtain ⟨L, X, N, q⟩ := X
  obtain ⟨cl, A, r1, r2, r3, r4⟩ := F
  obtain ⟨T', h', X', e', W, st⟩ := Jvm.RoadKit.stI X hx hZ q A (inb r2 hj hi hlt) hg hs hd
  subst hi
  exact ⟨T', h', ⟨_, X', Fr.snoc X' N ga, e'⟩, W, Avf.set ⟨cl, A, r1, r2, r3, r4⟩ W rfl, st⟩
theorem Sd.stJ (X : Sd n0 p l e R s m args below meth c T h k n) (hx : p.tables.exec = Jvm.exec) (hZ : Z.Warmed39 s.vm) {a : Addr} {kc : ClassId} {sz : Nat} {f : Nat → Value} (F : Avf Z h a kc .long sz f) (ga : n0 ≤ a) {j : Int32} {x : Int64} (hj : ¬ j < 0) {i : Nat} (hi : j.toNatClampNeg = i) (hlt : i < sz)
    {g : JFrame} (hg : g.method = m) {rest : List Value} (hs : g.stack = .long x :: .int j :: .ref a :: rest) (hd : decode c.code g.pc = .ok (.lastore, 1)) :
    ∃ T' h', Sd n0 p l e R s m args below meth c T' h' k n ∧ Wr h h' a i (.long x) ∧ Avf Z h' a kc .long sz (fun t => if t = i then .long x else f t) ∧ ∀ target, Steps p.tables e below (T'.setTop { g with pc := g.pc + 1, stack := rest }) target → Steps p.tables e below (T.setTop g) target := by
  obtain ⟨L, X, N, q⟩ := X
  obtain ⟨cl, A, r1, r2, r3, r4⟩ := F
  obtain ⟨T', h', X', e', W, st⟩ := Jvm.RoadKit.stJ X hx hZ q A (inb r2 hj hi hlt) hg hs hd
  subst hi
  exact ⟨T', h', ⟨_, X', Fr.snoc X' N ga, e'⟩, W, Avf.set ⟨cl, A, r1, r2, r3, r4⟩ W rfl, st⟩
theorem Sd.stB (X : Sd n0 p l e R s m args below meth c T h k n) (hx : p.tables.exec = Jvm.exec) (hZ : Z.Warmed39 s.vm) {a : Addr} {kc : ClassId} {sz : Nat} {f : Nat → Value} (F : Avf Z h a kc .byte sz f) (ga : n0 ≤ a) {j x : Int32} (hj : ¬ j < 0) {i : Nat} (hi : j.toNatClampNeg = i) (hlt : i < sz)
    {g : JFrame} (hg : g.method = m) {rest : List Value} (hs : g.stack = .int x :: .int j :: .ref a :: rest) (hd : decode c.code g.pc = .ok (.bastore, 1)) :
    ∃ T' h', Sd n0 p l e R s m args below meth c T' h' k n ∧ Wr h h' a i (.int x.toInt8.toInt32) ∧ Avf Z h' a kc .byte sz (fun t => if t = i then .int x.toInt8.toInt32 else f t) ∧ ∀ target, Steps p.tables e below (T'.setTop { g with pc := g.pc + 1, stack := rest }) target → Steps p.tables e below (T.setTop g) target := by
  obtain ⟨L, X, N, q⟩ := X
  obtain ⟨cl, A, r1, r2, r3, r4⟩ := F
  obtain ⟨T', h', X', e', W, st⟩ := Jvm.RoadKit.stB X hx hZ q A (inb r2 hj hi hlt) hg hs hd
  subst hi
  exact ⟨T', h', ⟨_, X', Fr.snoc X' N ga, e'⟩, W, Avf.set ⟨cl, A, r1, r2, r3, r4⟩ W (fits_nar_byte _), st⟩
theorem Sd.stC (X : Sd n0 p l e R s m args below meth c T h k n) (hx : p.tables.exec = Jvm.exec) (hZ : Z.Warmed39 s.vm) {a : Addr} {kc : ClassId} {sz : Nat} {f : Nat → Value} (F : Avf Z h a kc .char sz f) (ga : n0 ≤ a) {j x : Int32} (hj : ¬ j < 0) {i : Nat} (hi : j.toNatClampNeg = i) (hlt : i < sz)
    {g : JFrame} (hg : g.method = m) {rest : List Value} (hs : g.stack = .int x :: .int j :: .ref a :: rest) (hd : decode c.code g.pc = .ok (.castore, 1)) :
    ∃ T' h', Sd n0 p l e R s m args below meth c T' h' k n ∧ Wr h h' a i (.int (nar .char x)) ∧ Avf Z h' a kc .char sz (fun t => if t = i then .int (nar .char x) else f t) ∧ ∀ target, Steps p.tables e below (T'.setTop { g with pc := g.pc + 1, stack := rest }) target → Steps p.tables e below (T.setTop g) target := by
  obtain ⟨L, X, N, q⟩ := X
  obtain ⟨cl, A, r1, r2, r3, r4⟩ := F
  obtain ⟨T', h', X', e', W, st⟩ := Jvm.RoadKit.stC X hx hZ q A (inb r2 hj hi hlt) hg hs hd
  subst hi
  exact ⟨T', h', ⟨_, X', Fr.snoc X' N ga, e'⟩, W, Avf.set ⟨cl, A, r1, r2, r3, r4⟩ W (fits_nar_char _), st⟩
theorem Sd.newRA (X : Sd n0 p l e R s m args below meth c T h k n) (hx : p.tables.exec = Jvm.exec) (hZ : Z.Warmed39 s.vm) {own C : String} {ty : FieldType} {index : Nat} (hown : s.vm.findClass own = some m.cls) (hC : (FieldType.array ty).toString = C) (w1 : (Cond.classLink own index C).before a0 Z = true) (w2 : (Cond.arrayOver (.array ty)).before a0 Z = true)
    {g : JFrame} (hg : g.method = m) (hd : decode c.code g.pc = .ok (.anewarray index, 3)) {z : Int32} {rest : List Value} (hs : g.stack = .int z :: rest)
    (hz : ¬ z < 0) {sz cap k' n' : Nat} (hsz : z.toNatClampNeg = sz) (hcap : sz ≤ cap) (hb : cap * 8 ≤ 536870912) (hk : k + 1 = k') (hn : n + cap = n') (hc : k' ≤ R.cells) (hl : n' ≤ R.slots) {ad : String} (had : "[" ++ C = ad) :
    ∃ T' h' kc a, Sd n0 p l e R s m args below meth c T' h' k' n' ∧ a = h.size ∧ Ext h h' ∧ Exa Z h' a ad ∧ Avf Z h' a kc (.array ty) sz (fun _ => .null) ∧ OvrA Z kc ty C ∧
      ∀ target, Steps p.tables e below (T'.setTop { g with pc := g.pc + 3, stack := .ref a :: rest }) target → Steps p.tables e below (T.setTop g) target := by
  subst hk hn hsz
  obtain ⟨L, X, N, q⟩ := X
  obtain ⟨T', h', kc, X', e', E, A, Ex, O, st⟩ := Jvm.RoadKit.newRA X hx hZ hown hC w1 w2 q hg hd hs hz hcap hb hc hl had
  exact ⟨T', h', kc, _, ⟨L, X', N, e'⟩, rfl, E, Ex, ⟨_, A, rfl, sz_new _ _ _, (back32 hz).2, fun i hi => ⟨by simp [newA, hi, defaultValue], rfl⟩⟩, O, st⟩
theorem Sd.stR (X : Sd n0 p l e R s m args below meth c T h k n) (hx : p.tables.exec = Jvm.exec) (hZ : Z.Warmed39 s.vm) {a : Addr} {kc : ClassId} {ty : FieldType} {sz : Nat} {f : Nat → Value} (F : Avf Z h a kc ty sz f) (ga : n0 ≤ a) (hty : ty.isReference = true) {j : Int32} {v : Value} (hv : v.isRef = true) (St : Sto Z h a v) (hj : ¬ j < 0) {i : Nat} (hi : j.toNatClampNeg = i) (hlt : i < sz)
    {g : JFrame} (hg : g.method = m) {rest : List Value} (hs : g.stack = v :: .int j :: .ref a :: rest) (hd : decode c.code g.pc = .ok (.aastore, 1)) :
    ∃ T' h', Sd n0 p l e R s m args below meth c T' h' k n ∧ Wr h h' a i v ∧ Avf Z h' a kc ty sz (fun t => if t = i then v else f t) ∧ ∀ target, Steps p.tables e below (T'.setTop { g with pc := g.pc + 1, stack := rest }) target → Steps p.tables e below (T.setTop g) target := by
  obtain ⟨L, X, N, q⟩ := X
  obtain ⟨cl, A, r1, r2, r3, r4⟩ := F
  obtain ⟨T', h', X', e', W, st⟩ := Jvm.RoadKit.stR X hx hZ q A (inb r2 hj hi hlt) hty St hg hs hd
  subst hi
  have hf : fits ty v = true := by cases ty <;> first | (cases hty; done) | (cases v <;> first | rfl | (cases hv; done))
  exact ⟨T', h', ⟨_, X', Fr.snoc X' N ga, e'⟩, W, Avf.set ⟨cl, A, r1, r2, r3, r4⟩ W hf, st⟩
theorem sto_avf {h : Heap} {a y : Addr} {kc : ClassId} {ty ty' : FieldType} {sz : Nat} {f : Nat → Value} {C : String} (F : Avf Z h a kc ty sz f) (O : OvrA Z kc ty' C) (I : Ins Z h y C true) : Sto Z h a (.ref y) := by
  obtain ⟨cl, A, r1, -⟩ := F
  exact Sto.ofVA A r1 O I
/-! calls -/
theorem Sd.callS (X : Sd n0 p l e R s m args below meth c T h k n) (hx : p.tables.exec = Jvm.exec) (hZ : Z.Warmed39 s.vm) {own : String} {index : Nat} {y : MethodName} {bytes : ByteArray} {maxL : Nat} {ret : Option FieldType} {rm : Room} {as' : Array Value} {Q : Option Value → Heap → Prop}
    (hown : s.vm.findClass own = some m.cls) (w1 : (Cond.methodLink own index y).before a0 Z = true) (w2 : (Cond.static y).before a0 Z = true) (w3 : (Cond.initialized y.cls).before a0 Z = true) (w4 : (Cond.code y bytes maxL ret).before a0 Z = true) (hy : y.cls ≠ "java/lang/invoke/MethodHandle" ∧ y.cls ≠ "java/lang/invoke/VarHandle")
    (hM : Met l Z n0 y bytes maxL ret [] rm as' h Q) {g : JFrame} (hg : g.method = m) (hsize : g.locals.size = c.maxLocals) {argsL rest : List Value} (hlen : ∀ sig, parseMethodDescriptor y.desc = some sig → argsL.length = sig.parameters.length)
    (hstack : g.stack = argsL.reverse ++ rest) (hd : decode c.code g.pc = .ok (.invokestatic index, 3)) (has : argsL.toArray = as') (hf : rm.frames + 1 ≤ R.frames) (hl : 2 * g.monitorRoom + (rest.map fun v => v.category).sum + (maxL + 11) + rm.locals ≤ R.locals)
    {k' n' : Nat} (hk : k + rm.cells = k') (hn : n + rm.slots = n') (hc : k' ≤ R.cells) (hs : n' ≤ R.slots) :
    ∃ v T' h', Sd n0 p l e R s m args below meth c T' h' k' n' ∧ Q v h' ∧ ∀ target, Steps p.tables e below (T'.setTop { g with pc := g.pc + 3, stack := v.toList ++ rest }) target → Steps p.tables e below (T.setTop g) target := by
  subst hk hn
  obtain ⟨L, X, N, q⟩ := X
  obtain ⟨v, _, ⟨T', L', k1, n1⟩, -, X', ⟨Lc, hQ, q1, q2, q3⟩, st⟩ := Jvm.LawKit.callS X hx (y := y) hown (mvT hZ w1) (mvT hZ w2) (mvT hZ w3) (mvT hZ w4) hy (backOf (Q := fun v h L => Q v h ∧ Fr n0 L) hM hZ w4 w3 hf hl) hg hsize hlen hstack (Nat.le_refl _) hd (fun _ _ => ⟨has, q, hc, hs⟩)
  dsimp only [Pt.U, Pt.locs, Pt.cells, Pt.slots] at X' q1 q2 q3 st hQ
  subst q1 q2 q3
  exact ⟨v, T', _, ⟨_, X', Fr.app N hQ.2, rfl⟩, hQ.1, st⟩
theorem Sd.callI (X : Sd n0 p l e R s m args below meth c T h k n) (hx : p.tables.exec = Jvm.exec) (hZ : Z.Warmed39 s.vm) {own : String} {index : Nat} {y : MethodName} {bytes : ByteArray} {maxL : Nat} {rm : Room} {as' : Array Value} {Q : Option Value → Heap → Prop} (hy1 : y.name = "<init>")
    (hown : s.vm.findClass own = some m.cls) (w1 : (Cond.methodLink own index y).before a0 Z = true) (w2 : (Cond.instanceMethod y).before a0 Z = true) (w3 : (Cond.initialized y.cls).before a0 Z = true) (w4 : (Cond.code y bytes maxL none).before a0 Z = true) (hy : y.cls ≠ "java/lang/invoke/MethodHandle" ∧ y.cls ≠ "java/lang/invoke/VarHandle")
    (hM : Met l Z n0 y bytes maxL none [] rm as' h Q) {g : JFrame} (hg : g.method = m) (hsize : g.locals.size = c.maxLocals) {a : Addr} {argsL rest : List Value} (hlen : ∀ sig, parseMethodDescriptor y.desc = some sig → argsL.length = sig.parameters.length)
    (hstack : g.stack = argsL.reverse ++ .ref a :: rest) (hd : decode c.code g.pc = .ok (.invokespecial index, 3)) (has : (.ref a :: argsL).toArray = as') (hf : rm.frames + 1 ≤ R.frames) (hl : 2 * g.monitorRoom + (rest.map fun v => v.category).sum + (maxL + 11) + rm.locals ≤ R.locals)
    {k' n' : Nat} (hk : k + rm.cells = k') (hn : n + rm.slots = n') (hc : k' ≤ R.cells) (hs : n' ≤ R.slots) :
    ∃ v T' h', Sd n0 p l e R s m args below meth c T' h' k' n' ∧ Q v h' ∧ ∀ target, Steps p.tables e below (T'.setTop { g with pc := g.pc + 3, stack := v.toList ++ rest }) target → Steps p.tables e below (T.setTop g) target := by
  subst hk hn
  obtain ⟨L, X, N, q⟩ := X
  obtain ⟨v, _, ⟨T', L', k1, n1⟩, -, X', ⟨Lc, hQ, q1, q2, q3⟩, st⟩ := X.specialBack hx (y := y) hy1 hown (mvT hZ w1) (mvT hZ w2) (mvT hZ w4) hy (backOf (Q := fun v h L => Q v h ∧ Fr n0 L) hM hZ w4 w3 hf hl) hg hsize (Steps.refl _) hlen hstack (Nat.le_refl _) hd (fun _ _ => ⟨has, q, hc, hs⟩)
  dsimp only [Pt.U, Pt.locs, Pt.cells, Pt.slots] at X' q1 q2 q3 st hQ
  subst q1 q2 q3
  exact ⟨v, T', _, ⟨_, X', Fr.app N hQ.2, rfl⟩, hQ.1, fun _ kt => st.trans kt⟩
theorem Sd.callV (X : Sd n0 p l e R s m args below meth c T h k n) (hx : p.tables.exec = Jvm.exec) (hZ : Z.Warmed39 s.vm) {own C : String} {index : Nat} {y z : MethodName} {bytes : ByteArray} {maxL : Nat} {ret : Option FieldType} {rm : Room} {as' : Array Value} {Q : Option Value → Heap → Prop}
    (hown : s.vm.findClass own = some m.cls) (w1 : (Cond.methodLink own index y).before a0 Z = true) (w2 : (Cond.declares y).before a0 Z = true) (hnf : NotFace s y) (w5 : (Cond.selects C y z).before a0 Z = true) (w6 : (Cond.instanceMethod z).before a0 Z = true) (w3 : (Cond.initialized z.cls).before a0 Z = true) (w4 : (Cond.code z bytes maxL ret).before a0 Z = true) (hy : y.cls ≠ "java/lang/invoke/MethodHandle" ∧ y.cls ≠ "java/lang/invoke/VarHandle")
    (hM : Met l Z n0 z bytes maxL ret [] rm as' h Q) {a : Addr} (E : Exa Z h a C) {g : JFrame} (hg : g.method = m) (hsize : g.locals.size = c.maxLocals) {argsL rest : List Value} (hlen : ∀ sig, parseMethodDescriptor y.desc = some sig → argsL.length = sig.parameters.length)
    (hstack : g.stack = argsL.reverse ++ .ref a :: rest) (hd : decode c.code g.pc = .ok (.invokevirtual index, 3)) (has : (.ref a :: argsL).toArray = as') (hf : rm.frames + 1 ≤ R.frames) (hl : 2 * g.monitorRoom + (rest.map fun v => v.category).sum + (maxL + 11) + rm.locals ≤ R.locals)
    {k' n' : Nat} (hk : k + rm.cells = k') (hn : n + rm.slots = n') (hc : k' ≤ R.cells) (hs : n' ≤ R.slots) :
    ∃ v T' h', Sd n0 p l e R s m args below meth c T' h' k' n' ∧ Q v h' ∧ ∀ target, Steps p.tables e below (T'.setTop { g with pc := g.pc + 3, stack := v.toList ++ rest }) target → Steps p.tables e below (T.setTop g) target := by
  subst hk hn
  obtain ⟨L, X, N, q⟩ := X
  obtain ⟨cB, kB, b1, b2, b3⟩ := isOf (T := T) hZ q E
  obtain ⟨v, _, ⟨T', L', k1, n1⟩, -, X', ⟨Lc, hQ, q1, q2, q3⟩, st⟩ := X.virtualBack hx (y := y) (z := z) hown (mvT hZ w1) (mvT hZ w2) hnf (mvT hZ w5) (mvT hZ w6) hy (backOf (Q := fun v h L => Q v h ∧ Fr n0 L) hM hZ w4 w3 hf hl) b1 b3 hg hsize (Steps.refl _) hlen hstack (Nat.le_refl _) hd (fun _ _ => ⟨has, q, hc, hs⟩)
  dsimp only [Pt.U, Pt.locs, Pt.cells, Pt.slots] at X' q1 q2 q3 st hQ
  subst q1 q2 q3
  exact ⟨v, T', _, ⟨_, X', Fr.app N hQ.2, rfl⟩, hQ.1, fun _ kt => st.trans kt⟩
theorem Sd.callP (X : Sd n0 p l e R s m args below meth c T h k n) (hx : p.tables.exec = Jvm.exec) (hZ : Z.Warmed39 s.vm) {own C : String} {index : Nat} {y : MethodName} {bytes : ByteArray} {maxL : Nat} {ret : Option FieldType} {rm : Room} {as' : Array Value} {Q : Option Value → Heap → Prop}
    (hown : s.vm.findClass own = some m.cls) (w1 : (Cond.methodLink own index y).before a0 Z = true) (w6 : (Cond.instanceMethod y).before a0 Z = true) (w5 : (Cond.selects y.cls y y).before a0 Z = true) (w7 : (Cond.privateMethod y).before a0 Z = true) (w3 : (Cond.initialized y.cls).before a0 Z = true) (w4 : (Cond.code y bytes maxL ret).before a0 Z = true) (hy : y.cls ≠ "java/lang/invoke/MethodHandle" ∧ y.cls ≠ "java/lang/invoke/VarHandle")
    (hM : Met l Z n0 y bytes maxL ret [] rm as' h Q) {a : Addr} (E : Exa Z h a C) {g : JFrame} (hg : g.method = m) (hsize : g.locals.size = c.maxLocals) {argsL rest : List Value} (hlen : ∀ sig, parseMethodDescriptor y.desc = some sig → argsL.length = sig.parameters.length)
    (hstack : g.stack = argsL.reverse ++ .ref a :: rest) (hd : decode c.code g.pc = .ok (.invokevirtual index, 3)) (has : (.ref a :: argsL).toArray = as') (hf : rm.frames + 1 ≤ R.frames) (hl : 2 * g.monitorRoom + (rest.map fun v => v.category).sum + (maxL + 11) + rm.locals ≤ R.locals)
    {k' n' : Nat} (hk : k + rm.cells = k') (hn : n + rm.slots = n') (hc : k' ≤ R.cells) (hs : n' ≤ R.slots) :
    ∃ v T' h', Sd n0 p l e R s m args below meth c T' h' k' n' ∧ Q v h' ∧ ∀ target, Steps p.tables e below (T'.setTop { g with pc := g.pc + 3, stack := v.toList ++ rest }) target → Steps p.tables e below (T.setTop g) target := by
  subst hk hn
  obtain ⟨L, X, N, q⟩ := X
  obtain ⟨cl, b1, b2⟩ := E.cell
  obtain ⟨v, _, ⟨T', L', k1, n1⟩, -, X', ⟨Lc, hQ, q1, q2, q3⟩, st⟩ := X.privateBack hx (y := y) hown (mvT hZ w1) (mvT hZ w6) (mvT hZ w5) (Cond.privateMethod_at (mvP hZ w7 (args := #[]))) (mvT hZ w4) hy (backOf (Q := fun v h L => Q v h ∧ Fr n0 L) hM hZ w4 w3 hf hl) hg hsize (Steps.refl _) (a := a) (by rw [q]; exact b1) b2 hlen hstack (Nat.le_refl _) hd (fun _ _ => ⟨has, q, hc, hs⟩)
  dsimp only [Pt.U, Pt.locs, Pt.cells, Pt.slots] at X' q1 q2 q3 st hQ
  subst q1 q2 q3
  exact ⟨v, T', _, ⟨_, X', Fr.app N hQ.2, rfl⟩, hQ.1, fun _ kt => st.trans kt⟩
theorem Sd.callU (X : Sd n0 p l e R s m args below meth c T h k n) (hx : p.tables.exec = Jvm.exec) (hZ : Z.Warmed39 s.vm) {own C owner : String} {index : Nat} {y z : MethodName} {bytes : ByteArray} {maxL : Nat} {ret : Option FieldType} {rm : Room} {as' : Array Value} {Q : Option Value → Heap → Prop}
    (hown : s.vm.findClass own = some m.cls) (w1 : (Cond.methodLink own index y).before a0 Z = true) (w2 : (Cond.sameMethod y.cls owner y.name y.desc).before a0 Z = true) (w7 : (Cond.declares ⟨owner, y.name, y.desc⟩).before a0 Z = true) (ho : owner ≠ "java/lang/invoke/MethodHandle" ∧ owner ≠ "java/lang/invoke/VarHandle") (w5 : (Cond.selects C y z).before a0 Z = true) (w6 : (Cond.instanceMethod z).before a0 Z = true) (w3 : (Cond.initialized z.cls).before a0 Z = true) (w4 : (Cond.code z bytes maxL ret).before a0 Z = true)
    (hM : Met l Z n0 z bytes maxL ret [] rm as' h Q) {a : Addr} (E : Exa Z h a C) {g : JFrame} (hg : g.method = m) (hsize : g.locals.size = c.maxLocals) {argsL rest : List Value} (hlen : ∀ sig, parseMethodDescriptor y.desc = some sig → argsL.length = sig.parameters.length)
    (hstack : g.stack = argsL.reverse ++ .ref a :: rest) (hd : decode c.code g.pc = .ok (.invokevirtual index, 3)) (has : (.ref a :: argsL).toArray = as') (hf : rm.frames + 1 ≤ R.frames) (hl : 2 * g.monitorRoom + (rest.map fun v => v.category).sum + (maxL + 11) + rm.locals ≤ R.locals)
    {k' n' : Nat} (hk : k + rm.cells = k') (hn : n + rm.slots = n') (hc : k' ≤ R.cells) (hs : n' ≤ R.slots) :
    ∃ v T' h', Sd n0 p l e R s m args below meth c T' h' k' n' ∧ Q v h' ∧ ∀ target, Steps p.tables e below (T'.setTop { g with pc := g.pc + 3, stack := v.toList ++ rest }) target → Steps p.tables e below (T.setTop g) target := by
  subst hk hn
  obtain ⟨L, X, N, q⟩ := X
  obtain ⟨cB, kB, b1, b2, b3⟩ := isOf (T := T) hZ q E
  obtain ⟨v, _, ⟨T', L', k1, n1⟩, -, X', ⟨Lc, hQ, q1, q2, q3⟩, st⟩ := X.virtualBackUp hx (x := y) (y := z) hown (mvT hZ w1) (mvT hZ w2) (mvT hZ w7) ho (mvT hZ w5) (mvT hZ w6) (backOf (Q := fun v h L => Q v h ∧ Fr n0 L) hM hZ w4 w3 hf hl) b1 b3 hg hsize (Steps.refl _) hlen hstack (Nat.le_refl _) hd (fun _ _ => ⟨has, q, hc, hs⟩)
  dsimp only [Pt.U, Pt.locs, Pt.cells, Pt.slots] at X' q1 q2 q3 st hQ
  subst q1 q2 q3
  exact ⟨v, T', _, ⟨_, X', Fr.app N hQ.2, rfl⟩, hQ.1, fun _ kt => st.trans kt⟩
theorem Sd.instNo (X : Sd n0 p l e R s m args below meth c T h k n) (hx : p.tables.exec = Jvm.exec) (hZ : Z.Warmed39 s.vm) {own K C : String} {index : Nat} (hown : s.vm.findClass own = some m.cls) (w : (Cond.classLink own index K).before a0 Z = true) {a : Addr} (E : Exa Z h a C) (F : ∃ c t, Z.vm.findClass C = some c ∧ Z.vm.findClass K = some t ∧ Z.vm.assignable c t = false)
    {g : JFrame} (hg : g.method = m) {rest : List Value} (hs : g.stack = .ref a :: rest) (hd : decode c.code g.pc = .ok (.instanceof index, 3)) :
    ∃ T', Sd n0 p l e R s m args below meth c T' h k n ∧ ∀ target, Steps p.tables e below (T'.setTop { g with pc := g.pc + 3, stack := .int 0 :: rest }) target → Steps p.tables e below (T.setTop g) target := by
  obtain ⟨L, X, N, q⟩ := X
  obtain ⟨T', X', e', st⟩ := Jvm.RoadKit.instNo X hx hZ hown w q E F hg hs hd
  exact ⟨T', ⟨L, X', N, e'⟩, st⟩
theorem ns_root {O K : String} {kk : Nat} (w : (Cond.noSuperclass O).before a0 Z = true) (wk : (Cond.instantiable K kk).before a0 Z = true) (hn : O ≠ K) : NS Z O K := by
  obtain ⟨c, k, h1, h2, h3, -, -⟩ := Cond.noSuperclass_spec w
  obtain ⟨t, k2, g1, -⟩ := Cond.instantiable_spec wk
  have ne := ids_ne h1 g1 hn
  refine ⟨c, t, h1, g1, fun fuel => ?_⟩
  cases fuel with
  | zero => rfl
  | succ f => simp [Vm.isSubclassAux, ne, h2, h3]
theorem ns_no {C K : String} {k1 k2 : Nat} (w : (Cond.instantiable C k1).before a0 Z = true) (wk : (Cond.instantiable K k2).before a0 Z = true) (n : NS Z C K) (hn : C ≠ K) : ∃ c t, Z.vm.findClass C = some c ∧ Z.vm.findClass K = some t ∧ Z.vm.assignable c t = false := by
  obtain ⟨c, t, h0, g0, n3⟩ := n
  obtain ⟨c', kc, h1, h2, h3, h4, -⟩ := Cond.instantiable_spec w
  obtain ⟨t', kt, g1, g2, g3, g4, -⟩ := Cond.instantiable_spec wk
  cases h0.symm.trans h1
  cases g0.symm.trans g1
  have ne := ids_ne h0 g0 hn
  refine ⟨c, t, h0, g0, ?_⟩
  have g5 : kt.isInterface = false := by simp at g4; exact g4.1
  show Z.vm.assignableAux (255 + 1) c t = false
  simp [Vm.assignableAux, ne, h2, g2, h3, g3, g5, Vm.isSubclass, n3]
theorem keep_ext {h h' : Heap} (K : Keep h h' []) : Ext h h' := ⟨K.1, fun x c q => K.2.1 x c q nin0⟩
theorem Exa.plain {h : Heap} {a : Addr} {C : String} (F : Exa Z h a C) : ∀ cell : Cell, h[a]? = some cell → cell.vm.isStatics = false := fun cell hc => by
  obtain ⟨c, k, h1, -, -, h4, -⟩ := F
  cases h1.symm.trans hc; exact h4
theorem Avf.plain {h : Heap} {a : Addr} {kc : ClassId} {ty : FieldType} {sz : Nat} {f : Nat → Value} (F : Avf Z h a kc ty sz f) : ∀ cell : Cell, h[a]? = some cell → cell.vm.isStatics = false := fun cell hc => by
  obtain ⟨cl, A, -⟩ := F
  cases A.1.symm.trans hc; exact Arr.plain A
theorem Sta.keepN {h h' : Heap} {C f d : String} {v : Value} {ws : List Addr} (F : Sta Z h C f d v) (K : Keep h h' ws) (q : ∀ x ∈ ws, ∀ cell : Cell, h[x]? = some cell → cell.vm.isStatics = false) : Sta Z h' C f d v := by
  obtain ⟨cf, i, k, fl, st, cell, h1, h2, h3, h4, h5, h6, h7⟩ := F
  exact ⟨cf, i, k, fl, st, cell, h1, h2, h3, h4, K.2.1 st cell h5 (fun z => by rw [q st z cell h5] at h6; cases h6), h6, h7⟩
/-! at the start -/
theorem sta_exa {args : Array Value} {C f d K : String} (hx : (Cond.exactly (.static C f d) K).value args Z none Z [] = some true) (wi : (Cond.initialized C).before args Z = true) (wl : (Cond.laysStatic C f d).before args Z = true) : ∃ a, (Term.static C f d).eval args Z none [] Z = some (.ref a) ∧ Sta Z Z.heap C f d (.ref a) ∧ Exa Z Z.heap a K := by
  obtain ⟨a, ev⟩ := exa_v hx
  exact ⟨a, ev, Sta.start ev (Or.inr ⟨wi, wl⟩), Exa.start ev hx⟩
theorem sta_arr {args : Array Value} {C f d : String} {ty : FieldType} (hx : (Cond.arrayOf (.static C f d) ty).value args Z none Z [] = some true) (wi : (Cond.initialized C).before args Z = true) (wl : (Cond.laysStatic C f d).before args Z = true) : ∃ a cl, (Term.static C f d).eval args Z none [] Z = some (.ref a) ∧ Sta Z Z.heap C f d (.ref a) ∧ Arr Z Z.heap a cl ty := by
  obtain ⟨a, ev⟩ := arr_v hx
  obtain ⟨cl, A⟩ := Arr.start ev hx
  exact ⟨a, cl, ev, Sta.start ev (Or.inr ⟨wi, wl⟩), A⟩
theorem int_of_eq {args : Array Value} {t : Term} {kk : Int32} (h : (Cond.eq t (.int kk)).value args Z none Z [] = some true) : t.eval args Z none [] Z = some (.int kk) := by
  obtain ⟨x, y, h1, h2, k1, k2⟩ := cmp_v (Or.inl h)
  cases (Option.some.inj h2 : Value.int kk = y)
  obtain ⟨z, rfl⟩ : ∃ z, x = .int z := k2
  have q : z = kk := by simpa [Cond.value, h1, Term.eval] using h
  rw [h1, q]
theorem fld_eq {args : Array Value} {t : Term} {C f d : String} {a : Addr} {kk : Int32} (ht : t.eval args Z none [] Z = some (.ref a)) (h : (Cond.eq (.field t C f d) (.int kk)).value args Z none Z [] = some true) : Fld Z Z.heap a C f d (.int kk) :=
  Fld.start ((fld_at ht).symm.trans (int_of_eq h))
theorem ref_of_eq {args : Array Value} {t u : Term} {a : Addr} (hu : u.eval args Z none [] Z = some (.ref a)) (h : (Cond.eq t u).value args Z none Z [] = some true) : t.eval args Z none [] Z = some (.ref a) := by
  obtain ⟨x, y, h1, h2, k1, k2⟩ := cmp_v (Or.inl h)
  cases (Option.some.inj (hu.symm.trans h2) : Value.ref a = y)
  have kx : x.isRef = true := k2.2
  rw [h1, gotT (eq_R h1 hu kx rfl) h]
theorem avf_len {args : Array Value} {t : Term} {a : Addr} {cl : Cell} {ty : FieldType} {z : Int32} {sz : Nat} (A : Arr Z Z.heap a cl ty) (ev : t.eval args Z none [] Z = some (.ref a)) (h : (Term.length t).eval args Z none [] Z = some (.int z)) (hz : z.toNatClampNeg = sz) : cl.slots.size = sz := by
  have ha : Z.arrayAt? a = some cl := A.fin (Vm.Alike.refl _)
  simp only [Term.eval, ev, ha, Option.bind_eq_bind, Option.bind_some] at h
  split at h
  · rename_i hl
    have e : cl.slots.size.toInt32 = z := by simpa using h
    rw [← hz, ← e]
    have q := len_toInt hl
    simp only [Int32.toNatClampNeg, q]; omega
  · cases h
theorem iremS {g : JFrame} {target : State} (X : Sd n0 p l e R s m args below meth c T h k n) (hx : p.tables.exec = Jvm.exec) (hg : g.method = m) {x y : Int32} {rest : List Value} (hd : decode c.code g.pc = .ok (.irem, 1)) (hs : g.stack = .int y :: .int x :: rest) (hy : y ≠ 0)
    (hr : Steps p.tables e below (T.setTop { g with pc := g.pc + 1, stack := .int (x % y) :: rest }) target) : Steps p.tables e below (T.setTop g) target := by
  obtain ⟨L, X, -⟩ := X; exact iremM X hx hg hd hs hy hr
end Sds
end Jvm.RoadKit
namespace Jvm.Pilot.@@N@@
open Jvm Jvm.ClassFile Sem Op Lib Jvm.Free Jvm.Stand Jvm.LawKit Jvm.RoadKit Bundle Jvm.Pilot.@@N@@.Jvm.D
theorem tw {a0 : Array Value} {Z : State} (hw : ∀ d ∈ tables_1, d.before a0 Z = true) (i : Nat) {d : Jvm.Cond} (h : tables_1[i]? = some d) : d.before a0 Z = true := hw _ (List.mem_of_getElem? h)
def own_min (a b : Int32) : Int32 := if b < a then b else a
def own_max (a b : Int32) : Int32 := if a < b then b else a
def own_mask (n : Int32) : Int64 := if n < 64 then ((1 : Int64) <<< (n &&& 0x3f).toInt64) - 1 else -1
def own_sh (lv : Int32) : Int64 := (((-1 : Int64).toUInt64 >>> (((64 : Int32) - (lv &&& (63 : Int32))) &&& 0x3f).toInt64.toUInt64).toInt64)
def own_n (lv : Int32) (q : Int64) : Int64 := if lv &&& 63 = 0 then q ^^^ (-1) else (q ^^^ (-1)) &&& own_sh lv
theorem own_m129 (x : Int32) : ∃ k : Nat, k < 129 ∧ (x &&& (2147483647 : Int32)) % (129 : Int32) = k.toInt32 := by
  have q := c_mask x 2147483647 31 (by decide) (by decide)
  have r := Int32.toInt_mod (x &&& (2147483647 : Int32)) 129
  have e3 : (129 : Int32).toInt = 129 := rfl
  rw [e3, Int.tmod_eq_emod_of_nonneg (by omega)] at r
  refine ⟨((x &&& (2147483647 : Int32)) % (129 : Int32)).toInt.toNat, by omega, ?_⟩
  rw [← Int32.toInt_inj, len_toInt (by omega)]
  omega
theorem own_A1 : ∀ k, k < 129 → k ≠ 0 → k ≤ 64 → (k.toInt32 &&& 63 = 0 ∧ own_mask (own_min k.toInt32 64) = -1) ∨ (¬ (k.toInt32 &&& 63 = 0) ∧ own_mask (own_min k.toInt32 64) = own_sh k.toInt32) := by decide +kernel
theorem own_A2 : ∀ k, k < 129 → ¬ k ≤ 64 → own_mask (own_min k.toInt32 64) = -1 ∧ ((k.toInt32 &&& 63 = 0 ∧ own_mask (own_max (k.toInt32 - 64) 0) = -1) ∨ (¬ (k.toInt32 &&& 63 = 0) ∧ own_mask (own_max (k.toInt32 - 64) 0) = own_sh k.toInt32)) := by decide +kernel
theorem own_and1 (x : Int64) : x &&& (-1) = x := by rw [← Int64.toBitVec_inj]; simp
theorem own_fin {lv : Int32} {mk x : Int64} (h : (lv &&& 63 = 0 ∧ mk = -1) ∨ (¬ (lv &&& 63 = 0) ∧ mk = own_sh lv)) : own_n lv x = (x ^^^ (-1)) &&& mk := by
  unfold own_n
  rcases h with ⟨h1, h2⟩ | ⟨h1, h2⟩
  · rw [if_pos h1, h2, own_and1]
  · rw [if_neg h1, h2]
theorem own_k0 {k : Nat} (h : ¬ k.toInt32 = 0) : k ≠ 0 := fun q => h (by subst q; rfl)
theorem own_k64 {k : Nat} (hk : k < 129) (h : ¬ (64 : Int32) < k.toInt32) : k ≤ 64 := by
  rw [Int32.lt_iff_toInt_lt, len_toInt (by omega)] at h
  have : (64 : Int32).toInt = 64 := rfl
  omega
theorem own_k65 {k : Nat} (hk : k < 129) (h : (64 : Int32) < k.toInt32) : ¬ k ≤ 64 := by
  rw [Int32.lt_iff_toInt_lt, len_toInt (by omega)] at h
  have : (64 : Int32).toInt = 64 := rfl
  omega
theorem d1_0 : decode jdk_29_method_69_code 0 = .ok (.iload_n 0, 1) := by decide +kernel
theorem d1_1 : decode jdk_29_method_69_code 1 = .ok (.iload_n 1, 1) := by decide +kernel
theorem d1_2 : decode jdk_29_method_69_code 2 = .ok (.if_icmp .gt 7, 3) := by decide +kernel
theorem d1_9 : decode jdk_29_method_69_code 9 = .ok (.iload_n 1, 1) := by decide +kernel
theorem d1_10 : decode jdk_29_method_69_code 10 = .ok (.ireturn, 1) := by decide +kernel
theorem d1_5 : decode jdk_29_method_69_code 5 = .ok (.iload_n 0, 1) := by decide +kernel
theorem d1_6 : decode jdk_29_method_69_code 6 = .ok (.goto 4, 3) := by decide +kernel
abbrev Rm1 : Room := { frames := 0, cells := 0, slots := 0, locals := 0 }
set_option maxRecDepth 65536 in
set_option maxHeartbeats 40000000 in
theorem rm1 (l : Launch) (Z : State) (a0 : Array Value) (hw : ∀ d ∈ tables_1, d.before a0 Z = true) (ws : List Jvm.Cond) (p1 : Int32) (p2 : Int32) (h0 : Heap) (n0 : Nat) (Z0 : n0 ≤ h0.size) :
    Met l Z n0 (⟨"java/lang/Math", "min", "(II)I"⟩ : MethodName) jdk_29_method_69_code 2 (some .int) ws Rm1 #[(.int p1), (.int p2)] h0 (fun v h => v = some (.int (own_min p1 p2)) ∧ h0 = h) := by
  refine enter (Ls := #[.val (.int p1), .val (.int p2)]) (Jvm.Free.JP.mathPlain rfl (by decide +kernel)) (fun m => by first | (simp [entryFrame, mkF, argsToLocals, Value.category]; done) | rfl) ?_
  intro p e s m below meth c T0 hx hby hml hown hnm hret hlk hZ X0
  show Go p.tables e below _ (T0.setTop (mkF m 0 #[.val (.int p1), .val (.int p2)] []))
  refine Go.by (fun _ => XS.iloadN X0.here hx rfl (hb hby d1_0) rfl) ?_
  show Go p.tables e below _ (T0.setTop (mkF m 1 #[.val (.int p1), .val (.int p2)] [(.int p1)]))
  refine Go.by (fun _ => XS.iloadN X0.here hx rfl (hb hby d1_1) rfl) ?_
  show Go p.tables e below _ (T0.setTop (mkF m 2 #[.val (.int p1), .val (.int p2)] [(.int p2), (.int p1)]))
  by_cases hc2_1 : p2 < p1
  · skip
    refine Go.by (fun _ => XS.icmpYes X0.here hx rfl (pc0 := 2) (pc' := 9) rfl (hb hby d1_2) rfl (tlt hc2_1).2.2.1 (by decide) (by decide)) ?_
    show Go p.tables e below _ (T0.setTop (mkF m 9 #[.val (.int p1), .val (.int p2)] []))
    refine Go.by (fun _ => XS.iloadN X0.here hx rfl (hb hby d1_9) rfl) ?_
    show Go p.tables e below _ (T0.setTop (mkF m 10 #[.val (.int p1), .val (.int p2)] [(.int p2)]))
    refine Go.retI X0 hx hlk hret (hb hby d1_10) (by decide) (by decide) ?_
    refine ⟨?_, rfl⟩
    simp [own_min, *]
  · skip
    refine Go.by (fun _ => XS.icmpNo X0.here hx rfl (hb hby d1_2) rfl (flt hc2_1).2.2.1) ?_
    show Go p.tables e below _ (T0.setTop (mkF m 5 #[.val (.int p1), .val (.int p2)] []))
    refine Go.by (fun _ => XS.iloadN X0.here hx rfl (hb hby d1_5) rfl) ?_
    show Go p.tables e below _ (T0.setTop (mkF m 6 #[.val (.int p1), .val (.int p2)] [(.int p1)]))
    refine Go.by (fun _ => XS.goto X0.here hx rfl (pc0 := 6) (pc' := 10) rfl (hb hby d1_6) (by decide) (by decide)) ?_
    show Go p.tables e below _ (T0.setTop (mkF m 10 #[.val (.int p1), .val (.int p2)] [(.int p1)]))
    refine Go.retI X0 hx hlk hret (hb hby d1_10) (by decide) (by decide) ?_
    refine ⟨?_, rfl⟩
    simp [own_min, *]
theorem d3_0 : decode jdk_29_method_65_code 0 = .ok (.iload_n 0, 1) := by decide +kernel
theorem d3_1 : decode jdk_29_method_65_code 1 = .ok (.iload_n 1, 1) := by decide +kernel
theorem d3_2 : decode jdk_29_method_65_code 2 = .ok (.if_icmp .lt 7, 3) := by decide +kernel
theorem d3_9 : decode jdk_29_method_65_code 9 = .ok (.iload_n 1, 1) := by decide +kernel
theorem d3_10 : decode jdk_29_method_65_code 10 = .ok (.ireturn, 1) := by decide +kernel
theorem d3_5 : decode jdk_29_method_65_code 5 = .ok (.iload_n 0, 1) := by decide +kernel
theorem d3_6 : decode jdk_29_method_65_code 6 = .ok (.goto 4, 3) := by decide +kernel
abbrev Rm3 : Room := { frames := 0, cells := 0, slots := 0, locals := 0 }
set_option maxRecDepth 65536 in
set_option maxHeartbeats 40000000 in
theorem rm3 (l : Launch) (Z : State) (a0 : Array Value) (hw : ∀ d ∈ tables_1, d.before a0 Z = true) (ws : List Jvm.Cond) (p1 : Int32) (p2 : Int32) (h0 : Heap) (n0 : Nat) (Z0 : n0 ≤ h0.size) :
    Met l Z n0 (⟨"java/lang/Math", "max", "(II)I"⟩ : MethodName) jdk_29_method_65_code 2 (some .int) ws Rm3 #[(.int p1), (.int p2)] h0 (fun v h => v = some (.int (own_max p1 p2)) ∧ h0 = h) := by
  refine enter (Ls := #[.val (.int p1), .val (.int p2)]) (Jvm.Free.JP.mathPlain rfl (by decide +kernel)) (fun m => by first | (simp [entryFrame, mkF, argsToLocals, Value.category]; done) | rfl) ?_
  intro p e s m below meth c T0 hx hby hml hown hnm hret hlk hZ X0
  show Go p.tables e below _ (T0.setTop (mkF m 0 #[.val (.int p1), .val (.int p2)] []))
  refine Go.by (fun _ => XS.iloadN X0.here hx rfl (hb hby d3_0) rfl) ?_
  show Go p.tables e below _ (T0.setTop (mkF m 1 #[.val (.int p1), .val (.int p2)] [(.int p1)]))
  refine Go.by (fun _ => XS.iloadN X0.here hx rfl (hb hby d3_1) rfl) ?_
  show Go p.tables e below _ (T0.setTop (mkF m 2 #[.val (.int p1), .val (.int p2)] [(.int p2), (.int p1)]))
  by_cases hc2_1 : p1 < p2
  · skip
    refine Go.by (fun _ => XS.icmpYes X0.here hx rfl (pc0 := 2) (pc' := 9) rfl (hb hby d3_2) rfl (tlt hc2_1).1 (by decide) (by decide)) ?_
    show Go p.tables e below _ (T0.setTop (mkF m 9 #[.val (.int p1), .val (.int p2)] []))
    refine Go.by (fun _ => XS.iloadN X0.here hx rfl (hb hby d3_9) rfl) ?_
    show Go p.tables e below _ (T0.setTop (mkF m 10 #[.val (.int p1), .val (.int p2)] [(.int p2)]))
    refine Go.retI X0 hx hlk hret (hb hby d3_10) (by decide) (by decide) ?_
    refine ⟨?_, rfl⟩
    simp [own_max, *]
  · skip
    refine Go.by (fun _ => XS.icmpNo X0.here hx rfl (hb hby d3_2) rfl (flt hc2_1).1) ?_
    show Go p.tables e below _ (T0.setTop (mkF m 5 #[.val (.int p1), .val (.int p2)] []))
    refine Go.by (fun _ => XS.iloadN X0.here hx rfl (hb hby d3_5) rfl) ?_
    show Go p.tables e below _ (T0.setTop (mkF m 6 #[.val (.int p1), .val (.int p2)] [(.int p1)]))
    refine Go.by (fun _ => XS.goto X0.here hx rfl (pc0 := 6) (pc' := 10) rfl (hb hby d3_6) (by decide) (by decide)) ?_
    show Go p.tables e below _ (T0.setTop (mkF m 10 #[.val (.int p1), .val (.int p2)] [(.int p1)]))
    refine Go.retI X0 hx hlk hret (hb hby d3_10) (by decide) (by decide) ?_
    refine ⟨?_, rfl⟩
    simp [own_max, *]
theorem d2_0 : decode method_3_code 0 = .ok (.iload_n 0, 1) := by decide +kernel
theorem d2_1 : decode method_3_code 1 = .ok (.bipush 64, 2) := by decide +kernel
theorem d2_3 : decode method_3_code 3 = .ok (.if_icmp .lt 9, 3) := by decide +kernel
theorem d2_12 : decode method_3_code 12 = .ok (.lconst 1, 1) := by decide +kernel
theorem d2_13 : decode method_3_code 13 = .ok (.iload_n 0, 1) := by decide +kernel
theorem d2_14 : decode method_3_code 14 = .ok (.lshl, 1) := by decide +kernel
theorem d2_15 : decode method_3_code 15 = .ok (.lconst 1, 1) := by decide +kernel
theorem d2_16 : decode method_3_code 16 = .ok (.lsub, 1) := by decide +kernel
theorem d2_17 : decode method_3_code 17 = .ok (.lreturn, 1) := by decide +kernel
theorem d2_6 : decode method_3_code 6 = .ok (.ldc2_w 39, 3) := by decide +kernel
theorem d2_9 : decode method_3_code 9 = .ok (.goto 8, 3) := by decide +kernel
abbrev Rm2 : Room := { frames := 0, cells := 0, slots := 0, locals := 0 }
theorem pn0 : plainName "com/example/bitstrata/bitstrata/bitmap/BitVectorNotPinLaw" = true := by first | (simp [plainName, overriddenIn]; done) | decide +kernel
set_option maxRecDepth 65536 in
set_option maxHeartbeats 40000000 in
theorem rm2 (l : Launch) (Z : State) (a0 : Array Value) (hw : ∀ d ∈ tables_1, d.before a0 Z = true) (ws : List Jvm.Cond) (p1 : Int32) (h0 : Heap) (n0 : Nat) (Z0 : n0 ≤ h0.size) :
    Met l Z n0 (⟨"com/example/bitstrata/bitstrata/bitmap/BitVectorNotPinLaw", "lowMask", "(I)J"⟩ : MethodName) method_3_code 1 (some .long) ws Rm2 #[(.int p1)] h0 (fun v h => v = some (.long (own_mask p1)) ∧ h0 = h) := by
  refine enter (Ls := #[.val (.int p1)]) (plainFor_of_name pn0) (fun m => by first | (simp [entryFrame, mkF, argsToLocals, Value.category]; done) | rfl) ?_
  intro p e s m below meth c T0 hx hby hml hown hnm hret hlk hZ X0
  show Go p.tables e below _ (T0.setTop (mkF m 0 #[.val (.int p1)] []))
  refine Go.by (fun _ => XS.iloadN X0.here hx rfl (hb hby d2_0) rfl) ?_
  show Go p.tables e below _ (T0.setTop (mkF m 1 #[.val (.int p1)] [(.int p1)]))
  refine Go.by (fun _ => XS.bipush X0.here hx rfl (hb hby d2_1)) ?_
  show Go p.tables e below _ (T0.setTop (mkF m 3 #[.val (.int p1)] [(.int (64 : Int32)), (.int p1)]))
  by_cases hc3_1 : p1 < (64 : Int32)
  · skip
    refine Go.by (fun _ => XS.icmpYes X0.here hx rfl (pc0 := 3) (pc' := 12) rfl (hb hby d2_3) rfl (tlt hc3_1).1 (by decide) (by decide)) ?_
    show Go p.tables e below _ (T0.setTop (mkF m 12 #[.val (.int p1)] []))
    refine Go.by (fun _ => XS.lconst X0.here hx rfl (hb hby d2_12)) ?_
    show Go p.tables e below _ (T0.setTop (mkF m 13 #[.val (.int p1)] [(.long (1 : Int64))]))
    refine Go.by (fun _ => XS.iloadN X0.here hx rfl (hb hby d2_13) rfl) ?_
    show Go p.tables e below _ (T0.setTop (mkF m 14 #[.val (.int p1)] [(.int p1), (.long (1 : Int64))]))
    refine Go.by (fun _ => XS.lshl X0.here hx rfl (hb hby d2_14) rfl) ?_
    show Go p.tables e below _ (T0.setTop (mkF m 15 #[.val (.int p1)] [(.long ((1 : Int64) <<< (p1 &&& 0x3f).toInt64))]))
    refine Go.by (fun _ => XS.lconst X0.here hx rfl (hb hby d2_15)) ?_
    show Go p.tables e below _ (T0.setTop (mkF m 16 #[.val (.int p1)] [(.long (1 : Int64)), (.long ((1 : Int64) <<< (p1 &&& 0x3f).toInt64))]))
    refine Go.by (fun _ => XS.lsub X0.here hx rfl (hb hby d2_16) rfl) ?_
    show Go p.tables e below _ (T0.setTop (mkF m 17 #[.val (.int p1)] [(.long (((1 : Int64) <<< (p1 &&& 0x3f).toInt64) - (1 : Int64)))]))
    refine Go.retL X0 hx hlk hret (hb hby d2_17) (by decide) (by decide) ?_
    refine ⟨?_, rfl⟩
    simp only [own_mask, hc3_1, if_true, if_false, if_pos, if_neg, not_false_eq_true]
  · skip
    refine Go.by (fun _ => XS.icmpNo X0.here hx rfl (hb hby d2_3) rfl (flt hc3_1).1) ?_
    show Go p.tables e below _ (T0.setTop (mkF m 6 #[.val (.int p1)] []))
    refine Go.by (X0.ldc2Long hx hZ hown (tw hw 41 rfl) (g := (mkF m 6 #[.val (.int p1)] [])) rfl (hb hby d2_6)) ?_
    show Go p.tables e below _ (T0.setTop (mkF m 9 #[.val (.int p1)] [(.long (-1 : Int64))]))
    refine Go.by (fun _ => XS.goto X0.here hx rfl (pc0 := 9) (pc' := 17) rfl (hb hby d2_9) (by decide) (by decide)) ?_
    show Go p.tables e below _ (T0.setTop (mkF m 17 #[.val (.int p1)] [(.long (-1 : Int64))]))
    refine Go.retL X0 hx hlk hret (hb hby d2_17) (by decide) (by decide) ?_
    refine ⟨?_, rfl⟩
    simp only [own_mask, hc3_1, if_true, if_false, if_pos, if_neg, not_false_eq_true]
theorem d4_0 : decode prog_4_method_2_code 0 = .ok (.aload_n 0, 1) := by decide +kernel
theorem d4_1 : decode prog_4_method_2_code 1 = .ok (.invokespecial 1, 3) := by decide +kernel
theorem d4_4 : decode prog_4_method_2_code 4 = .ok (.aload_n 0, 1) := by decide +kernel
theorem d4_5 : decode prog_4_method_2_code 5 = .ok (.iload_n 1, 1) := by decide +kernel
theorem d4_6 : decode prog_4_method_2_code 6 = .ok (.putfield 16, 3) := by decide +kernel
theorem d4_9 : decode prog_4_method_2_code 9 = .ok (.aload_n 0, 1) := by decide +kernel
theorem d4_10 : decode prog_4_method_2_code 10 = .ok (.aload_n 2, 1) := by decide +kernel
theorem d4_11 : decode prog_4_method_2_code 11 = .ok (.putfield 26, 3) := by decide +kernel
theorem d4_14 : decode prog_4_method_2_code 14 = .ok (.return_, 1) := by decide +kernel
abbrev Rm4 : Room := { frames := 1, cells := 0, slots := 0, locals := 12 }
theorem pn1 : plainName "com/example/bitstrata/bitstrata/bitmap/BitVector" = true := by first | (simp [plainName, overriddenIn]; done) | decide +kernel
set_option maxRecDepth 65536 in
set_option maxHeartbeats 40000000 in
theorem rm4 (l : Launch) (Z : State) (a0 : Array Value) (hw : ∀ d ∈ tables_1, d.before a0 Z = true) (ws : List Jvm.Cond) (a1 : Addr) (p2 : Int32) (a3 : Addr) (h0 : Heap) (n0 : Nat) (Z0 : n0 ≤ h0.size) (E_a1 : Exa Z h0 a1 "com/example/bitstrata/bitstrata/bitmap/BitVector") (g_a1 : n0 ≤ a1) (F_l : Fld Z h0 a1 "com/example/bitstrata/bitstrata/bitmap/BitVector" "length" "I" (.int (0 : Int32))) (F_w : Fld Z h0 a1 "com/example/bitstrata/bitstrata/bitmap/BitVector" "words" "[J" .null) :
    Met l Z n0 (⟨"com/example/bitstrata/bitstrata/bitmap/BitVector", "<init>", "(I[J)V"⟩ : MethodName) prog_4_method_2_code 3 none ws Rm4 #[(.ref a1), (.int p2), (.ref a3)] h0 (fun v h => v = none ∧ Keep h0 h [a1] ∧ Exa Z h a1 "com/example/bitstrata/bitstrata/bitmap/BitVector" ∧ Fld Z h a1 "com/example/bitstrata/bitstrata/bitmap/BitVector" "length" "I" (.int p2) ∧ Fld Z h a1 "com/example/bitstrata/bitstrata/bitmap/BitVector" "words" "[J" (.ref a3)) := by
  refine enter (Ls := #[.val (.ref a1), .val (.int p2), .val (.ref a3)]) (plainFor_of_name pn1) (fun m => by first | (simp [entryFrame, mkF, argsToLocals, Value.category]; done) | rfl) ?_
  intro p e s m below meth c T0 hx hby hml hown hnm hret hlk hZ X0
  have K0 := Keep.refl h0 [a1]
  show Go p.tables e below _ (T0.setTop (mkF m 0 #[.val (.ref a1), .val (.int p2), .val (.ref a3)] []))
  refine Go.by (fun _ => XS.aloadN X0.here hx rfl (hb hby d4_0) rfl rfl) ?_
  show Go p.tables e below _ (T0.setTop (mkF m 1 #[.val (.ref a1), .val (.int p2), .val (.ref a3)] [(.ref a1)]))
  obtain ⟨T1, X1, st1⟩ := X0.initO hx hZ hown (tw hw 19 rfl) (tw hw 20 rfl) (tw hw 21 rfl) (g := (mkF m 1 #[.val (.ref a1), .val (.int p2), .val (.ref a3)] [(.ref a1)])) rfl (by rw [hml]; rfl) rfl (hb hby d4_1) (by decide) (Nat.le_of_ble_eq_true rfl)
  refine Go.by st1 ?_
  show Go p.tables e below _ (T1.setTop (mkF m 4 #[.val (.ref a1), .val (.int p2), .val (.ref a3)] []))
  refine Go.by (fun _ => XS.aloadN X1.here hx rfl (hb hby d4_4) rfl rfl) ?_
  show Go p.tables e below _ (T1.setTop (mkF m 5 #[.val (.ref a1), .val (.int p2), .val (.ref a3)] [(.ref a1)]))
  refine Go.by (fun _ => XS.iloadN X1.here hx rfl (hb hby d4_5) rfl) ?_
  show Go p.tables e below _ (T1.setTop (mkF m 6 #[.val (.ref a1), .val (.int p2), .val (.ref a3)] [(.int p2), (.ref a1)]))
  obtain ⟨T2, h2, X2, W2, st2⟩ := X1.putF hx hZ hown (host := "") (Or.inl (tw hw 22 rfl)) Via.refl F_l E_a1 g_a1 (Or.inr ⟨(tw hw 23 rfl), rfl, hnm⟩) (tw hw 14 rfl) (ty := .int) (by decide) rfl rfl (g := (mkF m 6 #[.val (.ref a1), .val (.int p2), .val (.ref a3)] [(.int p2), (.ref a1)])) rfl rfl (hb hby d4_6)
  have Fw2 := F_l.same W2
  have f3_13 := E_a1.wr W2
  have f3_14 := F_w.other W2 (Or.inr (slot_ne (Or.inr (tw hw 25 rfl)) (Or.inr (tw hw 23 rfl)) (by decide) (t := (.array .long)) (t' := .int) (by decide) (by decide)))
  have f3_15 := K0.wr W2 (Or.inl (List.mem_of_getElem? (i := 0) rfl))
  have Zs3 : n0 ≤ h2.size := by rw [W2.size]; exact Z0
  refine Go.by st2 ?_
  show Go p.tables e below _ (T2.setTop (mkF m 9 #[.val (.ref a1), .val (.int p2), .val (.ref a3)] []))
  refine Go.by (fun _ => XS.aloadN X2.here hx rfl (hb hby d4_9) rfl rfl) ?_
  show Go p.tables e below _ (T2.setTop (mkF m 10 #[.val (.ref a1), .val (.int p2), .val (.ref a3)] [(.ref a1)]))
  refine Go.by (fun _ => XS.aloadN X2.here hx rfl (hb hby d4_10) rfl rfl) ?_
  show Go p.tables e below _ (T2.setTop (mkF m 11 #[.val (.ref a1), .val (.int p2), .val (.ref a3)] [(.ref a3), (.ref a1)]))
  obtain ⟨T4, h4, X4, W4, st4⟩ := X2.putF hx hZ hown (host := "") (Or.inl (tw hw 24 rfl)) Via.refl f3_14 f3_13 g_a1 (Or.inr ⟨(tw hw 25 rfl), rfl, hnm⟩) (tw hw 14 rfl) (ty := (.array .long)) (by decide) rfl rfl (g := (mkF m 11 #[.val (.ref a1), .val (.int p2), .val (.ref a3)] [(.ref a3), (.ref a1)])) rfl rfl (hb hby d4_11)
  have Fw4 := f3_14.same W4
  have f5_25 := f3_13.wr W4
  have f5_26 := Fw2.other W4 (Or.inr (slot_ne (Or.inr (tw hw 23 rfl)) (Or.inr (tw hw 25 rfl)) (by decide) (t := .int) (t' := (.array .long)) (by decide) (by decide)))
  have f5_27 := f3_15.wr W4 (Or.inl (List.mem_of_getElem? (i := 0) rfl))
  have Zs5 : n0 ≤ h4.size := by rw [W4.size]; exact Zs3
  refine Go.by st4 ?_
  show Go p.tables e below _ (T4.setTop (mkF m 14 #[.val (.ref a1), .val (.int p2), .val (.ref a3)] []))
  exact Go.ret0 X4 hx hlk hret (hb hby d4_14) (by decide) (by decide) ⟨rfl, f5_27, f5_25, f5_26, Fw4⟩
theorem d6_0 : decode prog_4_method_18_code 0 = .ok (.iconst 0, 1) := by decide +kernel
theorem d6_1 : decode prog_4_method_18_code 1 = .ok (.istore_n 1, 1) := by decide +kernel
theorem d6_2 : decode prog_4_method_18_code 2 = .ok (.iload_n 1, 1) := by decide +kernel
theorem d6_3 : decode prog_4_method_18_code 3 = .ok (.aload_n 0, 1) := by decide +kernel
theorem d6_4 : decode prog_4_method_18_code 4 = .ok (.getfield 26, 3) := by decide +kernel
theorem d6_7 : decode prog_4_method_18_code 7 = .ok (.arraylength, 1) := by decide +kernel
theorem d6_8 : decode prog_4_method_18_code 8 = .ok (.if_icmp .ge 25, 3) := by decide +kernel
theorem d6_33 : decode prog_4_method_18_code 33 = .ok (.aload_n 0, 1) := by decide +kernel
theorem d6_34 : decode prog_4_method_18_code 34 = .ok (.getfield 16, 3) := by decide +kernel
theorem d6_37 : decode prog_4_method_18_code 37 = .ok (.bipush 63, 2) := by decide +kernel
theorem d6_39 : decode prog_4_method_18_code 39 = .ok (.iand, 1) := by decide +kernel
theorem d6_40 : decode prog_4_method_18_code 40 = .ok (.istore_n 1, 1) := by decide +kernel
theorem d6_41 : decode prog_4_method_18_code 41 = .ok (.iload_n 1, 1) := by decide +kernel
theorem d6_42 : decode prog_4_method_18_code 42 = .ok (.ifCond .eq 26, 3) := by decide +kernel
theorem d6_68 : decode prog_4_method_18_code 68 = .ok (.return_, 1) := by decide +kernel
abbrev Rm6_0 : Room := { frames := 0, cells := 0, slots := 0, locals := 0 }
set_option maxRecDepth 65536 in
set_option maxHeartbeats 40000000 in
theorem rm6_0 (l : Launch) (Z : State) (a0 : Array Value) (hw : ∀ d ∈ tables_1, d.before a0 Z = true) (ws : List Jvm.Cond) (a1 : Addr) (d1 : Addr) (kc : ClassId) (h0 : Heap) (n0 : Nat) (Z0 : n0 ≤ h0.size) (F_l : Fld Z h0 a1 "com/example/bitstrata/bitstrata/bitmap/BitVector" "length" "I" (.int (0 : Int32))) (F_w : Fld Z h0 a1 "com/example/bitstrata/bitstrata/bitmap/BitVector" "words" "[J" (.ref d1)) (V_1 : Avf Z h0 d1 kc .long 0 (fun _ => (.long 0))) (g_d : n0 ≤ d1) (hne : a1 ≠ d1) :
    Met l Z n0 (⟨"com/example/bitstrata/bitstrata/bitmap/BitVector", "not", "()V"⟩ : MethodName) prog_4_method_18_code 2 none ws Rm6_0 #[(.ref a1)] h0 (fun v h => v = none ∧ Keep h0 h [d1] ∧ Avf Z h d1 kc .long 0 (fun _ => (.long 0))) := by
  refine enter (Ls := #[.val (.ref a1), .unset]) (plainFor_of_name pn1) (fun m => by first | (simp [entryFrame, mkF, argsToLocals, Value.category]; done) | rfl) ?_
  intro p e s m below meth c T0 hx hby hml hown hnm hret hlk hZ X0
  have K0 := Keep.refl h0 [d1]
  show Go p.tables e below _ (T0.setTop (mkF m 0 #[.val (.ref a1), .unset] []))
  refine Go.by (fun _ => XS.iconst X0.here hx rfl (hb hby d6_0)) ?_
  show Go p.tables e below _ (T0.setTop (mkF m 1 #[.val (.ref a1), .unset] [(.int (0 : Int32))]))
  refine Go.by (fun _ => XS.istoreN X0.here hx rfl (hb hby d6_1) rfl (l' := #[.val (.ref a1), .val (.int (0 : Int32))]) rfl) ?_
  show Go p.tables e below _ (T0.setTop (mkF m 2 #[.val (.ref a1), .val (.int (0 : Int32))] []))
  refine Go.by (fun _ => XS.iloadN X0.here hx rfl (hb hby d6_2) rfl) ?_
  show Go p.tables e below _ (T0.setTop (mkF m 3 #[.val (.ref a1), .val (.int (0 : Int32))] [(.int (0 : Int32))]))
  refine Go.by (fun _ => XS.aloadN X0.here hx rfl (hb hby d6_3) rfl rfl) ?_
  show Go p.tables e below _ (T0.setTop (mkF m 4 #[.val (.ref a1), .val (.int (0 : Int32))] [(.ref a1), (.int (0 : Int32))]))
  obtain ⟨T1, X1, st1⟩ := X0.getF hx hZ hown (host := "") (Or.inl (tw hw 24 rfl)) Via.refl F_w (g := (mkF m 4 #[.val (.ref a1), .val (.int (0 : Int32))] [(.ref a1), (.int (0 : Int32))])) rfl rfl (hb hby d6_4)
  refine Go.by st1 ?_
  show Go p.tables e below _ (T1.setTop (mkF m 7 #[.val (.ref a1), .val (.int (0 : Int32))] [(.ref d1), (.int (0 : Int32))]))
  refine Go.by (X1.len hx hZ V_1 (z := (0 : Int32)) rfl (g := (mkF m 7 #[.val (.ref a1), .val (.int (0 : Int32))] [(.ref d1), (.int (0 : Int32))])) rfl rfl (hb hby d6_7)) ?_
  show Go p.tables e below _ (T1.setTop (mkF m 8 #[.val (.ref a1), .val (.int (0 : Int32))] [(.int (0 : Int32)), (.int (0 : Int32))]))
  refine Go.by (fun _ => XS.icmpYes X1.here hx rfl (pc0 := 8) (pc' := 33) rfl (hb hby d6_8) rfl (flt (by decide)).2.1 (by decide) (by decide)) ?_
  show Go p.tables e below _ (T1.setTop (mkF m 33 #[.val (.ref a1), .val (.int (0 : Int32))] []))
  refine Go.by (fun _ => XS.aloadN X1.here hx rfl (hb hby d6_33) rfl rfl) ?_
  show Go p.tables e below _ (T1.setTop (mkF m 34 #[.val (.ref a1), .val (.int (0 : Int32))] [(.ref a1)]))
  obtain ⟨T2, X2, st2⟩ := X1.getF hx hZ hown (host := "") (Or.inl (tw hw 22 rfl)) Via.refl F_l (g := (mkF m 34 #[.val (.ref a1), .val (.int (0 : Int32))] [(.ref a1)])) rfl rfl (hb hby d6_34)
  refine Go.by st2 ?_
  show Go p.tables e below _ (T2.setTop (mkF m 37 #[.val (.ref a1), .val (.int (0 : Int32))] [(.int (0 : Int32))]))
  refine Go.by (fun _ => XS.bipush X2.here hx rfl (hb hby d6_37)) ?_
  show Go p.tables e below _ (T2.setTop (mkF m 39 #[.val (.ref a1), .val (.int (0 : Int32))] [(.int (63 : Int32)), (.int (0 : Int32))]))
  refine Go.by (fun _ => XS.iand X2.here hx rfl (hb hby d6_39) rfl) ?_
  show Go p.tables e below _ (T2.setTop (mkF m 40 #[.val (.ref a1), .val (.int (0 : Int32))] [(.int (0 : Int32))]))
  refine Go.by (fun _ => XS.istoreN X2.here hx rfl (hb hby d6_40) rfl (l' := #[.val (.ref a1), .val (.int (0 : Int32))]) rfl) ?_
  show Go p.tables e below _ (T2.setTop (mkF m 41 #[.val (.ref a1), .val (.int (0 : Int32))] []))
  refine Go.by (fun _ => XS.iloadN X2.here hx rfl (hb hby d6_41) rfl) ?_
  show Go p.tables e below _ (T2.setTop (mkF m 42 #[.val (.ref a1), .val (.int (0 : Int32))] [(.int (0 : Int32))]))
  refine Go.by (fun _ => XS.ifYes X2.here hx rfl (pc0 := 42) (pc' := 68) rfl (hb hby d6_42) rfl ((if0 _ _).trans (teq (by decide)).1) (by decide) (by decide)) ?_
  show Go p.tables e below _ (T2.setTop (mkF m 68 #[.val (.ref a1), .val (.int (0 : Int32))] []))
  refine Go.ret0 X2 hx hlk hret (hb hby d6_68) (by decide) (by decide) ?_
  refine ⟨rfl, K0, Avf.cong V_1 (fun i hi => ?_)⟩
  exact absurd hi (by omega)
theorem d6_11 : decode prog_4_method_18_code 11 = .ok (.aload_n 0, 1) := by decide +kernel
theorem d6_12 : decode prog_4_method_18_code 12 = .ok (.getfield 26, 3) := by decide +kernel
theorem d6_15 : decode prog_4_method_18_code 15 = .ok (.iload_n 1, 1) := by decide +kernel
theorem d6_16 : decode prog_4_method_18_code 16 = .ok (.aload_n 0, 1) := by decide +kernel
theorem d6_17 : decode prog_4_method_18_code 17 = .ok (.getfield 26, 3) := by decide +kernel
theorem d6_20 : decode prog_4_method_18_code 20 = .ok (.iload_n 1, 1) := by decide +kernel
theorem d6_21 : decode prog_4_method_18_code 21 = .ok (.laload, 1) := by decide +kernel
theorem d6_22 : decode prog_4_method_18_code 22 = .ok (.ldc2_w 55, 3) := by decide +kernel
theorem d6_25 : decode prog_4_method_18_code 25 = .ok (.lxor, 1) := by decide +kernel
theorem d6_26 : decode prog_4_method_18_code 26 = .ok (.lastore, 1) := by decide +kernel
theorem d6_27 : decode prog_4_method_18_code 27 = .ok (.iinc 1 1, 3) := by decide +kernel
theorem d6_30 : decode prog_4_method_18_code 30 = .ok (.goto (-28), 3) := by decide +kernel
theorem d6_45 : decode prog_4_method_18_code 45 = .ok (.aload_n 0, 1) := by decide +kernel
theorem d6_46 : decode prog_4_method_18_code 46 = .ok (.getfield 26, 3) := by decide +kernel
theorem d6_49 : decode prog_4_method_18_code 49 = .ok (.aload_n 0, 1) := by decide +kernel
theorem d6_50 : decode prog_4_method_18_code 50 = .ok (.getfield 26, 3) := by decide +kernel
theorem d6_53 : decode prog_4_method_18_code 53 = .ok (.arraylength, 1) := by decide +kernel
theorem d6_54 : decode prog_4_method_18_code 54 = .ok (.iconst 1, 1) := by decide +kernel
theorem d6_55 : decode prog_4_method_18_code 55 = .ok (.isub, 1) := by decide +kernel
theorem d6_56 : decode prog_4_method_18_code 56 = .ok (.dup2, 1) := by decide +kernel
theorem d6_57 : decode prog_4_method_18_code 57 = .ok (.laload, 1) := by decide +kernel
theorem d6_58 : decode prog_4_method_18_code 58 = .ok (.ldc2_w 55, 3) := by decide +kernel
theorem d6_61 : decode prog_4_method_18_code 61 = .ok (.bipush 64, 2) := by decide +kernel
theorem d6_63 : decode prog_4_method_18_code 63 = .ok (.iload_n 1, 1) := by decide +kernel
theorem d6_64 : decode prog_4_method_18_code 64 = .ok (.isub, 1) := by decide +kernel
theorem d6_65 : decode prog_4_method_18_code 65 = .ok (.lushr, 1) := by decide +kernel
theorem d6_66 : decode prog_4_method_18_code 66 = .ok (.land, 1) := by decide +kernel
theorem d6_67 : decode prog_4_method_18_code 67 = .ok (.lastore, 1) := by decide +kernel
abbrev Rm6_1 : Room := { frames := 0, cells := 0, slots := 0, locals := 0 }
set_option maxRecDepth 65536 in
set_option maxHeartbeats 40000000 in
theorem rm6_1 (l : Launch) (Z : State) (a0 : Array Value) (hw : ∀ d ∈ tables_1, d.before a0 Z = true) (ws : List Jvm.Cond) (a1 : Addr) (d1 : Addr) (kc : ClassId) (lv : Int32) (q1 : Int64) (h0 : Heap) (n0 : Nat) (Z0 : n0 ≤ h0.size) (F_l : Fld Z h0 a1 "com/example/bitstrata/bitstrata/bitmap/BitVector" "length" "I" (.int lv)) (F_w : Fld Z h0 a1 "com/example/bitstrata/bitstrata/bitmap/BitVector" "words" "[J" (.ref d1)) (V_1 : Avf Z h0 d1 kc .long 1 (fun _ => (.long q1))) (g_d : n0 ≤ d1) (hne : a1 ≠ d1) :
    Met l Z n0 (⟨"com/example/bitstrata/bitstrata/bitmap/BitVector", "not", "()V"⟩ : MethodName) prog_4_method_18_code 2 none ws Rm6_1 #[(.ref a1)] h0 (fun v h => v = none ∧ Keep h0 h [d1] ∧ Avf Z h d1 kc .long 1 (fun _ => (.long (own_n lv q1)))) := by
  refine enter (Ls := #[.val (.ref a1), .unset]) (plainFor_of_name pn1) (fun m => by first | (simp [entryFrame, mkF, argsToLocals, Value.category]; done) | rfl) ?_
  intro p e s m below meth c T0 hx hby hml hown hnm hret hlk hZ X0
  have K0 := Keep.refl h0 [d1]
  show Go p.tables e below _ (T0.setTop (mkF m 0 #[.val (.ref a1), .unset] []))
  refine Go.by (fun _ => XS.iconst X0.here hx rfl (hb hby d6_0)) ?_
  show Go p.tables e below _ (T0.setTop (mkF m 1 #[.val (.ref a1), .unset] [(.int (0 : Int32))]))
  refine Go.by (fun _ => XS.istoreN X0.here hx rfl (hb hby d6_1) rfl (l' := #[.val (.ref a1), .val (.int (0 : Int32))]) rfl) ?_
  show Go p.tables e below _ (T0.setTop (mkF m 2 #[.val (.ref a1), .val (.int (0 : Int32))] []))
  refine Go.by (fun _ => XS.iloadN X0.here hx rfl (hb hby d6_2) rfl) ?_
  show Go p.tables e below _ (T0.setTop (mkF m 3 #[.val (.ref a1), .val (.int (0 : Int32))] [(.int (0 : Int32))]))
  refine Go.by (fun _ => XS.aloadN X0.here hx rfl (hb hby d6_3) rfl rfl) ?_
  show Go p.tables e below _ (T0.setTop (mkF m 4 #[.val (.ref a1), .val (.int (0 : Int32))] [(.ref a1), (.int (0 : Int32))]))
  obtain ⟨T1, X1, st1⟩ := X0.getF hx hZ hown (host := "") (Or.inl (tw hw 24 rfl)) Via.refl F_w (g := (mkF m 4 #[.val (.ref a1), .val (.int (0 : Int32))] [(.ref a1), (.int (0 : Int32))])) rfl rfl (hb hby d6_4)
  refine Go.by st1 ?_
  show Go p.tables e below _ (T1.setTop (mkF m 7 #[.val (.ref a1), .val (.int (0 : Int32))] [(.ref d1), (.int (0 : Int32))]))
  refine Go.by (X1.len hx hZ V_1 (z := (1 : Int32)) rfl (g := (mkF m 7 #[.val (.ref a1), .val (.int (0 : Int32))] [(.ref d1), (.int (0 : Int32))])) rfl rfl (hb hby d6_7)) ?_
  show Go p.tables e below _ (T1.setTop (mkF m 8 #[.val (.ref a1), .val (.int (0 : Int32))] [(.int (1 : Int32)), (.int (0 : Int32))]))
  refine Go.by (fun _ => XS.icmpNo X1.here hx rfl (hb hby d6_8) rfl (tlt (by decide)).2.1) ?_
  show Go p.tables e below _ (T1.setTop (mkF m 11 #[.val (.ref a1), .val (.int (0 : Int32))] []))
  refine Go.by (fun _ => XS.aloadN X1.here hx rfl (hb hby d6_11) rfl rfl) ?_
  show Go p.tables e below _ (T1.setTop (mkF m 12 #[.val (.ref a1), .val (.int (0 : Int32))] [(.ref a1)]))
  obtain ⟨T2, X2, st2⟩ := X1.getF hx hZ hown (host := "") (Or.inl (tw hw 24 rfl)) Via.refl F_w (g := (mkF m 12 #[.val (.ref a1), .val (.int (0 : Int32))] [(.ref a1)])) rfl rfl (hb hby d6_12)
  refine Go.by st2 ?_
  show Go p.tables e below _ (T2.setTop (mkF m 15 #[.val (.ref a1), .val (.int (0 : Int32))] [(.ref d1)]))
  refine Go.by (fun _ => XS.iloadN X2.here hx rfl (hb hby d6_15) rfl) ?_
  show Go p.tables e below _ (T2.setTop (mkF m 16 #[.val (.ref a1), .val (.int (0 : Int32))] [(.int (0 : Int32)), (.ref d1)]))
  refine Go.by (fun _ => XS.aloadN X2.here hx rfl (hb hby d6_16) rfl rfl) ?_
  show Go p.tables e below _ (T2.setTop (mkF m 17 #[.val (.ref a1), .val (.int (0 : Int32))] [(.ref a1), (.int (0 : Int32)), (.ref d1)]))
  obtain ⟨T3, X3, st3⟩ := X2.getF hx hZ hown (host := "") (Or.inl (tw hw 24 rfl)) Via.refl F_w (g := (mkF m 17 #[.val (.ref a1), .val (.int (0 : Int32))] [(.ref a1), (.int (0 : Int32)), (.ref d1)])) rfl rfl (hb hby d6_17)
  refine Go.by st3 ?_
  show Go p.tables e below _ (T3.setTop (mkF m 20 #[.val (.ref a1), .val (.int (0 : Int32))] [(.ref d1), (.int (0 : Int32)), (.ref d1)]))
  refine Go.by (fun _ => XS.iloadN X3.here hx rfl (hb hby d6_20) rfl) ?_
  show Go p.tables e below _ (T3.setTop (mkF m 21 #[.val (.ref a1), .val (.int (0 : Int32))] [(.int (0 : Int32)), (.ref d1), (.int (0 : Int32)), (.ref d1)]))
  refine Go.by (X3.ldJ hx hZ V_1 (by decide) (i := 0) rfl (by decide) (v := (.long q1)) rfl (g := (mkF m 21 #[.val (.ref a1), .val (.int (0 : Int32))] [(.int (0 : Int32)), (.ref d1), (.int (0 : Int32)), (.ref d1)])) rfl rfl (hb hby d6_21)) ?_
  show Go p.tables e below _ (T3.setTop (mkF m 22 #[.val (.ref a1), .val (.int (0 : Int32))] [(.long q1), (.int (0 : Int32)), (.ref d1)]))
  refine Go.by (X3.ldc2Long hx hZ hown (tw hw 42 rfl) (g := (mkF m 22 #[.val (.ref a1), .val (.int (0 : Int32))] [(.long q1), (.int (0 : Int32)), (.ref d1)])) rfl (hb hby d6_22)) ?_
  show Go p.tables e below _ (T3.setTop (mkF m 25 #[.val (.ref a1), .val (.int (0 : Int32))] [(.long (-1 : Int64)), (.long q1), (.int (0 : Int32)), (.ref d1)]))
  refine Go.by (fun _ => XS.lxor X3.here hx rfl (hb hby d6_25) rfl) ?_
  show Go p.tables e below _ (T3.setTop (mkF m 26 #[.val (.ref a1), .val (.int (0 : Int32))] [(.long (q1 ^^^ (-1 : Int64))), (.int (0 : Int32)), (.ref d1)]))
  obtain ⟨T4, h4, X4, W4, V4, st4⟩ := X3.stJ hx hZ V_1 g_d (by decide) (i := 0) rfl (by decide) (g := (mkF m 26 #[.val (.ref a1), .val (.int (0 : Int32))] [(.long (q1 ^^^ (-1 : Int64))), (.int (0 : Int32)), (.ref d1)])) rfl rfl (hb hby d6_26)
  have f5_38 := F_l.other W4 (Or.inl hne)
  have f5_39 := F_w.other W4 (Or.inl hne)
  have f5_40 := K0.wr W4 (Or.inl (List.mem_of_getElem? (i := 0) rfl))
  have Zs5 : n0 ≤ h4.size := by rw [W4.size]; exact Z0
  refine Go.by st4 ?_
  show Go p.tables e below _ (T4.setTop (mkF m 27 #[.val (.ref a1), .val (.int (0 : Int32))] []))
  refine Go.by (fun _ => XS.iinc X4.here hx rfl (hb hby d6_27) rfl (l' := #[.val (.ref a1), .val (.int (1 : Int32))]) rfl) ?_
  show Go p.tables e below _ (T4.setTop (mkF m 30 #[.val (.ref a1), .val (.int (1 : Int32))] []))
  refine Go.by (fun _ => XS.goto X4.here hx rfl (pc0 := 30) (pc' := 2) rfl (hb hby d6_30) (by decide) (by decide)) ?_
  show Go p.tables e below _ (T4.setTop (mkF m 2 #[.val (.ref a1), .val (.int (1 : Int32))] []))
  refine Go.by (fun _ => XS.iloadN X4.here hx rfl (hb hby d6_2) rfl) ?_
  show Go p.tables e below _ (T4.setTop (mkF m 3 #[.val (.ref a1), .val (.int (1 : Int32))] [(.int (1 : Int32))]))
  refine Go.by (fun _ => XS.aloadN X4.here hx rfl (hb hby d6_3) rfl rfl) ?_
  show Go p.tables e below _ (T4.setTop (mkF m 4 #[.val (.ref a1), .val (.int (1 : Int32))] [(.ref a1), (.int (1 : Int32))]))
  obtain ⟨T6, X6, st6⟩ := X4.getF hx hZ hown (host := "") (Or.inl (tw hw 24 rfl)) Via.refl f5_39 (g := (mkF m 4 #[.val (.ref a1), .val (.int (1 : Int32))] [(.ref a1), (.int (1 : Int32))])) rfl rfl (hb hby d6_4)
  refine Go.by st6 ?_
  show Go p.tables e below _ (T6.setTop (mkF m 7 #[.val (.ref a1), .val (.int (1 : Int32))] [(.ref d1), (.int (1 : Int32))]))
  refine Go.by (X6.len hx hZ V4 (z := (1 : Int32)) rfl (g := (mkF m 7 #[.val (.ref a1), .val (.int (1 : Int32))] [(.ref d1), (.int (1 : Int32))])) rfl rfl (hb hby d6_7)) ?_
  show Go p.tables e below _ (T6.setTop (mkF m 8 #[.val (.ref a1), .val (.int (1 : Int32))] [(.int (1 : Int32)), (.int (1 : Int32))]))
  refine Go.by (fun _ => XS.icmpYes X6.here hx rfl (pc0 := 8) (pc' := 33) rfl (hb hby d6_8) rfl (flt (by decide)).2.1 (by decide) (by decide)) ?_
  show Go p.tables e below _ (T6.setTop (mkF m 33 #[.val (.ref a1), .val (.int (1 : Int32))] []))
  refine Go.by (fun _ => XS.aloadN X6.here hx rfl (hb hby d6_33) rfl rfl) ?_
  show Go p.tables e below _ (T6.setTop (mkF m 34 #[.val (.ref a1), .val (.int (1 : Int32))] [(.ref a1)]))
  obtain ⟨T7, X7, st7⟩ := X6.getF hx hZ hown (host := "") (Or.inl (tw hw 22 rfl)) Via.refl f5_38 (g := (mkF m 34 #[.val (.ref a1), .val (.int (1 : Int32))] [(.ref a1)])) rfl rfl (hb hby d6_34)
  refine Go.by st7 ?_
  show Go p.tables e below _ (T7.setTop (mkF m 37 #[.val (.ref a1), .val (.int (1 : Int32))] [(.int lv)]))
  refine Go.by (fun _ => XS.bipush X7.here hx rfl (hb hby d6_37)) ?_
  show Go p.tables e below _ (T7.setTop (mkF m 39 #[.val (.ref a1), .val (.int (1 : Int32))] [(.int (63 : Int32)), (.int lv)]))
  refine Go.by (fun _ => XS.iand X7.here hx rfl (hb hby d6_39) rfl) ?_
  show Go p.tables e below _ (T7.setTop (mkF m 40 #[.val (.ref a1), .val (.int (1 : Int32))] [(.int (lv &&& (63 : Int32)))]))
  refine Go.by (fun _ => XS.istoreN X7.here hx rfl (hb hby d6_40) rfl (l' := #[.val (.ref a1), .val (.int (lv &&& (63 : Int32)))]) rfl) ?_
  show Go p.tables e below _ (T7.setTop (mkF m 41 #[.val (.ref a1), .val (.int (lv &&& (63 : Int32)))] []))
  refine Go.by (fun _ => XS.iloadN X7.here hx rfl (hb hby d6_41) rfl) ?_
  show Go p.tables e below _ (T7.setTop (mkF m 42 #[.val (.ref a1), .val (.int (lv &&& (63 : Int32)))] [(.int (lv &&& (63 : Int32)))]))
  by_cases hc42_8 : (lv &&& (63 : Int32)) = (0 : Int32)
  · skip
    refine Go.by (fun _ => XS.ifYes X7.here hx rfl (pc0 := 42) (pc' := 68) rfl (hb hby d6_42) rfl ((if0 _ _).trans (teq hc42_8).1) (by decide) (by decide)) ?_
    show Go p.tables e below _ (T7.setTop (mkF m 68 #[.val (.ref a1), .val (.int (lv &&& (63 : Int32)))] []))
    refine Go.ret0 X7 hx hlk hret (hb hby d6_68) (by decide) (by decide) ?_
    refine ⟨rfl, f5_40, Avf.cong V4 (fun i hi => ?_)⟩
    match i, hi with
    | 0, _ => simp [own_n, own_sh, hc42_8]
  · skip
    refine Go.by (fun _ => XS.ifNo X7.here hx rfl (hb hby d6_42) rfl ((if0 _ _).trans (feq hc42_8).1)) ?_
    show Go p.tables e below _ (T7.setTop (mkF m 45 #[.val (.ref a1), .val (.int (lv &&& (63 : Int32)))] []))
    refine Go.by (fun _ => XS.aloadN X7.here hx rfl (hb hby d6_45) rfl rfl) ?_
    show Go p.tables e below _ (T7.setTop (mkF m 46 #[.val (.ref a1), .val (.int (lv &&& (63 : Int32)))] [(.ref a1)]))
    obtain ⟨T9, X9, st9⟩ := X7.getF hx hZ hown (host := "") (Or.inl (tw hw 24 rfl)) Via.refl f5_39 (g := (mkF m 46 #[.val (.ref a1), .val (.int (lv &&& (63 : Int32)))] [(.ref a1)])) rfl rfl (hb hby d6_46)
    refine Go.by st9 ?_
    show Go p.tables e below _ (T9.setTop (mkF m 49 #[.val (.ref a1), .val (.int (lv &&& (63 : Int32)))] [(.ref d1)]))
    refine Go.by (fun _ => XS.aloadN X9.here hx rfl (hb hby d6_49) rfl rfl) ?_
    show Go p.tables e below _ (T9.setTop (mkF m 50 #[.val (.ref a1), .val (.int (lv &&& (63 : Int32)))] [(.ref a1), (.ref d1)]))
    obtain ⟨T10, X10, st10⟩ := X9.getF hx hZ hown (host := "") (Or.inl (tw hw 24 rfl)) Via.refl f5_39 (g := (mkF m 50 #[.val (.ref a1), .val (.int (lv &&& (63 : Int32)))] [(.ref a1), (.ref d1)])) rfl rfl (hb hby d6_50)
    refine Go.by st10 ?_
    show Go p.tables e below _ (T10.setTop (mkF m 53 #[.val (.ref a1), .val (.int (lv &&& (63 : Int32)))] [(.ref d1), (.ref d1)]))
    refine Go.by (X10.len hx hZ V4 (z := (1 : Int32)) rfl (g := (mkF m 53 #[.val (.ref a1), .val (.int (lv &&& (63 : Int32)))] [(.ref d1), (.ref d1)])) rfl rfl (hb hby d6_53)) ?_
    show Go p.tables e below _ (T10.setTop (mkF m 54 #[.val (.ref a1), .val (.int (lv &&& (63 : Int32)))] [(.int (1 : Int32)), (.ref d1)]))
    refine Go.by (fun _ => XS.iconst X10.here hx rfl (hb hby d6_54)) ?_
    show Go p.tables e below _ (T10.setTop (mkF m 55 #[.val (.ref a1), .val (.int (lv &&& (63 : Int32)))] [(.int (1 : Int32)), (.int (1 : Int32)), (.ref d1)]))
    refine Go.by (fun _ => XS.isub X10.here hx rfl (hb hby d6_55) rfl) ?_
    show Go p.tables e below _ (T10.setTop (mkF m 56 #[.val (.ref a1), .val (.int (lv &&& (63 : Int32)))] [(.int (0 : Int32)), (.ref d1)]))
    refine Go.by (S' := T10.setTop (mkF m 57 #[.val (.ref a1), .val (.int (lv &&& (63 : Int32)))] [(.int (0 : Int32)), (.ref d1), (.int (0 : Int32)), (.ref d1)])) (fun _ kt => by
      jvm_step X10.here [X10.here.top, hx, (hb hby d6_56), Value.category]
      exact kt) ?_
    refine Go.by (X10.ldJ hx hZ V4 (by decide) (i := 0) rfl (by decide) (v := (.long (q1 ^^^ (-1 : Int64)))) rfl (g := (mkF m 57 #[.val (.ref a1), .val (.int (lv &&& (63 : Int32)))] [(.int (0 : Int32)), (.ref d1), (.int (0 : Int32)), (.ref d1)])) rfl rfl (hb hby d6_57)) ?_
    show Go p.tables e below _ (T10.setTop (mkF m 58 #[.val (.ref a1), .val (.int (lv &&& (63 : Int32)))] [(.long (q1 ^^^ (-1 : Int64))), (.int (0 : Int32)), (.ref d1)]))
    refine Go.by (X10.ldc2Long hx hZ hown (tw hw 42 rfl) (g := (mkF m 58 #[.val (.ref a1), .val (.int (lv &&& (63 : Int32)))] [(.long (q1 ^^^ (-1 : Int64))), (.int (0 : Int32)), (.ref d1)])) rfl (hb hby d6_58)) ?_
    show Go p.tables e below _ (T10.setTop (mkF m 61 #[.val (.ref a1), .val (.int (lv &&& (63 : Int32)))] [(.long (-1 : Int64)), (.long (q1 ^^^ (-1 : Int64))), (.int (0 : Int32)), (.ref d1)]))
    refine Go.by (fun _ => XS.bipush X10.here hx rfl (hb hby d6_61)) ?_
    show Go p.tables e below _ (T10.setTop (mkF m 63 #[.val (.ref a1), .val (.int (lv &&& (63 : Int32)))] [(.int (64 : Int32)), (.long (-1 : Int64)), (.long (q1 ^^^ (-1 : Int64))), (.int (0 : Int32)), (.ref d1)]))
    refine Go.by (fun _ => XS.iloadN X10.here hx rfl (hb hby d6_63) rfl) ?_
    show Go p.tables e below _ (T10.setTop (mkF m 64 #[.val (.ref a1), .val (.int (lv &&& (63 : Int32)))] [(.int (lv &&& (63 : Int32))), (.int (64 : Int32)), (.long (-1 : Int64)), (.long (q1 ^^^ (-1 : Int64))), (.int (0 : Int32)), (.ref d1)]))
    refine Go.by (fun _ => XS.isub X10.here hx rfl (hb hby d6_64) rfl) ?_
    show Go p.tables e below _ (T10.setTop (mkF m 65 #[.val (.ref a1), .val (.int (lv &&& (63 : Int32)))] [(.int ((64 : Int32) - (lv &&& (63 : Int32)))), (.long (-1 : Int64)), (.long (q1 ^^^ (-1 : Int64))), (.int (0 : Int32)), (.ref d1)]))
    refine Go.by (fun _ => XS.lushr X10.here hx rfl (hb hby d6_65) rfl) ?_
    show Go p.tables e below _ (T10.setTop (mkF m 66 #[.val (.ref a1), .val (.int (lv &&& (63 : Int32)))] [(.long (((-1 : Int64).toUInt64 >>> (((64 : Int32) - (lv &&& (63 : Int32))) &&& 0x3f).toInt64.toUInt64).toInt64)), (.long (q1 ^^^ (-1 : Int64))), (.int (0 : Int32)), (.ref d1)]))
    refine Go.by (fun _ => XS.land X10.here hx rfl (hb hby d6_66) rfl) ?_
    show Go p.tables e below _ (T10.setTop (mkF m 67 #[.val (.ref a1), .val (.int (lv &&& (63 : Int32)))] [(.long ((q1 ^^^ (-1 : Int64)) &&& (((-1 : Int64).toUInt64 >>> (((64 : Int32) - (lv &&& (63 : Int32))) &&& 0x3f).toInt64.toUInt64).toInt64))), (.int (0 : Int32)), (.ref d1)]))
    obtain ⟨T11, h11, X11, W11, V11, st11⟩ := X10.stJ hx hZ V4 g_d (by decide) (i := 0) rfl (by decide) (g := (mkF m 67 #[.val (.ref a1), .val (.int (lv &&& (63 : Int32)))] [(.long ((q1 ^^^ (-1 : Int64)) &&& (((-1 : Int64).toUInt64 >>> (((64 : Int32) - (lv &&& (63 : Int32))) &&& 0x3f).toInt64.toUInt64).toInt64))), (.int (0 : Int32)), (.ref d1)])) rfl rfl (hb hby d6_67)
    have f12_117 := f5_38.other W11 (Or.inl hne)
    have f12_118 := f5_39.other W11 (Or.inl hne)
    have f12_119 := f5_40.wr W11 (Or.inl (List.mem_of_getElem? (i := 0) rfl))
    have Zs12 : n0 ≤ h11.size := by rw [W11.size]; exact Zs5
    refine Go.by st11 ?_
    show Go p.tables e below _ (T11.setTop (mkF m 68 #[.val (.ref a1), .val (.int (lv &&& (63 : Int32)))] []))
    refine Go.ret0 X11 hx hlk hret (hb hby d6_68) (by decide) (by decide) ?_
    refine ⟨rfl, f12_119, Avf.cong V11 (fun i hi => ?_)⟩
    match i, hi with
    | 0, _ => simp [own_n, own_sh, hc42_8]
abbrev Rm6_2 : Room := { frames := 0, cells := 0, slots := 0, locals := 0 }
set_option maxRecDepth 65536 in
set_option maxHeartbeats 40000000 in
theorem rm6_2 (l : Launch) (Z : State) (a0 : Array Value) (hw : ∀ d ∈ tables_1, d.before a0 Z = true) (ws : List Jvm.Cond) (a1 : Addr) (d1 : Addr) (kc : ClassId) (lv : Int32) (q1 q2 : Int64) (h0 : Heap) (n0 : Nat) (Z0 : n0 ≤ h0.size) (F_l : Fld Z h0 a1 "com/example/bitstrata/bitstrata/bitmap/BitVector" "length" "I" (.int lv)) (F_w : Fld Z h0 a1 "com/example/bitstrata/bitstrata/bitmap/BitVector" "words" "[J" (.ref d1)) (V_1 : Avf Z h0 d1 kc .long 2 (fun i => if i = 0 then (.long q1) else (.long q2))) (g_d : n0 ≤ d1) (hne : a1 ≠ d1) :
    Met l Z n0 (⟨"com/example/bitstrata/bitstrata/bitmap/BitVector", "not", "()V"⟩ : MethodName) prog_4_method_18_code 2 none ws Rm6_2 #[(.ref a1)] h0 (fun v h => v = none ∧ Keep h0 h [d1] ∧ Avf Z h d1 kc .long 2 (fun i => if i = 0 then (.long (q1 ^^^ (-1))) else (.long (own_n lv q2)))) := by
  refine enter (Ls := #[.val (.ref a1), .unset]) (plainFor_of_name pn1) (fun m => by first | (simp [entryFrame, mkF, argsToLocals, Value.category]; done) | rfl) ?_
  intro p e s m below meth c T0 hx hby hml hown hnm hret hlk hZ X0
  have K0 := Keep.refl h0 [d1]
  show Go p.tables e below _ (T0.setTop (mkF m 0 #[.val (.ref a1), .unset] []))
  refine Go.by (fun _ => XS.iconst X0.here hx rfl (hb hby d6_0)) ?_
  show Go p.tables e below _ (T0.setTop (mkF m 1 #[.val (.ref a1), .unset] [(.int (0 : Int32))]))
  refine Go.by (fun _ => XS.istoreN X0.here hx rfl (hb hby d6_1) rfl (l' := #[.val (.ref a1), .val (.int (0 : Int32))]) rfl) ?_
  show Go p.tables e below _ (T0.setTop (mkF m 2 #[.val (.ref a1), .val (.int (0 : Int32))] []))
  refine Go.by (fun _ => XS.iloadN X0.here hx rfl (hb hby d6_2) rfl) ?_
  show Go p.tables e below _ (T0.setTop (mkF m 3 #[.val (.ref a1), .val (.int (0 : Int32))] [(.int (0 : Int32))]))
  refine Go.by (fun _ => XS.aloadN X0.here hx rfl (hb hby d6_3) rfl rfl) ?_
  show Go p.tables e below _ (T0.setTop (mkF m 4 #[.val (.ref a1), .val (.int (0 : Int32))] [(.ref a1), (.int (0 : Int32))]))
  obtain ⟨T1, X1, st1⟩ := X0.getF hx hZ hown (host := "") (Or.inl (tw hw 24 rfl)) Via.refl F_w (g := (mkF m 4 #[.val (.ref a1), .val (.int (0 : Int32))] [(.ref a1), (.int (0 : Int32))])) rfl rfl (hb hby d6_4)
  refine Go.by st1 ?_
  show Go p.tables e below _ (T1.setTop (mkF m 7 #[.val (.ref a1), .val (.int (0 : Int32))] [(.ref d1), (.int (0 : Int32))]))
  refine Go.by (X1.len hx hZ V_1 (z := (2 : Int32)) rfl (g := (mkF m 7 #[.val (.ref a1), .val (.int (0 : Int32))] [(.ref d1), (.int (0 : Int32))])) rfl rfl (hb hby d6_7)) ?_
  show Go p.tables e below _ (T1.setTop (mkF m 8 #[.val (.ref a1), .val (.int (0 : Int32))] [(.int (2 : Int32)), (.int (0 : Int32))]))
  refine Go.by (fun _ => XS.icmpNo X1.here hx rfl (hb hby d6_8) rfl (tlt (by decide)).2.1) ?_
  show Go p.tables e below _ (T1.setTop (mkF m 11 #[.val (.ref a1), .val (.int (0 : Int32))] []))
  refine Go.by (fun _ => XS.aloadN X1.here hx rfl (hb hby d6_11) rfl rfl) ?_
  show Go p.tables e below _ (T1.setTop (mkF m 12 #[.val (.ref a1), .val (.int (0 : Int32))] [(.ref a1)]))
  obtain ⟨T2, X2, st2⟩ := X1.getF hx hZ hown (host := "") (Or.inl (tw hw 24 rfl)) Via.refl F_w (g := (mkF m 12 #[.val (.ref a1), .val (.int (0 : Int32))] [(.ref a1)])) rfl rfl (hb hby d6_12)
  refine Go.by st2 ?_
  show Go p.tables e below _ (T2.setTop (mkF m 15 #[.val (.ref a1), .val (.int (0 : Int32))] [(.ref d1)]))
  refine Go.by (fun _ => XS.iloadN X2.here hx rfl (hb hby d6_15) rfl) ?_
  show Go p.tables e below _ (T2.setTop (mkF m 16 #[.val (.ref a1), .val (.int (0 : Int32))] [(.int (0 : Int32)), (.ref d1)]))
  refine Go.by (fun _ => XS.aloadN X2.here hx rfl (hb hby d6_16) rfl rfl) ?_
  show Go p.tables e below _ (T2.setTop (mkF m 17 #[.val (.ref a1), .val (.int (0 : Int32))] [(.ref a1), (.int (0 : Int32)), (.ref d1)]))
  obtain ⟨T3, X3, st3⟩ := X2.getF hx hZ hown (host := "") (Or.inl (tw hw 24 rfl)) Via.refl F_w (g := (mkF m 17 #[.val (.ref a1), .val (.int (0 : Int32))] [(.ref a1), (.int (0 : Int32)), (.ref d1)])) rfl rfl (hb hby d6_17)
  refine Go.by st3 ?_
  show Go p.tables e below _ (T3.setTop (mkF m 20 #[.val (.ref a1), .val (.int (0 : Int32))] [(.ref d1), (.int (0 : Int32)), (.ref d1)]))
  refine Go.by (fun _ => XS.iloadN X3.here hx rfl (hb hby d6_20) rfl) ?_
  show Go p.tables e below _ (T3.setTop (mkF m 21 #[.val (.ref a1), .val (.int (0 : Int32))] [(.int (0 : Int32)), (.ref d1), (.int (0 : Int32)), (.ref d1)]))
  refine Go.by (X3.ldJ hx hZ V_1 (by decide) (i := 0) rfl (by decide) (v := (.long q1)) rfl (g := (mkF m 21 #[.val (.ref a1), .val (.int (0 : Int32))] [(.int (0 : Int32)), (.ref d1), (.int (0 : Int32)), (.ref d1)])) rfl rfl (hb hby d6_21)) ?_
  show Go p.tables e below _ (T3.setTop (mkF m 22 #[.val (.ref a1), .val (.int (0 : Int32))] [(.long q1), (.int (0 : Int32)), (.ref d1)]))
  refine Go.by (X3.ldc2Long hx hZ hown (tw hw 42 rfl) (g := (mkF m 22 #[.val (.ref a1), .val (.int (0 : Int32))] [(.long q1), (.int (0 : Int32)), (.ref d1)])) rfl (hb hby d6_22)) ?_
  show Go p.tables e below _ (T3.setTop (mkF m 25 #[.val (.ref a1), .val (.int (0 : Int32))] [(.long (-1 : Int64)), (.long q1), (.int (0 : Int32)), (.ref d1)]))
  refine Go.by (fun _ => XS.lxor X3.here hx rfl (hb hby d6_25) rfl) ?_
  show Go p.tables e below _ (T3.setTop (mkF m 26 #[.val (.ref a1), .val (.int (0 : Int32))] [(.long (q1 ^^^ (-1 : Int64))), (.int (0 : Int32)), (.ref d1)]))
  obtain ⟨T4, h4, X4, W4, V4, st4⟩ := X3.stJ hx hZ V_1 g_d (by decide) (i := 0) rfl (by decide) (g := (mkF m 26 #[.val (.ref a1), .val (.int (0 : Int32))] [(.long (q1 ^^^ (-1 : Int64))), (.int (0 : Int32)), (.ref d1)])) rfl rfl (hb hby d6_26)
  have f5_38 := F_l.other W4 (Or.inl hne)
  have f5_39 := F_w.other W4 (Or.inl hne)
  have f5_40 := K0.wr W4 (Or.inl (List.mem_of_getElem? (i := 0) rfl))
  have Zs5 : n0 ≤ h4.size := by rw [W4.size]; exact Z0
  refine Go.by st4 ?_
  show Go p.tables e below _ (T4.setTop (mkF m 27 #[.val (.ref a1), .val (.int (0 : Int32))] []))
  refine Go.by (fun _ => XS.iinc X4.here hx rfl (hb hby d6_27) rfl (l' := #[.val (.ref a1), .val (.int (1 : Int32))]) rfl) ?_
  show Go p.tables e below _ (T4.setTop (mkF m 30 #[.val (.ref a1), .val (.int (1 : Int32))] []))
  refine Go.by (fun _ => XS.goto X4.here hx rfl (pc0 := 30) (pc' := 2) rfl (hb hby d6_30) (by decide) (by decide)) ?_
  show Go p.tables e below _ (T4.setTop (mkF m 2 #[.val (.ref a1), .val (.int (1 : Int32))] []))
  refine Go.by (fun _ => XS.iloadN X4.here hx rfl (hb hby d6_2) rfl) ?_
  show Go p.tables e below _ (T4.setTop (mkF m 3 #[.val (.ref a1), .val (.int (1 : Int32))] [(.int (1 : Int32))]))
  refine Go.by (fun _ => XS.aloadN X4.here hx rfl (hb hby d6_3) rfl rfl) ?_
  show Go p.tables e below _ (T4.setTop (mkF m 4 #[.val (.ref a1), .val (.int (1 : Int32))] [(.ref a1), (.int (1 : Int32))]))
  obtain ⟨T6, X6, st6⟩ := X4.getF hx hZ hown (host := "") (Or.inl (tw hw 24 rfl)) Via.refl f5_39 (g := (mkF m 4 #[.val (.ref a1), .val (.int (1 : Int32))] [(.ref a1), (.int (1 : Int32))])) rfl rfl (hb hby d6_4)
  refine Go.by st6 ?_
  show Go p.tables e below _ (T6.setTop (mkF m 7 #[.val (.ref a1), .val (.int (1 : Int32))] [(.ref d1), (.int (1 : Int32))]))
  refine Go.by (X6.len hx hZ V4 (z := (2 : Int32)) rfl (g := (mkF m 7 #[.val (.ref a1), .val (.int (1 : Int32))] [(.ref d1), (.int (1 : Int32))])) rfl rfl (hb hby d6_7)) ?_
  show Go p.tables e below _ (T6.setTop (mkF m 8 #[.val (.ref a1), .val (.int (1 : Int32))] [(.int (2 : Int32)), (.int (1 : Int32))]))
  refine Go.by (fun _ => XS.icmpNo X6.here hx rfl (hb hby d6_8) rfl (tlt (by decide)).2.1) ?_
  show Go p.tables e below _ (T6.setTop (mkF m 11 #[.val (.ref a1), .val (.int (1 : Int32))] []))
  refine Go.by (fun _ => XS.aloadN X6.here hx rfl (hb hby d6_11) rfl rfl) ?_
  show Go p.tables e below _ (T6.setTop (mkF m 12 #[.val (.ref a1), .val (.int (1 : Int32))] [(.ref a1)]))
  obtain ⟨T7, X7, st7⟩ := X6.getF hx hZ hown (host := "") (Or.inl (tw hw 24 rfl)) Via.refl f5_39 (g := (mkF m 12 #[.val (.ref a1), .val (.int (1 : Int32))] [(.ref a1)])) rfl rfl (hb hby d6_12)
  refine Go.by st7 ?_
  show Go p.tables e below _ (T7.setTop (mkF m 15 #[.val (.ref a1), .val (.int (1 : Int32))] [(.ref d1)]))
  refine Go.by (fun _ => XS.iloadN X7.here hx rfl (hb hby d6_15) rfl) ?_
  show Go p.tables e below _ (T7.setTop (mkF m 16 #[.val (.ref a1), .val (.int (1 : Int32))] [(.int (1 : Int32)), (.ref d1)]))
  refine Go.by (fun _ => XS.aloadN X7.here hx rfl (hb hby d6_16) rfl rfl) ?_
  show Go p.tables e below _ (T7.setTop (mkF m 17 #[.val (.ref a1), .val (.int (1 : Int32))] [(.ref a1), (.int (1 : Int32)), (.ref d1)]))
  obtain ⟨T8, X8, st8⟩ := X7.getF hx hZ hown (host := "") (Or.inl (tw hw 24 rfl)) Via.refl f5_39 (g := (mkF m 17 #[.val (.ref a1), .val (.int (1 : Int32))] [(.ref a1), (.int (1 : Int32)), (.ref d1)])) rfl rfl (hb hby d6_17)
  refine Go.by st8 ?_
  show Go p.tables e below _ (T8.setTop (mkF m 20 #[.val (.ref a1), .val (.int (1 : Int32))] [(.ref d1), (.int (1 : Int32)), (.ref d1)]))
  refine Go.by (fun _ => XS.iloadN X8.here hx rfl (hb hby d6_20) rfl) ?_
  show Go p.tables e below _ (T8.setTop (mkF m 21 #[.val (.ref a1), .val (.int (1 : Int32))] [(.int (1 : Int32)), (.ref d1), (.int (1 : Int32)), (.ref d1)]))
  refine Go.by (X8.ldJ hx hZ V4 (by decide) (i := 1) rfl (by decide) (v := (.long q2)) rfl (g := (mkF m 21 #[.val (.ref a1), .val (.int (1 : Int32))] [(.int (1 : Int32)), (.ref d1), (.int (1 : Int32)), (.ref d1)])) rfl rfl (hb hby d6_21)) ?_
  show Go p.tables e below _ (T8.setTop (mkF m 22 #[.val (.ref a1), .val (.int (1 : Int32))] [(.long q2), (.int (1 : Int32)), (.ref d1)]))
  refine Go.by (X8.ldc2Long hx hZ hown (tw hw 42 rfl) (g := (mkF m 22 #[.val (.ref a1), .val (.int (1 : Int32))] [(.long q2), (.int (1 : Int32)), (.ref d1)])) rfl (hb hby d6_22)) ?_
  show Go p.tables e below _ (T8.setTop (mkF m 25 #[.val (.ref a1), .val (.int (1 : Int32))] [(.long (-1 : Int64)), (.long q2), (.int (1 : Int32)), (.ref d1)]))
  refine Go.by (fun _ => XS.lxor X8.here hx rfl (hb hby d6_25) rfl) ?_
  show Go p.tables e below _ (T8.setTop (mkF m 26 #[.val (.ref a1), .val (.int (1 : Int32))] [(.long (q2 ^^^ (-1 : Int64))), (.int (1 : Int32)), (.ref d1)]))
  obtain ⟨T9, h9, X9, W9, V9, st9⟩ := X8.stJ hx hZ V4 g_d (by decide) (i := 1) rfl (by decide) (g := (mkF m 26 #[.val (.ref a1), .val (.int (1 : Int32))] [(.long (q2 ^^^ (-1 : Int64))), (.int (1 : Int32)), (.ref d1)])) rfl rfl (hb hby d6_26)
  have f10_80 := f5_38.other W9 (Or.inl hne)
  have f10_81 := f5_39.other W9 (Or.inl hne)
  have f10_82 := f5_40.wr W9 (Or.inl (List.mem_of_getElem? (i := 0) rfl))
  have Zs10 : n0 ≤ h9.size := by rw [W9.size]; exact Zs5
  refine Go.by st9 ?_
  show Go p.tables e below _ (T9.setTop (mkF m 27 #[.val (.ref a1), .val (.int (1 : Int32))] []))
  refine Go.by (fun _ => XS.iinc X9.here hx rfl (hb hby d6_27) rfl (l' := #[.val (.ref a1), .val (.int (2 : Int32))]) rfl) ?_
  show Go p.tables e below _ (T9.setTop (mkF m 30 #[.val (.ref a1), .val (.int (2 : Int32))] []))
  refine Go.by (fun _ => XS.goto X9.here hx rfl (pc0 := 30) (pc' := 2) rfl (hb hby d6_30) (by decide) (by decide)) ?_
  show Go p.tables e below _ (T9.setTop (mkF m 2 #[.val (.ref a1), .val (.int (2 : Int32))] []))
  refine Go.by (fun _ => XS.iloadN X9.here hx rfl (hb hby d6_2) rfl) ?_
  show Go p.tables e below _ (T9.setTop (mkF m 3 #[.val (.ref a1), .val (.int (2 : Int32))] [(.int (2 : Int32))]))
  refine Go.by (fun _ => XS.aloadN X9.here hx rfl (hb hby d6_3) rfl rfl) ?_
  show Go p.tables e below _ (T9.setTop (mkF m 4 #[.val (.ref a1), .val (.int (2 : Int32))] [(.ref a1), (.int (2 : Int32))]))
  obtain ⟨T11, X11, st11⟩ := X9.getF hx hZ hown (host := "") (Or.inl (tw hw 24 rfl)) Via.refl f10_81 (g := (mkF m 4 #[.val (.ref a1), .val (.int (2 : Int32))] [(.ref a1), (.int (2 : Int32))])) rfl rfl (hb hby d6_4)
  refine Go.by st11 ?_
  show Go p.tables e below _ (T11.setTop (mkF m 7 #[.val (.ref a1), .val (.int (2 : Int32))] [(.ref d1), (.int (2 : Int32))]))
  refine Go.by (X11.len hx hZ V9 (z := (2 : Int32)) rfl (g := (mkF m 7 #[.val (.ref a1), .val (.int (2 : Int32))] [(.ref d1), (.int (2 : Int32))])) rfl rfl (hb hby d6_7)) ?_
  show Go p.tables e below _ (T11.setTop (mkF m 8 #[.val (.ref a1), .val (.int (2 : Int32))] [(.int (2 : Int32)), (.int (2 : Int32))]))
  refine Go.by (fun _ => XS.icmpYes X11.here hx rfl (pc0 := 8) (pc' := 33) rfl (hb hby d6_8) rfl (flt (by decide)).2.1 (by decide) (by decide)) ?_
  show Go p.tables e below _ (T11.setTop (mkF m 33 #[.val (.ref a1), .val (.int (2 : Int32))] []))
  refine Go.by (fun _ => XS.aloadN X11.here hx rfl (hb hby d6_33) rfl rfl) ?_
  show Go p.tables e below _ (T11.setTop (mkF m 34 #[.val (.ref a1), .val (.int (2 : Int32))] [(.ref a1)]))
  obtain ⟨T12, X12, st12⟩ := X11.getF hx hZ hown (host := "") (Or.inl (tw hw 22 rfl)) Via.refl f10_80 (g := (mkF m 34 #[.val (.ref a1), .val (.int (2 : Int32))] [(.ref a1)])) rfl rfl (hb hby d6_34)
  refine Go.by st12 ?_
  show Go p.tables e below _ (T12.setTop (mkF m 37 #[.val (.ref a1), .val (.int (2 : Int32))] [(.int lv)]))
  refine Go.by (fun _ => XS.bipush X12.here hx rfl (hb hby d6_37)) ?_
  show Go p.tables e below _ (T12.setTop (mkF m 39 #[.val (.ref a1), .val (.int (2 : Int32))] [(.int (63 : Int32)), (.int lv)]))
  refine Go.by (fun _ => XS.iand X12.here hx rfl (hb hby d6_39) rfl) ?_
  show Go p.tables e below _ (T12.setTop (mkF m 40 #[.val (.ref a1), .val (.int (2 : Int32))] [(.int (lv &&& (63 : Int32)))]))
  refine Go.by (fun _ => XS.istoreN X12.here hx rfl (hb hby d6_40) rfl (l' := #[.val (.ref a1), .val (.int (lv &&& (63 : Int32)))]) rfl) ?_
  show Go p.tables e below _ (T12.setTop (mkF m 41 #[.val (.ref a1), .val (.int (lv &&& (63 : Int32)))] []))
  refine Go.by (fun _ => XS.iloadN X12.here hx rfl (hb hby d6_41) rfl) ?_
  show Go p.tables e below _ (T12.setTop (mkF m 42 #[.val (.ref a1), .val (.int (lv &&& (63 : Int32)))] [(.int (lv &&& (63 : Int32)))]))
  by_cases hc42_13 : (lv &&& (63 : Int32)) = (0 : Int32)
  · skip
    refine Go.by (fun _ => XS.ifYes X12.here hx rfl (pc0 := 42) (pc' := 68) rfl (hb hby d6_42) rfl ((if0 _ _).trans (teq hc42_13).1) (by decide) (by decide)) ?_
    show Go p.tables e below _ (T12.setTop (mkF m 68 #[.val (.ref a1), .val (.int (lv &&& (63 : Int32)))] []))
    refine Go.ret0 X12 hx hlk hret (hb hby d6_68) (by decide) (by decide) ?_
    refine ⟨rfl, f10_82, Avf.cong V9 (fun i hi => ?_)⟩
    match i, hi with
    | 0, _ => simp [own_n, own_sh, hc42_13]
    | 1, _ => simp [own_n, own_sh, hc42_13]
  · skip
    refine Go.by (fun _ => XS.ifNo X12.here hx rfl (hb hby d6_42) rfl ((if0 _ _).trans (feq hc42_13).1)) ?_
    show Go p.tables e below _ (T12.setTop (mkF m 45 #[.val (.ref a1), .val (.int (lv &&& (63 : Int32)))] []))
    refine Go.by (fun _ => XS.aloadN X12.here hx rfl (hb hby d6_45) rfl rfl) ?_
    show Go p.tables e below _ (T12.setTop (mkF m 46 #[.val (.ref a1), .val (.int (lv &&& (63 : Int32)))] [(.ref a1)]))
    obtain ⟨T14, X14, st14⟩ := X12.getF hx hZ hown (host := "") (Or.inl (tw hw 24 rfl)) Via.refl f10_81 (g := (mkF m 46 #[.val (.ref a1), .val (.int (lv &&& (63 : Int32)))] [(.ref a1)])) rfl rfl (hb hby d6_46)
    refine Go.by st14 ?_
    show Go p.tables e below _ (T14.setTop (mkF m 49 #[.val (.ref a1), .val (.int (lv &&& (63 : Int32)))] [(.ref d1)]))
    refine Go.by (fun _ => XS.aloadN X14.here hx rfl (hb hby d6_49) rfl rfl) ?_
    show Go p.tables e below _ (T14.setTop (mkF m 50 #[.val (.ref a1), .val (.int (lv &&& (63 : Int32)))] [(.ref a1), (.ref d1)]))
    obtain ⟨T15, X15, st15⟩ := X14.getF hx hZ hown (host := "") (Or.inl (tw hw 24 rfl)) Via.refl f10_81 (g := (mkF m 50 #[.val (.ref a1), .val (.int (lv &&& (63 : Int32)))] [(.ref a1), (.ref d1)])) rfl rfl (hb hby d6_50)
    refine Go.by st15 ?_
    show Go p.tables e below _ (T15.setTop (mkF m 53 #[.val (.ref a1), .val (.int (lv &&& (63 : Int32)))] [(.ref d1), (.ref d1)]))
    refine Go.by (X15.len hx hZ V9 (z := (2 : Int32)) rfl (g := (mkF m 53 #[.val (.ref a1), .val (.int (lv &&& (63 : Int32)))] [(.ref d1), (.ref d1)])) rfl rfl (hb hby d6_53)) ?_
    show Go p.tables e below _ (T15.setTop (mkF m 54 #[.val (.ref a1), .val (.int (lv &&& (63 : Int32)))] [(.int (2 : Int32)), (.ref d1)]))
    refine Go.by (fun _ => XS.iconst X15.here hx rfl (hb hby d6_54)) ?_
    show Go p.tables e below _ (T15.setTop (mkF m 55 #[.val (.ref a1), .val (.int (lv &&& (63 : Int32)))] [(.int (1 : Int32)), (.int (2 : Int32)), (.ref d1)]))
    refine Go.by (fun _ => XS.isub X15.here hx rfl (hb hby d6_55) rfl) ?_
    show Go p.tables e below _ (T15.setTop (mkF m 56 #[.val (.ref a1), .val (.int (lv &&& (63 : Int32)))] [(.int (1 : Int32)), (.ref d1)]))
    refine Go.by (S' := T15.setTop (mkF m 57 #[.val (.ref a1), .val (.int (lv &&& (63 : Int32)))] [(.int (1 : Int32)), (.ref d1), (.int (1 : Int32)), (.ref d1)])) (fun _ kt => by
      jvm_step X15.here [X15.here.top, hx, (hb hby d6_56), Value.category]
      exact kt) ?_
    refine Go.by (X15.ldJ hx hZ V9 (by decide) (i := 1) rfl (by decide) (v := (.long (q2 ^^^ (-1 : Int64)))) rfl (g := (mkF m 57 #[.val (.ref a1), .val (.int (lv &&& (63 : Int32)))] [(.int (1 : Int32)), (.ref d1), (.int (1 : Int32)), (.ref d1)])) rfl rfl (hb hby d6_57)) ?_
    show Go p.tables e below _ (T15.setTop (mkF m 58 #[.val (.ref a1), .val (.int (lv &&& (63 : Int32)))] [(.long (q2 ^^^ (-1 : Int64))), (.int (1 : Int32)), (.ref d1)]))
    refine Go.by (X15.ldc2Long hx hZ hown (tw hw 42 rfl) (g := (mkF m 58 #[.val (.ref a1), .val (.int (lv &&& (63 : Int32)))] [(.long (q2 ^^^ (-1 : Int64))), (.int (1 : Int32)), (.ref d1)])) rfl (hb hby d6_58)) ?_
    show Go p.tables e below _ (T15.setTop (mkF m 61 #[.val (.ref a1), .val (.int (lv &&& (63 : Int32)))] [(.long (-1 : Int64)), (.long (q2 ^^^ (-1 : Int64))), (.int (1 : Int32)), (.ref d1)]))
    refine Go.by (fun _ => XS.bipush X15.here hx rfl (hb hby d6_61)) ?_
    show Go p.tables e below _ (T15.setTop (mkF m 63 #[.val (.ref a1), .val (.int (lv &&& (63 : Int32)))] [(.int (64 : Int32)), (.long (-1 : Int64)), (.long (q2 ^^^ (-1 : Int64))), (.int (1 : Int32)), (.ref d1)]))
    refine Go.by (fun _ => XS.iloadN X15.here hx rfl (hb hby d6_63) rfl) ?_
    show Go p.tables e below _ (T15.setTop (mkF m 64 #[.val (.ref a1), .val (.int (lv &&& (63 : Int32)))] [(.int (lv &&& (63 : Int32))), (.int (64 : Int32)), (.long (-1 : Int64)), (.long (q2 ^^^ (-1 : Int64))), (.int (1 : Int32)), (.ref d1)]))
    refine Go.by (fun _ => XS.isub X15.here hx rfl (hb hby d6_64) rfl) ?_
    show Go p.tables e below _ (T15.setTop (mkF m 65 #[.val (.ref a1), .val (.int (lv &&& (63 : Int32)))] [(.int ((64 : Int32) - (lv &&& (63 : Int32)))), (.long (-1 : Int64)), (.long (q2 ^^^ (-1 : Int64))), (.int (1 : Int32)), (.ref d1)]))
    refine Go.by (fun _ => XS.lushr X15.here hx rfl (hb hby d6_65) rfl) ?_
    show Go p.tables e below _ (T15.setTop (mkF m 66 #[.val (.ref a1), .val (.int (lv &&& (63 : Int32)))] [(.long (((-1 : Int64).toUInt64 >>> (((64 : Int32) - (lv &&& (63 : Int32))) &&& 0x3f).toInt64.toUInt64).toInt64)), (.long (q2 ^^^ (-1 : Int64))), (.int (1 : Int32)), (.ref d1)]))
    refine Go.by (fun _ => XS.land X15.here hx rfl (hb hby d6_66) rfl) ?_
    show Go p.tables e below _ (T15.setTop (mkF m 67 #[.val (.ref a1), .val (.int (lv &&& (63 : Int32)))] [(.long ((q2 ^^^ (-1 : Int64)) &&& (((-1 : Int64).toUInt64 >>> (((64 : Int32) - (lv &&& (63 : Int32))) &&& 0x3f).toInt64.toUInt64).toInt64))), (.int (1 : Int32)), (.ref d1)]))
    obtain ⟨T16, h16, X16, W16, V16, st16⟩ := X15.stJ hx hZ V9 g_d (by decide) (i := 1) rfl (by decide) (g := (mkF m 67 #[.val (.ref a1), .val (.int (lv &&& (63 : Int32)))] [(.long ((q2 ^^^ (-1 : Int64)) &&& (((-1 : Int64).toUInt64 >>> (((64 : Int32) - (lv &&& (63 : Int32))) &&& 0x3f).toInt64.toUInt64).toInt64))), (.int (1 : Int32)), (.ref d1)])) rfl rfl (hb hby d6_67)
    have f17_160 := f10_80.other W16 (Or.inl hne)
    have f17_161 := f10_81.other W16 (Or.inl hne)
    have f17_162 := f10_82.wr W16 (Or.inl (List.mem_of_getElem? (i := 0) rfl))
    have Zs17 : n0 ≤ h16.size := by rw [W16.size]; exact Zs10
    refine Go.by st16 ?_
    show Go p.tables e below _ (T16.setTop (mkF m 68 #[.val (.ref a1), .val (.int (lv &&& (63 : Int32)))] []))
    refine Go.ret0 X16 hx hlk hret (hb hby d6_68) (by decide) (by decide) ?_
    refine ⟨rfl, f17_162, Avf.cong V16 (fun i hi => ?_)⟩
    match i, hi with
    | 0, _ => simp [own_n, own_sh, hc42_13]
    | 1, _ => simp [own_n, own_sh, hc42_13]
theorem d7_0 : decode prog_4_method_8_code 0 = .ok (.aload_n 0, 1) := by decide +kernel
theorem d7_1 : decode prog_4_method_8_code 1 = .ok (.getfield 16, 3) := by decide +kernel
theorem d7_4 : decode prog_4_method_8_code 4 = .ok (.ireturn, 1) := by decide +kernel
abbrev Rm7 : Room := { frames := 0, cells := 0, slots := 0, locals := 0 }
set_option maxRecDepth 65536 in
set_option maxHeartbeats 40000000 in
theorem rm7 (l : Launch) (Z : State) (a0 : Array Value) (hw : ∀ d ∈ tables_1, d.before a0 Z = true) (ws : List Jvm.Cond) (a1 : Addr) (lv : Int32) (h0 : Heap) (n0 : Nat) (Z0 : n0 ≤ h0.size) (F_l : Fld Z h0 a1 "com/example/bitstrata/bitstrata/bitmap/BitVector" "length" "I" (.int lv)) :
    Met l Z n0 (⟨"com/example/bitstrata/bitstrata/bitmap/BitVector", "length", "()I"⟩ : MethodName) prog_4_method_8_code 1 (some .int) ws Rm7 #[(.ref a1)] h0 (fun v h => v = some (.int lv) ∧ h0 = h) := by
  refine enter (Ls := #[.val (.ref a1)]) (plainFor_of_name pn1) (fun m => by first | (simp [entryFrame, mkF, argsToLocals, Value.category]; done) | rfl) ?_
  intro p e s m below meth c T0 hx hby hml hown hnm hret hlk hZ X0
  show Go p.tables e below _ (T0.setTop (mkF m 0 #[.val (.ref a1)] []))
  refine Go.by (fun _ => XS.aloadN X0.here hx rfl (hb hby d7_0) rfl rfl) ?_
  show Go p.tables e below _ (T0.setTop (mkF m 1 #[.val (.ref a1)] [(.ref a1)]))
  obtain ⟨T1, X1, st1⟩ := X0.getF hx hZ hown (host := "") (Or.inl (tw hw 22 rfl)) Via.refl F_l (g := (mkF m 1 #[.val (.ref a1)] [(.ref a1)])) rfl rfl (hb hby d7_1)
  refine Go.by st1 ?_
  show Go p.tables e below _ (T1.setTop (mkF m 4 #[.val (.ref a1)] [(.int lv)]))
  exact Go.retI X1 hx hlk hret (hb hby d7_4) (by decide) (by decide) ⟨rfl, rfl⟩
theorem d8_0 : decode prog_4_method_7_code 0 = .ok (.aload_n 0, 1) := by decide +kernel
theorem d8_1 : decode prog_4_method_7_code 1 = .ok (.getfield 26, 3) := by decide +kernel
theorem d8_4 : decode prog_4_method_7_code 4 = .ok (.areturn, 1) := by decide +kernel
abbrev Rm8 : Room := { frames := 0, cells := 0, slots := 0, locals := 0 }
set_option maxRecDepth 65536 in
set_option maxHeartbeats 40000000 in
theorem rm8 (l : Launch) (Z : State) (a0 : Array Value) (hw : ∀ d ∈ tables_1, d.before a0 Z = true) (ws : List Jvm.Cond) (a1 : Addr) (d1 : Addr) (h0 : Heap) (n0 : Nat) (Z0 : n0 ≤ h0.size) (F_w : Fld Z h0 a1 "com/example/bitstrata/bitstrata/bitmap/BitVector" "words" "[J" (.ref d1)) :
    Met l Z n0 (⟨"com/example/bitstrata/bitstrata/bitmap/BitVector", "words", "()[J"⟩ : MethodName) prog_4_method_7_code 1 (some (.array .long)) ws Rm8 #[(.ref a1)] h0 (fun v h => v = some (.ref d1) ∧ h0 = h) := by
  refine enter (Ls := #[.val (.ref a1)]) (plainFor_of_name pn1) (fun m => by first | (simp [entryFrame, mkF, argsToLocals, Value.category]; done) | rfl) ?_
  intro p e s m below meth c T0 hx hby hml hown hnm hret hlk hZ X0
  show Go p.tables e below _ (T0.setTop (mkF m 0 #[.val (.ref a1)] []))
  refine Go.by (fun _ => XS.aloadN X0.here hx rfl (hb hby d8_0) rfl rfl) ?_
  show Go p.tables e below _ (T0.setTop (mkF m 1 #[.val (.ref a1)] [(.ref a1)]))
  obtain ⟨T1, X1, st1⟩ := X0.getF hx hZ hown (host := "") (Or.inl (tw hw 24 rfl)) Via.refl F_w (g := (mkF m 1 #[.val (.ref a1)] [(.ref a1)])) rfl rfl (hb hby d8_1)
  refine Go.by st1 ?_
  show Go p.tables e below _ (T1.setTop (mkF m 4 #[.val (.ref a1)] [(.ref d1)]))
  exact Go.retA X1 hx hlk hret rfl rfl (hb hby d8_4) (by decide) (by decide) ⟨rfl, rfl⟩
theorem pd0 : parseMethodDescriptor "(II)I" = some ⟨[.int, .int], some .int⟩ := by decide +kernel
theorem pd1 : parseMethodDescriptor "(I)J" = some ⟨[.int], some .long⟩ := by decide +kernel
theorem pd2 : parseMethodDescriptor "(I[J)V" = some ⟨[.int, (.array .long)], none⟩ := by decide +kernel
theorem pd3 : parseMethodDescriptor "()V" = some ⟨[], none⟩ := by decide +kernel
theorem pd4 : parseMethodDescriptor "()I" = some ⟨[], some .int⟩ := by decide +kernel
theorem pd5 : parseMethodDescriptor "()[J" = some ⟨[], some (.array .long)⟩ := by decide +kernel
set_option maxRecDepth 65536 in
set_option maxHeartbeats 40000000 in
theorem rm0 (l : Launch) (Z : State) (a0 : Array Value) (hw : ∀ d ∈ tables_1, d.before a0 Z = true) (ws : List Jvm.Cond) (p0 : Int32) (p1 : Int64) (p2 : Int64) (h0 : Heap) (n0 : Nat) (Z0 : n0 ≤ h0.size) :
    Met l Z n0 x code maxLocals ret ws room_1 #[(.int p0), (.long p1), (.long p2)] h0 (fun v h => v = some (.int 1)) := by
  refine enter (Ls := #[.val (.int p0), .val (.long p1), .second, .val (.long p2), .second, .unset, .unset, .unset, .unset, .unset, .unset, .unset, .unset, .unset, .unset, .unset, .unset, .unset, .unset, .unset, .unset]) (plainFor_of_name pn0) (fun m => by first | (simp [entryFrame, mkF, argsToLocals, Value.category, maxLocals]; done) | rfl) ?_
  intro p e s m below meth c T0 hx hby hml hown hnm hret hlk hZ X0
  show Go p.tables e below _ (T0.setTop (mkF m 0 #[.val (.int p0), .val (.long p1), .second, .val (.long p2), .second, .unset, .unset, .unset, .unset, .unset, .unset, .unset, .unset, .unset, .unset, .unset, .unset, .unset, .unset, .unset, .unset] []))
  refine Go.by (fun _ => XS.iloadN X0.here hx rfl (hb hby at_0) rfl) ?_
  show Go p.tables e below _ (T0.setTop (mkF m 1 #[.val (.int p0), .val (.long p1), .second, .val (.long p2), .second, .unset, .unset, .unset, .unset, .unset, .unset, .unset, .unset, .unset, .unset, .unset, .unset, .unset, .unset, .unset, .unset] [(.int p0)]))
  refine Go.by (X0.ldcInt hx hZ hown (tw hw 0 rfl) (g := (mkF m 1 #[.val (.int p0), .val (.long p1), .second, .val (.long p2), .second, .unset, .unset, .unset, .unset, .unset, .unset, .unset, .unset, .unset, .unset, .unset, .unset, .unset, .unset, .unset, .unset] [(.int p0)])) rfl (hb hby at_1)) ?_
  show Go p.tables e below _ (T0.setTop (mkF m 3 #[.val (.int p0), .val (.long p1), .second, .val (.long p2), .second, .unset, .unset, .unset, .unset, .unset, .unset, .unset, .unset, .unset, .unset, .unset, .unset, .unset, .unset, .unset, .unset] [(.int (2147483647 : Int32)), (.int p0)]))
  refine Go.by (fun _ => XS.iand X0.here hx rfl (hb hby at_3) rfl) ?_
  show Go p.tables e below _ (T0.setTop (mkF m 4 #[.val (.int p0), .val (.long p1), .second, .val (.long p2), .second, .unset, .unset, .unset, .unset, .unset, .unset, .unset, .unset, .unset, .unset, .unset, .unset, .unset, .unset, .unset, .unset] [(.int (p0 &&& (2147483647 : Int32)))]))
  refine Go.by (fun _ => XS.sipush X0.here hx rfl (hb hby at_4)) ?_
  show Go p.tables e below _ (T0.setTop (mkF m 7 #[.val (.int p0), .val (.long p1), .second, .val (.long p2), .second, .unset, .unset, .unset, .unset, .unset, .unset, .unset, .unset, .unset, .unset, .unset, .unset, .unset, .unset, .unset, .unset] [(.int (129 : Int32)), (.int (p0 &&& (2147483647 : Int32)))]))
  refine Go.by (fun _ => iremS X0 hx rfl (hb hby at_7) rfl (by decide)) ?_
  show Go p.tables e below _ (T0.setTop (mkF m 8 #[.val (.int p0), .val (.long p1), .second, .val (.long p2), .second, .unset, .unset, .unset, .unset, .unset, .unset, .unset, .unset, .unset, .unset, .unset, .unset, .unset, .unset, .unset, .unset] [(.int ((p0 &&& (2147483647 : Int32)) % (129 : Int32)))]))
  refine Go.by (fun _ => XS.istore X0.here hx rfl (hb hby at_8) rfl (l' := #[.val (.int p0), .val (.long p1), .second, .val (.long p2), .second, .val (.int ((p0 &&& (2147483647 : Int32)) % (129 : Int32))), .unset, .unset, .unset, .unset, .unset, .unset, .unset, .unset, .unset, .unset, .unset, .unset, .unset, .unset, .unset]) rfl) ?_
  show Go p.tables e below _ (T0.setTop (mkF m 10 #[.val (.int p0), .val (.long p1), .second, .val (.long p2), .second, .val (.int ((p0 &&& (2147483647 : Int32)) % (129 : Int32))), .unset, .unset, .unset, .unset, .unset, .unset, .unset, .unset, .unset, .unset, .unset, .unset, .unset, .unset, .unset] []))
  obtain ⟨kk, hk, ek⟩ := own_m129 p0
  rw [ek]
  show Go p.tables e below _ (T0.setTop (mkF m 10 #[.val (.int p0), .val (.long p1), .second, .val (.long p2), .second, .val (.int (kk.toInt32)), .unset, .unset, .unset, .unset, .unset, .unset, .unset, .unset, .unset, .unset, .unset, .unset, .unset, .unset, .unset] []))
  refine Go.by (fun _ => XS.iload X0.here hx rfl (hb hby at_10) rfl) ?_
  show Go p.tables e below _ (T0.setTop (mkF m 12 #[.val (.int p0), .val (.long p1), .second, .val (.long p2), .second, .val (.int (kk.toInt32)), .unset, .unset, .unset, .unset, .unset, .unset, .unset, .unset, .unset, .unset, .unset, .unset, .unset, .unset, .unset] [(.int (kk.toInt32))]))
  refine Go.by (fun _ => XS.bipush X0.here hx rfl (hb hby at_12)) ?_
  show Go p.tables e below _ (T0.setTop (mkF m 14 #[.val (.int p0), .val (.long p1), .second, .val (.long p2), .second, .val (.int (kk.toInt32)), .unset, .unset, .unset, .unset, .unset, .unset, .unset, .unset, .unset, .unset, .unset, .unset, .unset, .unset, .unset] [(.int (64 : Int32)), (.int (kk.toInt32))]))
  obtain ⟨v1, T1, h1, X1, q1, st1⟩ := X0.callS hx hZ (y := (⟨"java/lang/Math", "min", "(II)I"⟩ : MethodName)) hown (tw hw 1 rfl) (tw hw 2 rfl) (tw hw 3 rfl) (tw hw 4 rfl) (by decide) (rm1 l Z a0 hw [] (kk.toInt32) (64 : Int32) h0 n0 Z0) (g := (mkF m 14 #[.val (.int p0), .val (.long p1), .second, .val (.long p2), .second, .val (.int (kk.toInt32)), .unset, .unset, .unset, .unset, .unset, .unset, .unset, .unset, .unset, .unset, .unset, .unset, .unset, .unset, .unset] [(.int (64 : Int32)), (.int (kk.toInt32))])) rfl (by rw [hml]; rfl) (argsL := [(.int (kk.toInt32)), (.int (64 : Int32))]) (rest := []) (lenOf pd0 rfl) rfl (hb hby at_14) rfl (by decide) (Nat.le_of_ble_eq_true rfl) (k' := 0) (n' := 0) rfl rfl (by decide) (by decide)
  refine Go.by st1 ?_
  obtain ⟨rfl, rfl⟩ := q1
  show Go p.tables e below _ (T1.setTop (mkF m 17 #[.val (.int p0), .val (.long p1), .second, .val (.long p2), .second, .val (.int (kk.toInt32)), .unset, .unset, .unset, .unset, .unset, .unset, .unset, .unset, .unset, .unset, .unset, .unset, .unset, .unset, .unset] [(.int (own_min (kk.toInt32) (64 : Int32)))]))
  obtain ⟨v2, T2, h2, X2, q2, st2⟩ := X1.callS hx hZ (y := (⟨"com/example/bitstrata/bitstrata/bitmap/BitVectorNotPinLaw", "lowMask", "(I)J"⟩ : MethodName)) hown (tw hw 5 rfl) (tw hw 6 rfl) (tw hw 7 rfl) (tw hw 8 rfl) (by decide) (rm2 l Z a0 hw [] (own_min (kk.toInt32) (64 : Int32)) h0 n0 Z0) (g := (mkF m 17 #[.val (.int p0), .val (.long p1), .second, .val (.long p2), .second, .val (.int (kk.toInt32)), .unset, .unset, .unset, .unset, .unset, .unset, .unset, .unset, .unset, .unset, .unset, .unset, .unset, .unset, .unset] [(.int (own_min (kk.toInt32) (64 : Int32)))])) rfl (by rw [hml]; rfl) (argsL := [(.int (own_min (kk.toInt32) (64 : Int32)))]) (rest := []) (lenOf pd1 rfl) rfl (hb hby at_17) rfl (by decide) (Nat.le_of_ble_eq_true rfl) (k' := 0) (n' := 0) rfl rfl (by decide) (by decide)
  refine Go.by st2 ?_
  obtain ⟨rfl, rfl⟩ := q2
  show Go p.tables e below _ (T2.setTop (mkF m 20 #[.val (.int p0), .val (.long p1), .second, .val (.long p2), .second, .val (.int (kk.toInt32)), .unset, .unset, .unset, .unset, .unset, .unset, .unset, .unset, .unset, .unset, .unset, .unset, .unset, .unset, .unset] [(.long (own_mask (own_min (kk.toInt32) (64 : Int32))))]))
  refine Go.by (fun _ => XS.lstore X2.here hx rfl (hb hby at_20) rfl (l' := #[.val (.int p0), .val (.long p1), .second, .val (.long p2), .second, .val (.int (kk.toInt32)), .val (.long (own_mask (own_min (kk.toInt32) (64 : Int32)))), .second, .unset, .unset, .unset, .unset, .unset, .unset, .unset, .unset, .unset, .unset, .unset, .unset, .unset]) rfl) ?_
  show Go p.tables e below _ (T2.setTop (mkF m 22 #[.val (.int p0), .val (.long p1), .second, .val (.long p2), .second, .val (.int (kk.toInt32)), .val (.long (own_mask (own_min (kk.toInt32) (64 : Int32)))), .second, .unset, .unset, .unset, .unset, .unset, .unset, .unset, .unset, .unset, .unset, .unset, .unset, .unset] []))
  refine Go.by (fun _ => XS.iload X2.here hx rfl (hb hby at_22) rfl) ?_
  show Go p.tables e below _ (T2.setTop (mkF m 24 #[.val (.int p0), .val (.long p1), .second, .val (.long p2), .second, .val (.int (kk.toInt32)), .val (.long (own_mask (own_min (kk.toInt32) (64 : Int32)))), .second, .unset, .unset, .unset, .unset, .unset, .unset, .unset, .unset, .unset, .unset, .unset, .unset, .unset] [(.int (kk.toInt32))]))
  refine Go.by (fun _ => XS.bipush X2.here hx rfl (hb hby at_24)) ?_
  show Go p.tables e below _ (T2.setTop (mkF m 26 #[.val (.int p0), .val (.long p1), .second, .val (.long p2), .second, .val (.int (kk.toInt32)), .val (.long (own_mask (own_min (kk.toInt32) (64 : Int32)))), .second, .unset, .unset, .unset, .unset, .unset, .unset, .unset, .unset, .unset, .unset, .unset, .unset, .unset] [(.int (64 : Int32)), (.int (kk.toInt32))]))
  refine Go.by (fun _ => XS.isub X2.here hx rfl (hb hby at_26) rfl) ?_
  show Go p.tables e below _ (T2.setTop (mkF m 27 #[.val (.int p0), .val (.long p1), .second, .val (.long p2), .second, .val (.int (kk.toInt32)), .val (.long (own_mask (own_min (kk.toInt32) (64 : Int32)))), .second, .unset, .unset, .unset, .unset, .unset, .unset, .unset, .unset, .unset, .unset, .unset, .unset, .unset] [(.int ((kk.toInt32) - (64 : Int32)))]))
  refine Go.by (fun _ => XS.iconst X2.here hx rfl (hb hby at_27)) ?_
  show Go p.tables e below _ (T2.setTop (mkF m 28 #[.val (.int p0), .val (.long p1), .second, .val (.long p2), .second, .val (.int (kk.toInt32)), .val (.long (own_mask (own_min (kk.toInt32) (64 : Int32)))), .second, .unset, .unset, .unset, .unset, .unset, .unset, .unset, .unset, .unset, .unset, .unset, .unset, .unset] [(.int (0 : Int32)), (.int ((kk.toInt32) - (64 : Int32)))]))
  obtain ⟨v3, T3, h3, X3, q3, st3⟩ := X2.callS hx hZ (y := (⟨"java/lang/Math", "max", "(II)I"⟩ : MethodName)) hown (tw hw 9 rfl) (tw hw 10 rfl) (tw hw 3 rfl) (tw hw 11 rfl) (by decide) (rm3 l Z a0 hw [] ((kk.toInt32) - (64 : Int32)) (0 : Int32) h0 n0 Z0) (g := (mkF m 28 #[.val (.int p0), .val (.long p1), .second, .val (.long p2), .second, .val (.int (kk.toInt32)), .val (.long (own_mask (own_min (kk.toInt32) (64 : Int32)))), .second, .unset, .unset, .unset, .unset, .unset, .unset, .unset, .unset, .unset, .unset, .unset, .unset, .unset] [(.int (0 : Int32)), (.int ((kk.toInt32) - (64 : Int32)))])) rfl (by rw [hml]; rfl) (argsL := [(.int ((kk.toInt32) - (64 : Int32))), (.int (0 : Int32))]) (rest := []) (lenOf pd0 rfl) rfl (hb hby at_28) rfl (by decide) (Nat.le_of_ble_eq_true rfl) (k' := 0) (n' := 0) rfl rfl (by decide) (by decide)
  refine Go.by st3 ?_
  obtain ⟨rfl, rfl⟩ := q3
  show Go p.tables e below _ (T3.setTop (mkF m 31 #[.val (.int p0), .val (.long p1), .second, .val (.long p2), .second, .val (.int (kk.toInt32)), .val (.long (own_mask (own_min (kk.toInt32) (64 : Int32)))), .second, .unset, .unset, .unset, .unset, .unset, .unset, .unset, .unset, .unset, .unset, .unset, .unset, .unset] [(.int (own_max ((kk.toInt32) - (64 : Int32)) (0 : Int32)))]))
  obtain ⟨v4, T4, h4, X4, q4, st4⟩ := X3.callS hx hZ (y := (⟨"com/example/bitstrata/bitstrata/bitmap/BitVectorNotPinLaw", "lowMask", "(I)J"⟩ : MethodName)) hown (tw hw 5 rfl) (tw hw 6 rfl) (tw hw 7 rfl) (tw hw 8 rfl) (by decide) (rm2 l Z a0 hw [] (own_max ((kk.toInt32) - (64 : Int32)) (0 : Int32)) h0 n0 Z0) (g := (mkF m 31 #[.val (.int p0), .val (.long p1), .second, .val (.long p2), .second, .val (.int (kk.toInt32)), .val (.long (own_mask (own_min (kk.toInt32) (64 : Int32)))), .second, .unset, .unset, .unset, .unset, .unset, .unset, .unset, .unset, .unset, .unset, .unset, .unset, .unset] [(.int (own_max ((kk.toInt32) - (64 : Int32)) (0 : Int32)))])) rfl (by rw [hml]; rfl) (argsL := [(.int (own_max ((kk.toInt32) - (64 : Int32)) (0 : Int32)))]) (rest := []) (lenOf pd1 rfl) rfl (hb hby at_31) rfl (by decide) (Nat.le_of_ble_eq_true rfl) (k' := 0) (n' := 0) rfl rfl (by decide) (by decide)
  refine Go.by st4 ?_
  obtain ⟨rfl, rfl⟩ := q4
  show Go p.tables e below _ (T4.setTop (mkF m 34 #[.val (.int p0), .val (.long p1), .second, .val (.long p2), .second, .val (.int (kk.toInt32)), .val (.long (own_mask (own_min (kk.toInt32) (64 : Int32)))), .second, .unset, .unset, .unset, .unset, .unset, .unset, .unset, .unset, .unset, .unset, .unset, .unset, .unset] [(.long (own_mask (own_max ((kk.toInt32) - (64 : Int32)) (0 : Int32))))]))
  refine Go.by (fun _ => XS.lstore X4.here hx rfl (hb hby at_34) rfl (l' := #[.val (.int p0), .val (.long p1), .second, .val (.long p2), .second, .val (.int (kk.toInt32)), .val (.long (own_mask (own_min (kk.toInt32) (64 : Int32)))), .second, .val (.long (own_mask (own_max ((kk.toInt32) - (64 : Int32)) (0 : Int32)))), .second, .unset, .unset, .unset, .unset, .unset, .unset, .unset, .unset, .unset, .unset, .unset]) rfl) ?_
  show Go p.tables e below _ (T4.setTop (mkF m 36 #[.val (.int p0), .val (.long p1), .second, .val (.long p2), .second, .val (.int (kk.toInt32)), .val (.long (own_mask (own_min (kk.toInt32) (64 : Int32)))), .second, .val (.long (own_mask (own_max ((kk.toInt32) - (64 : Int32)) (0 : Int32)))), .second, .unset, .unset, .unset, .unset, .unset, .unset, .unset, .unset, .unset, .unset, .unset] []))
  refine Go.by (fun _ => XS.lloadN X4.here hx rfl (hb hby at_36) rfl) ?_
  show Go p.tables e below _ (T4.setTop (mkF m 37 #[.val (.int p0), .val (.long p1), .second, .val (.long p2), .second, .val (.int (kk.toInt32)), .val (.long (own_mask (own_min (kk.toInt32) (64 : Int32)))), .second, .val (.long (own_mask (own_max ((kk.toInt32) - (64 : Int32)) (0 : Int32)))), .second, .unset, .unset, .unset, .unset, .unset, .unset, .unset, .unset, .unset, .unset, .unset] [(.long p1)]))
  refine Go.by (fun _ => XS.lload X4.here hx rfl (hb hby at_37) rfl) ?_
  show Go p.tables e below _ (T4.setTop (mkF m 39 #[.val (.int p0), .val (.long p1), .second, .val (.long p2), .second, .val (.int (kk.toInt32)), .val (.long (own_mask (own_min (kk.toInt32) (64 : Int32)))), .second, .val (.long (own_mask (own_max ((kk.toInt32) - (64 : Int32)) (0 : Int32)))), .second, .unset, .unset, .unset, .unset, .unset, .unset, .unset, .unset, .unset, .unset, .unset] [(.long (own_mask (own_min (kk.toInt32) (64 : Int32)))), (.long p1)]))
  refine Go.by (fun _ => XS.land X4.here hx rfl (hb hby at_39) rfl) ?_
  show Go p.tables e below _ (T4.setTop (mkF m 40 #[.val (.int p0), .val (.long p1), .second, .val (.long p2), .second, .val (.int (kk.toInt32)), .val (.long (own_mask (own_min (kk.toInt32) (64 : Int32)))), .second, .val (.long (own_mask (own_max ((kk.toInt32) - (64 : Int32)) (0 : Int32)))), .second, .unset, .unset, .unset, .unset, .unset, .unset, .unset, .unset, .unset, .unset, .unset] [(.long (p1 &&& (own_mask (own_min (kk.toInt32) (64 : Int32)))))]))
  refine Go.by (fun _ => XS.lstore X4.here hx rfl (hb hby at_40) rfl (l' := #[.val (.int p0), .val (.long p1), .second, .val (.long p2), .second, .val (.int (kk.toInt32)), .val (.long (own_mask (own_min (kk.toInt32) (64 : Int32)))), .second, .val (.long (own_mask (own_max ((kk.toInt32) - (64 : Int32)) (0 : Int32)))), .second, .val (.long (p1 &&& (own_mask (own_min (kk.toInt32) (64 : Int32))))), .second, .unset, .unset, .unset, .unset, .unset, .unset, .unset, .unset, .unset]) rfl) ?_
  show Go p.tables e below _ (T4.setTop (mkF m 42 #[.val (.int p0), .val (.long p1), .second, .val (.long p2), .second, .val (.int (kk.toInt32)), .val (.long (own_mask (own_min (kk.toInt32) (64 : Int32)))), .second, .val (.long (own_mask (own_max ((kk.toInt32) - (64 : Int32)) (0 : Int32)))), .second, .val (.long (p1 &&& (own_mask (own_min (kk.toInt32) (64 : Int32))))), .second, .unset, .unset, .unset, .unset, .unset, .unset, .unset, .unset, .unset] []))
  refine Go.by (fun _ => XS.lloadN X4.here hx rfl (hb hby at_42) rfl) ?_
  show Go p.tables e below _ (T4.setTop (mkF m 43 #[.val (.int p0), .val (.long p1), .second, .val (.long p2), .second, .val (.int (kk.toInt32)), .val (.long (own_mask (own_min (kk.toInt32) (64 : Int32)))), .second, .val (.long (own_mask (own_max ((kk.toInt32) - (64 : Int32)) (0 : Int32)))), .second, .val (.long (p1 &&& (own_mask (own_min (kk.toInt32) (64 : Int32))))), .second, .unset, .unset, .unset, .unset, .unset, .unset, .unset, .unset, .unset] [(.long p2)]))
  refine Go.by (fun _ => XS.lload X4.here hx rfl (hb hby at_43) rfl) ?_
  show Go p.tables e below _ (T4.setTop (mkF m 45 #[.val (.int p0), .val (.long p1), .second, .val (.long p2), .second, .val (.int (kk.toInt32)), .val (.long (own_mask (own_min (kk.toInt32) (64 : Int32)))), .second, .val (.long (own_mask (own_max ((kk.toInt32) - (64 : Int32)) (0 : Int32)))), .second, .val (.long (p1 &&& (own_mask (own_min (kk.toInt32) (64 : Int32))))), .second, .unset, .unset, .unset, .unset, .unset, .unset, .unset, .unset, .unset] [(.long (own_mask (own_max ((kk.toInt32) - (64 : Int32)) (0 : Int32)))), (.long p2)]))
  refine Go.by (fun _ => XS.land X4.here hx rfl (hb hby at_45) rfl) ?_
  show Go p.tables e below _ (T4.setTop (mkF m 46 #[.val (.int p0), .val (.long p1), .second, .val (.long p2), .second, .val (.int (kk.toInt32)), .val (.long (own_mask (own_min (kk.toInt32) (64 : Int32)))), .second, .val (.long (own_mask (own_max ((kk.toInt32) - (64 : Int32)) (0 : Int32)))), .second, .val (.long (p1 &&& (own_mask (own_min (kk.toInt32) (64 : Int32))))), .second, .unset, .unset, .unset, .unset, .unset, .unset, .unset, .unset, .unset] [(.long (p2 &&& (own_mask (own_max ((kk.toInt32) - (64 : Int32)) (0 : Int32)))))]))
  refine Go.by (fun _ => XS.lstore X4.here hx rfl (hb hby at_46) rfl (l' := #[.val (.int p0), .val (.long p1), .second, .val (.long p2), .second, .val (.int (kk.toInt32)), .val (.long (own_mask (own_min (kk.toInt32) (64 : Int32)))), .second, .val (.long (own_mask (own_max ((kk.toInt32) - (64 : Int32)) (0 : Int32)))), .second, .val (.long (p1 &&& (own_mask (own_min (kk.toInt32) (64 : Int32))))), .second, .val (.long (p2 &&& (own_mask (own_max ((kk.toInt32) - (64 : Int32)) (0 : Int32))))), .second, .unset, .unset, .unset, .unset, .unset, .unset, .unset]) rfl) ?_
  show Go p.tables e below _ (T4.setTop (mkF m 48 #[.val (.int p0), .val (.long p1), .second, .val (.long p2), .second, .val (.int (kk.toInt32)), .val (.long (own_mask (own_min (kk.toInt32) (64 : Int32)))), .second, .val (.long (own_mask (own_max ((kk.toInt32) - (64 : Int32)) (0 : Int32)))), .second, .val (.long (p1 &&& (own_mask (own_min (kk.toInt32) (64 : Int32))))), .second, .val (.long (p2 &&& (own_mask (own_max ((kk.toInt32) - (64 : Int32)) (0 : Int32))))), .second, .unset, .unset, .unset, .unset, .unset, .unset, .unset] []))
  generalize (p1 &&& (own_mask (own_min (kk.toInt32) (64 : Int32)))) = x0
  generalize (p2 &&& (own_mask (own_max ((kk.toInt32) - (64 : Int32)) (0 : Int32)))) = x1
  show Go p.tables e below _ (T4.setTop (mkF m 48 #[.val (.int p0), .val (.long p1), .second, .val (.long p2), .second, .val (.int (kk.toInt32)), .val (.long (own_mask (own_min (kk.toInt32) (64 : Int32)))), .second, .val (.long (own_mask (own_max ((kk.toInt32) - (64 : Int32)) (0 : Int32)))), .second, .val (.long x0), .second, .val (.long x1), .second, .unset, .unset, .unset, .unset, .unset, .unset, .unset] []))
  refine Go.by (fun _ => XS.iload X4.here hx rfl (hb hby at_48) rfl) ?_
  show Go p.tables e below _ (T4.setTop (mkF m 50 #[.val (.int p0), .val (.long p1), .second, .val (.long p2), .second, .val (.int (kk.toInt32)), .val (.long (own_mask (own_min (kk.toInt32) (64 : Int32)))), .second, .val (.long (own_mask (own_max ((kk.toInt32) - (64 : Int32)) (0 : Int32)))), .second, .val (.long x0), .second, .val (.long x1), .second, .unset, .unset, .unset, .unset, .unset, .unset, .unset] [(.int (kk.toInt32))]))
  by_cases hc50_5 : (kk.toInt32) = (0 : Int32)
  · skip
    refine Go.by (fun _ => XS.ifNo X4.here hx rfl (hb hby at_50) rfl ((if0 _ _).trans (teq hc50_5).2)) ?_
    show Go p.tables e below _ (T4.setTop (mkF m 53 #[.val (.int p0), .val (.long p1), .second, .val (.long p2), .second, .val (.int (kk.toInt32)), .val (.long (own_mask (own_min (kk.toInt32) (64 : Int32)))), .second, .val (.long (own_mask (own_max ((kk.toInt32) - (64 : Int32)) (0 : Int32)))), .second, .val (.long x0), .second, .val (.long x1), .second, .unset, .unset, .unset, .unset, .unset, .unset, .unset] []))
    refine Go.by (fun _ => XS.iconst X4.here hx rfl (hb hby at_53)) ?_
    show Go p.tables e below _ (T4.setTop (mkF m 54 #[.val (.int p0), .val (.long p1), .second, .val (.long p2), .second, .val (.int (kk.toInt32)), .val (.long (own_mask (own_min (kk.toInt32) (64 : Int32)))), .second, .val (.long (own_mask (own_max ((kk.toInt32) - (64 : Int32)) (0 : Int32)))), .second, .val (.long x0), .second, .val (.long x1), .second, .unset, .unset, .unset, .unset, .unset, .unset, .unset] [(.int (0 : Int32))]))
    obtain ⟨T6, h6, kc6, b6, X6, g6, E6, A6, V6, st6⟩ := X4.newP hx hZ (tw hw 12 rfl) (g := (mkF m 54 #[.val (.int p0), .val (.long p1), .second, .val (.long p2), .second, .val (.int (kk.toInt32)), .val (.long (own_mask (own_min (kk.toInt32) (64 : Int32)))), .second, .val (.long (own_mask (own_max ((kk.toInt32) - (64 : Int32)) (0 : Int32)))), .second, .val (.long x0), .second, .val (.long x1), .second, .unset, .unset, .unset, .unset, .unset, .unset, .unset] [(.int (0 : Int32))])) rfl (hb hby at_54) rfl (by decide) (sz := 0) (cap := 0) (k' := 1) (n' := 0) rfl (Nat.le_refl _) (by decide) rfl rfl (by decide) (by decide) (ad := "[J") (by decide)
    have g_b6 : n0 ≤ b6 := by rw [g6]; exact Z0
    have Zs7 : n0 ≤ h6.size := Nat.le_trans Z0 E6.1
    refine Go.by st6 ?_
    show Go p.tables e below _ (T6.setTop (mkF m 56 #[.val (.int p0), .val (.long p1), .second, .val (.long p2), .second, .val (.int (kk.toInt32)), .val (.long (own_mask (own_min (kk.toInt32) (64 : Int32)))), .second, .val (.long (own_mask (own_max ((kk.toInt32) - (64 : Int32)) (0 : Int32)))), .second, .val (.long x0), .second, .val (.long x1), .second, .unset, .unset, .unset, .unset, .unset, .unset, .unset] [(.ref b6)]))
    refine Go.by (fun _ => XS.astore X6.here hx rfl (hb hby at_56) rfl rfl (l' := #[.val (.int p0), .val (.long p1), .second, .val (.long p2), .second, .val (.int (kk.toInt32)), .val (.long (own_mask (own_min (kk.toInt32) (64 : Int32)))), .second, .val (.long (own_mask (own_max ((kk.toInt32) - (64 : Int32)) (0 : Int32)))), .second, .val (.long x0), .second, .val (.long x1), .second, .val (.ref b6), .unset, .unset, .unset, .unset, .unset, .unset]) rfl) ?_
    show Go p.tables e below _ (T6.setTop (mkF m 58 #[.val (.int p0), .val (.long p1), .second, .val (.long p2), .second, .val (.int (kk.toInt32)), .val (.long (own_mask (own_min (kk.toInt32) (64 : Int32)))), .second, .val (.long (own_mask (own_max ((kk.toInt32) - (64 : Int32)) (0 : Int32)))), .second, .val (.long x0), .second, .val (.long x1), .second, .val (.ref b6), .unset, .unset, .unset, .unset, .unset, .unset] []))
    refine Go.by (fun _ => XS.goto X6.here hx rfl (pc0 := 58) (pc' := 99) rfl (hb hby at_58) (by decide) (by decide)) ?_
    show Go p.tables e below _ (T6.setTop (mkF m 99 #[.val (.int p0), .val (.long p1), .second, .val (.long p2), .second, .val (.int (kk.toInt32)), .val (.long (own_mask (own_min (kk.toInt32) (64 : Int32)))), .second, .val (.long (own_mask (own_max ((kk.toInt32) - (64 : Int32)) (0 : Int32)))), .second, .val (.long x0), .second, .val (.long x1), .second, .val (.ref b6), .unset, .unset, .unset, .unset, .unset, .unset] []))
    rw [hc50_5]
    show Go p.tables e below _ (T6.setTop (mkF m 99 #[.val (.int p0), .val (.long p1), .second, .val (.long p2), .second, .val (.int (0 : Int32)), .val (.long (own_mask (own_min (0 : Int32) (64 : Int32)))), .second, .val (.long (own_mask (own_max ((0 : Int32) - (64 : Int32)) (0 : Int32)))), .second, .val (.long x0), .second, .val (.long x1), .second, .val (.ref b6), .unset, .unset, .unset, .unset, .unset, .unset] []))
    obtain ⟨T8, h8, b8, X8, g8, E8, A8, D8, st8⟩ := X6.newO hx hZ hown (tw hw 13 rfl) (tw hw 14 rfl) (tw hw 15 rfl) (g := (mkF m 99 #[.val (.int p0), .val (.long p1), .second, .val (.long p2), .second, .val (.int (0 : Int32)), .val (.long (own_mask (own_min (0 : Int32) (64 : Int32)))), .second, .val (.long (own_mask (own_max ((0 : Int32) - (64 : Int32)) (0 : Int32)))), .second, .val (.long x0), .second, .val (.long x1), .second, .val (.ref b6), .unset, .unset, .unset, .unset, .unset, .unset] [])) rfl (hb hby at_99) (k' := 2) (n' := 2) rfl rfl (by decide) (by decide)
    have g_b8 : n0 ≤ b8 := by rw [g8]; exact Zs7
    have ne_b6_b8 : b6 ≠ b8 := Nat.ne_of_lt (by rw [g8]; exact A6.lt)
    have f9_89 := A6.ext E8
    have f9_90 := Avf.ext V6 E8
    have Zs9 : n0 ≤ h8.size := Nat.le_trans Zs7 E8.1
    have F8_length : Fld Z h8 b8 "com/example/bitstrata/bitstrata/bitmap/BitVector" "length" "I" (.int (0 : Int32)) := D8 (Or.inr (tw hw 23 rfl)) (ty := .int) (by decide)
    have F8_words : Fld Z h8 b8 "com/example/bitstrata/bitstrata/bitmap/BitVector" "words" "[J" .null := D8 (Or.inr (tw hw 25 rfl)) (ty := (.array .long)) (by decide)
    refine Go.by st8 ?_
    show Go p.tables e below _ (T8.setTop (mkF m 102 #[.val (.int p0), .val (.long p1), .second, .val (.long p2), .second, .val (.int (0 : Int32)), .val (.long (own_mask (own_min (0 : Int32) (64 : Int32)))), .second, .val (.long (own_mask (own_max ((0 : Int32) - (64 : Int32)) (0 : Int32)))), .second, .val (.long x0), .second, .val (.long x1), .second, .val (.ref b6), .unset, .unset, .unset, .unset, .unset, .unset] [(.ref b8)]))
    refine Go.by (fun _ => XS.dup X8.here hx rfl (hb hby at_102) rfl rfl) ?_
    show Go p.tables e below _ (T8.setTop (mkF m 103 #[.val (.int p0), .val (.long p1), .second, .val (.long p2), .second, .val (.int (0 : Int32)), .val (.long (own_mask (own_min (0 : Int32) (64 : Int32)))), .second, .val (.long (own_mask (own_max ((0 : Int32) - (64 : Int32)) (0 : Int32)))), .second, .val (.long x0), .second, .val (.long x1), .second, .val (.ref b6), .unset, .unset, .unset, .unset, .unset, .unset] [(.ref b8), (.ref b8)]))
    refine Go.by (fun _ => XS.iload X8.here hx rfl (hb hby at_103) rfl) ?_
    show Go p.tables e below _ (T8.setTop (mkF m 105 #[.val (.int p0), .val (.long p1), .second, .val (.long p2), .second, .val (.int (0 : Int32)), .val (.long (own_mask (own_min (0 : Int32) (64 : Int32)))), .second, .val (.long (own_mask (own_max ((0 : Int32) - (64 : Int32)) (0 : Int32)))), .second, .val (.long x0), .second, .val (.long x1), .second, .val (.ref b6), .unset, .unset, .unset, .unset, .unset, .unset] [(.int (0 : Int32)), (.ref b8), (.ref b8)]))
    refine Go.by (fun _ => XS.aload X8.here hx rfl (hb hby at_105) rfl rfl) ?_
    show Go p.tables e below _ (T8.setTop (mkF m 107 #[.val (.int p0), .val (.long p1), .second, .val (.long p2), .second, .val (.int (0 : Int32)), .val (.long (own_mask (own_min (0 : Int32) (64 : Int32)))), .second, .val (.long (own_mask (own_max ((0 : Int32) - (64 : Int32)) (0 : Int32)))), .second, .val (.long x0), .second, .val (.long x1), .second, .val (.ref b6), .unset, .unset, .unset, .unset, .unset, .unset] [(.ref b6), (.int (0 : Int32)), (.ref b8), (.ref b8)]))
    obtain ⟨v10, T10, h10, X10, q10, st10⟩ := X8.callI hx hZ (y := (⟨"com/example/bitstrata/bitstrata/bitmap/BitVector", "<init>", "(I[J)V"⟩ : MethodName)) rfl hown (tw hw 16 rfl) (tw hw 17 rfl) (tw hw 15 rfl) (tw hw 18 rfl) (by decide) (rm4 l Z a0 hw [] b8 (0 : Int32) b6 h8 n0 Zs9 A8 g_b8 F8_length F8_words) (g := (mkF m 107 #[.val (.int p0), .val (.long p1), .second, .val (.long p2), .second, .val (.int (0 : Int32)), .val (.long (own_mask (own_min (0 : Int32) (64 : Int32)))), .second, .val (.long (own_mask (own_max ((0 : Int32) - (64 : Int32)) (0 : Int32)))), .second, .val (.long x0), .second, .val (.long x1), .second, .val (.ref b6), .unset, .unset, .unset, .unset, .unset, .unset] [(.ref b6), (.int (0 : Int32)), (.ref b8), (.ref b8)])) rfl (by rw [hml]; rfl) (argsL := [(.int (0 : Int32)), (.ref b6)]) (rest := [(.ref b8)]) (lenOf pd2 rfl) rfl (hb hby at_107) rfl (by decide) (Nat.le_of_ble_eq_true rfl) (k' := 2) (n' := 2) rfl rfl (by decide) (by decide)
    refine Go.by st10 ?_
    obtain ⟨rfl, K10, Ex10, Fl10, Fw10⟩ := q10
    have f11_105 := f9_89.keep K10
    have f11_106 := Avf.keep f9_90 K10 (ninS ne_b6_b8 nin0)
    have f11_107 := A8.keep K10
    have Zs11 : n0 ≤ h10.size := Nat.le_trans Zs9 K10.1
    show Go p.tables e below _ (T10.setTop (mkF m 110 #[.val (.int p0), .val (.long p1), .second, .val (.long p2), .second, .val (.int (0 : Int32)), .val (.long (own_mask (own_min (0 : Int32) (64 : Int32)))), .second, .val (.long (own_mask (own_max ((0 : Int32) - (64 : Int32)) (0 : Int32)))), .second, .val (.long x0), .second, .val (.long x1), .second, .val (.ref b6), .unset, .unset, .unset, .unset, .unset, .unset] [(.ref b8)]))
    refine Go.by (fun _ => XS.astore X10.here hx rfl (hb hby at_110) rfl rfl (l' := #[.val (.int p0), .val (.long p1), .second, .val (.long p2), .second, .val (.int (0 : Int32)), .val (.long (own_mask (own_min (0 : Int32) (64 : Int32)))), .second, .val (.long (own_mask (own_max ((0 : Int32) - (64 : Int32)) (0 : Int32)))), .second, .val (.long x0), .second, .val (.long x1), .second, .val (.ref b6), .val (.ref b8), .unset, .unset, .unset, .unset, .unset]) rfl) ?_
    show Go p.tables e below _ (T10.setTop (mkF m 112 #[.val (.int p0), .val (.long p1), .second, .val (.long p2), .second, .val (.int (0 : Int32)), .val (.long (own_mask (own_min (0 : Int32) (64 : Int32)))), .second, .val (.long (own_mask (own_max ((0 : Int32) - (64 : Int32)) (0 : Int32)))), .second, .val (.long x0), .second, .val (.long x1), .second, .val (.ref b6), .val (.ref b8), .unset, .unset, .unset, .unset, .unset] []))
    refine Go.by (fun _ => XS.aload X10.here hx rfl (hb hby at_112) rfl rfl) ?_
    show Go p.tables e below _ (T10.setTop (mkF m 114 #[.val (.int p0), .val (.long p1), .second, .val (.long p2), .second, .val (.int (0 : Int32)), .val (.long (own_mask (own_min (0 : Int32) (64 : Int32)))), .second, .val (.long (own_mask (own_max ((0 : Int32) - (64 : Int32)) (0 : Int32)))), .second, .val (.long x0), .second, .val (.long x1), .second, .val (.ref b6), .val (.ref b8), .unset, .unset, .unset, .unset, .unset] [(.ref b8)]))
    obtain ⟨v12, T12, h12, X12, q12, st12⟩ := X10.callV hx hZ (y := (⟨"com/example/bitstrata/bitstrata/bitmap/BitVector", "not", "()V"⟩ : MethodName)) (z := (⟨"com/example/bitstrata/bitstrata/bitmap/BitVector", "not", "()V"⟩ : MethodName)) hown (tw hw 26 rfl) (tw hw 27 rfl) (notFace_of_selects (args := #[]) (mvT hZ (tw hw 29 rfl))) (tw hw 29 rfl) (tw hw 28 rfl) (tw hw 15 rfl) (tw hw 30 rfl) (by decide) (rm6_0 l Z a0 hw [] b8 b6 kc6   h10 n0 Zs11 Fl10 Fw10 (Avf.cong f11_106 (fun i hi => absurd hi (by omega))) g_b6 (Ne.symm ne_b6_b8)) Ex10 (g := (mkF m 114 #[.val (.int p0), .val (.long p1), .second, .val (.long p2), .second, .val (.int (0 : Int32)), .val (.long (own_mask (own_min (0 : Int32) (64 : Int32)))), .second, .val (.long (own_mask (own_max ((0 : Int32) - (64 : Int32)) (0 : Int32)))), .second, .val (.long x0), .second, .val (.long x1), .second, .val (.ref b6), .val (.ref b8), .unset, .unset, .unset, .unset, .unset] [(.ref b8)])) rfl (by rw [hml]; rfl) (argsL := []) (rest := []) (lenOf pd3 rfl) rfl (hb hby at_114) rfl (by decide) (Nat.le_of_ble_eq_true rfl) (k' := 2) (n' := 2) rfl rfl (by decide) (by decide)
    refine Go.by st12 ?_
    obtain ⟨rfl, K12, V12⟩ := q12
    have f13_117 := f11_105.keep K12
    have f13_118 := Ex10.keep K12
    have f13_119 := Fl10.keep K12 (ninS (Ne.symm ne_b6_b8) nin0)
    have f13_120 := Fw10.keep K12 (ninS (Ne.symm ne_b6_b8) nin0)
    have Zs13 : n0 ≤ h12.size := Nat.le_trans Zs11 K12.1
    show Go p.tables e below _ (T12.setTop (mkF m 117 #[.val (.int p0), .val (.long p1), .second, .val (.long p2), .second, .val (.int (0 : Int32)), .val (.long (own_mask (own_min (0 : Int32) (64 : Int32)))), .second, .val (.long (own_mask (own_max ((0 : Int32) - (64 : Int32)) (0 : Int32)))), .second, .val (.long x0), .second, .val (.long x1), .second, .val (.ref b6), .val (.ref b8), .unset, .unset, .unset, .unset, .unset] []))
    refine Go.by (fun _ => XS.aload X12.here hx rfl (hb hby at_117) rfl rfl) ?_
    show Go p.tables e below _ (T12.setTop (mkF m 119 #[.val (.int p0), .val (.long p1), .second, .val (.long p2), .second, .val (.int (0 : Int32)), .val (.long (own_mask (own_min (0 : Int32) (64 : Int32)))), .second, .val (.long (own_mask (own_max ((0 : Int32) - (64 : Int32)) (0 : Int32)))), .second, .val (.long x0), .second, .val (.long x1), .second, .val (.ref b6), .val (.ref b8), .unset, .unset, .unset, .unset, .unset] [(.ref b8)]))
    obtain ⟨v14, T14, h14, X14, q14, st14⟩ := X12.callV hx hZ (y := (⟨"com/example/bitstrata/bitstrata/bitmap/BitVector", "length", "()I"⟩ : MethodName)) (z := (⟨"com/example/bitstrata/bitstrata/bitmap/BitVector", "length", "()I"⟩ : MethodName)) hown (tw hw 31 rfl) (tw hw 32 rfl) (notFace_of_selects (args := #[]) (mvT hZ (tw hw 34 rfl))) (tw hw 34 rfl) (tw hw 33 rfl) (tw hw 15 rfl) (tw hw 35 rfl) (by decide) (rm7 l Z a0 hw [] b8 (0 : Int32) h12 n0 Zs13 f13_119) f13_118 (g := (mkF m 119 #[.val (.int p0), .val (.long p1), .second, .val (.long p2), .second, .val (.int (0 : Int32)), .val (.long (own_mask (own_min (0 : Int32) (64 : Int32)))), .second, .val (.long (own_mask (own_max ((0 : Int32) - (64 : Int32)) (0 : Int32)))), .second, .val (.long x0), .second, .val (.long x1), .second, .val (.ref b6), .val (.ref b8), .unset, .unset, .unset, .unset, .unset] [(.ref b8)])) rfl (by rw [hml]; rfl) (argsL := []) (rest := []) (lenOf pd4 rfl) rfl (hb hby at_119) rfl (by decide) (Nat.le_of_ble_eq_true rfl) (k' := 2) (n' := 2) rfl rfl (by decide) (by decide)
    refine Go.by st14 ?_
    obtain ⟨rfl, rfl⟩ := q14
    show Go p.tables e below _ (T14.setTop (mkF m 122 #[.val (.int p0), .val (.long p1), .second, .val (.long p2), .second, .val (.int (0 : Int32)), .val (.long (own_mask (own_min (0 : Int32) (64 : Int32)))), .second, .val (.long (own_mask (own_max ((0 : Int32) - (64 : Int32)) (0 : Int32)))), .second, .val (.long x0), .second, .val (.long x1), .second, .val (.ref b6), .val (.ref b8), .unset, .unset, .unset, .unset, .unset] [(.int (0 : Int32))]))
    refine Go.by (fun _ => XS.iload X14.here hx rfl (hb hby at_122) rfl) ?_
    show Go p.tables e below _ (T14.setTop (mkF m 124 #[.val (.int p0), .val (.long p1), .second, .val (.long p2), .second, .val (.int (0 : Int32)), .val (.long (own_mask (own_min (0 : Int32) (64 : Int32)))), .second, .val (.long (own_mask (own_max ((0 : Int32) - (64 : Int32)) (0 : Int32)))), .second, .val (.long x0), .second, .val (.long x1), .second, .val (.ref b6), .val (.ref b8), .unset, .unset, .unset, .unset, .unset] [(.int (0 : Int32)), (.int (0 : Int32))]))
    refine Go.by (fun _ => XS.icmpYes X14.here hx rfl (pc0 := 124) (pc' := 129) rfl (hb hby at_124) rfl (teq (by decide)).1 (by decide) (by decide)) ?_
    show Go p.tables e below _ (T14.setTop (mkF m 129 #[.val (.int p0), .val (.long p1), .second, .val (.long p2), .second, .val (.int (0 : Int32)), .val (.long (own_mask (own_min (0 : Int32) (64 : Int32)))), .second, .val (.long (own_mask (own_max ((0 : Int32) - (64 : Int32)) (0 : Int32)))), .second, .val (.long x0), .second, .val (.long x1), .second, .val (.ref b6), .val (.ref b8), .unset, .unset, .unset, .unset, .unset] []))
    refine Go.by (fun _ => XS.aload X14.here hx rfl (hb hby at_129) rfl rfl) ?_
    show Go p.tables e below _ (T14.setTop (mkF m 131 #[.val (.int p0), .val (.long p1), .second, .val (.long p2), .second, .val (.int (0 : Int32)), .val (.long (own_mask (own_min (0 : Int32) (64 : Int32)))), .second, .val (.long (own_mask (own_max ((0 : Int32) - (64 : Int32)) (0 : Int32)))), .second, .val (.long x0), .second, .val (.long x1), .second, .val (.ref b6), .val (.ref b8), .unset, .unset, .unset, .unset, .unset] [(.ref b8)]))
    obtain ⟨v15, T15, h15, X15, q15, st15⟩ := X14.callV hx hZ (y := (⟨"com/example/bitstrata/bitstrata/bitmap/BitVector", "words", "()[J"⟩ : MethodName)) (z := (⟨"com/example/bitstrata/bitstrata/bitmap/BitVector", "words", "()[J"⟩ : MethodName)) hown (tw hw 36 rfl) (tw hw 37 rfl) (notFace_of_selects (args := #[]) (mvT hZ (tw hw 39 rfl))) (tw hw 39 rfl) (tw hw 38 rfl) (tw hw 15 rfl) (tw hw 40 rfl) (by decide) (rm8 l Z a0 hw [] b8 b6 h12 n0 Zs13 f13_120) f13_118 (g := (mkF m 131 #[.val (.int p0), .val (.long p1), .second, .val (.long p2), .second, .val (.int (0 : Int32)), .val (.long (own_mask (own_min (0 : Int32) (64 : Int32)))), .second, .val (.long (own_mask (own_max ((0 : Int32) - (64 : Int32)) (0 : Int32)))), .second, .val (.long x0), .second, .val (.long x1), .second, .val (.ref b6), .val (.ref b8), .unset, .unset, .unset, .unset, .unset] [(.ref b8)])) rfl (by rw [hml]; rfl) (argsL := []) (rest := []) (lenOf pd5 rfl) rfl (hb hby at_131) rfl (by decide) (Nat.le_of_ble_eq_true rfl) (k' := 2) (n' := 2) rfl rfl (by decide) (by decide)
    refine Go.by st15 ?_
    obtain ⟨rfl, rfl⟩ := q15
    show Go p.tables e below _ (T15.setTop (mkF m 134 #[.val (.int p0), .val (.long p1), .second, .val (.long p2), .second, .val (.int (0 : Int32)), .val (.long (own_mask (own_min (0 : Int32) (64 : Int32)))), .second, .val (.long (own_mask (own_max ((0 : Int32) - (64 : Int32)) (0 : Int32)))), .second, .val (.long x0), .second, .val (.long x1), .second, .val (.ref b6), .val (.ref b8), .unset, .unset, .unset, .unset, .unset] [(.ref b6)]))
    refine Go.by (fun _ => XS.astore X15.here hx rfl (hb hby at_134) rfl rfl (l' := #[.val (.int p0), .val (.long p1), .second, .val (.long p2), .second, .val (.int (0 : Int32)), .val (.long (own_mask (own_min (0 : Int32) (64 : Int32)))), .second, .val (.long (own_mask (own_max ((0 : Int32) - (64 : Int32)) (0 : Int32)))), .second, .val (.long x0), .second, .val (.long x1), .second, .val (.ref b6), .val (.ref b8), .val (.ref b6), .unset, .unset, .unset, .unset]) rfl) ?_
    show Go p.tables e below _ (T15.setTop (mkF m 136 #[.val (.int p0), .val (.long p1), .second, .val (.long p2), .second, .val (.int (0 : Int32)), .val (.long (own_mask (own_min (0 : Int32) (64 : Int32)))), .second, .val (.long (own_mask (own_max ((0 : Int32) - (64 : Int32)) (0 : Int32)))), .second, .val (.long x0), .second, .val (.long x1), .second, .val (.ref b6), .val (.ref b8), .val (.ref b6), .unset, .unset, .unset, .unset] []))
    refine Go.by (fun _ => XS.aload X15.here hx rfl (hb hby at_136) rfl rfl) ?_
    show Go p.tables e below _ (T15.setTop (mkF m 138 #[.val (.int p0), .val (.long p1), .second, .val (.long p2), .second, .val (.int (0 : Int32)), .val (.long (own_mask (own_min (0 : Int32) (64 : Int32)))), .second, .val (.long (own_mask (own_max ((0 : Int32) - (64 : Int32)) (0 : Int32)))), .second, .val (.long x0), .second, .val (.long x1), .second, .val (.ref b6), .val (.ref b8), .val (.ref b6), .unset, .unset, .unset, .unset] [(.ref b6)]))
    refine Go.by (X15.len hx hZ V12 (z := (0 : Int32)) rfl (g := (mkF m 138 #[.val (.int p0), .val (.long p1), .second, .val (.long p2), .second, .val (.int (0 : Int32)), .val (.long (own_mask (own_min (0 : Int32) (64 : Int32)))), .second, .val (.long (own_mask (own_max ((0 : Int32) - (64 : Int32)) (0 : Int32)))), .second, .val (.long x0), .second, .val (.long x1), .second, .val (.ref b6), .val (.ref b8), .val (.ref b6), .unset, .unset, .unset, .unset] [(.ref b6)])) rfl rfl (hb hby at_138)) ?_
    show Go p.tables e below _ (T15.setTop (mkF m 139 #[.val (.int p0), .val (.long p1), .second, .val (.long p2), .second, .val (.int (0 : Int32)), .val (.long (own_mask (own_min (0 : Int32) (64 : Int32)))), .second, .val (.long (own_mask (own_max ((0 : Int32) - (64 : Int32)) (0 : Int32)))), .second, .val (.long x0), .second, .val (.long x1), .second, .val (.ref b6), .val (.ref b8), .val (.ref b6), .unset, .unset, .unset, .unset] [(.int (0 : Int32))]))
    refine Go.by (fun _ => XS.aload X15.here hx rfl (hb hby at_139) rfl rfl) ?_
    show Go p.tables e below _ (T15.setTop (mkF m 141 #[.val (.int p0), .val (.long p1), .second, .val (.long p2), .second, .val (.int (0 : Int32)), .val (.long (own_mask (own_min (0 : Int32) (64 : Int32)))), .second, .val (.long (own_mask (own_max ((0 : Int32) - (64 : Int32)) (0 : Int32)))), .second, .val (.long x0), .second, .val (.long x1), .second, .val (.ref b6), .val (.ref b8), .val (.ref b6), .unset, .unset, .unset, .unset] [(.ref b6), (.int (0 : Int32))]))
    refine Go.by (X15.len hx hZ V12 (z := (0 : Int32)) rfl (g := (mkF m 141 #[.val (.int p0), .val (.long p1), .second, .val (.long p2), .second, .val (.int (0 : Int32)), .val (.long (own_mask (own_min (0 : Int32) (64 : Int32)))), .second, .val (.long (own_mask (own_max ((0 : Int32) - (64 : Int32)) (0 : Int32)))), .second, .val (.long x0), .second, .val (.long x1), .second, .val (.ref b6), .val (.ref b8), .val (.ref b6), .unset, .unset, .unset, .unset] [(.ref b6), (.int (0 : Int32))])) rfl rfl (hb hby at_141)) ?_
    show Go p.tables e below _ (T15.setTop (mkF m 142 #[.val (.int p0), .val (.long p1), .second, .val (.long p2), .second, .val (.int (0 : Int32)), .val (.long (own_mask (own_min (0 : Int32) (64 : Int32)))), .second, .val (.long (own_mask (own_max ((0 : Int32) - (64 : Int32)) (0 : Int32)))), .second, .val (.long x0), .second, .val (.long x1), .second, .val (.ref b6), .val (.ref b8), .val (.ref b6), .unset, .unset, .unset, .unset] [(.int (0 : Int32)), (.int (0 : Int32))]))
    refine Go.by (fun _ => XS.icmpYes X15.here hx rfl (pc0 := 142) (pc' := 147) rfl (hb hby at_142) rfl (teq (by decide)).1 (by decide) (by decide)) ?_
    show Go p.tables e below _ (T15.setTop (mkF m 147 #[.val (.int p0), .val (.long p1), .second, .val (.long p2), .second, .val (.int (0 : Int32)), .val (.long (own_mask (own_min (0 : Int32) (64 : Int32)))), .second, .val (.long (own_mask (own_max ((0 : Int32) - (64 : Int32)) (0 : Int32)))), .second, .val (.long x0), .second, .val (.long x1), .second, .val (.ref b6), .val (.ref b8), .val (.ref b6), .unset, .unset, .unset, .unset] []))
    refine Go.by (fun _ => XS.lload X15.here hx rfl (hb hby at_147) rfl) ?_
    show Go p.tables e below _ (T15.setTop (mkF m 149 #[.val (.int p0), .val (.long p1), .second, .val (.long p2), .second, .val (.int (0 : Int32)), .val (.long (own_mask (own_min (0 : Int32) (64 : Int32)))), .second, .val (.long (own_mask (own_max ((0 : Int32) - (64 : Int32)) (0 : Int32)))), .second, .val (.long x0), .second, .val (.long x1), .second, .val (.ref b6), .val (.ref b8), .val (.ref b6), .unset, .unset, .unset, .unset] [(.long x0)]))
    refine Go.by (X15.ldc2Long hx hZ hown (tw hw 41 rfl) (g := (mkF m 149 #[.val (.int p0), .val (.long p1), .second, .val (.long p2), .second, .val (.int (0 : Int32)), .val (.long (own_mask (own_min (0 : Int32) (64 : Int32)))), .second, .val (.long (own_mask (own_max ((0 : Int32) - (64 : Int32)) (0 : Int32)))), .second, .val (.long x0), .second, .val (.long x1), .second, .val (.ref b6), .val (.ref b8), .val (.ref b6), .unset, .unset, .unset, .unset] [(.long x0)])) rfl (hb hby at_149)) ?_
    show Go p.tables e below _ (T15.setTop (mkF m 152 #[.val (.int p0), .val (.long p1), .second, .val (.long p2), .second, .val (.int (0 : Int32)), .val (.long (own_mask (own_min (0 : Int32) (64 : Int32)))), .second, .val (.long (own_mask (own_max ((0 : Int32) - (64 : Int32)) (0 : Int32)))), .second, .val (.long x0), .second, .val (.long x1), .second, .val (.ref b6), .val (.ref b8), .val (.ref b6), .unset, .unset, .unset, .unset] [(.long (-1 : Int64)), (.long x0)]))
    refine Go.by (fun _ => XS.lxor X15.here hx rfl (hb hby at_152) rfl) ?_
    show Go p.tables e below _ (T15.setTop (mkF m 153 #[.val (.int p0), .val (.long p1), .second, .val (.long p2), .second, .val (.int (0 : Int32)), .val (.long (own_mask (own_min (0 : Int32) (64 : Int32)))), .second, .val (.long (own_mask (own_max ((0 : Int32) - (64 : Int32)) (0 : Int32)))), .second, .val (.long x0), .second, .val (.long x1), .second, .val (.ref b6), .val (.ref b8), .val (.ref b6), .unset, .unset, .unset, .unset] [(.long (x0 ^^^ (-1 : Int64)))]))
    refine Go.by (fun _ => XS.lload X15.here hx rfl (hb hby at_153) rfl) ?_
    show Go p.tables e below _ (T15.setTop (mkF m 155 #[.val (.int p0), .val (.long p1), .second, .val (.long p2), .second, .val (.int (0 : Int32)), .val (.long (own_mask (own_min (0 : Int32) (64 : Int32)))), .second, .val (.long (own_mask (own_max ((0 : Int32) - (64 : Int32)) (0 : Int32)))), .second, .val (.long x0), .second, .val (.long x1), .second, .val (.ref b6), .val (.ref b8), .val (.ref b6), .unset, .unset, .unset, .unset] [(.long (own_mask (own_min (0 : Int32) (64 : Int32)))), (.long (x0 ^^^ (-1 : Int64)))]))
    refine Go.by (fun _ => XS.land X15.here hx rfl (hb hby at_155) rfl) ?_
    show Go p.tables e below _ (T15.setTop (mkF m 156 #[.val (.int p0), .val (.long p1), .second, .val (.long p2), .second, .val (.int (0 : Int32)), .val (.long (own_mask (own_min (0 : Int32) (64 : Int32)))), .second, .val (.long (own_mask (own_max ((0 : Int32) - (64 : Int32)) (0 : Int32)))), .second, .val (.long x0), .second, .val (.long x1), .second, .val (.ref b6), .val (.ref b8), .val (.ref b6), .unset, .unset, .unset, .unset] [(.long ((x0 ^^^ (-1 : Int64)) &&& (own_mask (own_min (0 : Int32) (64 : Int32)))))]))
    refine Go.by (fun _ => XS.lstore X15.here hx rfl (hb hby at_156) rfl (l' := #[.val (.int p0), .val (.long p1), .second, .val (.long p2), .second, .val (.int (0 : Int32)), .val (.long (own_mask (own_min (0 : Int32) (64 : Int32)))), .second, .val (.long (own_mask (own_max ((0 : Int32) - (64 : Int32)) (0 : Int32)))), .second, .val (.long x0), .second, .val (.long x1), .second, .val (.ref b6), .val (.ref b8), .val (.ref b6), .val (.long ((x0 ^^^ (-1 : Int64)) &&& (own_mask (own_min (0 : Int32) (64 : Int32))))), .second, .unset, .unset]) rfl) ?_
    show Go p.tables e below _ (T15.setTop (mkF m 158 #[.val (.int p0), .val (.long p1), .second, .val (.long p2), .second, .val (.int (0 : Int32)), .val (.long (own_mask (own_min (0 : Int32) (64 : Int32)))), .second, .val (.long (own_mask (own_max ((0 : Int32) - (64 : Int32)) (0 : Int32)))), .second, .val (.long x0), .second, .val (.long x1), .second, .val (.ref b6), .val (.ref b8), .val (.ref b6), .val (.long ((x0 ^^^ (-1 : Int64)) &&& (own_mask (own_min (0 : Int32) (64 : Int32))))), .second, .unset, .unset] []))
    refine Go.by (fun _ => XS.lload X15.here hx rfl (hb hby at_158) rfl) ?_
    show Go p.tables e below _ (T15.setTop (mkF m 160 #[.val (.int p0), .val (.long p1), .second, .val (.long p2), .second, .val (.int (0 : Int32)), .val (.long (own_mask (own_min (0 : Int32) (64 : Int32)))), .second, .val (.long (own_mask (own_max ((0 : Int32) - (64 : Int32)) (0 : Int32)))), .second, .val (.long x0), .second, .val (.long x1), .second, .val (.ref b6), .val (.ref b8), .val (.ref b6), .val (.long ((x0 ^^^ (-1 : Int64)) &&& (own_mask (own_min (0 : Int32) (64 : Int32))))), .second, .unset, .unset] [(.long x1)]))
    refine Go.by (X15.ldc2Long hx hZ hown (tw hw 41 rfl) (g := (mkF m 160 #[.val (.int p0), .val (.long p1), .second, .val (.long p2), .second, .val (.int (0 : Int32)), .val (.long (own_mask (own_min (0 : Int32) (64 : Int32)))), .second, .val (.long (own_mask (own_max ((0 : Int32) - (64 : Int32)) (0 : Int32)))), .second, .val (.long x0), .second, .val (.long x1), .second, .val (.ref b6), .val (.ref b8), .val (.ref b6), .val (.long ((x0 ^^^ (-1 : Int64)) &&& (own_mask (own_min (0 : Int32) (64 : Int32))))), .second, .unset, .unset] [(.long x1)])) rfl (hb hby at_160)) ?_
    show Go p.tables e below _ (T15.setTop (mkF m 163 #[.val (.int p0), .val (.long p1), .second, .val (.long p2), .second, .val (.int (0 : Int32)), .val (.long (own_mask (own_min (0 : Int32) (64 : Int32)))), .second, .val (.long (own_mask (own_max ((0 : Int32) - (64 : Int32)) (0 : Int32)))), .second, .val (.long x0), .second, .val (.long x1), .second, .val (.ref b6), .val (.ref b8), .val (.ref b6), .val (.long ((x0 ^^^ (-1 : Int64)) &&& (own_mask (own_min (0 : Int32) (64 : Int32))))), .second, .unset, .unset] [(.long (-1 : Int64)), (.long x1)]))
    refine Go.by (fun _ => XS.lxor X15.here hx rfl (hb hby at_163) rfl) ?_
    show Go p.tables e below _ (T15.setTop (mkF m 164 #[.val (.int p0), .val (.long p1), .second, .val (.long p2), .second, .val (.int (0 : Int32)), .val (.long (own_mask (own_min (0 : Int32) (64 : Int32)))), .second, .val (.long (own_mask (own_max ((0 : Int32) - (64 : Int32)) (0 : Int32)))), .second, .val (.long x0), .second, .val (.long x1), .second, .val (.ref b6), .val (.ref b8), .val (.ref b6), .val (.long ((x0 ^^^ (-1 : Int64)) &&& (own_mask (own_min (0 : Int32) (64 : Int32))))), .second, .unset, .unset] [(.long (x1 ^^^ (-1 : Int64)))]))
    refine Go.by (fun _ => XS.lload X15.here hx rfl (hb hby at_164) rfl) ?_
    show Go p.tables e below _ (T15.setTop (mkF m 166 #[.val (.int p0), .val (.long p1), .second, .val (.long p2), .second, .val (.int (0 : Int32)), .val (.long (own_mask (own_min (0 : Int32) (64 : Int32)))), .second, .val (.long (own_mask (own_max ((0 : Int32) - (64 : Int32)) (0 : Int32)))), .second, .val (.long x0), .second, .val (.long x1), .second, .val (.ref b6), .val (.ref b8), .val (.ref b6), .val (.long ((x0 ^^^ (-1 : Int64)) &&& (own_mask (own_min (0 : Int32) (64 : Int32))))), .second, .unset, .unset] [(.long (own_mask (own_max ((0 : Int32) - (64 : Int32)) (0 : Int32)))), (.long (x1 ^^^ (-1 : Int64)))]))
    refine Go.by (fun _ => XS.land X15.here hx rfl (hb hby at_166) rfl) ?_
    show Go p.tables e below _ (T15.setTop (mkF m 167 #[.val (.int p0), .val (.long p1), .second, .val (.long p2), .second, .val (.int (0 : Int32)), .val (.long (own_mask (own_min (0 : Int32) (64 : Int32)))), .second, .val (.long (own_mask (own_max ((0 : Int32) - (64 : Int32)) (0 : Int32)))), .second, .val (.long x0), .second, .val (.long x1), .second, .val (.ref b6), .val (.ref b8), .val (.ref b6), .val (.long ((x0 ^^^ (-1 : Int64)) &&& (own_mask (own_min (0 : Int32) (64 : Int32))))), .second, .unset, .unset] [(.long ((x1 ^^^ (-1 : Int64)) &&& (own_mask (own_max ((0 : Int32) - (64 : Int32)) (0 : Int32)))))]))
    refine Go.by (fun _ => XS.lstore X15.here hx rfl (hb hby at_167) rfl (l' := #[.val (.int p0), .val (.long p1), .second, .val (.long p2), .second, .val (.int (0 : Int32)), .val (.long (own_mask (own_min (0 : Int32) (64 : Int32)))), .second, .val (.long (own_mask (own_max ((0 : Int32) - (64 : Int32)) (0 : Int32)))), .second, .val (.long x0), .second, .val (.long x1), .second, .val (.ref b6), .val (.ref b8), .val (.ref b6), .val (.long ((x0 ^^^ (-1 : Int64)) &&& (own_mask (own_min (0 : Int32) (64 : Int32))))), .second, .val (.long ((x1 ^^^ (-1 : Int64)) &&& (own_mask (own_max ((0 : Int32) - (64 : Int32)) (0 : Int32))))), .second]) rfl) ?_
    show Go p.tables e below _ (T15.setTop (mkF m 169 #[.val (.int p0), .val (.long p1), .second, .val (.long p2), .second, .val (.int (0 : Int32)), .val (.long (own_mask (own_min (0 : Int32) (64 : Int32)))), .second, .val (.long (own_mask (own_max ((0 : Int32) - (64 : Int32)) (0 : Int32)))), .second, .val (.long x0), .second, .val (.long x1), .second, .val (.ref b6), .val (.ref b8), .val (.ref b6), .val (.long ((x0 ^^^ (-1 : Int64)) &&& (own_mask (own_min (0 : Int32) (64 : Int32))))), .second, .val (.long ((x1 ^^^ (-1 : Int64)) &&& (own_mask (own_max ((0 : Int32) - (64 : Int32)) (0 : Int32))))), .second] []))
    refine Go.by (fun _ => XS.iload X15.here hx rfl (hb hby at_169) rfl) ?_
    show Go p.tables e below _ (T15.setTop (mkF m 171 #[.val (.int p0), .val (.long p1), .second, .val (.long p2), .second, .val (.int (0 : Int32)), .val (.long (own_mask (own_min (0 : Int32) (64 : Int32)))), .second, .val (.long (own_mask (own_max ((0 : Int32) - (64 : Int32)) (0 : Int32)))), .second, .val (.long x0), .second, .val (.long x1), .second, .val (.ref b6), .val (.ref b8), .val (.ref b6), .val (.long ((x0 ^^^ (-1 : Int64)) &&& (own_mask (own_min (0 : Int32) (64 : Int32))))), .second, .val (.long ((x1 ^^^ (-1 : Int64)) &&& (own_mask (own_max ((0 : Int32) - (64 : Int32)) (0 : Int32))))), .second] [(.int (0 : Int32))]))
    refine Go.by (fun _ => XS.ifNo X15.here hx rfl (hb hby at_171) rfl ((if0 _ _).trans (teq (by decide)).2)) ?_
    show Go p.tables e below _ (T15.setTop (mkF m 174 #[.val (.int p0), .val (.long p1), .second, .val (.long p2), .second, .val (.int (0 : Int32)), .val (.long (own_mask (own_min (0 : Int32) (64 : Int32)))), .second, .val (.long (own_mask (own_max ((0 : Int32) - (64 : Int32)) (0 : Int32)))), .second, .val (.long x0), .second, .val (.long x1), .second, .val (.ref b6), .val (.ref b8), .val (.ref b6), .val (.long ((x0 ^^^ (-1 : Int64)) &&& (own_mask (own_min (0 : Int32) (64 : Int32))))), .second, .val (.long ((x1 ^^^ (-1 : Int64)) &&& (own_mask (own_max ((0 : Int32) - (64 : Int32)) (0 : Int32))))), .second] []))
    refine Go.by (fun _ => XS.iconst X15.here hx rfl (hb hby at_174)) ?_
    show Go p.tables e below _ (T15.setTop (mkF m 175 #[.val (.int p0), .val (.long p1), .second, .val (.long p2), .second, .val (.int (0 : Int32)), .val (.long (own_mask (own_min (0 : Int32) (64 : Int32)))), .second, .val (.long (own_mask (own_max ((0 : Int32) - (64 : Int32)) (0 : Int32)))), .second, .val (.long x0), .second, .val (.long x1), .second, .val (.ref b6), .val (.ref b8), .val (.ref b6), .val (.long ((x0 ^^^ (-1 : Int64)) &&& (own_mask (own_min (0 : Int32) (64 : Int32))))), .second, .val (.long ((x1 ^^^ (-1 : Int64)) &&& (own_mask (own_max ((0 : Int32) - (64 : Int32)) (0 : Int32))))), .second] [(.int (1 : Int32))]))
    exact Go.retN X15 hx hlk (z' := (1 : Int32)) hret (by simp) (hb hby at_175) rfl (by decide) (by decide) rfl
  · skip
    refine Go.by (fun _ => XS.ifYes X4.here hx rfl (pc0 := 50) (pc' := 61) rfl (hb hby at_50) rfl ((if0 _ _).trans (feq hc50_5).2) (by decide) (by decide)) ?_
    show Go p.tables e below _ (T4.setTop (mkF m 61 #[.val (.int p0), .val (.long p1), .second, .val (.long p2), .second, .val (.int (kk.toInt32)), .val (.long (own_mask (own_min (kk.toInt32) (64 : Int32)))), .second, .val (.long (own_mask (own_max ((kk.toInt32) - (64 : Int32)) (0 : Int32)))), .second, .val (.long x0), .second, .val (.long x1), .second, .unset, .unset, .unset, .unset, .unset, .unset, .unset] []))
    refine Go.by (fun _ => XS.iload X4.here hx rfl (hb hby at_61) rfl) ?_
    show Go p.tables e below _ (T4.setTop (mkF m 63 #[.val (.int p0), .val (.long p1), .second, .val (.long p2), .second, .val (.int (kk.toInt32)), .val (.long (own_mask (own_min (kk.toInt32) (64 : Int32)))), .second, .val (.long (own_mask (own_max ((kk.toInt32) - (64 : Int32)) (0 : Int32)))), .second, .val (.long x0), .second, .val (.long x1), .second, .unset, .unset, .unset, .unset, .unset, .unset, .unset] [(.int (kk.toInt32))]))
    refine Go.by (fun _ => XS.bipush X4.here hx rfl (hb hby at_63)) ?_
    show Go p.tables e below _ (T4.setTop (mkF m 65 #[.val (.int p0), .val (.long p1), .second, .val (.long p2), .second, .val (.int (kk.toInt32)), .val (.long (own_mask (own_min (kk.toInt32) (64 : Int32)))), .second, .val (.long (own_mask (own_max ((kk.toInt32) - (64 : Int32)) (0 : Int32)))), .second, .val (.long x0), .second, .val (.long x1), .second, .unset, .unset, .unset, .unset, .unset, .unset, .unset] [(.int (64 : Int32)), (.int (kk.toInt32))]))
    by_cases hc65_16 : (64 : Int32) < (kk.toInt32)
    · skip
      refine Go.by (fun _ => XS.icmpYes X4.here hx rfl (pc0 := 65) (pc' := 82) rfl (hb hby at_65) rfl (tlt hc65_16).2.2.1 (by decide) (by decide)) ?_
      show Go p.tables e below _ (T4.setTop (mkF m 82 #[.val (.int p0), .val (.long p1), .second, .val (.long p2), .second, .val (.int (kk.toInt32)), .val (.long (own_mask (own_min (kk.toInt32) (64 : Int32)))), .second, .val (.long (own_mask (own_max ((kk.toInt32) - (64 : Int32)) (0 : Int32)))), .second, .val (.long x0), .second, .val (.long x1), .second, .unset, .unset, .unset, .unset, .unset, .unset, .unset] []))
      refine Go.by (fun _ => XS.iconst X4.here hx rfl (hb hby at_82)) ?_
      show Go p.tables e below _ (T4.setTop (mkF m 83 #[.val (.int p0), .val (.long p1), .second, .val (.long p2), .second, .val (.int (kk.toInt32)), .val (.long (own_mask (own_min (kk.toInt32) (64 : Int32)))), .second, .val (.long (own_mask (own_max ((kk.toInt32) - (64 : Int32)) (0 : Int32)))), .second, .val (.long x0), .second, .val (.long x1), .second, .unset, .unset, .unset, .unset, .unset, .unset, .unset] [(.int (2 : Int32))]))
      obtain ⟨T17, h17, kc17, b17, X17, g17, E17, A17, V17, st17⟩ := X4.newP hx hZ (tw hw 12 rfl) (g := (mkF m 83 #[.val (.int p0), .val (.long p1), .second, .val (.long p2), .second, .val (.int (kk.toInt32)), .val (.long (own_mask (own_min (kk.toInt32) (64 : Int32)))), .second, .val (.long (own_mask (own_max ((kk.toInt32) - (64 : Int32)) (0 : Int32)))), .second, .val (.long x0), .second, .val (.long x1), .second, .unset, .unset, .unset, .unset, .unset, .unset, .unset] [(.int (2 : Int32))])) rfl (hb hby at_83) rfl (by decide) (sz := 2) (cap := 2) (k' := 1) (n' := 2) rfl (Nat.le_refl _) (by decide) rfl rfl (by decide) (by decide) (ad := "[J") (by decide)
      have g_b17 : n0 ≤ b17 := by rw [g17]; exact Z0
      have Zs18 : n0 ≤ h17.size := Nat.le_trans Z0 E17.1
      refine Go.by st17 ?_
      show Go p.tables e below _ (T17.setTop (mkF m 85 #[.val (.int p0), .val (.long p1), .second, .val (.long p2), .second, .val (.int (kk.toInt32)), .val (.long (own_mask (own_min (kk.toInt32) (64 : Int32)))), .second, .val (.long (own_mask (own_max ((kk.toInt32) - (64 : Int32)) (0 : Int32)))), .second, .val (.long x0), .second, .val (.long x1), .second, .unset, .unset, .unset, .unset, .unset, .unset, .unset] [(.ref b17)]))
      refine Go.by (fun _ => XS.astore X17.here hx rfl (hb hby at_85) rfl rfl (l' := #[.val (.int p0), .val (.long p1), .second, .val (.long p2), .second, .val (.int (kk.toInt32)), .val (.long (own_mask (own_min (kk.toInt32) (64 : Int32)))), .second, .val (.long (own_mask (own_max ((kk.toInt32) - (64 : Int32)) (0 : Int32)))), .second, .val (.long x0), .second, .val (.long x1), .second, .val (.ref b17), .unset, .unset, .unset, .unset, .unset, .unset]) rfl) ?_
      show Go p.tables e below _ (T17.setTop (mkF m 87 #[.val (.int p0), .val (.long p1), .second, .val (.long p2), .second, .val (.int (kk.toInt32)), .val (.long (own_mask (own_min (kk.toInt32) (64 : Int32)))), .second, .val (.long (own_mask (own_max ((kk.toInt32) - (64 : Int32)) (0 : Int32)))), .second, .val (.long x0), .second, .val (.long x1), .second, .val (.ref b17), .unset, .unset, .unset, .unset, .unset, .unset] []))
      refine Go.by (fun _ => XS.aload X17.here hx rfl (hb hby at_87) rfl rfl) ?_
      show Go p.tables e below _ (T17.setTop (mkF m 89 #[.val (.int p0), .val (.long p1), .second, .val (.long p2), .second, .val (.int (kk.toInt32)), .val (.long (own_mask (own_min (kk.toInt32) (64 : Int32)))), .second, .val (.long (own_mask (own_max ((kk.toInt32) - (64 : Int32)) (0 : Int32)))), .second, .val (.long x0), .second, .val (.long x1), .second, .val (.ref b17), .unset, .unset, .unset, .unset, .unset, .unset] [(.ref b17)]))
      refine Go.by (fun _ => XS.iconst X17.here hx rfl (hb hby at_89)) ?_
      show Go p.tables e below _ (T17.setTop (mkF m 90 #[.val (.int p0), .val (.long p1), .second, .val (.long p2), .second, .val (.int (kk.toInt32)), .val (.long (own_mask (own_min (kk.toInt32) (64 : Int32)))), .second, .val (.long (own_mask (own_max ((kk.toInt32) - (64 : Int32)) (0 : Int32)))), .second, .val (.long x0), .second, .val (.long x1), .second, .val (.ref b17), .unset, .unset, .unset, .unset, .unset, .unset] [(.int (0 : Int32)), (.ref b17)]))
      refine Go.by (fun _ => XS.lload X17.here hx rfl (hb hby at_90) rfl) ?_
      show Go p.tables e below _ (T17.setTop (mkF m 92 #[.val (.int p0), .val (.long p1), .second, .val (.long p2), .second, .val (.int (kk.toInt32)), .val (.long (own_mask (own_min (kk.toInt32) (64 : Int32)))), .second, .val (.long (own_mask (own_max ((kk.toInt32) - (64 : Int32)) (0 : Int32)))), .second, .val (.long x0), .second, .val (.long x1), .second, .val (.ref b17), .unset, .unset, .unset, .unset, .unset, .unset] [(.long x0), (.int (0 : Int32)), (.ref b17)]))
      obtain ⟨T19, h19, X19, W19, V19, st19⟩ := X17.stJ hx hZ V17 g_b17 (by decide) (i := 0) rfl (by decide) (g := (mkF m 92 #[.val (.int p0), .val (.long p1), .second, .val (.long p2), .second, .val (.int (kk.toInt32)), .val (.long (own_mask (own_min (kk.toInt32) (64 : Int32)))), .second, .val (.long (own_mask (own_max ((kk.toInt32) - (64 : Int32)) (0 : Int32)))), .second, .val (.long x0), .second, .val (.long x1), .second, .val (.ref b17), .unset, .unset, .unset, .unset, .unset, .unset] [(.long x0), (.int (0 : Int32)), (.ref b17)])) rfl rfl (hb hby at_92)
      have f20_209 := A17.wr W19
      have Zs20 : n0 ≤ h19.size := by rw [W19.size]; exact Zs18
      refine Go.by st19 ?_
      show Go p.tables e below _ (T19.setTop (mkF m 93 #[.val (.int p0), .val (.long p1), .second, .val (.long p2), .second, .val (.int (kk.toInt32)), .val (.long (own_mask (own_min (kk.toInt32) (64 : Int32)))), .second, .val (.long (own_mask (own_max ((kk.toInt32) - (64 : Int32)) (0 : Int32)))), .second, .val (.long x0), .second, .val (.long x1), .second, .val (.ref b17), .unset, .unset, .unset, .unset, .unset, .unset] []))
      refine Go.by (fun _ => XS.aload X19.here hx rfl (hb hby at_93) rfl rfl) ?_
      show Go p.tables e below _ (T19.setTop (mkF m 95 #[.val (.int p0), .val (.long p1), .second, .val (.long p2), .second, .val (.int (kk.toInt32)), .val (.long (own_mask (own_min (kk.toInt32) (64 : Int32)))), .second, .val (.long (own_mask (own_max ((kk.toInt32) - (64 : Int32)) (0 : Int32)))), .second, .val (.long x0), .second, .val (.long x1), .second, .val (.ref b17), .unset, .unset, .unset, .unset, .unset, .unset] [(.ref b17)]))
      refine Go.by (fun _ => XS.iconst X19.here hx rfl (hb hby at_95)) ?_
      show Go p.tables e below _ (T19.setTop (mkF m 96 #[.val (.int p0), .val (.long p1), .second, .val (.long p2), .second, .val (.int (kk.toInt32)), .val (.long (own_mask (own_min (kk.toInt32) (64 : Int32)))), .second, .val (.long (own_mask (own_max ((kk.toInt32) - (64 : Int32)) (0 : Int32)))), .second, .val (.long x0), .second, .val (.long x1), .second, .val (.ref b17), .unset, .unset, .unset, .unset, .unset, .unset] [(.int (1 : Int32)), (.ref b17)]))
      refine Go.by (fun _ => XS.lload X19.here hx rfl (hb hby at_96) rfl) ?_
      show Go p.tables e below _ (T19.setTop (mkF m 98 #[.val (.int p0), .val (.long p1), .second, .val (.long p2), .second, .val (.int (kk.toInt32)), .val (.long (own_mask (own_min (kk.toInt32) (64 : Int32)))), .second, .val (.long (own_mask (own_max ((kk.toInt32) - (64 : Int32)) (0 : Int32)))), .second, .val (.long x0), .second, .val (.long x1), .second, .val (.ref b17), .unset, .unset, .unset, .unset, .unset, .unset] [(.long x1), (.int (1 : Int32)), (.ref b17)]))
      obtain ⟨T21, h21, X21, W21, V21, st21⟩ := X19.stJ hx hZ V19 g_b17 (by decide) (i := 1) rfl (by decide) (g := (mkF m 98 #[.val (.int p0), .val (.long p1), .second, .val (.long p2), .second, .val (.int (kk.toInt32)), .val (.long (own_mask (own_min (kk.toInt32) (64 : Int32)))), .second, .val (.long (own_mask (own_max ((kk.toInt32) - (64 : Int32)) (0 : Int32)))), .second, .val (.long x0), .second, .val (.long x1), .second, .val (.ref b17), .unset, .unset, .unset, .unset, .unset, .unset] [(.long x1), (.int (1 : Int32)), (.ref b17)])) rfl rfl (hb hby at_98)
      have f22_220 := f20_209.wr W21
      have Zs22 : n0 ≤ h21.size := by rw [W21.size]; exact Zs20
      refine Go.by st21 ?_
      show Go p.tables e below _ (T21.setTop (mkF m 99 #[.val (.int p0), .val (.long p1), .second, .val (.long p2), .second, .val (.int (kk.toInt32)), .val (.long (own_mask (own_min (kk.toInt32) (64 : Int32)))), .second, .val (.long (own_mask (own_max ((kk.toInt32) - (64 : Int32)) (0 : Int32)))), .second, .val (.long x0), .second, .val (.long x1), .second, .val (.ref b17), .unset, .unset, .unset, .unset, .unset, .unset] []))
      obtain ⟨T23, h23, b23, X23, g23, E23, A23, D23, st23⟩ := X21.newO hx hZ hown (tw hw 13 rfl) (tw hw 14 rfl) (tw hw 15 rfl) (g := (mkF m 99 #[.val (.int p0), .val (.long p1), .second, .val (.long p2), .second, .val (.int (kk.toInt32)), .val (.long (own_mask (own_min (kk.toInt32) (64 : Int32)))), .second, .val (.long (own_mask (own_max ((kk.toInt32) - (64 : Int32)) (0 : Int32)))), .second, .val (.long x0), .second, .val (.long x1), .second, .val (.ref b17), .unset, .unset, .unset, .unset, .unset, .unset] [])) rfl (hb hby at_99) (k' := 2) (n' := 4) rfl rfl (by decide) (by decide)
      have g_b23 : n0 ≤ b23 := by rw [g23]; exact Zs22
      have ne_b17_b23 : b17 ≠ b23 := Nat.ne_of_lt (by rw [g23]; exact f22_220.lt)
      have f24_227 := f22_220.ext E23
      have f24_228 := Avf.ext V21 E23
      have Zs24 : n0 ≤ h23.size := Nat.le_trans Zs22 E23.1
      have F23_length : Fld Z h23 b23 "com/example/bitstrata/bitstrata/bitmap/BitVector" "length" "I" (.int (0 : Int32)) := D23 (Or.inr (tw hw 23 rfl)) (ty := .int) (by decide)
      have F23_words : Fld Z h23 b23 "com/example/bitstrata/bitstrata/bitmap/BitVector" "words" "[J" .null := D23 (Or.inr (tw hw 25 rfl)) (ty := (.array .long)) (by decide)
      refine Go.by st23 ?_
      show Go p.tables e below _ (T23.setTop (mkF m 102 #[.val (.int p0), .val (.long p1), .second, .val (.long p2), .second, .val (.int (kk.toInt32)), .val (.long (own_mask (own_min (kk.toInt32) (64 : Int32)))), .second, .val (.long (own_mask (own_max ((kk.toInt32) - (64 : Int32)) (0 : Int32)))), .second, .val (.long x0), .second, .val (.long x1), .second, .val (.ref b17), .unset, .unset, .unset, .unset, .unset, .unset] [(.ref b23)]))
      refine Go.by (fun _ => XS.dup X23.here hx rfl (hb hby at_102) rfl rfl) ?_
      show Go p.tables e below _ (T23.setTop (mkF m 103 #[.val (.int p0), .val (.long p1), .second, .val (.long p2), .second, .val (.int (kk.toInt32)), .val (.long (own_mask (own_min (kk.toInt32) (64 : Int32)))), .second, .val (.long (own_mask (own_max ((kk.toInt32) - (64 : Int32)) (0 : Int32)))), .second, .val (.long x0), .second, .val (.long x1), .second, .val (.ref b17), .unset, .unset, .unset, .unset, .unset, .unset] [(.ref b23), (.ref b23)]))
      refine Go.by (fun _ => XS.iload X23.here hx rfl (hb hby at_103) rfl) ?_
      show Go p.tables e below _ (T23.setTop (mkF m 105 #[.val (.int p0), .val (.long p1), .second, .val (.long p2), .second, .val (.int (kk.toInt32)), .val (.long (own_mask (own_min (kk.toInt32) (64 : Int32)))), .second, .val (.long (own_mask (own_max ((kk.toInt32) - (64 : Int32)) (0 : Int32)))), .second, .val (.long x0), .second, .val (.long x1), .second, .val (.ref b17), .unset, .unset, .unset, .unset, .unset, .unset] [(.int (kk.toInt32)), (.ref b23), (.ref b23)]))
      refine Go.by (fun _ => XS.aload X23.here hx rfl (hb hby at_105) rfl rfl) ?_
      show Go p.tables e below _ (T23.setTop (mkF m 107 #[.val (.int p0), .val (.long p1), .second, .val (.long p2), .second, .val (.int (kk.toInt32)), .val (.long (own_mask (own_min (kk.toInt32) (64 : Int32)))), .second, .val (.long (own_mask (own_max ((kk.toInt32) - (64 : Int32)) (0 : Int32)))), .second, .val (.long x0), .second, .val (.long x1), .second, .val (.ref b17), .unset, .unset, .unset, .unset, .unset, .unset] [(.ref b17), (.int (kk.toInt32)), (.ref b23), (.ref b23)]))
      obtain ⟨v25, T25, h25, X25, q25, st25⟩ := X23.callI hx hZ (y := (⟨"com/example/bitstrata/bitstrata/bitmap/BitVector", "<init>", "(I[J)V"⟩ : MethodName)) rfl hown (tw hw 16 rfl) (tw hw 17 rfl) (tw hw 15 rfl) (tw hw 18 rfl) (by decide) (rm4 l Z a0 hw [] b23 (kk.toInt32) b17 h23 n0 Zs24 A23 g_b23 F23_length F23_words) (g := (mkF m 107 #[.val (.int p0), .val (.long p1), .second, .val (.long p2), .second, .val (.int (kk.toInt32)), .val (.long (own_mask (own_min (kk.toInt32) (64 : Int32)))), .second, .val (.long (own_mask (own_max ((kk.toInt32) - (64 : Int32)) (0 : Int32)))), .second, .val (.long x0), .second, .val (.long x1), .second, .val (.ref b17), .unset, .unset, .unset, .unset, .unset, .unset] [(.ref b17), (.int (kk.toInt32)), (.ref b23), (.ref b23)])) rfl (by rw [hml]; rfl) (argsL := [(.int (kk.toInt32)), (.ref b17)]) (rest := [(.ref b23)]) (lenOf pd2 rfl) rfl (hb hby at_107) rfl (by decide) (Nat.le_of_ble_eq_true rfl) (k' := 2) (n' := 4) rfl rfl (by decide) (by decide)
      refine Go.by st25 ?_
      obtain ⟨rfl, K25, Ex25, Fl25, Fw25⟩ := q25
      have f26_243 := f24_227.keep K25
      have f26_244 := Avf.keep f24_228 K25 (ninS ne_b17_b23 nin0)
      have f26_245 := A23.keep K25
      have Zs26 : n0 ≤ h25.size := Nat.le_trans Zs24 K25.1
      show Go p.tables e below _ (T25.setTop (mkF m 110 #[.val (.int p0), .val (.long p1), .second, .val (.long p2), .second, .val (.int (kk.toInt32)), .val (.long (own_mask (own_min (kk.toInt32) (64 : Int32)))), .second, .val (.long (own_mask (own_max ((kk.toInt32) - (64 : Int32)) (0 : Int32)))), .second, .val (.long x0), .second, .val (.long x1), .second, .val (.ref b17), .unset, .unset, .unset, .unset, .unset, .unset] [(.ref b23)]))
      refine Go.by (fun _ => XS.astore X25.here hx rfl (hb hby at_110) rfl rfl (l' := #[.val (.int p0), .val (.long p1), .second, .val (.long p2), .second, .val (.int (kk.toInt32)), .val (.long (own_mask (own_min (kk.toInt32) (64 : Int32)))), .second, .val (.long (own_mask (own_max ((kk.toInt32) - (64 : Int32)) (0 : Int32)))), .second, .val (.long x0), .second, .val (.long x1), .second, .val (.ref b17), .val (.ref b23), .unset, .unset, .unset, .unset, .unset]) rfl) ?_
      show Go p.tables e below _ (T25.setTop (mkF m 112 #[.val (.int p0), .val (.long p1), .second, .val (.long p2), .second, .val (.int (kk.toInt32)), .val (.long (own_mask (own_min (kk.toInt32) (64 : Int32)))), .second, .val (.long (own_mask (own_max ((kk.toInt32) - (64 : Int32)) (0 : Int32)))), .second, .val (.long x0), .second, .val (.long x1), .second, .val (.ref b17), .val (.ref b23), .unset, .unset, .unset, .unset, .unset] []))
      refine Go.by (fun _ => XS.aload X25.here hx rfl (hb hby at_112) rfl rfl) ?_
      show Go p.tables e below _ (T25.setTop (mkF m 114 #[.val (.int p0), .val (.long p1), .second, .val (.long p2), .second, .val (.int (kk.toInt32)), .val (.long (own_mask (own_min (kk.toInt32) (64 : Int32)))), .second, .val (.long (own_mask (own_max ((kk.toInt32) - (64 : Int32)) (0 : Int32)))), .second, .val (.long x0), .second, .val (.long x1), .second, .val (.ref b17), .val (.ref b23), .unset, .unset, .unset, .unset, .unset] [(.ref b23)]))
      obtain ⟨v27, T27, h27, X27, q27, st27⟩ := X25.callV hx hZ (y := (⟨"com/example/bitstrata/bitstrata/bitmap/BitVector", "not", "()V"⟩ : MethodName)) (z := (⟨"com/example/bitstrata/bitstrata/bitmap/BitVector", "not", "()V"⟩ : MethodName)) hown (tw hw 26 rfl) (tw hw 27 rfl) (notFace_of_selects (args := #[]) (mvT hZ (tw hw 29 rfl))) (tw hw 29 rfl) (tw hw 28 rfl) (tw hw 15 rfl) (tw hw 30 rfl) (by decide) (rm6_2 l Z a0 hw [] b23 b17 kc17 (kk.toInt32) x0 x1 h25 n0 Zs26 Fl25 Fw25 (Avf.cong f26_244 (fun i hi => by match i, hi with | 0, _ => simp | 1, _ => simp)) g_b17 (Ne.symm ne_b17_b23)) Ex25 (g := (mkF m 114 #[.val (.int p0), .val (.long p1), .second, .val (.long p2), .second, .val (.int (kk.toInt32)), .val (.long (own_mask (own_min (kk.toInt32) (64 : Int32)))), .second, .val (.long (own_mask (own_max ((kk.toInt32) - (64 : Int32)) (0 : Int32)))), .second, .val (.long x0), .second, .val (.long x1), .second, .val (.ref b17), .val (.ref b23), .unset, .unset, .unset, .unset, .unset] [(.ref b23)])) rfl (by rw [hml]; rfl) (argsL := []) (rest := []) (lenOf pd3 rfl) rfl (hb hby at_114) rfl (by decide) (Nat.le_of_ble_eq_true rfl) (k' := 2) (n' := 4) rfl rfl (by decide) (by decide)
      refine Go.by st27 ?_
      obtain ⟨rfl, K27, V27⟩ := q27
      have f28_255 := f26_243.keep K27
      have f28_256 := Ex25.keep K27
      have f28_257 := Fl25.keep K27 (ninS (Ne.symm ne_b17_b23) nin0)
      have f28_258 := Fw25.keep K27 (ninS (Ne.symm ne_b17_b23) nin0)
      have Zs28 : n0 ≤ h27.size := Nat.le_trans Zs26 K27.1
      show Go p.tables e below _ (T27.setTop (mkF m 117 #[.val (.int p0), .val (.long p1), .second, .val (.long p2), .second, .val (.int (kk.toInt32)), .val (.long (own_mask (own_min (kk.toInt32) (64 : Int32)))), .second, .val (.long (own_mask (own_max ((kk.toInt32) - (64 : Int32)) (0 : Int32)))), .second, .val (.long x0), .second, .val (.long x1), .second, .val (.ref b17), .val (.ref b23), .unset, .unset, .unset, .unset, .unset] []))
      refine Go.by (fun _ => XS.aload X27.here hx rfl (hb hby at_117) rfl rfl) ?_
      show Go p.tables e below _ (T27.setTop (mkF m 119 #[.val (.int p0), .val (.long p1), .second, .val (.long p2), .second, .val (.int (kk.toInt32)), .val (.long (own_mask (own_min (kk.toInt32) (64 : Int32)))), .second, .val (.long (own_mask (own_max ((kk.toInt32) - (64 : Int32)) (0 : Int32)))), .second, .val (.long x0), .second, .val (.long x1), .second, .val (.ref b17), .val (.ref b23), .unset, .unset, .unset, .unset, .unset] [(.ref b23)]))
      obtain ⟨v29, T29, h29, X29, q29, st29⟩ := X27.callV hx hZ (y := (⟨"com/example/bitstrata/bitstrata/bitmap/BitVector", "length", "()I"⟩ : MethodName)) (z := (⟨"com/example/bitstrata/bitstrata/bitmap/BitVector", "length", "()I"⟩ : MethodName)) hown (tw hw 31 rfl) (tw hw 32 rfl) (notFace_of_selects (args := #[]) (mvT hZ (tw hw 34 rfl))) (tw hw 34 rfl) (tw hw 33 rfl) (tw hw 15 rfl) (tw hw 35 rfl) (by decide) (rm7 l Z a0 hw [] b23 (kk.toInt32) h27 n0 Zs28 f28_257) f28_256 (g := (mkF m 119 #[.val (.int p0), .val (.long p1), .second, .val (.long p2), .second, .val (.int (kk.toInt32)), .val (.long (own_mask (own_min (kk.toInt32) (64 : Int32)))), .second, .val (.long (own_mask (own_max ((kk.toInt32) - (64 : Int32)) (0 : Int32)))), .second, .val (.long x0), .second, .val (.long x1), .second, .val (.ref b17), .val (.ref b23), .unset, .unset, .unset, .unset, .unset] [(.ref b23)])) rfl (by rw [hml]; rfl) (argsL := []) (rest := []) (lenOf pd4 rfl) rfl (hb hby at_119) rfl (by decide) (Nat.le_of_ble_eq_true rfl) (k' := 2) (n' := 4) rfl rfl (by decide) (by decide)
      refine Go.by st29 ?_
      obtain ⟨rfl, rfl⟩ := q29
      show Go p.tables e below _ (T29.setTop (mkF m 122 #[.val (.int p0), .val (.long p1), .second, .val (.long p2), .second, .val (.int (kk.toInt32)), .val (.long (own_mask (own_min (kk.toInt32) (64 : Int32)))), .second, .val (.long (own_mask (own_max ((kk.toInt32) - (64 : Int32)) (0 : Int32)))), .second, .val (.long x0), .second, .val (.long x1), .second, .val (.ref b17), .val (.ref b23), .unset, .unset, .unset, .unset, .unset] [(.int (kk.toInt32))]))
      refine Go.by (fun _ => XS.iload X29.here hx rfl (hb hby at_122) rfl) ?_
      show Go p.tables e below _ (T29.setTop (mkF m 124 #[.val (.int p0), .val (.long p1), .second, .val (.long p2), .second, .val (.int (kk.toInt32)), .val (.long (own_mask (own_min (kk.toInt32) (64 : Int32)))), .second, .val (.long (own_mask (own_max ((kk.toInt32) - (64 : Int32)) (0 : Int32)))), .second, .val (.long x0), .second, .val (.long x1), .second, .val (.ref b17), .val (.ref b23), .unset, .unset, .unset, .unset, .unset] [(.int (kk.toInt32)), (.int (kk.toInt32))]))
      refine Go.by (fun _ => XS.icmpYes X29.here hx rfl (pc0 := 124) (pc' := 129) rfl (hb hby at_124) rfl (teq rfl).1 (by decide) (by decide)) ?_
      show Go p.tables e below _ (T29.setTop (mkF m 129 #[.val (.int p0), .val (.long p1), .second, .val (.long p2), .second, .val (.int (kk.toInt32)), .val (.long (own_mask (own_min (kk.toInt32) (64 : Int32)))), .second, .val (.long (own_mask (own_max ((kk.toInt32) - (64 : Int32)) (0 : Int32)))), .second, .val (.long x0), .second, .val (.long x1), .second, .val (.ref b17), .val (.ref b23), .unset, .unset, .unset, .unset, .unset] []))
      refine Go.by (fun _ => XS.aload X29.here hx rfl (hb hby at_129) rfl rfl) ?_
      show Go p.tables e below _ (T29.setTop (mkF m 131 #[.val (.int p0), .val (.long p1), .second, .val (.long p2), .second, .val (.int (kk.toInt32)), .val (.long (own_mask (own_min (kk.toInt32) (64 : Int32)))), .second, .val (.long (own_mask (own_max ((kk.toInt32) - (64 : Int32)) (0 : Int32)))), .second, .val (.long x0), .second, .val (.long x1), .second, .val (.ref b17), .val (.ref b23), .unset, .unset, .unset, .unset, .unset] [(.ref b23)]))
      obtain ⟨v30, T30, h30, X30, q30, st30⟩ := X29.callV hx hZ (y := (⟨"com/example/bitstrata/bitstrata/bitmap/BitVector", "words", "()[J"⟩ : MethodName)) (z := (⟨"com/example/bitstrata/bitstrata/bitmap/BitVector", "words", "()[J"⟩ : MethodName)) hown (tw hw 36 rfl) (tw hw 37 rfl) (notFace_of_selects (args := #[]) (mvT hZ (tw hw 39 rfl))) (tw hw 39 rfl) (tw hw 38 rfl) (tw hw 15 rfl) (tw hw 40 rfl) (by decide) (rm8 l Z a0 hw [] b23 b17 h27 n0 Zs28 f28_258) f28_256 (g := (mkF m 131 #[.val (.int p0), .val (.long p1), .second, .val (.long p2), .second, .val (.int (kk.toInt32)), .val (.long (own_mask (own_min (kk.toInt32) (64 : Int32)))), .second, .val (.long (own_mask (own_max ((kk.toInt32) - (64 : Int32)) (0 : Int32)))), .second, .val (.long x0), .second, .val (.long x1), .second, .val (.ref b17), .val (.ref b23), .unset, .unset, .unset, .unset, .unset] [(.ref b23)])) rfl (by rw [hml]; rfl) (argsL := []) (rest := []) (lenOf pd5 rfl) rfl (hb hby at_131) rfl (by decide) (Nat.le_of_ble_eq_true rfl) (k' := 2) (n' := 4) rfl rfl (by decide) (by decide)
      refine Go.by st30 ?_
      obtain ⟨rfl, rfl⟩ := q30
      show Go p.tables e below _ (T30.setTop (mkF m 134 #[.val (.int p0), .val (.long p1), .second, .val (.long p2), .second, .val (.int (kk.toInt32)), .val (.long (own_mask (own_min (kk.toInt32) (64 : Int32)))), .second, .val (.long (own_mask (own_max ((kk.toInt32) - (64 : Int32)) (0 : Int32)))), .second, .val (.long x0), .second, .val (.long x1), .second, .val (.ref b17), .val (.ref b23), .unset, .unset, .unset, .unset, .unset] [(.ref b17)]))
      refine Go.by (fun _ => XS.astore X30.here hx rfl (hb hby at_134) rfl rfl (l' := #[.val (.int p0), .val (.long p1), .second, .val (.long p2), .second, .val (.int (kk.toInt32)), .val (.long (own_mask (own_min (kk.toInt32) (64 : Int32)))), .second, .val (.long (own_mask (own_max ((kk.toInt32) - (64 : Int32)) (0 : Int32)))), .second, .val (.long x0), .second, .val (.long x1), .second, .val (.ref b17), .val (.ref b23), .val (.ref b17), .unset, .unset, .unset, .unset]) rfl) ?_
      show Go p.tables e below _ (T30.setTop (mkF m 136 #[.val (.int p0), .val (.long p1), .second, .val (.long p2), .second, .val (.int (kk.toInt32)), .val (.long (own_mask (own_min (kk.toInt32) (64 : Int32)))), .second, .val (.long (own_mask (own_max ((kk.toInt32) - (64 : Int32)) (0 : Int32)))), .second, .val (.long x0), .second, .val (.long x1), .second, .val (.ref b17), .val (.ref b23), .val (.ref b17), .unset, .unset, .unset, .unset] []))
      refine Go.by (fun _ => XS.aload X30.here hx rfl (hb hby at_136) rfl rfl) ?_
      show Go p.tables e below _ (T30.setTop (mkF m 138 #[.val (.int p0), .val (.long p1), .second, .val (.long p2), .second, .val (.int (kk.toInt32)), .val (.long (own_mask (own_min (kk.toInt32) (64 : Int32)))), .second, .val (.long (own_mask (own_max ((kk.toInt32) - (64 : Int32)) (0 : Int32)))), .second, .val (.long x0), .second, .val (.long x1), .second, .val (.ref b17), .val (.ref b23), .val (.ref b17), .unset, .unset, .unset, .unset] [(.ref b17)]))
      refine Go.by (X30.len hx hZ V27 (z := (2 : Int32)) rfl (g := (mkF m 138 #[.val (.int p0), .val (.long p1), .second, .val (.long p2), .second, .val (.int (kk.toInt32)), .val (.long (own_mask (own_min (kk.toInt32) (64 : Int32)))), .second, .val (.long (own_mask (own_max ((kk.toInt32) - (64 : Int32)) (0 : Int32)))), .second, .val (.long x0), .second, .val (.long x1), .second, .val (.ref b17), .val (.ref b23), .val (.ref b17), .unset, .unset, .unset, .unset] [(.ref b17)])) rfl rfl (hb hby at_138)) ?_
      show Go p.tables e below _ (T30.setTop (mkF m 139 #[.val (.int p0), .val (.long p1), .second, .val (.long p2), .second, .val (.int (kk.toInt32)), .val (.long (own_mask (own_min (kk.toInt32) (64 : Int32)))), .second, .val (.long (own_mask (own_max ((kk.toInt32) - (64 : Int32)) (0 : Int32)))), .second, .val (.long x0), .second, .val (.long x1), .second, .val (.ref b17), .val (.ref b23), .val (.ref b17), .unset, .unset, .unset, .unset] [(.int (2 : Int32))]))
      refine Go.by (fun _ => XS.aload X30.here hx rfl (hb hby at_139) rfl rfl) ?_
      show Go p.tables e below _ (T30.setTop (mkF m 141 #[.val (.int p0), .val (.long p1), .second, .val (.long p2), .second, .val (.int (kk.toInt32)), .val (.long (own_mask (own_min (kk.toInt32) (64 : Int32)))), .second, .val (.long (own_mask (own_max ((kk.toInt32) - (64 : Int32)) (0 : Int32)))), .second, .val (.long x0), .second, .val (.long x1), .second, .val (.ref b17), .val (.ref b23), .val (.ref b17), .unset, .unset, .unset, .unset] [(.ref b17), (.int (2 : Int32))]))
      refine Go.by (X30.len hx hZ V27 (z := (2 : Int32)) rfl (g := (mkF m 141 #[.val (.int p0), .val (.long p1), .second, .val (.long p2), .second, .val (.int (kk.toInt32)), .val (.long (own_mask (own_min (kk.toInt32) (64 : Int32)))), .second, .val (.long (own_mask (own_max ((kk.toInt32) - (64 : Int32)) (0 : Int32)))), .second, .val (.long x0), .second, .val (.long x1), .second, .val (.ref b17), .val (.ref b23), .val (.ref b17), .unset, .unset, .unset, .unset] [(.ref b17), (.int (2 : Int32))])) rfl rfl (hb hby at_141)) ?_
      show Go p.tables e below _ (T30.setTop (mkF m 142 #[.val (.int p0), .val (.long p1), .second, .val (.long p2), .second, .val (.int (kk.toInt32)), .val (.long (own_mask (own_min (kk.toInt32) (64 : Int32)))), .second, .val (.long (own_mask (own_max ((kk.toInt32) - (64 : Int32)) (0 : Int32)))), .second, .val (.long x0), .second, .val (.long x1), .second, .val (.ref b17), .val (.ref b23), .val (.ref b17), .unset, .unset, .unset, .unset] [(.int (2 : Int32)), (.int (2 : Int32))]))
      refine Go.by (fun _ => XS.icmpYes X30.here hx rfl (pc0 := 142) (pc' := 147) rfl (hb hby at_142) rfl (teq (by decide)).1 (by decide) (by decide)) ?_
      show Go p.tables e below _ (T30.setTop (mkF m 147 #[.val (.int p0), .val (.long p1), .second, .val (.long p2), .second, .val (.int (kk.toInt32)), .val (.long (own_mask (own_min (kk.toInt32) (64 : Int32)))), .second, .val (.long (own_mask (own_max ((kk.toInt32) - (64 : Int32)) (0 : Int32)))), .second, .val (.long x0), .second, .val (.long x1), .second, .val (.ref b17), .val (.ref b23), .val (.ref b17), .unset, .unset, .unset, .unset] []))
      refine Go.by (fun _ => XS.lload X30.here hx rfl (hb hby at_147) rfl) ?_
      show Go p.tables e below _ (T30.setTop (mkF m 149 #[.val (.int p0), .val (.long p1), .second, .val (.long p2), .second, .val (.int (kk.toInt32)), .val (.long (own_mask (own_min (kk.toInt32) (64 : Int32)))), .second, .val (.long (own_mask (own_max ((kk.toInt32) - (64 : Int32)) (0 : Int32)))), .second, .val (.long x0), .second, .val (.long x1), .second, .val (.ref b17), .val (.ref b23), .val (.ref b17), .unset, .unset, .unset, .unset] [(.long x0)]))
      refine Go.by (X30.ldc2Long hx hZ hown (tw hw 41 rfl) (g := (mkF m 149 #[.val (.int p0), .val (.long p1), .second, .val (.long p2), .second, .val (.int (kk.toInt32)), .val (.long (own_mask (own_min (kk.toInt32) (64 : Int32)))), .second, .val (.long (own_mask (own_max ((kk.toInt32) - (64 : Int32)) (0 : Int32)))), .second, .val (.long x0), .second, .val (.long x1), .second, .val (.ref b17), .val (.ref b23), .val (.ref b17), .unset, .unset, .unset, .unset] [(.long x0)])) rfl (hb hby at_149)) ?_
      show Go p.tables e below _ (T30.setTop (mkF m 152 #[.val (.int p0), .val (.long p1), .second, .val (.long p2), .second, .val (.int (kk.toInt32)), .val (.long (own_mask (own_min (kk.toInt32) (64 : Int32)))), .second, .val (.long (own_mask (own_max ((kk.toInt32) - (64 : Int32)) (0 : Int32)))), .second, .val (.long x0), .second, .val (.long x1), .second, .val (.ref b17), .val (.ref b23), .val (.ref b17), .unset, .unset, .unset, .unset] [(.long (-1 : Int64)), (.long x0)]))
      refine Go.by (fun _ => XS.lxor X30.here hx rfl (hb hby at_152) rfl) ?_
      show Go p.tables e below _ (T30.setTop (mkF m 153 #[.val (.int p0), .val (.long p1), .second, .val (.long p2), .second, .val (.int (kk.toInt32)), .val (.long (own_mask (own_min (kk.toInt32) (64 : Int32)))), .second, .val (.long (own_mask (own_max ((kk.toInt32) - (64 : Int32)) (0 : Int32)))), .second, .val (.long x0), .second, .val (.long x1), .second, .val (.ref b17), .val (.ref b23), .val (.ref b17), .unset, .unset, .unset, .unset] [(.long (x0 ^^^ (-1 : Int64)))]))
      refine Go.by (fun _ => XS.lload X30.here hx rfl (hb hby at_153) rfl) ?_
      show Go p.tables e below _ (T30.setTop (mkF m 155 #[.val (.int p0), .val (.long p1), .second, .val (.long p2), .second, .val (.int (kk.toInt32)), .val (.long (own_mask (own_min (kk.toInt32) (64 : Int32)))), .second, .val (.long (own_mask (own_max ((kk.toInt32) - (64 : Int32)) (0 : Int32)))), .second, .val (.long x0), .second, .val (.long x1), .second, .val (.ref b17), .val (.ref b23), .val (.ref b17), .unset, .unset, .unset, .unset] [(.long (own_mask (own_min (kk.toInt32) (64 : Int32)))), (.long (x0 ^^^ (-1 : Int64)))]))
      refine Go.by (fun _ => XS.land X30.here hx rfl (hb hby at_155) rfl) ?_
      show Go p.tables e below _ (T30.setTop (mkF m 156 #[.val (.int p0), .val (.long p1), .second, .val (.long p2), .second, .val (.int (kk.toInt32)), .val (.long (own_mask (own_min (kk.toInt32) (64 : Int32)))), .second, .val (.long (own_mask (own_max ((kk.toInt32) - (64 : Int32)) (0 : Int32)))), .second, .val (.long x0), .second, .val (.long x1), .second, .val (.ref b17), .val (.ref b23), .val (.ref b17), .unset, .unset, .unset, .unset] [(.long ((x0 ^^^ (-1 : Int64)) &&& (own_mask (own_min (kk.toInt32) (64 : Int32)))))]))
      refine Go.by (fun _ => XS.lstore X30.here hx rfl (hb hby at_156) rfl (l' := #[.val (.int p0), .val (.long p1), .second, .val (.long p2), .second, .val (.int (kk.toInt32)), .val (.long (own_mask (own_min (kk.toInt32) (64 : Int32)))), .second, .val (.long (own_mask (own_max ((kk.toInt32) - (64 : Int32)) (0 : Int32)))), .second, .val (.long x0), .second, .val (.long x1), .second, .val (.ref b17), .val (.ref b23), .val (.ref b17), .val (.long ((x0 ^^^ (-1 : Int64)) &&& (own_mask (own_min (kk.toInt32) (64 : Int32))))), .second, .unset, .unset]) rfl) ?_
      show Go p.tables e below _ (T30.setTop (mkF m 158 #[.val (.int p0), .val (.long p1), .second, .val (.long p2), .second, .val (.int (kk.toInt32)), .val (.long (own_mask (own_min (kk.toInt32) (64 : Int32)))), .second, .val (.long (own_mask (own_max ((kk.toInt32) - (64 : Int32)) (0 : Int32)))), .second, .val (.long x0), .second, .val (.long x1), .second, .val (.ref b17), .val (.ref b23), .val (.ref b17), .val (.long ((x0 ^^^ (-1 : Int64)) &&& (own_mask (own_min (kk.toInt32) (64 : Int32))))), .second, .unset, .unset] []))
      refine Go.by (fun _ => XS.lload X30.here hx rfl (hb hby at_158) rfl) ?_
      show Go p.tables e below _ (T30.setTop (mkF m 160 #[.val (.int p0), .val (.long p1), .second, .val (.long p2), .second, .val (.int (kk.toInt32)), .val (.long (own_mask (own_min (kk.toInt32) (64 : Int32)))), .second, .val (.long (own_mask (own_max ((kk.toInt32) - (64 : Int32)) (0 : Int32)))), .second, .val (.long x0), .second, .val (.long x1), .second, .val (.ref b17), .val (.ref b23), .val (.ref b17), .val (.long ((x0 ^^^ (-1 : Int64)) &&& (own_mask (own_min (kk.toInt32) (64 : Int32))))), .second, .unset, .unset] [(.long x1)]))
      refine Go.by (X30.ldc2Long hx hZ hown (tw hw 41 rfl) (g := (mkF m 160 #[.val (.int p0), .val (.long p1), .second, .val (.long p2), .second, .val (.int (kk.toInt32)), .val (.long (own_mask (own_min (kk.toInt32) (64 : Int32)))), .second, .val (.long (own_mask (own_max ((kk.toInt32) - (64 : Int32)) (0 : Int32)))), .second, .val (.long x0), .second, .val (.long x1), .second, .val (.ref b17), .val (.ref b23), .val (.ref b17), .val (.long ((x0 ^^^ (-1 : Int64)) &&& (own_mask (own_min (kk.toInt32) (64 : Int32))))), .second, .unset, .unset] [(.long x1)])) rfl (hb hby at_160)) ?_
      show Go p.tables e below _ (T30.setTop (mkF m 163 #[.val (.int p0), .val (.long p1), .second, .val (.long p2), .second, .val (.int (kk.toInt32)), .val (.long (own_mask (own_min (kk.toInt32) (64 : Int32)))), .second, .val (.long (own_mask (own_max ((kk.toInt32) - (64 : Int32)) (0 : Int32)))), .second, .val (.long x0), .second, .val (.long x1), .second, .val (.ref b17), .val (.ref b23), .val (.ref b17), .val (.long ((x0 ^^^ (-1 : Int64)) &&& (own_mask (own_min (kk.toInt32) (64 : Int32))))), .second, .unset, .unset] [(.long (-1 : Int64)), (.long x1)]))
      refine Go.by (fun _ => XS.lxor X30.here hx rfl (hb hby at_163) rfl) ?_
      show Go p.tables e below _ (T30.setTop (mkF m 164 #[.val (.int p0), .val (.long p1), .second, .val (.long p2), .second, .val (.int (kk.toInt32)), .val (.long (own_mask (own_min (kk.toInt32) (64 : Int32)))), .second, .val (.long (own_mask (own_max ((kk.toInt32) - (64 : Int32)) (0 : Int32)))), .second, .val (.long x0), .second, .val (.long x1), .second, .val (.ref b17), .val (.ref b23), .val (.ref b17), .val (.long ((x0 ^^^ (-1 : Int64)) &&& (own_mask (own_min (kk.toInt32) (64 : Int32))))), .second, .unset, .unset] [(.long (x1 ^^^ (-1 : Int64)))]))
      refine Go.by (fun _ => XS.lload X30.here hx rfl (hb hby at_164) rfl) ?_
      show Go p.tables e below _ (T30.setTop (mkF m 166 #[.val (.int p0), .val (.long p1), .second, .val (.long p2), .second, .val (.int (kk.toInt32)), .val (.long (own_mask (own_min (kk.toInt32) (64 : Int32)))), .second, .val (.long (own_mask (own_max ((kk.toInt32) - (64 : Int32)) (0 : Int32)))), .second, .val (.long x0), .second, .val (.long x1), .second, .val (.ref b17), .val (.ref b23), .val (.ref b17), .val (.long ((x0 ^^^ (-1 : Int64)) &&& (own_mask (own_min (kk.toInt32) (64 : Int32))))), .second, .unset, .unset] [(.long (own_mask (own_max ((kk.toInt32) - (64 : Int32)) (0 : Int32)))), (.long (x1 ^^^ (-1 : Int64)))]))
      refine Go.by (fun _ => XS.land X30.here hx rfl (hb hby at_166) rfl) ?_
      show Go p.tables e below _ (T30.setTop (mkF m 167 #[.val (.int p0), .val (.long p1), .second, .val (.long p2), .second, .val (.int (kk.toInt32)), .val (.long (own_mask (own_min (kk.toInt32) (64 : Int32)))), .second, .val (.long (own_mask (own_max ((kk.toInt32) - (64 : Int32)) (0 : Int32)))), .second, .val (.long x0), .second, .val (.long x1), .second, .val (.ref b17), .val (.ref b23), .val (.ref b17), .val (.long ((x0 ^^^ (-1 : Int64)) &&& (own_mask (own_min (kk.toInt32) (64 : Int32))))), .second, .unset, .unset] [(.long ((x1 ^^^ (-1 : Int64)) &&& (own_mask (own_max ((kk.toInt32) - (64 : Int32)) (0 : Int32)))))]))
      refine Go.by (fun _ => XS.lstore X30.here hx rfl (hb hby at_167) rfl (l' := #[.val (.int p0), .val (.long p1), .second, .val (.long p2), .second, .val (.int (kk.toInt32)), .val (.long (own_mask (own_min (kk.toInt32) (64 : Int32)))), .second, .val (.long (own_mask (own_max ((kk.toInt32) - (64 : Int32)) (0 : Int32)))), .second, .val (.long x0), .second, .val (.long x1), .second, .val (.ref b17), .val (.ref b23), .val (.ref b17), .val (.long ((x0 ^^^ (-1 : Int64)) &&& (own_mask (own_min (kk.toInt32) (64 : Int32))))), .second, .val (.long ((x1 ^^^ (-1 : Int64)) &&& (own_mask (own_max ((kk.toInt32) - (64 : Int32)) (0 : Int32))))), .second]) rfl) ?_
      show Go p.tables e below _ (T30.setTop (mkF m 169 #[.val (.int p0), .val (.long p1), .second, .val (.long p2), .second, .val (.int (kk.toInt32)), .val (.long (own_mask (own_min (kk.toInt32) (64 : Int32)))), .second, .val (.long (own_mask (own_max ((kk.toInt32) - (64 : Int32)) (0 : Int32)))), .second, .val (.long x0), .second, .val (.long x1), .second, .val (.ref b17), .val (.ref b23), .val (.ref b17), .val (.long ((x0 ^^^ (-1 : Int64)) &&& (own_mask (own_min (kk.toInt32) (64 : Int32))))), .second, .val (.long ((x1 ^^^ (-1 : Int64)) &&& (own_mask (own_max ((kk.toInt32) - (64 : Int32)) (0 : Int32))))), .second] []))
      refine Go.by (fun _ => XS.iload X30.here hx rfl (hb hby at_169) rfl) ?_
      show Go p.tables e below _ (T30.setTop (mkF m 171 #[.val (.int p0), .val (.long p1), .second, .val (.long p2), .second, .val (.int (kk.toInt32)), .val (.long (own_mask (own_min (kk.toInt32) (64 : Int32)))), .second, .val (.long (own_mask (own_max ((kk.toInt32) - (64 : Int32)) (0 : Int32)))), .second, .val (.long x0), .second, .val (.long x1), .second, .val (.ref b17), .val (.ref b23), .val (.ref b17), .val (.long ((x0 ^^^ (-1 : Int64)) &&& (own_mask (own_min (kk.toInt32) (64 : Int32))))), .second, .val (.long ((x1 ^^^ (-1 : Int64)) &&& (own_mask (own_max ((kk.toInt32) - (64 : Int32)) (0 : Int32))))), .second] [(.int (kk.toInt32))]))
      refine Go.by (fun _ => XS.ifYes X30.here hx rfl (pc0 := 171) (pc' := 176) rfl (hb hby at_171) rfl ((if0 _ _).trans (feq hc50_5).2) (by decide) (by decide)) ?_
      show Go p.tables e below _ (T30.setTop (mkF m 176 #[.val (.int p0), .val (.long p1), .second, .val (.long p2), .second, .val (.int (kk.toInt32)), .val (.long (own_mask (own_min (kk.toInt32) (64 : Int32)))), .second, .val (.long (own_mask (own_max ((kk.toInt32) - (64 : Int32)) (0 : Int32)))), .second, .val (.long x0), .second, .val (.long x1), .second, .val (.ref b17), .val (.ref b23), .val (.ref b17), .val (.long ((x0 ^^^ (-1 : Int64)) &&& (own_mask (own_min (kk.toInt32) (64 : Int32))))), .second, .val (.long ((x1 ^^^ (-1 : Int64)) &&& (own_mask (own_max ((kk.toInt32) - (64 : Int32)) (0 : Int32))))), .second] []))
      refine Go.by (fun _ => XS.aload X30.here hx rfl (hb hby at_176) rfl rfl) ?_
      show Go p.tables e below _ (T30.setTop (mkF m 178 #[.val (.int p0), .val (.long p1), .second, .val (.long p2), .second, .val (.int (kk.toInt32)), .val (.long (own_mask (own_min (kk.toInt32) (64 : Int32)))), .second, .val (.long (own_mask (own_max ((kk.toInt32) - (64 : Int32)) (0 : Int32)))), .second, .val (.long x0), .second, .val (.long x1), .second, .val (.ref b17), .val (.ref b23), .val (.ref b17), .val (.long ((x0 ^^^ (-1 : Int64)) &&& (own_mask (own_min (kk.toInt32) (64 : Int32))))), .second, .val (.long ((x1 ^^^ (-1 : Int64)) &&& (own_mask (own_max ((kk.toInt32) - (64 : Int32)) (0 : Int32))))), .second] [(.ref b17)]))
      refine Go.by (fun _ => XS.iconst X30.here hx rfl (hb hby at_178)) ?_
      show Go p.tables e below _ (T30.setTop (mkF m 179 #[.val (.int p0), .val (.long p1), .second, .val (.long p2), .second, .val (.int (kk.toInt32)), .val (.long (own_mask (own_min (kk.toInt32) (64 : Int32)))), .second, .val (.long (own_mask (own_max ((kk.toInt32) - (64 : Int32)) (0 : Int32)))), .second, .val (.long x0), .second, .val (.long x1), .second, .val (.ref b17), .val (.ref b23), .val (.ref b17), .val (.long ((x0 ^^^ (-1 : Int64)) &&& (own_mask (own_min (kk.toInt32) (64 : Int32))))), .second, .val (.long ((x1 ^^^ (-1 : Int64)) &&& (own_mask (own_max ((kk.toInt32) - (64 : Int32)) (0 : Int32))))), .second] [(.int (0 : Int32)), (.ref b17)]))
      refine Go.by (X30.ldJ hx hZ V27 (by decide) (i := 0) rfl (by decide) (v := (.long (x0 ^^^ (-1)))) rfl (g := (mkF m 179 #[.val (.int p0), .val (.long p1), .second, .val (.long p2), .second, .val (.int (kk.toInt32)), .val (.long (own_mask (own_min (kk.toInt32) (64 : Int32)))), .second, .val (.long (own_mask (own_max ((kk.toInt32) - (64 : Int32)) (0 : Int32)))), .second, .val (.long x0), .second, .val (.long x1), .second, .val (.ref b17), .val (.ref b23), .val (.ref b17), .val (.long ((x0 ^^^ (-1 : Int64)) &&& (own_mask (own_min (kk.toInt32) (64 : Int32))))), .second, .val (.long ((x1 ^^^ (-1 : Int64)) &&& (own_mask (own_max ((kk.toInt32) - (64 : Int32)) (0 : Int32))))), .second] [(.int (0 : Int32)), (.ref b17)])) rfl rfl (hb hby at_179)) ?_
      show Go p.tables e below _ (T30.setTop (mkF m 180 #[.val (.int p0), .val (.long p1), .second, .val (.long p2), .second, .val (.int (kk.toInt32)), .val (.long (own_mask (own_min (kk.toInt32) (64 : Int32)))), .second, .val (.long (own_mask (own_max ((kk.toInt32) - (64 : Int32)) (0 : Int32)))), .second, .val (.long x0), .second, .val (.long x1), .second, .val (.ref b17), .val (.ref b23), .val (.ref b17), .val (.long ((x0 ^^^ (-1 : Int64)) &&& (own_mask (own_min (kk.toInt32) (64 : Int32))))), .second, .val (.long ((x1 ^^^ (-1 : Int64)) &&& (own_mask (own_max ((kk.toInt32) - (64 : Int32)) (0 : Int32))))), .second] [(.long (x0 ^^^ (-1)))]))
      refine Go.by (fun _ => XS.lload X30.here hx rfl (hb hby at_180) rfl) ?_
      show Go p.tables e below _ (T30.setTop (mkF m 182 #[.val (.int p0), .val (.long p1), .second, .val (.long p2), .second, .val (.int (kk.toInt32)), .val (.long (own_mask (own_min (kk.toInt32) (64 : Int32)))), .second, .val (.long (own_mask (own_max ((kk.toInt32) - (64 : Int32)) (0 : Int32)))), .second, .val (.long x0), .second, .val (.long x1), .second, .val (.ref b17), .val (.ref b23), .val (.ref b17), .val (.long ((x0 ^^^ (-1 : Int64)) &&& (own_mask (own_min (kk.toInt32) (64 : Int32))))), .second, .val (.long ((x1 ^^^ (-1 : Int64)) &&& (own_mask (own_max ((kk.toInt32) - (64 : Int32)) (0 : Int32))))), .second] [(.long ((x0 ^^^ (-1 : Int64)) &&& (own_mask (own_min (kk.toInt32) (64 : Int32))))), (.long (x0 ^^^ (-1)))]))
      refine Go.by (fun _ => XS.lcmp X30.here hx rfl (hb hby at_182) rfl) ?_
      show Go p.tables e below _ (T30.setTop (mkF m 183 #[.val (.int p0), .val (.long p1), .second, .val (.long p2), .second, .val (.int (kk.toInt32)), .val (.long (own_mask (own_min (kk.toInt32) (64 : Int32)))), .second, .val (.long (own_mask (own_max ((kk.toInt32) - (64 : Int32)) (0 : Int32)))), .second, .val (.long x0), .second, .val (.long x1), .second, .val (.ref b17), .val (.ref b23), .val (.ref b17), .val (.long ((x0 ^^^ (-1 : Int64)) &&& (own_mask (own_min (kk.toInt32) (64 : Int32))))), .second, .val (.long ((x1 ^^^ (-1 : Int64)) &&& (own_mask (own_max ((kk.toInt32) - (64 : Int32)) (0 : Int32))))), .second] [(.int (lcmpW (x0 ^^^ (-1)) ((x0 ^^^ (-1 : Int64)) &&& (own_mask (own_min (kk.toInt32) (64 : Int32))))))]))
      refine Go.by (fun _ => XS.ifYes X30.here hx rfl (pc0 := 183) (pc' := 188) rfl (hb hby at_183) rfl ((if0 _ _).trans (teq ((lw_eq _ _).mpr (by rw [(own_A2 kk hk (own_k65 hk hc65_16)).1, own_and1]))).1) (by decide) (by decide)) ?_
      show Go p.tables e below _ (T30.setTop (mkF m 188 #[.val (.int p0), .val (.long p1), .second, .val (.long p2), .second, .val (.int (kk.toInt32)), .val (.long (own_mask (own_min (kk.toInt32) (64 : Int32)))), .second, .val (.long (own_mask (own_max ((kk.toInt32) - (64 : Int32)) (0 : Int32)))), .second, .val (.long x0), .second, .val (.long x1), .second, .val (.ref b17), .val (.ref b23), .val (.ref b17), .val (.long ((x0 ^^^ (-1 : Int64)) &&& (own_mask (own_min (kk.toInt32) (64 : Int32))))), .second, .val (.long ((x1 ^^^ (-1 : Int64)) &&& (own_mask (own_max ((kk.toInt32) - (64 : Int32)) (0 : Int32))))), .second] []))
      refine Go.by (fun _ => XS.iload X30.here hx rfl (hb hby at_188) rfl) ?_
      show Go p.tables e below _ (T30.setTop (mkF m 190 #[.val (.int p0), .val (.long p1), .second, .val (.long p2), .second, .val (.int (kk.toInt32)), .val (.long (own_mask (own_min (kk.toInt32) (64 : Int32)))), .second, .val (.long (own_mask (own_max ((kk.toInt32) - (64 : Int32)) (0 : Int32)))), .second, .val (.long x0), .second, .val (.long x1), .second, .val (.ref b17), .val (.ref b23), .val (.ref b17), .val (.long ((x0 ^^^ (-1 : Int64)) &&& (own_mask (own_min (kk.toInt32) (64 : Int32))))), .second, .val (.long ((x1 ^^^ (-1 : Int64)) &&& (own_mask (own_max ((kk.toInt32) - (64 : Int32)) (0 : Int32))))), .second] [(.int (kk.toInt32))]))
      refine Go.by (fun _ => XS.bipush X30.here hx rfl (hb hby at_190)) ?_
      show Go p.tables e below _ (T30.setTop (mkF m 192 #[.val (.int p0), .val (.long p1), .second, .val (.long p2), .second, .val (.int (kk.toInt32)), .val (.long (own_mask (own_min (kk.toInt32) (64 : Int32)))), .second, .val (.long (own_mask (own_max ((kk.toInt32) - (64 : Int32)) (0 : Int32)))), .second, .val (.long x0), .second, .val (.long x1), .second, .val (.ref b17), .val (.ref b23), .val (.ref b17), .val (.long ((x0 ^^^ (-1 : Int64)) &&& (own_mask (own_min (kk.toInt32) (64 : Int32))))), .second, .val (.long ((x1 ^^^ (-1 : Int64)) &&& (own_mask (own_max ((kk.toInt32) - (64 : Int32)) (0 : Int32))))), .second] [(.int (64 : Int32)), (.int (kk.toInt32))]))
      refine Go.by (fun _ => XS.icmpYes X30.here hx rfl (pc0 := 192) (pc' := 197) rfl (hb hby at_192) rfl (tlt hc65_16).2.2.1 (by decide) (by decide)) ?_
      show Go p.tables e below _ (T30.setTop (mkF m 197 #[.val (.int p0), .val (.long p1), .second, .val (.long p2), .second, .val (.int (kk.toInt32)), .val (.long (own_mask (own_min (kk.toInt32) (64 : Int32)))), .second, .val (.long (own_mask (own_max ((kk.toInt32) - (64 : Int32)) (0 : Int32)))), .second, .val (.long x0), .second, .val (.long x1), .second, .val (.ref b17), .val (.ref b23), .val (.ref b17), .val (.long ((x0 ^^^ (-1 : Int64)) &&& (own_mask (own_min (kk.toInt32) (64 : Int32))))), .second, .val (.long ((x1 ^^^ (-1 : Int64)) &&& (own_mask (own_max ((kk.toInt32) - (64 : Int32)) (0 : Int32))))), .second] []))
      refine Go.by (fun _ => XS.aload X30.here hx rfl (hb hby at_197) rfl rfl) ?_
      show Go p.tables e below _ (T30.setTop (mkF m 199 #[.val (.int p0), .val (.long p1), .second, .val (.long p2), .second, .val (.int (kk.toInt32)), .val (.long (own_mask (own_min (kk.toInt32) (64 : Int32)))), .second, .val (.long (own_mask (own_max ((kk.toInt32) - (64 : Int32)) (0 : Int32)))), .second, .val (.long x0), .second, .val (.long x1), .second, .val (.ref b17), .val (.ref b23), .val (.ref b17), .val (.long ((x0 ^^^ (-1 : Int64)) &&& (own_mask (own_min (kk.toInt32) (64 : Int32))))), .second, .val (.long ((x1 ^^^ (-1 : Int64)) &&& (own_mask (own_max ((kk.toInt32) - (64 : Int32)) (0 : Int32))))), .second] [(.ref b17)]))
      refine Go.by (fun _ => XS.iconst X30.here hx rfl (hb hby at_199)) ?_
      show Go p.tables e below _ (T30.setTop (mkF m 200 #[.val (.int p0), .val (.long p1), .second, .val (.long p2), .second, .val (.int (kk.toInt32)), .val (.long (own_mask (own_min (kk.toInt32) (64 : Int32)))), .second, .val (.long (own_mask (own_max ((kk.toInt32) - (64 : Int32)) (0 : Int32)))), .second, .val (.long x0), .second, .val (.long x1), .second, .val (.ref b17), .val (.ref b23), .val (.ref b17), .val (.long ((x0 ^^^ (-1 : Int64)) &&& (own_mask (own_min (kk.toInt32) (64 : Int32))))), .second, .val (.long ((x1 ^^^ (-1 : Int64)) &&& (own_mask (own_max ((kk.toInt32) - (64 : Int32)) (0 : Int32))))), .second] [(.int (1 : Int32)), (.ref b17)]))
      refine Go.by (X30.ldJ hx hZ V27 (by decide) (i := 1) rfl (by decide) (v := (.long (own_n (kk.toInt32) x1))) rfl (g := (mkF m 200 #[.val (.int p0), .val (.long p1), .second, .val (.long p2), .second, .val (.int (kk.toInt32)), .val (.long (own_mask (own_min (kk.toInt32) (64 : Int32)))), .second, .val (.long (own_mask (own_max ((kk.toInt32) - (64 : Int32)) (0 : Int32)))), .second, .val (.long x0), .second, .val (.long x1), .second, .val (.ref b17), .val (.ref b23), .val (.ref b17), .val (.long ((x0 ^^^ (-1 : Int64)) &&& (own_mask (own_min (kk.toInt32) (64 : Int32))))), .second, .val (.long ((x1 ^^^ (-1 : Int64)) &&& (own_mask (own_max ((kk.toInt32) - (64 : Int32)) (0 : Int32))))), .second] [(.int (1 : Int32)), (.ref b17)])) rfl rfl (hb hby at_200)) ?_
      show Go p.tables e below _ (T30.setTop (mkF m 201 #[.val (.int p0), .val (.long p1), .second, .val (.long p2), .second, .val (.int (kk.toInt32)), .val (.long (own_mask (own_min (kk.toInt32) (64 : Int32)))), .second, .val (.long (own_mask (own_max ((kk.toInt32) - (64 : Int32)) (0 : Int32)))), .second, .val (.long x0), .second, .val (.long x1), .second, .val (.ref b17), .val (.ref b23), .val (.ref b17), .val (.long ((x0 ^^^ (-1 : Int64)) &&& (own_mask (own_min (kk.toInt32) (64 : Int32))))), .second, .val (.long ((x1 ^^^ (-1 : Int64)) &&& (own_mask (own_max ((kk.toInt32) - (64 : Int32)) (0 : Int32))))), .second] [(.long (own_n (kk.toInt32) x1))]))
      refine Go.by (fun _ => XS.lload X30.here hx rfl (hb hby at_201) rfl) ?_
      show Go p.tables e below _ (T30.setTop (mkF m 203 #[.val (.int p0), .val (.long p1), .second, .val (.long p2), .second, .val (.int (kk.toInt32)), .val (.long (own_mask (own_min (kk.toInt32) (64 : Int32)))), .second, .val (.long (own_mask (own_max ((kk.toInt32) - (64 : Int32)) (0 : Int32)))), .second, .val (.long x0), .second, .val (.long x1), .second, .val (.ref b17), .val (.ref b23), .val (.ref b17), .val (.long ((x0 ^^^ (-1 : Int64)) &&& (own_mask (own_min (kk.toInt32) (64 : Int32))))), .second, .val (.long ((x1 ^^^ (-1 : Int64)) &&& (own_mask (own_max ((kk.toInt32) - (64 : Int32)) (0 : Int32))))), .second] [(.long ((x1 ^^^ (-1 : Int64)) &&& (own_mask (own_max ((kk.toInt32) - (64 : Int32)) (0 : Int32))))), (.long (own_n (kk.toInt32) x1))]))
      refine Go.by (fun _ => XS.lcmp X30.here hx rfl (hb hby at_203) rfl) ?_
      show Go p.tables e below _ (T30.setTop (mkF m 204 #[.val (.int p0), .val (.long p1), .second, .val (.long p2), .second, .val (.int (kk.toInt32)), .val (.long (own_mask (own_min (kk.toInt32) (64 : Int32)))), .second, .val (.long (own_mask (own_max ((kk.toInt32) - (64 : Int32)) (0 : Int32)))), .second, .val (.long x0), .second, .val (.long x1), .second, .val (.ref b17), .val (.ref b23), .val (.ref b17), .val (.long ((x0 ^^^ (-1 : Int64)) &&& (own_mask (own_min (kk.toInt32) (64 : Int32))))), .second, .val (.long ((x1 ^^^ (-1 : Int64)) &&& (own_mask (own_max ((kk.toInt32) - (64 : Int32)) (0 : Int32))))), .second] [(.int (lcmpW (own_n (kk.toInt32) x1) ((x1 ^^^ (-1 : Int64)) &&& (own_mask (own_max ((kk.toInt32) - (64 : Int32)) (0 : Int32))))))]))
      refine Go.by (fun _ => XS.ifNo X30.here hx rfl (hb hby at_204) rfl ((if0 _ _).trans (teq ((lw_eq _ _).mpr (own_fin (own_A2 kk hk (own_k65 hk hc65_16)).2))).2)) ?_
      show Go p.tables e below _ (T30.setTop (mkF m 207 #[.val (.int p0), .val (.long p1), .second, .val (.long p2), .second, .val (.int (kk.toInt32)), .val (.long (own_mask (own_min (kk.toInt32) (64 : Int32)))), .second, .val (.long (own_mask (own_max ((kk.toInt32) - (64 : Int32)) (0 : Int32)))), .second, .val (.long x0), .second, .val (.long x1), .second, .val (.ref b17), .val (.ref b23), .val (.ref b17), .val (.long ((x0 ^^^ (-1 : Int64)) &&& (own_mask (own_min (kk.toInt32) (64 : Int32))))), .second, .val (.long ((x1 ^^^ (-1 : Int64)) &&& (own_mask (own_max ((kk.toInt32) - (64 : Int32)) (0 : Int32))))), .second] []))
      refine Go.by (fun _ => XS.iconst X30.here hx rfl (hb hby at_207)) ?_
      show Go p.tables e below _ (T30.setTop (mkF m 208 #[.val (.int p0), .val (.long p1), .second, .val (.long p2), .second, .val (.int (kk.toInt32)), .val (.long (own_mask (own_min (kk.toInt32) (64 : Int32)))), .second, .val (.long (own_mask (own_max ((kk.toInt32) - (64 : Int32)) (0 : Int32)))), .second, .val (.long x0), .second, .val (.long x1), .second, .val (.ref b17), .val (.ref b23), .val (.ref b17), .val (.long ((x0 ^^^ (-1 : Int64)) &&& (own_mask (own_min (kk.toInt32) (64 : Int32))))), .second, .val (.long ((x1 ^^^ (-1 : Int64)) &&& (own_mask (own_max ((kk.toInt32) - (64 : Int32)) (0 : Int32))))), .second] [(.int (1 : Int32))]))
      refine Go.by (fun _ => XS.goto X30.here hx rfl (pc0 := 208) (pc' := 212) rfl (hb hby at_208) (by decide) (by decide)) ?_
      show Go p.tables e below _ (T30.setTop (mkF m 212 #[.val (.int p0), .val (.long p1), .second, .val (.long p2), .second, .val (.int (kk.toInt32)), .val (.long (own_mask (own_min (kk.toInt32) (64 : Int32)))), .second, .val (.long (own_mask (own_max ((kk.toInt32) - (64 : Int32)) (0 : Int32)))), .second, .val (.long x0), .second, .val (.long x1), .second, .val (.ref b17), .val (.ref b23), .val (.ref b17), .val (.long ((x0 ^^^ (-1 : Int64)) &&& (own_mask (own_min (kk.toInt32) (64 : Int32))))), .second, .val (.long ((x1 ^^^ (-1 : Int64)) &&& (own_mask (own_max ((kk.toInt32) - (64 : Int32)) (0 : Int32))))), .second] [(.int (1 : Int32))]))
      exact Go.retN X30 hx hlk (z' := (1 : Int32)) hret (by simp) (hb hby at_212) rfl (by decide) (by decide) rfl
    · skip
      refine Go.by (fun _ => XS.icmpNo X4.here hx rfl (hb hby at_65) rfl (flt hc65_16).2.2.1) ?_
      show Go p.tables e below _ (T4.setTop (mkF m 68 #[.val (.int p0), .val (.long p1), .second, .val (.long p2), .second, .val (.int (kk.toInt32)), .val (.long (own_mask (own_min (kk.toInt32) (64 : Int32)))), .second, .val (.long (own_mask (own_max ((kk.toInt32) - (64 : Int32)) (0 : Int32)))), .second, .val (.long x0), .second, .val (.long x1), .second, .unset, .unset, .unset, .unset, .unset, .unset, .unset] []))
      refine Go.by (fun _ => XS.iconst X4.here hx rfl (hb hby at_68)) ?_
      show Go p.tables e below _ (T4.setTop (mkF m 69 #[.val (.int p0), .val (.long p1), .second, .val (.long p2), .second, .val (.int (kk.toInt32)), .val (.long (own_mask (own_min (kk.toInt32) (64 : Int32)))), .second, .val (.long (own_mask (own_max ((kk.toInt32) - (64 : Int32)) (0 : Int32)))), .second, .val (.long x0), .second, .val (.long x1), .second, .unset, .unset, .unset, .unset, .unset, .unset, .unset] [(.int (1 : Int32))]))
      obtain ⟨T31, h31, kc31, b31, X31, g31, E31, A31, V31, st31⟩ := X4.newP hx hZ (tw hw 12 rfl) (g := (mkF m 69 #[.val (.int p0), .val (.long p1), .second, .val (.long p2), .second, .val (.int (kk.toInt32)), .val (.long (own_mask (own_min (kk.toInt32) (64 : Int32)))), .second, .val (.long (own_mask (own_max ((kk.toInt32) - (64 : Int32)) (0 : Int32)))), .second, .val (.long x0), .second, .val (.long x1), .second, .unset, .unset, .unset, .unset, .unset, .unset, .unset] [(.int (1 : Int32))])) rfl (hb hby at_69) rfl (by decide) (sz := 1) (cap := 1) (k' := 1) (n' := 1) rfl (Nat.le_refl _) (by decide) rfl rfl (by decide) (by decide) (ad := "[J") (by decide)
      have g_b31 : n0 ≤ b31 := by rw [g31]; exact Z0
      have Zs32 : n0 ≤ h31.size := Nat.le_trans Z0 E31.1
      refine Go.by st31 ?_
      show Go p.tables e below _ (T31.setTop (mkF m 71 #[.val (.int p0), .val (.long p1), .second, .val (.long p2), .second, .val (.int (kk.toInt32)), .val (.long (own_mask (own_min (kk.toInt32) (64 : Int32)))), .second, .val (.long (own_mask (own_max ((kk.toInt32) - (64 : Int32)) (0 : Int32)))), .second, .val (.long x0), .second, .val (.long x1), .second, .unset, .unset, .unset, .unset, .unset, .unset, .unset] [(.ref b31)]))
      refine Go.by (fun _ => XS.astore X31.here hx rfl (hb hby at_71) rfl rfl (l' := #[.val (.int p0), .val (.long p1), .second, .val (.long p2), .second, .val (.int (kk.toInt32)), .val (.long (own_mask (own_min (kk.toInt32) (64 : Int32)))), .second, .val (.long (own_mask (own_max ((kk.toInt32) - (64 : Int32)) (0 : Int32)))), .second, .val (.long x0), .second, .val (.long x1), .second, .val (.ref b31), .unset, .unset, .unset, .unset, .unset, .unset]) rfl) ?_
      show Go p.tables e below _ (T31.setTop (mkF m 73 #[.val (.int p0), .val (.long p1), .second, .val (.long p2), .second, .val (.int (kk.toInt32)), .val (.long (own_mask (own_min (kk.toInt32) (64 : Int32)))), .second, .val (.long (own_mask (own_max ((kk.toInt32) - (64 : Int32)) (0 : Int32)))), .second, .val (.long x0), .second, .val (.long x1), .second, .val (.ref b31), .unset, .unset, .unset, .unset, .unset, .unset] []))
      refine Go.by (fun _ => XS.aload X31.here hx rfl (hb hby at_73) rfl rfl) ?_
      show Go p.tables e below _ (T31.setTop (mkF m 75 #[.val (.int p0), .val (.long p1), .second, .val (.long p2), .second, .val (.int (kk.toInt32)), .val (.long (own_mask (own_min (kk.toInt32) (64 : Int32)))), .second, .val (.long (own_mask (own_max ((kk.toInt32) - (64 : Int32)) (0 : Int32)))), .second, .val (.long x0), .second, .val (.long x1), .second, .val (.ref b31), .unset, .unset, .unset, .unset, .unset, .unset] [(.ref b31)]))
      refine Go.by (fun _ => XS.iconst X31.here hx rfl (hb hby at_75)) ?_
      show Go p.tables e below _ (T31.setTop (mkF m 76 #[.val (.int p0), .val (.long p1), .second, .val (.long p2), .second, .val (.int (kk.toInt32)), .val (.long (own_mask (own_min (kk.toInt32) (64 : Int32)))), .second, .val (.long (own_mask (own_max ((kk.toInt32) - (64 : Int32)) (0 : Int32)))), .second, .val (.long x0), .second, .val (.long x1), .second, .val (.ref b31), .unset, .unset, .unset, .unset, .unset, .unset] [(.int (0 : Int32)), (.ref b31)]))
      refine Go.by (fun _ => XS.lload X31.here hx rfl (hb hby at_76) rfl) ?_
      show Go p.tables e below _ (T31.setTop (mkF m 78 #[.val (.int p0), .val (.long p1), .second, .val (.long p2), .second, .val (.int (kk.toInt32)), .val (.long (own_mask (own_min (kk.toInt32) (64 : Int32)))), .second, .val (.long (own_mask (own_max ((kk.toInt32) - (64 : Int32)) (0 : Int32)))), .second, .val (.long x0), .second, .val (.long x1), .second, .val (.ref b31), .unset, .unset, .unset, .unset, .unset, .unset] [(.long x0), (.int (0 : Int32)), (.ref b31)]))
      obtain ⟨T33, h33, X33, W33, V33, st33⟩ := X31.stJ hx hZ V31 g_b31 (by decide) (i := 0) rfl (by decide) (g := (mkF m 78 #[.val (.int p0), .val (.long p1), .second, .val (.long p2), .second, .val (.int (kk.toInt32)), .val (.long (own_mask (own_min (kk.toInt32) (64 : Int32)))), .second, .val (.long (own_mask (own_max ((kk.toInt32) - (64 : Int32)) (0 : Int32)))), .second, .val (.long x0), .second, .val (.long x1), .second, .val (.ref b31), .unset, .unset, .unset, .unset, .unset, .unset] [(.long x0), (.int (0 : Int32)), (.ref b31)])) rfl rfl (hb hby at_78)
      have f34_371 := A31.wr W33
      have Zs34 : n0 ≤ h33.size := by rw [W33.size]; exact Zs32
      refine Go.by st33 ?_
      show Go p.tables e below _ (T33.setTop (mkF m 79 #[.val (.int p0), .val (.long p1), .second, .val (.long p2), .second, .val (.int (kk.toInt32)), .val (.long (own_mask (own_min (kk.toInt32) (64 : Int32)))), .second, .val (.long (own_mask (own_max ((kk.toInt32) - (64 : Int32)) (0 : Int32)))), .second, .val (.long x0), .second, .val (.long x1), .second, .val (.ref b31), .unset, .unset, .unset, .unset, .unset, .unset] []))
      refine Go.by (fun _ => XS.goto X33.here hx rfl (pc0 := 79) (pc' := 99) rfl (hb hby at_79) (by decide) (by decide)) ?_
      show Go p.tables e below _ (T33.setTop (mkF m 99 #[.val (.int p0), .val (.long p1), .second, .val (.long p2), .second, .val (.int (kk.toInt32)), .val (.long (own_mask (own_min (kk.toInt32) (64 : Int32)))), .second, .val (.long (own_mask (own_max ((kk.toInt32) - (64 : Int32)) (0 : Int32)))), .second, .val (.long x0), .second, .val (.long x1), .second, .val (.ref b31), .unset, .unset, .unset, .unset, .unset, .unset] []))
      obtain ⟨T35, h35, b35, X35, g35, E35, A35, D35, st35⟩ := X33.newO hx hZ hown (tw hw 13 rfl) (tw hw 14 rfl) (tw hw 15 rfl) (g := (mkF m 99 #[.val (.int p0), .val (.long p1), .second, .val (.long p2), .second, .val (.int (kk.toInt32)), .val (.long (own_mask (own_min (kk.toInt32) (64 : Int32)))), .second, .val (.long (own_mask (own_max ((kk.toInt32) - (64 : Int32)) (0 : Int32)))), .second, .val (.long x0), .second, .val (.long x1), .second, .val (.ref b31), .unset, .unset, .unset, .unset, .unset, .unset] [])) rfl (hb hby at_99) (k' := 2) (n' := 3) rfl rfl (by decide) (by decide)
      have g_b35 : n0 ≤ b35 := by rw [g35]; exact Zs34
      have ne_b31_b35 : b31 ≠ b35 := Nat.ne_of_lt (by rw [g35]; exact f34_371.lt)
      have f36_380 := f34_371.ext E35
      have f36_381 := Avf.ext V33 E35
      have Zs36 : n0 ≤ h35.size := Nat.le_trans Zs34 E35.1
      have F35_length : Fld Z h35 b35 "com/example/bitstrata/bitstrata/bitmap/BitVector" "length" "I" (.int (0 : Int32)) := D35 (Or.inr (tw hw 23 rfl)) (ty := .int) (by decide)
      have F35_words : Fld Z h35 b35 "com/example/bitstrata/bitstrata/bitmap/BitVector" "words" "[J" .null := D35 (Or.inr (tw hw 25 rfl)) (ty := (.array .long)) (by decide)
      refine Go.by st35 ?_
      show Go p.tables e below _ (T35.setTop (mkF m 102 #[.val (.int p0), .val (.long p1), .second, .val (.long p2), .second, .val (.int (kk.toInt32)), .val (.long (own_mask (own_min (kk.toInt32) (64 : Int32)))), .second, .val (.long (own_mask (own_max ((kk.toInt32) - (64 : Int32)) (0 : Int32)))), .second, .val (.long x0), .second, .val (.long x1), .second, .val (.ref b31), .unset, .unset, .unset, .unset, .unset, .unset] [(.ref b35)]))
      refine Go.by (fun _ => XS.dup X35.here hx rfl (hb hby at_102) rfl rfl) ?_
      show Go p.tables e below _ (T35.setTop (mkF m 103 #[.val (.int p0), .val (.long p1), .second, .val (.long p2), .second, .val (.int (kk.toInt32)), .val (.long (own_mask (own_min (kk.toInt32) (64 : Int32)))), .second, .val (.long (own_mask (own_max ((kk.toInt32) - (64 : Int32)) (0 : Int32)))), .second, .val (.long x0), .second, .val (.long x1), .second, .val (.ref b31), .unset, .unset, .unset, .unset, .unset, .unset] [(.ref b35), (.ref b35)]))
      refine Go.by (fun _ => XS.iload X35.here hx rfl (hb hby at_103) rfl) ?_
      show Go p.tables e below _ (T35.setTop (mkF m 105 #[.val (.int p0), .val (.long p1), .second, .val (.long p2), .second, .val (.int (kk.toInt32)), .val (.long (own_mask (own_min (kk.toInt32) (64 : Int32)))), .second, .val (.long (own_mask (own_max ((kk.toInt32) - (64 : Int32)) (0 : Int32)))), .second, .val (.long x0), .second, .val (.long x1), .second, .val (.ref b31), .unset, .unset, .unset, .unset, .unset, .unset] [(.int (kk.toInt32)), (.ref b35), (.ref b35)]))
      refine Go.by (fun _ => XS.aload X35.here hx rfl (hb hby at_105) rfl rfl) ?_
      show Go p.tables e below _ (T35.setTop (mkF m 107 #[.val (.int p0), .val (.long p1), .second, .val (.long p2), .second, .val (.int (kk.toInt32)), .val (.long (own_mask (own_min (kk.toInt32) (64 : Int32)))), .second, .val (.long (own_mask (own_max ((kk.toInt32) - (64 : Int32)) (0 : Int32)))), .second, .val (.long x0), .second, .val (.long x1), .second, .val (.ref b31), .unset, .unset, .unset, .unset, .unset, .unset] [(.ref b31), (.int (kk.toInt32)), (.ref b35), (.ref b35)]))
      obtain ⟨v37, T37, h37, X37, q37, st37⟩ := X35.callI hx hZ (y := (⟨"com/example/bitstrata/bitstrata/bitmap/BitVector", "<init>", "(I[J)V"⟩ : MethodName)) rfl hown (tw hw 16 rfl) (tw hw 17 rfl) (tw hw 15 rfl) (tw hw 18 rfl) (by decide) (rm4 l Z a0 hw [] b35 (kk.toInt32) b31 h35 n0 Zs36 A35 g_b35 F35_length F35_words) (g := (mkF m 107 #[.val (.int p0), .val (.long p1), .second, .val (.long p2), .second, .val (.int (kk.toInt32)), .val (.long (own_mask (own_min (kk.toInt32) (64 : Int32)))), .second, .val (.long (own_mask (own_max ((kk.toInt32) - (64 : Int32)) (0 : Int32)))), .second, .val (.long x0), .second, .val (.long x1), .second, .val (.ref b31), .unset, .unset, .unset, .unset, .unset, .unset] [(.ref b31), (.int (kk.toInt32)), (.ref b35), (.ref b35)])) rfl (by rw [hml]; rfl) (argsL := [(.int (kk.toInt32)), (.ref b31)]) (rest := [(.ref b35)]) (lenOf pd2 rfl) rfl (hb hby at_107) rfl (by decide) (Nat.le_of_ble_eq_true rfl) (k' := 2) (n' := 3) rfl rfl (by decide) (by decide)
      refine Go.by st37 ?_
      obtain ⟨rfl, K37, Ex37, Fl37, Fw37⟩ := q37
      have f38_396 := f36_380.keep K37
      have f38_397 := Avf.keep f36_381 K37 (ninS ne_b31_b35 nin0)
      have f38_398 := A35.keep K37
      have Zs38 : n0 ≤ h37.size := Nat.le_trans Zs36 K37.1
      show Go p.tables e below _ (T37.setTop (mkF m 110 #[.val (.int p0), .val (.long p1), .second, .val (.long p2), .second, .val (.int (kk.toInt32)), .val (.long (own_mask (own_min (kk.toInt32) (64 : Int32)))), .second, .val (.long (own_mask (own_max ((kk.toInt32) - (64 : Int32)) (0 : Int32)))), .second, .val (.long x0), .second, .val (.long x1), .second, .val (.ref b31), .unset, .unset, .unset, .unset, .unset, .unset] [(.ref b35)]))
      refine Go.by (fun _ => XS.astore X37.here hx rfl (hb hby at_110) rfl rfl (l' := #[.val (.int p0), .val (.long p1), .second, .val (.long p2), .second, .val (.int (kk.toInt32)), .val (.long (own_mask (own_min (kk.toInt32) (64 : Int32)))), .second, .val (.long (own_mask (own_max ((kk.toInt32) - (64 : Int32)) (0 : Int32)))), .second, .val (.long x0), .second, .val (.long x1), .second, .val (.ref b31), .val (.ref b35), .unset, .unset, .unset, .unset, .unset]) rfl) ?_
      show Go p.tables e below _ (T37.setTop (mkF m 112 #[.val (.int p0), .val (.long p1), .second, .val (.long p2), .second, .val (.int (kk.toInt32)), .val (.long (own_mask (own_min (kk.toInt32) (64 : Int32)))), .second, .val (.long (own_mask (own_max ((kk.toInt32) - (64 : Int32)) (0 : Int32)))), .second, .val (.long x0), .second, .val (.long x1), .second, .val (.ref b31), .val (.ref b35), .unset, .unset, .unset, .unset, .unset] []))
      refine Go.by (fun _ => XS.aload X37.here hx rfl (hb hby at_112) rfl rfl) ?_
      show Go p.tables e below _ (T37.setTop (mkF m 114 #[.val (.int p0), .val (.long p1), .second, .val (.long p2), .second, .val (.int (kk.toInt32)), .val (.long (own_mask (own_min (kk.toInt32) (64 : Int32)))), .second, .val (.long (own_mask (own_max ((kk.toInt32) - (64 : Int32)) (0 : Int32)))), .second, .val (.long x0), .second, .val (.long x1), .second, .val (.ref b31), .val (.ref b35), .unset, .unset, .unset, .unset, .unset] [(.ref b35)]))
      obtain ⟨v39, T39, h39, X39, q39, st39⟩ := X37.callV hx hZ (y := (⟨"com/example/bitstrata/bitstrata/bitmap/BitVector", "not", "()V"⟩ : MethodName)) (z := (⟨"com/example/bitstrata/bitstrata/bitmap/BitVector", "not", "()V"⟩ : MethodName)) hown (tw hw 26 rfl) (tw hw 27 rfl) (notFace_of_selects (args := #[]) (mvT hZ (tw hw 29 rfl))) (tw hw 29 rfl) (tw hw 28 rfl) (tw hw 15 rfl) (tw hw 30 rfl) (by decide) (rm6_1 l Z a0 hw [] b35 b31 kc31 (kk.toInt32) x0 h37 n0 Zs38 Fl37 Fw37 (Avf.cong f38_397 (fun i hi => by match i, hi with | 0, _ => rfl)) g_b31 (Ne.symm ne_b31_b35)) Ex37 (g := (mkF m 114 #[.val (.int p0), .val (.long p1), .second, .val (.long p2), .second, .val (.int (kk.toInt32)), .val (.long (own_mask (own_min (kk.toInt32) (64 : Int32)))), .second, .val (.long (own_mask (own_max ((kk.toInt32) - (64 : Int32)) (0 : Int32)))), .second, .val (.long x0), .second, .val (.long x1), .second, .val (.ref b31), .val (.ref b35), .unset, .unset, .unset, .unset, .unset] [(.ref b35)])) rfl (by rw [hml]; rfl) (argsL := []) (rest := []) (lenOf pd3 rfl) rfl (hb hby at_114) rfl (by decide) (Nat.le_of_ble_eq_true rfl) (k' := 2) (n' := 3) rfl rfl (by decide) (by decide)
      refine Go.by st39 ?_
      obtain ⟨rfl, K39, V39⟩ := q39
      have f40_408 := f38_396.keep K39
      have f40_409 := Ex37.keep K39
      have f40_410 := Fl37.keep K39 (ninS (Ne.symm ne_b31_b35) nin0)
      have f40_411 := Fw37.keep K39 (ninS (Ne.symm ne_b31_b35) nin0)
      have Zs40 : n0 ≤ h39.size := Nat.le_trans Zs38 K39.1
      show Go p.tables e below _ (T39.setTop (mkF m 117 #[.val (.int p0), .val (.long p1), .second, .val (.long p2), .second, .val (.int (kk.toInt32)), .val (.long (own_mask (own_min (kk.toInt32) (64 : Int32)))), .second, .val (.long (own_mask (own_max ((kk.toInt32) - (64 : Int32)) (0 : Int32)))), .second, .val (.long x0), .second, .val (.long x1), .second, .val (.ref b31), .val (.ref b35), .unset, .unset, .unset, .unset, .unset] []))
      refine Go.by (fun _ => XS.aload X39.here hx rfl (hb hby at_117) rfl rfl) ?_
      show Go p.tables e below _ (T39.setTop (mkF m 119 #[.val (.int p0), .val (.long p1), .second, .val (.long p2), .second, .val (.int (kk.toInt32)), .val (.long (own_mask (own_min (kk.toInt32) (64 : Int32)))), .second, .val (.long (own_mask (own_max ((kk.toInt32) - (64 : Int32)) (0 : Int32)))), .second, .val (.long x0), .second, .val (.long x1), .second, .val (.ref b31), .val (.ref b35), .unset, .unset, .unset, .unset, .unset] [(.ref b35)]))
      obtain ⟨v41, T41, h41, X41, q41, st41⟩ := X39.callV hx hZ (y := (⟨"com/example/bitstrata/bitstrata/bitmap/BitVector", "length", "()I"⟩ : MethodName)) (z := (⟨"com/example/bitstrata/bitstrata/bitmap/BitVector", "length", "()I"⟩ : MethodName)) hown (tw hw 31 rfl) (tw hw 32 rfl) (notFace_of_selects (args := #[]) (mvT hZ (tw hw 34 rfl))) (tw hw 34 rfl) (tw hw 33 rfl) (tw hw 15 rfl) (tw hw 35 rfl) (by decide) (rm7 l Z a0 hw [] b35 (kk.toInt32) h39 n0 Zs40 f40_410) f40_409 (g := (mkF m 119 #[.val (.int p0), .val (.long p1), .second, .val (.long p2), .second, .val (.int (kk.toInt32)), .val (.long (own_mask (own_min (kk.toInt32) (64 : Int32)))), .second, .val (.long (own_mask (own_max ((kk.toInt32) - (64 : Int32)) (0 : Int32)))), .second, .val (.long x0), .second, .val (.long x1), .second, .val (.ref b31), .val (.ref b35), .unset, .unset, .unset, .unset, .unset] [(.ref b35)])) rfl (by rw [hml]; rfl) (argsL := []) (rest := []) (lenOf pd4 rfl) rfl (hb hby at_119) rfl (by decide) (Nat.le_of_ble_eq_true rfl) (k' := 2) (n' := 3) rfl rfl (by decide) (by decide)
      refine Go.by st41 ?_
      obtain ⟨rfl, rfl⟩ := q41
      show Go p.tables e below _ (T41.setTop (mkF m 122 #[.val (.int p0), .val (.long p1), .second, .val (.long p2), .second, .val (.int (kk.toInt32)), .val (.long (own_mask (own_min (kk.toInt32) (64 : Int32)))), .second, .val (.long (own_mask (own_max ((kk.toInt32) - (64 : Int32)) (0 : Int32)))), .second, .val (.long x0), .second, .val (.long x1), .second, .val (.ref b31), .val (.ref b35), .unset, .unset, .unset, .unset, .unset] [(.int (kk.toInt32))]))
      refine Go.by (fun _ => XS.iload X41.here hx rfl (hb hby at_122) rfl) ?_
      show Go p.tables e below _ (T41.setTop (mkF m 124 #[.val (.int p0), .val (.long p1), .second, .val (.long p2), .second, .val (.int (kk.toInt32)), .val (.long (own_mask (own_min (kk.toInt32) (64 : Int32)))), .second, .val (.long (own_mask (own_max ((kk.toInt32) - (64 : Int32)) (0 : Int32)))), .second, .val (.long x0), .second, .val (.long x1), .second, .val (.ref b31), .val (.ref b35), .unset, .unset, .unset, .unset, .unset] [(.int (kk.toInt32)), (.int (kk.toInt32))]))
      refine Go.by (fun _ => XS.icmpYes X41.here hx rfl (pc0 := 124) (pc' := 129) rfl (hb hby at_124) rfl (teq rfl).1 (by decide) (by decide)) ?_
      show Go p.tables e below _ (T41.setTop (mkF m 129 #[.val (.int p0), .val (.long p1), .second, .val (.long p2), .second, .val (.int (kk.toInt32)), .val (.long (own_mask (own_min (kk.toInt32) (64 : Int32)))), .second, .val (.long (own_mask (own_max ((kk.toInt32) - (64 : Int32)) (0 : Int32)))), .second, .val (.long x0), .second, .val (.long x1), .second, .val (.ref b31), .val (.ref b35), .unset, .unset, .unset, .unset, .unset] []))
      refine Go.by (fun _ => XS.aload X41.here hx rfl (hb hby at_129) rfl rfl) ?_
      show Go p.tables e below _ (T41.setTop (mkF m 131 #[.val (.int p0), .val (.long p1), .second, .val (.long p2), .second, .val (.int (kk.toInt32)), .val (.long (own_mask (own_min (kk.toInt32) (64 : Int32)))), .second, .val (.long (own_mask (own_max ((kk.toInt32) - (64 : Int32)) (0 : Int32)))), .second, .val (.long x0), .second, .val (.long x1), .second, .val (.ref b31), .val (.ref b35), .unset, .unset, .unset, .unset, .unset] [(.ref b35)]))
      obtain ⟨v42, T42, h42, X42, q42, st42⟩ := X41.callV hx hZ (y := (⟨"com/example/bitstrata/bitstrata/bitmap/BitVector", "words", "()[J"⟩ : MethodName)) (z := (⟨"com/example/bitstrata/bitstrata/bitmap/BitVector", "words", "()[J"⟩ : MethodName)) hown (tw hw 36 rfl) (tw hw 37 rfl) (notFace_of_selects (args := #[]) (mvT hZ (tw hw 39 rfl))) (tw hw 39 rfl) (tw hw 38 rfl) (tw hw 15 rfl) (tw hw 40 rfl) (by decide) (rm8 l Z a0 hw [] b35 b31 h39 n0 Zs40 f40_411) f40_409 (g := (mkF m 131 #[.val (.int p0), .val (.long p1), .second, .val (.long p2), .second, .val (.int (kk.toInt32)), .val (.long (own_mask (own_min (kk.toInt32) (64 : Int32)))), .second, .val (.long (own_mask (own_max ((kk.toInt32) - (64 : Int32)) (0 : Int32)))), .second, .val (.long x0), .second, .val (.long x1), .second, .val (.ref b31), .val (.ref b35), .unset, .unset, .unset, .unset, .unset] [(.ref b35)])) rfl (by rw [hml]; rfl) (argsL := []) (rest := []) (lenOf pd5 rfl) rfl (hb hby at_131) rfl (by decide) (Nat.le_of_ble_eq_true rfl) (k' := 2) (n' := 3) rfl rfl (by decide) (by decide)
      refine Go.by st42 ?_
      obtain ⟨rfl, rfl⟩ := q42
      show Go p.tables e below _ (T42.setTop (mkF m 134 #[.val (.int p0), .val (.long p1), .second, .val (.long p2), .second, .val (.int (kk.toInt32)), .val (.long (own_mask (own_min (kk.toInt32) (64 : Int32)))), .second, .val (.long (own_mask (own_max ((kk.toInt32) - (64 : Int32)) (0 : Int32)))), .second, .val (.long x0), .second, .val (.long x1), .second, .val (.ref b31), .val (.ref b35), .unset, .unset, .unset, .unset, .unset] [(.ref b31)]))
      refine Go.by (fun _ => XS.astore X42.here hx rfl (hb hby at_134) rfl rfl (l' := #[.val (.int p0), .val (.long p1), .second, .val (.long p2), .second, .val (.int (kk.toInt32)), .val (.long (own_mask (own_min (kk.toInt32) (64 : Int32)))), .second, .val (.long (own_mask (own_max ((kk.toInt32) - (64 : Int32)) (0 : Int32)))), .second, .val (.long x0), .second, .val (.long x1), .second, .val (.ref b31), .val (.ref b35), .val (.ref b31), .unset, .unset, .unset, .unset]) rfl) ?_
      show Go p.tables e below _ (T42.setTop (mkF m 136 #[.val (.int p0), .val (.long p1), .second, .val (.long p2), .second, .val (.int (kk.toInt32)), .val (.long (own_mask (own_min (kk.toInt32) (64 : Int32)))), .second, .val (.long (own_mask (own_max ((kk.toInt32) - (64 : Int32)) (0 : Int32)))), .second, .val (.long x0), .second, .val (.long x1), .second, .val (.ref b31), .val (.ref b35), .val (.ref b31), .unset, .unset, .unset, .unset] []))
      refine Go.by (fun _ => XS.aload X42.here hx rfl (hb hby at_136) rfl rfl) ?_
      show Go p.tables e below _ (T42.setTop (mkF m 138 #[.val (.int p0), .val (.long p1), .second, .val (.long p2), .second, .val (.int (kk.toInt32)), .val (.long (own_mask (own_min (kk.toInt32) (64 : Int32)))), .second, .val (.long (own_mask (own_max ((kk.toInt32) - (64 : Int32)) (0 : Int32)))), .second, .val (.long x0), .second, .val (.long x1), .second, .val (.ref b31), .val (.ref b35), .val (.ref b31), .unset, .unset, .unset, .unset] [(.ref b31)]))
      refine Go.by (X42.len hx hZ V39 (z := (1 : Int32)) rfl (g := (mkF m 138 #[.val (.int p0), .val (.long p1), .second, .val (.long p2), .second, .val (.int (kk.toInt32)), .val (.long (own_mask (own_min (kk.toInt32) (64 : Int32)))), .second, .val (.long (own_mask (own_max ((kk.toInt32) - (64 : Int32)) (0 : Int32)))), .second, .val (.long x0), .second, .val (.long x1), .second, .val (.ref b31), .val (.ref b35), .val (.ref b31), .unset, .unset, .unset, .unset] [(.ref b31)])) rfl rfl (hb hby at_138)) ?_
      show Go p.tables e below _ (T42.setTop (mkF m 139 #[.val (.int p0), .val (.long p1), .second, .val (.long p2), .second, .val (.int (kk.toInt32)), .val (.long (own_mask (own_min (kk.toInt32) (64 : Int32)))), .second, .val (.long (own_mask (own_max ((kk.toInt32) - (64 : Int32)) (0 : Int32)))), .second, .val (.long x0), .second, .val (.long x1), .second, .val (.ref b31), .val (.ref b35), .val (.ref b31), .unset, .unset, .unset, .unset] [(.int (1 : Int32))]))
      refine Go.by (fun _ => XS.aload X42.here hx rfl (hb hby at_139) rfl rfl) ?_
      show Go p.tables e below _ (T42.setTop (mkF m 141 #[.val (.int p0), .val (.long p1), .second, .val (.long p2), .second, .val (.int (kk.toInt32)), .val (.long (own_mask (own_min (kk.toInt32) (64 : Int32)))), .second, .val (.long (own_mask (own_max ((kk.toInt32) - (64 : Int32)) (0 : Int32)))), .second, .val (.long x0), .second, .val (.long x1), .second, .val (.ref b31), .val (.ref b35), .val (.ref b31), .unset, .unset, .unset, .unset] [(.ref b31), (.int (1 : Int32))]))
      refine Go.by (X42.len hx hZ V39 (z := (1 : Int32)) rfl (g := (mkF m 141 #[.val (.int p0), .val (.long p1), .second, .val (.long p2), .second, .val (.int (kk.toInt32)), .val (.long (own_mask (own_min (kk.toInt32) (64 : Int32)))), .second, .val (.long (own_mask (own_max ((kk.toInt32) - (64 : Int32)) (0 : Int32)))), .second, .val (.long x0), .second, .val (.long x1), .second, .val (.ref b31), .val (.ref b35), .val (.ref b31), .unset, .unset, .unset, .unset] [(.ref b31), (.int (1 : Int32))])) rfl rfl (hb hby at_141)) ?_
      show Go p.tables e below _ (T42.setTop (mkF m 142 #[.val (.int p0), .val (.long p1), .second, .val (.long p2), .second, .val (.int (kk.toInt32)), .val (.long (own_mask (own_min (kk.toInt32) (64 : Int32)))), .second, .val (.long (own_mask (own_max ((kk.toInt32) - (64 : Int32)) (0 : Int32)))), .second, .val (.long x0), .second, .val (.long x1), .second, .val (.ref b31), .val (.ref b35), .val (.ref b31), .unset, .unset, .unset, .unset] [(.int (1 : Int32)), (.int (1 : Int32))]))
      refine Go.by (fun _ => XS.icmpYes X42.here hx rfl (pc0 := 142) (pc' := 147) rfl (hb hby at_142) rfl (teq (by decide)).1 (by decide) (by decide)) ?_
      show Go p.tables e below _ (T42.setTop (mkF m 147 #[.val (.int p0), .val (.long p1), .second, .val (.long p2), .second, .val (.int (kk.toInt32)), .val (.long (own_mask (own_min (kk.toInt32) (64 : Int32)))), .second, .val (.long (own_mask (own_max ((kk.toInt32) - (64 : Int32)) (0 : Int32)))), .second, .val (.long x0), .second, .val (.long x1), .second, .val (.ref b31), .val (.ref b35), .val (.ref b31), .unset, .unset, .unset, .unset] []))
      refine Go.by (fun _ => XS.lload X42.here hx rfl (hb hby at_147) rfl) ?_
      show Go p.tables e below _ (T42.setTop (mkF m 149 #[.val (.int p0), .val (.long p1), .second, .val (.long p2), .second, .val (.int (kk.toInt32)), .val (.long (own_mask (own_min (kk.toInt32) (64 : Int32)))), .second, .val (.long (own_mask (own_max ((kk.toInt32) - (64 : Int32)) (0 : Int32)))), .second, .val (.long x0), .second, .val (.long x1), .second, .val (.ref b31), .val (.ref b35), .val (.ref b31), .unset, .unset, .unset, .unset] [(.long x0)]))
      refine Go.by (X42.ldc2Long hx hZ hown (tw hw 41 rfl) (g := (mkF m 149 #[.val (.int p0), .val (.long p1), .second, .val (.long p2), .second, .val (.int (kk.toInt32)), .val (.long (own_mask (own_min (kk.toInt32) (64 : Int32)))), .second, .val (.long (own_mask (own_max ((kk.toInt32) - (64 : Int32)) (0 : Int32)))), .second, .val (.long x0), .second, .val (.long x1), .second, .val (.ref b31), .val (.ref b35), .val (.ref b31), .unset, .unset, .unset, .unset] [(.long x0)])) rfl (hb hby at_149)) ?_
      show Go p.tables e below _ (T42.setTop (mkF m 152 #[.val (.int p0), .val (.long p1), .second, .val (.long p2), .second, .val (.int (kk.toInt32)), .val (.long (own_mask (own_min (kk.toInt32) (64 : Int32)))), .second, .val (.long (own_mask (own_max ((kk.toInt32) - (64 : Int32)) (0 : Int32)))), .second, .val (.long x0), .second, .val (.long x1), .second, .val (.ref b31), .val (.ref b35), .val (.ref b31), .unset, .unset, .unset, .unset] [(.long (-1 : Int64)), (.long x0)]))
      refine Go.by (fun _ => XS.lxor X42.here hx rfl (hb hby at_152) rfl) ?_
      show Go p.tables e below _ (T42.setTop (mkF m 153 #[.val (.int p0), .val (.long p1), .second, .val (.long p2), .second, .val (.int (kk.toInt32)), .val (.long (own_mask (own_min (kk.toInt32) (64 : Int32)))), .second, .val (.long (own_mask (own_max ((kk.toInt32) - (64 : Int32)) (0 : Int32)))), .second, .val (.long x0), .second, .val (.long x1), .second, .val (.ref b31), .val (.ref b35), .val (.ref b31), .unset, .unset, .unset, .unset] [(.long (x0 ^^^ (-1 : Int64)))]))
      refine Go.by (fun _ => XS.lload X42.here hx rfl (hb hby at_153) rfl) ?_
      show Go p.tables e below _ (T42.setTop (mkF m 155 #[.val (.int p0), .val (.long p1), .second, .val (.long p2), .second, .val (.int (kk.toInt32)), .val (.long (own_mask (own_min (kk.toInt32) (64 : Int32)))), .second, .val (.long (own_mask (own_max ((kk.toInt32) - (64 : Int32)) (0 : Int32)))), .second, .val (.long x0), .second, .val (.long x1), .second, .val (.ref b31), .val (.ref b35), .val (.ref b31), .unset, .unset, .unset, .unset] [(.long (own_mask (own_min (kk.toInt32) (64 : Int32)))), (.long (x0 ^^^ (-1 : Int64)))]))
      refine Go.by (fun _ => XS.land X42.here hx rfl (hb hby at_155) rfl) ?_
      show Go p.tables e below _ (T42.setTop (mkF m 156 #[.val (.int p0), .val (.long p1), .second, .val (.long p2), .second, .val (.int (kk.toInt32)), .val (.long (own_mask (own_min (kk.toInt32) (64 : Int32)))), .second, .val (.long (own_mask (own_max ((kk.toInt32) - (64 : Int32)) (0 : Int32)))), .second, .val (.long x0), .second, .val (.long x1), .second, .val (.ref b31), .val (.ref b35), .val (.ref b31), .unset, .unset, .unset, .unset] [(.long ((x0 ^^^ (-1 : Int64)) &&& (own_mask (own_min (kk.toInt32) (64 : Int32)))))]))
      refine Go.by (fun _ => XS.lstore X42.here hx rfl (hb hby at_156) rfl (l' := #[.val (.int p0), .val (.long p1), .second, .val (.long p2), .second, .val (.int (kk.toInt32)), .val (.long (own_mask (own_min (kk.toInt32) (64 : Int32)))), .second, .val (.long (own_mask (own_max ((kk.toInt32) - (64 : Int32)) (0 : Int32)))), .second, .val (.long x0), .second, .val (.long x1), .second, .val (.ref b31), .val (.ref b35), .val (.ref b31), .val (.long ((x0 ^^^ (-1 : Int64)) &&& (own_mask (own_min (kk.toInt32) (64 : Int32))))), .second, .unset, .unset]) rfl) ?_
      show Go p.tables e below _ (T42.setTop (mkF m 158 #[.val (.int p0), .val (.long p1), .second, .val (.long p2), .second, .val (.int (kk.toInt32)), .val (.long (own_mask (own_min (kk.toInt32) (64 : Int32)))), .second, .val (.long (own_mask (own_max ((kk.toInt32) - (64 : Int32)) (0 : Int32)))), .second, .val (.long x0), .second, .val (.long x1), .second, .val (.ref b31), .val (.ref b35), .val (.ref b31), .val (.long ((x0 ^^^ (-1 : Int64)) &&& (own_mask (own_min (kk.toInt32) (64 : Int32))))), .second, .unset, .unset] []))
      refine Go.by (fun _ => XS.lload X42.here hx rfl (hb hby at_158) rfl) ?_
      show Go p.tables e below _ (T42.setTop (mkF m 160 #[.val (.int p0), .val (.long p1), .second, .val (.long p2), .second, .val (.int (kk.toInt32)), .val (.long (own_mask (own_min (kk.toInt32) (64 : Int32)))), .second, .val (.long (own_mask (own_max ((kk.toInt32) - (64 : Int32)) (0 : Int32)))), .second, .val (.long x0), .second, .val (.long x1), .second, .val (.ref b31), .val (.ref b35), .val (.ref b31), .val (.long ((x0 ^^^ (-1 : Int64)) &&& (own_mask (own_min (kk.toInt32) (64 : Int32))))), .second, .unset, .unset] [(.long x1)]))
      refine Go.by (X42.ldc2Long hx hZ hown (tw hw 41 rfl) (g := (mkF m 160 #[.val (.int p0), .val (.long p1), .second, .val (.long p2), .second, .val (.int (kk.toInt32)), .val (.long (own_mask (own_min (kk.toInt32) (64 : Int32)))), .second, .val (.long (own_mask (own_max ((kk.toInt32) - (64 : Int32)) (0 : Int32)))), .second, .val (.long x0), .second, .val (.long x1), .second, .val (.ref b31), .val (.ref b35), .val (.ref b31), .val (.long ((x0 ^^^ (-1 : Int64)) &&& (own_mask (own_min (kk.toInt32) (64 : Int32))))), .second, .unset, .unset] [(.long x1)])) rfl (hb hby at_160)) ?_
      show Go p.tables e below _ (T42.setTop (mkF m 163 #[.val (.int p0), .val (.long p1), .second, .val (.long p2), .second, .val (.int (kk.toInt32)), .val (.long (own_mask (own_min (kk.toInt32) (64 : Int32)))), .second, .val (.long (own_mask (own_max ((kk.toInt32) - (64 : Int32)) (0 : Int32)))), .second, .val (.long x0), .second, .val (.long x1), .second, .val (.ref b31), .val (.ref b35), .val (.ref b31), .val (.long ((x0 ^^^ (-1 : Int64)) &&& (own_mask (own_min (kk.toInt32) (64 : Int32))))), .second, .unset, .unset] [(.long (-1 : Int64)), (.long x1)]))
      refine Go.by (fun _ => XS.lxor X42.here hx rfl (hb hby at_163) rfl) ?_
      show Go p.tables e below _ (T42.setTop (mkF m 164 #[.val (.int p0), .val (.long p1), .second, .val (.long p2), .second, .val (.int (kk.toInt32)), .val (.long (own_mask (own_min (kk.toInt32) (64 : Int32)))), .second, .val (.long (own_mask (own_max ((kk.toInt32) - (64 : Int32)) (0 : Int32)))), .second, .val (.long x0), .second, .val (.long x1), .second, .val (.ref b31), .val (.ref b35), .val (.ref b31), .val (.long ((x0 ^^^ (-1 : Int64)) &&& (own_mask (own_min (kk.toInt32) (64 : Int32))))), .second, .unset, .unset] [(.long (x1 ^^^ (-1 : Int64)))]))
      refine Go.by (fun _ => XS.lload X42.here hx rfl (hb hby at_164) rfl) ?_
      show Go p.tables e below _ (T42.setTop (mkF m 166 #[.val (.int p0), .val (.long p1), .second, .val (.long p2), .second, .val (.int (kk.toInt32)), .val (.long (own_mask (own_min (kk.toInt32) (64 : Int32)))), .second, .val (.long (own_mask (own_max ((kk.toInt32) - (64 : Int32)) (0 : Int32)))), .second, .val (.long x0), .second, .val (.long x1), .second, .val (.ref b31), .val (.ref b35), .val (.ref b31), .val (.long ((x0 ^^^ (-1 : Int64)) &&& (own_mask (own_min (kk.toInt32) (64 : Int32))))), .second, .unset, .unset] [(.long (own_mask (own_max ((kk.toInt32) - (64 : Int32)) (0 : Int32)))), (.long (x1 ^^^ (-1 : Int64)))]))
      refine Go.by (fun _ => XS.land X42.here hx rfl (hb hby at_166) rfl) ?_
      show Go p.tables e below _ (T42.setTop (mkF m 167 #[.val (.int p0), .val (.long p1), .second, .val (.long p2), .second, .val (.int (kk.toInt32)), .val (.long (own_mask (own_min (kk.toInt32) (64 : Int32)))), .second, .val (.long (own_mask (own_max ((kk.toInt32) - (64 : Int32)) (0 : Int32)))), .second, .val (.long x0), .second, .val (.long x1), .second, .val (.ref b31), .val (.ref b35), .val (.ref b31), .val (.long ((x0 ^^^ (-1 : Int64)) &&& (own_mask (own_min (kk.toInt32) (64 : Int32))))), .second, .unset, .unset] [(.long ((x1 ^^^ (-1 : Int64)) &&& (own_mask (own_max ((kk.toInt32) - (64 : Int32)) (0 : Int32)))))]))
      refine Go.by (fun _ => XS.lstore X42.here hx rfl (hb hby at_167) rfl (l' := #[.val (.int p0), .val (.long p1), .second, .val (.long p2), .second, .val (.int (kk.toInt32)), .val (.long (own_mask (own_min (kk.toInt32) (64 : Int32)))), .second, .val (.long (own_mask (own_max ((kk.toInt32) - (64 : Int32)) (0 : Int32)))), .second, .val (.long x0), .second, .val (.long x1), .second, .val (.ref b31), .val (.ref b35), .val (.ref b31), .val (.long ((x0 ^^^ (-1 : Int64)) &&& (own_mask (own_min (kk.toInt32) (64 : Int32))))), .second, .val (.long ((x1 ^^^ (-1 : Int64)) &&& (own_mask (own_max ((kk.toInt32) - (64 : Int32)) (0 : Int32))))), .second]) rfl) ?_
      show Go p.tables e below _ (T42.setTop (mkF m 169 #[.val (.int p0), .val (.long p1), .second, .val (.long p2), .second, .val (.int (kk.toInt32)), .val (.long (own_mask (own_min (kk.toInt32) (64 : Int32)))), .second, .val (.long (own_mask (own_max ((kk.toInt32) - (64 : Int32)) (0 : Int32)))), .second, .val (.long x0), .second, .val (.long x1), .second, .val (.ref b31), .val (.ref b35), .val (.ref b31), .val (.long ((x0 ^^^ (-1 : Int64)) &&& (own_mask (own_min (kk.toInt32) (64 : Int32))))), .second, .val (.long ((x1 ^^^ (-1 : Int64)) &&& (own_mask (own_max ((kk.toInt32) - (64 : Int32)) (0 : Int32))))), .second] []))
      refine Go.by (fun _ => XS.iload X42.here hx rfl (hb hby at_169) rfl) ?_
      show Go p.tables e below _ (T42.setTop (mkF m 171 #[.val (.int p0), .val (.long p1), .second, .val (.long p2), .second, .val (.int (kk.toInt32)), .val (.long (own_mask (own_min (kk.toInt32) (64 : Int32)))), .second, .val (.long (own_mask (own_max ((kk.toInt32) - (64 : Int32)) (0 : Int32)))), .second, .val (.long x0), .second, .val (.long x1), .second, .val (.ref b31), .val (.ref b35), .val (.ref b31), .val (.long ((x0 ^^^ (-1 : Int64)) &&& (own_mask (own_min (kk.toInt32) (64 : Int32))))), .second, .val (.long ((x1 ^^^ (-1 : Int64)) &&& (own_mask (own_max ((kk.toInt32) - (64 : Int32)) (0 : Int32))))), .second] [(.int (kk.toInt32))]))
      refine Go.by (fun _ => XS.ifYes X42.here hx rfl (pc0 := 171) (pc' := 176) rfl (hb hby at_171) rfl ((if0 _ _).trans (feq hc50_5).2) (by decide) (by decide)) ?_
      show Go p.tables e below _ (T42.setTop (mkF m 176 #[.val (.int p0), .val (.long p1), .second, .val (.long p2), .second, .val (.int (kk.toInt32)), .val (.long (own_mask (own_min (kk.toInt32) (64 : Int32)))), .second, .val (.long (own_mask (own_max ((kk.toInt32) - (64 : Int32)) (0 : Int32)))), .second, .val (.long x0), .second, .val (.long x1), .second, .val (.ref b31), .val (.ref b35), .val (.ref b31), .val (.long ((x0 ^^^ (-1 : Int64)) &&& (own_mask (own_min (kk.toInt32) (64 : Int32))))), .second, .val (.long ((x1 ^^^ (-1 : Int64)) &&& (own_mask (own_max ((kk.toInt32) - (64 : Int32)) (0 : Int32))))), .second] []))
      refine Go.by (fun _ => XS.aload X42.here hx rfl (hb hby at_176) rfl rfl) ?_
      show Go p.tables e below _ (T42.setTop (mkF m 178 #[.val (.int p0), .val (.long p1), .second, .val (.long p2), .second, .val (.int (kk.toInt32)), .val (.long (own_mask (own_min (kk.toInt32) (64 : Int32)))), .second, .val (.long (own_mask (own_max ((kk.toInt32) - (64 : Int32)) (0 : Int32)))), .second, .val (.long x0), .second, .val (.long x1), .second, .val (.ref b31), .val (.ref b35), .val (.ref b31), .val (.long ((x0 ^^^ (-1 : Int64)) &&& (own_mask (own_min (kk.toInt32) (64 : Int32))))), .second, .val (.long ((x1 ^^^ (-1 : Int64)) &&& (own_mask (own_max ((kk.toInt32) - (64 : Int32)) (0 : Int32))))), .second] [(.ref b31)]))
      refine Go.by (fun _ => XS.iconst X42.here hx rfl (hb hby at_178)) ?_
      show Go p.tables e below _ (T42.setTop (mkF m 179 #[.val (.int p0), .val (.long p1), .second, .val (.long p2), .second, .val (.int (kk.toInt32)), .val (.long (own_mask (own_min (kk.toInt32) (64 : Int32)))), .second, .val (.long (own_mask (own_max ((kk.toInt32) - (64 : Int32)) (0 : Int32)))), .second, .val (.long x0), .second, .val (.long x1), .second, .val (.ref b31), .val (.ref b35), .val (.ref b31), .val (.long ((x0 ^^^ (-1 : Int64)) &&& (own_mask (own_min (kk.toInt32) (64 : Int32))))), .second, .val (.long ((x1 ^^^ (-1 : Int64)) &&& (own_mask (own_max ((kk.toInt32) - (64 : Int32)) (0 : Int32))))), .second] [(.int (0 : Int32)), (.ref b31)]))
      refine Go.by (X42.ldJ hx hZ V39 (by decide) (i := 0) rfl (by decide) (v := (.long (own_n (kk.toInt32) x0))) rfl (g := (mkF m 179 #[.val (.int p0), .val (.long p1), .second, .val (.long p2), .second, .val (.int (kk.toInt32)), .val (.long (own_mask (own_min (kk.toInt32) (64 : Int32)))), .second, .val (.long (own_mask (own_max ((kk.toInt32) - (64 : Int32)) (0 : Int32)))), .second, .val (.long x0), .second, .val (.long x1), .second, .val (.ref b31), .val (.ref b35), .val (.ref b31), .val (.long ((x0 ^^^ (-1 : Int64)) &&& (own_mask (own_min (kk.toInt32) (64 : Int32))))), .second, .val (.long ((x1 ^^^ (-1 : Int64)) &&& (own_mask (own_max ((kk.toInt32) - (64 : Int32)) (0 : Int32))))), .second] [(.int (0 : Int32)), (.ref b31)])) rfl rfl (hb hby at_179)) ?_
      show Go p.tables e below _ (T42.setTop (mkF m 180 #[.val (.int p0), .val (.long p1), .second, .val (.long p2), .second, .val (.int (kk.toInt32)), .val (.long (own_mask (own_min (kk.toInt32) (64 : Int32)))), .second, .val (.long (own_mask (own_max ((kk.toInt32) - (64 : Int32)) (0 : Int32)))), .second, .val (.long x0), .second, .val (.long x1), .second, .val (.ref b31), .val (.ref b35), .val (.ref b31), .val (.long ((x0 ^^^ (-1 : Int64)) &&& (own_mask (own_min (kk.toInt32) (64 : Int32))))), .second, .val (.long ((x1 ^^^ (-1 : Int64)) &&& (own_mask (own_max ((kk.toInt32) - (64 : Int32)) (0 : Int32))))), .second] [(.long (own_n (kk.toInt32) x0))]))
      refine Go.by (fun _ => XS.lload X42.here hx rfl (hb hby at_180) rfl) ?_
      show Go p.tables e below _ (T42.setTop (mkF m 182 #[.val (.int p0), .val (.long p1), .second, .val (.long p2), .second, .val (.int (kk.toInt32)), .val (.long (own_mask (own_min (kk.toInt32) (64 : Int32)))), .second, .val (.long (own_mask (own_max ((kk.toInt32) - (64 : Int32)) (0 : Int32)))), .second, .val (.long x0), .second, .val (.long x1), .second, .val (.ref b31), .val (.ref b35), .val (.ref b31), .val (.long ((x0 ^^^ (-1 : Int64)) &&& (own_mask (own_min (kk.toInt32) (64 : Int32))))), .second, .val (.long ((x1 ^^^ (-1 : Int64)) &&& (own_mask (own_max ((kk.toInt32) - (64 : Int32)) (0 : Int32))))), .second] [(.long ((x0 ^^^ (-1 : Int64)) &&& (own_mask (own_min (kk.toInt32) (64 : Int32))))), (.long (own_n (kk.toInt32) x0))]))
      refine Go.by (fun _ => XS.lcmp X42.here hx rfl (hb hby at_182) rfl) ?_
      show Go p.tables e below _ (T42.setTop (mkF m 183 #[.val (.int p0), .val (.long p1), .second, .val (.long p2), .second, .val (.int (kk.toInt32)), .val (.long (own_mask (own_min (kk.toInt32) (64 : Int32)))), .second, .val (.long (own_mask (own_max ((kk.toInt32) - (64 : Int32)) (0 : Int32)))), .second, .val (.long x0), .second, .val (.long x1), .second, .val (.ref b31), .val (.ref b35), .val (.ref b31), .val (.long ((x0 ^^^ (-1 : Int64)) &&& (own_mask (own_min (kk.toInt32) (64 : Int32))))), .second, .val (.long ((x1 ^^^ (-1 : Int64)) &&& (own_mask (own_max ((kk.toInt32) - (64 : Int32)) (0 : Int32))))), .second] [(.int (lcmpW (own_n (kk.toInt32) x0) ((x0 ^^^ (-1 : Int64)) &&& (own_mask (own_min (kk.toInt32) (64 : Int32))))))]))
      refine Go.by (fun _ => XS.ifYes X42.here hx rfl (pc0 := 183) (pc' := 188) rfl (hb hby at_183) rfl ((if0 _ _).trans (teq ((lw_eq _ _).mpr (own_fin (own_A1 kk hk (own_k0 hc50_5) (own_k64 hk hc65_16))))).1) (by decide) (by decide)) ?_
      show Go p.tables e below _ (T42.setTop (mkF m 188 #[.val (.int p0), .val (.long p1), .second, .val (.long p2), .second, .val (.int (kk.toInt32)), .val (.long (own_mask (own_min (kk.toInt32) (64 : Int32)))), .second, .val (.long (own_mask (own_max ((kk.toInt32) - (64 : Int32)) (0 : Int32)))), .second, .val (.long x0), .second, .val (.long x1), .second, .val (.ref b31), .val (.ref b35), .val (.ref b31), .val (.long ((x0 ^^^ (-1 : Int64)) &&& (own_mask (own_min (kk.toInt32) (64 : Int32))))), .second, .val (.long ((x1 ^^^ (-1 : Int64)) &&& (own_mask (own_max ((kk.toInt32) - (64 : Int32)) (0 : Int32))))), .second] []))
      refine Go.by (fun _ => XS.iload X42.here hx rfl (hb hby at_188) rfl) ?_
      show Go p.tables e below _ (T42.setTop (mkF m 190 #[.val (.int p0), .val (.long p1), .second, .val (.long p2), .second, .val (.int (kk.toInt32)), .val (.long (own_mask (own_min (kk.toInt32) (64 : Int32)))), .second, .val (.long (own_mask (own_max ((kk.toInt32) - (64 : Int32)) (0 : Int32)))), .second, .val (.long x0), .second, .val (.long x1), .second, .val (.ref b31), .val (.ref b35), .val (.ref b31), .val (.long ((x0 ^^^ (-1 : Int64)) &&& (own_mask (own_min (kk.toInt32) (64 : Int32))))), .second, .val (.long ((x1 ^^^ (-1 : Int64)) &&& (own_mask (own_max ((kk.toInt32) - (64 : Int32)) (0 : Int32))))), .second] [(.int (kk.toInt32))]))
      refine Go.by (fun _ => XS.bipush X42.here hx rfl (hb hby at_190)) ?_
      show Go p.tables e below _ (T42.setTop (mkF m 192 #[.val (.int p0), .val (.long p1), .second, .val (.long p2), .second, .val (.int (kk.toInt32)), .val (.long (own_mask (own_min (kk.toInt32) (64 : Int32)))), .second, .val (.long (own_mask (own_max ((kk.toInt32) - (64 : Int32)) (0 : Int32)))), .second, .val (.long x0), .second, .val (.long x1), .second, .val (.ref b31), .val (.ref b35), .val (.ref b31), .val (.long ((x0 ^^^ (-1 : Int64)) &&& (own_mask (own_min (kk.toInt32) (64 : Int32))))), .second, .val (.long ((x1 ^^^ (-1 : Int64)) &&& (own_mask (own_max ((kk.toInt32) - (64 : Int32)) (0 : Int32))))), .second] [(.int (64 : Int32)), (.int (kk.toInt32))]))
      refine Go.by (fun _ => XS.icmpNo X42.here hx rfl (hb hby at_192) rfl (flt hc65_16).2.2.1) ?_
      show Go p.tables e below _ (T42.setTop (mkF m 195 #[.val (.int p0), .val (.long p1), .second, .val (.long p2), .second, .val (.int (kk.toInt32)), .val (.long (own_mask (own_min (kk.toInt32) (64 : Int32)))), .second, .val (.long (own_mask (own_max ((kk.toInt32) - (64 : Int32)) (0 : Int32)))), .second, .val (.long x0), .second, .val (.long x1), .second, .val (.ref b31), .val (.ref b35), .val (.ref b31), .val (.long ((x0 ^^^ (-1 : Int64)) &&& (own_mask (own_min (kk.toInt32) (64 : Int32))))), .second, .val (.long ((x1 ^^^ (-1 : Int64)) &&& (own_mask (own_max ((kk.toInt32) - (64 : Int32)) (0 : Int32))))), .second] []))
      refine Go.by (fun _ => XS.iconst X42.here hx rfl (hb hby at_195)) ?_
      show Go p.tables e below _ (T42.setTop (mkF m 196 #[.val (.int p0), .val (.long p1), .second, .val (.long p2), .second, .val (.int (kk.toInt32)), .val (.long (own_mask (own_min (kk.toInt32) (64 : Int32)))), .second, .val (.long (own_mask (own_max ((kk.toInt32) - (64 : Int32)) (0 : Int32)))), .second, .val (.long x0), .second, .val (.long x1), .second, .val (.ref b31), .val (.ref b35), .val (.ref b31), .val (.long ((x0 ^^^ (-1 : Int64)) &&& (own_mask (own_min (kk.toInt32) (64 : Int32))))), .second, .val (.long ((x1 ^^^ (-1 : Int64)) &&& (own_mask (own_max ((kk.toInt32) - (64 : Int32)) (0 : Int32))))), .second] [(.int (1 : Int32))]))
      exact Go.retN X42 hx hlk (z' := (1 : Int32)) hret (by simp) (hb hby at_196) rfl (by decide) (by decide) rfl
set_option maxRecDepth 65536 in
set_option maxHeartbeats 40000000 in
theorem comes_1 {Post : Tables → Env → Array Value → State → Outcome → State → Prop} (hpost : ∀ tb e args s v u, (limb_1_1.after args s (.returned v) u = true ∧ limb_1_2.after args s (.returned v) u = true ∧ True) → FrameEnd s (.returned v) u (Jvm.fieldLocs frame_1_writes args s ++ Jvm.arrayLocs frame_1_arrays args s ++ Jvm.staticLocs frame_1_statics s) 16 128 → Post tb e args s (.returned v) u) :
    ArmFor flags0 classFile x code maxLocals ret World_1 tables_1 room_1 Calls_1 rest_1 Pre_1 Post := by
  intro l hfl _ _ p e ha hc hk s m args below hf hA hF happ hP
  obtain ⟨hcalls, hrest, hpre⟩ := hP
  obtain ⟨-, -, -, hnamed, -, -, -, hat⟩ := (Spec.applies_iff hf).mp happ
  obtain ⟨hg, hn⟩ := and_e (Cond.before_iff.mp (show (Jvm.Cond.and given_1 narrow_1).before args s = true from hpre))
  obtain ⟨gc, gr0⟩ := and_e hg
  obtain ⟨ga0, gr1⟩ := and_e gr0
  obtain ⟨ga1, ga2⟩ := and_e gr1
  obtain ⟨w0, w1, w2, rfl⟩ : ∃ w0 w1 w2 : Value, args = #[w0, w1, w2] := by
    have hs : args.size = 3 := by simpa [Cond.value, given_1] using gc
    obtain ⟨L⟩ := args
    match L, hs with
    | [w0, w1, w2], _ => exact ⟨w0, w1, w2, rfl⟩
  have hw := fun d (hd : d ∈ tables_1) => atoms_spec (ws := Jvm.Cond.code x code maxLocals ret :: tables_1) hat d (List.mem_cons_of_mem _ hd)
  have hfit : Fit s := fun {y c} hc i hi => by
    obtain ⟨ha, rfl⟩ := Array.getElem?_eq_some_iff.mp hc
    have q := List.all_eq_true.mp ((Array.all_eq_true_iff_forall_mem.mp hF) _ (Array.getElem_mem ha)) i (List.mem_range.mpr hi)
    simpa [Array.getElem?_eq_getElem hi] using q
  obtain ⟨i0, ei0⟩ := is_v ga0
  obtain rfl : w0 = (.int i0) := Option.some.inj ei0
  obtain ⟨i1, ei1⟩ := isL_v ga1
  obtain rfl : w1 = (.long i1) := Option.some.inj ei1
  obtain ⟨i2, ei2⟩ := isL_v ga2
  obtain rfl : w2 = (.long i2) := Option.some.inj ei2
  obtain ⟨n, o, h1, h2, h3, _, L, rfl, ⟨rfl, N⟩, hq⟩ := rm0 l s _ hw tables_1 i0 i1 i2 s.heap s.heap.size (Nat.le_refl _) p e ha hc hk s m _ below hf ((Spec.applies_iff_loose hf).mp happ).1 ⟨rfl, State.Warmed39.refl s, rfl⟩ trivial
  refine ⟨n, _, h1, h2, h3, hpost _ _ _ _ _ _ ⟨Cond.after_iff.mpr rfl, Cond.after_iff.mpr (eq_i res_at (Term.int_eval (1)) rfl), trivial⟩ ⟨hq.1, hq.2.1, (hq.2.2.sift fun y hy => Or.inr (N y hy)).mono (by decide) (by decide)⟩⟩
theorem main_1_1 : Claimed_1_1 := comes_1 fun _ _ _ _ _ _ h hF => ⟨h.1, hF⟩
theorem main_1_2 : Claimed_1_2 := comes_1 fun _ _ _ _ _ _ h hF => ⟨h.2.1, hF⟩
end Jvm.Pilot.@@N@@
namespace Jvm.Pilot.@@N@@
open Jvm Jvm.ClassFile Sem Op Lib Jvm.Free Jvm.Stand Jvm.Pilot.@@N@@.Jvm.D
/-! MADE BY PROGRAM (witnessworld.py) out of the Statement's table words and the real class files: 13 classes; the members and pool entries that the words name. The judged class is class 1, her method 1. -/
namespace start1
open Jvm.ClassFile
def u (s : String) : CpInfo := .utf8 (stringToUtf16 s)
/-- a pool by its gaps: so many unusable entries, then the entry; so many at the end -/
def gap : Nat → List CpInfo → List CpInfo
  | 0, r => r
  | n + 1, r => .unusable :: gap n r
def poolList (es : List (Nat × CpInfo)) (last : Nat) : List CpInfo := es.foldr (fun e r => gap e.1 (e.2 :: r)) (gap last [])
def pool (es : List (Nat × CpInfo)) (last : Nat) : Array CpInfo := ⟨poolList es last⟩
def fileOf (pool : Array CpInfo) (this : Nat) (attrs : Array Attribute := #[]) (ms : Array MethodInfo := #[]) (fl : Nat := 33) (sup : Nat := 0) (ifs : Array Nat := #[]) (fds : Array FieldInfo := #[]) : ClassFile where
  minorVersion := 0
  majorVersion := 65
  constantPool := pool
  accessFlags := fl
  thisClass := this
  superClass := sup
  interfaces := ifs
  fields := fds
  methods := ms
  attributes := attrs
def plain (name : String) (sup : Option ClassId) : Class where
  name := name
  kind := .ordinary
  loader := none
  accessFlags := 33
  super := sup
  interfaces := #[]
  cf := none
  fields := #[]
  methods := #[]
  instanceTypes := #[]
  staticTypes := #[]
  resolved := #[]
  callSites := []
  init := .initialized
  statics := none
  mirror := none

def pool0 : Array CpInfo := pool [(5, u "<init>"), (0, u "()V"), (1, .class_ 10), (1, u "java/lang/Object")] 113

def k0c0 : Code := { maxStack := 0, maxLocals := 1, code := object_method_1_code, exceptionTable := #[], attributes := #[] }
def k0m0 : Method := { name := "<init>", desc := "()V", sig := { parameters := [], returnType := none }, accessFlags := 1, code := some k0c0 }
/-- java/lang/Object -/
def k0 : Class := { plain "java/lang/Object" none with
  accessFlags := 33
  interfaces := #[]
  cf := some (fileOf pool0 8 #[] #[{ accessFlags := 1, nameIndex := 5, descriptorIndex := 6, attributes := #[] }] 33 0 #[] #[])
  fields := #[]
  methods := #[k0m0]
  instanceTypes := #[]
  staticTypes := #[]
  resolved := Array.replicate 124 none
  statics := none }

def pool1 : Array CpInfo := pool [(2, .class_ 4), (1, u "java/lang/Object"), (0, u "<init>"), (0, u "()V"), (0, .integer 2147483647), (0, .methodref 9 10), (0, .class_ 11), (0, .nameAndType 12 13), (0, u "java/lang/Math"), (0, u "min"), (0, u "(II)I"), (0, .methodref 15 16), (0, .class_ 17), (0, .nameAndType 18 19), (0, u "com/example/bitstrata/bitstrata/bitmap/BitVectorNotPinLaw"), (0, u "lowMask"), (0, u "(I)J"), (0, .methodref 9 21), (0, .nameAndType 22 13), (0, u "max"), (0, .class_ 24), (0, u "com/example/bitstrata/bitstrata/bitmap/BitVector"), (0, .methodref 23 26), (0, .nameAndType 5 27), (0, u "(I[J)V"), (0, .methodref 23 29), (0, .nameAndType 30 6), (0, u "not"), (0, .methodref 23 32), (0, .nameAndType 33 34), (0, u "length"), (0, u "()I"), (0, .methodref 23 36), (0, .nameAndType 37 38), (0, u "words"), (0, u "()[J"), (0, .long 18446744073709551615), (3, u "law"), (0, u "(IJJ)Z")] 5

def k1m0 : Method := { name := "<init>", desc := "()V", sig := { parameters := [], returnType := none }, accessFlags := 1, code := none }
def k1c1 : Code := { maxStack := 4, maxLocals := 21, code := code, exceptionTable := #[], attributes := #[] }
def k1m1 : Method := { name := "law", desc := "(IJJ)Z", sig := { parameters := [.int, .long, .long], returnType := some .boolean }, accessFlags := 9, code := some k1c1 }
def k1c2 : Code := { maxStack := 4, maxLocals := 1, code := method_3_code, exceptionTable := #[], attributes := #[] }
def k1m2 : Method := { name := "lowMask", desc := "(I)J", sig := { parameters := [.int], returnType := some .long }, accessFlags := 10, code := some k1c2 }
/-- com/example/bitstrata/bitstrata/bitmap/BitVectorNotPinLaw -/
def k1 : Class := { plain "com/example/bitstrata/bitstrata/bitmap/BitVectorNotPinLaw" (some 0) with
  accessFlags := 49
  interfaces := #[]
  cf := some (fileOf pool1 15 #[] #[{ accessFlags := 1, nameIndex := 5, descriptorIndex := 6, attributes := #[] }, { accessFlags := 9, nameIndex := 43, descriptorIndex := 44, attributes := #[] }, { accessFlags := 10, nameIndex := 18, descriptorIndex := 19, attributes := #[] }] 49 2 #[] #[])
  fields := #[]
  methods := #[k1m0, k1m1, k1m2]
  instanceTypes := #[]
  staticTypes := #[]
  resolved := Array.replicate 50 none
  statics := none }

def pool2 : Array CpInfo := pool [(1, .class_ 2), (0, u "java/lang/Math"), (1, .class_ 6), (1, u "java/lang/Object"), (0, u "<init>"), (0, u "()V"), (89, .class_ 100), (1, u "java/lang/Math$RandomNumberGeneratorHolder"), (71, u "negativeZeroFloatBits"), (0, u "J"), (2, u "negativeZeroDoubleBits"), (21, u "max"), (2, u "min"), (43, u "$assertionsDisabled"), (0, u "Z"), (88, u "(II)I"), (2, u "twoToTheDoubleScaleDown"), (0, u "D"), (4, u "twoToTheDoubleScaleUp"), (9, u "E"), (3, u "PI"), (2, u "TAU"), (2, u "DEGREES_TO_RADIANS"), (0, u "RADIANS_TO_DEGREES")] 94

def k2m0 : Method := { name := "<init>", desc := "()V", sig := { parameters := [], returnType := none }, accessFlags := 2, code := none }
def k2c1 : Code := { maxStack := 2, maxLocals := 2, code := jdk_29_method_65_code, exceptionTable := #[], attributes := #[] }
def k2m1 : Method := { name := "max", desc := "(II)I", sig := { parameters := [.int, .int], returnType := some .int }, accessFlags := 9, code := some k2c1 }
def k2c2 : Code := { maxStack := 2, maxLocals := 2, code := jdk_29_method_69_code, exceptionTable := #[], attributes := #[] }
def k2m2 : Method := { name := "min", desc := "(II)I", sig := { parameters := [.int, .int], returnType := some .int }, accessFlags := 9, code := some k2c2 }
/-- java/lang/Math -/
def k2 : Class := { plain "java/lang/Math" (some 0) with
  accessFlags := 49
  interfaces := #[]
  cf := some (fileOf pool2 1 #[.nestMembers #[98]] #[{ accessFlags := 2, nameIndex := 7, descriptorIndex := 8, attributes := #[] }, { accessFlags := 9, nameIndex := 198, descriptorIndex := 335, attributes := #[] }, { accessFlags := 9, nameIndex := 201, descriptorIndex := 335, attributes := #[] }] 49 4 #[] #[{ accessFlags := 25, nameIndex := 354, descriptorIndex := 339, attributes := #[] }, { accessFlags := 25, nameIndex := 358, descriptorIndex := 339, attributes := #[] }, { accessFlags := 25, nameIndex := 361, descriptorIndex := 339, attributes := #[] }, { accessFlags := 26, nameIndex := 364, descriptorIndex := 339, attributes := #[] }, { accessFlags := 26, nameIndex := 365, descriptorIndex := 339, attributes := #[] }, { accessFlags := 26, nameIndex := 172, descriptorIndex := 173, attributes := #[] }, { accessFlags := 26, nameIndex := 176, descriptorIndex := 173, attributes := #[] }, { accessFlags := 8, nameIndex := 344, descriptorIndex := 339, attributes := #[] }, { accessFlags := 8, nameIndex := 338, descriptorIndex := 339, attributes := #[] }, { accessFlags := 4120, nameIndex := 245, descriptorIndex := 246, attributes := #[] }])
  fields := #[{ name := "E", type := .double, accessFlags := 25, slot := 0, constantValue := 0 }, { name := "PI", type := .double, accessFlags := 25, slot := 1, constantValue := 0 }, { name := "TAU", type := .double, accessFlags := 25, slot := 2, constantValue := 0 }, { name := "DEGREES_TO_RADIANS", type := .double, accessFlags := 26, slot := 3, constantValue := 0 }, { name := "RADIANS_TO_DEGREES", type := .double, accessFlags := 26, slot := 4, constantValue := 0 }, { name := "negativeZeroFloatBits", type := .long, accessFlags := 26, slot := 5, constantValue := 0 }, { name := "negativeZeroDoubleBits", type := .long, accessFlags := 26, slot := 6, constantValue := 0 }, { name := "twoToTheDoubleScaleUp", type := .double, accessFlags := 8, slot := 7, constantValue := 0 }, { name := "twoToTheDoubleScaleDown", type := .double, accessFlags := 8, slot := 8, constantValue := 0 }, { name := "$assertionsDisabled", type := .boolean, accessFlags := 4120, slot := 9, constantValue := 0 }]
  methods := #[k2m0, k2m1, k2m2]
  instanceTypes := #[]
  staticTypes := #[.double, .double, .double, .double, .double, .long, .long, .double, .double, .boolean]
  resolved := Array.replicate 460 none
  statics := none }

def pool3 : Array CpInfo := pool [(1, .class_ 2), (0, u "com/example/bitstrata/bitstrata/bitmap/Bitmap"), (0, .class_ 4), (0, u "java/lang/Object")] 21

/-- com/example/bitstrata/bitstrata/bitmap/Bitmap -/
def k3 : Class := { plain "com/example/bitstrata/bitstrata/bitmap/Bitmap" (some 0) with
  accessFlags := 1537
  interfaces := #[]
  cf := some (fileOf pool3 1 #[] #[] 1537 3 #[] #[])
  fields := #[]
  methods := #[]
  instanceTypes := #[]
  staticTypes := #[]
  resolved := Array.replicate 26 none
  statics := none }

def pool4 : Array CpInfo := pool [(1, .methodref 2 3), (0, .class_ 4), (0, .nameAndType 5 6), (0, u "java/lang/Object"), (0, u "<init>"), (0, u "()V"), (9, .fieldref 17 18), (0, .class_ 19), (0, .nameAndType 20 21), (0, u "com/example/bitstrata/bitstrata/bitmap/BitVector"), (0, u "length"), (0, u "I"), (4, .fieldref 17 27), (0, .nameAndType 28 29), (0, u "words"), (0, u "[J"), (9, .class_ 41), (1, u "com/example/bitstrata/bitstrata/bitmap/Bitmap"), (13, .long 18446744073709551615), (25, u "(I[J)V"), (14, u "()[J"), (0, u "()I"), (11, u "not")] 20

def k4c0 : Code := { maxStack := 2, maxLocals := 3, code := prog_4_method_2_code, exceptionTable := #[], attributes := #[] }
def k4m0 : Method := { name := "<init>", desc := "(I[J)V", sig := { parameters := [.int, (.array .long)], returnType := none }, accessFlags := 0, code := some k4c0 }
def k4c1 : Code := { maxStack := 1, maxLocals := 1, code := prog_4_method_7_code, exceptionTable := #[], attributes := #[] }
def k4m1 : Method := { name := "words", desc := "()[J", sig := { parameters := [], returnType := some (.array .long) }, accessFlags := 0, code := some k4c1 }
def k4c2 : Code := { maxStack := 1, maxLocals := 1, code := prog_4_method_8_code, exceptionTable := #[], attributes := #[] }
def k4m2 : Method := { name := "length", desc := "()I", sig := { parameters := [], returnType := some .int }, accessFlags := 1, code := some k4c2 }
def k4c3 : Code := { maxStack := 8, maxLocals := 2, code := prog_4_method_18_code, exceptionTable := #[], attributes := #[] }
def k4m3 : Method := { name := "not", desc := "()V", sig := { parameters := [], returnType := none }, accessFlags := 1, code := some k4c3 }
/-- com/example/bitstrata/bitstrata/bitmap/BitVector -/
def k4 : Class := { plain "com/example/bitstrata/bitstrata/bitmap/BitVector" (some 0) with
  accessFlags := 49
  interfaces := #[3]
  cf := some (fileOf pool4 17 #[] #[{ accessFlags := 0, nameIndex := 5, descriptorIndex := 81, attributes := #[] }, { accessFlags := 0, nameIndex := 28, descriptorIndex := 96, attributes := #[] }, { accessFlags := 1, nameIndex := 20, descriptorIndex := 97, attributes := #[] }, { accessFlags := 1, nameIndex := 109, descriptorIndex := 6, attributes := #[] }] 49 2 #[39] #[{ accessFlags := 18, nameIndex := 20, descriptorIndex := 21, attributes := #[] }, { accessFlags := 18, nameIndex := 28, descriptorIndex := 29, attributes := #[] }])
  fields := #[{ name := "length", type := .int, accessFlags := 18, slot := 0, constantValue := 0 }, { name := "words", type := (.array .long), accessFlags := 18, slot := 1, constantValue := 0 }]
  methods := #[k4m0, k4m1, k4m2, k4m3]
  instanceTypes := #[.int, (.array .long)]
  staticTypes := #[]
  resolved := Array.replicate 130 none
  statics := none }

def pool5 : Array CpInfo := pool [(1, u "java/lang/Cloneable"), (0, .class_ 1), (0, u "java/lang/Object"), (0, .class_ 3)] 3

/-- java/lang/Cloneable -/
def k5 : Class := { plain "java/lang/Cloneable" (some 0) with
  accessFlags := 1537
  interfaces := #[]
  cf := some (fileOf pool5 2 #[] #[] 1537 4 #[] #[])
  fields := #[]
  methods := #[]
  instanceTypes := #[]
  staticTypes := #[]
  resolved := Array.replicate 8 none
  statics := none }

def pool6 : Array CpInfo := pool [(1, u "java/io/Serializable"), (0, .class_ 1), (0, u "java/lang/Object"), (0, .class_ 3)] 3

/-- java/io/Serializable -/
def k6 : Class := { plain "java/io/Serializable" (some 0) with
  accessFlags := 1537
  interfaces := #[]
  cf := some (fileOf pool6 2 #[] #[] 1537 4 #[] #[])
  fields := #[]
  methods := #[]
  instanceTypes := #[]
  staticTypes := #[]
  resolved := Array.replicate 8 none
  statics := none }

/-- the primitive byte -/
def k7 : Class := { plain "byte" none with kind := .primitive 'B', accessFlags := 0x411 }
/-- [B -/
def k8 : Class := { plain "[B" (some 0) with kind := .array 7 .byte, interfaces := #[5, 6], accessFlags := 1041 }

/-- the primitive int -/
def k9 : Class := { plain "int" none with kind := .primitive 'I', accessFlags := 0x411 }
/-- [I -/
def k10 : Class := { plain "[I" (some 0) with kind := .array 9 .int, interfaces := #[5, 6], accessFlags := 1041 }

/-- the primitive long -/
def k11 : Class := { plain "long" none with kind := .primitive 'J', accessFlags := 0x411 }
/-- [J -/
def k12 : Class := { plain "[J" (some 0) with kind := .array 11 .long, interfaces := #[5, 6], accessFlags := 1041 }

def heap : Heap := #[]
def classes : Array Class := #[k0, k1, k2, k3, k4, k5, k6, k7, k8, k9, k10, k11, k12]
def interned : List (Array UInt16 × Addr) := []
def slotsUsed : Nat := 0
def theMethod : MethodId := ⟨1, 1⟩
def args0 : Array Value := #[.int 5, .long 7, .long 8]
def aboutOver (below : List Frame) : State where
  vm := { classes := classes, interned := interned.toArray }
  heap := heap
  slotsUsed := slotsUsed
  threads := #[{ frames := .invoking theMethod args0 :: below }]
def below0 : List Frame := [.native { method := ⟨0, 0⟩, args := #[] }]
def about1 : State := aboutOver below0
def p0 : Program := .bare "" "" ""
def e0 : Env := launch0.env 0 0 0
theorem w_frames : about1.frames = Frame.invoking theMethod args0 :: below0 := rfl
set_option maxRecDepth 65536 in
theorem w_args : argsFit about1.vm theMethod args0 = true := by decide +kernel
set_option maxRecDepth 65536 in
theorem w_heap : heapFits about1 = true := by decide +kernel
set_option maxRecDepth 65536 in
theorem w_runnable : about1.curStatus? = some .runnable := by decide +kernel
set_option maxRecDepth 65536 in
theorem w_alone : about1.alone = true := by decide +kernel
set_option maxRecDepth 65536 in
theorem w_named : about1.methodNamed? x = some theMethod := by decide +kernel
set_option maxRecDepth 65536 in
theorem w_hears : about1.hears theMethod below0 = true := by decide +kernel
set_option maxRecDepth 65536 in
theorem w_ripe : about1.ripe theMethod args0 below0 = true := by decide +kernel
theorem w_running : about1.status = .running := rfl
set_option maxRecDepth 65536 in
theorem w_room : about1.hasRoom e0.platform room_1 = true :=
  launch0.hasRoom_least _ room_1 (by decide +kernel) (by decide +kernel) (by decide +kernel) (by decide +kernel) (by decide +kernel) (by decide +kernel)
theorem allAtoms_all (ts : List Jvm.Cond) (a : Array Jvm.Value) (st : Jvm.State) : (allAtoms ts).before a st = ts.all (fun c => c.before a st) := by
  induction ts with
  | nil => rfl
  | cons c t ih =>
    show (Jvm.Cond.and c (allAtoms t)).before a st = _
    rw [Jvm.Cond.before_and, ih, List.all_cons]
def words1 : List Jvm.Cond := Jvm.Cond.code x code maxLocals ret :: tables_1
/-- a 'code' word, met by the world's own term for the bytes: nothing is compared byte by byte -/
theorem code_word {y : MethodName} {bytes : ByteArray} {mx : Nat} {rt : Option FieldType} {a : Array Value} {s : State} {m : MethodId} {meth : Method} {c : Code} (h1 : s.methodNamed? y = some m) (h2 : s.vm.method? m = some meth) (h3 : meth.code = some c) (h4 : c.code = bytes)
    (h5 : (c.maxLocals == mx && c.exceptionTable.isEmpty && decide (c.maxStack ≤ mostOperands) && decide (meth.sig.returnType = rt) && !meth.locks && decide (parseMethodDescriptor y.desc = some meth.sig)) = true) : (Jvm.Cond.code y bytes mx rt).before a s = true := by
  simp only [Bool.and_eq_true, beq_iff_eq, Bool.not_eq_true', decide_eq_true_eq] at h5
  obtain ⟨⟨⟨⟨⟨g1, g2⟩, g3⟩, g4⟩, g5⟩, g6⟩ := h5
  simp [Cond.before, Cond.holds, Cond.value, h1, h2, h3, h4, g1, g2, g3, g4, g5, g6]
def isCode : Jvm.Cond → Bool
  | .code _ _ _ _ => true
  | _ => false
theorem all_split {L : List Jvm.Cond} {P : Jvm.Cond → Bool} (h1 : L.all (fun c => isCode c || P c) = true) (h2 : ∀ c ∈ L.filter isCode, P c = true) : L.all P = true := by
  refine List.all_eq_true.mpr fun c hc => ?_
  have h := List.all_eq_true.mp h1 c hc
  rcases Bool.eq_false_or_eq_true (isCode c) with hi | hi
  · exact h2 c (List.mem_filter.mpr ⟨hc, hi⟩)
  · simpa [hi] using h
set_option maxRecDepth 65536 in
theorem w_c0 : (Jvm.Cond.code x code maxLocals ret).before args0 about1 = true := code_word (m := ⟨1, 1⟩) (meth := k1m1) (c := k1c1) (by decide +kernel) rfl rfl rfl (by decide +kernel)
set_option maxRecDepth 65536 in
theorem w_c1 : (Jvm.Cond.code ({ cls := "java/lang/Math", name := "min", desc := "(II)I" } : Jvm.MethodName) jdk_29_method_69_code (2 : Nat) (Option.some Jvm.ClassFile.FieldType.int)).before args0 about1 = true := code_word (m := ⟨2, 2⟩) (meth := k2m2) (c := k2c2) (by decide +kernel) rfl rfl rfl (by decide +kernel)
set_option maxRecDepth 65536 in
theorem w_c2 : (Jvm.Cond.code ({ cls := "com/example/bitstrata/bitstrata/bitmap/BitVectorNotPinLaw", name := "lowMask", desc := "(I)J" } : Jvm.MethodName) method_3_code (1 : Nat) (Option.some Jvm.ClassFile.FieldType.long)).before args0 about1 = true := code_word (m := ⟨1, 2⟩) (meth := k1m2) (c := k1c2) (by decide +kernel) rfl rfl rfl (by decide +kernel)
set_option maxRecDepth 65536 in
theorem w_c3 : (Jvm.Cond.code ({ cls := "java/lang/Math", name := "max", desc := "(II)I" } : Jvm.MethodName) jdk_29_method_65_code (2 : Nat) (Option.some Jvm.ClassFile.FieldType.int)).before args0 about1 = true := code_word (m := ⟨2, 1⟩) (meth := k2m1) (c := k2c1) (by decide +kernel) rfl rfl rfl (by decide +kernel)
set_option maxRecDepth 65536 in
theorem w_c4 : (Jvm.Cond.code ({ cls := "com/example/bitstrata/bitstrata/bitmap/BitVector", name := "<init>", desc := "(I[J)V" } : Jvm.MethodName) prog_4_method_2_code (3 : Nat) (Option.none : Option Jvm.ClassFile.FieldType)).before args0 about1 = true := code_word (m := ⟨4, 0⟩) (meth := k4m0) (c := k4c0) (by decide +kernel) rfl rfl rfl (by decide +kernel)
set_option maxRecDepth 65536 in
theorem w_c5 : (Jvm.Cond.code ({ cls := "java/lang/Object", name := "<init>", desc := "()V" } : Jvm.MethodName) object_method_1_code (1 : Nat) (Option.none : Option Jvm.ClassFile.FieldType)).before args0 about1 = true := code_word (m := ⟨0, 0⟩) (meth := k0m0) (c := k0c0) (by decide +kernel) rfl rfl rfl (by decide +kernel)
set_option maxRecDepth 65536 in
theorem w_c6 : (Jvm.Cond.code ({ cls := "com/example/bitstrata/bitstrata/bitmap/BitVector", name := "not", desc := "()V" } : Jvm.MethodName) prog_4_method_18_code (2 : Nat) (Option.none : Option Jvm.ClassFile.FieldType)).before args0 about1 = true := code_word (m := ⟨4, 3⟩) (meth := k4m3) (c := k4c3) (by decide +kernel) rfl rfl rfl (by decide +kernel)
set_option maxRecDepth 65536 in
theorem w_c7 : (Jvm.Cond.code ({ cls := "com/example/bitstrata/bitstrata/bitmap/BitVector", name := "length", desc := "()I" } : Jvm.MethodName) prog_4_method_8_code (1 : Nat) (Option.some Jvm.ClassFile.FieldType.int)).before args0 about1 = true := code_word (m := ⟨4, 2⟩) (meth := k4m2) (c := k4c2) (by decide +kernel) rfl rfl rfl (by decide +kernel)
set_option maxRecDepth 65536 in
theorem w_c8 : (Jvm.Cond.code ({ cls := "com/example/bitstrata/bitstrata/bitmap/BitVector", name := "words", desc := "()[J" } : Jvm.MethodName) prog_4_method_7_code (1 : Nat) (Option.some (Jvm.ClassFile.FieldType.array Jvm.ClassFile.FieldType.long))).before args0 about1 = true := code_word (m := ⟨4, 1⟩) (meth := k4m1) (c := k4c1) (by decide +kernel) rfl rfl rfl (by decide +kernel)
def codes1 : List Jvm.Cond := [Jvm.Cond.code x code maxLocals ret, Jvm.Cond.code ({ cls := "java/lang/Math", name := "min", desc := "(II)I" } : Jvm.MethodName) jdk_29_method_69_code (2 : Nat) (Option.some Jvm.ClassFile.FieldType.int), Jvm.Cond.code ({ cls := "com/example/bitstrata/bitstrata/bitmap/BitVectorNotPinLaw", name := "lowMask", desc := "(I)J" } : Jvm.MethodName) method_3_code (1 : Nat) (Option.some Jvm.ClassFile.FieldType.long), Jvm.Cond.code ({ cls := "java/lang/Math", name := "max", desc := "(II)I" } : Jvm.MethodName) jdk_29_method_65_code (2 : Nat) (Option.some Jvm.ClassFile.FieldType.int), Jvm.Cond.code ({ cls := "com/example/bitstrata/bitstrata/bitmap/BitVector", name := "<init>", desc := "(I[J)V" } : Jvm.MethodName) prog_4_method_2_code (3 : Nat) (Option.none : Option Jvm.ClassFile.FieldType), Jvm.Cond.code ({ cls := "java/lang/Object", name := "<init>", desc := "()V" } : Jvm.MethodName) object_method_1_code (1 : Nat) (Option.none : Option Jvm.ClassFile.FieldType), Jvm.Cond.code ({ cls := "com/example/bitstrata/bitstrata/bitmap/BitVector", name := "not", desc := "()V" } : Jvm.MethodName) prog_4_method_18_code (2 : Nat) (Option.none : Option Jvm.ClassFile.FieldType), Jvm.Cond.code ({ cls := "com/example/bitstrata/bitstrata/bitmap/BitVector", name := "length", desc := "()I" } : Jvm.MethodName) prog_4_method_8_code (1 : Nat) (Option.some Jvm.ClassFile.FieldType.int), Jvm.Cond.code ({ cls := "com/example/bitstrata/bitstrata/bitmap/BitVector", name := "words", desc := "()[J" } : Jvm.MethodName) prog_4_method_7_code (1 : Nat) (Option.some (Jvm.ClassFile.FieldType.array Jvm.ClassFile.FieldType.long))]
set_option maxRecDepth 65536 in
theorem codes_eq : words1.filter isCode = codes1 := rfl
theorem w_codes : ∀ c ∈ words1.filter isCode, c.before args0 about1 = true := by
  rw [codes_eq]
  intro c hc
  simp only [codes1, List.mem_cons, List.not_mem_nil, or_false] at hc
  rcases hc with rfl | rfl | rfl | rfl | rfl | rfl | rfl | rfl | rfl
  · exact w_c0
  · exact w_c1
  · exact w_c2
  · exact w_c3
  · exact w_c4
  · exact w_c5
  · exact w_c6
  · exact w_c7
  · exact w_c8
set_option maxRecDepth 65536 in
theorem w_t1 : (words1.take 24).all (fun c => isCode c || c.before args0 about1) = true := by decide +kernel
set_option maxRecDepth 65536 in
theorem w_t2 : (words1.drop 24).all (fun c => isCode c || c.before args0 about1) = true := by decide +kernel
theorem w_tables : (allAtoms (Jvm.Cond.code x code maxLocals ret :: tables_1)).before args0 about1 = true := by
  rw [allAtoms_all]
  show words1.all (fun c => c.before args0 about1) = true
  refine all_split ?_ w_codes
  rw [← List.take_append_drop 24 words1, List.all_append, w_t1, w_t2]
  rfl
set_option maxRecDepth 65536 in
theorem w_case : (Jvm.Cond.and given_1 narrow_1).before args0 about1 = true := by decide +kernel
theorem w_applies : (headSpec (Jvm.Cond.code x code maxLocals ret :: tables_1) room_1).applies x e0.platform about1 = true :=
  (Spec.applies_iff w_frames).mpr ⟨w_running, w_runnable, w_alone, w_named, w_hears, w_ripe, w_room, w_tables⟩
theorem atStart : AtStart classFile x code maxLocals ret World_1 tables_1 room_1 Calls_1 rest_1 Pre_1 launch0 p0 e0 about1 theMethod args0 below0 :=
  ⟨lists_1, trivial, launch0.admits_env _ _ _, launch0.least_env, fairChoices_fair.cas, fairChoices_fair.clock, w_frames, w_args, w_heap, w_applies, trivial, trivial, w_case⟩
end start1
theorem witness_1 : WitnessClaimed_1 := ⟨start1.p0, start1.e0, start1.about1, start1.theMethod, start1.args0, start1.below0, start1.atStart⟩
end Jvm.Pilot.@@N@@
