import JvmDerived
import JvmDerived.Pilot.@@N@@Statement
import JvmDerived.Pilot.@@N@@Code
set_option linter.unusedVariables false
set_option linter.unusedSimpArgs false
namespace Jvm.RoadKit
open Sem ClassFile Op Lib Jvm.Stand Jvm.Free Jvm.LawKit
/-- the run from S ends, and ends as Q says -/
def Go (tb : Tables) (e : Env) (below : List Frame) (Q : Outcome → State → Prop) (S : State) : Prop := ∃ s₂ o, Steps tb e below S s₂ ∧ s₂.status = .running ∧ Ended s₂ below o ∧ Q o s₂
theorem Go.by {tb : Tables} {e : Env} {below : List Frame} {Q : Outcome → State → Prop} {S S' : State} (h : ∀ t, Steps tb e below S' t → Steps tb e below S t) (k : Go tb e below Q S') : Go tb e below Q S := by
  obtain ⟨s₂, o, h1, r⟩ := k
  exact ⟨s₂, o, h _ h1, r⟩
/-- what a contract says of the end -/
def Ret (s : State) (n0 : Nat) (Q : Option Value → Heap → Prop) (C S : Nat) : Outcome → State → Prop := fun o U => ∃ v L, o = .returned v ∧ (Q v U.heap ∧ Fr n0 L) ∧ FrameEnd s o U L C S
def Met (l : Launch) (Z : State) (n0 : Nat) (y : MethodName) (bytes : ByteArray) (maxL : Nat) (ret : Option FieldType) (ws : List Cond) (rm : Room) (as : Array Value) (h0 : Heap) (Q : Option Value → Heap → Prop) : Prop :=
  MetFree l y (head1 (Cond.code y bytes maxL ret :: ws) rm) (fun a U => a = as ∧ Z.Warmed39 U.vm ∧ U.heap = h0) (fun _ _ _ _ _ => True) (fun _ U o U' => ∃ v L, o = .returned v ∧ (Q v U'.heap ∧ Fr n0 L) ∧ FrameEnd U o U' L rm.cells rm.slots)
/-- where the walk stands: the heap is h, k cells of n slots were made, nothing below n0 was written -/
def Sd (n0 : Nat) (p : Program) (l : Launch) (e : Env) (R : Room) (s : State) (m : MethodId) (args : Array Value) (below : List Frame) (meth : Method) (c : Code) (T : State) (h : Heap) (k n : Nat) : Prop :=
  ∃ locs, Stand p l e R s m args below meth c T locs k n ∧ Fr n0 locs ∧ T.heap = h
section Sds
variable {n0 : Nat} {p : Program} {l : Launch} {e : Env} {R : Room} {s : State} {m : MethodId} {args : Array Value} {below : List Frame} {meth : Method} {c : Code} {T : State} {h : Heap} {k n : Nat} {Z : State} {a0 : Array Value}
theorem catV {v : Value} (h : v.isRef = true) : v.category = 1 := by cases v <;> first | rfl | (cases h; done)
theorem Sd.here (X : Sd n0 p l e R s m args below meth c T h k n) : At T m c below := by obtain ⟨_, X, -⟩ := X; exact X.here
theorem Sd.more (X : Sd n0 p l e R s m args below meth c T h k n) {k' n' : Nat} (hk : k ≤ k') (hn : n ≤ n') : Sd n0 p l e R s m args below meth c T h k' n' := by
  obtain ⟨L, X, N, q⟩ := X; exact ⟨L, X.more hk hn, N, q⟩
theorem enter {y : MethodName} {bytes : ByteArray} {maxL : Nat} {ret : Option FieldType} {ws : List Cond} {rm : Room} {as : Array Value} {h0 : Heap} {Q : Option Value → Heap → Prop} {Ls : Array Slot}
    (hpl : plainFor y = true) (hef : ∀ m, entryFrame m as maxL = mkF m 0 Ls [])
    (body : ∀ (p : Program) (e : Env) (s : State) (m : MethodId) (below : List Frame) (meth : Method) (c : Code) (T0 : State), p.tables.exec = Jvm.exec → c.code = bytes → c.maxLocals = maxL → s.vm.findClass y.cls = some m.cls → meth.name = y.name → meth.sig.returnType = ret → meth.locks = false → Z.Warmed39 s.vm →
      Sd n0 p l e rm s m as below meth c T0 h0 0 0 → Go p.tables e below (Ret s n0 Q rm.cells rm.slots) (T0.setTop (mkF m 0 Ls []))) : Met l Z n0 y bytes maxL ret ws rm as h0 Q := by
  refine MetFree.of_bodySF hpl hisR ?_
  intro p e s m args below meth c s₁ Bd hml0 hP hK
  obtain ⟨rfl, hZ, hh⟩ := hP
  have X0 : Stand p l e rm s m args below meth c s₁ [] 0 0 := Stand.of_body Bd
  have e0 : s₁.heap = h0 := by rw [← hh, Bd.state]; rfl
  have hlk : meth.locks = false := BodyLoose.notSynchronized Bd
  have k := body p e s m below meth c s₁ Bd.exec Bd.bytes hml0 (findClass_of_methodNamed Bd.named) (name_of_methodNamed Bd.named Bd.method).1 Bd.returns hlk hZ ⟨[], X0, Fr.nil n0, e0⟩
  obtain ⟨s₂, o, h1, h2, h3, h4⟩ := k
  exact ⟨s₂, o, castTop (hef m) h1, h2, h3, h4⟩
/-! returns -/
theorem Go.leave (X : Sd n0 p l e R s m args below meth c T h k n) {Q : Option Value → Heap → Prop} {C S : Nat} {v : Option Value} {g : JFrame} (hlk : meth.locks = false) (hv : meth.sig.returnType = none → v = none)
    (hst : ∀ fs, (∀ (f : JFrame) (acts : List Action), f.method = m → f.locked = none → f.entered = [] → (doReturn e (T.setTop f) acts v).1 = T.setFrames fs) → Steps p.tables e below (T.setTop g) (T.setFrames fs))
    (hk : k ≤ C) (hn : n ≤ S) (hQ : Q v h) : Go p.tables e below (Ret s n0 Q C S) (T.setTop g) := by
  obtain ⟨L, X, N, q⟩ := X
  obtain ⟨fs, hr, hrun, hended, hW, hsame⟩ := X.leave (v := v) hv hlk
  refine ⟨_, _, hst fs hr, hrun, hended, _, L, rfl, ⟨?_, N⟩, ⟨_, rfl⟩, hW, hsame.mono hk hn⟩
  show Q v T.heap
  rw [q]; exact hQ
theorem Go.retN (X : Sd n0 p l e R s m args below meth c T h k n) (hx : p.tables.exec = Jvm.exec) (hlk : meth.locks = false) {Q : Option Value → Heap → Prop} {C S : Nat} {t : FieldType} {pc : Nat} {Ls : Array Slot} {z z' : Int32} {rest : List Value} (hret : meth.sig.returnType = some t) (ht : t = .boolean ∨ t = .byte ∨ t = .char ∨ t = .short)
    (hd : decode c.code pc = .ok (.ireturn, 1)) (hz : nar t z = z') (hk : k ≤ C) (hn : n ≤ S) (hQ : Q (some (.int z')) h) : Go p.tables e below (Ret s n0 Q C S) (T.setTop (mkF m pc Ls (.int z :: rest))) := by
  subst hz
  refine Go.leave X hlk (fun q => by rw [hret] at q; cases q) (fun fs hr => ?_) hk hn hQ
  obtain ⟨L, X, -⟩ := X
  exact Jvm.RoadKit.retN X hx hret ht hd hr
theorem Go.retI (X : Sd n0 p l e R s m args below meth c T h k n) (hx : p.tables.exec = Jvm.exec) (hlk : meth.locks = false) {Q : Option Value → Heap → Prop} {C S : Nat} {pc : Nat} {Ls : Array Slot} {z : Int32} {rest : List Value} (hret : meth.sig.returnType = some .int)
    (hd : decode c.code pc = .ok (.ireturn, 1)) (hk : k ≤ C) (hn : n ≤ S) (hQ : Q (some (.int z)) h) : Go p.tables e below (Ret s n0 Q C S) (T.setTop (mkF m pc Ls (.int z :: rest))) := by
  refine Go.leave X hlk (fun q => by rw [hret] at q; cases q) (fun fs hr => ?_) hk hn hQ
  obtain ⟨L, X, -⟩ := X
  exact retOut X hx hret rfl (Or.inl ⟨rfl, Or.inl rfl, _, rfl⟩) hd hr
theorem Go.retL (X : Sd n0 p l e R s m args below meth c T h k n) (hx : p.tables.exec = Jvm.exec) (hlk : meth.locks = false) {Q : Option Value → Heap → Prop} {C S : Nat} {pc : Nat} {Ls : Array Slot} {z : Int64} {rest : List Value} (hret : meth.sig.returnType = some .long)
    (hd : decode c.code pc = .ok (.lreturn, 1)) (hk : k ≤ C) (hn : n ≤ S) (hQ : Q (some (.long z)) h) : Go p.tables e below (Ret s n0 Q C S) (T.setTop (mkF m pc Ls (.long z :: rest))) := by
  refine Go.leave X hlk (fun q => by rw [hret] at q; cases q) (fun fs hr => ?_) hk hn hQ
  obtain ⟨L, X, -⟩ := X
  exact retOut X hx hret rfl (Or.inr (Or.inl ⟨rfl, rfl, _, rfl⟩)) hd hr
theorem Go.retA (X : Sd n0 p l e R s m args below meth c T h k n) (hx : p.tables.exec = Jvm.exec) (hlk : meth.locks = false) {Q : Option Value → Heap → Prop} {C S : Nat} {t : FieldType} {pc : Nat} {Ls : Array Slot} {w : Value} {rest : List Value} (hret : meth.sig.returnType = some t) (ht : t.isReference = true) (hw : w.isRef = true)
    (hd : decode c.code pc = .ok (.areturn, 1)) (hk : k ≤ C) (hn : n ≤ S) (hQ : Q (some w) h) : Go p.tables e below (Ret s n0 Q C S) (T.setTop (mkF m pc Ls (w :: rest))) := by
  refine Go.leave X hlk (fun q => by rw [hret] at q; cases q) (fun fs hr => ?_) hk hn hQ
  obtain ⟨L, X, -⟩ := X
  have hnar : narrow t w = w := by cases t <;> first | (cases ht; done) | (cases w <;> first | rfl | (cases hw; done))
  exact retOut X hx hret hnar (Or.inr (Or.inr (Or.inr (Or.inr ⟨rfl, ht, hw⟩)))) hd hr
theorem Go.ret0 (X : Sd n0 p l e R s m args below meth c T h k n) (hx : p.tables.exec = Jvm.exec) (hlk : meth.locks = false) {Q : Option Value → Heap → Prop} {C S : Nat} {pc : Nat} {Ls : Array Slot} (hret : meth.sig.returnType = none)
    (hd : decode c.code pc = .ok (.return_, 1)) (hk : k ≤ C) (hn : n ≤ S) (hQ : Q none h) : Go p.tables e below (Ret s n0 Q C S) (T.setTop (mkF m pc Ls [])) := by
  refine Go.leave X hlk (fun _ => rfl) (fun fs hr => ?_) hk hn hQ
  obtain ⟨L, X, -⟩ := X
  exact X.returnOut hx hret hd hr
/-! fields, statics, casts -/
theorem Sd.getF (X : Sd n0 p l e R s m args below meth c T h k n) (hx : p.tables.exec = Jvm.exec) (hZ : Z.Warmed39 s.vm) {own R0 O nm d host : String} {index : Nat} (hown : s.vm.findClass own = some m.cls) (w : (Cond.fieldLink own index R0 nm d).before a0 Z = true ∨ (Cond.fieldLinkNest own index R0 nm d host).before a0 Z = true) (via : Via Z R0 O nm d)
    {a : Addr} {v : Value} (F : Fld Z h a O nm d v) {g : JFrame} (hg : g.method = m) {rest : List Value} (hs : g.stack = .ref a :: rest) (hd : decode c.code g.pc = .ok (.getfield index, 3)) :
    ∃ T', Sd n0 p l e R s m args below meth c T' h k n ∧ ∀ target, Steps p.tables e below (T'.setTop { g with pc := g.pc + 3, stack := v :: rest }) target → Steps p.tables e below (T.setTop g) target := by
  obtain ⟨L, X, N, q⟩ := X
  obtain ⟨T', X', e', st⟩ := Jvm.RoadKit.getF X hx hZ hown w via q F hg hs hd
  exact ⟨T', ⟨L, X', N, e'⟩, st⟩
theorem Sd.getS (X : Sd n0 p l e R s m args below meth c T h k n) (hx : p.tables.exec = Jvm.exec) (hZ : Z.Warmed39 s.vm) {own R0 O nm d host : String} {index : Nat} (hown : s.vm.findClass own = some m.cls) (w : (Cond.fieldLink own index R0 nm d).before a0 Z = true ∨ (Cond.fieldLinkNest own index R0 nm d host).before a0 Z = true) (via : Via Z R0 O nm d)
    {v : Value} (F : Sta Z h O nm d v) {g : JFrame} (hg : g.method = m) (hd : decode c.code g.pc = .ok (.getstatic index, 3)) :
    ∃ T', Sd n0 p l e R s m args below meth c T' h k n ∧ ∀ target, Steps p.tables e below (T'.setTop { g with pc := g.pc + 3, stack := v :: g.stack }) target → Steps p.tables e below (T.setTop g) target := by
  obtain ⟨L, X, N, q⟩ := X
  obtain ⟨T', X', e', st⟩ := getS2 X hx hZ hown w via q F hg hd
  exact ⟨T', ⟨L, X', N, e'⟩, st⟩
theorem Sd.putF (X : Sd n0 p l e R s m args below meth c T h k n) (hx : p.tables.exec = Jvm.exec) (hZ : Z.Warmed39 s.vm) {own R0 O nm d host C : String} {index kk : Nat} {ty : FieldType} (hown : s.vm.findClass own = some m.cls) (w : (Cond.fieldLink own index R0 nm d).before a0 Z = true ∨ (Cond.fieldLinkNest own index R0 nm d host).before a0 Z = true) (via : Via Z R0 O nm d)
    {a : Addr} {v old : Value} (F : Fld Z h a O nm d old) (E : Exa Z h a C) (ga : n0 ≤ a) (L : (Cond.lays C O nm d).before a0 Z = true ∨ ((Cond.laysFinal C O nm d).before a0 Z = true ∧ own = O ∧ meth.name = "<init>")) (wi : (Cond.instantiable C kk).before a0 Z = true)
    (hty : parseFieldDescriptor d = some ty) (hnr : narrow ty v = v) (hf : fits ty v = true) {g : JFrame} (hg : g.method = m) {rest : List Value} (hs : g.stack = v :: .ref a :: rest) (hd : decode c.code g.pc = .ok (.putfield index, 3)) :
    ∃ T' h', Sd n0 p l e R s m args below meth c T' h' k n ∧ Wr h h' a (slotOf Z O nm d) v ∧ ∀ target, Steps p.tables e below (T'.setTop { g with pc := g.pc + 3, stack := rest }) target → Steps p.tables e below (T.setTop g) target := by
  obtain ⟨Lc, X, N, q⟩ := X
  obtain ⟨T', h', X', e', W, st⟩ := Jvm.RoadKit.putF X hx hZ hown w via q F E L wi hty hnr hf hg hs hd
  exact ⟨T', h', ⟨_, X', Fr.snoc X' N ga, e'⟩, W, st⟩
theorem Sd.putFN (X : Sd n0 p l e R s m args below meth c T h k n) (hx : p.tables.exec = Jvm.exec) (hZ : Z.Warmed39 s.vm) {own R0 O nm d C : String} {index kk : Nat} {ty : FieldType} (hown : s.vm.findClass own = some m.cls) (w : (Cond.fieldLink own index R0 nm d).before a0 Z = true) (via : Via Z R0 O nm d)
    {a : Addr} {v v' old : Value} (F : Fld Z h a O nm d old) (E : Exa Z h a C) (ga : n0 ≤ a) (L : (Cond.lays C O nm d).before a0 Z = true ∨ ((Cond.laysFinal C O nm d).before a0 Z = true ∧ own = O ∧ meth.name = "<init>")) (wi : (Cond.instantiable C kk).before a0 Z = true)
    (hty : parseFieldDescriptor d = some ty) (hnr : narrow ty v = v') (hf : fits ty v' = true) {g : JFrame} (hg : g.method = m) {rest : List Value} (hs : g.stack = v :: .ref a :: rest) (hd : decode c.code g.pc = .ok (.putfield index, 3)) :
    ∃ T' h', Sd n0 p l e R s m args below meth c T' h' k n ∧ Wr h h' a (slotOf Z O nm d) v' ∧ ∀ target, Steps p.tables e below (T'.setTop { g with pc := g.pc + 3, stack := rest }) target → Steps p.tables e below (T.setTop g) target := by
  obtain ⟨Lc, X, N, q⟩ := X
  obtain ⟨T', h', X', e', W, st⟩ := Jvm.RoadKit.putFN X hx hZ hown w via q F E L wi hty hnr hf hg hs hd
  exact ⟨T', h', ⟨_, X', Fr.snoc X' N ga, e'⟩, W, st⟩
theorem Sd.castY (X : Sd n0 p l e R s m args below meth c T h k n) (hx : p.tables.exec = Jvm.exec) (hZ : Z.Warmed39 s.vm) {own K : String} {index : Nat} (hown : s.vm.findClass own = some m.cls) (w : (Cond.classLink own index K).before a0 Z = true) {a : Addr} (F : Ins Z h a K true)
    {g : JFrame} (hg : g.method = m) {rest : List Value} (hs : g.stack = .ref a :: rest) (hd : decode c.code g.pc = .ok (.checkcast index, 3)) :
    ∃ T', Sd n0 p l e R s m args below meth c T' h k n ∧ ∀ target, Steps p.tables e below (T'.setTop { g with pc := g.pc + 3 }) target → Steps p.tables e below (T.setTop g) target := by
  obtain ⟨L, X, N, q⟩ := X
  obtain ⟨T', X', e', st⟩ := Jvm.RoadKit.castY X hx hZ hown w q F hg hs hd
  exact ⟨T', ⟨L, X', N, e'⟩, st⟩
theorem Sd.instY (X : Sd n0 p l e R s m args below meth c T h k n) (hx : p.tables.exec = Jvm.exec) (hZ : Z.Warmed39 s.vm) {own K : String} {index : Nat} (hown : s.vm.findClass own = some m.cls) (w : (Cond.classLink own index K).before a0 Z = true) {a : Addr} (F : Ins Z h a K true)
    {g : JFrame} (hg : g.method = m) {rest : List Value} (hs : g.stack = .ref a :: rest) (hd : decode c.code g.pc = .ok (.instanceof index, 3)) :
    ∃ T', Sd n0 p l e R s m args below meth c T' h k n ∧ ∀ target, Steps p.tables e below (T'.setTop { g with pc := g.pc + 3, stack := .int 1 :: rest }) target → Steps p.tables e below (T.setTop g) target := by
  obtain ⟨L, X, N, q⟩ := X
  obtain ⟨T', X', e', st⟩ := Jvm.RoadKit.instY X hx hZ hown w q F hg hs hd
  exact ⟨T', ⟨L, X', N, e'⟩, st⟩
theorem Sd.instNull (X : Sd n0 p l e R s m args below meth c T h k n) (hx : p.tables.exec = Jvm.exec) {index : Nat} {g : JFrame} (hg : g.method = m) {rest : List Value} (hs : g.stack = .null :: rest) (hd : decode c.code g.pc = .ok (.instanceof index, 3)) :
    ∀ target, Steps p.tables e below (T.setTop { g with pc := g.pc + 3, stack := .int 0 :: rest }) target → Steps p.tables e below (T.setTop g) target := by
  obtain ⟨L, X, -⟩ := X; exact X.instanceofNull hx hg hs hd
theorem Sd.ldcInt (X : Sd n0 p l e R s m args below meth c T h k n) (hx : p.tables.exec = Jvm.exec) (hZ : Z.Warmed39 s.vm) {own : String} {index : Nat} {v : Int32} (hown : s.vm.findClass own = some m.cls) (w : (Cond.constant own index v).before a0 Z = true) {g : JFrame} (hg : g.method = m) (hd : decode c.code g.pc = .ok (.ldc index, 2)) :
    ∀ target, Steps p.tables e below (T.setTop { g with pc := g.pc + 2, stack := .int v :: g.stack }) target → Steps p.tables e below (T.setTop g) target := by
  obtain ⟨L, X, -⟩ := X; exact X.ldcInt hx hown (mvT hZ w) hg hd
theorem Sd.ldc2Long (X : Sd n0 p l e R s m args below meth c T h k n) (hx : p.tables.exec = Jvm.exec) (hZ : Z.Warmed39 s.vm) {own : String} {index : Nat} {v : Int64} (hown : s.vm.findClass own = some m.cls) (w : (Cond.constantLong own index v).before a0 Z = true) {g : JFrame} (hg : g.method = m) (hd : decode c.code g.pc = .ok (.ldc2_w index, 3)) :
    ∀ target, Steps p.tables e below (T.setTop { g with pc := g.pc + 3, stack := .long v :: g.stack }) target → Steps p.tables e below (T.setTop g) target := by
  obtain ⟨L, X, -⟩ := X; exact X.ldc2Long hx hown (mvT hZ w) hg hd
theorem Sd.acmp {g : JFrame} (X : Sd n0 p l e R s m args below meth c T h k n) (hx : p.tables.exec = Jvm.exec) (hg : g.method = m) {cd : ACond} {x y : Value} (h1 : x.isRef = true) (h2 : y.isRef = true) {rest : List Value} {o : Int} {pc0 pc' : Nat} {same : Bool} (hpc : g.pc = pc0)
    (hd : decode c.code g.pc = .ok (.if_acmp cd o, 3)) (hs : g.stack = y :: x :: rest) (hq : decide (x = y) = same) (ho : 0 ≤ (pc0 : Int) + o) (hp : pc' = if acV cd same = true then ((pc0 : Int) + o).toNat else pc0 + 3) :
    ∀ target, Steps p.tables e below (T.setTop { g with pc := pc', stack := rest }) target → Steps p.tables e below (T.setTop g) target := by
  obtain ⟨L, X, -⟩ := X; exact fun _ => Jvm.RoadKit.acmp X hx hg h1 h2 hpc hd hs hq ho hp
theorem Sd.getFR (X : Sd n0 p l e R s m args below meth c T h k n) (hx : p.tables.exec = Jvm.exec) (hZ : Z.Warmed39 s.vm) {own O nm d : String} {index : Nat} (hown : s.vm.findClass own = some m.cls) (w : (Cond.fieldRef own index O nm d).before a0 Z = true)
    {a : Addr} {v : Value} (F : Fld Z h a O nm d v) {g : JFrame} (hg : g.method = m) {rest : List Value} (hs : g.stack = .ref a :: rest) (hd : decode c.code g.pc = .ok (.getfield index, 3)) :
    ∀ target, Steps p.tables e below (T.setTop { g with pc := g.pc + 3, stack := v :: rest }) target → Steps p.tables e below (T.setTop g) target := by
  obtain ⟨L, X, N, q⟩ := X
  obtain ⟨cell, cf, kk, i, f, h1, h2, h3, h4, h5, h6, h7⟩ := F
  have hT : Z.Warmed39 T.vm := wtrans hZ X.warmed
  have w' := Cond.fieldRef_warmed39 hT w
  have hcur : (Z.setVm T.vm).vm.findClass own = some m.cls := by show T.vm.findClass own = _; rw [X.warmed.alike.findClass]; exact hown
  obtain ⟨c', k', i', f', e1, e2⟩ := Cond.fieldRef_spec hcur w'
  obtain ⟨k2, hi, -⟩ := State.fieldFound?_setVm (s := Z) hT.alike h2
  cases e1.symm.trans hi
  intro target hrest
  subst hg
  jvm_step X.here [hx, hd, getfield.wp_ready (e := e) (s := T) (f := g) X.here.top e2 h3 hs (by rw [q]; exact h1) h4 h7]
  exact hrest
/-! making -/
theorem Sd.newO (X : Sd n0 p l e R s m args below meth c T h k n) (hx : p.tables.exec = Jvm.exec) (hZ : Z.Warmed39 s.vm) {own C : String} {index sz k' n' : Nat} (hown : s.vm.findClass own = some m.cls) (w : (Cond.classLink own index C).before a0 Z = true) (wi : (Cond.instantiable C sz).before a0 Z = true) (wz : (Cond.initialized C).before a0 Z = true)
    {g : JFrame} (hg : g.method = m) (hd : decode c.code g.pc = .ok (.new index, 3)) (hk : k + 1 = k') (hn : n + sz = n') (hc : k' ≤ R.cells) (hl : n' ≤ R.slots) :
    ∃ T' h' a, Sd n0 p l e R s m args below meth c T' h' k' n' ∧ a = h.size ∧ Ext h h' ∧ Exa Z h' a C ∧ (∀ {O nm d : String} {ty : FieldType}, Laid Z a0 C O nm d → parseFieldDescriptor d = some ty → Fld Z h' a O nm d (defaultValue ty)) ∧
      ∀ target, Steps p.tables e below (T'.setTop { g with pc := g.pc + 3, stack := .ref a :: g.stack }) target → Steps p.tables e below (T.setTop g) target := by
  subst hk hn
  obtain ⟨L, X, N, q⟩ := X
  obtain ⟨T', h', X', e', E, A, D, -, st⟩ := Jvm.RoadKit.newO X hx hZ hown w wi wz q hg hd hc hl
  exact ⟨T', h', _, ⟨L, X', N, e'⟩, rfl, E, A, D, st⟩
theorem Sd.initO (X : Sd n0 p l e R s m args below meth c T h k n) (hx : p.tables.exec = Jvm.exec) (hZ : Z.Warmed39 s.vm) {own : String} {idx : Nat} (hown : s.vm.findClass own = some m.cls) (w1 : (Cond.methodLink own idx Lib.objectInit).before a0 Z = true) (w2 : (Cond.instanceMethod Lib.objectInit).before a0 Z = true)
    (w3 : (Cond.code Lib.objectInit ⟨#[0xb1]⟩ 1 none).before a0 Z = true) {g : JFrame} (hg : g.method = m) (hsize : g.locals.size = c.maxLocals) {a : Addr} {rest : List Value} (hs : g.stack = .ref a :: rest) (hd : decode c.code g.pc = .ok (.invokespecial idx, 3))
    (hf : 1 ≤ R.frames) (hl : 2 * g.monitorRoom + (rest.map fun v => v.category).sum + 12 ≤ R.locals) :
    ∃ T', Sd n0 p l e R s m args below meth c T' h k n ∧ ∀ target, Steps p.tables e below (T'.setTop { g with pc := g.pc + 3, stack := rest }) target → Steps p.tables e below (T.setTop g) target := by
  obtain ⟨L, X, N, q⟩ := X
  obtain ⟨T', X', e', st⟩ := Jvm.RoadKit.initO X hx hZ hown w1 w2 w3 q hg hsize hs hd hf (W := 2 * g.monitorRoom + (rest.map fun v => v.category).sum) (Nat.le_refl _) hl
  exact ⟨T', ⟨L, X', N, e'⟩, st⟩
/-- an array of n' places, place i holds f i -/
def Avf (Z : State) (h : Heap) (a : Addr) (kc : ClassId) (ty : FieldType) (sz : Nat) (f : Nat → Value) : Prop := ∃ cl : Cell, Arr Z h a cl ty ∧ cl.cls = kc ∧ cl.slots.size = sz ∧ sz < 2 ^ 31 ∧ ∀ i, i < sz → cl.slots[i]? = some (f i) ∧ fits ty (f i) = true
theorem Avf.lt {h : Heap} {a : Addr} {kc : ClassId} {ty : FieldType} {sz : Nat} {f : Nat → Value} (F : Avf Z h a kc ty sz f) : a < h.size := by obtain ⟨_, A, -⟩ := F; exact A.lt
theorem Avf.ext {h h' : Heap} {a : Addr} {kc : ClassId} {ty : FieldType} {sz : Nat} {f : Nat → Value} (F : Avf Z h a kc ty sz f) (E : Ext h h') : Avf Z h' a kc ty sz f := by obtain ⟨cl, A, r⟩ := F; exact ⟨cl, A.ext E, r⟩
theorem Avf.other {h h' : Heap} {a b : Addr} {kc : ClassId} {ty : FieldType} {sz sl : Nat} {f : Nat → Value} {v : Value} (F : Avf Z h b kc ty sz f) (W : Wr h h' a sl v) (q : b ≠ a) : Avf Z h' b kc ty sz f := by obtain ⟨cl, A, r⟩ := F; exact ⟨cl, A.other W q, r⟩
theorem Avf.keep {h h' : Heap} {a : Addr} {kc : ClassId} {ty : FieldType} {sz : Nat} {f : Nat → Value} {ws : List Addr} (F : Avf Z h a kc ty sz f) (K : Keep h h' ws) (q : a ∉ ws) : Avf Z h' a kc ty sz f := by obtain ⟨cl, A, r⟩ := F; exact ⟨cl, ⟨K.2.1 a cl A.1 q, A.2⟩, r⟩
theorem Avf.cong {h : Heap} {a : Addr} {kc : ClassId} {ty : FieldType} {sz : Nat} {f g : Nat → Value} (F : Avf Z h a kc ty sz f) (q : ∀ i, i < sz → f i = g i) : Avf Z h a kc ty sz g := by
  obtain ⟨cl, A, r1, r2, r3, r4⟩ := F; exact ⟨cl, A, r1, r2, r3, fun i hi => by rw [← q i hi]; exact r4 i hi⟩
theorem Avf.set {h h' : Heap} {a : Addr} {kc : ClassId} {ty : FieldType} {sz : Nat} {f : Nat → Value} {v : Value} {j : Nat} (F : Avf Z h a kc ty sz f) (W : Wr h h' a j v) (hv : fits ty v = true) : Avf Z h' a kc ty sz (fun i => if i = j then v else f i) := by
  obtain ⟨cl, A, r1, r2, r3, r4⟩ := F
  refine ⟨_, A.same W, r1, by rw [sz_set]; exact r2, r3, fun i hi => ?_⟩
  by_cases q : i = j
  · subst q; simp [Cell.setSlot, r2, hi, hv]
  · simp [Cell.setSlot, q, r4 i hi, Array.getElem?_setIfInBounds_ne (Ne.symm q)]
theorem Avf.of_arv {h : Heap} {a : Addr} {kc : ClassId} {ty : FieldType} {z : Int32} {vs : List Value} {dv : Value} (F : Arv Z h a kc ty z vs dv) : Avf Z h a kc ty z.toNatClampNeg (fun i => vs.getD i dv) := by
  obtain ⟨cl, A, r1, r2, r3, H, G⟩ := F
  exact ⟨cl, A, r1, r2, (back32 r3).2, fun i hi => ⟨H i (by rw [r2]; exact hi), G i (by rw [r2]; exact hi)⟩⟩
theorem Sd.newP (X : Sd n0 p l e R s m args below meth c T h k n) (hx : p.tables.exec = Jvm.exec) (hZ : Z.Warmed39 s.vm) {aty : ArrayType} (w : (Cond.arrayClass (newarray.typeOf aty)).before a0 Z = true) {g : JFrame} (hg : g.method = m) (hd : decode c.code g.pc = .ok (.newarray aty, 2)) {z : Int32} {rest : List Value} (hs : g.stack = .int z :: rest)
    (hz : ¬ z < 0) {sz cap k' n' : Nat} (hsz : z.toNatClampNeg = sz) (hcap : sz ≤ cap) (hb : cap * 8 ≤ 536870912) (hk : k + 1 = k') (hn : n + cap = n') (hc : k' ≤ R.cells) (hl : n' ≤ R.slots) {ad : String} (had : "[" ++ (newarray.typeOf aty).toString = ad) :
    ∃ T' h' kc a, Sd n0 p l e R s m args below meth c T' h' k' n' ∧ a = h.size ∧ Ext h h' ∧ Exa Z h' a ad ∧ Avf Z h' a kc (newarray.typeOf aty) sz (fun _ => defaultValue (newarray.typeOf aty)) ∧
      ∀ target, Steps p.tables e below (T'.setTop { g with pc := g.pc + 2, stack := .ref a :: rest }) target → Steps p.tables e below (T.setTop g) target := by
  subst hk hn hsz
  obtain ⟨L, X, N, q⟩ := X
  obtain ⟨T', h', kc, X', e', E, A, Ex, st⟩ := Jvm.RoadKit.newPE X hx hZ w q hg hd hs hz hcap hb hc hl had
  refine ⟨T', h', kc, _, ⟨L, X', N, e'⟩, rfl, E, Ex, ⟨_, A, rfl, sz_new _ _ _, (back32 hz).2, fun i hi => ⟨by simp [newA, hi], ?_⟩⟩, st⟩
  cases aty <;> rfl
theorem Sd.newR (X : Sd n0 p l e R s m args below meth c T h k n) (hx : p.tables.exec = Jvm.exec) (hZ : Z.Warmed39 s.vm) {own C : String} {index : Nat} (hown : s.vm.findClass own = some m.cls) (w1 : (Cond.classLink own index C).before a0 Z = true) (w2 : (Cond.arrayOver (.object C)).before a0 Z = true)
    {g : JFrame} (hg : g.method = m) (hd : decode c.code g.pc = .ok (.anewarray index, 3)) {z : Int32} {rest : List Value} (hs : g.stack = .int z :: rest)
    (hz : ¬ z < 0) {sz cap k' n' : Nat} (hsz : z.toNatClampNeg = sz) (hcap : sz ≤ cap) (hb : cap * 8 ≤ 536870912) (hk : k + 1 = k') (hn : n + cap = n') (hc : k' ≤ R.cells) (hl : n' ≤ R.slots) {ad : String} (had : "[" ++ (FieldType.object C).toString = ad) :
    ∃ T' h' kc a, Sd n0 p l e R s m args below meth c T' h' k' n' ∧ a = h.size ∧ Ext h h' ∧ Exa Z h' a ad ∧ Avf Z h' a kc (.object C) sz (fun _ => .null) ∧ Ovr Z kc C ∧
      ∀ target, Steps p.tables e below (T'.setTop { g with pc := g.pc + 3, stack := .ref a :: rest }) target → Steps p.tables e below (T.setTop g) target := by
  subst hk hn hsz
  obtain ⟨L, X, N, q⟩ := X
  obtain ⟨T', h', kc, X', e', E, A, Ex, O, st⟩ := Jvm.RoadKit.newRE X hx hZ hown w1 w2 q hg hd hs hz hcap hb hc hl had
  exact ⟨T', h', kc, _, ⟨L, X', N, e'⟩, rfl, E, Ex, ⟨_, A, rfl, sz_new _ _ _, (back32 hz).2, fun i hi => ⟨by simp [newA, hi, defaultValue], rfl⟩⟩, O, st⟩
theorem Sd.clone (X : Sd n0 p l e R s m args below meth c T h k n) (hx : p.tables.exec = Jvm.exec) (hZ : Z.Warmed39 s.vm) {own ad : String} {index : Nat} (hown : s.vm.findClass own = some m.cls)
    (w1 : (Cond.methodLink own index ⟨ad, "clone", "()Ljava/lang/Object;"⟩).before a0 Z = true) (w2 : (Cond.sameMethod ad "java/lang/Object" "clone" "()Ljava/lang/Object;").before a0 Z = true) (w3 : (Cond.native ⟨"java/lang/Object", "clone", "()Ljava/lang/Object;"⟩).before a0 Z = true)
    (w4 : (Cond.instanceMethod ⟨"java/lang/Object", "clone", "()Ljava/lang/Object;"⟩).before a0 Z = true) (w5 : (Cond.selects ad ⟨ad, "clone", "()Ljava/lang/Object;"⟩ ⟨"java/lang/Object", "clone", "()Ljava/lang/Object;"⟩).before a0 Z = true) (w6 : (Cond.castable ad "java/lang/Cloneable").before a0 Z = true)
    {a : Addr} {kc : ClassId} {ty : FieldType} {sz : Nat} {f : Nat → Value} (F : Avf Z h a kc ty sz f) (E : Exa Z h a ad) {g : JFrame} (hg : g.method = m) (hsize : g.locals.size = c.maxLocals) {rest : List Value} (hst : g.stack = .ref a :: rest) (hd : decode c.code g.pc = .ok (.invokevirtual index, 3))
    (hf : 1 ≤ R.frames) (hl : 2 * g.monitorRoom + (rest.map fun v => v.category).sum + 14 ≤ R.locals) {cap k' n' : Nat} (hcap : sz ≤ cap) (hk : k + 1 = k') (hn : n + cap = n') (hc : k' ≤ R.cells) (hs : n' ≤ R.slots) :
    ∃ T' h' b, Sd n0 p l e R s m args below meth c T' h' k' n' ∧ b = h.size ∧ Ext h h' ∧ Exa Z h' b ad ∧ Avf Z h' b kc ty sz f ∧ ∀ target, Steps p.tables e below (T'.setTop { g with pc := g.pc + 3, stack := .ref b :: rest }) target → Steps p.tables e below (T.setTop g) target := by
  subst hk hn
  obtain ⟨L, X, N, q⟩ := X
  obtain ⟨cl, A, r1, r2, r3, r4⟩ := F
  have FC : FitC Z cl := fitC_of A fun i hi v hv => by rw [(r4 i (r2 ▸ hi)).1] at hv; cases hv; exact (r4 i (r2 ▸ hi)).2
  obtain ⟨T', h', X', e', ex, A', E', st⟩ := cloneA X hx hZ hown w1 w2 w3 w4 w5 w6 q A E FC hg hsize hst hd hf (W := 2 * g.monitorRoom + (rest.map fun v => v.category).sum) (Nat.le_refl _) hl (by rw [r2]; exact hcap) hc hs
  exact ⟨T', h', _, ⟨L, X', N, e'⟩, rfl, ex, E', ⟨cloneOf cl, A', r1, r2, r3, r4⟩, st⟩
theorem Sd.grid (X : Sd n0 p l e R s m args below meth c T h k n) (hx : p.tables.exec = Jvm.exec) (hZ : Z.Warmed39 s.vm) {own : String} {index : Nat} (hown : s.vm.findClass own = some m.cls)
    (w1 : (Cond.classLink own index "[[J").before a0 Z = true) (w2 : (Cond.arrayOver (.array .long)).before a0 Z = true) (w3 : (Cond.arrayClass .long).before a0 Z = true) {g : JFrame} (hg : g.method = m) (hd : decode c.code g.pc = .ok (.multianewarray index 2, 4)) {z y : Int32} {rest : List Value} (hs : g.stack = .int y :: .int z :: rest)
    (hz : ¬ z < 0) (hy : ¬ y < 0) {N sz cap k' n' : Nat} (hN : z.toNatClampNeg = N) (hsz : y.toNatClampNeg = sz) (hcap : sz ≤ cap) (hb : cap * 8 ≤ 536870912) (hb1 : N ≤ 1000) (hk : k + (1 + N) = k') (hn : n + (N + N * cap) = n') (hc : k' ≤ R.cells) (hl : n' ≤ R.slots) :
    ∃ T' h' kc kd a, Sd n0 p l e R s m args below meth c T' h' k' n' ∧ a = h.size ∧ Ext h h' ∧ Exa Z h' a "[[J" ∧ Avf Z h' a kc (.array .long) N (fun i => .ref (a + 1 + i)) ∧ (∀ i, i < N → Avf Z h' (a + 1 + i) kd .long sz (fun _ => .long 0)) ∧
      ∀ target, Steps p.tables e below (T'.setTop { g with pc := g.pc + 4, stack := .ref a :: rest }) target → Steps p.tables e below (T.setTop g) target := by
  subst hk hn hN hsz
  obtain ⟨L, X, Nn, q⟩ := X
  obtain ⟨T', h', kc, kd, X', e', E, A, O, Ex, D, st⟩ := gridM X hx hZ hown (ty := .long) (C := "[J") (ad := "[[J") (by decide) (by decide) w1 w2 w3 q hg hd hs hz hy (xs := (List.range z.toNatClampNeg).map fun j => h.size + 1 + j) rfl rfl hcap hb hb1 rfl rfl hc hl
  refine ⟨T', h', kc, kd, _, ⟨L, X', Nn, e'⟩, rfl, E, Ex, ?_, fun i hi => ?_, st⟩
  · refine Avf.cong (Avf.of_arv A) fun i hi => ?_
    simp [hi, List.getD_eq_getElem?_getD]
  · obtain ⟨AI, -⟩ := D i (h.size + 1 + i) (by simp [hi])
    exact ⟨_, AI, rfl, sz_new _ _ _, (back32 hy).2, fun j hj => ⟨by simp [newA, hj, defaultValue], rfl⟩⟩
/-! arrays: length, load, store -/
theorem Sd.len (X : Sd n0 p l e R s m args below meth c T h k n) (hx : p.tables.exec = Jvm.exec) (hZ : Z.Warmed39 s.vm) {a : Addr} {kc : ClassId} {ty : FieldType} {sz : Nat} {f : Nat → Value} (F : Avf Z h a kc ty sz f) {z : Int32} (hz : sz.toInt32 = z)
    {g : JFrame} (hg : g.method = m) {rest : List Value} (hs : g.stack = .ref a :: rest) (hd : decode c.code g.pc = .ok (.arraylength, 1)) :
    ∀ target, Steps p.tables e below (T.setTop { g with pc := g.pc + 1, stack := .int z :: rest }) target → Steps p.tables e below (T.setTop g) target := by
  obtain ⟨L, X, -, q⟩ := X
  obtain ⟨cl, A, r1, r2, r3, r4⟩ := F
  intro t kt
  refine X.arraylength hx (by rw [q]; exact A.1) (State.isArrayOf_alike hZ.alike A.2.1) hg hs hd _ ?_
  rw [r2, hz]; exact kt
theorem inb {cl : Cell} {sz i : Nat} {j : Int32} (r2 : cl.slots.size = sz) (hj : ¬ j < 0) (hi : j.toNatClampNeg = i) (hlt : i < sz) : ¬ (j < 0 ∨ cl.slots.size ≤ j.toNatClampNeg) := fun q => q.elim hj fun q => by omega
theorem Sd.ldI (X : Sd n0 p l e R s m args below meth c T h k n) (hx : p.tables.exec = Jvm.exec) (hZ : Z.Warmed39 s.vm) {a : Addr} {kc : ClassId} {sz : Nat} {f : Nat → Value} (F : Avf Z h a kc .int sz f) {j : Int32} (hj : ¬ j < 0) {i : Nat} (hi : j.toNatClampNeg = i) (hlt : i < sz) {v : Value} (hv : f i = v)
    {g : JFrame} (hg : g.method = m) {rest : List Value} (hs : g.stack = .int j :: .ref a :: rest) (hd : decode c.code g.pc = .ok (.iaload, 1)) :
    ∀ target, Steps p.tables e below (T.setTop { g with pc := g.pc + 1, stack := v :: rest }) target → Steps p.tables e below (T.setTop g) target := by
  subst hv
  obtain ⟨L, X, -, q⟩ := X
  obtain ⟨cl, A, r1, r2, r3, r4⟩ := F
  exact X.iaload hx (by rw [q]; exact A.1) (State.isArrayOf_alike hZ.alike A.2.1) A.2.2 (inb r2 hj hi hlt) (by rw [hi]; exact (r4 i hlt).1) hg hs hd
theorem Sd.ldJ (X : Sd n0 p l e R s m args below meth c T h k n) (hx : p.tables.exec = Jvm.exec) (hZ : Z.Warmed39 s.vm) {a : Addr} {kc : ClassId} {sz : Nat} {f : Nat → Value} (F : Avf Z h a kc .long sz f) {j : Int32} (hj : ¬ j < 0) {i : Nat} (hi : j.toNatClampNeg = i) (hlt : i < sz) {v : Value} (hv : f i = v)
    {g : JFrame} (hg : g.method = m) {rest : List Value} (hs : g.stack = .int j :: .ref a :: rest) (hd : decode c.code g.pc = .ok (.laload, 1)) :
    ∀ target, Steps p.tables e below (T.setTop { g with pc := g.pc + 1, stack := v :: rest }) target → Steps p.tables e below (T.setTop g) target := by
  subst hv
  obtain ⟨L, X, -, q⟩ := X
  obtain ⟨cl, A, r1, r2, r3, r4⟩ := F
  exact X.laload hx (by rw [q]; exact A.1) (State.isArrayOf_alike hZ.alike A.2.1) A.2.2 (inb r2 hj hi hlt) (by rw [hi]; exact (r4 i hlt).1) hg hs hd
theorem Sd.ldC (X : Sd n0 p l e R s m args below meth c T h k n) (hx : p.tables.exec = Jvm.exec) (hZ : Z.Warmed39 s.vm) {a : Addr} {kc : ClassId} {sz : Nat} {f : Nat → Value} (F : Avf Z h a kc .char sz f) {j : Int32} (hj : ¬ j < 0) {i : Nat} (hi : j.toNatClampNeg = i) (hlt : i < sz) {v : Value} (hv : f i = v)
    {g : JFrame} (hg : g.method = m) {rest : List Value} (hs : g.stack = .int j :: .ref a :: rest) (hd : decode c.code g.pc = .ok (.caload, 1)) :
    ∀ target, Steps p.tables e below (T.setTop { g with pc := g.pc + 1, stack := v :: rest }) target → Steps p.tables e below (T.setTop g) target := by
  subst hv
  obtain ⟨L, X, -, q⟩ := X
  obtain ⟨cl, A, r1, r2, r3, r4⟩ := F
  exact X.caload hx (by rw [q]; exact A.1) (State.isArrayOf_alike hZ.alike A.2.1) A.2.2 (inb r2 hj hi hlt) (by rw [hi]; exact (r4 i hlt).1) hg hs hd
theorem Sd.ldB (X : Sd n0 p l e R s m args below meth c T h k n) (hx : p.tables.exec = Jvm.exec) (hZ : Z.Warmed39 s.vm) {a : Addr} {kc : ClassId} {sz : Nat} {f : Nat → Value} (F : Avf Z h a kc .byte sz f) {j : Int32} (hj : ¬ j < 0) {i : Nat} (hi : j.toNatClampNeg = i) (hlt : i < sz) {v : Value} (hv : f i = v)
    {g : JFrame} (hg : g.method = m) {rest : List Value} (hs : g.stack = .int j :: .ref a :: rest) (hd : decode c.code g.pc = .ok (.baload, 1)) :
    ∀ target, Steps p.tables e below (T.setTop { g with pc := g.pc + 1, stack := v :: rest }) target → Steps p.tables e below (T.setTop g) target := by
  subst hv
  obtain ⟨L, X, -, q⟩ := X
  obtain ⟨cl, A, r1, r2, r3, r4⟩ := F
  exact X.baloadBytes hx (by rw [q]; exact A.1) (State.isArrayOf_alike hZ.alike A.2.1) A.2.2 (inb r2 hj hi hlt) (by rw [hi]; exact (r4 i hlt).1) hg hs hd
theorem Sd.ldA (X : Sd n0 p l e R s m args below meth c T h k n) (hx : p.tables.exec = Jvm.exec) (hZ : Z.Warmed39 s.vm) {a : Addr} {kc : ClassId} {ty : FieldType} {sz : Nat} {f : Nat → Value} (F : Avf Z h a kc ty sz f) (hty : ty.isReference = true) {j : Int32} (hj : ¬ j < 0) {i : Nat} (hi : j.toNatClampNeg = i) (hlt : i < sz) {v : Value} (hv : f i = v)
    {g : JFrame} (hg : g.method = m) {rest : List Value} (hs : g.stack = .int j :: .ref a :: rest) (hd : decode c.code g.pc = .ok (.aaload, 1)) :
    ∀ target, Steps p.tables e below (T.setTop { g with pc := g.pc + 1, stack := v :: rest }) target → Steps p.tables e below (T.setTop g) target := by
  subst hv
  obtain ⟨L, X, -, q⟩ := X
  obtain ⟨cl, A, r1, r2, r3, r4⟩ := F
  exact X.aaload hx (by rw [q]; exact A.1) (State.isArrayOf_alike hZ.alike A.2.1) hty A.2.2 (inb r2 hj hi hlt) (by rw [hi]; exact (r4 i hlt).1) hg hs hd
theorem Sd.stI (X : Sd n0 p l e R s m args below meth c T h k n) (hx : p.tables.exec = Jvm.exec) (hZ : Z.Warmed39 s.vm) {a : Addr} {kc : ClassId} {sz : Nat} {f : Nat → Value} (F : Avf Z h a kc .int sz f) (ga : n0 ≤ a) {j x : Int32} (hj : ¬ j < 0) {i : Nat} (hi : j.toNatClampNeg = i) (hlt : i < sz)
    {g : JFrame} (hg : g.method = m) {rest : List Value} (hs : g.stack = .int x :: .int j :: .ref a :: rest) (hd : decode c.code g.pc = .ok (.iastore, 1)) :
    ∃ T' h', Sd n0 p l e R s m args below meth c T' h' k n ∧ Wr h h' a i (.int x) ∧ Avf Z h' a kc .int sz (fun t => if t = i then .int x else f t) ∧ ∀ target, Steps p.tables e below (T'.setTop { g with pc := g.pc + 1, stack := rest }) target → Steps p.tables e below (T.setTop g) target := by
  obtain ⟨L, X, N, q⟩ := X
  obtain ⟨cl, A, r1, r2, r3, r4⟩ := F
  obtain ⟨T', h', X', e', W, st⟩ := Jvm.RoadKit.stI X hx hZ q A (inb r2 hj hi hlt) hg hs hd
  subst hi
  exact ⟨T', h', ⟨_, X', Fr.snoc X' N ga, e'⟩, W, Avf.set ⟨cl, A, r1, r2, r3, r4⟩ W rfl, st⟩
theorem Sd.stJ (X : Sd n0 p l e R s m args below meth c T h k n) (hx : p.tables.exec = Jvm.exec) (hZ : Z.Warmed39 s.vm) {a : Addr} {kc : ClassId} {sz : Nat} {f : Nat → Value} (F : Avf Z h a kc .long sz f) (ga : n0 ≤ a) {j : Int32} {x : Int64} (hj : ¬ j < 0) {i : Nat} (hi : j.toNatClampNeg = i) (hlt : i < sz)
    {g : JFrame} (hg : g.method = m) {rest : List Value} (hs : g.stack = .long x :: .int j :: .ref a :: rest) (hd : decode c.code g.pc = .ok (.lastore, 1)) :
    ∃ T' h', Sd n0 p l e R s m args below meth c T' h' k n ∧ Wr h h' a i (.long x) ∧ Avf Z h' a kc .long sz (fun t => if t = i then .long x else f t) ∧ ∀ target, Steps p.tables e below (T'.setTop { g with pc := g.pc + 1, stack := rest }) target → Steps p.tables e below (T.setTop g) target := by
  obtain ⟨L, X, N, q⟩ := X
  obtain ⟨cl, A, r1, r2, r3, r4⟩ := F
  obtain ⟨T', h', X', e', W, st⟩ := Jvm.RoadKit.stJ X hx hZ q A (inb r2 hj hi hlt) hg hs hd
  subst hi
  exact ⟨T', h', ⟨_, X', Fr.snoc X' N ga, e'⟩, W, Avf.set ⟨cl, A, r1, r2, r3, r4⟩ W rfl, st⟩
theorem Sd.stB (X : Sd n0 p l e R s m args below meth c T h k n) (hx : p.tables.exec = Jvm.exec) (hZ : Z.Warmed39 s.vm) {a : Addr} {kc : ClassId} {sz : Nat} {f : Nat → Value} (F : Avf Z h a kc .byte sz f) (ga : n0 ≤ a) {j x : Int32} (hj : ¬ j < 0) {i : Nat} (hi : j.toNatClampNeg = i) (hlt : i < sz)
    {g : JFrame} (hg : g.method = m) {rest : List Value} (hs : g.stack = .int x :: .int j :: .ref a :: rest) (hd : decode c.code g.pc = .ok (.bastore, 1)) :
    ∃ T' h', Sd n0 p l e R s m args below meth c T' h' k n ∧ Wr h h' a i (.int x.toInt8.toInt32) ∧ Avf Z h' a kc .byte sz (fun t => if t = i then .int x.toInt8.toInt32 else f t) ∧ ∀ target, Steps p.tables e below (T'.setTop { g with pc := g.pc + 1, stack := rest }) target → Steps p.tables e below (T.setTop g) target := by
  obtain ⟨L, X, N, q⟩ := X
  obtain ⟨cl, A, r1, r2, r3, r4⟩ := F
  obtain ⟨T', h', X', e', W, st⟩ := Jvm.RoadKit.stB X hx hZ q A (inb r2 hj hi hlt) hg hs hd
  subst hi
  exact ⟨T', h', ⟨_, X', Fr.snoc X' N ga, e'⟩, W, Avf.set ⟨cl, A, r1, r2, r3, r4⟩ W (fits_nar_byte _), st⟩
theorem Sd.stC (X : Sd n0 p l e R s m args below meth c T h k n) (hx : p.tables.exec = Jvm.exec) (hZ : Z.Warmed39 s.vm) {a : Addr} {kc : ClassId} {sz : Nat} {f : Nat → Value} (F : Avf Z h a kc .char sz f) (ga : n0 ≤ a) {j x : Int32} (hj : ¬ j < 0) {i : Nat} (hi : j.toNatClampNeg = i) (hlt : i < sz)
    {g : JFrame} (hg : g.method = m) {rest : List Value} (hs : g.stack = .int x :: .int j :: .ref a :: rest) (hd : decode c.code g.pc = .ok (.castore, 1)) :
    ∃ T' h', Sd n0 p l e R s m args below meth c T' h' k n ∧ Wr h h' a i (.int (nar .char x)) ∧ Avf Z h' a kc .char sz (fun t => if t = i then .int (nar .char x) else f t) ∧ ∀ target, Steps p.tables e below (T'.setTop { g with pc := g.pc + 1, stack := rest }) target → Steps p.tables e below (T.setTop g) target := by
  obtain ⟨L, X, N, q⟩ := X
  obtain ⟨cl, A, r1, r2, r3, r4⟩ := F
  obtain ⟨T', h', X', e', W, st⟩ := Jvm.RoadKit.stC X hx hZ q A (inb r2 hj hi hlt) hg hs hd
  subst hi
  exact ⟨T', h', ⟨_, X', Fr.snoc X' N ga, e'⟩, W, Avf.set ⟨cl, A, r1, r2, r3, r4⟩ W (fits_nar_char _), st⟩
theorem Sd.newRA (X : Sd n0 p l e R s m args below meth c T h k n) (hx : p.tables.exec = Jvm.exec) (hZ : Z.Warmed39 s.vm) {own C : String} {ty : FieldType} {index : Nat} (hown : s.vm.findClass own = some m.cls) (hC : (FieldType.array ty).toString = C) (w1 : (Cond.classLink own index C).before a0 Z = true) (w2 : (Cond.arrayOver (.array ty)).before a0 Z = true)
    {g : JFrame} (hg : g.method = m) (hd : decode c.code g.pc = .ok (.anewarray index, 3)) {z : Int32} {rest : List Value} (hs : g.stack = .int z :: rest)
    (hz : ¬ z < 0) {sz cap k' n' : Nat} (hsz : z.toNatClampNeg = sz) (hcap : sz ≤ cap) (hb : cap * 8 ≤ 536870912) (hk : k + 1 = k') (hn : n + cap = n') (hc : k' ≤ R.cells) (hl : n' ≤ R.slots) {ad : String} (had : "[" ++ C = ad) :
    ∃ T' h' kc a, Sd n0 p l e R s m args below meth c T' h' k' n' ∧ a = h.size ∧ Ext h h' ∧ Exa Z h' a ad ∧ Avf Z h' a kc (.array ty) sz (fun _ => .null) ∧ OvrA Z kc ty C ∧
      ∀ target, Steps p.tables e below (T'.setTop { g with pc := g.pc + 3, stack := .ref a :: rest }) target → Steps p.tables e below (T.setTop g) target := by
  subst hk hn hsz
  obtain ⟨L, X, N, q⟩ := X
  obtain ⟨T', h', kc, X', e', E, A, Ex, O, st⟩ := Jvm.RoadKit.newRA X hx hZ hown hC w1 w2 q hg hd hs hz hcap hb hc hl had
  exact ⟨T', h', kc, _, ⟨L, X', N, e'⟩, rfl, E, Ex, ⟨_, A, rfl, sz_new _ _ _, (back32 hz).2, fun i hi => ⟨by simp [newA, hi, defaultValue], rfl⟩⟩, O, st⟩
theorem Sd.stR (X : Sd n0 p l e R s m args below meth c T h k n) (hx : p.tables.exec = Jvm.exec) (hZ : Z.Warmed39 s.vm) {a : Addr} {kc : ClassId} {ty : FieldType} {sz : Nat} {f : Nat → Value} (F : Avf Z h a kc ty sz f) (ga : n0 ≤ a) (hty : ty.isReference = true) {j : Int32} {v : Value} (hv : v.isRef = true) (St : Sto Z h a v) (hj : ¬ j < 0) {i : Nat} (hi : j.toNatClampNeg = i) (hlt : i < sz)
    {g : JFrame} (hg : g.method = m) {rest : List Value} (hs : g.stack = v :: .int j :: .ref a :: rest) (hd : decode c.code g.pc = .ok (.aastore, 1)) :
    ∃ T' h', Sd n0 p l e R s m args below meth c T' h' k n ∧ Wr h h' a i v ∧ Avf Z h' a kc ty sz (fun t => if t = i then v else f t) ∧ ∀ target, Steps p.tables e below (T'.setTop { g with pc := g.pc + 1, stack := rest }) target → Steps p.tables e below (T.setTop g) target := by
  obtain ⟨L, X, N, q⟩ := X
  obtain ⟨cl, A, r1, r2, r3, r4⟩ := F
  obtain ⟨T', h', X', e', W, st⟩ := Jvm.RoadKit.stR X hx hZ q A (inb r2 hj hi hlt) hty St hg hs hd
  subst hi
  have hf : fits ty v = true := by cases ty <;> first | (cases hty; done) | (cases v <;> first | rfl | (cases hv; done))
  exact ⟨T', h', ⟨_, X', Fr.snoc X' N ga, e'⟩, W, Avf.set ⟨cl, A, r1, r2, r3, r4⟩ W hf, st⟩
theorem sto_avf {h : Heap} {a y : Addr} {kc : ClassId} {ty ty' : FieldType} {sz : Nat} {f : Nat → Value} {C : String} (F : Avf Z h a kc ty sz f) (O : OvrA Z kc ty' C) (I : Ins Z h y C true) : Sto Z h a (.ref y) := by
  obtain ⟨cl, A, r1, -⟩ := F
  exact Sto.ofVA A r1 O I
/-! calls -/
theorem Sd.callS (X : Sd n0 p l e R s m args below meth c T h k n) (hx : p.tables.exec = Jvm.exec) (hZ : Z.Warmed39 s.vm) {own : String} {index : Nat} {y : MethodName} {bytes : ByteArray} {maxL : Nat} {ret : Option FieldType} {rm : Room} {as' : Array Value} {Q : Option Value → Heap → Prop}
    (hown : s.vm.findClass own = some m.cls) (w1 : (Cond.methodLink own index y).before a0 Z = true) (w2 : (Cond.static y).before a0 Z = true) (w3 : (Cond.initialized y.cls).before a0 Z = true) (w4 : (Cond.code y bytes maxL ret).before a0 Z = true) (hy : y.cls ≠ "java/lang/invoke/MethodHandle" ∧ y.cls ≠ "java/lang/invoke/VarHandle")
    (hM : Met l Z n0 y bytes maxL ret [] rm as' h Q) {g : JFrame} (hg : g.method = m) (hsize : g.locals.size = c.maxLocals) {argsL rest : List Value} (hlen : ∀ sig, parseMethodDescriptor y.desc = some sig → argsL.length = sig.parameters.length)
    (hstack : g.stack = argsL.reverse ++ rest) (hd : decode c.code g.pc = .ok (.invokestatic index, 3)) (has : argsL.toArray = as') (hf : rm.frames + 1 ≤ R.frames) (hl : 2 * g.monitorRoom + (rest.map fun v => v.category).sum + (maxL + 11) + rm.locals ≤ R.locals)
    {k' n' : Nat} (hk : k + rm.cells = k') (hn : n + rm.slots = n') (hc : k' ≤ R.cells) (hs : n' ≤ R.slots) :
    ∃ v T' h', Sd n0 p l e R s m args below meth c T' h' k' n' ∧ Q v h' ∧ ∀ target, Steps p.tables e below (T'.setTop { g with pc := g.pc + 3, stack := v.toList ++ rest }) target → Steps p.tables e below (T.setTop g) target := by
  subst hk hn
  obtain ⟨L, X, N, q⟩ := X
  obtain ⟨v, _, ⟨T', L', k1, n1⟩, -, X', ⟨Lc, hQ, q1, q2, q3⟩, st⟩ := Jvm.LawKit.callS X hx (y := y) hown (mvT hZ w1) (mvT hZ w2) (mvT hZ w3) (mvT hZ w4) hy (backOf (Q := fun v h L => Q v h ∧ Fr n0 L) hM hZ w4 w3 hf hl) hg hsize hlen hstack (Nat.le_refl _) hd (fun _ _ => ⟨has, q, hc, hs⟩)
  dsimp only [Pt.U, Pt.locs, Pt.cells, Pt.slots] at X' q1 q2 q3 st hQ
  subst q1 q2 q3
  exact ⟨v, T', _, ⟨_, X', Fr.app N hQ.2, rfl⟩, hQ.1, st⟩
theorem Sd.callI (X : Sd n0 p l e R s m args below meth c T h k n) (hx : p.tables.exec = Jvm.exec) (hZ : Z.Warmed39 s.vm) {own : String} {index : Nat} {y : MethodName} {bytes : ByteArray} {maxL : Nat} {rm : Room} {as' : Array Value} {Q : Option Value → Heap → Prop} (hy1 : y.name = "<init>")
    (hown : s.vm.findClass own = some m.cls) (w1 : (Cond.methodLink own index y).before a0 Z = true) (w2 : (Cond.instanceMethod y).before a0 Z = true) (w3 : (Cond.initialized y.cls).before a0 Z = true) (w4 : (Cond.code y bytes maxL none).before a0 Z = true) (hy : y.cls ≠ "java/lang/invoke/MethodHandle" ∧ y.cls ≠ "java/lang/invoke/VarHandle")
    (hM : Met l Z n0 y bytes maxL none [] rm as' h Q) {g : JFrame} (hg : g.method = m) (hsize : g.locals.size = c.maxLocals) {a : Addr} {argsL rest : List Value} (hlen : ∀ sig, parseMethodDescriptor y.desc = some sig → argsL.length = sig.parameters.length)
    (hstack : g.stack = argsL.reverse ++ .ref a :: rest) (hd : decode c.code g.pc = .ok (.invokespecial index, 3)) (has : (.ref a :: argsL).toArray = as') (hf : rm.frames + 1 ≤ R.frames) (hl : 2 * g.monitorRoom + (rest.map fun v => v.category).sum + (maxL + 11) + rm.locals ≤ R.locals)
    {k' n' : Nat} (hk : k + rm.cells = k') (hn : n + rm.slots = n') (hc : k' ≤ R.cells) (hs : n' ≤ R.slots) :
    ∃ v T' h', Sd n0 p l e R s m args below meth c T' h' k' n' ∧ Q v h' ∧ ∀ target, Steps p.tables e below (T'.setTop { g with pc := g.pc + 3, stack := v.toList ++ rest }) target → Steps p.tables e below (T.setTop g) target := by
  subst hk hn
  obtain ⟨L, X, N, q⟩ := X
  obtain ⟨v, _, ⟨T', L', k1, n1⟩, -, X', ⟨Lc, hQ, q1, q2, q3⟩, st⟩ := X.specialBack hx (y := y) hy1 hown (mvT hZ w1) (mvT hZ w2) (mvT hZ w4) hy (backOf (Q := fun v h L => Q v h ∧ Fr n0 L) hM hZ w4 w3 hf hl) hg hsize (Steps.refl _) hlen hstack (Nat.le_refl _) hd (fun _ _ => ⟨has, q, hc, hs⟩)
  dsimp only [Pt.U, Pt.locs, Pt.cells, Pt.slots] at X' q1 q2 q3 st hQ
  subst q1 q2 q3
  exact ⟨v, T', _, ⟨_, X', Fr.app N hQ.2, rfl⟩, hQ.1, fun _ kt => st.trans kt⟩
theorem Sd.callV (X : Sd n0 p l e R s m args below meth c T h k n) (hx : p.tables.exec = Jvm.exec) (hZ : Z.Warmed39 s.vm) {own C : String} {index : Nat} {y z : MethodName} {bytes : ByteArray} {maxL : Nat} {ret : Option FieldType} {rm : Room} {as' : Array Value} {Q : Option Value → Heap → Prop}
    (hown : s.vm.findClass own = some m.cls) (w1 : (Cond.methodLink own index y).before a0 Z = true) (w2 : (Cond.declares y).before a0 Z = true) (hnf : NotFace s y) (w5 : (Cond.selects C y z).before a0 Z = true) (w6 : (Cond.instanceMethod z).before a0 Z = true) (w3 : (Cond.initialized z.cls).before a0 Z = true) (w4 : (Cond.code z bytes maxL ret).before a0 Z = true) (hy : y.cls ≠ "java/lang/invoke/MethodHandle" ∧ y.cls ≠ "java/lang/invoke/VarHandle")
    (hM : Met l Z n0 z bytes maxL ret [] rm as' h Q) {a : Addr} (E : Exa Z h a C) {g : JFrame} (hg : g.method = m) (hsize : g.locals.size = c.maxLocals) {argsL rest : List Value} (hlen : ∀ sig, parseMethodDescriptor y.desc = some sig → argsL.length = sig.parameters.length)
    (hstack : g.stack = argsL.reverse ++ .ref a :: rest) (hd : decode c.code g.pc = .ok (.invokevirtual index, 3)) (has : (.ref a :: argsL).toArray = as') (hf : rm.frames + 1 ≤ R.frames) (hl : 2 * g.monitorRoom + (rest.map fun v => v.category).sum + (maxL + 11) + rm.locals ≤ R.locals)
    {k' n' : Nat} (hk : k + rm.cells = k') (hn : n + rm.slots = n') (hc : k' ≤ R.cells) (hs : n' ≤ R.slots) :
    ∃ v T' h', Sd n0 p l e R s m args below meth c T' h' k' n' ∧ Q v h' ∧ ∀ target, Steps p.tables e below (T'.setTop { g with pc := g.pc + 3, stack := v.toList ++ rest }) target → Steps p.tables e below (T.setTop g) target := by
  subst hk hn
  obtain ⟨L, X, N, q⟩ := X
  obtain ⟨cB, kB, b1, b2, b3⟩ := isOf (T := T) hZ q E
  obtain ⟨v, _, ⟨T', L', k1, n1⟩, -, X', ⟨Lc, hQ, q1, q2, q3⟩, st⟩ := X.virtualBack hx (y := y) (z := z) hown (mvT hZ w1) (mvT hZ w2) hnf (mvT hZ w5) (mvT hZ w6) hy (backOf (Q := fun v h L => Q v h ∧ Fr n0 L) hM hZ w4 w3 hf hl) b1 b3 hg hsize (Steps.refl _) hlen hstack (Nat.le_refl _) hd (fun _ _ => ⟨has, q, hc, hs⟩)
  dsimp only [Pt.U, Pt.locs, Pt.cells, Pt.slots] at X' q1 q2 q3 st hQ
  subst q1 q2 q3
  exact ⟨v, T', _, ⟨_, X', Fr.app N hQ.2, rfl⟩, hQ.1, fun _ kt => st.trans kt⟩
theorem Sd.callP (X : Sd n0 p l e R s m args below meth c T h k n) (hx : p.tables.exec = Jvm.exec) (hZ : Z.Warmed39 s.vm) {own C : String} {index : Nat} {y : MethodName} {bytes : ByteArray} {maxL : Nat} {ret : Option FieldType} {rm : Room} {as' : Array Value} {Q : Option Value → Heap → Prop}
    (hown : s.vm.findClass own = some m.cls) (w1 : (Cond.methodLink own index y).before a0 Z = true) (w6 : (Cond.instanceMethod y).before a0 Z = true) (w5 : (Cond.selects y.cls y y).before a0 Z = true) (w7 : (Cond.privateMethod y).before a0 Z = true) (w3 : (Cond.initialized y.cls).before a0 Z = true) (w4 : (Cond.code y bytes maxL ret).before a0 Z = true) (hy : y.cls ≠ "java/lang/invoke/MethodHandle" ∧ y.cls ≠ "java/lang/invoke/VarHandle")
    (hM : Met l Z n0 y bytes maxL ret [] rm as' h Q) {a : Addr} (E : Exa Z h a C) {g : JFrame} (hg : g.method = m) (hsize : g.locals.size = c.maxLocals) {argsL rest : List Value} (hlen : ∀ sig, parseMethodDescriptor y.desc = some sig → argsL.length = sig.parameters.length)
    (hstack : g.stack = argsL.reverse ++ .ref a :: rest) (hd : decode c.code g.pc = .ok (.invokevirtual index, 3)) (has : (.ref a :: argsL).toArray = as') (hf : rm.frames + 1 ≤ R.frames) (hl : 2 * g.monitorRoom + (rest.map fun v => v.category).sum + (maxL + 11) + rm.locals ≤ R.locals)
    {k' n' : Nat} (hk : k + rm.cells = k') (hn : n + rm.slots = n') (hc : k' ≤ R.cells) (hs : n' ≤ R.slots) :
    ∃ v T' h', Sd n0 p l e R s m args below meth c T' h' k' n' ∧ Q v h' ∧ ∀ target, Steps p.tables e below (T'.setTop { g with pc := g.pc + 3, stack := v.toList ++ rest }) target → Steps p.tables e below (T.setTop g) target := by
  subst hk hn
  obtain ⟨L, X, N, q⟩ := X
  obtain ⟨cl, b1, b2⟩ := E.cell
  obtain ⟨v, _, ⟨T', L', k1, n1⟩, -, X', ⟨Lc, hQ, q1, q2, q3⟩, st⟩ := X.privateBack hx (y := y) hown (mvT hZ w1) (mvT hZ w6) (mvT hZ w5) (Cond.privateMethod_at (mvP hZ w7 (args := #[]))) (mvT hZ w4) hy (backOf (Q := fun v h L => Q v h ∧ Fr n0 L) hM hZ w4 w3 hf hl) hg hsize (Steps.refl _) (a := a) (by rw [q]; exact b1) b2 hlen hstack (Nat.le_refl _) hd (fun _ _ => ⟨has, q, hc, hs⟩)
  dsimp only [Pt.U, Pt.locs, Pt.cells, Pt.slots] at X' q1 q2 q3 st hQ
  subst q1 q2 q3
  exact ⟨v, T', _, ⟨_, X', Fr.app N hQ.2, rfl⟩, hQ.1, fun _ kt => st.trans kt⟩
theorem Sd.callU (X : Sd n0 p l e R s m args below meth c T h k n) (hx : p.tables.exec = Jvm.exec) (hZ : Z.Warmed39 s.vm) {own C owner : String} {index : Nat} {y z : MethodName} {bytes : ByteArray} {maxL : Nat} {ret : Option FieldType} {rm : Room} {as' : Array Value} {Q : Option Value → Heap → Prop}
    (hown : s.vm.findClass own = some m.cls) (w1 : (Cond.methodLink own index y).before a0 Z = true) (w2 : (Cond.sameMethod y.cls owner y.name y.desc).before a0 Z = true) (w7 : (Cond.declares ⟨owner, y.name, y.desc⟩).before a0 Z = true) (ho : owner ≠ "java/lang/invoke/MethodHandle" ∧ owner ≠ "java/lang/invoke/VarHandle") (w5 : (Cond.selects C y z).before a0 Z = true) (w6 : (Cond.instanceMethod z).before a0 Z = true) (w3 : (Cond.initialized z.cls).before a0 Z = true) (w4 : (Cond.code z bytes maxL ret).before a0 Z = true)
    (hM : Met l Z n0 z bytes maxL ret [] rm as' h Q) {a : Addr} (E : Exa Z h a C) {g : JFrame} (hg : g.method = m) (hsize : g.locals.size = c.maxLocals) {argsL rest : List Value} (hlen : ∀ sig, parseMethodDescriptor y.desc = some sig → argsL.length = sig.parameters.length)
    (hstack : g.stack = argsL.reverse ++ .ref a :: rest) (hd : decode c.code g.pc = .ok (.invokevirtual index, 3)) (has : (.ref a :: argsL).toArray = as') (hf : rm.frames + 1 ≤ R.frames) (hl : 2 * g.monitorRoom + (rest.map fun v => v.category).sum + (maxL + 11) + rm.locals ≤ R.locals)
    {k' n' : Nat} (hk : k + rm.cells = k') (hn : n + rm.slots = n') (hc : k' ≤ R.cells) (hs : n' ≤ R.slots) :
    ∃ v T' h', Sd n0 p l e R s m args below meth c T' h' k' n' ∧ Q v h' ∧ ∀ target, Steps p.tables e below (T'.setTop { g with pc := g.pc + 3, stack := v.toList ++ rest }) target → Steps p.tables e below (T.setTop g) target := by
  subst hk hn
  obtain ⟨L, X, N, q⟩ := X
  obtain ⟨cB, kB, b1, b2, b3⟩ := isOf (T := T) hZ q E
  obtain ⟨v, _, ⟨T', L', k1, n1⟩, -, X', ⟨Lc, hQ, q1, q2, q3⟩, st⟩ := X.virtualBackUp hx (x := y) (y := z) hown (mvT hZ w1) (mvT hZ w2) (mvT hZ w7) ho (mvT hZ w5) (mvT hZ w6) (backOf (Q := fun v h L => Q v h ∧ Fr n0 L) hM hZ w4 w3 hf hl) b1 b3 hg hsize (Steps.refl _) hlen hstack (Nat.le_refl _) hd (fun _ _ => ⟨has, q, hc, hs⟩)
  dsimp only [Pt.U, Pt.locs, Pt.cells, Pt.slots] at X' q1 q2 q3 st hQ
  subst q1 q2 q3
  exact ⟨v, T', _, ⟨_, X', Fr.app N hQ.2, rfl⟩, hQ.1, fun _ kt => st.trans kt⟩
theorem Sd.instNo (X : Sd n0 p l e R s m args below meth c T h k n) (hx : p.tables.exec = Jvm.exec) (hZ : Z.Warmed39 s.vm) {own K C : String} {index : Nat} (hown : s.vm.findClass own = some m.cls) (w : (Cond.classLink own index K).before a0 Z = true) {a : Addr} (E : Exa Z h a C) (F : ∃ c t, Z.vm.findClass C = some c ∧ Z.vm.findClass K = some t ∧ Z.vm.assignable c t = false)
    {g : JFrame} (hg : g.method = m) {rest : List Value} (hs : g.stack = .ref a :: rest) (hd : decode c.code g.pc = .ok (.instanceof index, 3)) :
    ∃ T', Sd n0 p l e R s m args below meth c T' h k n ∧ ∀ target, Steps p.tables e below (T'.setTop { g with pc := g.pc + 3, stack := .int 0 :: rest }) target → Steps p.tables e below (T.setTop g) target := by
  obtain ⟨L, X, N, q⟩ := X
  obtain ⟨T', X', e', st⟩ := Jvm.RoadKit.instNo X hx hZ hown w q E F hg hs hd
  exact ⟨T', ⟨L, X', N, e'⟩, st⟩
theorem ns_root {O K : String} {kk : Nat} (w : (Cond.noSuperclass O).before a0 Z = true) (wk : (Cond.instantiable K kk).before a0 Z = true) (hn : O ≠ K) : NS Z O K := by
  obtain ⟨c, k, h1, h2, h3, -, -⟩ := Cond.noSuperclass_spec w
  obtain ⟨t, k2, g1, -⟩ := Cond.instantiable_spec wk
  have ne := ids_ne h1 g1 hn
  refine ⟨c, t, h1, g1, fun fuel => ?_⟩
  cases fuel with
  | zero => rfl
  | succ f => simp [Vm.isSubclassAux, ne, h2, h3]
theorem ns_no {C K : String} {k1 k2 : Nat} (w : (Cond.instantiable C k1).before a0 Z = true) (wk : (Cond.instantiable K k2).before a0 Z = true) (n : NS Z C K) (hn : C ≠ K) : ∃ c t, Z.vm.findClass C = some c ∧ Z.vm.findClass K = some t ∧ Z.vm.assignable c t = false := by
  obtain ⟨c, t, h0, g0, n3⟩ := n
  obtain ⟨c', kc, h1, h2, h3, h4, -⟩ := Cond.instantiable_spec w
  obtain ⟨t', kt, g1, g2, g3, g4, -⟩ := Cond.instantiable_spec wk
  cases h0.symm.trans h1
  cases g0.symm.trans g1
  have ne := ids_ne h0 g0 hn
  refine ⟨c, t, h0, g0, ?_⟩
  have g5 : kt.isInterface = false := by simp at g4; exact g4.1
  show Z.vm.assignableAux (255 + 1) c t = false
  simp [Vm.assignableAux, ne, h2, g2, h3, g3, g5, Vm.isSubclass, n3]
theorem keep_ext {h h' : Heap} (K : Keep h h' []) : Ext h h' := ⟨K.1, fun x c q => K.2.1 x c q nin0⟩
theorem Exa.plain {h : Heap} {a : Addr} {C : String} (F : Exa Z h a C) : ∀ cell : Cell, h[a]? = some cell → cell.vm.isStatics = false := fun cell hc => by
  obtain ⟨c, k, h1, -, -, h4, -⟩ := F
  cases h1.symm.trans hc; exact h4
theorem Avf.plain {h : Heap} {a : Addr} {kc : ClassId} {ty : FieldType} {sz : Nat} {f : Nat → Value} (F : Avf Z h a kc ty sz f) : ∀ cell : Cell, h[a]? = some cell → cell.vm.isStatics = false := fun cell hc => by
  obtain ⟨cl, A, -⟩ := F
  cases A.1.symm.trans hc; exact Arr.plain A
theorem Sta.keepN {h h' : Heap} {C f d : String} {v : Value} {ws : List Addr} (F : Sta Z h C f d v) (K : Keep h h' ws) (q : ∀ x ∈ ws, ∀ cell : Cell, h[x]? = some cell → cell.vm.isStatics = false) : Sta Z h' C f d v := by
  obtain ⟨cf, i, k, fl, st, cell, h1, h2, h3, h4, h5, h6, h7⟩ := F
  exact ⟨cf, i, k, fl, st, cell, h1, h2, h3, h4, K.2.1 st cell h5 (fun z => by rw [q st z cell h5] at h6; cases h6), h6, h7⟩
/-! at the start -/
theorem sta_exa {args : Array Value} {C f d K : String} (hx : (Cond.exactly (.static C f d) K).value args Z none Z [] = some true) (wi : (Cond.initialized C).before args Z = true) (wl : (Cond.laysStatic C f d).before args Z = true) : ∃ a, (Term.static C f d).eval args Z none [] Z = some (.ref a) ∧ Sta Z Z.heap C f d (.ref a) ∧ Exa Z Z.heap a K := by
  obtain ⟨a, ev⟩ := exa_v hx
  exact ⟨a, ev, Sta.start ev (Or.inr ⟨wi, wl⟩), Exa.start ev hx⟩
theorem sta_arr {args : Array Value} {C f d : String} {ty : FieldType} (hx : (Cond.arrayOf (.static C f d) ty).value args Z none Z [] = some true) (wi : (Cond.initialized C).before args Z = true) (wl : (Cond.laysStatic C f d).before args Z = true) : ∃ a cl, (Term.static C f d).eval args Z none [] Z = some (.ref a) ∧ Sta Z Z.heap C f d (.ref a) ∧ Arr Z Z.heap a cl ty := by
  obtain ⟨a, ev⟩ := arr_v hx
  obtain ⟨cl, A⟩ := Arr.start ev hx
  exact ⟨a, cl, ev, Sta.start ev (Or.inr ⟨wi, wl⟩), A⟩
theorem int_of_eq {args : Array Value} {t : Term} {kk : Int32} (h : (Cond.eq t (.int kk)).value args Z none Z [] = some true) : t.eval args Z none [] Z = some (.int kk) := by
  obtain ⟨x, y, h1, h2, k1, k2⟩ := cmp_v (Or.inl h)
  cases (Option.some.inj h2 : Value.int kk = y)
  obtain ⟨z, rfl⟩ : ∃ z, x = .int z := k2
  have q : z = kk := by simpa [Cond.value, h1, Term.eval] using h
  rw [h1, q]
theorem fld_eq {args : Array Value} {t : Term} {C f d : String} {a : Addr} {kk : Int32} (ht : t.eval args Z none [] Z = some (.ref a)) (h : (Cond.eq (.field t C f d) (.int kk)).value args Z none Z [] = some true) : Fld Z Z.heap a C f d (.int kk) :=
  Fld.start ((fld_at ht).symm.trans (int_of_eq h))
theorem ref_of_eq {args : Array Value} {t u : Term} {a : Addr} (hu : u.eval args Z none [] Z = some (.ref a)) (h : (Cond.eq t u).value args Z none Z [] = some true) : t.eval args Z none [] Z = some (.ref a) := by
  obtain ⟨x, y, h1, h2, k1, k2⟩ := cmp_v (Or.inl h)
  cases (Option.some.inj (hu.symm.trans h2) : Value.ref a = y)
  have kx : x.isRef = true := k2.2
  rw [h1, gotT (eq_R h1 hu kx rfl) h]
theorem avf_len {args : Array Value} {t : Term} {a : Addr} {cl : Cell} {ty : FieldType} {z : Int32} {sz : Nat} (A : Arr Z Z.heap a cl ty) (ev : t.eval args Z none [] Z = some (.ref a)) (h : (Term.length t).eval args Z none [] Z = some (.int z)) (hz : z.toNatClampNeg = sz) : cl.slots.size = sz := by
  have ha : Z.arrayAt? a = some cl := A.fin (Vm.Alike.refl _)
  simp only [Term.eval, ev, ha, Option.bind_eq_bind, Option.bind_some] at h
  split at h
  · rename_i hl
    have e : cl.slots.size.toInt32 = z := by simpa using h
    rw [← hz, ← e]
    have q := len_toInt hl
    simp only [Int32.toNatClampNeg, q]; omega
  · cases h
theorem iremS {g : JFrame} {target : State} (X : Sd n0 p l e R s m args below meth c T h k n) (hx : p.tables.exec = Jvm.exec) (hg : g.method = m) {x y : Int32} {rest : List Value} (hd : decode c.code g.pc = .ok (.irem, 1)) (hs : g.stack = .int y :: .int x :: rest) (hy : y ≠ 0)
    (hr : Steps p.tables e below (T.setTop { g with pc := g.pc + 1, stack := .int (x % y) :: rest }) target) : Steps p.tables e below (T.setTop g) target := by
  obtain ⟨L, X, -⟩ := X; exact iremM X hx hg hd hs hy hr
end Sds
end Jvm.RoadKit
namespace Jvm.Pilot.@@N@@
open Jvm Jvm.ClassFile Sem Op Lib Jvm.Free Jvm.Stand Jvm.LawKit Jvm.RoadKit Bundle Jvm.Pilot.@@N@@.Jvm.D
theorem tw {a0 : Array Value} {Z : State} (hw : ∀ d ∈ tables_1, d.before a0 Z = true) (i : Nat) {d : Jvm.Cond} (h : tables_1[i]? = some d) : d.before a0 Z = true := hw _ (List.mem_of_getElem? h)
theorem own_m4 (x : Int32) : (x &&& (3 : Int32)) = 0 ∨ (x &&& (3 : Int32)) = 1 ∨ (x &&& (3 : Int32)) = 2 ∨ (x &&& (3 : Int32)) = 3 := by
  have q := c_mask x 3 2 (by decide) (by decide)
  have e0 : (0 : Int32).toInt = 0 := rfl
  have e1 : (1 : Int32).toInt = 1 := rfl
  have e2 : (2 : Int32).toInt = 2 := rfl
  have e3 : (3 : Int32).toInt = 3 := rfl
  simp only [← Int32.toInt_inj, e0, e1, e2, e3]
  omega
theorem own_m8 (x : Int32) : ¬ (x &&& (7 : Int32)) < 0 ∧ (x &&& (7 : Int32)).toNatClampNeg ≤ 7 := by
  have q := c_mask x 7 3 (by decide) (by decide)
  have e0 : (0 : Int32).toInt = 0 := rfl
  refine ⟨?_, ?_⟩
  · rw [Int32.lt_iff_toInt_lt, e0]; omega
  · simp only [Int32.toNatClampNeg]; omega
theorem d1_0 : decode prog_11_method_1_code 0 = .ok (.aload_n 0, 1) := by decide +kernel
theorem d1_1 : decode prog_11_method_1_code 1 = .ok (.invokespecial 1, 3) := by decide +kernel
theorem d1_4 : decode prog_11_method_1_code 4 = .ok (.aload_n 0, 1) := by decide +kernel
theorem d1_5 : decode prog_11_method_1_code 5 = .ok (.iconst 0, 1) := by decide +kernel
theorem d1_6 : decode prog_11_method_1_code 6 = .ok (.anewarray 7, 3) := by decide +kernel
theorem d1_9 : decode prog_11_method_1_code 9 = .ok (.putfield 9, 3) := by decide +kernel
theorem d1_12 : decode prog_11_method_1_code 12 = .ok (.return_, 1) := by decide +kernel
abbrev Rm1 : Room := { frames := 1, cells := 1, slots := 0, locals := 12 }
theorem pn0 : plainName "com/example/bitstrata/bitstrata/bitmap/Formula$Workspace" = true := by first | (simp [plainName, overriddenIn]; done) | decide +kernel
set_option maxRecDepth 65536 in
set_option maxHeartbeats 40000000 in
theorem rm1 (l : Launch) (Z : State) (a0 : Array Value) (hw : ∀ d ∈ tables_1, d.before a0 Z = true) (ws : List Jvm.Cond) (a1 : Addr) (h0 : Heap) (n0 : Nat) (Z0 : n0 ≤ h0.size) (E_a1 : Exa Z h0 a1 "com/example/bitstrata/bitstrata/bitmap/Formula$Workspace") (g_a1 : n0 ≤ a1) (F_v : Fld Z h0 a1 "com/example/bitstrata/bitstrata/bitmap/Formula$Workspace" "vectors" "[[J" .null) :
    Met l Z n0 (⟨"com/example/bitstrata/bitstrata/bitmap/Formula$Workspace", "<init>", "()V"⟩ : MethodName) prog_11_method_1_code 1 none ws Rm1 #[(.ref a1)] h0 (fun v h => ∃ o kO, v = none ∧ h0.size ≤ o ∧ Keep h0 h [a1] ∧ Exa Z h a1 "com/example/bitstrata/bitstrata/bitmap/Formula$Workspace" ∧ Fld Z h a1 "com/example/bitstrata/bitstrata/bitmap/Formula$Workspace" "vectors" "[[J" (.ref o) ∧ Avf Z h o kO (.array .long) 0 (fun _ => .null)) := by
  refine enter (Ls := #[.val (.ref a1)]) (plainFor_of_name pn0) (fun m => by first | (simp [entryFrame, mkF, argsToLocals, Value.category]; done) | rfl) ?_
  intro p e s m below meth c T0 hx hby hml hown hnm hret hlk hZ X0
  have K0 := Keep.refl h0 [a1]
  show Go p.tables e below _ (T0.setTop (mkF m 0 #[.val (.ref a1)] []))
  refine Go.by (fun _ => XS.aloadN X0.here hx rfl (hb hby d1_0) rfl rfl) ?_
  show Go p.tables e below _ (T0.setTop (mkF m 1 #[.val (.ref a1)] [(.ref a1)]))
  obtain ⟨T1, X1, st1⟩ := X0.initO hx hZ hown (tw hw 6 rfl) (tw hw 7 rfl) (tw hw 8 rfl) (g := (mkF m 1 #[.val (.ref a1)] [(.ref a1)])) rfl (by rw [hml]; rfl) rfl (hb hby d1_1) (by decide) (Nat.le_of_ble_eq_true rfl)
  refine Go.by st1 ?_
  show Go p.tables e below _ (T1.setTop (mkF m 4 #[.val (.ref a1)] []))
  refine Go.by (fun _ => XS.aloadN X1.here hx rfl (hb hby d1_4) rfl rfl) ?_
  show Go p.tables e below _ (T1.setTop (mkF m 5 #[.val (.ref a1)] [(.ref a1)]))
  refine Go.by (fun _ => XS.iconst X1.here hx rfl (hb hby d1_5)) ?_
  show Go p.tables e below _ (T1.setTop (mkF m 6 #[.val (.ref a1)] [(.int (0 : Int32)), (.ref a1)]))
  obtain ⟨T2, h2, kc2, b2, X2, g2, E2, A2, V2, Ov2, st2⟩ := X1.newRA hx hZ hown (ty := .long) (C := "[J") (by decide) (tw hw 9 rfl) (tw hw 10 rfl) (g := (mkF m 6 #[.val (.ref a1)] [(.int (0 : Int32)), (.ref a1)])) rfl (hb hby d1_6) rfl (by decide) (sz := 0) (cap := 0) (k' := 1) (n' := 0) rfl (Nat.le_refl _) (by decide) rfl rfl (by decide) (by decide) (ad := "[[J") (by decide)
  have g_b2 : n0 ≤ b2 := by rw [g2]; exact Z0
  have sz_b2 : h0.size ≤ b2 := by rw [g2]; exact K0.1
  have ne_a1_b2 : a1 ≠ b2 := Nat.ne_of_lt (by rw [g2]; exact E_a1.lt)
  have f3_15 := E_a1.ext E2
  have f3_16 := F_v.ext E2
  have f3_17 := K0.ext E2
  have Zs3 : n0 ≤ h2.size := Nat.le_trans Z0 E2.1
  refine Go.by st2 ?_
  show Go p.tables e below _ (T2.setTop (mkF m 9 #[.val (.ref a1)] [(.ref b2), (.ref a1)]))
  obtain ⟨T4, h4, X4, W4, st4⟩ := X2.putF hx hZ hown (host := "") (Or.inl (tw hw 11 rfl)) Via.refl f3_16 f3_15 g_a1 (Or.inl (tw hw 12 rfl)) (tw hw 1 rfl) (ty := (.array (.array .long))) (by decide) rfl rfl (g := (mkF m 9 #[.val (.ref a1)] [(.ref b2), (.ref a1)])) rfl rfl (hb hby d1_9)
  have Fw4 := f3_16.same W4
  have f5_23 := f3_15.wr W4
  have f5_24 := f3_17.wr W4 (Or.inl (List.mem_of_getElem? (i := 0) rfl))
  have f5_25 := A2.wr W4
  have f5_26 := Avf.other V2 W4 (Ne.symm ne_a1_b2)
  have Zs5 : n0 ≤ h4.size := by rw [W4.size]; exact Zs3
  refine Go.by st4 ?_
  show Go p.tables e below _ (T4.setTop (mkF m 12 #[.val (.ref a1)] []))
  exact Go.ret0 X4 hx hlk hret (hb hby d1_12) (by decide) (by decide) ⟨b2, kc2, rfl, sz_b2, f5_24, f5_23, Fw4, f5_26⟩
theorem d3_0 : decode prog_11_method_2_code 0 = .ok (.aload_n 0, 1) := by decide +kernel
theorem d3_1 : decode prog_11_method_2_code 1 = .ok (.getfield 9, 3) := by decide +kernel
theorem d3_4 : decode prog_11_method_2_code 4 = .ok (.arraylength, 1) := by decide +kernel
theorem d3_5 : decode prog_11_method_2_code 5 = .ok (.iload_n 1, 1) := by decide +kernel
theorem d3_6 : decode prog_11_method_2_code 6 = .ok (.if_icmp .lt 18, 3) := by decide +kernel
theorem d3_9 : decode prog_11_method_2_code 9 = .ok (.iload_n 1, 1) := by decide +kernel
theorem d3_10 : decode prog_11_method_2_code 10 = .ok (.ifCond .le 24, 3) := by decide +kernel
theorem d3_34 : decode prog_11_method_2_code 34 = .ok (.aload_n 0, 1) := by decide +kernel
theorem d3_35 : decode prog_11_method_2_code 35 = .ok (.getfield 9, 3) := by decide +kernel
theorem d3_38 : decode prog_11_method_2_code 38 = .ok (.areturn, 1) := by decide +kernel
abbrev Rm3_00 : Room := { frames := 0, cells := 0, slots := 0, locals := 0 }
set_option maxRecDepth 65536 in
set_option maxHeartbeats 40000000 in
theorem rm3_00 (l : Launch) (Z : State) (a0 : Array Value) (hw : ∀ d ∈ tables_1, d.before a0 Z = true) (ws : List Jvm.Cond) (a1 : Addr) (w1 : Int32) (o : Addr) (kO : ClassId) (fo : Nat → Value) (h0 : Heap) (n0 : Nat) (Z0 : n0 ≤ h0.size) (E_a1 : Exa Z h0 a1 "com/example/bitstrata/bitstrata/bitmap/Formula$Workspace") (g_a1 : n0 ≤ a1) (F_v : Fld Z h0 a1 "com/example/bitstrata/bitstrata/bitmap/Formula$Workspace" "vectors" "[[J" (.ref o)) (V_o : Avf Z h0 o kO (.array .long) 0 fo) (hw0 : ¬ w1 < 0) (hw7 : w1.toNatClampNeg ≤ 7) :
    Met l Z n0 (⟨"com/example/bitstrata/bitstrata/bitmap/Formula$Workspace", "vectors", "(II)[[J"⟩ : MethodName) prog_11_method_2_code 3 (some (.array (.array .long))) ws Rm3_00 #[(.ref a1), (.int (0 : Int32)), (.int w1)] h0 (fun v h => v = some (.ref o) ∧ h0 = h) := by
  refine enter (Ls := #[.val (.ref a1), .val (.int (0 : Int32)), .val (.int w1)]) (plainFor_of_name pn0) (fun m => by first | (simp [entryFrame, mkF, argsToLocals, Value.category]; done) | rfl) ?_
  intro p e s m below meth c T0 hx hby hml hown hnm hret hlk hZ X0
  have K0 := Keep.refl h0 [a1]
  show Go p.tables e below _ (T0.setTop (mkF m 0 #[.val (.ref a1), .val (.int (0 : Int32)), .val (.int w1)] []))
  refine Go.by (fun _ => XS.aloadN X0.here hx rfl (hb hby d3_0) rfl rfl) ?_
  show Go p.tables e below _ (T0.setTop (mkF m 1 #[.val (.ref a1), .val (.int (0 : Int32)), .val (.int w1)] [(.ref a1)]))
  obtain ⟨T1, X1, st1⟩ := X0.getF hx hZ hown (host := "") (Or.inl (tw hw 11 rfl)) Via.refl F_v (g := (mkF m 1 #[.val (.ref a1), .val (.int (0 : Int32)), .val (.int w1)] [(.ref a1)])) rfl rfl (hb hby d3_1)
  refine Go.by st1 ?_
  show Go p.tables e below _ (T1.setTop (mkF m 4 #[.val (.ref a1), .val (.int (0 : Int32)), .val (.int w1)] [(.ref o)]))
  refine Go.by (X1.len hx hZ V_o (z := (0 : Int32)) rfl (g := (mkF m 4 #[.val (.ref a1), .val (.int (0 : Int32)), .val (.int w1)] [(.ref o)])) rfl rfl (hb hby d3_4)) ?_
  show Go p.tables e below _ (T1.setTop (mkF m 5 #[.val (.ref a1), .val (.int (0 : Int32)), .val (.int w1)] [(.int (0 : Int32))]))
  refine Go.by (fun _ => XS.iloadN X1.here hx rfl (hb hby d3_5) rfl) ?_
  show Go p.tables e below _ (T1.setTop (mkF m 6 #[.val (.ref a1), .val (.int (0 : Int32)), .val (.int w1)] [(.int (0 : Int32)), (.int (0 : Int32))]))
  refine Go.by (fun _ => XS.icmpNo X1.here hx rfl (hb hby d3_6) rfl (flt (by decide)).1) ?_
  show Go p.tables e below _ (T1.setTop (mkF m 9 #[.val (.ref a1), .val (.int (0 : Int32)), .val (.int w1)] []))
  refine Go.by (fun _ => XS.iloadN X1.here hx rfl (hb hby d3_9) rfl) ?_
  show Go p.tables e below _ (T1.setTop (mkF m 10 #[.val (.ref a1), .val (.int (0 : Int32)), .val (.int w1)] [(.int (0 : Int32))]))
  refine Go.by (fun _ => XS.ifYes X1.here hx rfl (pc0 := 10) (pc' := 34) rfl (hb hby d3_10) rfl ((if0 _ _).trans (flt (by decide)).2.2.2) (by decide) (by decide)) ?_
  show Go p.tables e below _ (T1.setTop (mkF m 34 #[.val (.ref a1), .val (.int (0 : Int32)), .val (.int w1)] []))
  refine Go.by (fun _ => XS.aloadN X1.here hx rfl (hb hby d3_34) rfl rfl) ?_
  show Go p.tables e below _ (T1.setTop (mkF m 35 #[.val (.ref a1), .val (.int (0 : Int32)), .val (.int w1)] [(.ref a1)]))
  obtain ⟨T2, X2, st2⟩ := X1.getF hx hZ hown (host := "") (Or.inl (tw hw 11 rfl)) Via.refl F_v (g := (mkF m 35 #[.val (.ref a1), .val (.int (0 : Int32)), .val (.int w1)] [(.ref a1)])) rfl rfl (hb hby d3_35)
  refine Go.by st2 ?_
  show Go p.tables e below _ (T2.setTop (mkF m 38 #[.val (.ref a1), .val (.int (0 : Int32)), .val (.int w1)] [(.ref o)]))
  exact Go.retA X2 hx hlk hret rfl rfl (hb hby d3_38) (by decide) (by decide) ⟨rfl, rfl⟩
theorem d3_24 : decode prog_11_method_2_code 24 = .ok (.aload_n 0, 1) := by decide +kernel
theorem d3_25 : decode prog_11_method_2_code 25 = .ok (.iload_n 1, 1) := by decide +kernel
theorem d3_26 : decode prog_11_method_2_code 26 = .ok (.iload_n 2, 1) := by decide +kernel
theorem d3_27 : decode prog_11_method_2_code 27 = .ok (.multianewarray 15 2, 4) := by decide +kernel
theorem d3_31 : decode prog_11_method_2_code 31 = .ok (.putfield 9, 3) := by decide +kernel
abbrev Rm3_01 : Room := { frames := 0, cells := 2, slots := 8, locals := 0 }
set_option maxRecDepth 65536 in
set_option maxHeartbeats 40000000 in
theorem rm3_01 (l : Launch) (Z : State) (a0 : Array Value) (hw : ∀ d ∈ tables_1, d.before a0 Z = true) (ws : List Jvm.Cond) (a1 : Addr) (w1 : Int32) (o : Addr) (kO : ClassId) (fo : Nat → Value) (h0 : Heap) (n0 : Nat) (Z0 : n0 ≤ h0.size) (E_a1 : Exa Z h0 a1 "com/example/bitstrata/bitstrata/bitmap/Formula$Workspace") (g_a1 : n0 ≤ a1) (F_v : Fld Z h0 a1 "com/example/bitstrata/bitstrata/bitmap/Formula$Workspace" "vectors" "[[J" (.ref o)) (V_o : Avf Z h0 o kO (.array .long) 0 fo) (hw0 : ¬ w1 < 0) (hw7 : w1.toNatClampNeg ≤ 7) :
    Met l Z n0 (⟨"com/example/bitstrata/bitstrata/bitmap/Formula$Workspace", "vectors", "(II)[[J"⟩ : MethodName) prog_11_method_2_code 3 (some (.array (.array .long))) ws Rm3_01 #[(.ref a1), (.int (1 : Int32)), (.int w1)] h0 (fun v h => (∃ r kc kd, v = some (.ref r) ∧ h0.size ≤ r ∧ Keep h0 h [a1] ∧ Exa Z h a1 "com/example/bitstrata/bitstrata/bitmap/Formula$Workspace" ∧ Fld Z h a1 "com/example/bitstrata/bitstrata/bitmap/Formula$Workspace" "vectors" "[[J" (.ref r) ∧ Avf Z h r kc (.array .long) 1 (fun i => .ref (r + 1 + i)) ∧ ∀ i, i < 1 → Avf Z h (r + 1 + i) kd .long (w1.toNatClampNeg) (fun _ => (.long 0)))) := by
  refine enter (Ls := #[.val (.ref a1), .val (.int (1 : Int32)), .val (.int w1)]) (plainFor_of_name pn0) (fun m => by first | (simp [entryFrame, mkF, argsToLocals, Value.category]; done) | rfl) ?_
  intro p e s m below meth c T0 hx hby hml hown hnm hret hlk hZ X0
  have K0 := Keep.refl h0 [a1]
  show Go p.tables e below _ (T0.setTop (mkF m 0 #[.val (.ref a1), .val (.int (1 : Int32)), .val (.int w1)] []))
  refine Go.by (fun _ => XS.aloadN X0.here hx rfl (hb hby d3_0) rfl rfl) ?_
  show Go p.tables e below _ (T0.setTop (mkF m 1 #[.val (.ref a1), .val (.int (1 : Int32)), .val (.int w1)] [(.ref a1)]))
  obtain ⟨T1, X1, st1⟩ := X0.getF hx hZ hown (host := "") (Or.inl (tw hw 11 rfl)) Via.refl F_v (g := (mkF m 1 #[.val (.ref a1), .val (.int (1 : Int32)), .val (.int w1)] [(.ref a1)])) rfl rfl (hb hby d3_1)
  refine Go.by st1 ?_
  show Go p.tables e below _ (T1.setTop (mkF m 4 #[.val (.ref a1), .val (.int (1 : Int32)), .val (.int w1)] [(.ref o)]))
  refine Go.by (X1.len hx hZ V_o (z := (0 : Int32)) rfl (g := (mkF m 4 #[.val (.ref a1), .val (.int (1 : Int32)), .val (.int w1)] [(.ref o)])) rfl rfl (hb hby d3_4)) ?_
  show Go p.tables e below _ (T1.setTop (mkF m 5 #[.val (.ref a1), .val (.int (1 : Int32)), .val (.int w1)] [(.int (0 : Int32))]))
  refine Go.by (fun _ => XS.iloadN X1.here hx rfl (hb hby d3_5) rfl) ?_
  show Go p.tables e below _ (T1.setTop (mkF m 6 #[.val (.ref a1), .val (.int (1 : Int32)), .val (.int w1)] [(.int (1 : Int32)), (.int (0 : Int32))]))
  refine Go.by (fun _ => XS.icmpYes X1.here hx rfl (pc0 := 6) (pc' := 24) rfl (hb hby d3_6) rfl (tlt (by decide)).1 (by decide) (by decide)) ?_
  show Go p.tables e below _ (T1.setTop (mkF m 24 #[.val (.ref a1), .val (.int (1 : Int32)), .val (.int w1)] []))
  refine Go.by (fun _ => XS.aloadN X1.here hx rfl (hb hby d3_24) rfl rfl) ?_
  show Go p.tables e below _ (T1.setTop (mkF m 25 #[.val (.ref a1), .val (.int (1 : Int32)), .val (.int w1)] [(.ref a1)]))
  refine Go.by (fun _ => XS.iloadN X1.here hx rfl (hb hby d3_25) rfl) ?_
  show Go p.tables e below _ (T1.setTop (mkF m 26 #[.val (.ref a1), .val (.int (1 : Int32)), .val (.int w1)] [(.int (1 : Int32)), (.ref a1)]))
  refine Go.by (fun _ => XS.iloadN X1.here hx rfl (hb hby d3_26) rfl) ?_
  show Go p.tables e below _ (T1.setTop (mkF m 27 #[.val (.ref a1), .val (.int (1 : Int32)), .val (.int w1)] [(.int w1), (.int (1 : Int32)), (.ref a1)]))
  obtain ⟨T2, h2, kc2, kd2, b2, X2, g2, E2, A2, V2, VV2, st2⟩ := X1.grid hx hZ hown (tw hw 25 rfl) (tw hw 10 rfl) (tw hw 26 rfl) (g := (mkF m 27 #[.val (.ref a1), .val (.int (1 : Int32)), .val (.int w1)] [(.int w1), (.int (1 : Int32)), (.ref a1)])) rfl (hb hby d3_27) rfl (by decide) hw0 (N := 1) (sz := w1.toNatClampNeg) (cap := 7) (k' := 2) (n' := 8) rfl rfl hw7 (by decide) (by decide) rfl rfl (by decide) (by decide)
  have g_b2 : n0 ≤ b2 := by rw [g2]; exact Z0
  have sz_b2 : h0.size ≤ b2 := by rw [g2]; exact K0.1
  have ne_a1_b2 : a1 ≠ b2 := Nat.ne_of_lt (by rw [g2]; exact E_a1.lt)
  have f3_23 := E_a1.ext E2
  have f3_24 := F_v.ext E2
  have f3_25 := K0.ext E2
  have Zs3 : n0 ≤ h2.size := Nat.le_trans Z0 E2.1
  refine Go.by st2 ?_
  show Go p.tables e below _ (T2.setTop (mkF m 31 #[.val (.ref a1), .val (.int (1 : Int32)), .val (.int w1)] [(.ref b2), (.ref a1)]))
  obtain ⟨T4, h4, X4, W4, st4⟩ := X2.putF hx hZ hown (host := "") (Or.inl (tw hw 11 rfl)) Via.refl f3_24 f3_23 g_a1 (Or.inl (tw hw 12 rfl)) (tw hw 1 rfl) (ty := (.array (.array .long))) (by decide) rfl rfl (g := (mkF m 31 #[.val (.ref a1), .val (.int (1 : Int32)), .val (.int w1)] [(.ref b2), (.ref a1)])) rfl rfl (hb hby d3_31)
  have Fw4 := f3_24.same W4
  have f5_31 := f3_23.wr W4
  have f5_32 := f3_25.wr W4 (Or.inl (List.mem_of_getElem? (i := 0) rfl))
  have f5_33 := Avf.other V2 W4 (Ne.symm ne_a1_b2)
  have Zs5 : n0 ≤ h4.size := by rw [W4.size]; exact Zs3
  refine Go.by st4 ?_
  show Go p.tables e below _ (T4.setTop (mkF m 34 #[.val (.ref a1), .val (.int (1 : Int32)), .val (.int w1)] []))
  refine Go.by (fun _ => XS.aloadN X4.here hx rfl (hb hby d3_34) rfl rfl) ?_
  show Go p.tables e below _ (T4.setTop (mkF m 35 #[.val (.ref a1), .val (.int (1 : Int32)), .val (.int w1)] [(.ref a1)]))
  obtain ⟨T6, X6, st6⟩ := X4.getF hx hZ hown (host := "") (Or.inl (tw hw 11 rfl)) Via.refl Fw4 (g := (mkF m 35 #[.val (.ref a1), .val (.int (1 : Int32)), .val (.int w1)] [(.ref a1)])) rfl rfl (hb hby d3_35)
  refine Go.by st6 ?_
  show Go p.tables e below _ (T6.setTop (mkF m 38 #[.val (.ref a1), .val (.int (1 : Int32)), .val (.int w1)] [(.ref b2)]))
  exact Go.retA X6 hx hlk hret rfl rfl (hb hby d3_38) (by decide) (by decide) ⟨b2, kc2, kd2, rfl, sz_b2, f5_32, f5_31, Fw4, f5_33, fun i hi => Avf.other (VV2 i hi) W4 (Nat.ne_of_gt (Nat.lt_of_lt_of_le E_a1.lt (Nat.le_trans sz_b2 (Nat.le_trans (Nat.le_add_right _ 1) (Nat.le_add_right _ i)))))⟩
abbrev Rm3_02 : Room := { frames := 0, cells := 3, slots := 16, locals := 0 }
set_option maxRecDepth 65536 in
set_option maxHeartbeats 40000000 in
theorem rm3_02 (l : Launch) (Z : State) (a0 : Array Value) (hw : ∀ d ∈ tables_1, d.before a0 Z = true) (ws : List Jvm.Cond) (a1 : Addr) (w1 : Int32) (o : Addr) (kO : ClassId) (fo : Nat → Value) (h0 : Heap) (n0 : Nat) (Z0 : n0 ≤ h0.size) (E_a1 : Exa Z h0 a1 "com/example/bitstrata/bitstrata/bitmap/Formula$Workspace") (g_a1 : n0 ≤ a1) (F_v : Fld Z h0 a1 "com/example/bitstrata/bitstrata/bitmap/Formula$Workspace" "vectors" "[[J" (.ref o)) (V_o : Avf Z h0 o kO (.array .long) 0 fo) (hw0 : ¬ w1 < 0) (hw7 : w1.toNatClampNeg ≤ 7) :
    Met l Z n0 (⟨"com/example/bitstrata/bitstrata/bitmap/Formula$Workspace", "vectors", "(II)[[J"⟩ : MethodName) prog_11_method_2_code 3 (some (.array (.array .long))) ws Rm3_02 #[(.ref a1), (.int (2 : Int32)), (.int w1)] h0 (fun v h => (∃ r kc kd, v = some (.ref r) ∧ h0.size ≤ r ∧ Keep h0 h [a1] ∧ Exa Z h a1 "com/example/bitstrata/bitstrata/bitmap/Formula$Workspace" ∧ Fld Z h a1 "com/example/bitstrata/bitstrata/bitmap/Formula$Workspace" "vectors" "[[J" (.ref r) ∧ Avf Z h r kc (.array .long) 2 (fun i => .ref (r + 1 + i)) ∧ ∀ i, i < 2 → Avf Z h (r + 1 + i) kd .long (w1.toNatClampNeg) (fun _ => (.long 0)))) := by
  refine enter (Ls := #[.val (.ref a1), .val (.int (2 : Int32)), .val (.int w1)]) (plainFor_of_name pn0) (fun m => by first | (simp [entryFrame, mkF, argsToLocals, Value.category]; done) | rfl) ?_
  intro p e s m below meth c T0 hx hby hml hown hnm hret hlk hZ X0
  have K0 := Keep.refl h0 [a1]
  show Go p.tables e below _ (T0.setTop (mkF m 0 #[.val (.ref a1), .val (.int (2 : Int32)), .val (.int w1)] []))
  refine Go.by (fun _ => XS.aloadN X0.here hx rfl (hb hby d3_0) rfl rfl) ?_
  show Go p.tables e below _ (T0.setTop (mkF m 1 #[.val (.ref a1), .val (.int (2 : Int32)), .val (.int w1)] [(.ref a1)]))
  obtain ⟨T1, X1, st1⟩ := X0.getF hx hZ hown (host := "") (Or.inl (tw hw 11 rfl)) Via.refl F_v (g := (mkF m 1 #[.val (.ref a1), .val (.int (2 : Int32)), .val (.int w1)] [(.ref a1)])) rfl rfl (hb hby d3_1)
  refine Go.by st1 ?_
  show Go p.tables e below _ (T1.setTop (mkF m 4 #[.val (.ref a1), .val (.int (2 : Int32)), .val (.int w1)] [(.ref o)]))
  refine Go.by (X1.len hx hZ V_o (z := (0 : Int32)) rfl (g := (mkF m 4 #[.val (.ref a1), .val (.int (2 : Int32)), .val (.int w1)] [(.ref o)])) rfl rfl (hb hby d3_4)) ?_
  show Go p.tables e below _ (T1.setTop (mkF m 5 #[.val (.ref a1), .val (.int (2 : Int32)), .val (.int w1)] [(.int (0 : Int32))]))
  refine Go.by (fun _ => XS.iloadN X1.here hx rfl (hb hby d3_5) rfl) ?_
  show Go p.tables e below _ (T1.setTop (mkF m 6 #[.val (.ref a1), .val (.int (2 : Int32)), .val (.int w1)] [(.int (2 : Int32)), (.int (0 : Int32))]))
  refine Go.by (fun _ => XS.icmpYes X1.here hx rfl (pc0 := 6) (pc' := 24) rfl (hb hby d3_6) rfl (tlt (by decide)).1 (by decide) (by decide)) ?_
  show Go p.tables e below _ (T1.setTop (mkF m 24 #[.val (.ref a1), .val (.int (2 : Int32)), .val (.int w1)] []))
  refine Go.by (fun _ => XS.aloadN X1.here hx rfl (hb hby d3_24) rfl rfl) ?_
  show Go p.tables e below _ (T1.setTop (mkF m 25 #[.val (.ref a1), .val (.int (2 : Int32)), .val (.int w1)] [(.ref a1)]))
  refine Go.by (fun _ => XS.iloadN X1.here hx rfl (hb hby d3_25) rfl) ?_
  show Go p.tables e below _ (T1.setTop (mkF m 26 #[.val (.ref a1), .val (.int (2 : Int32)), .val (.int w1)] [(.int (2 : Int32)), (.ref a1)]))
  refine Go.by (fun _ => XS.iloadN X1.here hx rfl (hb hby d3_26) rfl) ?_
  show Go p.tables e below _ (T1.setTop (mkF m 27 #[.val (.ref a1), .val (.int (2 : Int32)), .val (.int w1)] [(.int w1), (.int (2 : Int32)), (.ref a1)]))
  obtain ⟨T2, h2, kc2, kd2, b2, X2, g2, E2, A2, V2, VV2, st2⟩ := X1.grid hx hZ hown (tw hw 25 rfl) (tw hw 10 rfl) (tw hw 26 rfl) (g := (mkF m 27 #[.val (.ref a1), .val (.int (2 : Int32)), .val (.int w1)] [(.int w1), (.int (2 : Int32)), (.ref a1)])) rfl (hb hby d3_27) rfl (by decide) hw0 (N := 2) (sz := w1.toNatClampNeg) (cap := 7) (k' := 3) (n' := 16) rfl rfl hw7 (by decide) (by decide) rfl rfl (by decide) (by decide)
  have g_b2 : n0 ≤ b2 := by rw [g2]; exact Z0
  have sz_b2 : h0.size ≤ b2 := by rw [g2]; exact K0.1
  have ne_a1_b2 : a1 ≠ b2 := Nat.ne_of_lt (by rw [g2]; exact E_a1.lt)
  have f3_23 := E_a1.ext E2
  have f3_24 := F_v.ext E2
  have f3_25 := K0.ext E2
  have Zs3 : n0 ≤ h2.size := Nat.le_trans Z0 E2.1
  refine Go.by st2 ?_
  show Go p.tables e below _ (T2.setTop (mkF m 31 #[.val (.ref a1), .val (.int (2 : Int32)), .val (.int w1)] [(.ref b2), (.ref a1)]))
  obtain ⟨T4, h4, X4, W4, st4⟩ := X2.putF hx hZ hown (host := "") (Or.inl (tw hw 11 rfl)) Via.refl f3_24 f3_23 g_a1 (Or.inl (tw hw 12 rfl)) (tw hw 1 rfl) (ty := (.array (.array .long))) (by decide) rfl rfl (g := (mkF m 31 #[.val (.ref a1), .val (.int (2 : Int32)), .val (.int w1)] [(.ref b2), (.ref a1)])) rfl rfl (hb hby d3_31)
  have Fw4 := f3_24.same W4
  have f5_31 := f3_23.wr W4
  have f5_32 := f3_25.wr W4 (Or.inl (List.mem_of_getElem? (i := 0) rfl))
  have f5_33 := Avf.other V2 W4 (Ne.symm ne_a1_b2)
  have Zs5 : n0 ≤ h4.size := by rw [W4.size]; exact Zs3
  refine Go.by st4 ?_
  show Go p.tables e below _ (T4.setTop (mkF m 34 #[.val (.ref a1), .val (.int (2 : Int32)), .val (.int w1)] []))
  refine Go.by (fun _ => XS.aloadN X4.here hx rfl (hb hby d3_34) rfl rfl) ?_
  show Go p.tables e below _ (T4.setTop (mkF m 35 #[.val (.ref a1), .val (.int (2 : Int32)), .val (.int w1)] [(.ref a1)]))
  obtain ⟨T6, X6, st6⟩ := X4.getF hx hZ hown (host := "") (Or.inl (tw hw 11 rfl)) Via.refl Fw4 (g := (mkF m 35 #[.val (.ref a1), .val (.int (2 : Int32)), .val (.int w1)] [(.ref a1)])) rfl rfl (hb hby d3_35)
  refine Go.by st6 ?_
  show Go p.tables e below _ (T6.setTop (mkF m 38 #[.val (.ref a1), .val (.int (2 : Int32)), .val (.int w1)] [(.ref b2)]))
  exact Go.retA X6 hx hlk hret rfl rfl (hb hby d3_38) (by decide) (by decide) ⟨b2, kc2, kd2, rfl, sz_b2, f5_32, f5_31, Fw4, f5_33, fun i hi => Avf.other (VV2 i hi) W4 (Nat.ne_of_gt (Nat.lt_of_lt_of_le E_a1.lt (Nat.le_trans sz_b2 (Nat.le_trans (Nat.le_add_right _ 1) (Nat.le_add_right _ i)))))⟩
abbrev Rm3_03 : Room := { frames := 0, cells := 4, slots := 24, locals := 0 }
set_option maxRecDepth 65536 in
set_option maxHeartbeats 40000000 in
theorem rm3_03 (l : Launch) (Z : State) (a0 : Array Value) (hw : ∀ d ∈ tables_1, d.before a0 Z = true) (ws : List Jvm.Cond) (a1 : Addr) (w1 : Int32) (o : Addr) (kO : ClassId) (fo : Nat → Value) (h0 : Heap) (n0 : Nat) (Z0 : n0 ≤ h0.size) (E_a1 : Exa Z h0 a1 "com/example/bitstrata/bitstrata/bitmap/Formula$Workspace") (g_a1 : n0 ≤ a1) (F_v : Fld Z h0 a1 "com/example/bitstrata/bitstrata/bitmap/Formula$Workspace" "vectors" "[[J" (.ref o)) (V_o : Avf Z h0 o kO (.array .long) 0 fo) (hw0 : ¬ w1 < 0) (hw7 : w1.toNatClampNeg ≤ 7) :
    Met l Z n0 (⟨"com/example/bitstrata/bitstrata/bitmap/Formula$Workspace", "vectors", "(II)[[J"⟩ : MethodName) prog_11_method_2_code 3 (some (.array (.array .long))) ws Rm3_03 #[(.ref a1), (.int (3 : Int32)), (.int w1)] h0 (fun v h => (∃ r kc kd, v = some (.ref r) ∧ h0.size ≤ r ∧ Keep h0 h [a1] ∧ Exa Z h a1 "com/example/bitstrata/bitstrata/bitmap/Formula$Workspace" ∧ Fld Z h a1 "com/example/bitstrata/bitstrata/bitmap/Formula$Workspace" "vectors" "[[J" (.ref r) ∧ Avf Z h r kc (.array .long) 3 (fun i => .ref (r + 1 + i)) ∧ ∀ i, i < 3 → Avf Z h (r + 1 + i) kd .long (w1.toNatClampNeg) (fun _ => (.long 0)))) := by
  refine enter (Ls := #[.val (.ref a1), .val (.int (3 : Int32)), .val (.int w1)]) (plainFor_of_name pn0) (fun m => by first | (simp [entryFrame, mkF, argsToLocals, Value.category]; done) | rfl) ?_
  intro p e s m below meth c T0 hx hby hml hown hnm hret hlk hZ X0
  have K0 := Keep.refl h0 [a1]
  show Go p.tables e below _ (T0.setTop (mkF m 0 #[.val (.ref a1), .val (.int (3 : Int32)), .val (.int w1)] []))
  refine Go.by (fun _ => XS.aloadN X0.here hx rfl (hb hby d3_0) rfl rfl) ?_
  show Go p.tables e below _ (T0.setTop (mkF m 1 #[.val (.ref a1), .val (.int (3 : Int32)), .val (.int w1)] [(.ref a1)]))
  obtain ⟨T1, X1, st1⟩ := X0.getF hx hZ hown (host := "") (Or.inl (tw hw 11 rfl)) Via.refl F_v (g := (mkF m 1 #[.val (.ref a1), .val (.int (3 : Int32)), .val (.int w1)] [(.ref a1)])) rfl rfl (hb hby d3_1)
  refine Go.by st1 ?_
  show Go p.tables e below _ (T1.setTop (mkF m 4 #[.val (.ref a1), .val (.int (3 : Int32)), .val (.int w1)] [(.ref o)]))
  refine Go.by (X1.len hx hZ V_o (z := (0 : Int32)) rfl (g := (mkF m 4 #[.val (.ref a1), .val (.int (3 : Int32)), .val (.int w1)] [(.ref o)])) rfl rfl (hb hby d3_4)) ?_
  show Go p.tables e below _ (T1.setTop (mkF m 5 #[.val (.ref a1), .val (.int (3 : Int32)), .val (.int w1)] [(.int (0 : Int32))]))
  refine Go.by (fun _ => XS.iloadN X1.here hx rfl (hb hby d3_5) rfl) ?_
  show Go p.tables e below _ (T1.setTop (mkF m 6 #[.val (.ref a1), .val (.int (3 : Int32)), .val (.int w1)] [(.int (3 : Int32)), (.int (0 : Int32))]))
  refine Go.by (fun _ => XS.icmpYes X1.here hx rfl (pc0 := 6) (pc' := 24) rfl (hb hby d3_6) rfl (tlt (by decide)).1 (by decide) (by decide)) ?_
  show Go p.tables e below _ (T1.setTop (mkF m 24 #[.val (.ref a1), .val (.int (3 : Int32)), .val (.int w1)] []))
  refine Go.by (fun _ => XS.aloadN X1.here hx rfl (hb hby d3_24) rfl rfl) ?_
  show Go p.tables e below _ (T1.setTop (mkF m 25 #[.val (.ref a1), .val (.int (3 : Int32)), .val (.int w1)] [(.ref a1)]))
  refine Go.by (fun _ => XS.iloadN X1.here hx rfl (hb hby d3_25) rfl) ?_
  show Go p.tables e below _ (T1.setTop (mkF m 26 #[.val (.ref a1), .val (.int (3 : Int32)), .val (.int w1)] [(.int (3 : Int32)), (.ref a1)]))
  refine Go.by (fun _ => XS.iloadN X1.here hx rfl (hb hby d3_26) rfl) ?_
  show Go p.tables e below _ (T1.setTop (mkF m 27 #[.val (.ref a1), .val (.int (3 : Int32)), .val (.int w1)] [(.int w1), (.int (3 : Int32)), (.ref a1)]))
  obtain ⟨T2, h2, kc2, kd2, b2, X2, g2, E2, A2, V2, VV2, st2⟩ := X1.grid hx hZ hown (tw hw 25 rfl) (tw hw 10 rfl) (tw hw 26 rfl) (g := (mkF m 27 #[.val (.ref a1), .val (.int (3 : Int32)), .val (.int w1)] [(.int w1), (.int (3 : Int32)), (.ref a1)])) rfl (hb hby d3_27) rfl (by decide) hw0 (N := 3) (sz := w1.toNatClampNeg) (cap := 7) (k' := 4) (n' := 24) rfl rfl hw7 (by decide) (by decide) rfl rfl (by decide) (by decide)
  have g_b2 : n0 ≤ b2 := by rw [g2]; exact Z0
  have sz_b2 : h0.size ≤ b2 := by rw [g2]; exact K0.1
  have ne_a1_b2 : a1 ≠ b2 := Nat.ne_of_lt (by rw [g2]; exact E_a1.lt)
  have f3_23 := E_a1.ext E2
  have f3_24 := F_v.ext E2
  have f3_25 := K0.ext E2
  have Zs3 : n0 ≤ h2.size := Nat.le_trans Z0 E2.1
  refine Go.by st2 ?_
  show Go p.tables e below _ (T2.setTop (mkF m 31 #[.val (.ref a1), .val (.int (3 : Int32)), .val (.int w1)] [(.ref b2), (.ref a1)]))
  obtain ⟨T4, h4, X4, W4, st4⟩ := X2.putF hx hZ hown (host := "") (Or.inl (tw hw 11 rfl)) Via.refl f3_24 f3_23 g_a1 (Or.inl (tw hw 12 rfl)) (tw hw 1 rfl) (ty := (.array (.array .long))) (by decide) rfl rfl (g := (mkF m 31 #[.val (.ref a1), .val (.int (3 : Int32)), .val (.int w1)] [(.ref b2), (.ref a1)])) rfl rfl (hb hby d3_31)
  have Fw4 := f3_24.same W4
  have f5_31 := f3_23.wr W4
  have f5_32 := f3_25.wr W4 (Or.inl (List.mem_of_getElem? (i := 0) rfl))
  have f5_33 := Avf.other V2 W4 (Ne.symm ne_a1_b2)
  have Zs5 : n0 ≤ h4.size := by rw [W4.size]; exact Zs3
  refine Go.by st4 ?_
  show Go p.tables e below _ (T4.setTop (mkF m 34 #[.val (.ref a1), .val (.int (3 : Int32)), .val (.int w1)] []))
  refine Go.by (fun _ => XS.aloadN X4.here hx rfl (hb hby d3_34) rfl rfl) ?_
  show Go p.tables e below _ (T4.setTop (mkF m 35 #[.val (.ref a1), .val (.int (3 : Int32)), .val (.int w1)] [(.ref a1)]))
  obtain ⟨T6, X6, st6⟩ := X4.getF hx hZ hown (host := "") (Or.inl (tw hw 11 rfl)) Via.refl Fw4 (g := (mkF m 35 #[.val (.ref a1), .val (.int (3 : Int32)), .val (.int w1)] [(.ref a1)])) rfl rfl (hb hby d3_35)
  refine Go.by st6 ?_
  show Go p.tables e below _ (T6.setTop (mkF m 38 #[.val (.ref a1), .val (.int (3 : Int32)), .val (.int w1)] [(.ref b2)]))
  exact Go.retA X6 hx hlk hret rfl rfl (hb hby d3_38) (by decide) (by decide) ⟨b2, kc2, kd2, rfl, sz_b2, f5_32, f5_31, Fw4, f5_33, fun i hi => Avf.other (VV2 i hi) W4 (Nat.ne_of_gt (Nat.lt_of_lt_of_le E_a1.lt (Nat.le_trans sz_b2 (Nat.le_trans (Nat.le_add_right _ 1) (Nat.le_add_right _ i)))))⟩
abbrev Rm3_10 : Room := { frames := 0, cells := 0, slots := 0, locals := 0 }
set_option maxRecDepth 65536 in
set_option maxHeartbeats 40000000 in
theorem rm3_10 (l : Launch) (Z : State) (a0 : Array Value) (hw : ∀ d ∈ tables_1, d.before a0 Z = true) (ws : List Jvm.Cond) (a1 : Addr) (w1 : Int32) (o : Addr) (kO : ClassId) (fo : Nat → Value) (h0 : Heap) (n0 : Nat) (Z0 : n0 ≤ h0.size) (E_a1 : Exa Z h0 a1 "com/example/bitstrata/bitstrata/bitmap/Formula$Workspace") (g_a1 : n0 ≤ a1) (F_v : Fld Z h0 a1 "com/example/bitstrata/bitstrata/bitmap/Formula$Workspace" "vectors" "[[J" (.ref o)) (V_o : Avf Z h0 o kO (.array .long) 1 fo) (hw0 : ¬ w1 < 0) (hw7 : w1.toNatClampNeg ≤ 7) :
    Met l Z n0 (⟨"com/example/bitstrata/bitstrata/bitmap/Formula$Workspace", "vectors", "(II)[[J"⟩ : MethodName) prog_11_method_2_code 3 (some (.array (.array .long))) ws Rm3_10 #[(.ref a1), (.int (0 : Int32)), (.int w1)] h0 (fun v h => v = some (.ref o) ∧ h0 = h) := by
  refine enter (Ls := #[.val (.ref a1), .val (.int (0 : Int32)), .val (.int w1)]) (plainFor_of_name pn0) (fun m => by first | (simp [entryFrame, mkF, argsToLocals, Value.category]; done) | rfl) ?_
  intro p e s m below meth c T0 hx hby hml hown hnm hret hlk hZ X0
  have K0 := Keep.refl h0 [a1]
  show Go p.tables e below _ (T0.setTop (mkF m 0 #[.val (.ref a1), .val (.int (0 : Int32)), .val (.int w1)] []))
  refine Go.by (fun _ => XS.aloadN X0.here hx rfl (hb hby d3_0) rfl rfl) ?_
  show Go p.tables e below _ (T0.setTop (mkF m 1 #[.val (.ref a1), .val (.int (0 : Int32)), .val (.int w1)] [(.ref a1)]))
  obtain ⟨T1, X1, st1⟩ := X0.getF hx hZ hown (host := "") (Or.inl (tw hw 11 rfl)) Via.refl F_v (g := (mkF m 1 #[.val (.ref a1), .val (.int (0 : Int32)), .val (.int w1)] [(.ref a1)])) rfl rfl (hb hby d3_1)
  refine Go.by st1 ?_
  show Go p.tables e below _ (T1.setTop (mkF m 4 #[.val (.ref a1), .val (.int (0 : Int32)), .val (.int w1)] [(.ref o)]))
  refine Go.by (X1.len hx hZ V_o (z := (1 : Int32)) rfl (g := (mkF m 4 #[.val (.ref a1), .val (.int (0 : Int32)), .val (.int w1)] [(.ref o)])) rfl rfl (hb hby d3_4)) ?_
  show Go p.tables e below _ (T1.setTop (mkF m 5 #[.val (.ref a1), .val (.int (0 : Int32)), .val (.int w1)] [(.int (1 : Int32))]))
  refine Go.by (fun _ => XS.iloadN X1.here hx rfl (hb hby d3_5) rfl) ?_
  show Go p.tables e below _ (T1.setTop (mkF m 6 #[.val (.ref a1), .val (.int (0 : Int32)), .val (.int w1)] [(.int (0 : Int32)), (.int (1 : Int32))]))
  refine Go.by (fun _ => XS.icmpNo X1.here hx rfl (hb hby d3_6) rfl (flt (by decide)).1) ?_
  show Go p.tables e below _ (T1.setTop (mkF m 9 #[.val (.ref a1), .val (.int (0 : Int32)), .val (.int w1)] []))
  refine Go.by (fun _ => XS.iloadN X1.here hx rfl (hb hby d3_9) rfl) ?_
  show Go p.tables e below _ (T1.setTop (mkF m 10 #[.val (.ref a1), .val (.int (0 : Int32)), .val (.int w1)] [(.int (0 : Int32))]))
  refine Go.by (fun _ => XS.ifYes X1.here hx rfl (pc0 := 10) (pc' := 34) rfl (hb hby d3_10) rfl ((if0 _ _).trans (flt (by decide)).2.2.2) (by decide) (by decide)) ?_
  show Go p.tables e below _ (T1.setTop (mkF m 34 #[.val (.ref a1), .val (.int (0 : Int32)), .val (.int w1)] []))
  refine Go.by (fun _ => XS.aloadN X1.here hx rfl (hb hby d3_34) rfl rfl) ?_
  show Go p.tables e below _ (T1.setTop (mkF m 35 #[.val (.ref a1), .val (.int (0 : Int32)), .val (.int w1)] [(.ref a1)]))
  obtain ⟨T2, X2, st2⟩ := X1.getF hx hZ hown (host := "") (Or.inl (tw hw 11 rfl)) Via.refl F_v (g := (mkF m 35 #[.val (.ref a1), .val (.int (0 : Int32)), .val (.int w1)] [(.ref a1)])) rfl rfl (hb hby d3_35)
  refine Go.by st2 ?_
  show Go p.tables e below _ (T2.setTop (mkF m 38 #[.val (.ref a1), .val (.int (0 : Int32)), .val (.int w1)] [(.ref o)]))
  exact Go.retA X2 hx hlk hret rfl rfl (hb hby d3_38) (by decide) (by decide) ⟨rfl, rfl⟩
theorem d3_13 : decode prog_11_method_2_code 13 = .ok (.aload_n 0, 1) := by decide +kernel
theorem d3_14 : decode prog_11_method_2_code 14 = .ok (.getfield 9, 3) := by decide +kernel
theorem d3_17 : decode prog_11_method_2_code 17 = .ok (.iconst 0, 1) := by decide +kernel
theorem d3_18 : decode prog_11_method_2_code 18 = .ok (.aaload, 1) := by decide +kernel
theorem d3_19 : decode prog_11_method_2_code 19 = .ok (.arraylength, 1) := by decide +kernel
theorem d3_20 : decode prog_11_method_2_code 20 = .ok (.iload_n 2, 1) := by decide +kernel
theorem d3_21 : decode prog_11_method_2_code 21 = .ok (.if_icmp .eq 13, 3) := by decide +kernel
abbrev Rm3_11 : Room := { frames := 0, cells := 2, slots := 8, locals := 0 }
set_option maxRecDepth 65536 in
set_option maxHeartbeats 40000000 in
theorem rm3_11 (l : Launch) (Z : State) (a0 : Array Value) (hw : ∀ d ∈ tables_1, d.before a0 Z = true) (ws : List Jvm.Cond) (a1 : Addr) (w1 : Int32) (o : Addr) (kO : ClassId) (fo : Nat → Value) (x0 : Addr) (k0 : ClassId) (sz0 : Nat) (h0 : Heap) (n0 : Nat) (Z0 : n0 ≤ h0.size) (E_a1 : Exa Z h0 a1 "com/example/bitstrata/bitstrata/bitmap/Formula$Workspace") (g_a1 : n0 ≤ a1) (F_v : Fld Z h0 a1 "com/example/bitstrata/bitstrata/bitmap/Formula$Workspace" "vectors" "[[J" (.ref o)) (V_o : Avf Z h0 o kO (.array .long) 1 fo) (hw0 : ¬ w1 < 0) (hw7 : w1.toNatClampNeg ≤ 7) (hf0 : fo 0 = .ref x0) (V_x0 : Avf Z h0 x0 k0 .long sz0 (fun _ => (.long 0))) :
    Met l Z n0 (⟨"com/example/bitstrata/bitstrata/bitmap/Formula$Workspace", "vectors", "(II)[[J"⟩ : MethodName) prog_11_method_2_code 3 (some (.array (.array .long))) ws Rm3_11 #[(.ref a1), (.int (1 : Int32)), (.int w1)] h0 (fun v h => ((sz0.toInt32) = w1 ∧ v = some (.ref o) ∧ h0 = h) ∨ (¬ (sz0.toInt32) = w1 ∧ (∃ r kc kd, v = some (.ref r) ∧ h0.size ≤ r ∧ Keep h0 h [a1] ∧ Exa Z h a1 "com/example/bitstrata/bitstrata/bitmap/Formula$Workspace" ∧ Fld Z h a1 "com/example/bitstrata/bitstrata/bitmap/Formula$Workspace" "vectors" "[[J" (.ref r) ∧ Avf Z h r kc (.array .long) 1 (fun i => .ref (r + 1 + i)) ∧ ∀ i, i < 1 → Avf Z h (r + 1 + i) kd .long (w1.toNatClampNeg) (fun _ => (.long 0))))) := by
  refine enter (Ls := #[.val (.ref a1), .val (.int (1 : Int32)), .val (.int w1)]) (plainFor_of_name pn0) (fun m => by first | (simp [entryFrame, mkF, argsToLocals, Value.category]; done) | rfl) ?_
  intro p e s m below meth c T0 hx hby hml hown hnm hret hlk hZ X0
  have K0 := Keep.refl h0 [a1]
  show Go p.tables e below _ (T0.setTop (mkF m 0 #[.val (.ref a1), .val (.int (1 : Int32)), .val (.int w1)] []))
  refine Go.by (fun _ => XS.aloadN X0.here hx rfl (hb hby d3_0) rfl rfl) ?_
  show Go p.tables e below _ (T0.setTop (mkF m 1 #[.val (.ref a1), .val (.int (1 : Int32)), .val (.int w1)] [(.ref a1)]))
  obtain ⟨T1, X1, st1⟩ := X0.getF hx hZ hown (host := "") (Or.inl (tw hw 11 rfl)) Via.refl F_v (g := (mkF m 1 #[.val (.ref a1), .val (.int (1 : Int32)), .val (.int w1)] [(.ref a1)])) rfl rfl (hb hby d3_1)
  refine Go.by st1 ?_
  show Go p.tables e below _ (T1.setTop (mkF m 4 #[.val (.ref a1), .val (.int (1 : Int32)), .val (.int w1)] [(.ref o)]))
  refine Go.by (X1.len hx hZ V_o (z := (1 : Int32)) rfl (g := (mkF m 4 #[.val (.ref a1), .val (.int (1 : Int32)), .val (.int w1)] [(.ref o)])) rfl rfl (hb hby d3_4)) ?_
  show Go p.tables e below _ (T1.setTop (mkF m 5 #[.val (.ref a1), .val (.int (1 : Int32)), .val (.int w1)] [(.int (1 : Int32))]))
  refine Go.by (fun _ => XS.iloadN X1.here hx rfl (hb hby d3_5) rfl) ?_
  show Go p.tables e below _ (T1.setTop (mkF m 6 #[.val (.ref a1), .val (.int (1 : Int32)), .val (.int w1)] [(.int (1 : Int32)), (.int (1 : Int32))]))
  refine Go.by (fun _ => XS.icmpNo X1.here hx rfl (hb hby d3_6) rfl (flt (by decide)).1) ?_
  show Go p.tables e below _ (T1.setTop (mkF m 9 #[.val (.ref a1), .val (.int (1 : Int32)), .val (.int w1)] []))
  refine Go.by (fun _ => XS.iloadN X1.here hx rfl (hb hby d3_9) rfl) ?_
  show Go p.tables e below _ (T1.setTop (mkF m 10 #[.val (.ref a1), .val (.int (1 : Int32)), .val (.int w1)] [(.int (1 : Int32))]))
  refine Go.by (fun _ => XS.ifNo X1.here hx rfl (hb hby d3_10) rfl ((if0 _ _).trans (tlt (by decide)).2.2.2)) ?_
  show Go p.tables e below _ (T1.setTop (mkF m 13 #[.val (.ref a1), .val (.int (1 : Int32)), .val (.int w1)] []))
  refine Go.by (fun _ => XS.aloadN X1.here hx rfl (hb hby d3_13) rfl rfl) ?_
  show Go p.tables e below _ (T1.setTop (mkF m 14 #[.val (.ref a1), .val (.int (1 : Int32)), .val (.int w1)] [(.ref a1)]))
  obtain ⟨T2, X2, st2⟩ := X1.getF hx hZ hown (host := "") (Or.inl (tw hw 11 rfl)) Via.refl F_v (g := (mkF m 14 #[.val (.ref a1), .val (.int (1 : Int32)), .val (.int w1)] [(.ref a1)])) rfl rfl (hb hby d3_14)
  refine Go.by st2 ?_
  show Go p.tables e below _ (T2.setTop (mkF m 17 #[.val (.ref a1), .val (.int (1 : Int32)), .val (.int w1)] [(.ref o)]))
  refine Go.by (fun _ => XS.iconst X2.here hx rfl (hb hby d3_17)) ?_
  show Go p.tables e below _ (T2.setTop (mkF m 18 #[.val (.ref a1), .val (.int (1 : Int32)), .val (.int w1)] [(.int (0 : Int32)), (.ref o)]))
  refine Go.by (X2.ldA hx hZ V_o rfl (by decide) (i := 0) rfl (by decide) (v := (.ref x0)) hf0 (g := (mkF m 18 #[.val (.ref a1), .val (.int (1 : Int32)), .val (.int w1)] [(.int (0 : Int32)), (.ref o)])) rfl rfl (hb hby d3_18)) ?_
  show Go p.tables e below _ (T2.setTop (mkF m 19 #[.val (.ref a1), .val (.int (1 : Int32)), .val (.int w1)] [(.ref x0)]))
  refine Go.by (X2.len hx hZ V_x0 (z := (sz0.toInt32)) rfl (g := (mkF m 19 #[.val (.ref a1), .val (.int (1 : Int32)), .val (.int w1)] [(.ref x0)])) rfl rfl (hb hby d3_19)) ?_
  show Go p.tables e below _ (T2.setTop (mkF m 20 #[.val (.ref a1), .val (.int (1 : Int32)), .val (.int w1)] [(.int (sz0.toInt32))]))
  refine Go.by (fun _ => XS.iloadN X2.here hx rfl (hb hby d3_20) rfl) ?_
  show Go p.tables e below _ (T2.setTop (mkF m 21 #[.val (.ref a1), .val (.int (1 : Int32)), .val (.int w1)] [(.int w1), (.int (sz0.toInt32))]))
  by_cases hc21_3 : (sz0.toInt32) = w1
  · skip
    refine Go.by (fun _ => XS.icmpYes X2.here hx rfl (pc0 := 21) (pc' := 34) rfl (hb hby d3_21) rfl (teq hc21_3).1 (by decide) (by decide)) ?_
    show Go p.tables e below _ (T2.setTop (mkF m 34 #[.val (.ref a1), .val (.int (1 : Int32)), .val (.int w1)] []))
    refine Go.by (fun _ => XS.aloadN X2.here hx rfl (hb hby d3_34) rfl rfl) ?_
    show Go p.tables e below _ (T2.setTop (mkF m 35 #[.val (.ref a1), .val (.int (1 : Int32)), .val (.int w1)] [(.ref a1)]))
    obtain ⟨T4, X4, st4⟩ := X2.getF hx hZ hown (host := "") (Or.inl (tw hw 11 rfl)) Via.refl F_v (g := (mkF m 35 #[.val (.ref a1), .val (.int (1 : Int32)), .val (.int w1)] [(.ref a1)])) rfl rfl (hb hby d3_35)
    refine Go.by st4 ?_
    show Go p.tables e below _ (T4.setTop (mkF m 38 #[.val (.ref a1), .val (.int (1 : Int32)), .val (.int w1)] [(.ref o)]))
    exact Go.retA X4 hx hlk hret rfl rfl (hb hby d3_38) (by decide) (by decide) (Or.inl ⟨hc21_3, rfl, rfl⟩)
  · skip
    refine Go.by (fun _ => XS.icmpNo X2.here hx rfl (hb hby d3_21) rfl (feq hc21_3).1) ?_
    show Go p.tables e below _ (T2.setTop (mkF m 24 #[.val (.ref a1), .val (.int (1 : Int32)), .val (.int w1)] []))
    refine Go.by (fun _ => XS.aloadN X2.here hx rfl (hb hby d3_24) rfl rfl) ?_
    show Go p.tables e below _ (T2.setTop (mkF m 25 #[.val (.ref a1), .val (.int (1 : Int32)), .val (.int w1)] [(.ref a1)]))
    refine Go.by (fun _ => XS.iloadN X2.here hx rfl (hb hby d3_25) rfl) ?_
    show Go p.tables e below _ (T2.setTop (mkF m 26 #[.val (.ref a1), .val (.int (1 : Int32)), .val (.int w1)] [(.int (1 : Int32)), (.ref a1)]))
    refine Go.by (fun _ => XS.iloadN X2.here hx rfl (hb hby d3_26) rfl) ?_
    show Go p.tables e below _ (T2.setTop (mkF m 27 #[.val (.ref a1), .val (.int (1 : Int32)), .val (.int w1)] [(.int w1), (.int (1 : Int32)), (.ref a1)]))
    obtain ⟨T5, h5, kc5, kd5, b5, X5, g5, E5, A5, V5, VV5, st5⟩ := X2.grid hx hZ hown (tw hw 25 rfl) (tw hw 10 rfl) (tw hw 26 rfl) (g := (mkF m 27 #[.val (.ref a1), .val (.int (1 : Int32)), .val (.int w1)] [(.int w1), (.int (1 : Int32)), (.ref a1)])) rfl (hb hby d3_27) rfl (by decide) hw0 (N := 1) (sz := w1.toNatClampNeg) (cap := 7) (k' := 2) (n' := 8) rfl rfl hw7 (by decide) (by decide) rfl rfl (by decide) (by decide)
    have g_b5 : n0 ≤ b5 := by rw [g5]; exact Z0
    have sz_b5 : h0.size ≤ b5 := by rw [g5]; exact K0.1
    have ne_a1_b5 : a1 ≠ b5 := Nat.ne_of_lt (by rw [g5]; exact E_a1.lt)
    have f6_53 := E_a1.ext E5
    have f6_54 := F_v.ext E5
    have f6_55 := K0.ext E5
    have Zs6 : n0 ≤ h5.size := Nat.le_trans Z0 E5.1
    refine Go.by st5 ?_
    show Go p.tables e below _ (T5.setTop (mkF m 31 #[.val (.ref a1), .val (.int (1 : Int32)), .val (.int w1)] [(.ref b5), (.ref a1)]))
    obtain ⟨T7, h7, X7, W7, st7⟩ := X5.putF hx hZ hown (host := "") (Or.inl (tw hw 11 rfl)) Via.refl f6_54 f6_53 g_a1 (Or.inl (tw hw 12 rfl)) (tw hw 1 rfl) (ty := (.array (.array .long))) (by decide) rfl rfl (g := (mkF m 31 #[.val (.ref a1), .val (.int (1 : Int32)), .val (.int w1)] [(.ref b5), (.ref a1)])) rfl rfl (hb hby d3_31)
    have Fw7 := f6_54.same W7
    have f8_61 := f6_53.wr W7
    have f8_62 := f6_55.wr W7 (Or.inl (List.mem_of_getElem? (i := 0) rfl))
    have f8_63 := Avf.other V5 W7 (Ne.symm ne_a1_b5)
    have Zs8 : n0 ≤ h7.size := by rw [W7.size]; exact Zs6
    refine Go.by st7 ?_
    show Go p.tables e below _ (T7.setTop (mkF m 34 #[.val (.ref a1), .val (.int (1 : Int32)), .val (.int w1)] []))
    refine Go.by (fun _ => XS.aloadN X7.here hx rfl (hb hby d3_34) rfl rfl) ?_
    show Go p.tables e below _ (T7.setTop (mkF m 35 #[.val (.ref a1), .val (.int (1 : Int32)), .val (.int w1)] [(.ref a1)]))
    obtain ⟨T9, X9, st9⟩ := X7.getF hx hZ hown (host := "") (Or.inl (tw hw 11 rfl)) Via.refl Fw7 (g := (mkF m 35 #[.val (.ref a1), .val (.int (1 : Int32)), .val (.int w1)] [(.ref a1)])) rfl rfl (hb hby d3_35)
    refine Go.by st9 ?_
    show Go p.tables e below _ (T9.setTop (mkF m 38 #[.val (.ref a1), .val (.int (1 : Int32)), .val (.int w1)] [(.ref b5)]))
    exact Go.retA X9 hx hlk hret rfl rfl (hb hby d3_38) (by decide) (by decide) (Or.inr ⟨hc21_3, ⟨b5, kc5, kd5, rfl, sz_b5, f8_62, f8_61, Fw7, f8_63, fun i hi => Avf.other (VV5 i hi) W7 (Nat.ne_of_gt (Nat.lt_of_lt_of_le E_a1.lt (Nat.le_trans sz_b5 (Nat.le_trans (Nat.le_add_right _ 1) (Nat.le_add_right _ i)))))⟩⟩)
abbrev Rm3_12 : Room := { frames := 0, cells := 3, slots := 16, locals := 0 }
set_option maxRecDepth 65536 in
set_option maxHeartbeats 40000000 in
theorem rm3_12 (l : Launch) (Z : State) (a0 : Array Value) (hw : ∀ d ∈ tables_1, d.before a0 Z = true) (ws : List Jvm.Cond) (a1 : Addr) (w1 : Int32) (o : Addr) (kO : ClassId) (fo : Nat → Value) (h0 : Heap) (n0 : Nat) (Z0 : n0 ≤ h0.size) (E_a1 : Exa Z h0 a1 "com/example/bitstrata/bitstrata/bitmap/Formula$Workspace") (g_a1 : n0 ≤ a1) (F_v : Fld Z h0 a1 "com/example/bitstrata/bitstrata/bitmap/Formula$Workspace" "vectors" "[[J" (.ref o)) (V_o : Avf Z h0 o kO (.array .long) 1 fo) (hw0 : ¬ w1 < 0) (hw7 : w1.toNatClampNeg ≤ 7) :
    Met l Z n0 (⟨"com/example/bitstrata/bitstrata/bitmap/Formula$Workspace", "vectors", "(II)[[J"⟩ : MethodName) prog_11_method_2_code 3 (some (.array (.array .long))) ws Rm3_12 #[(.ref a1), (.int (2 : Int32)), (.int w1)] h0 (fun v h => (∃ r kc kd, v = some (.ref r) ∧ h0.size ≤ r ∧ Keep h0 h [a1] ∧ Exa Z h a1 "com/example/bitstrata/bitstrata/bitmap/Formula$Workspace" ∧ Fld Z h a1 "com/example/bitstrata/bitstrata/bitmap/Formula$Workspace" "vectors" "[[J" (.ref r) ∧ Avf Z h r kc (.array .long) 2 (fun i => .ref (r + 1 + i)) ∧ ∀ i, i < 2 → Avf Z h (r + 1 + i) kd .long (w1.toNatClampNeg) (fun _ => (.long 0)))) := by
  refine enter (Ls := #[.val (.ref a1), .val (.int (2 : Int32)), .val (.int w1)]) (plainFor_of_name pn0) (fun m => by first | (simp [entryFrame, mkF, argsToLocals, Value.category]; done) | rfl) ?_
  intro p e s m below meth c T0 hx hby hml hown hnm hret hlk hZ X0
  have K0 := Keep.refl h0 [a1]
  show Go p.tables e below _ (T0.setTop (mkF m 0 #[.val (.ref a1), .val (.int (2 : Int32)), .val (.int w1)] []))
  refine Go.by (fun _ => XS.aloadN X0.here hx rfl (hb hby d3_0) rfl rfl) ?_
  show Go p.tables e below _ (T0.setTop (mkF m 1 #[.val (.ref a1), .val (.int (2 : Int32)), .val (.int w1)] [(.ref a1)]))
  obtain ⟨T1, X1, st1⟩ := X0.getF hx hZ hown (host := "") (Or.inl (tw hw 11 rfl)) Via.refl F_v (g := (mkF m 1 #[.val (.ref a1), .val (.int (2 : Int32)), .val (.int w1)] [(.ref a1)])) rfl rfl (hb hby d3_1)
  refine Go.by st1 ?_
  show Go p.tables e below _ (T1.setTop (mkF m 4 #[.val (.ref a1), .val (.int (2 : Int32)), .val (.int w1)] [(.ref o)]))
  refine Go.by (X1.len hx hZ V_o (z := (1 : Int32)) rfl (g := (mkF m 4 #[.val (.ref a1), .val (.int (2 : Int32)), .val (.int w1)] [(.ref o)])) rfl rfl (hb hby d3_4)) ?_
  show Go p.tables e below _ (T1.setTop (mkF m 5 #[.val (.ref a1), .val (.int (2 : Int32)), .val (.int w1)] [(.int (1 : Int32))]))
  refine Go.by (fun _ => XS.iloadN X1.here hx rfl (hb hby d3_5) rfl) ?_
  show Go p.tables e below _ (T1.setTop (mkF m 6 #[.val (.ref a1), .val (.int (2 : Int32)), .val (.int w1)] [(.int (2 : Int32)), (.int (1 : Int32))]))
  refine Go.by (fun _ => XS.icmpYes X1.here hx rfl (pc0 := 6) (pc' := 24) rfl (hb hby d3_6) rfl (tlt (by decide)).1 (by decide) (by decide)) ?_
  show Go p.tables e below _ (T1.setTop (mkF m 24 #[.val (.ref a1), .val (.int (2 : Int32)), .val (.int w1)] []))
  refine Go.by (fun _ => XS.aloadN X1.here hx rfl (hb hby d3_24) rfl rfl) ?_
  show Go p.tables e below _ (T1.setTop (mkF m 25 #[.val (.ref a1), .val (.int (2 : Int32)), .val (.int w1)] [(.ref a1)]))
  refine Go.by (fun _ => XS.iloadN X1.here hx rfl (hb hby d3_25) rfl) ?_
  show Go p.tables e below _ (T1.setTop (mkF m 26 #[.val (.ref a1), .val (.int (2 : Int32)), .val (.int w1)] [(.int (2 : Int32)), (.ref a1)]))
  refine Go.by (fun _ => XS.iloadN X1.here hx rfl (hb hby d3_26) rfl) ?_
  show Go p.tables e below _ (T1.setTop (mkF m 27 #[.val (.ref a1), .val (.int (2 : Int32)), .val (.int w1)] [(.int w1), (.int (2 : Int32)), (.ref a1)]))
  obtain ⟨T2, h2, kc2, kd2, b2, X2, g2, E2, A2, V2, VV2, st2⟩ := X1.grid hx hZ hown (tw hw 25 rfl) (tw hw 10 rfl) (tw hw 26 rfl) (g := (mkF m 27 #[.val (.ref a1), .val (.int (2 : Int32)), .val (.int w1)] [(.int w1), (.int (2 : Int32)), (.ref a1)])) rfl (hb hby d3_27) rfl (by decide) hw0 (N := 2) (sz := w1.toNatClampNeg) (cap := 7) (k' := 3) (n' := 16) rfl rfl hw7 (by decide) (by decide) rfl rfl (by decide) (by decide)
  have g_b2 : n0 ≤ b2 := by rw [g2]; exact Z0
  have sz_b2 : h0.size ≤ b2 := by rw [g2]; exact K0.1
  have ne_a1_b2 : a1 ≠ b2 := Nat.ne_of_lt (by rw [g2]; exact E_a1.lt)
  have f3_23 := E_a1.ext E2
  have f3_24 := F_v.ext E2
  have f3_25 := K0.ext E2
  have Zs3 : n0 ≤ h2.size := Nat.le_trans Z0 E2.1
  refine Go.by st2 ?_
  show Go p.tables e below _ (T2.setTop (mkF m 31 #[.val (.ref a1), .val (.int (2 : Int32)), .val (.int w1)] [(.ref b2), (.ref a1)]))
  obtain ⟨T4, h4, X4, W4, st4⟩ := X2.putF hx hZ hown (host := "") (Or.inl (tw hw 11 rfl)) Via.refl f3_24 f3_23 g_a1 (Or.inl (tw hw 12 rfl)) (tw hw 1 rfl) (ty := (.array (.array .long))) (by decide) rfl rfl (g := (mkF m 31 #[.val (.ref a1), .val (.int (2 : Int32)), .val (.int w1)] [(.ref b2), (.ref a1)])) rfl rfl (hb hby d3_31)
  have Fw4 := f3_24.same W4
  have f5_31 := f3_23.wr W4
  have f5_32 := f3_25.wr W4 (Or.inl (List.mem_of_getElem? (i := 0) rfl))
  have f5_33 := Avf.other V2 W4 (Ne.symm ne_a1_b2)
  have Zs5 : n0 ≤ h4.size := by rw [W4.size]; exact Zs3
  refine Go.by st4 ?_
  show Go p.tables e below _ (T4.setTop (mkF m 34 #[.val (.ref a1), .val (.int (2 : Int32)), .val (.int w1)] []))
  refine Go.by (fun _ => XS.aloadN X4.here hx rfl (hb hby d3_34) rfl rfl) ?_
  show Go p.tables e below _ (T4.setTop (mkF m 35 #[.val (.ref a1), .val (.int (2 : Int32)), .val (.int w1)] [(.ref a1)]))
  obtain ⟨T6, X6, st6⟩ := X4.getF hx hZ hown (host := "") (Or.inl (tw hw 11 rfl)) Via.refl Fw4 (g := (mkF m 35 #[.val (.ref a1), .val (.int (2 : Int32)), .val (.int w1)] [(.ref a1)])) rfl rfl (hb hby d3_35)
  refine Go.by st6 ?_
  show Go p.tables e below _ (T6.setTop (mkF m 38 #[.val (.ref a1), .val (.int (2 : Int32)), .val (.int w1)] [(.ref b2)]))
  exact Go.retA X6 hx hlk hret rfl rfl (hb hby d3_38) (by decide) (by decide) ⟨b2, kc2, kd2, rfl, sz_b2, f5_32, f5_31, Fw4, f5_33, fun i hi => Avf.other (VV2 i hi) W4 (Nat.ne_of_gt (Nat.lt_of_lt_of_le E_a1.lt (Nat.le_trans sz_b2 (Nat.le_trans (Nat.le_add_right _ 1) (Nat.le_add_right _ i)))))⟩
abbrev Rm3_13 : Room := { frames := 0, cells := 4, slots := 24, locals := 0 }
set_option maxRecDepth 65536 in
set_option maxHeartbeats 40000000 in
theorem rm3_13 (l : Launch) (Z : State) (a0 : Array Value) (hw : ∀ d ∈ tables_1, d.before a0 Z = true) (ws : List Jvm.Cond) (a1 : Addr) (w1 : Int32) (o : Addr) (kO : ClassId) (fo : Nat → Value) (h0 : Heap) (n0 : Nat) (Z0 : n0 ≤ h0.size) (E_a1 : Exa Z h0 a1 "com/example/bitstrata/bitstrata/bitmap/Formula$Workspace") (g_a1 : n0 ≤ a1) (F_v : Fld Z h0 a1 "com/example/bitstrata/bitstrata/bitmap/Formula$Workspace" "vectors" "[[J" (.ref o)) (V_o : Avf Z h0 o kO (.array .long) 1 fo) (hw0 : ¬ w1 < 0) (hw7 : w1.toNatClampNeg ≤ 7) :
    Met l Z n0 (⟨"com/example/bitstrata/bitstrata/bitmap/Formula$Workspace", "vectors", "(II)[[J"⟩ : MethodName) prog_11_method_2_code 3 (some (.array (.array .long))) ws Rm3_13 #[(.ref a1), (.int (3 : Int32)), (.int w1)] h0 (fun v h => (∃ r kc kd, v = some (.ref r) ∧ h0.size ≤ r ∧ Keep h0 h [a1] ∧ Exa Z h a1 "com/example/bitstrata/bitstrata/bitmap/Formula$Workspace" ∧ Fld Z h a1 "com/example/bitstrata/bitstrata/bitmap/Formula$Workspace" "vectors" "[[J" (.ref r) ∧ Avf Z h r kc (.array .long) 3 (fun i => .ref (r + 1 + i)) ∧ ∀ i, i < 3 → Avf Z h (r + 1 + i) kd .long (w1.toNatClampNeg) (fun _ => (.long 0)))) := by
  refine enter (Ls := #[.val (.ref a1), .val (.int (3 : Int32)), .val (.int w1)]) (plainFor_of_name pn0) (fun m => by first | (simp [entryFrame, mkF, argsToLocals, Value.category]; done) | rfl) ?_
  intro p e s m below meth c T0 hx hby hml hown hnm hret hlk hZ X0
  have K0 := Keep.refl h0 [a1]
  show Go p.tables e below _ (T0.setTop (mkF m 0 #[.val (.ref a1), .val (.int (3 : Int32)), .val (.int w1)] []))
  refine Go.by (fun _ => XS.aloadN X0.here hx rfl (hb hby d3_0) rfl rfl) ?_
  show Go p.tables e below _ (T0.setTop (mkF m 1 #[.val (.ref a1), .val (.int (3 : Int32)), .val (.int w1)] [(.ref a1)]))
  obtain ⟨T1, X1, st1⟩ := X0.getF hx hZ hown (host := "") (Or.inl (tw hw 11 rfl)) Via.refl F_v (g := (mkF m 1 #[.val (.ref a1), .val (.int (3 : Int32)), .val (.int w1)] [(.ref a1)])) rfl rfl (hb hby d3_1)
  refine Go.by st1 ?_
  show Go p.tables e below _ (T1.setTop (mkF m 4 #[.val (.ref a1), .val (.int (3 : Int32)), .val (.int w1)] [(.ref o)]))
  refine Go.by (X1.len hx hZ V_o (z := (1 : Int32)) rfl (g := (mkF m 4 #[.val (.ref a1), .val (.int (3 : Int32)), .val (.int w1)] [(.ref o)])) rfl rfl (hb hby d3_4)) ?_
  show Go p.tables e below _ (T1.setTop (mkF m 5 #[.val (.ref a1), .val (.int (3 : Int32)), .val (.int w1)] [(.int (1 : Int32))]))
  refine Go.by (fun _ => XS.iloadN X1.here hx rfl (hb hby d3_5) rfl) ?_
  show Go p.tables e below _ (T1.setTop (mkF m 6 #[.val (.ref a1), .val (.int (3 : Int32)), .val (.int w1)] [(.int (3 : Int32)), (.int (1 : Int32))]))
  refine Go.by (fun _ => XS.icmpYes X1.here hx rfl (pc0 := 6) (pc' := 24) rfl (hb hby d3_6) rfl (tlt (by decide)).1 (by decide) (by decide)) ?_
  show Go p.tables e below _ (T1.setTop (mkF m 24 #[.val (.ref a1), .val (.int (3 : Int32)), .val (.int w1)] []))
  refine Go.by (fun _ => XS.aloadN X1.here hx rfl (hb hby d3_24) rfl rfl) ?_
  show Go p.tables e below _ (T1.setTop (mkF m 25 #[.val (.ref a1), .val (.int (3 : Int32)), .val (.int w1)] [(.ref a1)]))
  refine Go.by (fun _ => XS.iloadN X1.here hx rfl (hb hby d3_25) rfl) ?_
  show Go p.tables e below _ (T1.setTop (mkF m 26 #[.val (.ref a1), .val (.int (3 : Int32)), .val (.int w1)] [(.int (3 : Int32)), (.ref a1)]))
  refine Go.by (fun _ => XS.iloadN X1.here hx rfl (hb hby d3_26) rfl) ?_
  show Go p.tables e below _ (T1.setTop (mkF m 27 #[.val (.ref a1), .val (.int (3 : Int32)), .val (.int w1)] [(.int w1), (.int (3 : Int32)), (.ref a1)]))
  obtain ⟨T2, h2, kc2, kd2, b2, X2, g2, E2, A2, V2, VV2, st2⟩ := X1.grid hx hZ hown (tw hw 25 rfl) (tw hw 10 rfl) (tw hw 26 rfl) (g := (mkF m 27 #[.val (.ref a1), .val (.int (3 : Int32)), .val (.int w1)] [(.int w1), (.int (3 : Int32)), (.ref a1)])) rfl (hb hby d3_27) rfl (by decide) hw0 (N := 3) (sz := w1.toNatClampNeg) (cap := 7) (k' := 4) (n' := 24) rfl rfl hw7 (by decide) (by decide) rfl rfl (by decide) (by decide)
  have g_b2 : n0 ≤ b2 := by rw [g2]; exact Z0
  have sz_b2 : h0.size ≤ b2 := by rw [g2]; exact K0.1
  have ne_a1_b2 : a1 ≠ b2 := Nat.ne_of_lt (by rw [g2]; exact E_a1.lt)
  have f3_23 := E_a1.ext E2
  have f3_24 := F_v.ext E2
  have f3_25 := K0.ext E2
  have Zs3 : n0 ≤ h2.size := Nat.le_trans Z0 E2.1
  refine Go.by st2 ?_
  show Go p.tables e below _ (T2.setTop (mkF m 31 #[.val (.ref a1), .val (.int (3 : Int32)), .val (.int w1)] [(.ref b2), (.ref a1)]))
  obtain ⟨T4, h4, X4, W4, st4⟩ := X2.putF hx hZ hown (host := "") (Or.inl (tw hw 11 rfl)) Via.refl f3_24 f3_23 g_a1 (Or.inl (tw hw 12 rfl)) (tw hw 1 rfl) (ty := (.array (.array .long))) (by decide) rfl rfl (g := (mkF m 31 #[.val (.ref a1), .val (.int (3 : Int32)), .val (.int w1)] [(.ref b2), (.ref a1)])) rfl rfl (hb hby d3_31)
  have Fw4 := f3_24.same W4
  have f5_31 := f3_23.wr W4
  have f5_32 := f3_25.wr W4 (Or.inl (List.mem_of_getElem? (i := 0) rfl))
  have f5_33 := Avf.other V2 W4 (Ne.symm ne_a1_b2)
  have Zs5 : n0 ≤ h4.size := by rw [W4.size]; exact Zs3
  refine Go.by st4 ?_
  show Go p.tables e below _ (T4.setTop (mkF m 34 #[.val (.ref a1), .val (.int (3 : Int32)), .val (.int w1)] []))
  refine Go.by (fun _ => XS.aloadN X4.here hx rfl (hb hby d3_34) rfl rfl) ?_
  show Go p.tables e below _ (T4.setTop (mkF m 35 #[.val (.ref a1), .val (.int (3 : Int32)), .val (.int w1)] [(.ref a1)]))
  obtain ⟨T6, X6, st6⟩ := X4.getF hx hZ hown (host := "") (Or.inl (tw hw 11 rfl)) Via.refl Fw4 (g := (mkF m 35 #[.val (.ref a1), .val (.int (3 : Int32)), .val (.int w1)] [(.ref a1)])) rfl rfl (hb hby d3_35)
  refine Go.by st6 ?_
  show Go p.tables e below _ (T6.setTop (mkF m 38 #[.val (.ref a1), .val (.int (3 : Int32)), .val (.int w1)] [(.ref b2)]))
  exact Go.retA X6 hx hlk hret rfl rfl (hb hby d3_38) (by decide) (by decide) ⟨b2, kc2, kd2, rfl, sz_b2, f5_32, f5_31, Fw4, f5_33, fun i hi => Avf.other (VV2 i hi) W4 (Nat.ne_of_gt (Nat.lt_of_lt_of_le E_a1.lt (Nat.le_trans sz_b2 (Nat.le_trans (Nat.le_add_right _ 1) (Nat.le_add_right _ i)))))⟩
abbrev Rm3_20 : Room := { frames := 0, cells := 0, slots := 0, locals := 0 }
set_option maxRecDepth 65536 in
set_option maxHeartbeats 40000000 in
theorem rm3_20 (l : Launch) (Z : State) (a0 : Array Value) (hw : ∀ d ∈ tables_1, d.before a0 Z = true) (ws : List Jvm.Cond) (a1 : Addr) (w1 : Int32) (o : Addr) (kO : ClassId) (fo : Nat → Value) (h0 : Heap) (n0 : Nat) (Z0 : n0 ≤ h0.size) (E_a1 : Exa Z h0 a1 "com/example/bitstrata/bitstrata/bitmap/Formula$Workspace") (g_a1 : n0 ≤ a1) (F_v : Fld Z h0 a1 "com/example/bitstrata/bitstrata/bitmap/Formula$Workspace" "vectors" "[[J" (.ref o)) (V_o : Avf Z h0 o kO (.array .long) 2 fo) (hw0 : ¬ w1 < 0) (hw7 : w1.toNatClampNeg ≤ 7) :
    Met l Z n0 (⟨"com/example/bitstrata/bitstrata/bitmap/Formula$Workspace", "vectors", "(II)[[J"⟩ : MethodName) prog_11_method_2_code 3 (some (.array (.array .long))) ws Rm3_20 #[(.ref a1), (.int (0 : Int32)), (.int w1)] h0 (fun v h => v = some (.ref o) ∧ h0 = h) := by
  refine enter (Ls := #[.val (.ref a1), .val (.int (0 : Int32)), .val (.int w1)]) (plainFor_of_name pn0) (fun m => by first | (simp [entryFrame, mkF, argsToLocals, Value.category]; done) | rfl) ?_
  intro p e s m below meth c T0 hx hby hml hown hnm hret hlk hZ X0
  have K0 := Keep.refl h0 [a1]
  show Go p.tables e below _ (T0.setTop (mkF m 0 #[.val (.ref a1), .val (.int (0 : Int32)), .val (.int w1)] []))
  refine Go.by (fun _ => XS.aloadN X0.here hx rfl (hb hby d3_0) rfl rfl) ?_
  show Go p.tables e below _ (T0.setTop (mkF m 1 #[.val (.ref a1), .val (.int (0 : Int32)), .val (.int w1)] [(.ref a1)]))
  obtain ⟨T1, X1, st1⟩ := X0.getF hx hZ hown (host := "") (Or.inl (tw hw 11 rfl)) Via.refl F_v (g := (mkF m 1 #[.val (.ref a1), .val (.int (0 : Int32)), .val (.int w1)] [(.ref a1)])) rfl rfl (hb hby d3_1)
  refine Go.by st1 ?_
  show Go p.tables e below _ (T1.setTop (mkF m 4 #[.val (.ref a1), .val (.int (0 : Int32)), .val (.int w1)] [(.ref o)]))
  refine Go.by (X1.len hx hZ V_o (z := (2 : Int32)) rfl (g := (mkF m 4 #[.val (.ref a1), .val (.int (0 : Int32)), .val (.int w1)] [(.ref o)])) rfl rfl (hb hby d3_4)) ?_
  show Go p.tables e below _ (T1.setTop (mkF m 5 #[.val (.ref a1), .val (.int (0 : Int32)), .val (.int w1)] [(.int (2 : Int32))]))
  refine Go.by (fun _ => XS.iloadN X1.here hx rfl (hb hby d3_5) rfl) ?_
  show Go p.tables e below _ (T1.setTop (mkF m 6 #[.val (.ref a1), .val (.int (0 : Int32)), .val (.int w1)] [(.int (0 : Int32)), (.int (2 : Int32))]))
  refine Go.by (fun _ => XS.icmpNo X1.here hx rfl (hb hby d3_6) rfl (flt (by decide)).1) ?_
  show Go p.tables e below _ (T1.setTop (mkF m 9 #[.val (.ref a1), .val (.int (0 : Int32)), .val (.int w1)] []))
  refine Go.by (fun _ => XS.iloadN X1.here hx rfl (hb hby d3_9) rfl) ?_
  show Go p.tables e below _ (T1.setTop (mkF m 10 #[.val (.ref a1), .val (.int (0 : Int32)), .val (.int w1)] [(.int (0 : Int32))]))
  refine Go.by (fun _ => XS.ifYes X1.here hx rfl (pc0 := 10) (pc' := 34) rfl (hb hby d3_10) rfl ((if0 _ _).trans (flt (by decide)).2.2.2) (by decide) (by decide)) ?_
  show Go p.tables e below _ (T1.setTop (mkF m 34 #[.val (.ref a1), .val (.int (0 : Int32)), .val (.int w1)] []))
  refine Go.by (fun _ => XS.aloadN X1.here hx rfl (hb hby d3_34) rfl rfl) ?_
  show Go p.tables e below _ (T1.setTop (mkF m 35 #[.val (.ref a1), .val (.int (0 : Int32)), .val (.int w1)] [(.ref a1)]))
  obtain ⟨T2, X2, st2⟩ := X1.getF hx hZ hown (host := "") (Or.inl (tw hw 11 rfl)) Via.refl F_v (g := (mkF m 35 #[.val (.ref a1), .val (.int (0 : Int32)), .val (.int w1)] [(.ref a1)])) rfl rfl (hb hby d3_35)
  refine Go.by st2 ?_
  show Go p.tables e below _ (T2.setTop (mkF m 38 #[.val (.ref a1), .val (.int (0 : Int32)), .val (.int w1)] [(.ref o)]))
  exact Go.retA X2 hx hlk hret rfl rfl (hb hby d3_38) (by decide) (by decide) ⟨rfl, rfl⟩
abbrev Rm3_21 : Room := { frames := 0, cells := 2, slots := 8, locals := 0 }
set_option maxRecDepth 65536 in
set_option maxHeartbeats 40000000 in
theorem rm3_21 (l : Launch) (Z : State) (a0 : Array Value) (hw : ∀ d ∈ tables_1, d.before a0 Z = true) (ws : List Jvm.Cond) (a1 : Addr) (w1 : Int32) (o : Addr) (kO : ClassId) (fo : Nat → Value) (x0 : Addr) (k0 : ClassId) (sz0 : Nat) (h0 : Heap) (n0 : Nat) (Z0 : n0 ≤ h0.size) (E_a1 : Exa Z h0 a1 "com/example/bitstrata/bitstrata/bitmap/Formula$Workspace") (g_a1 : n0 ≤ a1) (F_v : Fld Z h0 a1 "com/example/bitstrata/bitstrata/bitmap/Formula$Workspace" "vectors" "[[J" (.ref o)) (V_o : Avf Z h0 o kO (.array .long) 2 fo) (hw0 : ¬ w1 < 0) (hw7 : w1.toNatClampNeg ≤ 7) (hf0 : fo 0 = .ref x0) (V_x0 : Avf Z h0 x0 k0 .long sz0 (fun _ => (.long 0))) :
    Met l Z n0 (⟨"com/example/bitstrata/bitstrata/bitmap/Formula$Workspace", "vectors", "(II)[[J"⟩ : MethodName) prog_11_method_2_code 3 (some (.array (.array .long))) ws Rm3_21 #[(.ref a1), (.int (1 : Int32)), (.int w1)] h0 (fun v h => ((sz0.toInt32) = w1 ∧ v = some (.ref o) ∧ h0 = h) ∨ (¬ (sz0.toInt32) = w1 ∧ (∃ r kc kd, v = some (.ref r) ∧ h0.size ≤ r ∧ Keep h0 h [a1] ∧ Exa Z h a1 "com/example/bitstrata/bitstrata/bitmap/Formula$Workspace" ∧ Fld Z h a1 "com/example/bitstrata/bitstrata/bitmap/Formula$Workspace" "vectors" "[[J" (.ref r) ∧ Avf Z h r kc (.array .long) 1 (fun i => .ref (r + 1 + i)) ∧ ∀ i, i < 1 → Avf Z h (r + 1 + i) kd .long (w1.toNatClampNeg) (fun _ => (.long 0))))) := by
  refine enter (Ls := #[.val (.ref a1), .val (.int (1 : Int32)), .val (.int w1)]) (plainFor_of_name pn0) (fun m => by first | (simp [entryFrame, mkF, argsToLocals, Value.category]; done) | rfl) ?_
  intro p e s m below meth c T0 hx hby hml hown hnm hret hlk hZ X0
  have K0 := Keep.refl h0 [a1]
  show Go p.tables e below _ (T0.setTop (mkF m 0 #[.val (.ref a1), .val (.int (1 : Int32)), .val (.int w1)] []))
  refine Go.by (fun _ => XS.aloadN X0.here hx rfl (hb hby d3_0) rfl rfl) ?_
  show Go p.tables e below _ (T0.setTop (mkF m 1 #[.val (.ref a1), .val (.int (1 : Int32)), .val (.int w1)] [(.ref a1)]))
  obtain ⟨T1, X1, st1⟩ := X0.getF hx hZ hown (host := "") (Or.inl (tw hw 11 rfl)) Via.refl F_v (g := (mkF m 1 #[.val (.ref a1), .val (.int (1 : Int32)), .val (.int w1)] [(.ref a1)])) rfl rfl (hb hby d3_1)
  refine Go.by st1 ?_
  show Go p.tables e below _ (T1.setTop (mkF m 4 #[.val (.ref a1), .val (.int (1 : Int32)), .val (.int w1)] [(.ref o)]))
  refine Go.by (X1.len hx hZ V_o (z := (2 : Int32)) rfl (g := (mkF m 4 #[.val (.ref a1), .val (.int (1 : Int32)), .val (.int w1)] [(.ref o)])) rfl rfl (hb hby d3_4)) ?_
  show Go p.tables e below _ (T1.setTop (mkF m 5 #[.val (.ref a1), .val (.int (1 : Int32)), .val (.int w1)] [(.int (2 : Int32))]))
  refine Go.by (fun _ => XS.iloadN X1.here hx rfl (hb hby d3_5) rfl) ?_
  show Go p.tables e below _ (T1.setTop (mkF m 6 #[.val (.ref a1), .val (.int (1 : Int32)), .val (.int w1)] [(.int (1 : Int32)), (.int (2 : Int32))]))
  refine Go.by (fun _ => XS.icmpNo X1.here hx rfl (hb hby d3_6) rfl (flt (by decide)).1) ?_
  show Go p.tables e below _ (T1.setTop (mkF m 9 #[.val (.ref a1), .val (.int (1 : Int32)), .val (.int w1)] []))
  refine Go.by (fun _ => XS.iloadN X1.here hx rfl (hb hby d3_9) rfl) ?_
  show Go p.tables e below _ (T1.setTop (mkF m 10 #[.val (.ref a1), .val (.int (1 : Int32)), .val (.int w1)] [(.int (1 : Int32))]))
  refine Go.by (fun _ => XS.ifNo X1.here hx rfl (hb hby d3_10) rfl ((if0 _ _).trans (tlt (by decide)).2.2.2)) ?_
  show Go p.tables e below _ (T1.setTop (mkF m 13 #[.val (.ref a1), .val (.int (1 : Int32)), .val (.int w1)] []))
  refine Go.by (fun _ => XS.aloadN X1.here hx rfl (hb hby d3_13) rfl rfl) ?_
  show Go p.tables e below _ (T1.setTop (mkF m 14 #[.val (.ref a1), .val (.int (1 : Int32)), .val (.int w1)] [(.ref a1)]))
  obtain ⟨T2, X2, st2⟩ := X1.getF hx hZ hown (host := "") (Or.inl (tw hw 11 rfl)) Via.refl F_v (g := (mkF m 14 #[.val (.ref a1), .val (.int (1 : Int32)), .val (.int w1)] [(.ref a1)])) rfl rfl (hb hby d3_14)
  refine Go.by st2 ?_
  show Go p.tables e below _ (T2.setTop (mkF m 17 #[.val (.ref a1), .val (.int (1 : Int32)), .val (.int w1)] [(.ref o)]))
  refine Go.by (fun _ => XS.iconst X2.here hx rfl (hb hby d3_17)) ?_
  show Go p.tables e below _ (T2.setTop (mkF m 18 #[.val (.ref a1), .val (.int (1 : Int32)), .val (.int w1)] [(.int (0 : Int32)), (.ref o)]))
  refine Go.by (X2.ldA hx hZ V_o rfl (by decide) (i := 0) rfl (by decide) (v := (.ref x0)) hf0 (g := (mkF m 18 #[.val (.ref a1), .val (.int (1 : Int32)), .val (.int w1)] [(.int (0 : Int32)), (.ref o)])) rfl rfl (hb hby d3_18)) ?_
  show Go p.tables e below _ (T2.setTop (mkF m 19 #[.val (.ref a1), .val (.int (1 : Int32)), .val (.int w1)] [(.ref x0)]))
  refine Go.by (X2.len hx hZ V_x0 (z := (sz0.toInt32)) rfl (g := (mkF m 19 #[.val (.ref a1), .val (.int (1 : Int32)), .val (.int w1)] [(.ref x0)])) rfl rfl (hb hby d3_19)) ?_
  show Go p.tables e below _ (T2.setTop (mkF m 20 #[.val (.ref a1), .val (.int (1 : Int32)), .val (.int w1)] [(.int (sz0.toInt32))]))
  refine Go.by (fun _ => XS.iloadN X2.here hx rfl (hb hby d3_20) rfl) ?_
  show Go p.tables e below _ (T2.setTop (mkF m 21 #[.val (.ref a1), .val (.int (1 : Int32)), .val (.int w1)] [(.int w1), (.int (sz0.toInt32))]))
  by_cases hc21_3 : (sz0.toInt32) = w1
  · skip
    refine Go.by (fun _ => XS.icmpYes X2.here hx rfl (pc0 := 21) (pc' := 34) rfl (hb hby d3_21) rfl (teq hc21_3).1 (by decide) (by decide)) ?_
    show Go p.tables e below _ (T2.setTop (mkF m 34 #[.val (.ref a1), .val (.int (1 : Int32)), .val (.int w1)] []))
    refine Go.by (fun _ => XS.aloadN X2.here hx rfl (hb hby d3_34) rfl rfl) ?_
    show Go p.tables e below _ (T2.setTop (mkF m 35 #[.val (.ref a1), .val (.int (1 : Int32)), .val (.int w1)] [(.ref a1)]))
    obtain ⟨T4, X4, st4⟩ := X2.getF hx hZ hown (host := "") (Or.inl (tw hw 11 rfl)) Via.refl F_v (g := (mkF m 35 #[.val (.ref a1), .val (.int (1 : Int32)), .val (.int w1)] [(.ref a1)])) rfl rfl (hb hby d3_35)
    refine Go.by st4 ?_
    show Go p.tables e below _ (T4.setTop (mkF m 38 #[.val (.ref a1), .val (.int (1 : Int32)), .val (.int w1)] [(.ref o)]))
    exact Go.retA X4 hx hlk hret rfl rfl (hb hby d3_38) (by decide) (by decide) (Or.inl ⟨hc21_3, rfl, rfl⟩)
  · skip
    refine Go.by (fun _ => XS.icmpNo X2.here hx rfl (hb hby d3_21) rfl (feq hc21_3).1) ?_
    show Go p.tables e below _ (T2.setTop (mkF m 24 #[.val (.ref a1), .val (.int (1 : Int32)), .val (.int w1)] []))
    refine Go.by (fun _ => XS.aloadN X2.here hx rfl (hb hby d3_24) rfl rfl) ?_
    show Go p.tables e below _ (T2.setTop (mkF m 25 #[.val (.ref a1), .val (.int (1 : Int32)), .val (.int w1)] [(.ref a1)]))
    refine Go.by (fun _ => XS.iloadN X2.here hx rfl (hb hby d3_25) rfl) ?_
    show Go p.tables e below _ (T2.setTop (mkF m 26 #[.val (.ref a1), .val (.int (1 : Int32)), .val (.int w1)] [(.int (1 : Int32)), (.ref a1)]))
    refine Go.by (fun _ => XS.iloadN X2.here hx rfl (hb hby d3_26) rfl) ?_
    show Go p.tables e below _ (T2.setTop (mkF m 27 #[.val (.ref a1), .val (.int (1 : Int32)), .val (.int w1)] [(.int w1), (.int (1 : Int32)), (.ref a1)]))
    obtain ⟨T5, h5, kc5, kd5, b5, X5, g5, E5, A5, V5, VV5, st5⟩ := X2.grid hx hZ hown (tw hw 25 rfl) (tw hw 10 rfl) (tw hw 26 rfl) (g := (mkF m 27 #[.val (.ref a1), .val (.int (1 : Int32)), .val (.int w1)] [(.int w1), (.int (1 : Int32)), (.ref a1)])) rfl (hb hby d3_27) rfl (by decide) hw0 (N := 1) (sz := w1.toNatClampNeg) (cap := 7) (k' := 2) (n' := 8) rfl rfl hw7 (by decide) (by decide) rfl rfl (by decide) (by decide)
    have g_b5 : n0 ≤ b5 := by rw [g5]; exact Z0
    have sz_b5 : h0.size ≤ b5 := by rw [g5]; exact K0.1
    have ne_a1_b5 : a1 ≠ b5 := Nat.ne_of_lt (by rw [g5]; exact E_a1.lt)
    have f6_53 := E_a1.ext E5
    have f6_54 := F_v.ext E5
    have f6_55 := K0.ext E5
    have Zs6 : n0 ≤ h5.size := Nat.le_trans Z0 E5.1
    refine Go.by st5 ?_
    show Go p.tables e below _ (T5.setTop (mkF m 31 #[.val (.ref a1), .val (.int (1 : Int32)), .val (.int w1)] [(.ref b5), (.ref a1)]))
    obtain ⟨T7, h7, X7, W7, st7⟩ := X5.putF hx hZ hown (host := "") (Or.inl (tw hw 11 rfl)) Via.refl f6_54 f6_53 g_a1 (Or.inl (tw hw 12 rfl)) (tw hw 1 rfl) (ty := (.array (.array .long))) (by decide) rfl rfl (g := (mkF m 31 #[.val (.ref a1), .val (.int (1 : Int32)), .val (.int w1)] [(.ref b5), (.ref a1)])) rfl rfl (hb hby d3_31)
    have Fw7 := f6_54.same W7
    have f8_61 := f6_53.wr W7
    have f8_62 := f6_55.wr W7 (Or.inl (List.mem_of_getElem? (i := 0) rfl))
    have f8_63 := Avf.other V5 W7 (Ne.symm ne_a1_b5)
    have Zs8 : n0 ≤ h7.size := by rw [W7.size]; exact Zs6
    refine Go.by st7 ?_
    show Go p.tables e below _ (T7.setTop (mkF m 34 #[.val (.ref a1), .val (.int (1 : Int32)), .val (.int w1)] []))
    refine Go.by (fun _ => XS.aloadN X7.here hx rfl (hb hby d3_34) rfl rfl) ?_
    show Go p.tables e below _ (T7.setTop (mkF m 35 #[.val (.ref a1), .val (.int (1 : Int32)), .val (.int w1)] [(.ref a1)]))
    obtain ⟨T9, X9, st9⟩ := X7.getF hx hZ hown (host := "") (Or.inl (tw hw 11 rfl)) Via.refl Fw7 (g := (mkF m 35 #[.val (.ref a1), .val (.int (1 : Int32)), .val (.int w1)] [(.ref a1)])) rfl rfl (hb hby d3_35)
    refine Go.by st9 ?_
    show Go p.tables e below _ (T9.setTop (mkF m 38 #[.val (.ref a1), .val (.int (1 : Int32)), .val (.int w1)] [(.ref b5)]))
    exact Go.retA X9 hx hlk hret rfl rfl (hb hby d3_38) (by decide) (by decide) (Or.inr ⟨hc21_3, ⟨b5, kc5, kd5, rfl, sz_b5, f8_62, f8_61, Fw7, f8_63, fun i hi => Avf.other (VV5 i hi) W7 (Nat.ne_of_gt (Nat.lt_of_lt_of_le E_a1.lt (Nat.le_trans sz_b5 (Nat.le_trans (Nat.le_add_right _ 1) (Nat.le_add_right _ i)))))⟩⟩)
abbrev Rm3_22 : Room := { frames := 0, cells := 3, slots := 16, locals := 0 }
set_option maxRecDepth 65536 in
set_option maxHeartbeats 40000000 in
theorem rm3_22 (l : Launch) (Z : State) (a0 : Array Value) (hw : ∀ d ∈ tables_1, d.before a0 Z = true) (ws : List Jvm.Cond) (a1 : Addr) (w1 : Int32) (o : Addr) (kO : ClassId) (fo : Nat → Value) (x0 : Addr) (k0 : ClassId) (sz0 : Nat) (h0 : Heap) (n0 : Nat) (Z0 : n0 ≤ h0.size) (E_a1 : Exa Z h0 a1 "com/example/bitstrata/bitstrata/bitmap/Formula$Workspace") (g_a1 : n0 ≤ a1) (F_v : Fld Z h0 a1 "com/example/bitstrata/bitstrata/bitmap/Formula$Workspace" "vectors" "[[J" (.ref o)) (V_o : Avf Z h0 o kO (.array .long) 2 fo) (hw0 : ¬ w1 < 0) (hw7 : w1.toNatClampNeg ≤ 7) (hf0 : fo 0 = .ref x0) (V_x0 : Avf Z h0 x0 k0 .long sz0 (fun _ => (.long 0))) :
    Met l Z n0 (⟨"com/example/bitstrata/bitstrata/bitmap/Formula$Workspace", "vectors", "(II)[[J"⟩ : MethodName) prog_11_method_2_code 3 (some (.array (.array .long))) ws Rm3_22 #[(.ref a1), (.int (2 : Int32)), (.int w1)] h0 (fun v h => ((sz0.toInt32) = w1 ∧ v = some (.ref o) ∧ h0 = h) ∨ (¬ (sz0.toInt32) = w1 ∧ (∃ r kc kd, v = some (.ref r) ∧ h0.size ≤ r ∧ Keep h0 h [a1] ∧ Exa Z h a1 "com/example/bitstrata/bitstrata/bitmap/Formula$Workspace" ∧ Fld Z h a1 "com/example/bitstrata/bitstrata/bitmap/Formula$Workspace" "vectors" "[[J" (.ref r) ∧ Avf Z h r kc (.array .long) 2 (fun i => .ref (r + 1 + i)) ∧ ∀ i, i < 2 → Avf Z h (r + 1 + i) kd .long (w1.toNatClampNeg) (fun _ => (.long 0))))) := by
  refine enter (Ls := #[.val (.ref a1), .val (.int (2 : Int32)), .val (.int w1)]) (plainFor_of_name pn0) (fun m => by first | (simp [entryFrame, mkF, argsToLocals, Value.category]; done) | rfl) ?_
  intro p e s m below meth c T0 hx hby hml hown hnm hret hlk hZ X0
  have K0 := Keep.refl h0 [a1]
  show Go p.tables e below _ (T0.setTop (mkF m 0 #[.val (.ref a1), .val (.int (2 : Int32)), .val (.int w1)] []))
  refine Go.by (fun _ => XS.aloadN X0.here hx rfl (hb hby d3_0) rfl rfl) ?_
  show Go p.tables e below _ (T0.setTop (mkF m 1 #[.val (.ref a1), .val (.int (2 : Int32)), .val (.int w1)] [(.ref a1)]))
  obtain ⟨T1, X1, st1⟩ := X0.getF hx hZ hown (host := "") (Or.inl (tw hw 11 rfl)) Via.refl F_v (g := (mkF m 1 #[.val (.ref a1), .val (.int (2 : Int32)), .val (.int w1)] [(.ref a1)])) rfl rfl (hb hby d3_1)
  refine Go.by st1 ?_
  show Go p.tables e below _ (T1.setTop (mkF m 4 #[.val (.ref a1), .val (.int (2 : Int32)), .val (.int w1)] [(.ref o)]))
  refine Go.by (X1.len hx hZ V_o (z := (2 : Int32)) rfl (g := (mkF m 4 #[.val (.ref a1), .val (.int (2 : Int32)), .val (.int w1)] [(.ref o)])) rfl rfl (hb hby d3_4)) ?_
  show Go p.tables e below _ (T1.setTop (mkF m 5 #[.val (.ref a1), .val (.int (2 : Int32)), .val (.int w1)] [(.int (2 : Int32))]))
  refine Go.by (fun _ => XS.iloadN X1.here hx rfl (hb hby d3_5) rfl) ?_
  show Go p.tables e below _ (T1.setTop (mkF m 6 #[.val (.ref a1), .val (.int (2 : Int32)), .val (.int w1)] [(.int (2 : Int32)), (.int (2 : Int32))]))
  refine Go.by (fun _ => XS.icmpNo X1.here hx rfl (hb hby d3_6) rfl (flt (by decide)).1) ?_
  show Go p.tables e below _ (T1.setTop (mkF m 9 #[.val (.ref a1), .val (.int (2 : Int32)), .val (.int w1)] []))
  refine Go.by (fun _ => XS.iloadN X1.here hx rfl (hb hby d3_9) rfl) ?_
  show Go p.tables e below _ (T1.setTop (mkF m 10 #[.val (.ref a1), .val (.int (2 : Int32)), .val (.int w1)] [(.int (2 : Int32))]))
  refine Go.by (fun _ => XS.ifNo X1.here hx rfl (hb hby d3_10) rfl ((if0 _ _).trans (tlt (by decide)).2.2.2)) ?_
  show Go p.tables e below _ (T1.setTop (mkF m 13 #[.val (.ref a1), .val (.int (2 : Int32)), .val (.int w1)] []))
  refine Go.by (fun _ => XS.aloadN X1.here hx rfl (hb hby d3_13) rfl rfl) ?_
  show Go p.tables e below _ (T1.setTop (mkF m 14 #[.val (.ref a1), .val (.int (2 : Int32)), .val (.int w1)] [(.ref a1)]))
  obtain ⟨T2, X2, st2⟩ := X1.getF hx hZ hown (host := "") (Or.inl (tw hw 11 rfl)) Via.refl F_v (g := (mkF m 14 #[.val (.ref a1), .val (.int (2 : Int32)), .val (.int w1)] [(.ref a1)])) rfl rfl (hb hby d3_14)
  refine Go.by st2 ?_
  show Go p.tables e below _ (T2.setTop (mkF m 17 #[.val (.ref a1), .val (.int (2 : Int32)), .val (.int w1)] [(.ref o)]))
  refine Go.by (fun _ => XS.iconst X2.here hx rfl (hb hby d3_17)) ?_
  show Go p.tables e below _ (T2.setTop (mkF m 18 #[.val (.ref a1), .val (.int (2 : Int32)), .val (.int w1)] [(.int (0 : Int32)), (.ref o)]))
  refine Go.by (X2.ldA hx hZ V_o rfl (by decide) (i := 0) rfl (by decide) (v := (.ref x0)) hf0 (g := (mkF m 18 #[.val (.ref a1), .val (.int (2 : Int32)), .val (.int w1)] [(.int (0 : Int32)), (.ref o)])) rfl rfl (hb hby d3_18)) ?_
  show Go p.tables e below _ (T2.setTop (mkF m 19 #[.val (.ref a1), .val (.int (2 : Int32)), .val (.int w1)] [(.ref x0)]))
  refine Go.by (X2.len hx hZ V_x0 (z := (sz0.toInt32)) rfl (g := (mkF m 19 #[.val (.ref a1), .val (.int (2 : Int32)), .val (.int w1)] [(.ref x0)])) rfl rfl (hb hby d3_19)) ?_
  show Go p.tables e below _ (T2.setTop (mkF m 20 #[.val (.ref a1), .val (.int (2 : Int32)), .val (.int w1)] [(.int (sz0.toInt32))]))
  refine Go.by (fun _ => XS.iloadN X2.here hx rfl (hb hby d3_20) rfl) ?_
  show Go p.tables e below _ (T2.setTop (mkF m 21 #[.val (.ref a1), .val (.int (2 : Int32)), .val (.int w1)] [(.int w1), (.int (sz0.toInt32))]))
  by_cases hc21_3 : (sz0.toInt32) = w1
  · skip
    refine Go.by (fun _ => XS.icmpYes X2.here hx rfl (pc0 := 21) (pc' := 34) rfl (hb hby d3_21) rfl (teq hc21_3).1 (by decide) (by decide)) ?_
    show Go p.tables e below _ (T2.setTop (mkF m 34 #[.val (.ref a1), .val (.int (2 : Int32)), .val (.int w1)] []))
    refine Go.by (fun _ => XS.aloadN X2.here hx rfl (hb hby d3_34) rfl rfl) ?_
    show Go p.tables e below _ (T2.setTop (mkF m 35 #[.val (.ref a1), .val (.int (2 : Int32)), .val (.int w1)] [(.ref a1)]))
    obtain ⟨T4, X4, st4⟩ := X2.getF hx hZ hown (host := "") (Or.inl (tw hw 11 rfl)) Via.refl F_v (g := (mkF m 35 #[.val (.ref a1), .val (.int (2 : Int32)), .val (.int w1)] [(.ref a1)])) rfl rfl (hb hby d3_35)
    refine Go.by st4 ?_
    show Go p.tables e below _ (T4.setTop (mkF m 38 #[.val (.ref a1), .val (.int (2 : Int32)), .val (.int w1)] [(.ref o)]))
    exact Go.retA X4 hx hlk hret rfl rfl (hb hby d3_38) (by decide) (by decide) (Or.inl ⟨hc21_3, rfl, rfl⟩)
  · skip
    refine Go.by (fun _ => XS.icmpNo X2.here hx rfl (hb hby d3_21) rfl (feq hc21_3).1) ?_
    show Go p.tables e below _ (T2.setTop (mkF m 24 #[.val (.ref a1), .val (.int (2 : Int32)), .val (.int w1)] []))
    refine Go.by (fun _ => XS.aloadN X2.here hx rfl (hb hby d3_24) rfl rfl) ?_
    show Go p.tables e below _ (T2.setTop (mkF m 25 #[.val (.ref a1), .val (.int (2 : Int32)), .val (.int w1)] [(.ref a1)]))
    refine Go.by (fun _ => XS.iloadN X2.here hx rfl (hb hby d3_25) rfl) ?_
    show Go p.tables e below _ (T2.setTop (mkF m 26 #[.val (.ref a1), .val (.int (2 : Int32)), .val (.int w1)] [(.int (2 : Int32)), (.ref a1)]))
    refine Go.by (fun _ => XS.iloadN X2.here hx rfl (hb hby d3_26) rfl) ?_
    show Go p.tables e below _ (T2.setTop (mkF m 27 #[.val (.ref a1), .val (.int (2 : Int32)), .val (.int w1)] [(.int w1), (.int (2 : Int32)), (.ref a1)]))
    obtain ⟨T5, h5, kc5, kd5, b5, X5, g5, E5, A5, V5, VV5, st5⟩ := X2.grid hx hZ hown (tw hw 25 rfl) (tw hw 10 rfl) (tw hw 26 rfl) (g := (mkF m 27 #[.val (.ref a1), .val (.int (2 : Int32)), .val (.int w1)] [(.int w1), (.int (2 : Int32)), (.ref a1)])) rfl (hb hby d3_27) rfl (by decide) hw0 (N := 2) (sz := w1.toNatClampNeg) (cap := 7) (k' := 3) (n' := 16) rfl rfl hw7 (by decide) (by decide) rfl rfl (by decide) (by decide)
    have g_b5 : n0 ≤ b5 := by rw [g5]; exact Z0
    have sz_b5 : h0.size ≤ b5 := by rw [g5]; exact K0.1
    have ne_a1_b5 : a1 ≠ b5 := Nat.ne_of_lt (by rw [g5]; exact E_a1.lt)
    have f6_53 := E_a1.ext E5
    have f6_54 := F_v.ext E5
    have f6_55 := K0.ext E5
    have Zs6 : n0 ≤ h5.size := Nat.le_trans Z0 E5.1
    refine Go.by st5 ?_
    show Go p.tables e below _ (T5.setTop (mkF m 31 #[.val (.ref a1), .val (.int (2 : Int32)), .val (.int w1)] [(.ref b5), (.ref a1)]))
    obtain ⟨T7, h7, X7, W7, st7⟩ := X5.putF hx hZ hown (host := "") (Or.inl (tw hw 11 rfl)) Via.refl f6_54 f6_53 g_a1 (Or.inl (tw hw 12 rfl)) (tw hw 1 rfl) (ty := (.array (.array .long))) (by decide) rfl rfl (g := (mkF m 31 #[.val (.ref a1), .val (.int (2 : Int32)), .val (.int w1)] [(.ref b5), (.ref a1)])) rfl rfl (hb hby d3_31)
    have Fw7 := f6_54.same W7
    have f8_61 := f6_53.wr W7
    have f8_62 := f6_55.wr W7 (Or.inl (List.mem_of_getElem? (i := 0) rfl))
    have f8_63 := Avf.other V5 W7 (Ne.symm ne_a1_b5)
    have Zs8 : n0 ≤ h7.size := by rw [W7.size]; exact Zs6
    refine Go.by st7 ?_
    show Go p.tables e below _ (T7.setTop (mkF m 34 #[.val (.ref a1), .val (.int (2 : Int32)), .val (.int w1)] []))
    refine Go.by (fun _ => XS.aloadN X7.here hx rfl (hb hby d3_34) rfl rfl) ?_
    show Go p.tables e below _ (T7.setTop (mkF m 35 #[.val (.ref a1), .val (.int (2 : Int32)), .val (.int w1)] [(.ref a1)]))
    obtain ⟨T9, X9, st9⟩ := X7.getF hx hZ hown (host := "") (Or.inl (tw hw 11 rfl)) Via.refl Fw7 (g := (mkF m 35 #[.val (.ref a1), .val (.int (2 : Int32)), .val (.int w1)] [(.ref a1)])) rfl rfl (hb hby d3_35)
    refine Go.by st9 ?_
    show Go p.tables e below _ (T9.setTop (mkF m 38 #[.val (.ref a1), .val (.int (2 : Int32)), .val (.int w1)] [(.ref b5)]))
    exact Go.retA X9 hx hlk hret rfl rfl (hb hby d3_38) (by decide) (by decide) (Or.inr ⟨hc21_3, ⟨b5, kc5, kd5, rfl, sz_b5, f8_62, f8_61, Fw7, f8_63, fun i hi => Avf.other (VV5 i hi) W7 (Nat.ne_of_gt (Nat.lt_of_lt_of_le E_a1.lt (Nat.le_trans sz_b5 (Nat.le_trans (Nat.le_add_right _ 1) (Nat.le_add_right _ i)))))⟩⟩)
abbrev Rm3_23 : Room := { frames := 0, cells := 4, slots := 24, locals := 0 }
set_option maxRecDepth 65536 in
set_option maxHeartbeats 40000000 in
theorem rm3_23 (l : Launch) (Z : State) (a0 : Array Value) (hw : ∀ d ∈ tables_1, d.before a0 Z = true) (ws : List Jvm.Cond) (a1 : Addr) (w1 : Int32) (o : Addr) (kO : ClassId) (fo : Nat → Value) (h0 : Heap) (n0 : Nat) (Z0 : n0 ≤ h0.size) (E_a1 : Exa Z h0 a1 "com/example/bitstrata/bitstrata/bitmap/Formula$Workspace") (g_a1 : n0 ≤ a1) (F_v : Fld Z h0 a1 "com/example/bitstrata/bitstrata/bitmap/Formula$Workspace" "vectors" "[[J" (.ref o)) (V_o : Avf Z h0 o kO (.array .long) 2 fo) (hw0 : ¬ w1 < 0) (hw7 : w1.toNatClampNeg ≤ 7) :
    Met l Z n0 (⟨"com/example/bitstrata/bitstrata/bitmap/Formula$Workspace", "vectors", "(II)[[J"⟩ : MethodName) prog_11_method_2_code 3 (some (.array (.array .long))) ws Rm3_23 #[(.ref a1), (.int (3 : Int32)), (.int w1)] h0 (fun v h => (∃ r kc kd, v = some (.ref r) ∧ h0.size ≤ r ∧ Keep h0 h [a1] ∧ Exa Z h a1 "com/example/bitstrata/bitstrata/bitmap/Formula$Workspace" ∧ Fld Z h a1 "com/example/bitstrata/bitstrata/bitmap/Formula$Workspace" "vectors" "[[J" (.ref r) ∧ Avf Z h r kc (.array .long) 3 (fun i => .ref (r + 1 + i)) ∧ ∀ i, i < 3 → Avf Z h (r + 1 + i) kd .long (w1.toNatClampNeg) (fun _ => (.long 0)))) := by
  refine enter (Ls := #[.val (.ref a1), .val (.int (3 : Int32)), .val (.int w1)]) (plainFor_of_name pn0) (fun m => by first | (simp [entryFrame, mkF, argsToLocals, Value.category]; done) | rfl) ?_
  intro p e s m below meth c T0 hx hby hml hown hnm hret hlk hZ X0
  have K0 := Keep.refl h0 [a1]
  show Go p.tables e below _ (T0.setTop (mkF m 0 #[.val (.ref a1), .val (.int (3 : Int32)), .val (.int w1)] []))
  refine Go.by (fun _ => XS.aloadN X0.here hx rfl (hb hby d3_0) rfl rfl) ?_
  show Go p.tables e below _ (T0.setTop (mkF m 1 #[.val (.ref a1), .val (.int (3 : Int32)), .val (.int w1)] [(.ref a1)]))
  obtain ⟨T1, X1, st1⟩ := X0.getF hx hZ hown (host := "") (Or.inl (tw hw 11 rfl)) Via.refl F_v (g := (mkF m 1 #[.val (.ref a1), .val (.int (3 : Int32)), .val (.int w1)] [(.ref a1)])) rfl rfl (hb hby d3_1)
  refine Go.by st1 ?_
  show Go p.tables e below _ (T1.setTop (mkF m 4 #[.val (.ref a1), .val (.int (3 : Int32)), .val (.int w1)] [(.ref o)]))
  refine Go.by (X1.len hx hZ V_o (z := (2 : Int32)) rfl (g := (mkF m 4 #[.val (.ref a1), .val (.int (3 : Int32)), .val (.int w1)] [(.ref o)])) rfl rfl (hb hby d3_4)) ?_
  show Go p.tables e below _ (T1.setTop (mkF m 5 #[.val (.ref a1), .val (.int (3 : Int32)), .val (.int w1)] [(.int (2 : Int32))]))
  refine Go.by (fun _ => XS.iloadN X1.here hx rfl (hb hby d3_5) rfl) ?_
  show Go p.tables e below _ (T1.setTop (mkF m 6 #[.val (.ref a1), .val (.int (3 : Int32)), .val (.int w1)] [(.int (3 : Int32)), (.int (2 : Int32))]))
  refine Go.by (fun _ => XS.icmpYes X1.here hx rfl (pc0 := 6) (pc' := 24) rfl (hb hby d3_6) rfl (tlt (by decide)).1 (by decide) (by decide)) ?_
  show Go p.tables e below _ (T1.setTop (mkF m 24 #[.val (.ref a1), .val (.int (3 : Int32)), .val (.int w1)] []))
  refine Go.by (fun _ => XS.aloadN X1.here hx rfl (hb hby d3_24) rfl rfl) ?_
  show Go p.tables e below _ (T1.setTop (mkF m 25 #[.val (.ref a1), .val (.int (3 : Int32)), .val (.int w1)] [(.ref a1)]))
  refine Go.by (fun _ => XS.iloadN X1.here hx rfl (hb hby d3_25) rfl) ?_
  show Go p.tables e below _ (T1.setTop (mkF m 26 #[.val (.ref a1), .val (.int (3 : Int32)), .val (.int w1)] [(.int (3 : Int32)), (.ref a1)]))
  refine Go.by (fun _ => XS.iloadN X1.here hx rfl (hb hby d3_26) rfl) ?_
  show Go p.tables e below _ (T1.setTop (mkF m 27 #[.val (.ref a1), .val (.int (3 : Int32)), .val (.int w1)] [(.int w1), (.int (3 : Int32)), (.ref a1)]))
  obtain ⟨T2, h2, kc2, kd2, b2, X2, g2, E2, A2, V2, VV2, st2⟩ := X1.grid hx hZ hown (tw hw 25 rfl) (tw hw 10 rfl) (tw hw 26 rfl) (g := (mkF m 27 #[.val (.ref a1), .val (.int (3 : Int32)), .val (.int w1)] [(.int w1), (.int (3 : Int32)), (.ref a1)])) rfl (hb hby d3_27) rfl (by decide) hw0 (N := 3) (sz := w1.toNatClampNeg) (cap := 7) (k' := 4) (n' := 24) rfl rfl hw7 (by decide) (by decide) rfl rfl (by decide) (by decide)
  have g_b2 : n0 ≤ b2 := by rw [g2]; exact Z0
  have sz_b2 : h0.size ≤ b2 := by rw [g2]; exact K0.1
  have ne_a1_b2 : a1 ≠ b2 := Nat.ne_of_lt (by rw [g2]; exact E_a1.lt)
  have f3_23 := E_a1.ext E2
  have f3_24 := F_v.ext E2
  have f3_25 := K0.ext E2
  have Zs3 : n0 ≤ h2.size := Nat.le_trans Z0 E2.1
  refine Go.by st2 ?_
  show Go p.tables e below _ (T2.setTop (mkF m 31 #[.val (.ref a1), .val (.int (3 : Int32)), .val (.int w1)] [(.ref b2), (.ref a1)]))
  obtain ⟨T4, h4, X4, W4, st4⟩ := X2.putF hx hZ hown (host := "") (Or.inl (tw hw 11 rfl)) Via.refl f3_24 f3_23 g_a1 (Or.inl (tw hw 12 rfl)) (tw hw 1 rfl) (ty := (.array (.array .long))) (by decide) rfl rfl (g := (mkF m 31 #[.val (.ref a1), .val (.int (3 : Int32)), .val (.int w1)] [(.ref b2), (.ref a1)])) rfl rfl (hb hby d3_31)
  have Fw4 := f3_24.same W4
  have f5_31 := f3_23.wr W4
  have f5_32 := f3_25.wr W4 (Or.inl (List.mem_of_getElem? (i := 0) rfl))
  have f5_33 := Avf.other V2 W4 (Ne.symm ne_a1_b2)
  have Zs5 : n0 ≤ h4.size := by rw [W4.size]; exact Zs3
  refine Go.by st4 ?_
  show Go p.tables e below _ (T4.setTop (mkF m 34 #[.val (.ref a1), .val (.int (3 : Int32)), .val (.int w1)] []))
  refine Go.by (fun _ => XS.aloadN X4.here hx rfl (hb hby d3_34) rfl rfl) ?_
  show Go p.tables e below _ (T4.setTop (mkF m 35 #[.val (.ref a1), .val (.int (3 : Int32)), .val (.int w1)] [(.ref a1)]))
  obtain ⟨T6, X6, st6⟩ := X4.getF hx hZ hown (host := "") (Or.inl (tw hw 11 rfl)) Via.refl Fw4 (g := (mkF m 35 #[.val (.ref a1), .val (.int (3 : Int32)), .val (.int w1)] [(.ref a1)])) rfl rfl (hb hby d3_35)
  refine Go.by st6 ?_
  show Go p.tables e below _ (T6.setTop (mkF m 38 #[.val (.ref a1), .val (.int (3 : Int32)), .val (.int w1)] [(.ref b2)]))
  exact Go.retA X6 hx hlk hret rfl rfl (hb hby d3_38) (by decide) (by decide) ⟨b2, kc2, kd2, rfl, sz_b2, f5_32, f5_31, Fw4, f5_33, fun i hi => Avf.other (VV2 i hi) W4 (Nat.ne_of_gt (Nat.lt_of_lt_of_le E_a1.lt (Nat.le_trans sz_b2 (Nat.le_trans (Nat.le_add_right _ 1) (Nat.le_add_right _ i)))))⟩
abbrev Rm3_30 : Room := { frames := 0, cells := 0, slots := 0, locals := 0 }
set_option maxRecDepth 65536 in
set_option maxHeartbeats 40000000 in
theorem rm3_30 (l : Launch) (Z : State) (a0 : Array Value) (hw : ∀ d ∈ tables_1, d.before a0 Z = true) (ws : List Jvm.Cond) (a1 : Addr) (w1 : Int32) (o : Addr) (kO : ClassId) (fo : Nat → Value) (h0 : Heap) (n0 : Nat) (Z0 : n0 ≤ h0.size) (E_a1 : Exa Z h0 a1 "com/example/bitstrata/bitstrata/bitmap/Formula$Workspace") (g_a1 : n0 ≤ a1) (F_v : Fld Z h0 a1 "com/example/bitstrata/bitstrata/bitmap/Formula$Workspace" "vectors" "[[J" (.ref o)) (V_o : Avf Z h0 o kO (.array .long) 3 fo) (hw0 : ¬ w1 < 0) (hw7 : w1.toNatClampNeg ≤ 7) :
    Met l Z n0 (⟨"com/example/bitstrata/bitstrata/bitmap/Formula$Workspace", "vectors", "(II)[[J"⟩ : MethodName) prog_11_method_2_code 3 (some (.array (.array .long))) ws Rm3_30 #[(.ref a1), (.int (0 : Int32)), (.int w1)] h0 (fun v h => v = some (.ref o) ∧ h0 = h) := by
  refine enter (Ls := #[.val (.ref a1), .val (.int (0 : Int32)), .val (.int w1)]) (plainFor_of_name pn0) (fun m => by first | (simp [entryFrame, mkF, argsToLocals, Value.category]; done) | rfl) ?_
  intro p e s m below meth c T0 hx hby hml hown hnm hret hlk hZ X0
  have K0 := Keep.refl h0 [a1]
  show Go p.tables e below _ (T0.setTop (mkF m 0 #[.val (.ref a1), .val (.int (0 : Int32)), .val (.int w1)] []))
  refine Go.by (fun _ => XS.aloadN X0.here hx rfl (hb hby d3_0) rfl rfl) ?_
  show Go p.tables e below _ (T0.setTop (mkF m 1 #[.val (.ref a1), .val (.int (0 : Int32)), .val (.int w1)] [(.ref a1)]))
  obtain ⟨T1, X1, st1⟩ := X0.getF hx hZ hown (host := "") (Or.inl (tw hw 11 rfl)) Via.refl F_v (g := (mkF m 1 #[.val (.ref a1), .val (.int (0 : Int32)), .val (.int w1)] [(.ref a1)])) rfl rfl (hb hby d3_1)
  refine Go.by st1 ?_
  show Go p.tables e below _ (T1.setTop (mkF m 4 #[.val (.ref a1), .val (.int (0 : Int32)), .val (.int w1)] [(.ref o)]))
  refine Go.by (X1.len hx hZ V_o (z := (3 : Int32)) rfl (g := (mkF m 4 #[.val (.ref a1), .val (.int (0 : Int32)), .val (.int w1)] [(.ref o)])) rfl rfl (hb hby d3_4)) ?_
  show Go p.tables e below _ (T1.setTop (mkF m 5 #[.val (.ref a1), .val (.int (0 : Int32)), .val (.int w1)] [(.int (3 : Int32))]))
  refine Go.by (fun _ => XS.iloadN X1.here hx rfl (hb hby d3_5) rfl) ?_
  show Go p.tables e below _ (T1.setTop (mkF m 6 #[.val (.ref a1), .val (.int (0 : Int32)), .val (.int w1)] [(.int (0 : Int32)), (.int (3 : Int32))]))
  refine Go.by (fun _ => XS.icmpNo X1.here hx rfl (hb hby d3_6) rfl (flt (by decide)).1) ?_
  show Go p.tables e below _ (T1.setTop (mkF m 9 #[.val (.ref a1), .val (.int (0 : Int32)), .val (.int w1)] []))
  refine Go.by (fun _ => XS.iloadN X1.here hx rfl (hb hby d3_9) rfl) ?_
  show Go p.tables e below _ (T1.setTop (mkF m 10 #[.val (.ref a1), .val (.int (0 : Int32)), .val (.int w1)] [(.int (0 : Int32))]))
  refine Go.by (fun _ => XS.ifYes X1.here hx rfl (pc0 := 10) (pc' := 34) rfl (hb hby d3_10) rfl ((if0 _ _).trans (flt (by decide)).2.2.2) (by decide) (by decide)) ?_
  show Go p.tables e below _ (T1.setTop (mkF m 34 #[.val (.ref a1), .val (.int (0 : Int32)), .val (.int w1)] []))
  refine Go.by (fun _ => XS.aloadN X1.here hx rfl (hb hby d3_34) rfl rfl) ?_
  show Go p.tables e below _ (T1.setTop (mkF m 35 #[.val (.ref a1), .val (.int (0 : Int32)), .val (.int w1)] [(.ref a1)]))
  obtain ⟨T2, X2, st2⟩ := X1.getF hx hZ hown (host := "") (Or.inl (tw hw 11 rfl)) Via.refl F_v (g := (mkF m 35 #[.val (.ref a1), .val (.int (0 : Int32)), .val (.int w1)] [(.ref a1)])) rfl rfl (hb hby d3_35)
  refine Go.by st2 ?_
  show Go p.tables e below _ (T2.setTop (mkF m 38 #[.val (.ref a1), .val (.int (0 : Int32)), .val (.int w1)] [(.ref o)]))
  exact Go.retA X2 hx hlk hret rfl rfl (hb hby d3_38) (by decide) (by decide) ⟨rfl, rfl⟩
abbrev Rm3_31 : Room := { frames := 0, cells := 2, slots := 8, locals := 0 }
set_option maxRecDepth 65536 in
set_option maxHeartbeats 40000000 in
theorem rm3_31 (l : Launch) (Z : State) (a0 : Array Value) (hw : ∀ d ∈ tables_1, d.before a0 Z = true) (ws : List Jvm.Cond) (a1 : Addr) (w1 : Int32) (o : Addr) (kO : ClassId) (fo : Nat → Value) (x0 : Addr) (k0 : ClassId) (sz0 : Nat) (h0 : Heap) (n0 : Nat) (Z0 : n0 ≤ h0.size) (E_a1 : Exa Z h0 a1 "com/example/bitstrata/bitstrata/bitmap/Formula$Workspace") (g_a1 : n0 ≤ a1) (F_v : Fld Z h0 a1 "com/example/bitstrata/bitstrata/bitmap/Formula$Workspace" "vectors" "[[J" (.ref o)) (V_o : Avf Z h0 o kO (.array .long) 3 fo) (hw0 : ¬ w1 < 0) (hw7 : w1.toNatClampNeg ≤ 7) (hf0 : fo 0 = .ref x0) (V_x0 : Avf Z h0 x0 k0 .long sz0 (fun _ => (.long 0))) :
    Met l Z n0 (⟨"com/example/bitstrata/bitstrata/bitmap/Formula$Workspace", "vectors", "(II)[[J"⟩ : MethodName) prog_11_method_2_code 3 (some (.array (.array .long))) ws Rm3_31 #[(.ref a1), (.int (1 : Int32)), (.int w1)] h0 (fun v h => ((sz0.toInt32) = w1 ∧ v = some (.ref o) ∧ h0 = h) ∨ (¬ (sz0.toInt32) = w1 ∧ (∃ r kc kd, v = some (.ref r) ∧ h0.size ≤ r ∧ Keep h0 h [a1] ∧ Exa Z h a1 "com/example/bitstrata/bitstrata/bitmap/Formula$Workspace" ∧ Fld Z h a1 "com/example/bitstrata/bitstrata/bitmap/Formula$Workspace" "vectors" "[[J" (.ref r) ∧ Avf Z h r kc (.array .long) 1 (fun i => .ref (r + 1 + i)) ∧ ∀ i, i < 1 → Avf Z h (r + 1 + i) kd .long (w1.toNatClampNeg) (fun _ => (.long 0))))) := by
  refine enter (Ls := #[.val (.ref a1), .val (.int (1 : Int32)), .val (.int w1)]) (plainFor_of_name pn0) (fun m => by first | (simp [entryFrame, mkF, argsToLocals, Value.category]; done) | rfl) ?_
  intro p e s m below meth c T0 hx hby hml hown hnm hret hlk hZ X0
  have K0 := Keep.refl h0 [a1]
  show Go p.tables e below _ (T0.setTop (mkF m 0 #[.val (.ref a1), .val (.int (1 : Int32)), .val (.int w1)] []))
  refine Go.by (fun _ => XS.aloadN X0.here hx rfl (hb hby d3_0) rfl rfl) ?_
  show Go p.tables e below _ (T0.setTop (mkF m 1 #[.val (.ref a1), .val (.int (1 : Int32)), .val (.int w1)] [(.ref a1)]))
  obtain ⟨T1, X1, st1⟩ := X0.getF hx hZ hown (host := "") (Or.inl (tw hw 11 rfl)) Via.refl F_v (g := (mkF m 1 #[.val (.ref a1), .val (.int (1 : Int32)), .val (.int w1)] [(.ref a1)])) rfl rfl (hb hby d3_1)
  refine Go.by st1 ?_
  show Go p.tables e below _ (T1.setTop (mkF m 4 #[.val (.ref a1), .val (.int (1 : Int32)), .val (.int w1)] [(.ref o)]))
  refine Go.by (X1.len hx hZ V_o (z := (3 : Int32)) rfl (g := (mkF m 4 #[.val (.ref a1), .val (.int (1 : Int32)), .val (.int w1)] [(.ref o)])) rfl rfl (hb hby d3_4)) ?_
  show Go p.tables e below _ (T1.setTop (mkF m 5 #[.val (.ref a1), .val (.int (1 : Int32)), .val (.int w1)] [(.int (3 : Int32))]))
  refine Go.by (fun _ => XS.iloadN X1.here hx rfl (hb hby d3_5) rfl) ?_
  show Go p.tables e below _ (T1.setTop (mkF m 6 #[.val (.ref a1), .val (.int (1 : Int32)), .val (.int w1)] [(.int (1 : Int32)), (.int (3 : Int32))]))
  refine Go.by (fun _ => XS.icmpNo X1.here hx rfl (hb hby d3_6) rfl (flt (by decide)).1) ?_
  show Go p.tables e below _ (T1.setTop (mkF m 9 #[.val (.ref a1), .val (.int (1 : Int32)), .val (.int w1)] []))
  refine Go.by (fun _ => XS.iloadN X1.here hx rfl (hb hby d3_9) rfl) ?_
  show Go p.tables e below _ (T1.setTop (mkF m 10 #[.val (.ref a1), .val (.int (1 : Int32)), .val (.int w1)] [(.int (1 : Int32))]))
  refine Go.by (fun _ => XS.ifNo X1.here hx rfl (hb hby d3_10) rfl ((if0 _ _).trans (tlt (by decide)).2.2.2)) ?_
  show Go p.tables e below _ (T1.setTop (mkF m 13 #[.val (.ref a1), .val (.int (1 : Int32)), .val (.int w1)] []))
  refine Go.by (fun _ => XS.aloadN X1.here hx rfl (hb hby d3_13) rfl rfl) ?_
  show Go p.tables e below _ (T1.setTop (mkF m 14 #[.val (.ref a1), .val (.int (1 : Int32)), .val (.int w1)] [(.ref a1)]))
  obtain ⟨T2, X2, st2⟩ := X1.getF hx hZ hown (host := "") (Or.inl (tw hw 11 rfl)) Via.refl F_v (g := (mkF m 14 #[.val (.ref a1), .val (.int (1 : Int32)), .val (.int w1)] [(.ref a1)])) rfl rfl (hb hby d3_14)
  refine Go.by st2 ?_
  show Go p.tables e below _ (T2.setTop (mkF m 17 #[.val (.ref a1), .val (.int (1 : Int32)), .val (.int w1)] [(.ref o)]))
  refine Go.by (fun _ => XS.iconst X2.here hx rfl (hb hby d3_17)) ?_
  show Go p.tables e below _ (T2.setTop (mkF m 18 #[.val (.ref a1), .val (.int (1 : Int32)), .val (.int w1)] [(.int (0 : Int32)), (.ref o)]))
  refine Go.by (X2.ldA hx hZ V_o rfl (by decide) (i := 0) rfl (by decide) (v := (.ref x0)) hf0 (g := (mkF m 18 #[.val (.ref a1), .val (.int (1 : Int32)), .val (.int w1)] [(.int (0 : Int32)), (.ref o)])) rfl rfl (hb hby d3_18)) ?_
  show Go p.tables e below _ (T2.setTop (mkF m 19 #[.val (.ref a1), .val (.int (1 : Int32)), .val (.int w1)] [(.ref x0)]))
  refine Go.by (X2.len hx hZ V_x0 (z := (sz0.toInt32)) rfl (g := (mkF m 19 #[.val (.ref a1), .val (.int (1 : Int32)), .val (.int w1)] [(.ref x0)])) rfl rfl (hb hby d3_19)) ?_
  show Go p.tables e below _ (T2.setTop (mkF m 20 #[.val (.ref a1), .val (.int (1 : Int32)), .val (.int w1)] [(.int (sz0.toInt32))]))
  refine Go.by (fun _ => XS.iloadN X2.here hx rfl (hb hby d3_20) rfl) ?_
  show Go p.tables e below _ (T2.setTop (mkF m 21 #[.val (.ref a1), .val (.int (1 : Int32)), .val (.int w1)] [(.int w1), (.int (sz0.toInt32))]))
  by_cases hc21_3 : (sz0.toInt32) = w1
  · skip
    refine Go.by (fun _ => XS.icmpYes X2.here hx rfl (pc0 := 21) (pc' := 34) rfl (hb hby d3_21) rfl (teq hc21_3).1 (by decide) (by decide)) ?_
    show Go p.tables e below _ (T2.setTop (mkF m 34 #[.val (.ref a1), .val (.int (1 : Int32)), .val (.int w1)] []))
    refine Go.by (fun _ => XS.aloadN X2.here hx rfl (hb hby d3_34) rfl rfl) ?_
    show Go p.tables e below _ (T2.setTop (mkF m 35 #[.val (.ref a1), .val (.int (1 : Int32)), .val (.int w1)] [(.ref a1)]))
    obtain ⟨T4, X4, st4⟩ := X2.getF hx hZ hown (host := "") (Or.inl (tw hw 11 rfl)) Via.refl F_v (g := (mkF m 35 #[.val (.ref a1), .val (.int (1 : Int32)), .val (.int w1)] [(.ref a1)])) rfl rfl (hb hby d3_35)
    refine Go.by st4 ?_
    show Go p.tables e below _ (T4.setTop (mkF m 38 #[.val (.ref a1), .val (.int (1 : Int32)), .val (.int w1)] [(.ref o)]))
    exact Go.retA X4 hx hlk hret rfl rfl (hb hby d3_38) (by decide) (by decide) (Or.inl ⟨hc21_3, rfl, rfl⟩)
  · skip
    refine Go.by (fun _ => XS.icmpNo X2.here hx rfl (hb hby d3_21) rfl (feq hc21_3).1) ?_
    show Go p.tables e below _ (T2.setTop (mkF m 24 #[.val (.ref a1), .val (.int (1 : Int32)), .val (.int w1)] []))
    refine Go.by (fun _ => XS.aloadN X2.here hx rfl (hb hby d3_24) rfl rfl) ?_
    show Go p.tables e below _ (T2.setTop (mkF m 25 #[.val (.ref a1), .val (.int (1 : Int32)), .val (.int w1)] [(.ref a1)]))
    refine Go.by (fun _ => XS.iloadN X2.here hx rfl (hb hby d3_25) rfl) ?_
    show Go p.tables e below _ (T2.setTop (mkF m 26 #[.val (.ref a1), .val (.int (1 : Int32)), .val (.int w1)] [(.int (1 : Int32)), (.ref a1)]))
    refine Go.by (fun _ => XS.iloadN X2.here hx rfl (hb hby d3_26) rfl) ?_
    show Go p.tables e below _ (T2.setTop (mkF m 27 #[.val (.ref a1), .val (.int (1 : Int32)), .val (.int w1)] [(.int w1), (.int (1 : Int32)), (.ref a1)]))
    obtain ⟨T5, h5, kc5, kd5, b5, X5, g5, E5, A5, V5, VV5, st5⟩ := X2.grid hx hZ hown (tw hw 25 rfl) (tw hw 10 rfl) (tw hw 26 rfl) (g := (mkF m 27 #[.val (.ref a1), .val (.int (1 : Int32)), .val (.int w1)] [(.int w1), (.int (1 : Int32)), (.ref a1)])) rfl (hb hby d3_27) rfl (by decide) hw0 (N := 1) (sz := w1.toNatClampNeg) (cap := 7) (k' := 2) (n' := 8) rfl rfl hw7 (by decide) (by decide) rfl rfl (by decide) (by decide)
    have g_b5 : n0 ≤ b5 := by rw [g5]; exact Z0
    have sz_b5 : h0.size ≤ b5 := by rw [g5]; exact K0.1
    have ne_a1_b5 : a1 ≠ b5 := Nat.ne_of_lt (by rw [g5]; exact E_a1.lt)
    have f6_53 := E_a1.ext E5
    have f6_54 := F_v.ext E5
    have f6_55 := K0.ext E5
    have Zs6 : n0 ≤ h5.size := Nat.le_trans Z0 E5.1
    refine Go.by st5 ?_
    show Go p.tables e below _ (T5.setTop (mkF m 31 #[.val (.ref a1), .val (.int (1 : Int32)), .val (.int w1)] [(.ref b5), (.ref a1)]))
    obtain ⟨T7, h7, X7, W7, st7⟩ := X5.putF hx hZ hown (host := "") (Or.inl (tw hw 11 rfl)) Via.refl f6_54 f6_53 g_a1 (Or.inl (tw hw 12 rfl)) (tw hw 1 rfl) (ty := (.array (.array .long))) (by decide) rfl rfl (g := (mkF m 31 #[.val (.ref a1), .val (.int (1 : Int32)), .val (.int w1)] [(.ref b5), (.ref a1)])) rfl rfl (hb hby d3_31)
    have Fw7 := f6_54.same W7
    have f8_61 := f6_53.wr W7
    have f8_62 := f6_55.wr W7 (Or.inl (List.mem_of_getElem? (i := 0) rfl))
    have f8_63 := Avf.other V5 W7 (Ne.symm ne_a1_b5)
    have Zs8 : n0 ≤ h7.size := by rw [W7.size]; exact Zs6
    refine Go.by st7 ?_
    show Go p.tables e below _ (T7.setTop (mkF m 34 #[.val (.ref a1), .val (.int (1 : Int32)), .val (.int w1)] []))
    refine Go.by (fun _ => XS.aloadN X7.here hx rfl (hb hby d3_34) rfl rfl) ?_
    show Go p.tables e below _ (T7.setTop (mkF m 35 #[.val (.ref a1), .val (.int (1 : Int32)), .val (.int w1)] [(.ref a1)]))
    obtain ⟨T9, X9, st9⟩ := X7.getF hx hZ hown (host := "") (Or.inl (tw hw 11 rfl)) Via.refl Fw7 (g := (mkF m 35 #[.val (.ref a1), .val (.int (1 : Int32)), .val (.int w1)] [(.ref a1)])) rfl rfl (hb hby d3_35)
    refine Go.by st9 ?_
    show Go p.tables e below _ (T9.setTop (mkF m 38 #[.val (.ref a1), .val (.int (1 : Int32)), .val (.int w1)] [(.ref b5)]))
    exact Go.retA X9 hx hlk hret rfl rfl (hb hby d3_38) (by decide) (by decide) (Or.inr ⟨hc21_3, ⟨b5, kc5, kd5, rfl, sz_b5, f8_62, f8_61, Fw7, f8_63, fun i hi => Avf.other (VV5 i hi) W7 (Nat.ne_of_gt (Nat.lt_of_lt_of_le E_a1.lt (Nat.le_trans sz_b5 (Nat.le_trans (Nat.le_add_right _ 1) (Nat.le_add_right _ i)))))⟩⟩)
abbrev Rm3_32 : Room := { frames := 0, cells := 3, slots := 16, locals := 0 }
set_option maxRecDepth 65536 in
set_option maxHeartbeats 40000000 in
theorem rm3_32 (l : Launch) (Z : State) (a0 : Array Value) (hw : ∀ d ∈ tables_1, d.before a0 Z = true) (ws : List Jvm.Cond) (a1 : Addr) (w1 : Int32) (o : Addr) (kO : ClassId) (fo : Nat → Value) (x0 : Addr) (k0 : ClassId) (sz0 : Nat) (h0 : Heap) (n0 : Nat) (Z0 : n0 ≤ h0.size) (E_a1 : Exa Z h0 a1 "com/example/bitstrata/bitstrata/bitmap/Formula$Workspace") (g_a1 : n0 ≤ a1) (F_v : Fld Z h0 a1 "com/example/bitstrata/bitstrata/bitmap/Formula$Workspace" "vectors" "[[J" (.ref o)) (V_o : Avf Z h0 o kO (.array .long) 3 fo) (hw0 : ¬ w1 < 0) (hw7 : w1.toNatClampNeg ≤ 7) (hf0 : fo 0 = .ref x0) (V_x0 : Avf Z h0 x0 k0 .long sz0 (fun _ => (.long 0))) :
    Met l Z n0 (⟨"com/example/bitstrata/bitstrata/bitmap/Formula$Workspace", "vectors", "(II)[[J"⟩ : MethodName) prog_11_method_2_code 3 (some (.array (.array .long))) ws Rm3_32 #[(.ref a1), (.int (2 : Int32)), (.int w1)] h0 (fun v h => ((sz0.toInt32) = w1 ∧ v = some (.ref o) ∧ h0 = h) ∨ (¬ (sz0.toInt32) = w1 ∧ (∃ r kc kd, v = some (.ref r) ∧ h0.size ≤ r ∧ Keep h0 h [a1] ∧ Exa Z h a1 "com/example/bitstrata/bitstrata/bitmap/Formula$Workspace" ∧ Fld Z h a1 "com/example/bitstrata/bitstrata/bitmap/Formula$Workspace" "vectors" "[[J" (.ref r) ∧ Avf Z h r kc (.array .long) 2 (fun i => .ref (r + 1 + i)) ∧ ∀ i, i < 2 → Avf Z h (r + 1 + i) kd .long (w1.toNatClampNeg) (fun _ => (.long 0))))) := by
  refine enter (Ls := #[.val (.ref a1), .val (.int (2 : Int32)), .val (.int w1)]) (plainFor_of_name pn0) (fun m => by first | (simp [entryFrame, mkF, argsToLocals, Value.category]; done) | rfl) ?_
  intro p e s m below meth c T0 hx hby hml hown hnm hret hlk hZ X0
  have K0 := Keep.refl h0 [a1]
  show Go p.tables e below _ (T0.setTop (mkF m 0 #[.val (.ref a1), .val (.int (2 : Int32)), .val (.int w1)] []))
  refine Go.by (fun _ => XS.aloadN X0.here hx rfl (hb hby d3_0) rfl rfl) ?_
  show Go p.tables e below _ (T0.setTop (mkF m 1 #[.val (.ref a1), .val (.int (2 : Int32)), .val (.int w1)] [(.ref a1)]))
  obtain ⟨T1, X1, st1⟩ := X0.getF hx hZ hown (host := "") (Or.inl (tw hw 11 rfl)) Via.refl F_v (g := (mkF m 1 #[.val (.ref a1), .val (.int (2 : Int32)), .val (.int w1)] [(.ref a1)])) rfl rfl (hb hby d3_1)
  refine Go.by st1 ?_
  show Go p.tables e below _ (T1.setTop (mkF m 4 #[.val (.ref a1), .val (.int (2 : Int32)), .val (.int w1)] [(.ref o)]))
  refine Go.by (X1.len hx hZ V_o (z := (3 : Int32)) rfl (g := (mkF m 4 #[.val (.ref a1), .val (.int (2 : Int32)), .val (.int w1)] [(.ref o)])) rfl rfl (hb hby d3_4)) ?_
  show Go p.tables e below _ (T1.setTop (mkF m 5 #[.val (.ref a1), .val (.int (2 : Int32)), .val (.int w1)] [(.int (3 : Int32))]))
  refine Go.by (fun _ => XS.iloadN X1.here hx rfl (hb hby d3_5) rfl) ?_
  show Go p.tables e below _ (T1.setTop (mkF m 6 #[.val (.ref a1), .val (.int (2 : Int32)), .val (.int w1)] [(.int (2 : Int32)), (.int (3 : Int32))]))
  refine Go.by (fun _ => XS.icmpNo X1.here hx rfl (hb hby d3_6) rfl (flt (by decide)).1) ?_
  show Go p.tables e below _ (T1.setTop (mkF m 9 #[.val (.ref a1), .val (.int (2 : Int32)), .val (.int w1)] []))
  refine Go.by (fun _ => XS.iloadN X1.here hx rfl (hb hby d3_9) rfl) ?_
  show Go p.tables e below _ (T1.setTop (mkF m 10 #[.val (.ref a1), .val (.int (2 : Int32)), .val (.int w1)] [(.int (2 : Int32))]))
  refine Go.by (fun _ => XS.ifNo X1.here hx rfl (hb hby d3_10) rfl ((if0 _ _).trans (tlt (by decide)).2.2.2)) ?_
  show Go p.tables e below _ (T1.setTop (mkF m 13 #[.val (.ref a1), .val (.int (2 : Int32)), .val (.int w1)] []))
  refine Go.by (fun _ => XS.aloadN X1.here hx rfl (hb hby d3_13) rfl rfl) ?_
  show Go p.tables e below _ (T1.setTop (mkF m 14 #[.val (.ref a1), .val (.int (2 : Int32)), .val (.int w1)] [(.ref a1)]))
  obtain ⟨T2, X2, st2⟩ := X1.getF hx hZ hown (host := "") (Or.inl (tw hw 11 rfl)) Via.refl F_v (g := (mkF m 14 #[.val (.ref a1), .val (.int (2 : Int32)), .val (.int w1)] [(.ref a1)])) rfl rfl (hb hby d3_14)
  refine Go.by st2 ?_
  show Go p.tables e below _ (T2.setTop (mkF m 17 #[.val (.ref a1), .val (.int (2 : Int32)), .val (.int w1)] [(.ref o)]))
  refine Go.by (fun _ => XS.iconst X2.here hx rfl (hb hby d3_17)) ?_
  show Go p.tables e below _ (T2.setTop (mkF m 18 #[.val (.ref a1), .val (.int (2 : Int32)), .val (.int w1)] [(.int (0 : Int32)), (.ref o)]))
  refine Go.by (X2.ldA hx hZ V_o rfl (by decide) (i := 0) rfl (by decide) (v := (.ref x0)) hf0 (g := (mkF m 18 #[.val (.ref a1), .val (.int (2 : Int32)), .val (.int w1)] [(.int (0 : Int32)), (.ref o)])) rfl rfl (hb hby d3_18)) ?_
  show Go p.tables e below _ (T2.setTop (mkF m 19 #[.val (.ref a1), .val (.int (2 : Int32)), .val (.int w1)] [(.ref x0)]))
  refine Go.by (X2.len hx hZ V_x0 (z := (sz0.toInt32)) rfl (g := (mkF m 19 #[.val (.ref a1), .val (.int (2 : Int32)), .val (.int w1)] [(.ref x0)])) rfl rfl (hb hby d3_19)) ?_
  show Go p.tables e below _ (T2.setTop (mkF m 20 #[.val (.ref a1), .val (.int (2 : Int32)), .val (.int w1)] [(.int (sz0.toInt32))]))
  refine Go.by (fun _ => XS.iloadN X2.here hx rfl (hb hby d3_20) rfl) ?_
  show Go p.tables e below _ (T2.setTop (mkF m 21 #[.val (.ref a1), .val (.int (2 : Int32)), .val (.int w1)] [(.int w1), (.int (sz0.toInt32))]))
  by_cases hc21_3 : (sz0.toInt32) = w1
  · skip
    refine Go.by (fun _ => XS.icmpYes X2.here hx rfl (pc0 := 21) (pc' := 34) rfl (hb hby d3_21) rfl (teq hc21_3).1 (by decide) (by decide)) ?_
    show Go p.tables e below _ (T2.setTop (mkF m 34 #[.val (.ref a1), .val (.int (2 : Int32)), .val (.int w1)] []))
    refine Go.by (fun _ => XS.aloadN X2.here hx rfl (hb hby d3_34) rfl rfl) ?_
    show Go p.tables e below _ (T2.setTop (mkF m 35 #[.val (.ref a1), .val (.int (2 : Int32)), .val (.int w1)] [(.ref a1)]))
    obtain ⟨T4, X4, st4⟩ := X2.getF hx hZ hown (host := "") (Or.inl (tw hw 11 rfl)) Via.refl F_v (g := (mkF m 35 #[.val (.ref a1), .val (.int (2 : Int32)), .val (.int w1)] [(.ref a1)])) rfl rfl (hb hby d3_35)
    refine Go.by st4 ?_
    show Go p.tables e below _ (T4.setTop (mkF m 38 #[.val (.ref a1), .val (.int (2 : Int32)), .val (.int w1)] [(.ref o)]))
    exact Go.retA X4 hx hlk hret rfl rfl (hb hby d3_38) (by decide) (by decide) (Or.inl ⟨hc21_3, rfl, rfl⟩)
  · skip
    refine Go.by (fun _ => XS.icmpNo X2.here hx rfl (hb hby d3_21) rfl (feq hc21_3).1) ?_
    show Go p.tables e below _ (T2.setTop (mkF m 24 #[.val (.ref a1), .val (.int (2 : Int32)), .val (.int w1)] []))
    refine Go.by (fun _ => XS.aloadN X2.here hx rfl (hb hby d3_24) rfl rfl) ?_
    show Go p.tables e below _ (T2.setTop (mkF m 25 #[.val (.ref a1), .val (.int (2 : Int32)), .val (.int w1)] [(.ref a1)]))
    refine Go.by (fun _ => XS.iloadN X2.here hx rfl (hb hby d3_25) rfl) ?_
    show Go p.tables e below _ (T2.setTop (mkF m 26 #[.val (.ref a1), .val (.int (2 : Int32)), .val (.int w1)] [(.int (2 : Int32)), (.ref a1)]))
    refine Go.by (fun _ => XS.iloadN X2.here hx rfl (hb hby d3_26) rfl) ?_
    show Go p.tables e below _ (T2.setTop (mkF m 27 #[.val (.ref a1), .val (.int (2 : Int32)), .val (.int w1)] [(.int w1), (.int (2 : Int32)), (.ref a1)]))
    obtain ⟨T5, h5, kc5, kd5, b5, X5, g5, E5, A5, V5, VV5, st5⟩ := X2.grid hx hZ hown (tw hw 25 rfl) (tw hw 10 rfl) (tw hw 26 rfl) (g := (mkF m 27 #[.val (.ref a1), .val (.int (2 : Int32)), .val (.int w1)] [(.int w1), (.int (2 : Int32)), (.ref a1)])) rfl (hb hby d3_27) rfl (by decide) hw0 (N := 2) (sz := w1.toNatClampNeg) (cap := 7) (k' := 3) (n' := 16) rfl rfl hw7 (by decide) (by decide) rfl rfl (by decide) (by decide)
    have g_b5 : n0 ≤ b5 := by rw [g5]; exact Z0
    have sz_b5 : h0.size ≤ b5 := by rw [g5]; exact K0.1
    have ne_a1_b5 : a1 ≠ b5 := Nat.ne_of_lt (by rw [g5]; exact E_a1.lt)
    have f6_53 := E_a1.ext E5
    have f6_54 := F_v.ext E5
    have f6_55 := K0.ext E5
    have Zs6 : n0 ≤ h5.size := Nat.le_trans Z0 E5.1
    refine Go.by st5 ?_
    show Go p.tables e below _ (T5.setTop (mkF m 31 #[.val (.ref a1), .val (.int (2 : Int32)), .val (.int w1)] [(.ref b5), (.ref a1)]))
    obtain ⟨T7, h7, X7, W7, st7⟩ := X5.putF hx hZ hown (host := "") (Or.inl (tw hw 11 rfl)) Via.refl f6_54 f6_53 g_a1 (Or.inl (tw hw 12 rfl)) (tw hw 1 rfl) (ty := (.array (.array .long))) (by decide) rfl rfl (g := (mkF m 31 #[.val (.ref a1), .val (.int (2 : Int32)), .val (.int w1)] [(.ref b5), (.ref a1)])) rfl rfl (hb hby d3_31)
    have Fw7 := f6_54.same W7
    have f8_61 := f6_53.wr W7
    have f8_62 := f6_55.wr W7 (Or.inl (List.mem_of_getElem? (i := 0) rfl))
    have f8_63 := Avf.other V5 W7 (Ne.symm ne_a1_b5)
    have Zs8 : n0 ≤ h7.size := by rw [W7.size]; exact Zs6
    refine Go.by st7 ?_
    show Go p.tables e below _ (T7.setTop (mkF m 34 #[.val (.ref a1), .val (.int (2 : Int32)), .val (.int w1)] []))
    refine Go.by (fun _ => XS.aloadN X7.here hx rfl (hb hby d3_34) rfl rfl) ?_
    show Go p.tables e below _ (T7.setTop (mkF m 35 #[.val (.ref a1), .val (.int (2 : Int32)), .val (.int w1)] [(.ref a1)]))
    obtain ⟨T9, X9, st9⟩ := X7.getF hx hZ hown (host := "") (Or.inl (tw hw 11 rfl)) Via.refl Fw7 (g := (mkF m 35 #[.val (.ref a1), .val (.int (2 : Int32)), .val (.int w1)] [(.ref a1)])) rfl rfl (hb hby d3_35)
    refine Go.by st9 ?_
    show Go p.tables e below _ (T9.setTop (mkF m 38 #[.val (.ref a1), .val (.int (2 : Int32)), .val (.int w1)] [(.ref b5)]))
    exact Go.retA X9 hx hlk hret rfl rfl (hb hby d3_38) (by decide) (by decide) (Or.inr ⟨hc21_3, ⟨b5, kc5, kd5, rfl, sz_b5, f8_62, f8_61, Fw7, f8_63, fun i hi => Avf.other (VV5 i hi) W7 (Nat.ne_of_gt (Nat.lt_of_lt_of_le E_a1.lt (Nat.le_trans sz_b5 (Nat.le_trans (Nat.le_add_right _ 1) (Nat.le_add_right _ i)))))⟩⟩)
abbrev Rm3_33 : Room := { frames := 0, cells := 4, slots := 24, locals := 0 }
set_option maxRecDepth 65536 in
set_option maxHeartbeats 40000000 in
theorem rm3_33 (l : Launch) (Z : State) (a0 : Array Value) (hw : ∀ d ∈ tables_1, d.before a0 Z = true) (ws : List Jvm.Cond) (a1 : Addr) (w1 : Int32) (o : Addr) (kO : ClassId) (fo : Nat → Value) (x0 : Addr) (k0 : ClassId) (sz0 : Nat) (h0 : Heap) (n0 : Nat) (Z0 : n0 ≤ h0.size) (E_a1 : Exa Z h0 a1 "com/example/bitstrata/bitstrata/bitmap/Formula$Workspace") (g_a1 : n0 ≤ a1) (F_v : Fld Z h0 a1 "com/example/bitstrata/bitstrata/bitmap/Formula$Workspace" "vectors" "[[J" (.ref o)) (V_o : Avf Z h0 o kO (.array .long) 3 fo) (hw0 : ¬ w1 < 0) (hw7 : w1.toNatClampNeg ≤ 7) (hf0 : fo 0 = .ref x0) (V_x0 : Avf Z h0 x0 k0 .long sz0 (fun _ => (.long 0))) :
    Met l Z n0 (⟨"com/example/bitstrata/bitstrata/bitmap/Formula$Workspace", "vectors", "(II)[[J"⟩ : MethodName) prog_11_method_2_code 3 (some (.array (.array .long))) ws Rm3_33 #[(.ref a1), (.int (3 : Int32)), (.int w1)] h0 (fun v h => ((sz0.toInt32) = w1 ∧ v = some (.ref o) ∧ h0 = h) ∨ (¬ (sz0.toInt32) = w1 ∧ (∃ r kc kd, v = some (.ref r) ∧ h0.size ≤ r ∧ Keep h0 h [a1] ∧ Exa Z h a1 "com/example/bitstrata/bitstrata/bitmap/Formula$Workspace" ∧ Fld Z h a1 "com/example/bitstrata/bitstrata/bitmap/Formula$Workspace" "vectors" "[[J" (.ref r) ∧ Avf Z h r kc (.array .long) 3 (fun i => .ref (r + 1 + i)) ∧ ∀ i, i < 3 → Avf Z h (r + 1 + i) kd .long (w1.toNatClampNeg) (fun _ => (.long 0))))) := by
  refine enter (Ls := #[.val (.ref a1), .val (.int (3 : Int32)), .val (.int w1)]) (plainFor_of_name pn0) (fun m => by first | (simp [entryFrame, mkF, argsToLocals, Value.category]; done) | rfl) ?_
  intro p e s m below meth c T0 hx hby hml hown hnm hret hlk hZ X0
  have K0 := Keep.refl h0 [a1]
  show Go p.tables e below _ (T0.setTop (mkF m 0 #[.val (.ref a1), .val (.int (3 : Int32)), .val (.int w1)] []))
  refine Go.by (fun _ => XS.aloadN X0.here hx rfl (hb hby d3_0) rfl rfl) ?_
  show Go p.tables e below _ (T0.setTop (mkF m 1 #[.val (.ref a1), .val (.int (3 : Int32)), .val (.int w1)] [(.ref a1)]))
  obtain ⟨T1, X1, st1⟩ := X0.getF hx hZ hown (host := "") (Or.inl (tw hw 11 rfl)) Via.refl F_v (g := (mkF m 1 #[.val (.ref a1), .val (.int (3 : Int32)), .val (.int w1)] [(.ref a1)])) rfl rfl (hb hby d3_1)
  refine Go.by st1 ?_
  show Go p.tables e below _ (T1.setTop (mkF m 4 #[.val (.ref a1), .val (.int (3 : Int32)), .val (.int w1)] [(.ref o)]))
  refine Go.by (X1.len hx hZ V_o (z := (3 : Int32)) rfl (g := (mkF m 4 #[.val (.ref a1), .val (.int (3 : Int32)), .val (.int w1)] [(.ref o)])) rfl rfl (hb hby d3_4)) ?_
  show Go p.tables e below _ (T1.setTop (mkF m 5 #[.val (.ref a1), .val (.int (3 : Int32)), .val (.int w1)] [(.int (3 : Int32))]))
  refine Go.by (fun _ => XS.iloadN X1.here hx rfl (hb hby d3_5) rfl) ?_
  show Go p.tables e below _ (T1.setTop (mkF m 6 #[.val (.ref a1), .val (.int (3 : Int32)), .val (.int w1)] [(.int (3 : Int32)), (.int (3 : Int32))]))
  refine Go.by (fun _ => XS.icmpNo X1.here hx rfl (hb hby d3_6) rfl (flt (by decide)).1) ?_
  show Go p.tables e below _ (T1.setTop (mkF m 9 #[.val (.ref a1), .val (.int (3 : Int32)), .val (.int w1)] []))
  refine Go.by (fun _ => XS.iloadN X1.here hx rfl (hb hby d3_9) rfl) ?_
  show Go p.tables e below _ (T1.setTop (mkF m 10 #[.val (.ref a1), .val (.int (3 : Int32)), .val (.int w1)] [(.int (3 : Int32))]))
  refine Go.by (fun _ => XS.ifNo X1.here hx rfl (hb hby d3_10) rfl ((if0 _ _).trans (tlt (by decide)).2.2.2)) ?_
  show Go p.tables e below _ (T1.setTop (mkF m 13 #[.val (.ref a1), .val (.int (3 : Int32)), .val (.int w1)] []))
  refine Go.by (fun _ => XS.aloadN X1.here hx rfl (hb hby d3_13) rfl rfl) ?_
  show Go p.tables e below _ (T1.setTop (mkF m 14 #[.val (.ref a1), .val (.int (3 : Int32)), .val (.int w1)] [(.ref a1)]))
  obtain ⟨T2, X2, st2⟩ := X1.getF hx hZ hown (host := "") (Or.inl (tw hw 11 rfl)) Via.refl F_v (g := (mkF m 14 #[.val (.ref a1), .val (.int (3 : Int32)), .val (.int w1)] [(.ref a1)])) rfl rfl (hb hby d3_14)
  refine Go.by st2 ?_
  show Go p.tables e below _ (T2.setTop (mkF m 17 #[.val (.ref a1), .val (.int (3 : Int32)), .val (.int w1)] [(.ref o)]))
  refine Go.by (fun _ => XS.iconst X2.here hx rfl (hb hby d3_17)) ?_
  show Go p.tables e below _ (T2.setTop (mkF m 18 #[.val (.ref a1), .val (.int (3 : Int32)), .val (.int w1)] [(.int (0 : Int32)), (.ref o)]))
  refine Go.by (X2.ldA hx hZ V_o rfl (by decide) (i := 0) rfl (by decide) (v := (.ref x0)) hf0 (g := (mkF m 18 #[.val (.ref a1), .val (.int (3 : Int32)), .val (.int w1)] [(.int (0 : Int32)), (.ref o)])) rfl rfl (hb hby d3_18)) ?_
  show Go p.tables e below _ (T2.setTop (mkF m 19 #[.val (.ref a1), .val (.int (3 : Int32)), .val (.int w1)] [(.ref x0)]))
  refine Go.by (X2.len hx hZ V_x0 (z := (sz0.toInt32)) rfl (g := (mkF m 19 #[.val (.ref a1), .val (.int (3 : Int32)), .val (.int w1)] [(.ref x0)])) rfl rfl (hb hby d3_19)) ?_
  show Go p.tables e below _ (T2.setTop (mkF m 20 #[.val (.ref a1), .val (.int (3 : Int32)), .val (.int w1)] [(.int (sz0.toInt32))]))
  refine Go.by (fun _ => XS.iloadN X2.here hx rfl (hb hby d3_20) rfl) ?_
  show Go p.tables e below _ (T2.setTop (mkF m 21 #[.val (.ref a1), .val (.int (3 : Int32)), .val (.int w1)] [(.int w1), (.int (sz0.toInt32))]))
  by_cases hc21_3 : (sz0.toInt32) = w1
  · skip
    refine Go.by (fun _ => XS.icmpYes X2.here hx rfl (pc0 := 21) (pc' := 34) rfl (hb hby d3_21) rfl (teq hc21_3).1 (by decide) (by decide)) ?_
    show Go p.tables e below _ (T2.setTop (mkF m 34 #[.val (.ref a1), .val (.int (3 : Int32)), .val (.int w1)] []))
    refine Go.by (fun _ => XS.aloadN X2.here hx rfl (hb hby d3_34) rfl rfl) ?_
    show Go p.tables e below _ (T2.setTop (mkF m 35 #[.val (.ref a1), .val (.int (3 : Int32)), .val (.int w1)] [(.ref a1)]))
    obtain ⟨T4, X4, st4⟩ := X2.getF hx hZ hown (host := "") (Or.inl (tw hw 11 rfl)) Via.refl F_v (g := (mkF m 35 #[.val (.ref a1), .val (.int (3 : Int32)), .val (.int w1)] [(.ref a1)])) rfl rfl (hb hby d3_35)
    refine Go.by st4 ?_
    show Go p.tables e below _ (T4.setTop (mkF m 38 #[.val (.ref a1), .val (.int (3 : Int32)), .val (.int w1)] [(.ref o)]))
    exact Go.retA X4 hx hlk hret rfl rfl (hb hby d3_38) (by decide) (by decide) (Or.inl ⟨hc21_3, rfl, rfl⟩)
  · skip
    refine Go.by (fun _ => XS.icmpNo X2.here hx rfl (hb hby d3_21) rfl (feq hc21_3).1) ?_
    show Go p.tables e below _ (T2.setTop (mkF m 24 #[.val (.ref a1), .val (.int (3 : Int32)), .val (.int w1)] []))
    refine Go.by (fun _ => XS.aloadN X2.here hx rfl (hb hby d3_24) rfl rfl) ?_
    show Go p.tables e below _ (T2.setTop (mkF m 25 #[.val (.ref a1), .val (.int (3 : Int32)), .val (.int w1)] [(.ref a1)]))
    refine Go.by (fun _ => XS.iloadN X2.here hx rfl (hb hby d3_25) rfl) ?_
    show Go p.tables e below _ (T2.setTop (mkF m 26 #[.val (.ref a1), .val (.int (3 : Int32)), .val (.int w1)] [(.int (3 : Int32)), (.ref a1)]))
    refine Go.by (fun _ => XS.iloadN X2.here hx rfl (hb hby d3_26) rfl) ?_
    show Go p.tables e below _ (T2.setTop (mkF m 27 #[.val (.ref a1), .val (.int (3 : Int32)), .val (.int w1)] [(.int w1), (.int (3 : Int32)), (.ref a1)]))
    obtain ⟨T5, h5, kc5, kd5, b5, X5, g5, E5, A5, V5, VV5, st5⟩ := X2.grid hx hZ hown (tw hw 25 rfl) (tw hw 10 rfl) (tw hw 26 rfl) (g := (mkF m 27 #[.val (.ref a1), .val (.int (3 : Int32)), .val (.int w1)] [(.int w1), (.int (3 : Int32)), (.ref a1)])) rfl (hb hby d3_27) rfl (by decide) hw0 (N := 3) (sz := w1.toNatClampNeg) (cap := 7) (k' := 4) (n' := 24) rfl rfl hw7 (by decide) (by decide) rfl rfl (by decide) (by decide)
    have g_b5 : n0 ≤ b5 := by rw [g5]; exact Z0
    have sz_b5 : h0.size ≤ b5 := by rw [g5]; exact K0.1
    have ne_a1_b5 : a1 ≠ b5 := Nat.ne_of_lt (by rw [g5]; exact E_a1.lt)
    have f6_53 := E_a1.ext E5
    have f6_54 := F_v.ext E5
    have f6_55 := K0.ext E5
    have Zs6 : n0 ≤ h5.size := Nat.le_trans Z0 E5.1
    refine Go.by st5 ?_
    show Go p.tables e below _ (T5.setTop (mkF m 31 #[.val (.ref a1), .val (.int (3 : Int32)), .val (.int w1)] [(.ref b5), (.ref a1)]))
    obtain ⟨T7, h7, X7, W7, st7⟩ := X5.putF hx hZ hown (host := "") (Or.inl (tw hw 11 rfl)) Via.refl f6_54 f6_53 g_a1 (Or.inl (tw hw 12 rfl)) (tw hw 1 rfl) (ty := (.array (.array .long))) (by decide) rfl rfl (g := (mkF m 31 #[.val (.ref a1), .val (.int (3 : Int32)), .val (.int w1)] [(.ref b5), (.ref a1)])) rfl rfl (hb hby d3_31)
    have Fw7 := f6_54.same W7
    have f8_61 := f6_53.wr W7
    have f8_62 := f6_55.wr W7 (Or.inl (List.mem_of_getElem? (i := 0) rfl))
    have f8_63 := Avf.other V5 W7 (Ne.symm ne_a1_b5)
    have Zs8 : n0 ≤ h7.size := by rw [W7.size]; exact Zs6
    refine Go.by st7 ?_
    show Go p.tables e below _ (T7.setTop (mkF m 34 #[.val (.ref a1), .val (.int (3 : Int32)), .val (.int w1)] []))
    refine Go.by (fun _ => XS.aloadN X7.here hx rfl (hb hby d3_34) rfl rfl) ?_
    show Go p.tables e below _ (T7.setTop (mkF m 35 #[.val (.ref a1), .val (.int (3 : Int32)), .val (.int w1)] [(.ref a1)]))
    obtain ⟨T9, X9, st9⟩ := X7.getF hx hZ hown (host := "") (Or.inl (tw hw 11 rfl)) Via.refl Fw7 (g := (mkF m 35 #[.val (.ref a1), .val (.int (3 : Int32)), .val (.int w1)] [(.ref a1)])) rfl rfl (hb hby d3_35)
    refine Go.by st9 ?_
    show Go p.tables e below _ (T9.setTop (mkF m 38 #[.val (.ref a1), .val (.int (3 : Int32)), .val (.int w1)] [(.ref b5)]))
    exact Go.retA X9 hx hlk hret rfl rfl (hb hby d3_38) (by decide) (by decide) (Or.inr ⟨hc21_3, ⟨b5, kc5, kd5, rfl, sz_b5, f8_62, f8_61, Fw7, f8_63, fun i hi => Avf.other (VV5 i hi) W7 (Nat.ne_of_gt (Nat.lt_of_lt_of_le E_a1.lt (Nat.le_trans sz_b5 (Nat.le_trans (Nat.le_add_right _ 1) (Nat.le_add_right _ i)))))⟩⟩)
theorem d5_0 : decode method_2_code 0 = .ok (.iload_n 1, 1) := by decide +kernel
theorem d5_1 : decode method_2_code 1 = .ok (.iload_n 2, 1) := by decide +kernel
theorem d5_2 : decode method_2_code 2 = .ok (.if_icmp .ge 17, 3) := by decide +kernel
theorem d5_19 : decode method_2_code 19 = .ok (.iconst 1, 1) := by decide +kernel
theorem d5_20 : decode method_2_code 20 = .ok (.goto 4, 3) := by decide +kernel
theorem d5_24 : decode method_2_code 24 = .ok (.ireturn, 1) := by decide +kernel
abbrev Rm5_00 : Room := { frames := 0, cells := 0, slots := 0, locals := 0 }
theorem pn1 : plainName "com/example/bitstrata/bitstrata/bitmap/WorkspaceVectorsPinLaw" = true := by first | (simp [plainName, overriddenIn]; done) | decide +kernel
set_option maxRecDepth 65536 in
set_option maxHeartbeats 40000000 in
theorem rm5_00 (l : Launch) (Z : State) (a0 : Array Value) (hw : ∀ d ∈ tables_1, d.before a0 Z = true) (ws : List Jvm.Cond) (o : Addr) (w1 : Int32) (h0 : Heap) (n0 : Nat) (Z0 : n0 ≤ h0.size) :
    Met l Z n0 (⟨"com/example/bitstrata/bitstrata/bitmap/WorkspaceVectorsPinLaw", "row", "([[JIII)Z"⟩ : MethodName) method_2_code 4 (some .boolean) ws Rm5_00 #[(.ref o), (.int (0 : Int32)), (.int (0 : Int32)), (.int w1)] h0 (fun v h => v = some (.int 1) ∧ h0 = h) := by
  refine enter (Ls := #[.val (.ref o), .val (.int (0 : Int32)), .val (.int (0 : Int32)), .val (.int w1)]) (plainFor_of_name pn1) (fun m => by first | (simp [entryFrame, mkF, argsToLocals, Value.category]; done) | rfl) ?_
  intro p e s m below meth c T0 hx hby hml hown hnm hret hlk hZ X0
  show Go p.tables e below _ (T0.setTop (mkF m 0 #[.val (.ref o), .val (.int (0 : Int32)), .val (.int (0 : Int32)), .val (.int w1)] []))
  refine Go.by (fun _ => XS.iloadN X0.here hx rfl (hb hby d5_0) rfl) ?_
  show Go p.tables e below _ (T0.setTop (mkF m 1 #[.val (.ref o), .val (.int (0 : Int32)), .val (.int (0 : Int32)), .val (.int w1)] [(.int (0 : Int32))]))
  refine Go.by (fun _ => XS.iloadN X0.here hx rfl (hb hby d5_1) rfl) ?_
  show Go p.tables e below _ (T0.setTop (mkF m 2 #[.val (.ref o), .val (.int (0 : Int32)), .val (.int (0 : Int32)), .val (.int w1)] [(.int (0 : Int32)), (.int (0 : Int32))]))
  refine Go.by (fun _ => XS.icmpYes X0.here hx rfl (pc0 := 2) (pc' := 19) rfl (hb hby d5_2) rfl (flt (by decide)).2.1 (by decide) (by decide)) ?_
  show Go p.tables e below _ (T0.setTop (mkF m 19 #[.val (.ref o), .val (.int (0 : Int32)), .val (.int (0 : Int32)), .val (.int w1)] []))
  refine Go.by (fun _ => XS.iconst X0.here hx rfl (hb hby d5_19)) ?_
  show Go p.tables e below _ (T0.setTop (mkF m 20 #[.val (.ref o), .val (.int (0 : Int32)), .val (.int (0 : Int32)), .val (.int w1)] [(.int (1 : Int32))]))
  refine Go.by (fun _ => XS.goto X0.here hx rfl (pc0 := 20) (pc' := 24) rfl (hb hby d5_20) (by decide) (by decide)) ?_
  show Go p.tables e below _ (T0.setTop (mkF m 24 #[.val (.ref o), .val (.int (0 : Int32)), .val (.int (0 : Int32)), .val (.int w1)] [(.int (1 : Int32))]))
  exact Go.retN X0 hx hlk (z' := (1 : Int32)) hret (by simp) (hb hby d5_24) rfl (by decide) (by decide) ⟨rfl, rfl⟩
abbrev Rm5_10 : Room := { frames := 0, cells := 0, slots := 0, locals := 0 }
set_option maxRecDepth 65536 in
set_option maxHeartbeats 40000000 in
theorem rm5_10 (l : Launch) (Z : State) (a0 : Array Value) (hw : ∀ d ∈ tables_1, d.before a0 Z = true) (ws : List Jvm.Cond) (o : Addr) (w1 : Int32) (h0 : Heap) (n0 : Nat) (Z0 : n0 ≤ h0.size) :
    Met l Z n0 (⟨"com/example/bitstrata/bitstrata/bitmap/WorkspaceVectorsPinLaw", "row", "([[JIII)Z"⟩ : MethodName) method_2_code 4 (some .boolean) ws Rm5_10 #[(.ref o), (.int (1 : Int32)), (.int (0 : Int32)), (.int w1)] h0 (fun v h => v = some (.int 1) ∧ h0 = h) := by
  refine enter (Ls := #[.val (.ref o), .val (.int (1 : Int32)), .val (.int (0 : Int32)), .val (.int w1)]) (plainFor_of_name pn1) (fun m => by first | (simp [entryFrame, mkF, argsToLocals, Value.category]; done) | rfl) ?_
  intro p e s m below meth c T0 hx hby hml hown hnm hret hlk hZ X0
  show Go p.tables e below _ (T0.setTop (mkF m 0 #[.val (.ref o), .val (.int (1 : Int32)), .val (.int (0 : Int32)), .val (.int w1)] []))
  refine Go.by (fun _ => XS.iloadN X0.here hx rfl (hb hby d5_0) rfl) ?_
  show Go p.tables e below _ (T0.setTop (mkF m 1 #[.val (.ref o), .val (.int (1 : Int32)), .val (.int (0 : Int32)), .val (.int w1)] [(.int (1 : Int32))]))
  refine Go.by (fun _ => XS.iloadN X0.here hx rfl (hb hby d5_1) rfl) ?_
  show Go p.tables e below _ (T0.setTop (mkF m 2 #[.val (.ref o), .val (.int (1 : Int32)), .val (.int (0 : Int32)), .val (.int w1)] [(.int (0 : Int32)), (.int (1 : Int32))]))
  refine Go.by (fun _ => XS.icmpYes X0.here hx rfl (pc0 := 2) (pc' := 19) rfl (hb hby d5_2) rfl (flt (by decide)).2.1 (by decide) (by decide)) ?_
  show Go p.tables e below _ (T0.setTop (mkF m 19 #[.val (.ref o), .val (.int (1 : Int32)), .val (.int (0 : Int32)), .val (.int w1)] []))
  refine Go.by (fun _ => XS.iconst X0.here hx rfl (hb hby d5_19)) ?_
  show Go p.tables e below _ (T0.setTop (mkF m 20 #[.val (.ref o), .val (.int (1 : Int32)), .val (.int (0 : Int32)), .val (.int w1)] [(.int (1 : Int32))]))
  refine Go.by (fun _ => XS.goto X0.here hx rfl (pc0 := 20) (pc' := 24) rfl (hb hby d5_20) (by decide) (by decide)) ?_
  show Go p.tables e below _ (T0.setTop (mkF m 24 #[.val (.ref o), .val (.int (1 : Int32)), .val (.int (0 : Int32)), .val (.int w1)] [(.int (1 : Int32))]))
  exact Go.retN X0 hx hlk (z' := (1 : Int32)) hret (by simp) (hb hby d5_24) rfl (by decide) (by decide) ⟨rfl, rfl⟩
abbrev Rm5_20 : Room := { frames := 0, cells := 0, slots := 0, locals := 0 }
set_option maxRecDepth 65536 in
set_option maxHeartbeats 40000000 in
theorem rm5_20 (l : Launch) (Z : State) (a0 : Array Value) (hw : ∀ d ∈ tables_1, d.before a0 Z = true) (ws : List Jvm.Cond) (o : Addr) (w1 : Int32) (h0 : Heap) (n0 : Nat) (Z0 : n0 ≤ h0.size) :
    Met l Z n0 (⟨"com/example/bitstrata/bitstrata/bitmap/WorkspaceVectorsPinLaw", "row", "([[JIII)Z"⟩ : MethodName) method_2_code 4 (some .boolean) ws Rm5_20 #[(.ref o), (.int (2 : Int32)), (.int (0 : Int32)), (.int w1)] h0 (fun v h => v = some (.int 1) ∧ h0 = h) := by
  refine enter (Ls := #[.val (.ref o), .val (.int (2 : Int32)), .val (.int (0 : Int32)), .val (.int w1)]) (plainFor_of_name pn1) (fun m => by first | (simp [entryFrame, mkF, argsToLocals, Value.category]; done) | rfl) ?_
  intro p e s m below meth c T0 hx hby hml hown hnm hret hlk hZ X0
  show Go p.tables e below _ (T0.setTop (mkF m 0 #[.val (.ref o), .val (.int (2 : Int32)), .val (.int (0 : Int32)), .val (.int w1)] []))
  refine Go.by (fun _ => XS.iloadN X0.here hx rfl (hb hby d5_0) rfl) ?_
  show Go p.tables e below _ (T0.setTop (mkF m 1 #[.val (.ref o), .val (.int (2 : Int32)), .val (.int (0 : Int32)), .val (.int w1)] [(.int (2 : Int32))]))
  refine Go.by (fun _ => XS.iloadN X0.here hx rfl (hb hby d5_1) rfl) ?_
  show Go p.tables e below _ (T0.setTop (mkF m 2 #[.val (.ref o), .val (.int (2 : Int32)), .val (.int (0 : Int32)), .val (.int w1)] [(.int (0 : Int32)), (.int (2 : Int32))]))
  refine Go.by (fun _ => XS.icmpYes X0.here hx rfl (pc0 := 2) (pc' := 19) rfl (hb hby d5_2) rfl (flt (by decide)).2.1 (by decide) (by decide)) ?_
  show Go p.tables e below _ (T0.setTop (mkF m 19 #[.val (.ref o), .val (.int (2 : Int32)), .val (.int (0 : Int32)), .val (.int w1)] []))
  refine Go.by (fun _ => XS.iconst X0.here hx rfl (hb hby d5_19)) ?_
  show Go p.tables e below _ (T0.setTop (mkF m 20 #[.val (.ref o), .val (.int (2 : Int32)), .val (.int (0 : Int32)), .val (.int w1)] [(.int (1 : Int32))]))
  refine Go.by (fun _ => XS.goto X0.here hx rfl (pc0 := 20) (pc' := 24) rfl (hb hby d5_20) (by decide) (by decide)) ?_
  show Go p.tables e below _ (T0.setTop (mkF m 24 #[.val (.ref o), .val (.int (2 : Int32)), .val (.int (0 : Int32)), .val (.int w1)] [(.int (1 : Int32))]))
  exact Go.retN X0 hx hlk (z' := (1 : Int32)) hret (by simp) (hb hby d5_24) rfl (by decide) (by decide) ⟨rfl, rfl⟩
theorem d5_5 : decode method_2_code 5 = .ok (.aload_n 0, 1) := by decide +kernel
theorem d5_6 : decode method_2_code 6 = .ok (.iload_n 1, 1) := by decide +kernel
theorem d5_7 : decode method_2_code 7 = .ok (.aaload, 1) := by decide +kernel
theorem d5_8 : decode method_2_code 8 = .ok (.ifnull 15, 3) := by decide +kernel
theorem d5_11 : decode method_2_code 11 = .ok (.aload_n 0, 1) := by decide +kernel
theorem d5_12 : decode method_2_code 12 = .ok (.iload_n 1, 1) := by decide +kernel
theorem d5_13 : decode method_2_code 13 = .ok (.aaload, 1) := by decide +kernel
theorem d5_14 : decode method_2_code 14 = .ok (.arraylength, 1) := by decide +kernel
theorem d5_15 : decode method_2_code 15 = .ok (.iload_n 3, 1) := by decide +kernel
theorem d5_16 : decode method_2_code 16 = .ok (.if_icmp .ne 7, 3) := by decide +kernel
abbrev Rm5_1_01 : Room := { frames := 0, cells := 0, slots := 0, locals := 0 }
set_option maxRecDepth 65536 in
set_option maxHeartbeats 40000000 in
theorem rm5_1_01 (l : Launch) (Z : State) (a0 : Array Value) (hw : ∀ d ∈ tables_1, d.before a0 Z = true) (ws : List Jvm.Cond) (o : Addr) (w1 : Int32) (kO kd : ClassId) (fo : Nat → Value) (x : Addr) (sz : Nat) (h0 : Heap) (n0 : Nat) (Z0 : n0 ≤ h0.size) (V_o : Avf Z h0 o kO (.array .long) 1 fo) (hf : fo 0 = .ref x) (V_x : Avf Z h0 x kd .long sz (fun _ => (.long 0))) (hsz : sz.toInt32 = w1) :
    Met l Z n0 (⟨"com/example/bitstrata/bitstrata/bitmap/WorkspaceVectorsPinLaw", "row", "([[JIII)Z"⟩ : MethodName) method_2_code 4 (some .boolean) ws Rm5_1_01 #[(.ref o), (.int (0 : Int32)), (.int (1 : Int32)), (.int w1)] h0 (fun v h => v = some (.int 1) ∧ h0 = h) := by
  refine enter (Ls := #[.val (.ref o), .val (.int (0 : Int32)), .val (.int (1 : Int32)), .val (.int w1)]) (plainFor_of_name pn1) (fun m => by first | (simp [entryFrame, mkF, argsToLocals, Value.category]; done) | rfl) ?_
  intro p e s m below meth c T0 hx hby hml hown hnm hret hlk hZ X0
  show Go p.tables e below _ (T0.setTop (mkF m 0 #[.val (.ref o), .val (.int (0 : Int32)), .val (.int (1 : Int32)), .val (.int w1)] []))
  refine Go.by (fun _ => XS.iloadN X0.here hx rfl (hb hby d5_0) rfl) ?_
  show Go p.tables e below _ (T0.setTop (mkF m 1 #[.val (.ref o), .val (.int (0 : Int32)), .val (.int (1 : Int32)), .val (.int w1)] [(.int (0 : Int32))]))
  refine Go.by (fun _ => XS.iloadN X0.here hx rfl (hb hby d5_1) rfl) ?_
  show Go p.tables e below _ (T0.setTop (mkF m 2 #[.val (.ref o), .val (.int (0 : Int32)), .val (.int (1 : Int32)), .val (.int w1)] [(.int (1 : Int32)), (.int (0 : Int32))]))
  refine Go.by (fun _ => XS.icmpNo X0.here hx rfl (hb hby d5_2) rfl (tlt (by decide)).2.1) ?_
  show Go p.tables e below _ (T0.setTop (mkF m 5 #[.val (.ref o), .val (.int (0 : Int32)), .val (.int (1 : Int32)), .val (.int w1)] []))
  refine Go.by (fun _ => XS.aloadN X0.here hx rfl (hb hby d5_5) rfl rfl) ?_
  show Go p.tables e below _ (T0.setTop (mkF m 6 #[.val (.ref o), .val (.int (0 : Int32)), .val (.int (1 : Int32)), .val (.int w1)] [(.ref o)]))
  refine Go.by (fun _ => XS.iloadN X0.here hx rfl (hb hby d5_6) rfl) ?_
  show Go p.tables e below _ (T0.setTop (mkF m 7 #[.val (.ref o), .val (.int (0 : Int32)), .val (.int (1 : Int32)), .val (.int w1)] [(.int (0 : Int32)), (.ref o)]))
  refine Go.by (X0.ldA hx hZ V_o rfl (by decide) (i := 0) rfl (by decide) (v := (.ref x)) hf (g := (mkF m 7 #[.val (.ref o), .val (.int (0 : Int32)), .val (.int (1 : Int32)), .val (.int w1)] [(.int (0 : Int32)), (.ref o)])) rfl rfl (hb hby d5_7)) ?_
  show Go p.tables e below _ (T0.setTop (mkF m 8 #[.val (.ref o), .val (.int (0 : Int32)), .val (.int (1 : Int32)), .val (.int w1)] [(.ref x)]))
  refine Go.by (fun _ => XS.ifnullNo X0.here hx rfl (hb hby d5_8) rfl) ?_
  show Go p.tables e below _ (T0.setTop (mkF m 11 #[.val (.ref o), .val (.int (0 : Int32)), .val (.int (1 : Int32)), .val (.int w1)] []))
  refine Go.by (fun _ => XS.aloadN X0.here hx rfl (hb hby d5_11) rfl rfl) ?_
  show Go p.tables e below _ (T0.setTop (mkF m 12 #[.val (.ref o), .val (.int (0 : Int32)), .val (.int (1 : Int32)), .val (.int w1)] [(.ref o)]))
  refine Go.by (fun _ => XS.iloadN X0.here hx rfl (hb hby d5_12) rfl) ?_
  show Go p.tables e below _ (T0.setTop (mkF m 13 #[.val (.ref o), .val (.int (0 : Int32)), .val (.int (1 : Int32)), .val (.int w1)] [(.int (0 : Int32)), (.ref o)]))
  refine Go.by (X0.ldA hx hZ V_o rfl (by decide) (i := 0) rfl (by decide) (v := (.ref x)) hf (g := (mkF m 13 #[.val (.ref o), .val (.int (0 : Int32)), .val (.int (1 : Int32)), .val (.int w1)] [(.int (0 : Int32)), (.ref o)])) rfl rfl (hb hby d5_13)) ?_
  show Go p.tables e below _ (T0.setTop (mkF m 14 #[.val (.ref o), .val (.int (0 : Int32)), .val (.int (1 : Int32)), .val (.int w1)] [(.ref x)]))
  refine Go.by (X0.len hx hZ V_x (z := w1) hsz (g := (mkF m 14 #[.val (.ref o), .val (.int (0 : Int32)), .val (.int (1 : Int32)), .val (.int w1)] [(.ref x)])) rfl rfl (hb hby d5_14)) ?_
  show Go p.tables e below _ (T0.setTop (mkF m 15 #[.val (.ref o), .val (.int (0 : Int32)), .val (.int (1 : Int32)), .val (.int w1)] [(.int w1)]))
  refine Go.by (fun _ => XS.iloadN X0.here hx rfl (hb hby d5_15) rfl) ?_
  show Go p.tables e below _ (T0.setTop (mkF m 16 #[.val (.ref o), .val (.int (0 : Int32)), .val (.int (1 : Int32)), .val (.int w1)] [(.int w1), (.int w1)]))
  refine Go.by (fun _ => XS.icmpNo X0.here hx rfl (hb hby d5_16) rfl (teq rfl).2) ?_
  show Go p.tables e below _ (T0.setTop (mkF m 19 #[.val (.ref o), .val (.int (0 : Int32)), .val (.int (1 : Int32)), .val (.int w1)] []))
  refine Go.by (fun _ => XS.iconst X0.here hx rfl (hb hby d5_19)) ?_
  show Go p.tables e below _ (T0.setTop (mkF m 20 #[.val (.ref o), .val (.int (0 : Int32)), .val (.int (1 : Int32)), .val (.int w1)] [(.int (1 : Int32))]))
  refine Go.by (fun _ => XS.goto X0.here hx rfl (pc0 := 20) (pc' := 24) rfl (hb hby d5_20) (by decide) (by decide)) ?_
  show Go p.tables e below _ (T0.setTop (mkF m 24 #[.val (.ref o), .val (.int (0 : Int32)), .val (.int (1 : Int32)), .val (.int w1)] [(.int (1 : Int32))]))
  exact Go.retN X0 hx hlk (z' := (1 : Int32)) hret (by simp) (hb hby d5_24) rfl (by decide) (by decide) ⟨rfl, rfl⟩
abbrev Rm5_11 : Room := { frames := 0, cells := 0, slots := 0, locals := 0 }
set_option maxRecDepth 65536 in
set_option maxHeartbeats 40000000 in
theorem rm5_11 (l : Launch) (Z : State) (a0 : Array Value) (hw : ∀ d ∈ tables_1, d.before a0 Z = true) (ws : List Jvm.Cond) (o : Addr) (w1 : Int32) (h0 : Heap) (n0 : Nat) (Z0 : n0 ≤ h0.size) :
    Met l Z n0 (⟨"com/example/bitstrata/bitstrata/bitmap/WorkspaceVectorsPinLaw", "row", "([[JIII)Z"⟩ : MethodName) method_2_code 4 (some .boolean) ws Rm5_11 #[(.ref o), (.int (1 : Int32)), (.int (1 : Int32)), (.int w1)] h0 (fun v h => v = some (.int 1) ∧ h0 = h) := by
  refine enter (Ls := #[.val (.ref o), .val (.int (1 : Int32)), .val (.int (1 : Int32)), .val (.int w1)]) (plainFor_of_name pn1) (fun m => by first | (simp [entryFrame, mkF, argsToLocals, Value.category]; done) | rfl) ?_
  intro p e s m below meth c T0 hx hby hml hown hnm hret hlk hZ X0
  show Go p.tables e below _ (T0.setTop (mkF m 0 #[.val (.ref o), .val (.int (1 : Int32)), .val (.int (1 : Int32)), .val (.int w1)] []))
  refine Go.by (fun _ => XS.iloadN X0.here hx rfl (hb hby d5_0) rfl) ?_
  show Go p.tables e below _ (T0.setTop (mkF m 1 #[.val (.ref o), .val (.int (1 : Int32)), .val (.int (1 : Int32)), .val (.int w1)] [(.int (1 : Int32))]))
  refine Go.by (fun _ => XS.iloadN X0.here hx rfl (hb hby d5_1) rfl) ?_
  show Go p.tables e below _ (T0.setTop (mkF m 2 #[.val (.ref o), .val (.int (1 : Int32)), .val (.int (1 : Int32)), .val (.int w1)] [(.int (1 : Int32)), (.int (1 : Int32))]))
  refine Go.by (fun _ => XS.icmpYes X0.here hx rfl (pc0 := 2) (pc' := 19) rfl (hb hby d5_2) rfl (flt (by decide)).2.1 (by decide) (by decide)) ?_
  show Go p.tables e below _ (T0.setTop (mkF m 19 #[.val (.ref o), .val (.int (1 : Int32)), .val (.int (1 : Int32)), .val (.int w1)] []))
  refine Go.by (fun _ => XS.iconst X0.here hx rfl (hb hby d5_19)) ?_
  show Go p.tables e below _ (T0.setTop (mkF m 20 #[.val (.ref o), .val (.int (1 : Int32)), .val (.int (1 : Int32)), .val (.int w1)] [(.int (1 : Int32))]))
  refine Go.by (fun _ => XS.goto X0.here hx rfl (pc0 := 20) (pc' := 24) rfl (hb hby d5_20) (by decide) (by decide)) ?_
  show Go p.tables e below _ (T0.setTop (mkF m 24 #[.val (.ref o), .val (.int (1 : Int32)), .val (.int (1 : Int32)), .val (.int w1)] [(.int (1 : Int32))]))
  exact Go.retN X0 hx hlk (z' := (1 : Int32)) hret (by simp) (hb hby d5_24) rfl (by decide) (by decide) ⟨rfl, rfl⟩
abbrev Rm5_21 : Room := { frames := 0, cells := 0, slots := 0, locals := 0 }
set_option maxRecDepth 65536 in
set_option maxHeartbeats 40000000 in
theorem rm5_21 (l : Launch) (Z : State) (a0 : Array Value) (hw : ∀ d ∈ tables_1, d.before a0 Z = true) (ws : List Jvm.Cond) (o : Addr) (w1 : Int32) (h0 : Heap) (n0 : Nat) (Z0 : n0 ≤ h0.size) :
    Met l Z n0 (⟨"com/example/bitstrata/bitstrata/bitmap/WorkspaceVectorsPinLaw", "row", "([[JIII)Z"⟩ : MethodName) method_2_code 4 (some .boolean) ws Rm5_21 #[(.ref o), (.int (2 : Int32)), (.int (1 : Int32)), (.int w1)] h0 (fun v h => v = some (.int 1) ∧ h0 = h) := by
  refine enter (Ls := #[.val (.ref o), .val (.int (2 : Int32)), .val (.int (1 : Int32)), .val (.int w1)]) (plainFor_of_name pn1) (fun m => by first | (simp [entryFrame, mkF, argsToLocals, Value.category]; done) | rfl) ?_
  intro p e s m below meth c T0 hx hby hml hown hnm hret hlk hZ X0
  show Go p.tables e below _ (T0.setTop (mkF m 0 #[.val (.ref o), .val (.int (2 : Int32)), .val (.int (1 : Int32)), .val (.int w1)] []))
  refine Go.by (fun _ => XS.iloadN X0.here hx rfl (hb hby d5_0) rfl) ?_
  show Go p.tables e below _ (T0.setTop (mkF m 1 #[.val (.ref o), .val (.int (2 : Int32)), .val (.int (1 : Int32)), .val (.int w1)] [(.int (2 : Int32))]))
  refine Go.by (fun _ => XS.iloadN X0.here hx rfl (hb hby d5_1) rfl) ?_
  show Go p.tables e below _ (T0.setTop (mkF m 2 #[.val (.ref o), .val (.int (2 : Int32)), .val (.int (1 : Int32)), .val (.int w1)] [(.int (1 : Int32)), (.int (2 : Int32))]))
  refine Go.by (fun _ => XS.icmpYes X0.here hx rfl (pc0 := 2) (pc' := 19) rfl (hb hby d5_2) rfl (flt (by decide)).2.1 (by decide) (by decide)) ?_
  show Go p.tables e below _ (T0.setTop (mkF m 19 #[.val (.ref o), .val (.int (2 : Int32)), .val (.int (1 : Int32)), .val (.int w1)] []))
  refine Go.by (fun _ => XS.iconst X0.here hx rfl (hb hby d5_19)) ?_
  show Go p.tables e below _ (T0.setTop (mkF m 20 #[.val (.ref o), .val (.int (2 : Int32)), .val (.int (1 : Int32)), .val (.int w1)] [(.int (1 : Int32))]))
  refine Go.by (fun _ => XS.goto X0.here hx rfl (pc0 := 20) (pc' := 24) rfl (hb hby d5_20) (by decide) (by decide)) ?_
  show Go p.tables e below _ (T0.setTop (mkF m 24 #[.val (.ref o), .val (.int (2 : Int32)), .val (.int (1 : Int32)), .val (.int w1)] [(.int (1 : Int32))]))
  exact Go.retN X0 hx hlk (z' := (1 : Int32)) hret (by simp) (hb hby d5_24) rfl (by decide) (by decide) ⟨rfl, rfl⟩
abbrev Rm5_2_01 : Room := { frames := 0, cells := 0, slots := 0, locals := 0 }
set_option maxRecDepth 65536 in
set_option maxHeartbeats 40000000 in
theorem rm5_2_01 (l : Launch) (Z : State) (a0 : Array Value) (hw : ∀ d ∈ tables_1, d.before a0 Z = true) (ws : List Jvm.Cond) (o : Addr) (w1 : Int32) (kO kd : ClassId) (fo : Nat → Value) (x : Addr) (sz : Nat) (h0 : Heap) (n0 : Nat) (Z0 : n0 ≤ h0.size) (V_o : Avf Z h0 o kO (.array .long) 2 fo) (hf : fo 0 = .ref x) (V_x : Avf Z h0 x kd .long sz (fun _ => (.long 0))) (hsz : sz.toInt32 = w1) :
    Met l Z n0 (⟨"com/example/bitstrata/bitstrata/bitmap/WorkspaceVectorsPinLaw", "row", "([[JIII)Z"⟩ : MethodName) method_2_code 4 (some .boolean) ws Rm5_2_01 #[(.ref o), (.int (0 : Int32)), (.int (1 : Int32)), (.int w1)] h0 (fun v h => v = some (.int 1) ∧ h0 = h) := by
  refine enter (Ls := #[.val (.ref o), .val (.int (0 : Int32)), .val (.int (1 : Int32)), .val (.int w1)]) (plainFor_of_name pn1) (fun m => by first | (simp [entryFrame, mkF, argsToLocals, Value.category]; done) | rfl) ?_
  intro p e s m below meth c T0 hx hby hml hown hnm hret hlk hZ X0
  show Go p.tables e below _ (T0.setTop (mkF m 0 #[.val (.ref o), .val (.int (0 : Int32)), .val (.int (1 : Int32)), .val (.int w1)] []))
  refine Go.by (fun _ => XS.iloadN X0.here hx rfl (hb hby d5_0) rfl) ?_
  show Go p.tables e below _ (T0.setTop (mkF m 1 #[.val (.ref o), .val (.int (0 : Int32)), .val (.int (1 : Int32)), .val (.int w1)] [(.int (0 : Int32))]))
  refine Go.by (fun _ => XS.iloadN X0.here hx rfl (hb hby d5_1) rfl) ?_
  show Go p.tables e below _ (T0.setTop (mkF m 2 #[.val (.ref o), .val (.int (0 : Int32)), .val (.int (1 : Int32)), .val (.int w1)] [(.int (1 : Int32)), (.int (0 : Int32))]))
  refine Go.by (fun _ => XS.icmpNo X0.here hx rfl (hb hby d5_2) rfl (tlt (by decide)).2.1) ?_
  show Go p.tables e below _ (T0.setTop (mkF m 5 #[.val (.ref o), .val (.int (0 : Int32)), .val (.int (1 : Int32)), .val (.int w1)] []))
  refine Go.by (fun _ => XS.aloadN X0.here hx rfl (hb hby d5_5) rfl rfl) ?_
  show Go p.tables e below _ (T0.setTop (mkF m 6 #[.val (.ref o), .val (.int (0 : Int32)), .val (.int (1 : Int32)), .val (.int w1)] [(.ref o)]))
  refine Go.by (fun _ => XS.iloadN X0.here hx rfl (hb hby d5_6) rfl) ?_
  show Go p.tables e below _ (T0.setTop (mkF m 7 #[.val (.ref o), .val (.int (0 : Int32)), .val (.int (1 : Int32)), .val (.int w1)] [(.int (0 : Int32)), (.ref o)]))
  refine Go.by (X0.ldA hx hZ V_o rfl (by decide) (i := 0) rfl (by decide) (v := (.ref x)) hf (g := (mkF m 7 #[.val (.ref o), .val (.int (0 : Int32)), .val (.int (1 : Int32)), .val (.int w1)] [(.int (0 : Int32)), (.ref o)])) rfl rfl (hb hby d5_7)) ?_
  show Go p.tables e below _ (T0.setTop (mkF m 8 #[.val (.ref o), .val (.int (0 : Int32)), .val (.int (1 : Int32)), .val (.int w1)] [(.ref x)]))
  refine Go.by (fun _ => XS.ifnullNo X0.here hx rfl (hb hby d5_8) rfl) ?_
  show Go p.tables e below _ (T0.setTop (mkF m 11 #[.val (.ref o), .val (.int (0 : Int32)), .val (.int (1 : Int32)), .val (.int w1)] []))
  refine Go.by (fun _ => XS.aloadN X0.here hx rfl (hb hby d5_11) rfl rfl) ?_
  show Go p.tables e below _ (T0.setTop (mkF m 12 #[.val (.ref o), .val (.int (0 : Int32)), .val (.int (1 : Int32)), .val (.int w1)] [(.ref o)]))
  refine Go.by (fun _ => XS.iloadN X0.here hx rfl (hb hby d5_12) rfl) ?_
  show Go p.tables e below _ (T0.setTop (mkF m 13 #[.val (.ref o), .val (.int (0 : Int32)), .val (.int (1 : Int32)), .val (.int w1)] [(.int (0 : Int32)), (.ref o)]))
  refine Go.by (X0.ldA hx hZ V_o rfl (by decide) (i := 0) rfl (by decide) (v := (.ref x)) hf (g := (mkF m 13 #[.val (.ref o), .val (.int (0 : Int32)), .val (.int (1 : Int32)), .val (.int w1)] [(.int (0 : Int32)), (.ref o)])) rfl rfl (hb hby d5_13)) ?_
  show Go p.tables e below _ (T0.setTop (mkF m 14 #[.val (.ref o), .val (.int (0 : Int32)), .val (.int (1 : Int32)), .val (.int w1)] [(.ref x)]))
  refine Go.by (X0.len hx hZ V_x (z := w1) hsz (g := (mkF m 14 #[.val (.ref o), .val (.int (0 : Int32)), .val (.int (1 : Int32)), .val (.int w1)] [(.ref x)])) rfl rfl (hb hby d5_14)) ?_
  show Go p.tables e below _ (T0.setTop (mkF m 15 #[.val (.ref o), .val (.int (0 : Int32)), .val (.int (1 : Int32)), .val (.int w1)] [(.int w1)]))
  refine Go.by (fun _ => XS.iloadN X0.here hx rfl (hb hby d5_15) rfl) ?_
  show Go p.tables e below _ (T0.setTop (mkF m 16 #[.val (.ref o), .val (.int (0 : Int32)), .val (.int (1 : Int32)), .val (.int w1)] [(.int w1), (.int w1)]))
  refine Go.by (fun _ => XS.icmpNo X0.here hx rfl (hb hby d5_16) rfl (teq rfl).2) ?_
  show Go p.tables e below _ (T0.setTop (mkF m 19 #[.val (.ref o), .val (.int (0 : Int32)), .val (.int (1 : Int32)), .val (.int w1)] []))
  refine Go.by (fun _ => XS.iconst X0.here hx rfl (hb hby d5_19)) ?_
  show Go p.tables e below _ (T0.setTop (mkF m 20 #[.val (.ref o), .val (.int (0 : Int32)), .val (.int (1 : Int32)), .val (.int w1)] [(.int (1 : Int32))]))
  refine Go.by (fun _ => XS.goto X0.here hx rfl (pc0 := 20) (pc' := 24) rfl (hb hby d5_20) (by decide) (by decide)) ?_
  show Go p.tables e below _ (T0.setTop (mkF m 24 #[.val (.ref o), .val (.int (0 : Int32)), .val (.int (1 : Int32)), .val (.int w1)] [(.int (1 : Int32))]))
  exact Go.retN X0 hx hlk (z' := (1 : Int32)) hret (by simp) (hb hby d5_24) rfl (by decide) (by decide) ⟨rfl, rfl⟩
abbrev Rm5_2_02 : Room := { frames := 0, cells := 0, slots := 0, locals := 0 }
set_option maxRecDepth 65536 in
set_option maxHeartbeats 40000000 in
theorem rm5_2_02 (l : Launch) (Z : State) (a0 : Array Value) (hw : ∀ d ∈ tables_1, d.before a0 Z = true) (ws : List Jvm.Cond) (o : Addr) (w1 : Int32) (kO kd : ClassId) (fo : Nat → Value) (x : Addr) (sz : Nat) (h0 : Heap) (n0 : Nat) (Z0 : n0 ≤ h0.size) (V_o : Avf Z h0 o kO (.array .long) 2 fo) (hf : fo 0 = .ref x) (V_x : Avf Z h0 x kd .long sz (fun _ => (.long 0))) (hsz : sz.toInt32 = w1) :
    Met l Z n0 (⟨"com/example/bitstrata/bitstrata/bitmap/WorkspaceVectorsPinLaw", "row", "([[JIII)Z"⟩ : MethodName) method_2_code 4 (some .boolean) ws Rm5_2_02 #[(.ref o), (.int (0 : Int32)), (.int (2 : Int32)), (.int w1)] h0 (fun v h => v = some (.int 1) ∧ h0 = h) := by
  refine enter (Ls := #[.val (.ref o), .val (.int (0 : Int32)), .val (.int (2 : Int32)), .val (.int w1)]) (plainFor_of_name pn1) (fun m => by first | (simp [entryFrame, mkF, argsToLocals, Value.category]; done) | rfl) ?_
  intro p e s m below meth c T0 hx hby hml hown hnm hret hlk hZ X0
  show Go p.tables e below _ (T0.setTop (mkF m 0 #[.val (.ref o), .val (.int (0 : Int32)), .val (.int (2 : Int32)), .val (.int w1)] []))
  refine Go.by (fun _ => XS.iloadN X0.here hx rfl (hb hby d5_0) rfl) ?_
  show Go p.tables e below _ (T0.setTop (mkF m 1 #[.val (.ref o), .val (.int (0 : Int32)), .val (.int (2 : Int32)), .val (.int w1)] [(.int (0 : Int32))]))
  refine Go.by (fun _ => XS.iloadN X0.here hx rfl (hb hby d5_1) rfl) ?_
  show Go p.tables e below _ (T0.setTop (mkF m 2 #[.val (.ref o), .val (.int (0 : Int32)), .val (.int (2 : Int32)), .val (.int w1)] [(.int (2 : Int32)), (.int (0 : Int32))]))
  refine Go.by (fun _ => XS.icmpNo X0.here hx rfl (hb hby d5_2) rfl (tlt (by decide)).2.1) ?_
  show Go p.tables e below _ (T0.setTop (mkF m 5 #[.val (.ref o), .val (.int (0 : Int32)), .val (.int (2 : Int32)), .val (.int w1)] []))
  refine Go.by (fun _ => XS.aloadN X0.here hx rfl (hb hby d5_5) rfl rfl) ?_
  show Go p.tables e below _ (T0.setTop (mkF m 6 #[.val (.ref o), .val (.int (0 : Int32)), .val (.int (2 : Int32)), .val (.int w1)] [(.ref o)]))
  refine Go.by (fun _ => XS.iloadN X0.here hx rfl (hb hby d5_6) rfl) ?_
  show Go p.tables e below _ (T0.setTop (mkF m 7 #[.val (.ref o), .val (.int (0 : Int32)), .val (.int (2 : Int32)), .val (.int w1)] [(.int (0 : Int32)), (.ref o)]))
  refine Go.by (X0.ldA hx hZ V_o rfl (by decide) (i := 0) rfl (by decide) (v := (.ref x)) hf (g := (mkF m 7 #[.val (.ref o), .val (.int (0 : Int32)), .val (.int (2 : Int32)), .val (.int w1)] [(.int (0 : Int32)), (.ref o)])) rfl rfl (hb hby d5_7)) ?_
  show Go p.tables e below _ (T0.setTop (mkF m 8 #[.val (.ref o), .val (.int (0 : Int32)), .val (.int (2 : Int32)), .val (.int w1)] [(.ref x)]))
  refine Go.by (fun _ => XS.ifnullNo X0.here hx rfl (hb hby d5_8) rfl) ?_
  show Go p.tables e below _ (T0.setTop (mkF m 11 #[.val (.ref o), .val (.int (0 : Int32)), .val (.int (2 : Int32)), .val (.int w1)] []))
  refine Go.by (fun _ => XS.aloadN X0.here hx rfl (hb hby d5_11) rfl rfl) ?_
  show Go p.tables e below _ (T0.setTop (mkF m 12 #[.val (.ref o), .val (.int (0 : Int32)), .val (.int (2 : Int32)), .val (.int w1)] [(.ref o)]))
  refine Go.by (fun _ => XS.iloadN X0.here hx rfl (hb hby d5_12) rfl) ?_
  show Go p.tables e below _ (T0.setTop (mkF m 13 #[.val (.ref o), .val (.int (0 : Int32)), .val (.int (2 : Int32)), .val (.int w1)] [(.int (0 : Int32)), (.ref o)]))
  refine Go.by (X0.ldA hx hZ V_o rfl (by decide) (i := 0) rfl (by decide) (v := (.ref x)) hf (g := (mkF m 13 #[.val (.ref o), .val (.int (0 : Int32)), .val (.int (2 : Int32)), .val (.int w1)] [(.int (0 : Int32)), (.ref o)])) rfl rfl (hb hby d5_13)) ?_
  show Go p.tables e below _ (T0.setTop (mkF m 14 #[.val (.ref o), .val (.int (0 : Int32)), .val (.int (2 : Int32)), .val (.int w1)] [(.ref x)]))
  refine Go.by (X0.len hx hZ V_x (z := w1) hsz (g := (mkF m 14 #[.val (.ref o), .val (.int (0 : Int32)), .val (.int (2 : Int32)), .val (.int w1)] [(.ref x)])) rfl rfl (hb hby d5_14)) ?_
  show Go p.tables e below _ (T0.setTop (mkF m 15 #[.val (.ref o), .val (.int (0 : Int32)), .val (.int (2 : Int32)), .val (.int w1)] [(.int w1)]))
  refine Go.by (fun _ => XS.iloadN X0.here hx rfl (hb hby d5_15) rfl) ?_
  show Go p.tables e below _ (T0.setTop (mkF m 16 #[.val (.ref o), .val (.int (0 : Int32)), .val (.int (2 : Int32)), .val (.int w1)] [(.int w1), (.int w1)]))
  refine Go.by (fun _ => XS.icmpNo X0.here hx rfl (hb hby d5_16) rfl (teq rfl).2) ?_
  show Go p.tables e below _ (T0.setTop (mkF m 19 #[.val (.ref o), .val (.int (0 : Int32)), .val (.int (2 : Int32)), .val (.int w1)] []))
  refine Go.by (fun _ => XS.iconst X0.here hx rfl (hb hby d5_19)) ?_
  show Go p.tables e below _ (T0.setTop (mkF m 20 #[.val (.ref o), .val (.int (0 : Int32)), .val (.int (2 : Int32)), .val (.int w1)] [(.int (1 : Int32))]))
  refine Go.by (fun _ => XS.goto X0.here hx rfl (pc0 := 20) (pc' := 24) rfl (hb hby d5_20) (by decide) (by decide)) ?_
  show Go p.tables e below _ (T0.setTop (mkF m 24 #[.val (.ref o), .val (.int (0 : Int32)), .val (.int (2 : Int32)), .val (.int w1)] [(.int (1 : Int32))]))
  exact Go.retN X0 hx hlk (z' := (1 : Int32)) hret (by simp) (hb hby d5_24) rfl (by decide) (by decide) ⟨rfl, rfl⟩
abbrev Rm5_2_12 : Room := { frames := 0, cells := 0, slots := 0, locals := 0 }
set_option maxRecDepth 65536 in
set_option maxHeartbeats 40000000 in
theorem rm5_2_12 (l : Launch) (Z : State) (a0 : Array Value) (hw : ∀ d ∈ tables_1, d.before a0 Z = true) (ws : List Jvm.Cond) (o : Addr) (w1 : Int32) (kO kd : ClassId) (fo : Nat → Value) (x : Addr) (sz : Nat) (h0 : Heap) (n0 : Nat) (Z0 : n0 ≤ h0.size) (V_o : Avf Z h0 o kO (.array .long) 2 fo) (hf : fo 1 = .ref x) (V_x : Avf Z h0 x kd .long sz (fun _ => (.long 0))) (hsz : sz.toInt32 = w1) :
    Met l Z n0 (⟨"com/example/bitstrata/bitstrata/bitmap/WorkspaceVectorsPinLaw", "row", "([[JIII)Z"⟩ : MethodName) method_2_code 4 (some .boolean) ws Rm5_2_12 #[(.ref o), (.int (1 : Int32)), (.int (2 : Int32)), (.int w1)] h0 (fun v h => v = some (.int 1) ∧ h0 = h) := by
  refine enter (Ls := #[.val (.ref o), .val (.int (1 : Int32)), .val (.int (2 : Int32)), .val (.int w1)]) (plainFor_of_name pn1) (fun m => by first | (simp [entryFrame, mkF, argsToLocals, Value.category]; done) | rfl) ?_
  intro p e s m below meth c T0 hx hby hml hown hnm hret hlk hZ X0
  show Go p.tables e below _ (T0.setTop (mkF m 0 #[.val (.ref o), .val (.int (1 : Int32)), .val (.int (2 : Int32)), .val (.int w1)] []))
  refine Go.by (fun _ => XS.iloadN X0.here hx rfl (hb hby d5_0) rfl) ?_
  show Go p.tables e below _ (T0.setTop (mkF m 1 #[.val (.ref o), .val (.int (1 : Int32)), .val (.int (2 : Int32)), .val (.int w1)] [(.int (1 : Int32))]))
  refine Go.by (fun _ => XS.iloadN X0.here hx rfl (hb hby d5_1) rfl) ?_
  show Go p.tables e below _ (T0.setTop (mkF m 2 #[.val (.ref o), .val (.int (1 : Int32)), .val (.int (2 : Int32)), .val (.int w1)] [(.int (2 : Int32)), (.int (1 : Int32))]))
  refine Go.by (fun _ => XS.icmpNo X0.here hx rfl (hb hby d5_2) rfl (tlt (by decide)).2.1) ?_
  show Go p.tables e below _ (T0.setTop (mkF m 5 #[.val (.ref o), .val (.int (1 : Int32)), .val (.int (2 : Int32)), .val (.int w1)] []))
  refine Go.by (fun _ => XS.aloadN X0.here hx rfl (hb hby d5_5) rfl rfl) ?_
  show Go p.tables e below _ (T0.setTop (mkF m 6 #[.val (.ref o), .val (.int (1 : Int32)), .val (.int (2 : Int32)), .val (.int w1)] [(.ref o)]))
  refine Go.by (fun _ => XS.iloadN X0.here hx rfl (hb hby d5_6) rfl) ?_
  show Go p.tables e below _ (T0.setTop (mkF m 7 #[.val (.ref o), .val (.int (1 : Int32)), .val (.int (2 : Int32)), .val (.int w1)] [(.int (1 : Int32)), (.ref o)]))
  refine Go.by (X0.ldA hx hZ V_o rfl (by decide) (i := 1) rfl (by decide) (v := (.ref x)) hf (g := (mkF m 7 #[.val (.ref o), .val (.int (1 : Int32)), .val (.int (2 : Int32)), .val (.int w1)] [(.int (1 : Int32)), (.ref o)])) rfl rfl (hb hby d5_7)) ?_
  show Go p.tables e below _ (T0.setTop (mkF m 8 #[.val (.ref o), .val (.int (1 : Int32)), .val (.int (2 : Int32)), .val (.int w1)] [(.ref x)]))
  refine Go.by (fun _ => XS.ifnullNo X0.here hx rfl (hb hby d5_8) rfl) ?_
  show Go p.tables e below _ (T0.setTop (mkF m 11 #[.val (.ref o), .val (.int (1 : Int32)), .val (.int (2 : Int32)), .val (.int w1)] []))
  refine Go.by (fun _ => XS.aloadN X0.here hx rfl (hb hby d5_11) rfl rfl) ?_
  show Go p.tables e below _ (T0.setTop (mkF m 12 #[.val (.ref o), .val (.int (1 : Int32)), .val (.int (2 : Int32)), .val (.int w1)] [(.ref o)]))
  refine Go.by (fun _ => XS.iloadN X0.here hx rfl (hb hby d5_12) rfl) ?_
  show Go p.tables e below _ (T0.setTop (mkF m 13 #[.val (.ref o), .val (.int (1 : Int32)), .val (.int (2 : Int32)), .val (.int w1)] [(.int (1 : Int32)), (.ref o)]))
  refine Go.by (X0.ldA hx hZ V_o rfl (by decide) (i := 1) rfl (by decide) (v := (.ref x)) hf (g := (mkF m 13 #[.val (.ref o), .val (.int (1 : Int32)), .val (.int (2 : Int32)), .val (.int w1)] [(.int (1 : Int32)), (.ref o)])) rfl rfl (hb hby d5_13)) ?_
  show Go p.tables e below _ (T0.setTop (mkF m 14 #[.val (.ref o), .val (.int (1 : Int32)), .val (.int (2 : Int32)), .val (.int w1)] [(.ref x)]))
  refine Go.by (X0.len hx hZ V_x (z := w1) hsz (g := (mkF m 14 #[.val (.ref o), .val (.int (1 : Int32)), .val (.int (2 : Int32)), .val (.int w1)] [(.ref x)])) rfl rfl (hb hby d5_14)) ?_
  show Go p.tables e below _ (T0.setTop (mkF m 15 #[.val (.ref o), .val (.int (1 : Int32)), .val (.int (2 : Int32)), .val (.int w1)] [(.int w1)]))
  refine Go.by (fun _ => XS.iloadN X0.here hx rfl (hb hby d5_15) rfl) ?_
  show Go p.tables e below _ (T0.setTop (mkF m 16 #[.val (.ref o), .val (.int (1 : Int32)), .val (.int (2 : Int32)), .val (.int w1)] [(.int w1), (.int w1)]))
  refine Go.by (fun _ => XS.icmpNo X0.here hx rfl (hb hby d5_16) rfl (teq rfl).2) ?_
  show Go p.tables e below _ (T0.setTop (mkF m 19 #[.val (.ref o), .val (.int (1 : Int32)), .val (.int (2 : Int32)), .val (.int w1)] []))
  refine Go.by (fun _ => XS.iconst X0.here hx rfl (hb hby d5_19)) ?_
  show Go p.tables e below _ (T0.setTop (mkF m 20 #[.val (.ref o), .val (.int (1 : Int32)), .val (.int (2 : Int32)), .val (.int w1)] [(.int (1 : Int32))]))
  refine Go.by (fun _ => XS.goto X0.here hx rfl (pc0 := 20) (pc' := 24) rfl (hb hby d5_20) (by decide) (by decide)) ?_
  show Go p.tables e below _ (T0.setTop (mkF m 24 #[.val (.ref o), .val (.int (1 : Int32)), .val (.int (2 : Int32)), .val (.int w1)] [(.int (1 : Int32))]))
  exact Go.retN X0 hx hlk (z' := (1 : Int32)) hret (by simp) (hb hby d5_24) rfl (by decide) (by decide) ⟨rfl, rfl⟩
abbrev Rm5_22 : Room := { frames := 0, cells := 0, slots := 0, locals := 0 }
set_option maxRecDepth 65536 in
set_option maxHeartbeats 40000000 in
theorem rm5_22 (l : Launch) (Z : State) (a0 : Array Value) (hw : ∀ d ∈ tables_1, d.before a0 Z = true) (ws : List Jvm.Cond) (o : Addr) (w1 : Int32) (h0 : Heap) (n0 : Nat) (Z0 : n0 ≤ h0.size) :
    Met l Z n0 (⟨"com/example/bitstrata/bitstrata/bitmap/WorkspaceVectorsPinLaw", "row", "([[JIII)Z"⟩ : MethodName) method_2_code 4 (some .boolean) ws Rm5_22 #[(.ref o), (.int (2 : Int32)), (.int (2 : Int32)), (.int w1)] h0 (fun v h => v = some (.int 1) ∧ h0 = h) := by
  refine enter (Ls := #[.val (.ref o), .val (.int (2 : Int32)), .val (.int (2 : Int32)), .val (.int w1)]) (plainFor_of_name pn1) (fun m => by first | (simp [entryFrame, mkF, argsToLocals, Value.category]; done) | rfl) ?_
  intro p e s m below meth c T0 hx hby hml hown hnm hret hlk hZ X0
  show Go p.tables e below _ (T0.setTop (mkF m 0 #[.val (.ref o), .val (.int (2 : Int32)), .val (.int (2 : Int32)), .val (.int w1)] []))
  refine Go.by (fun _ => XS.iloadN X0.here hx rfl (hb hby d5_0) rfl) ?_
  show Go p.tables e below _ (T0.setTop (mkF m 1 #[.val (.ref o), .val (.int (2 : Int32)), .val (.int (2 : Int32)), .val (.int w1)] [(.int (2 : Int32))]))
  refine Go.by (fun _ => XS.iloadN X0.here hx rfl (hb hby d5_1) rfl) ?_
  show Go p.tables e below _ (T0.setTop (mkF m 2 #[.val (.ref o), .val (.int (2 : Int32)), .val (.int (2 : Int32)), .val (.int w1)] [(.int (2 : Int32)), (.int (2 : Int32))]))
  refine Go.by (fun _ => XS.icmpYes X0.here hx rfl (pc0 := 2) (pc' := 19) rfl (hb hby d5_2) rfl (flt (by decide)).2.1 (by decide) (by decide)) ?_
  show Go p.tables e below _ (T0.setTop (mkF m 19 #[.val (.ref o), .val (.int (2 : Int32)), .val (.int (2 : Int32)), .val (.int w1)] []))
  refine Go.by (fun _ => XS.iconst X0.here hx rfl (hb hby d5_19)) ?_
  show Go p.tables e below _ (T0.setTop (mkF m 20 #[.val (.ref o), .val (.int (2 : Int32)), .val (.int (2 : Int32)), .val (.int w1)] [(.int (1 : Int32))]))
  refine Go.by (fun _ => XS.goto X0.here hx rfl (pc0 := 20) (pc' := 24) rfl (hb hby d5_20) (by decide) (by decide)) ?_
  show Go p.tables e below _ (T0.setTop (mkF m 24 #[.val (.ref o), .val (.int (2 : Int32)), .val (.int (2 : Int32)), .val (.int w1)] [(.int (1 : Int32))]))
  exact Go.retN X0 hx hlk (z' := (1 : Int32)) hret (by simp) (hb hby d5_24) rfl (by decide) (by decide) ⟨rfl, rfl⟩
abbrev Rm5_3_01 : Room := { frames := 0, cells := 0, slots := 0, locals := 0 }
set_option maxRecDepth 65536 in
set_option maxHeartbeats 40000000 in
theorem rm5_3_01 (l : Launch) (Z : State) (a0 : Array Value) (hw : ∀ d ∈ tables_1, d.before a0 Z = true) (ws : List Jvm.Cond) (o : Addr) (w1 : Int32) (kO kd : ClassId) (fo : Nat → Value) (x : Addr) (sz : Nat) (h0 : Heap) (n0 : Nat) (Z0 : n0 ≤ h0.size) (V_o : Avf Z h0 o kO (.array .long) 3 fo) (hf : fo 0 = .ref x) (V_x : Avf Z h0 x kd .long sz (fun _ => (.long 0))) (hsz : sz.toInt32 = w1) :
    Met l Z n0 (⟨"com/example/bitstrata/bitstrata/bitmap/WorkspaceVectorsPinLaw", "row", "([[JIII)Z"⟩ : MethodName) method_2_code 4 (some .boolean) ws Rm5_3_01 #[(.ref o), (.int (0 : Int32)), (.int (1 : Int32)), (.int w1)] h0 (fun v h => v = some (.int 1) ∧ h0 = h) := by
  refine enter (Ls := #[.val (.ref o), .val (.int (0 : Int32)), .val (.int (1 : Int32)), .val (.int w1)]) (plainFor_of_name pn1) (fun m => by first | (simp [entryFrame, mkF, argsToLocals, Value.category]; done) | rfl) ?_
  intro p e s m below meth c T0 hx hby hml hown hnm hret hlk hZ X0
  show Go p.tables e below _ (T0.setTop (mkF m 0 #[.val (.ref o), .val (.int (0 : Int32)), .val (.int (1 : Int32)), .val (.int w1)] []))
  refine Go.by (fun _ => XS.iloadN X0.here hx rfl (hb hby d5_0) rfl) ?_
  show Go p.tables e below _ (T0.setTop (mkF m 1 #[.val (.ref o), .val (.int (0 : Int32)), .val (.int (1 : Int32)), .val (.int w1)] [(.int (0 : Int32))]))
  refine Go.by (fun _ => XS.iloadN X0.here hx rfl (hb hby d5_1) rfl) ?_
  show Go p.tables e below _ (T0.setTop (mkF m 2 #[.val (.ref o), .val (.int (0 : Int32)), .val (.int (1 : Int32)), .val (.int w1)] [(.int (1 : Int32)), (.int (0 : Int32))]))
  refine Go.by (fun _ => XS.icmpNo X0.here hx rfl (hb hby d5_2) rfl (tlt (by decide)).2.1) ?_
  show Go p.tables e below _ (T0.setTop (mkF m 5 #[.val (.ref o), .val (.int (0 : Int32)), .val (.int (1 : Int32)), .val (.int w1)] []))
  refine Go.by (fun _ => XS.aloadN X0.here hx rfl (hb hby d5_5) rfl rfl) ?_
  show Go p.tables e below _ (T0.setTop (mkF m 6 #[.val (.ref o), .val (.int (0 : Int32)), .val (.int (1 : Int32)), .val (.int w1)] [(.ref o)]))
  refine Go.by (fun _ => XS.iloadN X0.here hx rfl (hb hby d5_6) rfl) ?_
  show Go p.tables e below _ (T0.setTop (mkF m 7 #[.val (.ref o), .val (.int (0 : Int32)), .val (.int (1 : Int32)), .val (.int w1)] [(.int (0 : Int32)), (.ref o)]))
  refine Go.by (X0.ldA hx hZ V_o rfl (by decide) (i := 0) rfl (by decide) (v := (.ref x)) hf (g := (mkF m 7 #[.val (.ref o), .val (.int (0 : Int32)), .val (.int (1 : Int32)), .val (.int w1)] [(.int (0 : Int32)), (.ref o)])) rfl rfl (hb hby d5_7)) ?_
  show Go p.tables e below _ (T0.setTop (mkF m 8 #[.val (.ref o), .val (.int (0 : Int32)), .val (.int (1 : Int32)), .val (.int w1)] [(.ref x)]))
  refine Go.by (fun _ => XS.ifnullNo X0.here hx rfl (hb hby d5_8) rfl) ?_
  show Go p.tables e below _ (T0.setTop (mkF m 11 #[.val (.ref o), .val (.int (0 : Int32)), .val (.int (1 : Int32)), .val (.int w1)] []))
  refine Go.by (fun _ => XS.aloadN X0.here hx rfl (hb hby d5_11) rfl rfl) ?_
  show Go p.tables e below _ (T0.setTop (mkF m 12 #[.val (.ref o), .val (.int (0 : Int32)), .val (.int (1 : Int32)), .val (.int w1)] [(.ref o)]))
  refine Go.by (fun _ => XS.iloadN X0.here hx rfl (hb hby d5_12) rfl) ?_
  show Go p.tables e below _ (T0.setTop (mkF m 13 #[.val (.ref o), .val (.int (0 : Int32)), .val (.int (1 : Int32)), .val (.int w1)] [(.int (0 : Int32)), (.ref o)]))
  refine Go.by (X0.ldA hx hZ V_o rfl (by decide) (i := 0) rfl (by decide) (v := (.ref x)) hf (g := (mkF m 13 #[.val (.ref o), .val (.int (0 : Int32)), .val (.int (1 : Int32)), .val (.int w1)] [(.int (0 : Int32)), (.ref o)])) rfl rfl (hb hby d5_13)) ?_
  show Go p.tables e below _ (T0.setTop (mkF m 14 #[.val (.ref o), .val (.int (0 : Int32)), .val (.int (1 : Int32)), .val (.int w1)] [(.ref x)]))
  refine Go.by (X0.len hx hZ V_x (z := w1) hsz (g := (mkF m 14 #[.val (.ref o), .val (.int (0 : Int32)), .val (.int (1 : Int32)), .val (.int w1)] [(.ref x)])) rfl rfl (hb hby d5_14)) ?_
  show Go p.tables e below _ (T0.setTop (mkF m 15 #[.val (.ref o), .val (.int (0 : Int32)), .val (.int (1 : Int32)), .val (.int w1)] [(.int w1)]))
  refine Go.by (fun _ => XS.iloadN X0.here hx rfl (hb hby d5_15) rfl) ?_
  show Go p.tables e below _ (T0.setTop (mkF m 16 #[.val (.ref o), .val (.int (0 : Int32)), .val (.int (1 : Int32)), .val (.int w1)] [(.int w1), (.int w1)]))
  refine Go.by (fun _ => XS.icmpNo X0.here hx rfl (hb hby d5_16) rfl (teq rfl).2) ?_
  show Go p.tables e below _ (T0.setTop (mkF m 19 #[.val (.ref o), .val (.int (0 : Int32)), .val (.int (1 : Int32)), .val (.int w1)] []))
  refine Go.by (fun _ => XS.iconst X0.here hx rfl (hb hby d5_19)) ?_
  show Go p.tables e below _ (T0.setTop (mkF m 20 #[.val (.ref o), .val (.int (0 : Int32)), .val (.int (1 : Int32)), .val (.int w1)] [(.int (1 : Int32))]))
  refine Go.by (fun _ => XS.goto X0.here hx rfl (pc0 := 20) (pc' := 24) rfl (hb hby d5_20) (by decide) (by decide)) ?_
  show Go p.tables e below _ (T0.setTop (mkF m 24 #[.val (.ref o), .val (.int (0 : Int32)), .val (.int (1 : Int32)), .val (.int w1)] [(.int (1 : Int32))]))
  exact Go.retN X0 hx hlk (z' := (1 : Int32)) hret (by simp) (hb hby d5_24) rfl (by decide) (by decide) ⟨rfl, rfl⟩
abbrev Rm5_3_02 : Room := { frames := 0, cells := 0, slots := 0, locals := 0 }
set_option maxRecDepth 65536 in
set_option maxHeartbeats 40000000 in
theorem rm5_3_02 (l : Launch) (Z : State) (a0 : Array Value) (hw : ∀ d ∈ tables_1, d.before a0 Z = true) (ws : List Jvm.Cond) (o : Addr) (w1 : Int32) (kO kd : ClassId) (fo : Nat → Value) (x : Addr) (sz : Nat) (h0 : Heap) (n0 : Nat) (Z0 : n0 ≤ h0.size) (V_o : Avf Z h0 o kO (.array .long) 3 fo) (hf : fo 0 = .ref x) (V_x : Avf Z h0 x kd .long sz (fun _ => (.long 0))) (hsz : sz.toInt32 = w1) :
    Met l Z n0 (⟨"com/example/bitstrata/bitstrata/bitmap/WorkspaceVectorsPinLaw", "row", "([[JIII)Z"⟩ : MethodName) method_2_code 4 (some .boolean) ws Rm5_3_02 #[(.ref o), (.int (0 : Int32)), (.int (2 : Int32)), (.int w1)] h0 (fun v h => v = some (.int 1) ∧ h0 = h) := by
  refine enter (Ls := #[.val (.ref o), .val (.int (0 : Int32)), .val (.int (2 : Int32)), .val (.int w1)]) (plainFor_of_name pn1) (fun m => by first | (simp [entryFrame, mkF, argsToLocals, Value.category]; done) | rfl) ?_
  intro p e s m below meth c T0 hx hby hml hown hnm hret hlk hZ X0
  show Go p.tables e below _ (T0.setTop (mkF m 0 #[.val (.ref o), .val (.int (0 : Int32)), .val (.int (2 : Int32)), .val (.int w1)] []))
  refine Go.by (fun _ => XS.iloadN X0.here hx rfl (hb hby d5_0) rfl) ?_
  show Go p.tables e below _ (T0.setTop (mkF m 1 #[.val (.ref o), .val (.int (0 : Int32)), .val (.int (2 : Int32)), .val (.int w1)] [(.int (0 : Int32))]))
  refine Go.by (fun _ => XS.iloadN X0.here hx rfl (hb hby d5_1) rfl) ?_
  show Go p.tables e below _ (T0.setTop (mkF m 2 #[.val (.ref o), .val (.int (0 : Int32)), .val (.int (2 : Int32)), .val (.int w1)] [(.int (2 : Int32)), (.int (0 : Int32))]))
  refine Go.by (fun _ => XS.icmpNo X0.here hx rfl (hb hby d5_2) rfl (tlt (by decide)).2.1) ?_
  show Go p.tables e below _ (T0.setTop (mkF m 5 #[.val (.ref o), .val (.int (0 : Int32)), .val (.int (2 : Int32)), .val (.int w1)] []))
  refine Go.by (fun _ => XS.aloadN X0.here hx rfl (hb hby d5_5) rfl rfl) ?_
  show Go p.tables e below _ (T0.setTop (mkF m 6 #[.val (.ref o), .val (.int (0 : Int32)), .val (.int (2 : Int32)), .val (.int w1)] [(.ref o)]))
  refine Go.by (fun _ => XS.iloadN X0.here hx rfl (hb hby d5_6) rfl) ?_
  show Go p.tables e below _ (T0.setTop (mkF m 7 #[.val (.ref o), .val (.int (0 : Int32)), .val (.int (2 : Int32)), .val (.int w1)] [(.int (0 : Int32)), (.ref o)]))
  refine Go.by (X0.ldA hx hZ V_o rfl (by decide) (i := 0) rfl (by decide) (v := (.ref x)) hf (g := (mkF m 7 #[.val (.ref o), .val (.int (0 : Int32)), .val (.int (2 : Int32)), .val (.int w1)] [(.int (0 : Int32)), (.ref o)])) rfl rfl (hb hby d5_7)) ?_
  show Go p.tables e below _ (T0.setTop (mkF m 8 #[.val (.ref o), .val (.int (0 : Int32)), .val (.int (2 : Int32)), .val (.int w1)] [(.ref x)]))
  refine Go.by (fun _ => XS.ifnullNo X0.here hx rfl (hb hby d5_8) rfl) ?_
  show Go p.tables e below _ (T0.setTop (mkF m 11 #[.val (.ref o), .val (.int (0 : Int32)), .val (.int (2 : Int32)), .val (.int w1)] []))
  refine Go.by (fun _ => XS.aloadN X0.here hx rfl (hb hby d5_11) rfl rfl) ?_
  show Go p.tables e below _ (T0.setTop (mkF m 12 #[.val (.ref o), .val (.int (0 : Int32)), .val (.int (2 : Int32)), .val (.int w1)] [(.ref o)]))
  refine Go.by (fun _ => XS.iloadN X0.here hx rfl (hb hby d5_12) rfl) ?_
  show Go p.tables e below _ (T0.setTop (mkF m 13 #[.val (.ref o), .val (.int (0 : Int32)), .val (.int (2 : Int32)), .val (.int w1)] [(.int (0 : Int32)), (.ref o)]))
  refine Go.by (X0.ldA hx hZ V_o rfl (by decide) (i := 0) rfl (by decide) (v := (.ref x)) hf (g := (mkF m 13 #[.val (.ref o), .val (.int (0 : Int32)), .val (.int (2 : Int32)), .val (.int w1)] [(.int (0 : Int32)), (.ref o)])) rfl rfl (hb hby d5_13)) ?_
  show Go p.tables e below _ (T0.setTop (mkF m 14 #[.val (.ref o), .val (.int (0 : Int32)), .val (.int (2 : Int32)), .val (.int w1)] [(.ref x)]))
  refine Go.by (X0.len hx hZ V_x (z := w1) hsz (g := (mkF m 14 #[.val (.ref o), .val (.int (0 : Int32)), .val (.int (2 : Int32)), .val (.int w1)] [(.ref x)])) rfl rfl (hb hby d5_14)) ?_
  show Go p.tables e below _ (T0.setTop (mkF m 15 #[.val (.ref o), .val (.int (0 : Int32)), .val (.int (2 : Int32)), .val (.int w1)] [(.int w1)]))
  refine Go.by (fun _ => XS.iloadN X0.here hx rfl (hb hby d5_15) rfl) ?_
  show Go p.tables e below _ (T0.setTop (mkF m 16 #[.val (.ref o), .val (.int (0 : Int32)), .val (.int (2 : Int32)), .val (.int w1)] [(.int w1), (.int w1)]))
  refine Go.by (fun _ => XS.icmpNo X0.here hx rfl (hb hby d5_16) rfl (teq rfl).2) ?_
  show Go p.tables e below _ (T0.setTop (mkF m 19 #[.val (.ref o), .val (.int (0 : Int32)), .val (.int (2 : Int32)), .val (.int w1)] []))
  refine Go.by (fun _ => XS.iconst X0.here hx rfl (hb hby d5_19)) ?_
  show Go p.tables e below _ (T0.setTop (mkF m 20 #[.val (.ref o), .val (.int (0 : Int32)), .val (.int (2 : Int32)), .val (.int w1)] [(.int (1 : Int32))]))
  refine Go.by (fun _ => XS.goto X0.here hx rfl (pc0 := 20) (pc' := 24) rfl (hb hby d5_20) (by decide) (by decide)) ?_
  show Go p.tables e below _ (T0.setTop (mkF m 24 #[.val (.ref o), .val (.int (0 : Int32)), .val (.int (2 : Int32)), .val (.int w1)] [(.int (1 : Int32))]))
  exact Go.retN X0 hx hlk (z' := (1 : Int32)) hret (by simp) (hb hby d5_24) rfl (by decide) (by decide) ⟨rfl, rfl⟩
abbrev Rm5_3_12 : Room := { frames := 0, cells := 0, slots := 0, locals := 0 }
set_option maxRecDepth 65536 in
set_option maxHeartbeats 40000000 in
theorem rm5_3_12 (l : Launch) (Z : State) (a0 : Array Value) (hw : ∀ d ∈ tables_1, d.before a0 Z = true) (ws : List Jvm.Cond) (o : Addr) (w1 : Int32) (kO kd : ClassId) (fo : Nat → Value) (x : Addr) (sz : Nat) (h0 : Heap) (n0 : Nat) (Z0 : n0 ≤ h0.size) (V_o : Avf Z h0 o kO (.array .long) 3 fo) (hf : fo 1 = .ref x) (V_x : Avf Z h0 x kd .long sz (fun _ => (.long 0))) (hsz : sz.toInt32 = w1) :
    Met l Z n0 (⟨"com/example/bitstrata/bitstrata/bitmap/WorkspaceVectorsPinLaw", "row", "([[JIII)Z"⟩ : MethodName) method_2_code 4 (some .boolean) ws Rm5_3_12 #[(.ref o), (.int (1 : Int32)), (.int (2 : Int32)), (.int w1)] h0 (fun v h => v = some (.int 1) ∧ h0 = h) := by
  refine enter (Ls := #[.val (.ref o), .val (.int (1 : Int32)), .val (.int (2 : Int32)), .val (.int w1)]) (plainFor_of_name pn1) (fun m => by first | (simp [entryFrame, mkF, argsToLocals, Value.category]; done) | rfl) ?_
  intro p e s m below meth c T0 hx hby hml hown hnm hret hlk hZ X0
  show Go p.tables e below _ (T0.setTop (mkF m 0 #[.val (.ref o), .val (.int (1 : Int32)), .val (.int (2 : Int32)), .val (.int w1)] []))
  refine Go.by (fun _ => XS.iloadN X0.here hx rfl (hb hby d5_0) rfl) ?_
  show Go p.tables e below _ (T0.setTop (mkF m 1 #[.val (.ref o), .val (.int (1 : Int32)), .val (.int (2 : Int32)), .val (.int w1)] [(.int (1 : Int32))]))
  refine Go.by (fun _ => XS.iloadN X0.here hx rfl (hb hby d5_1) rfl) ?_
  show Go p.tables e below _ (T0.setTop (mkF m 2 #[.val (.ref o), .val (.int (1 : Int32)), .val (.int (2 : Int32)), .val (.int w1)] [(.int (2 : Int32)), (.int (1 : Int32))]))
  refine Go.by (fun _ => XS.icmpNo X0.here hx rfl (hb hby d5_2) rfl (tlt (by decide)).2.1) ?_
  show Go p.tables e below _ (T0.setTop (mkF m 5 #[.val (.ref o), .val (.int (1 : Int32)), .val (.int (2 : Int32)), .val (.int w1)] []))
  refine Go.by (fun _ => XS.aloadN X0.here hx rfl (hb hby d5_5) rfl rfl) ?_
  show Go p.tables e below _ (T0.setTop (mkF m 6 #[.val (.ref o), .val (.int (1 : Int32)), .val (.int (2 : Int32)), .val (.int w1)] [(.ref o)]))
  refine Go.by (fun _ => XS.iloadN X0.here hx rfl (hb hby d5_6) rfl) ?_
  show Go p.tables e below _ (T0.setTop (mkF m 7 #[.val (.ref o), .val (.int (1 : Int32)), .val (.int (2 : Int32)), .val (.int w1)] [(.int (1 : Int32)), (.ref o)]))
  refine Go.by (X0.ldA hx hZ V_o rfl (by decide) (i := 1) rfl (by decide) (v := (.ref x)) hf (g := (mkF m 7 #[.val (.ref o), .val (.int (1 : Int32)), .val (.int (2 : Int32)), .val (.int w1)] [(.int (1 : Int32)), (.ref o)])) rfl rfl (hb hby d5_7)) ?_
  show Go p.tables e below _ (T0.setTop (mkF m 8 #[.val (.ref o), .val (.int (1 : Int32)), .val (.int (2 : Int32)), .val (.int w1)] [(.ref x)]))
  refine Go.by (fun _ => XS.ifnullNo X0.here hx rfl (hb hby d5_8) rfl) ?_
  show Go p.tables e below _ (T0.setTop (mkF m 11 #[.val (.ref o), .val (.int (1 : Int32)), .val (.int (2 : Int32)), .val (.int w1)] []))
  refine Go.by (fun _ => XS.aloadN X0.here hx rfl (hb hby d5_11) rfl rfl) ?_
  show Go p.tables e below _ (T0.setTop (mkF m 12 #[.val (.ref o), .val (.int (1 : Int32)), .val (.int (2 : Int32)), .val (.int w1)] [(.ref o)]))
  refine Go.by (fun _ => XS.iloadN X0.here hx rfl (hb hby d5_12) rfl) ?_
  show Go p.tables e below _ (T0.setTop (mkF m 13 #[.val (.ref o), .val (.int (1 : Int32)), .val (.int (2 : Int32)), .val (.int w1)] [(.int (1 : Int32)), (.ref o)]))
  refine Go.by (X0.ldA hx hZ V_o rfl (by decide) (i := 1) rfl (by decide) (v := (.ref x)) hf (g := (mkF m 13 #[.val (.ref o), .val (.int (1 : Int32)), .val (.int (2 : Int32)), .val (.int w1)] [(.int (1 : Int32)), (.ref o)])) rfl rfl (hb hby d5_13)) ?_
  show Go p.tables e below _ (T0.setTop (mkF m 14 #[.val (.ref o), .val (.int (1 : Int32)), .val (.int (2 : Int32)), .val (.int w1)] [(.ref x)]))
  refine Go.by (X0.len hx hZ V_x (z := w1) hsz (g := (mkF m 14 #[.val (.ref o), .val (.int (1 : Int32)), .val (.int (2 : Int32)), .val (.int w1)] [(.ref x)])) rfl rfl (hb hby d5_14)) ?_
  show Go p.tables e below _ (T0.setTop (mkF m 15 #[.val (.ref o), .val (.int (1 : Int32)), .val (.int (2 : Int32)), .val (.int w1)] [(.int w1)]))
  refine Go.by (fun _ => XS.iloadN X0.here hx rfl (hb hby d5_15) rfl) ?_
  show Go p.tables e below _ (T0.setTop (mkF m 16 #[.val (.ref o), .val (.int (1 : Int32)), .val (.int (2 : Int32)), .val (.int w1)] [(.int w1), (.int w1)]))
  refine Go.by (fun _ => XS.icmpNo X0.here hx rfl (hb hby d5_16) rfl (teq rfl).2) ?_
  show Go p.tables e below _ (T0.setTop (mkF m 19 #[.val (.ref o), .val (.int (1 : Int32)), .val (.int (2 : Int32)), .val (.int w1)] []))
  refine Go.by (fun _ => XS.iconst X0.here hx rfl (hb hby d5_19)) ?_
  show Go p.tables e below _ (T0.setTop (mkF m 20 #[.val (.ref o), .val (.int (1 : Int32)), .val (.int (2 : Int32)), .val (.int w1)] [(.int (1 : Int32))]))
  refine Go.by (fun _ => XS.goto X0.here hx rfl (pc0 := 20) (pc' := 24) rfl (hb hby d5_20) (by decide) (by decide)) ?_
  show Go p.tables e below _ (T0.setTop (mkF m 24 #[.val (.ref o), .val (.int (1 : Int32)), .val (.int (2 : Int32)), .val (.int w1)] [(.int (1 : Int32))]))
  exact Go.retN X0 hx hlk (z' := (1 : Int32)) hret (by simp) (hb hby d5_24) rfl (by decide) (by decide) ⟨rfl, rfl⟩
abbrev Rm5_3_03 : Room := { frames := 0, cells := 0, slots := 0, locals := 0 }
set_option maxRecDepth 65536 in
set_option maxHeartbeats 40000000 in
theorem rm5_3_03 (l : Launch) (Z : State) (a0 : Array Value) (hw : ∀ d ∈ tables_1, d.before a0 Z = true) (ws : List Jvm.Cond) (o : Addr) (w1 : Int32) (kO kd : ClassId) (fo : Nat → Value) (x : Addr) (sz : Nat) (h0 : Heap) (n0 : Nat) (Z0 : n0 ≤ h0.size) (V_o : Avf Z h0 o kO (.array .long) 3 fo) (hf : fo 0 = .ref x) (V_x : Avf Z h0 x kd .long sz (fun _ => (.long 0))) (hsz : sz.toInt32 = w1) :
    Met l Z n0 (⟨"com/example/bitstrata/bitstrata/bitmap/WorkspaceVectorsPinLaw", "row", "([[JIII)Z"⟩ : MethodName) method_2_code 4 (some .boolean) ws Rm5_3_03 #[(.ref o), (.int (0 : Int32)), (.int (3 : Int32)), (.int w1)] h0 (fun v h => v = some (.int 1) ∧ h0 = h) := by
  refine enter (Ls := #[.val (.ref o), .val (.int (0 : Int32)), .val (.int (3 : Int32)), .val (.int w1)]) (plainFor_of_name pn1) (fun m => by first | (simp [entryFrame, mkF, argsToLocals, Value.category]; done) | rfl) ?_
  intro p e s m below meth c T0 hx hby hml hown hnm hret hlk hZ X0
  show Go p.tables e below _ (T0.setTop (mkF m 0 #[.val (.ref o), .val (.int (0 : Int32)), .val (.int (3 : Int32)), .val (.int w1)] []))
  refine Go.by (fun _ => XS.iloadN X0.here hx rfl (hb hby d5_0) rfl) ?_
  show Go p.tables e below _ (T0.setTop (mkF m 1 #[.val (.ref o), .val (.int (0 : Int32)), .val (.int (3 : Int32)), .val (.int w1)] [(.int (0 : Int32))]))
  refine Go.by (fun _ => XS.iloadN X0.here hx rfl (hb hby d5_1) rfl) ?_
  show Go p.tables e below _ (T0.setTop (mkF m 2 #[.val (.ref o), .val (.int (0 : Int32)), .val (.int (3 : Int32)), .val (.int w1)] [(.int (3 : Int32)), (.int (0 : Int32))]))
  refine Go.by (fun _ => XS.icmpNo X0.here hx rfl (hb hby d5_2) rfl (tlt (by decide)).2.1) ?_
  show Go p.tables e below _ (T0.setTop (mkF m 5 #[.val (.ref o), .val (.int (0 : Int32)), .val (.int (3 : Int32)), .val (.int w1)] []))
  refine Go.by (fun _ => XS.aloadN X0.here hx rfl (hb hby d5_5) rfl rfl) ?_
  show Go p.tables e below _ (T0.setTop (mkF m 6 #[.val (.ref o), .val (.int (0 : Int32)), .val (.int (3 : Int32)), .val (.int w1)] [(.ref o)]))
  refine Go.by (fun _ => XS.iloadN X0.here hx rfl (hb hby d5_6) rfl) ?_
  show Go p.tables e below _ (T0.setTop (mkF m 7 #[.val (.ref o), .val (.int (0 : Int32)), .val (.int (3 : Int32)), .val (.int w1)] [(.int (0 : Int32)), (.ref o)]))
  refine Go.by (X0.ldA hx hZ V_o rfl (by decide) (i := 0) rfl (by decide) (v := (.ref x)) hf (g := (mkF m 7 #[.val (.ref o), .val (.int (0 : Int32)), .val (.int (3 : Int32)), .val (.int w1)] [(.int (0 : Int32)), (.ref o)])) rfl rfl (hb hby d5_7)) ?_
  show Go p.tables e below _ (T0.setTop (mkF m 8 #[.val (.ref o), .val (.int (0 : Int32)), .val (.int (3 : Int32)), .val (.int w1)] [(.ref x)]))
  refine Go.by (fun _ => XS.ifnullNo X0.here hx rfl (hb hby d5_8) rfl) ?_
  show Go p.tables e below _ (T0.setTop (mkF m 11 #[.val (.ref o), .val (.int (0 : Int32)), .val (.int (3 : Int32)), .val (.int w1)] []))
  refine Go.by (fun _ => XS.aloadN X0.here hx rfl (hb hby d5_11) rfl rfl) ?_
  show Go p.tables e below _ (T0.setTop (mkF m 12 #[.val (.ref o), .val (.int (0 : Int32)), .val (.int (3 : Int32)), .val (.int w1)] [(.ref o)]))
  refine Go.by (fun _ => XS.iloadN X0.here hx rfl (hb hby d5_12) rfl) ?_
  show Go p.tables e below _ (T0.setTop (mkF m 13 #[.val (.ref o), .val (.int (0 : Int32)), .val (.int (3 : Int32)), .val (.int w1)] [(.int (0 : Int32)), (.ref o)]))
  refine Go.by (X0.ldA hx hZ V_o rfl (by decide) (i := 0) rfl (by decide) (v := (.ref x)) hf (g := (mkF m 13 #[.val (.ref o), .val (.int (0 : Int32)), .val (.int (3 : Int32)), .val (.int w1)] [(.int (0 : Int32)), (.ref o)])) rfl rfl (hb hby d5_13)) ?_
  show Go p.tables e below _ (T0.setTop (mkF m 14 #[.val (.ref o), .val (.int (0 : Int32)), .val (.int (3 : Int32)), .val (.int w1)] [(.ref x)]))
  refine Go.by (X0.len hx hZ V_x (z := w1) hsz (g := (mkF m 14 #[.val (.ref o), .val (.int (0 : Int32)), .val (.int (3 : Int32)), .val (.int w1)] [(.ref x)])) rfl rfl (hb hby d5_14)) ?_
  show Go p.tables e below _ (T0.setTop (mkF m 15 #[.val (.ref o), .val (.int (0 : Int32)), .val (.int (3 : Int32)), .val (.int w1)] [(.int w1)]))
  refine Go.by (fun _ => XS.iloadN X0.here hx rfl (hb hby d5_15) rfl) ?_
  show Go p.tables e below _ (T0.setTop (mkF m 16 #[.val (.ref o), .val (.int (0 : Int32)), .val (.int (3 : Int32)), .val (.int w1)] [(.int w1), (.int w1)]))
  refine Go.by (fun _ => XS.icmpNo X0.here hx rfl (hb hby d5_16) rfl (teq rfl).2) ?_
  show Go p.tables e below _ (T0.setTop (mkF m 19 #[.val (.ref o), .val (.int (0 : Int32)), .val (.int (3 : Int32)), .val (.int w1)] []))
  refine Go.by (fun _ => XS.iconst X0.here hx rfl (hb hby d5_19)) ?_
  show Go p.tables e below _ (T0.setTop (mkF m 20 #[.val (.ref o), .val (.int (0 : Int32)), .val (.int (3 : Int32)), .val (.int w1)] [(.int (1 : Int32))]))
  refine Go.by (fun _ => XS.goto X0.here hx rfl (pc0 := 20) (pc' := 24) rfl (hb hby d5_20) (by decide) (by decide)) ?_
  show Go p.tables e below _ (T0.setTop (mkF m 24 #[.val (.ref o), .val (.int (0 : Int32)), .val (.int (3 : Int32)), .val (.int w1)] [(.int (1 : Int32))]))
  exact Go.retN X0 hx hlk (z' := (1 : Int32)) hret (by simp) (hb hby d5_24) rfl (by decide) (by decide) ⟨rfl, rfl⟩
abbrev Rm5_3_13 : Room := { frames := 0, cells := 0, slots := 0, locals := 0 }
set_option maxRecDepth 65536 in
set_option maxHeartbeats 40000000 in
theorem rm5_3_13 (l : Launch) (Z : State) (a0 : Array Value) (hw : ∀ d ∈ tables_1, d.before a0 Z = true) (ws : List Jvm.Cond) (o : Addr) (w1 : Int32) (kO kd : ClassId) (fo : Nat → Value) (x : Addr) (sz : Nat) (h0 : Heap) (n0 : Nat) (Z0 : n0 ≤ h0.size) (V_o : Avf Z h0 o kO (.array .long) 3 fo) (hf : fo 1 = .ref x) (V_x : Avf Z h0 x kd .long sz (fun _ => (.long 0))) (hsz : sz.toInt32 = w1) :
    Met l Z n0 (⟨"com/example/bitstrata/bitstrata/bitmap/WorkspaceVectorsPinLaw", "row", "([[JIII)Z"⟩ : MethodName) method_2_code 4 (some .boolean) ws Rm5_3_13 #[(.ref o), (.int (1 : Int32)), (.int (3 : Int32)), (.int w1)] h0 (fun v h => v = some (.int 1) ∧ h0 = h) := by
  refine enter (Ls := #[.val (.ref o), .val (.int (1 : Int32)), .val (.int (3 : Int32)), .val (.int w1)]) (plainFor_of_name pn1) (fun m => by first | (simp [entryFrame, mkF, argsToLocals, Value.category]; done) | rfl) ?_
  intro p e s m below meth c T0 hx hby hml hown hnm hret hlk hZ X0
  show Go p.tables e below _ (T0.setTop (mkF m 0 #[.val (.ref o), .val (.int (1 : Int32)), .val (.int (3 : Int32)), .val (.int w1)] []))
  refine Go.by (fun _ => XS.iloadN X0.here hx rfl (hb hby d5_0) rfl) ?_
  show Go p.tables e below _ (T0.setTop (mkF m 1 #[.val (.ref o), .val (.int (1 : Int32)), .val (.int (3 : Int32)), .val (.int w1)] [(.int (1 : Int32))]))
  refine Go.by (fun _ => XS.iloadN X0.here hx rfl (hb hby d5_1) rfl) ?_
  show Go p.tables e below _ (T0.setTop (mkF m 2 #[.val (.ref o), .val (.int (1 : Int32)), .val (.int (3 : Int32)), .val (.int w1)] [(.int (3 : Int32)), (.int (1 : Int32))]))
  refine Go.by (fun _ => XS.icmpNo X0.here hx rfl (hb hby d5_2) rfl (tlt (by decide)).2.1) ?_
  show Go p.tables e below _ (T0.setTop (mkF m 5 #[.val (.ref o), .val (.int (1 : Int32)), .val (.int (3 : Int32)), .val (.int w1)] []))
  refine Go.by (fun _ => XS.aloadN X0.here hx rfl (hb hby d5_5) rfl rfl) ?_
  show Go p.tables e below _ (T0.setTop (mkF m 6 #[.val (.ref o), .val (.int (1 : Int32)), .val (.int (3 : Int32)), .val (.int w1)] [(.ref o)]))
  refine Go.by (fun _ => XS.iloadN X0.here hx rfl (hb hby d5_6) rfl) ?_
  show Go p.tables e below _ (T0.setTop (mkF m 7 #[.val (.ref o), .val (.int (1 : Int32)), .val (.int (3 : Int32)), .val (.int w1)] [(.int (1 : Int32)), (.ref o)]))
  refine Go.by (X0.ldA hx hZ V_o rfl (by decide) (i := 1) rfl (by decide) (v := (.ref x)) hf (g := (mkF m 7 #[.val (.ref o), .val (.int (1 : Int32)), .val (.int (3 : Int32)), .val (.int w1)] [(.int (1 : Int32)), (.ref o)])) rfl rfl (hb hby d5_7)) ?_
  show Go p.tables e below _ (T0.setTop (mkF m 8 #[.val (.ref o), .val (.int (1 : Int32)), .val (.int (3 : Int32)), .val (.int w1)] [(.ref x)]))
  refine Go.by (fun _ => XS.ifnullNo X0.here hx rfl (hb hby d5_8) rfl) ?_
  show Go p.tables e below _ (T0.setTop (mkF m 11 #[.val (.ref o), .val (.int (1 : Int32)), .val (.int (3 : Int32)), .val (.int w1)] []))
  refine Go.by (fun _ => XS.aloadN X0.here hx rfl (hb hby d5_11) rfl rfl) ?_
  show Go p.tables e below _ (T0.setTop (mkF m 12 #[.val (.ref o), .val (.int (1 : Int32)), .val (.int (3 : Int32)), .val (.int w1)] [(.ref o)]))
  refine Go.by (fun _ => XS.iloadN X0.here hx rfl (hb hby d5_12) rfl) ?_
  show Go p.tables e below _ (T0.setTop (mkF m 13 #[.val (.ref o), .val (.int (1 : Int32)), .val (.int (3 : Int32)), .val (.int w1)] [(.int (1 : Int32)), (.ref o)]))
  refine Go.by (X0.ldA hx hZ V_o rfl (by decide) (i := 1) rfl (by decide) (v := (.ref x)) hf (g := (mkF m 13 #[.val (.ref o), .val (.int (1 : Int32)), .val (.int (3 : Int32)), .val (.int w1)] [(.int (1 : Int32)), (.ref o)])) rfl rfl (hb hby d5_13)) ?_
  show Go p.tables e below _ (T0.setTop (mkF m 14 #[.val (.ref o), .val (.int (1 : Int32)), .val (.int (3 : Int32)), .val (.int w1)] [(.ref x)]))
  refine Go.by (X0.len hx hZ V_x (z := w1) hsz (g := (mkF m 14 #[.val (.ref o), .val (.int (1 : Int32)), .val (.int (3 : Int32)), .val (.int w1)] [(.ref x)])) rfl rfl (hb hby d5_14)) ?_
  show Go p.tables e below _ (T0.setTop (mkF m 15 #[.val (.ref o), .val (.int (1 : Int32)), .val (.int (3 : Int32)), .val (.int w1)] [(.int w1)]))
  refine Go.by (fun _ => XS.iloadN X0.here hx rfl (hb hby d5_15) rfl) ?_
  show Go p.tables e below _ (T0.setTop (mkF m 16 #[.val (.ref o), .val (.int (1 : Int32)), .val (.int (3 : Int32)), .val (.int w1)] [(.int w1), (.int w1)]))
  refine Go.by (fun _ => XS.icmpNo X0.here hx rfl (hb hby d5_16) rfl (teq rfl).2) ?_
  show Go p.tables e below _ (T0.setTop (mkF m 19 #[.val (.ref o), .val (.int (1 : Int32)), .val (.int (3 : Int32)), .val (.int w1)] []))
  refine Go.by (fun _ => XS.iconst X0.here hx rfl (hb hby d5_19)) ?_
  show Go p.tables e below _ (T0.setTop (mkF m 20 #[.val (.ref o), .val (.int (1 : Int32)), .val (.int (3 : Int32)), .val (.int w1)] [(.int (1 : Int32))]))
  refine Go.by (fun _ => XS.goto X0.here hx rfl (pc0 := 20) (pc' := 24) rfl (hb hby d5_20) (by decide) (by decide)) ?_
  show Go p.tables e below _ (T0.setTop (mkF m 24 #[.val (.ref o), .val (.int (1 : Int32)), .val (.int (3 : Int32)), .val (.int w1)] [(.int (1 : Int32))]))
  exact Go.retN X0 hx hlk (z' := (1 : Int32)) hret (by simp) (hb hby d5_24) rfl (by decide) (by decide) ⟨rfl, rfl⟩
abbrev Rm5_3_23 : Room := { frames := 0, cells := 0, slots := 0, locals := 0 }
set_option maxRecDepth 65536 in
set_option maxHeartbeats 40000000 in
theorem rm5_3_23 (l : Launch) (Z : State) (a0 : Array Value) (hw : ∀ d ∈ tables_1, d.before a0 Z = true) (ws : List Jvm.Cond) (o : Addr) (w1 : Int32) (kO kd : ClassId) (fo : Nat → Value) (x : Addr) (sz : Nat) (h0 : Heap) (n0 : Nat) (Z0 : n0 ≤ h0.size) (V_o : Avf Z h0 o kO (.array .long) 3 fo) (hf : fo 2 = .ref x) (V_x : Avf Z h0 x kd .long sz (fun _ => (.long 0))) (hsz : sz.toInt32 = w1) :
    Met l Z n0 (⟨"com/example/bitstrata/bitstrata/bitmap/WorkspaceVectorsPinLaw", "row", "([[JIII)Z"⟩ : MethodName) method_2_code 4 (some .boolean) ws Rm5_3_23 #[(.ref o), (.int (2 : Int32)), (.int (3 : Int32)), (.int w1)] h0 (fun v h => v = some (.int 1) ∧ h0 = h) := by
  refine enter (Ls := #[.val (.ref o), .val (.int (2 : Int32)), .val (.int (3 : Int32)), .val (.int w1)]) (plainFor_of_name pn1) (fun m => by first | (simp [entryFrame, mkF, argsToLocals, Value.category]; done) | rfl) ?_
  intro p e s m below meth c T0 hx hby hml hown hnm hret hlk hZ X0
  show Go p.tables e below _ (T0.setTop (mkF m 0 #[.val (.ref o), .val (.int (2 : Int32)), .val (.int (3 : Int32)), .val (.int w1)] []))
  refine Go.by (fun _ => XS.iloadN X0.here hx rfl (hb hby d5_0) rfl) ?_
  show Go p.tables e below _ (T0.setTop (mkF m 1 #[.val (.ref o), .val (.int (2 : Int32)), .val (.int (3 : Int32)), .val (.int w1)] [(.int (2 : Int32))]))
  refine Go.by (fun _ => XS.iloadN X0.here hx rfl (hb hby d5_1) rfl) ?_
  show Go p.tables e below _ (T0.setTop (mkF m 2 #[.val (.ref o), .val (.int (2 : Int32)), .val (.int (3 : Int32)), .val (.int w1)] [(.int (3 : Int32)), (.int (2 : Int32))]))
  refine Go.by (fun _ => XS.icmpNo X0.here hx rfl (hb hby d5_2) rfl (tlt (by decide)).2.1) ?_
  show Go p.tables e below _ (T0.setTop (mkF m 5 #[.val (.ref o), .val (.int (2 : Int32)), .val (.int (3 : Int32)), .val (.int w1)] []))
  refine Go.by (fun _ => XS.aloadN X0.here hx rfl (hb hby d5_5) rfl rfl) ?_
  show Go p.tables e below _ (T0.setTop (mkF m 6 #[.val (.ref o), .val (.int (2 : Int32)), .val (.int (3 : Int32)), .val (.int w1)] [(.ref o)]))
  refine Go.by (fun _ => XS.iloadN X0.here hx rfl (hb hby d5_6) rfl) ?_
  show Go p.tables e below _ (T0.setTop (mkF m 7 #[.val (.ref o), .val (.int (2 : Int32)), .val (.int (3 : Int32)), .val (.int w1)] [(.int (2 : Int32)), (.ref o)]))
  refine Go.by (X0.ldA hx hZ V_o rfl (by decide) (i := 2) rfl (by decide) (v := (.ref x)) hf (g := (mkF m 7 #[.val (.ref o), .val (.int (2 : Int32)), .val (.int (3 : Int32)), .val (.int w1)] [(.int (2 : Int32)), (.ref o)])) rfl rfl (hb hby d5_7)) ?_
  show Go p.tables e below _ (T0.setTop (mkF m 8 #[.val (.ref o), .val (.int (2 : Int32)), .val (.int (3 : Int32)), .val (.int w1)] [(.ref x)]))
  refine Go.by (fun _ => XS.ifnullNo X0.here hx rfl (hb hby d5_8) rfl) ?_
  show Go p.tables e below _ (T0.setTop (mkF m 11 #[.val (.ref o), .val (.int (2 : Int32)), .val (.int (3 : Int32)), .val (.int w1)] []))
  refine Go.by (fun _ => XS.aloadN X0.here hx rfl (hb hby d5_11) rfl rfl) ?_
  show Go p.tables e below _ (T0.setTop (mkF m 12 #[.val (.ref o), .val (.int (2 : Int32)), .val (.int (3 : Int32)), .val (.int w1)] [(.ref o)]))
  refine Go.by (fun _ => XS.iloadN X0.here hx rfl (hb hby d5_12) rfl) ?_
  show Go p.tables e below _ (T0.setTop (mkF m 13 #[.val (.ref o), .val (.int (2 : Int32)), .val (.int (3 : Int32)), .val (.int w1)] [(.int (2 : Int32)), (.ref o)]))
  refine Go.by (X0.ldA hx hZ V_o rfl (by decide) (i := 2) rfl (by decide) (v := (.ref x)) hf (g := (mkF m 13 #[.val (.ref o), .val (.int (2 : Int32)), .val (.int (3 : Int32)), .val (.int w1)] [(.int (2 : Int32)), (.ref o)])) rfl rfl (hb hby d5_13)) ?_
  show Go p.tables e below _ (T0.setTop (mkF m 14 #[.val (.ref o), .val (.int (2 : Int32)), .val (.int (3 : Int32)), .val (.int w1)] [(.ref x)]))
  refine Go.by (X0.len hx hZ V_x (z := w1) hsz (g := (mkF m 14 #[.val (.ref o), .val (.int (2 : Int32)), .val (.int (3 : Int32)), .val (.int w1)] [(.ref x)])) rfl rfl (hb hby d5_14)) ?_
  show Go p.tables e below _ (T0.setTop (mkF m 15 #[.val (.ref o), .val (.int (2 : Int32)), .val (.int (3 : Int32)), .val (.int w1)] [(.int w1)]))
  refine Go.by (fun _ => XS.iloadN X0.here hx rfl (hb hby d5_15) rfl) ?_
  show Go p.tables e below _ (T0.setTop (mkF m 16 #[.val (.ref o), .val (.int (2 : Int32)), .val (.int (3 : Int32)), .val (.int w1)] [(.int w1), (.int w1)]))
  refine Go.by (fun _ => XS.icmpNo X0.here hx rfl (hb hby d5_16) rfl (teq rfl).2) ?_
  show Go p.tables e below _ (T0.setTop (mkF m 19 #[.val (.ref o), .val (.int (2 : Int32)), .val (.int (3 : Int32)), .val (.int w1)] []))
  refine Go.by (fun _ => XS.iconst X0.here hx rfl (hb hby d5_19)) ?_
  show Go p.tables e below _ (T0.setTop (mkF m 20 #[.val (.ref o), .val (.int (2 : Int32)), .val (.int (3 : Int32)), .val (.int w1)] [(.int (1 : Int32))]))
  refine Go.by (fun _ => XS.goto X0.here hx rfl (pc0 := 20) (pc' := 24) rfl (hb hby d5_20) (by decide) (by decide)) ?_
  show Go p.tables e below _ (T0.setTop (mkF m 24 #[.val (.ref o), .val (.int (2 : Int32)), .val (.int (3 : Int32)), .val (.int w1)] [(.int (1 : Int32))]))
  exact Go.retN X0 hx hlk (z' := (1 : Int32)) hret (by simp) (hb hby d5_24) rfl (by decide) (by decide) ⟨rfl, rfl⟩
theorem d4_0 : decode method_3_code 0 = .ok (.aload_n 0, 1) := by decide +kernel
theorem d4_1 : decode method_3_code 1 = .ok (.ifnull 9, 3) := by decide +kernel
theorem d4_4 : decode method_3_code 4 = .ok (.aload_n 0, 1) := by decide +kernel
theorem d4_5 : decode method_3_code 5 = .ok (.arraylength, 1) := by decide +kernel
theorem d4_6 : decode method_3_code 6 = .ok (.iload_n 1, 1) := by decide +kernel
theorem d4_7 : decode method_3_code 7 = .ok (.if_icmp .ge 5, 3) := by decide +kernel
theorem d4_12 : decode method_3_code 12 = .ok (.aload_n 0, 1) := by decide +kernel
theorem d4_13 : decode method_3_code 13 = .ok (.iconst 0, 1) := by decide +kernel
theorem d4_14 : decode method_3_code 14 = .ok (.iload_n 1, 1) := by decide +kernel
theorem d4_15 : decode method_3_code 15 = .ok (.iload_n 2, 1) := by decide +kernel
theorem d4_16 : decode method_3_code 16 = .ok (.invokestatic 7, 3) := by decide +kernel
theorem pd0 : parseMethodDescriptor "([[JIII)Z" = some ⟨[(.array (.array .long)), .int, .int, .int], some .boolean⟩ := by decide +kernel
theorem d4_19 : decode method_3_code 19 = .ok (.ifCond .eq 23, 3) := by decide +kernel
theorem d4_22 : decode method_3_code 22 = .ok (.aload_n 0, 1) := by decide +kernel
theorem d4_23 : decode method_3_code 23 = .ok (.iconst 1, 1) := by decide +kernel
theorem d4_24 : decode method_3_code 24 = .ok (.iload_n 1, 1) := by decide +kernel
theorem d4_25 : decode method_3_code 25 = .ok (.iload_n 2, 1) := by decide +kernel
theorem d4_26 : decode method_3_code 26 = .ok (.invokestatic 7, 3) := by decide +kernel
theorem d4_29 : decode method_3_code 29 = .ok (.ifCond .eq 13, 3) := by decide +kernel
theorem d4_32 : decode method_3_code 32 = .ok (.aload_n 0, 1) := by decide +kernel
theorem d4_33 : decode method_3_code 33 = .ok (.iconst 2, 1) := by decide +kernel
theorem d4_34 : decode method_3_code 34 = .ok (.iload_n 1, 1) := by decide +kernel
theorem d4_35 : decode method_3_code 35 = .ok (.iload_n 2, 1) := by decide +kernel
theorem d4_36 : decode method_3_code 36 = .ok (.invokestatic 7, 3) := by decide +kernel
theorem d4_39 : decode method_3_code 39 = .ok (.ifCond .ne 5, 3) := by decide +kernel
theorem d4_44 : decode method_3_code 44 = .ok (.iload_n 1, 1) := by decide +kernel
theorem d4_45 : decode method_3_code 45 = .ok (.iconst 2, 1) := by decide +kernel
theorem d4_46 : decode method_3_code 46 = .ok (.if_icmp .lt 14, 3) := by decide +kernel
theorem d4_60 : decode method_3_code 60 = .ok (.iload_n 1, 1) := by decide +kernel
theorem d4_61 : decode method_3_code 61 = .ok (.iconst 3, 1) := by decide +kernel
theorem d4_62 : decode method_3_code 62 = .ok (.if_icmp .lt 23, 3) := by decide +kernel
theorem d4_85 : decode method_3_code 85 = .ok (.iconst 1, 1) := by decide +kernel
theorem d4_86 : decode method_3_code 86 = .ok (.ireturn, 1) := by decide +kernel
abbrev Rm4_00 : Room := { frames := 1, cells := 0, slots := 0, locals := 15 }
set_option maxRecDepth 65536 in
set_option maxHeartbeats 40000000 in
theorem rm4_00 (l : Launch) (Z : State) (a0 : Array Value) (hw : ∀ d ∈ tables_1, d.before a0 Z = true) (ws : List Jvm.Cond) (o : Addr) (w1 : Int32) (kO kd : ClassId) (fo : Nat → Value) (sz : Nat) (h0 : Heap) (n0 : Nat) (Z0 : n0 ≤ h0.size) (V_o : Avf Z h0 o kO (.array .long) 0 fo) :
    Met l Z n0 (⟨"com/example/bitstrata/bitstrata/bitmap/WorkspaceVectorsPinLaw", "shaped", "([[JII)Z"⟩ : MethodName) method_3_code 3 (some .boolean) ws Rm4_00 #[(.ref o), (.int (0 : Int32)), (.int w1)] h0 (fun v h => v = some (.int 1) ∧ h0 = h) := by
  refine enter (Ls := #[.val (.ref o), .val (.int (0 : Int32)), .val (.int w1)]) (plainFor_of_name pn1) (fun m => by first | (simp [entryFrame, mkF, argsToLocals, Value.category]; done) | rfl) ?_
  intro p e s m below meth c T0 hx hby hml hown hnm hret hlk hZ X0
  show Go p.tables e below _ (T0.setTop (mkF m 0 #[.val (.ref o), .val (.int (0 : Int32)), .val (.int w1)] []))
  refine Go.by (fun _ => XS.aloadN X0.here hx rfl (hb hby d4_0) rfl rfl) ?_
  show Go p.tables e below _ (T0.setTop (mkF m 1 #[.val (.ref o), .val (.int (0 : Int32)), .val (.int w1)] [(.ref o)]))
  refine Go.by (fun _ => XS.ifnullNo X0.here hx rfl (hb hby d4_1) rfl) ?_
  show Go p.tables e below _ (T0.setTop (mkF m 4 #[.val (.ref o), .val (.int (0 : Int32)), .val (.int w1)] []))
  refine Go.by (fun _ => XS.aloadN X0.here hx rfl (hb hby d4_4) rfl rfl) ?_
  show Go p.tables e below _ (T0.setTop (mkF m 5 #[.val (.ref o), .val (.int (0 : Int32)), .val (.int w1)] [(.ref o)]))
  refine Go.by (X0.len hx hZ V_o (z := (0 : Int32)) rfl (g := (mkF m 5 #[.val (.ref o), .val (.int (0 : Int32)), .val (.int w1)] [(.ref o)])) rfl rfl (hb hby d4_5)) ?_
  show Go p.tables e below _ (T0.setTop (mkF m 6 #[.val (.ref o), .val (.int (0 : Int32)), .val (.int w1)] [(.int (0 : Int32))]))
  refine Go.by (fun _ => XS.iloadN X0.here hx rfl (hb hby d4_6) rfl) ?_
  show Go p.tables e below _ (T0.setTop (mkF m 7 #[.val (.ref o), .val (.int (0 : Int32)), .val (.int w1)] [(.int (0 : Int32)), (.int (0 : Int32))]))
  refine Go.by (fun _ => XS.icmpYes X0.here hx rfl (pc0 := 7) (pc' := 12) rfl (hb hby d4_7) rfl (flt (by decide)).2.1 (by decide) (by decide)) ?_
  show Go p.tables e below _ (T0.setTop (mkF m 12 #[.val (.ref o), .val (.int (0 : Int32)), .val (.int w1)] []))
  refine Go.by (fun _ => XS.aloadN X0.here hx rfl (hb hby d4_12) rfl rfl) ?_
  show Go p.tables e below _ (T0.setTop (mkF m 13 #[.val (.ref o), .val (.int (0 : Int32)), .val (.int w1)] [(.ref o)]))
  refine Go.by (fun _ => XS.iconst X0.here hx rfl (hb hby d4_13)) ?_
  show Go p.tables e below _ (T0.setTop (mkF m 14 #[.val (.ref o), .val (.int (0 : Int32)), .val (.int w1)] [(.int (0 : Int32)), (.ref o)]))
  refine Go.by (fun _ => XS.iloadN X0.here hx rfl (hb hby d4_14) rfl) ?_
  show Go p.tables e below _ (T0.setTop (mkF m 15 #[.val (.ref o), .val (.int (0 : Int32)), .val (.int w1)] [(.int (0 : Int32)), (.int (0 : Int32)), (.ref o)]))
  refine Go.by (fun _ => XS.iloadN X0.here hx rfl (hb hby d4_15) rfl) ?_
  show Go p.tables e below _ (T0.setTop (mkF m 16 #[.val (.ref o), .val (.int (0 : Int32)), .val (.int w1)] [(.int w1), (.int (0 : Int32)), (.int (0 : Int32)), (.ref o)]))
  obtain ⟨v1, T1, h1, X1, q1, st1⟩ := X0.callS hx hZ (y := (⟨"com/example/bitstrata/bitstrata/bitmap/WorkspaceVectorsPinLaw", "row", "([[JIII)Z"⟩ : MethodName)) hown (tw hw 22 rfl) (tw hw 23 rfl) (tw hw 20 rfl) (tw hw 24 rfl) (by decide) (rm5_00 l Z a0 hw [] o w1 h0 n0 Z0) (g := (mkF m 16 #[.val (.ref o), .val (.int (0 : Int32)), .val (.int w1)] [(.int w1), (.int (0 : Int32)), (.int (0 : Int32)), (.ref o)])) rfl (by rw [hml]; rfl) (argsL := [(.ref o), (.int (0 : Int32)), (.int (0 : Int32)), (.int w1)]) (rest := []) (lenOf pd0 rfl) rfl (hb hby d4_16) rfl (by decide) (Nat.le_of_ble_eq_true rfl) (k' := 0) (n' := 0) rfl rfl (by decide) (by decide)
  refine Go.by st1 ?_
  obtain ⟨rfl, rfl⟩ := q1
  show Go p.tables e below _ (T1.setTop (mkF m 19 #[.val (.ref o), .val (.int (0 : Int32)), .val (.int w1)] [(.int (1 : Int32))]))
  refine Go.by (fun _ => XS.ifNo X1.here hx rfl (hb hby d4_19) rfl ((if0 _ _).trans (feq (by decide)).1)) ?_
  show Go p.tables e below _ (T1.setTop (mkF m 22 #[.val (.ref o), .val (.int (0 : Int32)), .val (.int w1)] []))
  refine Go.by (fun _ => XS.aloadN X1.here hx rfl (hb hby d4_22) rfl rfl) ?_
  show Go p.tables e below _ (T1.setTop (mkF m 23 #[.val (.ref o), .val (.int (0 : Int32)), .val (.int w1)] [(.ref o)]))
  refine Go.by (fun _ => XS.iconst X1.here hx rfl (hb hby d4_23)) ?_
  show Go p.tables e below _ (T1.setTop (mkF m 24 #[.val (.ref o), .val (.int (0 : Int32)), .val (.int w1)] [(.int (1 : Int32)), (.ref o)]))
  refine Go.by (fun _ => XS.iloadN X1.here hx rfl (hb hby d4_24) rfl) ?_
  show Go p.tables e below _ (T1.setTop (mkF m 25 #[.val (.ref o), .val (.int (0 : Int32)), .val (.int w1)] [(.int (0 : Int32)), (.int (1 : Int32)), (.ref o)]))
  refine Go.by (fun _ => XS.iloadN X1.here hx rfl (hb hby d4_25) rfl) ?_
  show Go p.tables e below _ (T1.setTop (mkF m 26 #[.val (.ref o), .val (.int (0 : Int32)), .val (.int w1)] [(.int w1), (.int (0 : Int32)), (.int (1 : Int32)), (.ref o)]))
  obtain ⟨v2, T2, h2, X2, q2, st2⟩ := X1.callS hx hZ (y := (⟨"com/example/bitstrata/bitstrata/bitmap/WorkspaceVectorsPinLaw", "row", "([[JIII)Z"⟩ : MethodName)) hown (tw hw 22 rfl) (tw hw 23 rfl) (tw hw 20 rfl) (tw hw 24 rfl) (by decide) (rm5_10 l Z a0 hw [] o w1 h0 n0 Z0) (g := (mkF m 26 #[.val (.ref o), .val (.int (0 : Int32)), .val (.int w1)] [(.int w1), (.int (0 : Int32)), (.int (1 : Int32)), (.ref o)])) rfl (by rw [hml]; rfl) (argsL := [(.ref o), (.int (1 : Int32)), (.int (0 : Int32)), (.int w1)]) (rest := []) (lenOf pd0 rfl) rfl (hb hby d4_26) rfl (by decide) (Nat.le_of_ble_eq_true rfl) (k' := 0) (n' := 0) rfl rfl (by decide) (by decide)
  refine Go.by st2 ?_
  obtain ⟨rfl, rfl⟩ := q2
  show Go p.tables e below _ (T2.setTop (mkF m 29 #[.val (.ref o), .val (.int (0 : Int32)), .val (.int w1)] [(.int (1 : Int32))]))
  refine Go.by (fun _ => XS.ifNo X2.here hx rfl (hb hby d4_29) rfl ((if0 _ _).trans (feq (by decide)).1)) ?_
  show Go p.tables e below _ (T2.setTop (mkF m 32 #[.val (.ref o), .val (.int (0 : Int32)), .val (.int w1)] []))
  refine Go.by (fun _ => XS.aloadN X2.here hx rfl (hb hby d4_32) rfl rfl) ?_
  show Go p.tables e below _ (T2.setTop (mkF m 33 #[.val (.ref o), .val (.int (0 : Int32)), .val (.int w1)] [(.ref o)]))
  refine Go.by (fun _ => XS.iconst X2.here hx rfl (hb hby d4_33)) ?_
  show Go p.tables e below _ (T2.setTop (mkF m 34 #[.val (.ref o), .val (.int (0 : Int32)), .val (.int w1)] [(.int (2 : Int32)), (.ref o)]))
  refine Go.by (fun _ => XS.iloadN X2.here hx rfl (hb hby d4_34) rfl) ?_
  show Go p.tables e below _ (T2.setTop (mkF m 35 #[.val (.ref o), .val (.int (0 : Int32)), .val (.int w1)] [(.int (0 : Int32)), (.int (2 : Int32)), (.ref o)]))
  refine Go.by (fun _ => XS.iloadN X2.here hx rfl (hb hby d4_35) rfl) ?_
  show Go p.tables e below _ (T2.setTop (mkF m 36 #[.val (.ref o), .val (.int (0 : Int32)), .val (.int w1)] [(.int w1), (.int (0 : Int32)), (.int (2 : Int32)), (.ref o)]))
  obtain ⟨v3, T3, h3, X3, q3, st3⟩ := X2.callS hx hZ (y := (⟨"com/example/bitstrata/bitstrata/bitmap/WorkspaceVectorsPinLaw", "row", "([[JIII)Z"⟩ : MethodName)) hown (tw hw 22 rfl) (tw hw 23 rfl) (tw hw 20 rfl) (tw hw 24 rfl) (by decide) (rm5_20 l Z a0 hw [] o w1 h0 n0 Z0) (g := (mkF m 36 #[.val (.ref o), .val (.int (0 : Int32)), .val (.int w1)] [(.int w1), (.int (0 : Int32)), (.int (2 : Int32)), (.ref o)])) rfl (by rw [hml]; rfl) (argsL := [(.ref o), (.int (2 : Int32)), (.int (0 : Int32)), (.int w1)]) (rest := []) (lenOf pd0 rfl) rfl (hb hby d4_36) rfl (by decide) (Nat.le_of_ble_eq_true rfl) (k' := 0) (n' := 0) rfl rfl (by decide) (by decide)
  refine Go.by st3 ?_
  obtain ⟨rfl, rfl⟩ := q3
  show Go p.tables e below _ (T3.setTop (mkF m 39 #[.val (.ref o), .val (.int (0 : Int32)), .val (.int w1)] [(.int (1 : Int32))]))
  refine Go.by (fun _ => XS.ifYes X3.here hx rfl (pc0 := 39) (pc' := 44) rfl (hb hby d4_39) rfl ((if0 _ _).trans (feq (by decide)).2) (by decide) (by decide)) ?_
  show Go p.tables e below _ (T3.setTop (mkF m 44 #[.val (.ref o), .val (.int (0 : Int32)), .val (.int w1)] []))
  refine Go.by (fun _ => XS.iloadN X3.here hx rfl (hb hby d4_44) rfl) ?_
  show Go p.tables e below _ (T3.setTop (mkF m 45 #[.val (.ref o), .val (.int (0 : Int32)), .val (.int w1)] [(.int (0 : Int32))]))
  refine Go.by (fun _ => XS.iconst X3.here hx rfl (hb hby d4_45)) ?_
  show Go p.tables e below _ (T3.setTop (mkF m 46 #[.val (.ref o), .val (.int (0 : Int32)), .val (.int w1)] [(.int (2 : Int32)), (.int (0 : Int32))]))
  refine Go.by (fun _ => XS.icmpYes X3.here hx rfl (pc0 := 46) (pc' := 60) rfl (hb hby d4_46) rfl (tlt (by decide)).1 (by decide) (by decide)) ?_
  show Go p.tables e below _ (T3.setTop (mkF m 60 #[.val (.ref o), .val (.int (0 : Int32)), .val (.int w1)] []))
  refine Go.by (fun _ => XS.iloadN X3.here hx rfl (hb hby d4_60) rfl) ?_
  show Go p.tables e below _ (T3.setTop (mkF m 61 #[.val (.ref o), .val (.int (0 : Int32)), .val (.int w1)] [(.int (0 : Int32))]))
  refine Go.by (fun _ => XS.iconst X3.here hx rfl (hb hby d4_61)) ?_
  show Go p.tables e below _ (T3.setTop (mkF m 62 #[.val (.ref o), .val (.int (0 : Int32)), .val (.int w1)] [(.int (3 : Int32)), (.int (0 : Int32))]))
  refine Go.by (fun _ => XS.icmpYes X3.here hx rfl (pc0 := 62) (pc' := 85) rfl (hb hby d4_62) rfl (tlt (by decide)).1 (by decide) (by decide)) ?_
  show Go p.tables e below _ (T3.setTop (mkF m 85 #[.val (.ref o), .val (.int (0 : Int32)), .val (.int w1)] []))
  refine Go.by (fun _ => XS.iconst X3.here hx rfl (hb hby d4_85)) ?_
  show Go p.tables e below _ (T3.setTop (mkF m 86 #[.val (.ref o), .val (.int (0 : Int32)), .val (.int w1)] [(.int (1 : Int32))]))
  exact Go.retN X3 hx hlk (z' := (1 : Int32)) hret (by simp) (hb hby d4_86) rfl (by decide) (by decide) ⟨rfl, rfl⟩
abbrev Rm4_10 : Room := { frames := 1, cells := 0, slots := 0, locals := 15 }
set_option maxRecDepth 65536 in
set_option maxHeartbeats 40000000 in
theorem rm4_10 (l : Launch) (Z : State) (a0 : Array Value) (hw : ∀ d ∈ tables_1, d.before a0 Z = true) (ws : List Jvm.Cond) (o : Addr) (w1 : Int32) (kO kd : ClassId) (fo : Nat → Value) (sz : Nat) (h0 : Heap) (n0 : Nat) (Z0 : n0 ≤ h0.size) (V_o : Avf Z h0 o kO (.array .long) 1 fo) :
    Met l Z n0 (⟨"com/example/bitstrata/bitstrata/bitmap/WorkspaceVectorsPinLaw", "shaped", "([[JII)Z"⟩ : MethodName) method_3_code 3 (some .boolean) ws Rm4_10 #[(.ref o), (.int (0 : Int32)), (.int w1)] h0 (fun v h => v = some (.int 1) ∧ h0 = h) := by
  refine enter (Ls := #[.val (.ref o), .val (.int (0 : Int32)), .val (.int w1)]) (plainFor_of_name pn1) (fun m => by first | (simp [entryFrame, mkF, argsToLocals, Value.category]; done) | rfl) ?_
  intro p e s m below meth c T0 hx hby hml hown hnm hret hlk hZ X0
  show Go p.tables e below _ (T0.setTop (mkF m 0 #[.val (.ref o), .val (.int (0 : Int32)), .val (.int w1)] []))
  refine Go.by (fun _ => XS.aloadN X0.here hx rfl (hb hby d4_0) rfl rfl) ?_
  show Go p.tables e below _ (T0.setTop (mkF m 1 #[.val (.ref o), .val (.int (0 : Int32)), .val (.int w1)] [(.ref o)]))
  refine Go.by (fun _ => XS.ifnullNo X0.here hx rfl (hb hby d4_1) rfl) ?_
  show Go p.tables e below _ (T0.setTop (mkF m 4 #[.val (.ref o), .val (.int (0 : Int32)), .val (.int w1)] []))
  refine Go.by (fun _ => XS.aloadN X0.here hx rfl (hb hby d4_4) rfl rfl) ?_
  show Go p.tables e below _ (T0.setTop (mkF m 5 #[.val (.ref o), .val (.int (0 : Int32)), .val (.int w1)] [(.ref o)]))
  refine Go.by (X0.len hx hZ V_o (z := (1 : Int32)) rfl (g := (mkF m 5 #[.val (.ref o), .val (.int (0 : Int32)), .val (.int w1)] [(.ref o)])) rfl rfl (hb hby d4_5)) ?_
  show Go p.tables e below _ (T0.setTop (mkF m 6 #[.val (.ref o), .val (.int (0 : Int32)), .val (.int w1)] [(.int (1 : Int32))]))
  refine Go.by (fun _ => XS.iloadN X0.here hx rfl (hb hby d4_6) rfl) ?_
  show Go p.tables e below _ (T0.setTop (mkF m 7 #[.val (.ref o), .val (.int (0 : Int32)), .val (.int w1)] [(.int (0 : Int32)), (.int (1 : Int32))]))
  refine Go.by (fun _ => XS.icmpYes X0.here hx rfl (pc0 := 7) (pc' := 12) rfl (hb hby d4_7) rfl (flt (by decide)).2.1 (by decide) (by decide)) ?_
  show Go p.tables e below _ (T0.setTop (mkF m 12 #[.val (.ref o), .val (.int (0 : Int32)), .val (.int w1)] []))
  refine Go.by (fun _ => XS.aloadN X0.here hx rfl (hb hby d4_12) rfl rfl) ?_
  show Go p.tables e below _ (T0.setTop (mkF m 13 #[.val (.ref o), .val (.int (0 : Int32)), .val (.int w1)] [(.ref o)]))
  refine Go.by (fun _ => XS.iconst X0.here hx rfl (hb hby d4_13)) ?_
  show Go p.tables e below _ (T0.setTop (mkF m 14 #[.val (.ref o), .val (.int (0 : Int32)), .val (.int w1)] [(.int (0 : Int32)), (.ref o)]))
  refine Go.by (fun _ => XS.iloadN X0.here hx rfl (hb hby d4_14) rfl) ?_
  show Go p.tables e below _ (T0.setTop (mkF m 15 #[.val (.ref o), .val (.int (0 : Int32)), .val (.int w1)] [(.int (0 : Int32)), (.int (0 : Int32)), (.ref o)]))
  refine Go.by (fun _ => XS.iloadN X0.here hx rfl (hb hby d4_15) rfl) ?_
  show Go p.tables e below _ (T0.setTop (mkF m 16 #[.val (.ref o), .val (.int (0 : Int32)), .val (.int w1)] [(.int w1), (.int (0 : Int32)), (.int (0 : Int32)), (.ref o)]))
  obtain ⟨v1, T1, h1, X1, q1, st1⟩ := X0.callS hx hZ (y := (⟨"com/example/bitstrata/bitstrata/bitmap/WorkspaceVectorsPinLaw", "row", "([[JIII)Z"⟩ : MethodName)) hown (tw hw 22 rfl) (tw hw 23 rfl) (tw hw 20 rfl) (tw hw 24 rfl) (by decide) (rm5_00 l Z a0 hw [] o w1 h0 n0 Z0) (g := (mkF m 16 #[.val (.ref o), .val (.int (0 : Int32)), .val (.int w1)] [(.int w1), (.int (0 : Int32)), (.int (0 : Int32)), (.ref o)])) rfl (by rw [hml]; rfl) (argsL := [(.ref o), (.int (0 : Int32)), (.int (0 : Int32)), (.int w1)]) (rest := []) (lenOf pd0 rfl) rfl (hb hby d4_16) rfl (by decide) (Nat.le_of_ble_eq_true rfl) (k' := 0) (n' := 0) rfl rfl (by decide) (by decide)
  refine Go.by st1 ?_
  obtain ⟨rfl, rfl⟩ := q1
  show Go p.tables e below _ (T1.setTop (mkF m 19 #[.val (.ref o), .val (.int (0 : Int32)), .val (.int w1)] [(.int (1 : Int32))]))
  refine Go.by (fun _ => XS.ifNo X1.here hx rfl (hb hby d4_19) rfl ((if0 _ _).trans (feq (by decide)).1)) ?_
  show Go p.tables e below _ (T1.setTop (mkF m 22 #[.val (.ref o), .val (.int (0 : Int32)), .val (.int w1)] []))
  refine Go.by (fun _ => XS.aloadN X1.here hx rfl (hb hby d4_22) rfl rfl) ?_
  show Go p.tables e below _ (T1.setTop (mkF m 23 #[.val (.ref o), .val (.int (0 : Int32)), .val (.int w1)] [(.ref o)]))
  refine Go.by (fun _ => XS.iconst X1.here hx rfl (hb hby d4_23)) ?_
  show Go p.tables e below _ (T1.setTop (mkF m 24 #[.val (.ref o), .val (.int (0 : Int32)), .val (.int w1)] [(.int (1 : Int32)), (.ref o)]))
  refine Go.by (fun _ => XS.iloadN X1.here hx rfl (hb hby d4_24) rfl) ?_
  show Go p.tables e below _ (T1.setTop (mkF m 25 #[.val (.ref o), .val (.int (0 : Int32)), .val (.int w1)] [(.int (0 : Int32)), (.int (1 : Int32)), (.ref o)]))
  refine Go.by (fun _ => XS.iloadN X1.here hx rfl (hb hby d4_25) rfl) ?_
  show Go p.tables e below _ (T1.setTop (mkF m 26 #[.val (.ref o), .val (.int (0 : Int32)), .val (.int w1)] [(.int w1), (.int (0 : Int32)), (.int (1 : Int32)), (.ref o)]))
  obtain ⟨v2, T2, h2, X2, q2, st2⟩ := X1.callS hx hZ (y := (⟨"com/example/bitstrata/bitstrata/bitmap/WorkspaceVectorsPinLaw", "row", "([[JIII)Z"⟩ : MethodName)) hown (tw hw 22 rfl) (tw hw 23 rfl) (tw hw 20 rfl) (tw hw 24 rfl) (by decide) (rm5_10 l Z a0 hw [] o w1 h0 n0 Z0) (g := (mkF m 26 #[.val (.ref o), .val (.int (0 : Int32)), .val (.int w1)] [(.int w1), (.int (0 : Int32)), (.int (1 : Int32)), (.ref o)])) rfl (by rw [hml]; rfl) (argsL := [(.ref o), (.int (1 : Int32)), (.int (0 : Int32)), (.int w1)]) (rest := []) (lenOf pd0 rfl) rfl (hb hby d4_26) rfl (by decide) (Nat.le_of_ble_eq_true rfl) (k' := 0) (n' := 0) rfl rfl (by decide) (by decide)
  refine Go.by st2 ?_
  obtain ⟨rfl, rfl⟩ := q2
  show Go p.tables e below _ (T2.setTop (mkF m 29 #[.val (.ref o), .val (.int (0 : Int32)), .val (.int w1)] [(.int (1 : Int32))]))
  refine Go.by (fun _ => XS.ifNo X2.here hx rfl (hb hby d4_29) rfl ((if0 _ _).trans (feq (by decide)).1)) ?_
  show Go p.tables e below _ (T2.setTop (mkF m 32 #[.val (.ref o), .val (.int (0 : Int32)), .val (.int w1)] []))
  refine Go.by (fun _ => XS.aloadN X2.here hx rfl (hb hby d4_32) rfl rfl) ?_
  show Go p.tables e below _ (T2.setTop (mkF m 33 #[.val (.ref o), .val (.int (0 : Int32)), .val (.int w1)] [(.ref o)]))
  refine Go.by (fun _ => XS.iconst X2.here hx rfl (hb hby d4_33)) ?_
  show Go p.tables e below _ (T2.setTop (mkF m 34 #[.val (.ref o), .val (.int (0 : Int32)), .val (.int w1)] [(.int (2 : Int32)), (.ref o)]))
  refine Go.by (fun _ => XS.iloadN X2.here hx rfl (hb hby d4_34) rfl) ?_
  show Go p.tables e below _ (T2.setTop (mkF m 35 #[.val (.ref o), .val (.int (0 : Int32)), .val (.int w1)] [(.int (0 : Int32)), (.int (2 : Int32)), (.ref o)]))
  refine Go.by (fun _ => XS.iloadN X2.here hx rfl (hb hby d4_35) rfl) ?_
  show Go p.tables e below _ (T2.setTop (mkF m 36 #[.val (.ref o), .val (.int (0 : Int32)), .val (.int w1)] [(.int w1), (.int (0 : Int32)), (.int (2 : Int32)), (.ref o)]))
  obtain ⟨v3, T3, h3, X3, q3, st3⟩ := X2.callS hx hZ (y := (⟨"com/example/bitstrata/bitstrata/bitmap/WorkspaceVectorsPinLaw", "row", "([[JIII)Z"⟩ : MethodName)) hown (tw hw 22 rfl) (tw hw 23 rfl) (tw hw 20 rfl) (tw hw 24 rfl) (by decide) (rm5_20 l Z a0 hw [] o w1 h0 n0 Z0) (g := (mkF m 36 #[.val (.ref o), .val (.int (0 : Int32)), .val (.int w1)] [(.int w1), (.int (0 : Int32)), (.int (2 : Int32)), (.ref o)])) rfl (by rw [hml]; rfl) (argsL := [(.ref o), (.int (2 : Int32)), (.int (0 : Int32)), (.int w1)]) (rest := []) (lenOf pd0 rfl) rfl (hb hby d4_36) rfl (by decide) (Nat.le_of_ble_eq_true rfl) (k' := 0) (n' := 0) rfl rfl (by decide) (by decide)
  refine Go.by st3 ?_
  obtain ⟨rfl, rfl⟩ := q3
  show Go p.tables e below _ (T3.setTop (mkF m 39 #[.val (.ref o), .val (.int (0 : Int32)), .val (.int w1)] [(.int (1 : Int32))]))
  refine Go.by (fun _ => XS.ifYes X3.here hx rfl (pc0 := 39) (pc' := 44) rfl (hb hby d4_39) rfl ((if0 _ _).trans (feq (by decide)).2) (by decide) (by decide)) ?_
  show Go p.tables e below _ (T3.setTop (mkF m 44 #[.val (.ref o), .val (.int (0 : Int32)), .val (.int w1)] []))
  refine Go.by (fun _ => XS.iloadN X3.here hx rfl (hb hby d4_44) rfl) ?_
  show Go p.tables e below _ (T3.setTop (mkF m 45 #[.val (.ref o), .val (.int (0 : Int32)), .val (.int w1)] [(.int (0 : Int32))]))
  refine Go.by (fun _ => XS.iconst X3.here hx rfl (hb hby d4_45)) ?_
  show Go p.tables e below _ (T3.setTop (mkF m 46 #[.val (.ref o), .val (.int (0 : Int32)), .val (.int w1)] [(.int (2 : Int32)), (.int (0 : Int32))]))
  refine Go.by (fun _ => XS.icmpYes X3.here hx rfl (pc0 := 46) (pc' := 60) rfl (hb hby d4_46) rfl (tlt (by decide)).1 (by decide) (by decide)) ?_
  show Go p.tables e below _ (T3.setTop (mkF m 60 #[.val (.ref o), .val (.int (0 : Int32)), .val (.int w1)] []))
  refine Go.by (fun _ => XS.iloadN X3.here hx rfl (hb hby d4_60) rfl) ?_
  show Go p.tables e below _ (T3.setTop (mkF m 61 #[.val (.ref o), .val (.int (0 : Int32)), .val (.int w1)] [(.int (0 : Int32))]))
  refine Go.by (fun _ => XS.iconst X3.here hx rfl (hb hby d4_61)) ?_
  show Go p.tables e below _ (T3.setTop (mkF m 62 #[.val (.ref o), .val (.int (0 : Int32)), .val (.int w1)] [(.int (3 : Int32)), (.int (0 : Int32))]))
  refine Go.by (fun _ => XS.icmpYes X3.here hx rfl (pc0 := 62) (pc' := 85) rfl (hb hby d4_62) rfl (tlt (by decide)).1 (by decide) (by decide)) ?_
  show Go p.tables e below _ (T3.setTop (mkF m 85 #[.val (.ref o), .val (.int (0 : Int32)), .val (.int w1)] []))
  refine Go.by (fun _ => XS.iconst X3.here hx rfl (hb hby d4_85)) ?_
  show Go p.tables e below _ (T3.setTop (mkF m 86 #[.val (.ref o), .val (.int (0 : Int32)), .val (.int w1)] [(.int (1 : Int32))]))
  exact Go.retN X3 hx hlk (z' := (1 : Int32)) hret (by simp) (hb hby d4_86) rfl (by decide) (by decide) ⟨rfl, rfl⟩
abbrev Rm4_11 : Room := { frames := 1, cells := 0, slots := 0, locals := 15 }
set_option maxRecDepth 65536 in
set_option maxHeartbeats 40000000 in
theorem rm4_11 (l : Launch) (Z : State) (a0 : Array Value) (hw : ∀ d ∈ tables_1, d.before a0 Z = true) (ws : List Jvm.Cond) (o : Addr) (w1 : Int32) (kO kd : ClassId) (fo : Nat → Value) (sz : Nat) (x0 : Addr) (h0 : Heap) (n0 : Nat) (Z0 : n0 ≤ h0.size) (V_o : Avf Z h0 o kO (.array .long) 1 fo) (hsz : sz.toInt32 = w1) (hf0 : fo 0 = .ref x0) (V_x0 : Avf Z h0 x0 kd .long sz (fun _ => (.long 0))) :
    Met l Z n0 (⟨"com/example/bitstrata/bitstrata/bitmap/WorkspaceVectorsPinLaw", "shaped", "([[JII)Z"⟩ : MethodName) method_3_code 3 (some .boolean) ws Rm4_11 #[(.ref o), (.int (1 : Int32)), (.int w1)] h0 (fun v h => v = some (.int 1) ∧ h0 = h) := by
  refine enter (Ls := #[.val (.ref o), .val (.int (1 : Int32)), .val (.int w1)]) (plainFor_of_name pn1) (fun m => by first | (simp [entryFrame, mkF, argsToLocals, Value.category]; done) | rfl) ?_
  intro p e s m below meth c T0 hx hby hml hown hnm hret hlk hZ X0
  show Go p.tables e below _ (T0.setTop (mkF m 0 #[.val (.ref o), .val (.int (1 : Int32)), .val (.int w1)] []))
  refine Go.by (fun _ => XS.aloadN X0.here hx rfl (hb hby d4_0) rfl rfl) ?_
  show Go p.tables e below _ (T0.setTop (mkF m 1 #[.val (.ref o), .val (.int (1 : Int32)), .val (.int w1)] [(.ref o)]))
  refine Go.by (fun _ => XS.ifnullNo X0.here hx rfl (hb hby d4_1) rfl) ?_
  show Go p.tables e below _ (T0.setTop (mkF m 4 #[.val (.ref o), .val (.int (1 : Int32)), .val (.int w1)] []))
  refine Go.by (fun _ => XS.aloadN X0.here hx rfl (hb hby d4_4) rfl rfl) ?_
  show Go p.tables e below _ (T0.setTop (mkF m 5 #[.val (.ref o), .val (.int (1 : Int32)), .val (.int w1)] [(.ref o)]))
  refine Go.by (X0.len hx hZ V_o (z := (1 : Int32)) rfl (g := (mkF m 5 #[.val (.ref o), .val (.int (1 : Int32)), .val (.int w1)] [(.ref o)])) rfl rfl (hb hby d4_5)) ?_
  show Go p.tables e below _ (T0.setTop (mkF m 6 #[.val (.ref o), .val (.int (1 : Int32)), .val (.int w1)] [(.int (1 : Int32))]))
  refine Go.by (fun _ => XS.iloadN X0.here hx rfl (hb hby d4_6) rfl) ?_
  show Go p.tables e below _ (T0.setTop (mkF m 7 #[.val (.ref o), .val (.int (1 : Int32)), .val (.int w1)] [(.int (1 : Int32)), (.int (1 : Int32))]))
  refine Go.by (fun _ => XS.icmpYes X0.here hx rfl (pc0 := 7) (pc' := 12) rfl (hb hby d4_7) rfl (flt (by decide)).2.1 (by decide) (by decide)) ?_
  show Go p.tables e below _ (T0.setTop (mkF m 12 #[.val (.ref o), .val (.int (1 : Int32)), .val (.int w1)] []))
  refine Go.by (fun _ => XS.aloadN X0.here hx rfl (hb hby d4_12) rfl rfl) ?_
  show Go p.tables e below _ (T0.setTop (mkF m 13 #[.val (.ref o), .val (.int (1 : Int32)), .val (.int w1)] [(.ref o)]))
  refine Go.by (fun _ => XS.iconst X0.here hx rfl (hb hby d4_13)) ?_
  show Go p.tables e below _ (T0.setTop (mkF m 14 #[.val (.ref o), .val (.int (1 : Int32)), .val (.int w1)] [(.int (0 : Int32)), (.ref o)]))
  refine Go.by (fun _ => XS.iloadN X0.here hx rfl (hb hby d4_14) rfl) ?_
  show Go p.tables e below _ (T0.setTop (mkF m 15 #[.val (.ref o), .val (.int (1 : Int32)), .val (.int w1)] [(.int (1 : Int32)), (.int (0 : Int32)), (.ref o)]))
  refine Go.by (fun _ => XS.iloadN X0.here hx rfl (hb hby d4_15) rfl) ?_
  show Go p.tables e below _ (T0.setTop (mkF m 16 #[.val (.ref o), .val (.int (1 : Int32)), .val (.int w1)] [(.int w1), (.int (1 : Int32)), (.int (0 : Int32)), (.ref o)]))
  obtain ⟨v1, T1, h1, X1, q1, st1⟩ := X0.callS hx hZ (y := (⟨"com/example/bitstrata/bitstrata/bitmap/WorkspaceVectorsPinLaw", "row", "([[JIII)Z"⟩ : MethodName)) hown (tw hw 22 rfl) (tw hw 23 rfl) (tw hw 20 rfl) (tw hw 24 rfl) (by decide) (rm5_1_01 l Z a0 hw [] o w1 kO kd fo x0 sz h0 n0 Z0 V_o hf0 V_x0 hsz) (g := (mkF m 16 #[.val (.ref o), .val (.int (1 : Int32)), .val (.int w1)] [(.int w1), (.int (1 : Int32)), (.int (0 : Int32)), (.ref o)])) rfl (by rw [hml]; rfl) (argsL := [(.ref o), (.int (0 : Int32)), (.int (1 : Int32)), (.int w1)]) (rest := []) (lenOf pd0 rfl) rfl (hb hby d4_16) rfl (by decide) (Nat.le_of_ble_eq_true rfl) (k' := 0) (n' := 0) rfl rfl (by decide) (by decide)
  refine Go.by st1 ?_
  obtain ⟨rfl, rfl⟩ := q1
  show Go p.tables e below _ (T1.setTop (mkF m 19 #[.val (.ref o), .val (.int (1 : Int32)), .val (.int w1)] [(.int (1 : Int32))]))
  refine Go.by (fun _ => XS.ifNo X1.here hx rfl (hb hby d4_19) rfl ((if0 _ _).trans (feq (by decide)).1)) ?_
  show Go p.tables e below _ (T1.setTop (mkF m 22 #[.val (.ref o), .val (.int (1 : Int32)), .val (.int w1)] []))
  refine Go.by (fun _ => XS.aloadN X1.here hx rfl (hb hby d4_22) rfl rfl) ?_
  show Go p.tables e below _ (T1.setTop (mkF m 23 #[.val (.ref o), .val (.int (1 : Int32)), .val (.int w1)] [(.ref o)]))
  refine Go.by (fun _ => XS.iconst X1.here hx rfl (hb hby d4_23)) ?_
  show Go p.tables e below _ (T1.setTop (mkF m 24 #[.val (.ref o), .val (.int (1 : Int32)), .val (.int w1)] [(.int (1 : Int32)), (.ref o)]))
  refine Go.by (fun _ => XS.iloadN X1.here hx rfl (hb hby d4_24) rfl) ?_
  show Go p.tables e below _ (T1.setTop (mkF m 25 #[.val (.ref o), .val (.int (1 : Int32)), .val (.int w1)] [(.int (1 : Int32)), (.int (1 : Int32)), (.ref o)]))
  refine Go.by (fun _ => XS.iloadN X1.here hx rfl (hb hby d4_25) rfl) ?_
  show Go p.tables e below _ (T1.setTop (mkF m 26 #[.val (.ref o), .val (.int (1 : Int32)), .val (.int w1)] [(.int w1), (.int (1 : Int32)), (.int (1 : Int32)), (.ref o)]))
  obtain ⟨v2, T2, h2, X2, q2, st2⟩ := X1.callS hx hZ (y := (⟨"com/example/bitstrata/bitstrata/bitmap/WorkspaceVectorsPinLaw", "row", "([[JIII)Z"⟩ : MethodName)) hown (tw hw 22 rfl) (tw hw 23 rfl) (tw hw 20 rfl) (tw hw 24 rfl) (by decide) (rm5_11 l Z a0 hw [] o w1 h0 n0 Z0) (g := (mkF m 26 #[.val (.ref o), .val (.int (1 : Int32)), .val (.int w1)] [(.int w1), (.int (1 : Int32)), (.int (1 : Int32)), (.ref o)])) rfl (by rw [hml]; rfl) (argsL := [(.ref o), (.int (1 : Int32)), (.int (1 : Int32)), (.int w1)]) (rest := []) (lenOf pd0 rfl) rfl (hb hby d4_26) rfl (by decide) (Nat.le_of_ble_eq_true rfl) (k' := 0) (n' := 0) rfl rfl (by decide) (by decide)
  refine Go.by st2 ?_
  obtain ⟨rfl, rfl⟩ := q2
  show Go p.tables e below _ (T2.setTop (mkF m 29 #[.val (.ref o), .val (.int (1 : Int32)), .val (.int w1)] [(.int (1 : Int32))]))
  refine Go.by (fun _ => XS.ifNo X2.here hx rfl (hb hby d4_29) rfl ((if0 _ _).trans (feq (by decide)).1)) ?_
  show Go p.tables e below _ (T2.setTop (mkF m 32 #[.val (.ref o), .val (.int (1 : Int32)), .val (.int w1)] []))
  refine Go.by (fun _ => XS.aloadN X2.here hx rfl (hb hby d4_32) rfl rfl) ?_
  show Go p.tables e below _ (T2.setTop (mkF m 33 #[.val (.ref o), .val (.int (1 : Int32)), .val (.int w1)] [(.ref o)]))
  refine Go.by (fun _ => XS.iconst X2.here hx rfl (hb hby d4_33)) ?_
  show Go p.tables e below _ (T2.setTop (mkF m 34 #[.val (.ref o), .val (.int (1 : Int32)), .val (.int w1)] [(.int (2 : Int32)), (.ref o)]))
  refine Go.by (fun _ => XS.iloadN X2.here hx rfl (hb hby d4_34) rfl) ?_
  show Go p.tables e below _ (T2.setTop (mkF m 35 #[.val (.ref o), .val (.int (1 : Int32)), .val (.int w1)] [(.int (1 : Int32)), (.int (2 : Int32)), (.ref o)]))
  refine Go.by (fun _ => XS.iloadN X2.here hx rfl (hb hby d4_35) rfl) ?_
  show Go p.tables e below _ (T2.setTop (mkF m 36 #[.val (.ref o), .val (.int (1 : Int32)), .val (.int w1)] [(.int w1), (.int (1 : Int32)), (.int (2 : Int32)), (.ref o)]))
  obtain ⟨v3, T3, h3, X3, q3, st3⟩ := X2.callS hx hZ (y := (⟨"com/example/bitstrata/bitstrata/bitmap/WorkspaceVectorsPinLaw", "row", "([[JIII)Z"⟩ : MethodName)) hown (tw hw 22 rfl) (tw hw 23 rfl) (tw hw 20 rfl) (tw hw 24 rfl) (by decide) (rm5_21 l Z a0 hw [] o w1 h0 n0 Z0) (g := (mkF m 36 #[.val (.ref o), .val (.int (1 : Int32)), .val (.int w1)] [(.int w1), (.int (1 : Int32)), (.int (2 : Int32)), (.ref o)])) rfl (by rw [hml]; rfl) (argsL := [(.ref o), (.int (2 : Int32)), (.int (1 : Int32)), (.int w1)]) (rest := []) (lenOf pd0 rfl) rfl (hb hby d4_36) rfl (by decide) (Nat.le_of_ble_eq_true rfl) (k' := 0) (n' := 0) rfl rfl (by decide) (by decide)
  refine Go.by st3 ?_
  obtain ⟨rfl, rfl⟩ := q3
  show Go p.tables e below _ (T3.setTop (mkF m 39 #[.val (.ref o), .val (.int (1 : Int32)), .val (.int w1)] [(.int (1 : Int32))]))
  refine Go.by (fun _ => XS.ifYes X3.here hx rfl (pc0 := 39) (pc' := 44) rfl (hb hby d4_39) rfl ((if0 _ _).trans (feq (by decide)).2) (by decide) (by decide)) ?_
  show Go p.tables e below _ (T3.setTop (mkF m 44 #[.val (.ref o), .val (.int (1 : Int32)), .val (.int w1)] []))
  refine Go.by (fun _ => XS.iloadN X3.here hx rfl (hb hby d4_44) rfl) ?_
  show Go p.tables e below _ (T3.setTop (mkF m 45 #[.val (.ref o), .val (.int (1 : Int32)), .val (.int w1)] [(.int (1 : Int32))]))
  refine Go.by (fun _ => XS.iconst X3.here hx rfl (hb hby d4_45)) ?_
  show Go p.tables e below _ (T3.setTop (mkF m 46 #[.val (.ref o), .val (.int (1 : Int32)), .val (.int w1)] [(.int (2 : Int32)), (.int (1 : Int32))]))
  refine Go.by (fun _ => XS.icmpYes X3.here hx rfl (pc0 := 46) (pc' := 60) rfl (hb hby d4_46) rfl (tlt (by decide)).1 (by decide) (by decide)) ?_
  show Go p.tables e below _ (T3.setTop (mkF m 60 #[.val (.ref o), .val (.int (1 : Int32)), .val (.int w1)] []))
  refine Go.by (fun _ => XS.iloadN X3.here hx rfl (hb hby d4_60) rfl) ?_
  show Go p.tables e below _ (T3.setTop (mkF m 61 #[.val (.ref o), .val (.int (1 : Int32)), .val (.int w1)] [(.int (1 : Int32))]))
  refine Go.by (fun _ => XS.iconst X3.here hx rfl (hb hby d4_61)) ?_
  show Go p.tables e below _ (T3.setTop (mkF m 62 #[.val (.ref o), .val (.int (1 : Int32)), .val (.int w1)] [(.int (3 : Int32)), (.int (1 : Int32))]))
  refine Go.by (fun _ => XS.icmpYes X3.here hx rfl (pc0 := 62) (pc' := 85) rfl (hb hby d4_62) rfl (tlt (by decide)).1 (by decide) (by decide)) ?_
  show Go p.tables e below _ (T3.setTop (mkF m 85 #[.val (.ref o), .val (.int (1 : Int32)), .val (.int w1)] []))
  refine Go.by (fun _ => XS.iconst X3.here hx rfl (hb hby d4_85)) ?_
  show Go p.tables e below _ (T3.setTop (mkF m 86 #[.val (.ref o), .val (.int (1 : Int32)), .val (.int w1)] [(.int (1 : Int32))]))
  exact Go.retN X3 hx hlk (z' := (1 : Int32)) hret (by simp) (hb hby d4_86) rfl (by decide) (by decide) ⟨rfl, rfl⟩
abbrev Rm4_20 : Room := { frames := 1, cells := 0, slots := 0, locals := 15 }
set_option maxRecDepth 65536 in
set_option maxHeartbeats 40000000 in
theorem rm4_20 (l : Launch) (Z : State) (a0 : Array Value) (hw : ∀ d ∈ tables_1, d.before a0 Z = true) (ws : List Jvm.Cond) (o : Addr) (w1 : Int32) (kO kd : ClassId) (fo : Nat → Value) (sz : Nat) (h0 : Heap) (n0 : Nat) (Z0 : n0 ≤ h0.size) (V_o : Avf Z h0 o kO (.array .long) 2 fo) :
    Met l Z n0 (⟨"com/example/bitstrata/bitstrata/bitmap/WorkspaceVectorsPinLaw", "shaped", "([[JII)Z"⟩ : MethodName) method_3_code 3 (some .boolean) ws Rm4_20 #[(.ref o), (.int (0 : Int32)), (.int w1)] h0 (fun v h => v = some (.int 1) ∧ h0 = h) := by
  refine enter (Ls := #[.val (.ref o), .val (.int (0 : Int32)), .val (.int w1)]) (plainFor_of_name pn1) (fun m => by first | (simp [entryFrame, mkF, argsToLocals, Value.category]; done) | rfl) ?_
  intro p e s m below meth c T0 hx hby hml hown hnm hret hlk hZ X0
  show Go p.tables e below _ (T0.setTop (mkF m 0 #[.val (.ref o), .val (.int (0 : Int32)), .val (.int w1)] []))
  refine Go.by (fun _ => XS.aloadN X0.here hx rfl (hb hby d4_0) rfl rfl) ?_
  show Go p.tables e below _ (T0.setTop (mkF m 1 #[.val (.ref o), .val (.int (0 : Int32)), .val (.int w1)] [(.ref o)]))
  refine Go.by (fun _ => XS.ifnullNo X0.here hx rfl (hb hby d4_1) rfl) ?_
  show Go p.tables e below _ (T0.setTop (mkF m 4 #[.val (.ref o), .val (.int (0 : Int32)), .val (.int w1)] []))
  refine Go.by (fun _ => XS.aloadN X0.here hx rfl (hb hby d4_4) rfl rfl) ?_
  show Go p.tables e below _ (T0.setTop (mkF m 5 #[.val (.ref o), .val (.int (0 : Int32)), .val (.int w1)] [(.ref o)]))
  refine Go.by (X0.len hx hZ V_o (z := (2 : Int32)) rfl (g := (mkF m 5 #[.val (.ref o), .val (.int (0 : Int32)), .val (.int w1)] [(.ref o)])) rfl rfl (hb hby d4_5)) ?_
  show Go p.tables e below _ (T0.setTop (mkF m 6 #[.val (.ref o), .val (.int (0 : Int32)), .val (.int w1)] [(.int (2 : Int32))]))
  refine Go.by (fun _ => XS.iloadN X0.here hx rfl (hb hby d4_6) rfl) ?_
  show Go p.tables e below _ (T0.setTop (mkF m 7 #[.val (.ref o), .val (.int (0 : Int32)), .val (.int w1)] [(.int (0 : Int32)), (.int (2 : Int32))]))
  refine Go.by (fun _ => XS.icmpYes X0.here hx rfl (pc0 := 7) (pc' := 12) rfl (hb hby d4_7) rfl (flt (by decide)).2.1 (by decide) (by decide)) ?_
  show Go p.tables e below _ (T0.setTop (mkF m 12 #[.val (.ref o), .val (.int (0 : Int32)), .val (.int w1)] []))
  refine Go.by (fun _ => XS.aloadN X0.here hx rfl (hb hby d4_12) rfl rfl) ?_
  show Go p.tables e below _ (T0.setTop (mkF m 13 #[.val (.ref o), .val (.int (0 : Int32)), .val (.int w1)] [(.ref o)]))
  refine Go.by (fun _ => XS.iconst X0.here hx rfl (hb hby d4_13)) ?_
  show Go p.tables e below _ (T0.setTop (mkF m 14 #[.val (.ref o), .val (.int (0 : Int32)), .val (.int w1)] [(.int (0 : Int32)), (.ref o)]))
  refine Go.by (fun _ => XS.iloadN X0.here hx rfl (hb hby d4_14) rfl) ?_
  show Go p.tables e below _ (T0.setTop (mkF m 15 #[.val (.ref o), .val (.int (0 : Int32)), .val (.int w1)] [(.int (0 : Int32)), (.int (0 : Int32)), (.ref o)]))
  refine Go.by (fun _ => XS.iloadN X0.here hx rfl (hb hby d4_15) rfl) ?_
  show Go p.tables e below _ (T0.setTop (mkF m 16 #[.val (.ref o), .val (.int (0 : Int32)), .val (.int w1)] [(.int w1), (.int (0 : Int32)), (.int (0 : Int32)), (.ref o)]))
  obtain ⟨v1, T1, h1, X1, q1, st1⟩ := X0.callS hx hZ (y := (⟨"com/example/bitstrata/bitstrata/bitmap/WorkspaceVectorsPinLaw", "row", "([[JIII)Z"⟩ : MethodName)) hown (tw hw 22 rfl) (tw hw 23 rfl) (tw hw 20 rfl) (tw hw 24 rfl) (by decide) (rm5_00 l Z a0 hw [] o w1 h0 n0 Z0) (g := (mkF m 16 #[.val (.ref o), .val (.int (0 : Int32)), .val (.int w1)] [(.int w1), (.int (0 : Int32)), (.int (0 : Int32)), (.ref o)])) rfl (by rw [hml]; rfl) (argsL := [(.ref o), (.int (0 : Int32)), (.int (0 : Int32)), (.int w1)]) (rest := []) (lenOf pd0 rfl) rfl (hb hby d4_16) rfl (by decide) (Nat.le_of_ble_eq_true rfl) (k' := 0) (n' := 0) rfl rfl (by decide) (by decide)
  refine Go.by st1 ?_
  obtain ⟨rfl, rfl⟩ := q1
  show Go p.tables e below _ (T1.setTop (mkF m 19 #[.val (.ref o), .val (.int (0 : Int32)), .val (.int w1)] [(.int (1 : Int32))]))
  refine Go.by (fun _ => XS.ifNo X1.here hx rfl (hb hby d4_19) rfl ((if0 _ _).trans (feq (by decide)).1)) ?_
  show Go p.tables e below _ (T1.setTop (mkF m 22 #[.val (.ref o), .val (.int (0 : Int32)), .val (.int w1)] []))
  refine Go.by (fun _ => XS.aloadN X1.here hx rfl (hb hby d4_22) rfl rfl) ?_
  show Go p.tables e below _ (T1.setTop (mkF m 23 #[.val (.ref o), .val (.int (0 : Int32)), .val (.int w1)] [(.ref o)]))
  refine Go.by (fun _ => XS.iconst X1.here hx rfl (hb hby d4_23)) ?_
  show Go p.tables e below _ (T1.setTop (mkF m 24 #[.val (.ref o), .val (.int (0 : Int32)), .val (.int w1)] [(.int (1 : Int32)), (.ref o)]))
  refine Go.by (fun _ => XS.iloadN X1.here hx rfl (hb hby d4_24) rfl) ?_
  show Go p.tables e below _ (T1.setTop (mkF m 25 #[.val (.ref o), .val (.int (0 : Int32)), .val (.int w1)] [(.int (0 : Int32)), (.int (1 : Int32)), (.ref o)]))
  refine Go.by (fun _ => XS.iloadN X1.here hx rfl (hb hby d4_25) rfl) ?_
  show Go p.tables e below _ (T1.setTop (mkF m 26 #[.val (.ref o), .val (.int (0 : Int32)), .val (.int w1)] [(.int w1), (.int (0 : Int32)), (.int (1 : Int32)), (.ref o)]))
  obtain ⟨v2, T2, h2, X2, q2, st2⟩ := X1.callS hx hZ (y := (⟨"com/example/bitstrata/bitstrata/bitmap/WorkspaceVectorsPinLaw", "row", "([[JIII)Z"⟩ : MethodName)) hown (tw hw 22 rfl) (tw hw 23 rfl) (tw hw 20 rfl) (tw hw 24 rfl) (by decide) (rm5_10 l Z a0 hw [] o w1 h0 n0 Z0) (g := (mkF m 26 #[.val (.ref o), .val (.int (0 : Int32)), .val (.int w1)] [(.int w1), (.int (0 : Int32)), (.int (1 : Int32)), (.ref o)])) rfl (by rw [hml]; rfl) (argsL := [(.ref o), (.int (1 : Int32)), (.int (0 : Int32)), (.int w1)]) (rest := []) (lenOf pd0 rfl) rfl (hb hby d4_26) rfl (by decide) (Nat.le_of_ble_eq_true rfl) (k' := 0) (n' := 0) rfl rfl (by decide) (by decide)
  refine Go.by st2 ?_
  obtain ⟨rfl, rfl⟩ := q2
  show Go p.tables e below _ (T2.setTop (mkF m 29 #[.val (.ref o), .val (.int (0 : Int32)), .val (.int w1)] [(.int (1 : Int32))]))
  refine Go.by (fun _ => XS.ifNo X2.here hx rfl (hb hby d4_29) rfl ((if0 _ _).trans (feq (by decide)).1)) ?_
  show Go p.tables e below _ (T2.setTop (mkF m 32 #[.val (.ref o), .val (.int (0 : Int32)), .val (.int w1)] []))
  refine Go.by (fun _ => XS.aloadN X2.here hx rfl (hb hby d4_32) rfl rfl) ?_
  show Go p.tables e below _ (T2.setTop (mkF m 33 #[.val (.ref o), .val (.int (0 : Int32)), .val (.int w1)] [(.ref o)]))
  refine Go.by (fun _ => XS.iconst X2.here hx rfl (hb hby d4_33)) ?_
  show Go p.tables e below _ (T2.setTop (mkF m 34 #[.val (.ref o), .val (.int (0 : Int32)), .val (.int w1)] [(.int (2 : Int32)), (.ref o)]))
  refine Go.by (fun _ => XS.iloadN X2.here hx rfl (hb hby d4_34) rfl) ?_
  show Go p.tables e below _ (T2.setTop (mkF m 35 #[.val (.ref o), .val (.int (0 : Int32)), .val (.int w1)] [(.int (0 : Int32)), (.int (2 : Int32)), (.ref o)]))
  refine Go.by (fun _ => XS.iloadN X2.here hx rfl (hb hby d4_35) rfl) ?_
  show Go p.tables e below _ (T2.setTop (mkF m 36 #[.val (.ref o), .val (.int (0 : Int32)), .val (.int w1)] [(.int w1), (.int (0 : Int32)), (.int (2 : Int32)), (.ref o)]))
  obtain ⟨v3, T3, h3, X3, q3, st3⟩ := X2.callS hx hZ (y := (⟨"com/example/bitstrata/bitstrata/bitmap/WorkspaceVectorsPinLaw", "row", "([[JIII)Z"⟩ : MethodName)) hown (tw hw 22 rfl) (tw hw 23 rfl) (tw hw 20 rfl) (tw hw 24 rfl) (by decide) (rm5_20 l Z a0 hw [] o w1 h0 n0 Z0) (g := (mkF m 36 #[.val (.ref o), .val (.int (0 : Int32)), .val (.int w1)] [(.int w1), (.int (0 : Int32)), (.int (2 : Int32)), (.ref o)])) rfl (by rw [hml]; rfl) (argsL := [(.ref o), (.int (2 : Int32)), (.int (0 : Int32)), (.int w1)]) (rest := []) (lenOf pd0 rfl) rfl (hb hby d4_36) rfl (by decide) (Nat.le_of_ble_eq_true rfl) (k' := 0) (n' := 0) rfl rfl (by decide) (by decide)
  refine Go.by st3 ?_
  obtain ⟨rfl, rfl⟩ := q3
  show Go p.tables e below _ (T3.setTop (mkF m 39 #[.val (.ref o), .val (.int (0 : Int32)), .val (.int w1)] [(.int (1 : Int32))]))
  refine Go.by (fun _ => XS.ifYes X3.here hx rfl (pc0 := 39) (pc' := 44) rfl (hb hby d4_39) rfl ((if0 _ _).trans (feq (by decide)).2) (by decide) (by decide)) ?_
  show Go p.tables e below _ (T3.setTop (mkF m 44 #[.val (.ref o), .val (.int (0 : Int32)), .val (.int w1)] []))
  refine Go.by (fun _ => XS.iloadN X3.here hx rfl (hb hby d4_44) rfl) ?_
  show Go p.tables e below _ (T3.setTop (mkF m 45 #[.val (.ref o), .val (.int (0 : Int32)), .val (.int w1)] [(.int (0 : Int32))]))
  refine Go.by (fun _ => XS.iconst X3.here hx rfl (hb hby d4_45)) ?_
  show Go p.tables e below _ (T3.setTop (mkF m 46 #[.val (.ref o), .val (.int (0 : Int32)), .val (.int w1)] [(.int (2 : Int32)), (.int (0 : Int32))]))
  refine Go.by (fun _ => XS.icmpYes X3.here hx rfl (pc0 := 46) (pc' := 60) rfl (hb hby d4_46) rfl (tlt (by decide)).1 (by decide) (by decide)) ?_
  show Go p.tables e below _ (T3.setTop (mkF m 60 #[.val (.ref o), .val (.int (0 : Int32)), .val (.int w1)] []))
  refine Go.by (fun _ => XS.iloadN X3.here hx rfl (hb hby d4_60) rfl) ?_
  show Go p.tables e below _ (T3.setTop (mkF m 61 #[.val (.ref o), .val (.int (0 : Int32)), .val (.int w1)] [(.int (0 : Int32))]))
  refine Go.by (fun _ => XS.iconst X3.here hx rfl (hb hby d4_61)) ?_
  show Go p.tables e below _ (T3.setTop (mkF m 62 #[.val (.ref o), .val (.int (0 : Int32)), .val (.int w1)] [(.int (3 : Int32)), (.int (0 : Int32))]))
  refine Go.by (fun _ => XS.icmpYes X3.here hx rfl (pc0 := 62) (pc' := 85) rfl (hb hby d4_62) rfl (tlt (by decide)).1 (by decide) (by decide)) ?_
  show Go p.tables e below _ (T3.setTop (mkF m 85 #[.val (.ref o), .val (.int (0 : Int32)), .val (.int w1)] []))
  refine Go.by (fun _ => XS.iconst X3.here hx rfl (hb hby d4_85)) ?_
  show Go p.tables e below _ (T3.setTop (mkF m 86 #[.val (.ref o), .val (.int (0 : Int32)), .val (.int w1)] [(.int (1 : Int32))]))
  exact Go.retN X3 hx hlk (z' := (1 : Int32)) hret (by simp) (hb hby d4_86) rfl (by decide) (by decide) ⟨rfl, rfl⟩
abbrev Rm4_21 : Room := { frames := 1, cells := 0, slots := 0, locals := 15 }
set_option maxRecDepth 65536 in
set_option maxHeartbeats 40000000 in
theorem rm4_21 (l : Launch) (Z : State) (a0 : Array Value) (hw : ∀ d ∈ tables_1, d.before a0 Z = true) (ws : List Jvm.Cond) (o : Addr) (w1 : Int32) (kO kd : ClassId) (fo : Nat → Value) (sz : Nat) (x0 : Addr) (h0 : Heap) (n0 : Nat) (Z0 : n0 ≤ h0.size) (V_o : Avf Z h0 o kO (.array .long) 2 fo) (hsz : sz.toInt32 = w1) (hf0 : fo 0 = .ref x0) (V_x0 : Avf Z h0 x0 kd .long sz (fun _ => (.long 0))) :
    Met l Z n0 (⟨"com/example/bitstrata/bitstrata/bitmap/WorkspaceVectorsPinLaw", "shaped", "([[JII)Z"⟩ : MethodName) method_3_code 3 (some .boolean) ws Rm4_21 #[(.ref o), (.int (1 : Int32)), (.int w1)] h0 (fun v h => v = some (.int 1) ∧ h0 = h) := by
  refine enter (Ls := #[.val (.ref o), .val (.int (1 : Int32)), .val (.int w1)]) (plainFor_of_name pn1) (fun m => by first | (simp [entryFrame, mkF, argsToLocals, Value.category]; done) | rfl) ?_
  intro p e s m below meth c T0 hx hby hml hown hnm hret hlk hZ X0
  show Go p.tables e below _ (T0.setTop (mkF m 0 #[.val (.ref o), .val (.int (1 : Int32)), .val (.int w1)] []))
  refine Go.by (fun _ => XS.aloadN X0.here hx rfl (hb hby d4_0) rfl rfl) ?_
  show Go p.tables e below _ (T0.setTop (mkF m 1 #[.val (.ref o), .val (.int (1 : Int32)), .val (.int w1)] [(.ref o)]))
  refine Go.by (fun _ => XS.ifnullNo X0.here hx rfl (hb hby d4_1) rfl) ?_
  show Go p.tables e below _ (T0.setTop (mkF m 4 #[.val (.ref o), .val (.int (1 : Int32)), .val (.int w1)] []))
  refine Go.by (fun _ => XS.aloadN X0.here hx rfl (hb hby d4_4) rfl rfl) ?_
  show Go p.tables e below _ (T0.setTop (mkF m 5 #[.val (.ref o), .val (.int (1 : Int32)), .val (.int w1)] [(.ref o)]))
  refine Go.by (X0.len hx hZ V_o (z := (2 : Int32)) rfl (g := (mkF m 5 #[.val (.ref o), .val (.int (1 : Int32)), .val (.int w1)] [(.ref o)])) rfl rfl (hb hby d4_5)) ?_
  show Go p.tables e below _ (T0.setTop (mkF m 6 #[.val (.ref o), .val (.int (1 : Int32)), .val (.int w1)] [(.int (2 : Int32))]))
  refine Go.by (fun _ => XS.iloadN X0.here hx rfl (hb hby d4_6) rfl) ?_
  show Go p.tables e below _ (T0.setTop (mkF m 7 #[.val (.ref o), .val (.int (1 : Int32)), .val (.int w1)] [(.int (1 : Int32)), (.int (2 : Int32))]))
  refine Go.by (fun _ => XS.icmpYes X0.here hx rfl (pc0 := 7) (pc' := 12) rfl (hb hby d4_7) rfl (flt (by decide)).2.1 (by decide) (by decide)) ?_
  show Go p.tables e below _ (T0.setTop (mkF m 12 #[.val (.ref o), .val (.int (1 : Int32)), .val (.int w1)] []))
  refine Go.by (fun _ => XS.aloadN X0.here hx rfl (hb hby d4_12) rfl rfl) ?_
  show Go p.tables e below _ (T0.setTop (mkF m 13 #[.val (.ref o), .val (.int (1 : Int32)), .val (.int w1)] [(.ref o)]))
  refine Go.by (fun _ => XS.iconst X0.here hx rfl (hb hby d4_13)) ?_
  show Go p.tables e below _ (T0.setTop (mkF m 14 #[.val (.ref o), .val (.int (1 : Int32)), .val (.int w1)] [(.int (0 : Int32)), (.ref o)]))
  refine Go.by (fun _ => XS.iloadN X0.here hx rfl (hb hby d4_14) rfl) ?_
  show Go p.tables e below _ (T0.setTop (mkF m 15 #[.val (.ref o), .val (.int (1 : Int32)), .val (.int w1)] [(.int (1 : Int32)), (.int (0 : Int32)), (.ref o)]))
  refine Go.by (fun _ => XS.iloadN X0.here hx rfl (hb hby d4_15) rfl) ?_
  show Go p.tables e below _ (T0.setTop (mkF m 16 #[.val (.ref o), .val (.int (1 : Int32)), .val (.int w1)] [(.int w1), (.int (1 : Int32)), (.int (0 : Int32)), (.ref o)]))
  obtain ⟨v1, T1, h1, X1, q1, st1⟩ := X0.callS hx hZ (y := (⟨"com/example/bitstrata/bitstrata/bitmap/WorkspaceVectorsPinLaw", "row", "([[JIII)Z"⟩ : MethodName)) hown (tw hw 22 rfl) (tw hw 23 rfl) (tw hw 20 rfl) (tw hw 24 rfl) (by decide) (rm5_2_01 l Z a0 hw [] o w1 kO kd fo x0 sz h0 n0 Z0 V_o hf0 V_x0 hsz) (g := (mkF m 16 #[.val (.ref o), .val (.int (1 : Int32)), .val (.int w1)] [(.int w1), (.int (1 : Int32)), (.int (0 : Int32)), (.ref o)])) rfl (by rw [hml]; rfl) (argsL := [(.ref o), (.int (0 : Int32)), (.int (1 : Int32)), (.int w1)]) (rest := []) (lenOf pd0 rfl) rfl (hb hby d4_16) rfl (by decide) (Nat.le_of_ble_eq_true rfl) (k' := 0) (n' := 0) rfl rfl (by decide) (by decide)
  refine Go.by st1 ?_
  obtain ⟨rfl, rfl⟩ := q1
  show Go p.tables e below _ (T1.setTop (mkF m 19 #[.val (.ref o), .val (.int (1 : Int32)), .val (.int w1)] [(.int (1 : Int32))]))
  refine Go.by (fun _ => XS.ifNo X1.here hx rfl (hb hby d4_19) rfl ((if0 _ _).trans (feq (by decide)).1)) ?_
  show Go p.tables e below _ (T1.setTop (mkF m 22 #[.val (.ref o), .val (.int (1 : Int32)), .val (.int w1)] []))
  refine Go.by (fun _ => XS.aloadN X1.here hx rfl (hb hby d4_22) rfl rfl) ?_
  show Go p.tables e below _ (T1.setTop (mkF m 23 #[.val (.ref o), .val (.int (1 : Int32)), .val (.int w1)] [(.ref o)]))
  refine Go.by (fun _ => XS.iconst X1.here hx rfl (hb hby d4_23)) ?_
  show Go p.tables e below _ (T1.setTop (mkF m 24 #[.val (.ref o), .val (.int (1 : Int32)), .val (.int w1)] [(.int (1 : Int32)), (.ref o)]))
  refine Go.by (fun _ => XS.iloadN X1.here hx rfl (hb hby d4_24) rfl) ?_
  show Go p.tables e below _ (T1.setTop (mkF m 25 #[.val (.ref o), .val (.int (1 : Int32)), .val (.int w1)] [(.int (1 : Int32)), (.int (1 : Int32)), (.ref o)]))
  refine Go.by (fun _ => XS.iloadN X1.here hx rfl (hb hby d4_25) rfl) ?_
  show Go p.tables e below _ (T1.setTop (mkF m 26 #[.val (.ref o), .val (.int (1 : Int32)), .val (.int w1)] [(.int w1), (.int (1 : Int32)), (.int (1 : Int32)), (.ref o)]))
  obtain ⟨v2, T2, h2, X2, q2, st2⟩ := X1.callS hx hZ (y := (⟨"com/example/bitstrata/bitstrata/bitmap/WorkspaceVectorsPinLaw", "row", "([[JIII)Z"⟩ : MethodName)) hown (tw hw 22 rfl) (tw hw 23 rfl) (tw hw 20 rfl) (tw hw 24 rfl) (by decide) (rm5_11 l Z a0 hw [] o w1 h0 n0 Z0) (g := (mkF m 26 #[.val (.ref o), .val (.int (1 : Int32)), .val (.int w1)] [(.int w1), (.int (1 : Int32)), (.int (1 : Int32)), (.ref o)])) rfl (by rw [hml]; rfl) (argsL := [(.ref o), (.int (1 : Int32)), (.int (1 : Int32)), (.int w1)]) (rest := []) (lenOf pd0 rfl) rfl (hb hby d4_26) rfl (by decide) (Nat.le_of_ble_eq_true rfl) (k' := 0) (n' := 0) rfl rfl (by decide) (by decide)
  refine Go.by st2 ?_
  obtain ⟨rfl, rfl⟩ := q2
  show Go p.tables e below _ (T2.setTop (mkF m 29 #[.val (.ref o), .val (.int (1 : Int32)), .val (.int w1)] [(.int (1 : Int32))]))
  refine Go.by (fun _ => XS.ifNo X2.here hx rfl (hb hby d4_29) rfl ((if0 _ _).trans (feq (by decide)).1)) ?_
  show Go p.tables e below _ (T2.setTop (mkF m 32 #[.val (.ref o), .val (.int (1 : Int32)), .val (.int w1)] []))
  refine Go.by (fun _ => XS.aloadN X2.here hx rfl (hb hby d4_32) rfl rfl) ?_
  show Go p.tables e below _ (T2.setTop (mkF m 33 #[.val (.ref o), .val (.int (1 : Int32)), .val (.int w1)] [(.ref o)]))
  refine Go.by (fun _ => XS.iconst X2.here hx rfl (hb hby d4_33)) ?_
  show Go p.tables e below _ (T2.setTop (mkF m 34 #[.val (.ref o), .val (.int (1 : Int32)), .val (.int w1)] [(.int (2 : Int32)), (.ref o)]))
  refine Go.by (fun _ => XS.iloadN X2.here hx rfl (hb hby d4_34) rfl) ?_
  show Go p.tables e below _ (T2.setTop (mkF m 35 #[.val (.ref o), .val (.int (1 : Int32)), .val (.int w1)] [(.int (1 : Int32)), (.int (2 : Int32)), (.ref o)]))
  refine Go.by (fun _ => XS.iloadN X2.here hx rfl (hb hby d4_35) rfl) ?_
  show Go p.tables e below _ (T2.setTop (mkF m 36 #[.val (.ref o), .val (.int (1 : Int32)), .val (.int w1)] [(.int w1), (.int (1 : Int32)), (.int (2 : Int32)), (.ref o)]))
  obtain ⟨v3, T3, h3, X3, q3, st3⟩ := X2.callS hx hZ (y := (⟨"com/example/bitstrata/bitstrata/bitmap/WorkspaceVectorsPinLaw", "row", "([[JIII)Z"⟩ : MethodName)) hown (tw hw 22 rfl) (tw hw 23 rfl) (tw hw 20 rfl) (tw hw 24 rfl) (by decide) (rm5_21 l Z a0 hw [] o w1 h0 n0 Z0) (g := (mkF m 36 #[.val (.ref o), .val (.int (1 : Int32)), .val (.int w1)] [(.int w1), (.int (1 : Int32)), (.int (2 : Int32)), (.ref o)])) rfl (by rw [hml]; rfl) (argsL := [(.ref o), (.int (2 : Int32)), (.int (1 : Int32)), (.int w1)]) (rest := []) (lenOf pd0 rfl) rfl (hb hby d4_36) rfl (by decide) (Nat.le_of_ble_eq_true rfl) (k' := 0) (n' := 0) rfl rfl (by decide) (by decide)
  refine Go.by st3 ?_
  obtain ⟨rfl, rfl⟩ := q3
  show Go p.tables e below _ (T3.setTop (mkF m 39 #[.val (.ref o), .val (.int (1 : Int32)), .val (.int w1)] [(.int (1 : Int32))]))
  refine Go.by (fun _ => XS.ifYes X3.here hx rfl (pc0 := 39) (pc' := 44) rfl (hb hby d4_39) rfl ((if0 _ _).trans (feq (by decide)).2) (by decide) (by decide)) ?_
  show Go p.tables e below _ (T3.setTop (mkF m 44 #[.val (.ref o), .val (.int (1 : Int32)), .val (.int w1)] []))
  refine Go.by (fun _ => XS.iloadN X3.here hx rfl (hb hby d4_44) rfl) ?_
  show Go p.tables e below _ (T3.setTop (mkF m 45 #[.val (.ref o), .val (.int (1 : Int32)), .val (.int w1)] [(.int (1 : Int32))]))
  refine Go.by (fun _ => XS.iconst X3.here hx rfl (hb hby d4_45)) ?_
  show Go p.tables e below _ (T3.setTop (mkF m 46 #[.val (.ref o), .val (.int (1 : Int32)), .val (.int w1)] [(.int (2 : Int32)), (.int (1 : Int32))]))
  refine Go.by (fun _ => XS.icmpYes X3.here hx rfl (pc0 := 46) (pc' := 60) rfl (hb hby d4_46) rfl (tlt (by decide)).1 (by decide) (by decide)) ?_
  show Go p.tables e below _ (T3.setTop (mkF m 60 #[.val (.ref o), .val (.int (1 : Int32)), .val (.int w1)] []))
  refine Go.by (fun _ => XS.iloadN X3.here hx rfl (hb hby d4_60) rfl) ?_
  show Go p.tables e below _ (T3.setTop (mkF m 61 #[.val (.ref o), .val (.int (1 : Int32)), .val (.int w1)] [(.int (1 : Int32))]))
  refine Go.by (fun _ => XS.iconst X3.here hx rfl (hb hby d4_61)) ?_
  show Go p.tables e below _ (T3.setTop (mkF m 62 #[.val (.ref o), .val (.int (1 : Int32)), .val (.int w1)] [(.int (3 : Int32)), (.int (1 : Int32))]))
  refine Go.by (fun _ => XS.icmpYes X3.here hx rfl (pc0 := 62) (pc' := 85) rfl (hb hby d4_62) rfl (tlt (by decide)).1 (by decide) (by decide)) ?_
  show Go p.tables e below _ (T3.setTop (mkF m 85 #[.val (.ref o), .val (.int (1 : Int32)), .val (.int w1)] []))
  refine Go.by (fun _ => XS.iconst X3.here hx rfl (hb hby d4_85)) ?_
  show Go p.tables e below _ (T3.setTop (mkF m 86 #[.val (.ref o), .val (.int (1 : Int32)), .val (.int w1)] [(.int (1 : Int32))]))
  exact Go.retN X3 hx hlk (z' := (1 : Int32)) hret (by simp) (hb hby d4_86) rfl (by decide) (by decide) ⟨rfl, rfl⟩
theorem d4_49 : decode method_3_code 49 = .ok (.aload_n 0, 1) := by decide +kernel
theorem d4_50 : decode method_3_code 50 = .ok (.iconst 0, 1) := by decide +kernel
theorem d4_51 : decode method_3_code 51 = .ok (.aaload, 1) := by decide +kernel
theorem d4_52 : decode method_3_code 52 = .ok (.aload_n 0, 1) := by decide +kernel
theorem d4_53 : decode method_3_code 53 = .ok (.iconst 1, 1) := by decide +kernel
theorem d4_54 : decode method_3_code 54 = .ok (.aaload, 1) := by decide +kernel
theorem d4_55 : decode method_3_code 55 = .ok (.if_acmp .ne 5, 3) := by decide +kernel
abbrev Rm4_22 : Room := { frames := 1, cells := 0, slots := 0, locals := 15 }
set_option maxRecDepth 65536 in
set_option maxHeartbeats 40000000 in
theorem rm4_22 (l : Launch) (Z : State) (a0 : Array Value) (hw : ∀ d ∈ tables_1, d.before a0 Z = true) (ws : List Jvm.Cond) (o : Addr) (w1 : Int32) (kO kd : ClassId) (fo : Nat → Value) (sz : Nat) (x0 x1 : Addr) (h0 : Heap) (n0 : Nat) (Z0 : n0 ≤ h0.size) (V_o : Avf Z h0 o kO (.array .long) 2 fo) (hsz : sz.toInt32 = w1) (hf0 : fo 0 = .ref x0) (V_x0 : Avf Z h0 x0 kd .long sz (fun _ => (.long 0))) (hf1 : fo 1 = .ref x1) (V_x1 : Avf Z h0 x1 kd .long sz (fun _ => (.long 0))) (n01 : x0 ≠ x1) :
    Met l Z n0 (⟨"com/example/bitstrata/bitstrata/bitmap/WorkspaceVectorsPinLaw", "shaped", "([[JII)Z"⟩ : MethodName) method_3_code 3 (some .boolean) ws Rm4_22 #[(.ref o), (.int (2 : Int32)), (.int w1)] h0 (fun v h => v = some (.int 1) ∧ h0 = h) := by
  refine enter (Ls := #[.val (.ref o), .val (.int (2 : Int32)), .val (.int w1)]) (plainFor_of_name pn1) (fun m => by first | (simp [entryFrame, mkF, argsToLocals, Value.category]; done) | rfl) ?_
  intro p e s m below meth c T0 hx hby hml hown hnm hret hlk hZ X0
  show Go p.tables e below _ (T0.setTop (mkF m 0 #[.val (.ref o), .val (.int (2 : Int32)), .val (.int w1)] []))
  refine Go.by (fun _ => XS.aloadN X0.here hx rfl (hb hby d4_0) rfl rfl) ?_
  show Go p.tables e below _ (T0.setTop (mkF m 1 #[.val (.ref o), .val (.int (2 : Int32)), .val (.int w1)] [(.ref o)]))
  refine Go.by (fun _ => XS.ifnullNo X0.here hx rfl (hb hby d4_1) rfl) ?_
  show Go p.tables e below _ (T0.setTop (mkF m 4 #[.val (.ref o), .val (.int (2 : Int32)), .val (.int w1)] []))
  refine Go.by (fun _ => XS.aloadN X0.here hx rfl (hb hby d4_4) rfl rfl) ?_
  show Go p.tables e below _ (T0.setTop (mkF m 5 #[.val (.ref o), .val (.int (2 : Int32)), .val (.int w1)] [(.ref o)]))
  refine Go.by (X0.len hx hZ V_o (z := (2 : Int32)) rfl (g := (mkF m 5 #[.val (.ref o), .val (.int (2 : Int32)), .val (.int w1)] [(.ref o)])) rfl rfl (hb hby d4_5)) ?_
  show Go p.tables e below _ (T0.setTop (mkF m 6 #[.val (.ref o), .val (.int (2 : Int32)), .val (.int w1)] [(.int (2 : Int32))]))
  refine Go.by (fun _ => XS.iloadN X0.here hx rfl (hb hby d4_6) rfl) ?_
  show Go p.tables e below _ (T0.setTop (mkF m 7 #[.val (.ref o), .val (.int (2 : Int32)), .val (.int w1)] [(.int (2 : Int32)), (.int (2 : Int32))]))
  refine Go.by (fun _ => XS.icmpYes X0.here hx rfl (pc0 := 7) (pc' := 12) rfl (hb hby d4_7) rfl (flt (by decide)).2.1 (by decide) (by decide)) ?_
  show Go p.tables e below _ (T0.setTop (mkF m 12 #[.val (.ref o), .val (.int (2 : Int32)), .val (.int w1)] []))
  refine Go.by (fun _ => XS.aloadN X0.here hx rfl (hb hby d4_12) rfl rfl) ?_
  show Go p.tables e below _ (T0.setTop (mkF m 13 #[.val (.ref o), .val (.int (2 : Int32)), .val (.int w1)] [(.ref o)]))
  refine Go.by (fun _ => XS.iconst X0.here hx rfl (hb hby d4_13)) ?_
  show Go p.tables e below _ (T0.setTop (mkF m 14 #[.val (.ref o), .val (.int (2 : Int32)), .val (.int w1)] [(.int (0 : Int32)), (.ref o)]))
  refine Go.by (fun _ => XS.iloadN X0.here hx rfl (hb hby d4_14) rfl) ?_
  show Go p.tables e below _ (T0.setTop (mkF m 15 #[.val (.ref o), .val (.int (2 : Int32)), .val (.int w1)] [(.int (2 : Int32)), (.int (0 : Int32)), (.ref o)]))
  refine Go.by (fun _ => XS.iloadN X0.here hx rfl (hb hby d4_15) rfl) ?_
  show Go p.tables e below _ (T0.setTop (mkF m 16 #[.val (.ref o), .val (.int (2 : Int32)), .val (.int w1)] [(.int w1), (.int (2 : Int32)), (.int (0 : Int32)), (.ref o)]))
  obtain ⟨v1, T1, h1, X1, q1, st1⟩ := X0.callS hx hZ (y := (⟨"com/example/bitstrata/bitstrata/bitmap/WorkspaceVectorsPinLaw", "row", "([[JIII)Z"⟩ : MethodName)) hown (tw hw 22 rfl) (tw hw 23 rfl) (tw hw 20 rfl) (tw hw 24 rfl) (by decide) (rm5_2_02 l Z a0 hw [] o w1 kO kd fo x0 sz h0 n0 Z0 V_o hf0 V_x0 hsz) (g := (mkF m 16 #[.val (.ref o), .val (.int (2 : Int32)), .val (.int w1)] [(.int w1), (.int (2 : Int32)), (.int (0 : Int32)), (.ref o)])) rfl (by rw [hml]; rfl) (argsL := [(.ref o), (.int (0 : Int32)), (.int (2 : Int32)), (.int w1)]) (rest := []) (lenOf pd0 rfl) rfl (hb hby d4_16) rfl (by decide) (Nat.le_of_ble_eq_true rfl) (k' := 0) (n' := 0) rfl rfl (by decide) (by decide)
  refine Go.by st1 ?_
  obtain ⟨rfl, rfl⟩ := q1
  show Go p.tables e below _ (T1.setTop (mkF m 19 #[.val (.ref o), .val (.int (2 : Int32)), .val (.int w1)] [(.int (1 : Int32))]))
  refine Go.by (fun _ => XS.ifNo X1.here hx rfl (hb hby d4_19) rfl ((if0 _ _).trans (feq (by decide)).1)) ?_
  show Go p.tables e below _ (T1.setTop (mkF m 22 #[.val (.ref o), .val (.int (2 : Int32)), .val (.int w1)] []))
  refine Go.by (fun _ => XS.aloadN X1.here hx rfl (hb hby d4_22) rfl rfl) ?_
  show Go p.tables e below _ (T1.setTop (mkF m 23 #[.val (.ref o), .val (.int (2 : Int32)), .val (.int w1)] [(.ref o)]))
  refine Go.by (fun _ => XS.iconst X1.here hx rfl (hb hby d4_23)) ?_
  show Go p.tables e below _ (T1.setTop (mkF m 24 #[.val (.ref o), .val (.int (2 : Int32)), .val (.int w1)] [(.int (1 : Int32)), (.ref o)]))
  refine Go.by (fun _ => XS.iloadN X1.here hx rfl (hb hby d4_24) rfl) ?_
  show Go p.tables e below _ (T1.setTop (mkF m 25 #[.val (.ref o), .val (.int (2 : Int32)), .val (.int w1)] [(.int (2 : Int32)), (.int (1 : Int32)), (.ref o)]))
  refine Go.by (fun _ => XS.iloadN X1.here hx rfl (hb hby d4_25) rfl) ?_
  show Go p.tables e below _ (T1.setTop (mkF m 26 #[.val (.ref o), .val (.int (2 : Int32)), .val (.int w1)] [(.int w1), (.int (2 : Int32)), (.int (1 : Int32)), (.ref o)]))
  obtain ⟨v2, T2, h2, X2, q2, st2⟩ := X1.callS hx hZ (y := (⟨"com/example/bitstrata/bitstrata/bitmap/WorkspaceVectorsPinLaw", "row", "([[JIII)Z"⟩ : MethodName)) hown (tw hw 22 rfl) (tw hw 23 rfl) (tw hw 20 rfl) (tw hw 24 rfl) (by decide) (rm5_2_12 l Z a0 hw [] o w1 kO kd fo x1 sz h0 n0 Z0 V_o hf1 V_x1 hsz) (g := (mkF m 26 #[.val (.ref o), .val (.int (2 : Int32)), .val (.int w1)] [(.int w1), (.int (2 : Int32)), (.int (1 : Int32)), (.ref o)])) rfl (by rw [hml]; rfl) (argsL := [(.ref o), (.int (1 : Int32)), (.int (2 : Int32)), (.int w1)]) (rest := []) (lenOf pd0 rfl) rfl (hb hby d4_26) rfl (by decide) (Nat.le_of_ble_eq_true rfl) (k' := 0) (n' := 0) rfl rfl (by decide) (by decide)
  refine Go.by st2 ?_
  obtain ⟨rfl, rfl⟩ := q2
  show Go p.tables e below _ (T2.setTop (mkF m 29 #[.val (.ref o), .val (.int (2 : Int32)), .val (.int w1)] [(.int (1 : Int32))]))
  refine Go.by (fun _ => XS.ifNo X2.here hx rfl (hb hby d4_29) rfl ((if0 _ _).trans (feq (by decide)).1)) ?_
  show Go p.tables e below _ (T2.setTop (mkF m 32 #[.val (.ref o), .val (.int (2 : Int32)), .val (.int w1)] []))
  refine Go.by (fun _ => XS.aloadN X2.here hx rfl (hb hby d4_32) rfl rfl) ?_
  show Go p.tables e below _ (T2.setTop (mkF m 33 #[.val (.ref o), .val (.int (2 : Int32)), .val (.int w1)] [(.ref o)]))
  refine Go.by (fun _ => XS.iconst X2.here hx rfl (hb hby d4_33)) ?_
  show Go p.tables e below _ (T2.setTop (mkF m 34 #[.val (.ref o), .val (.int (2 : Int32)), .val (.int w1)] [(.int (2 : Int32)), (.ref o)]))
  refine Go.by (fun _ => XS.iloadN X2.here hx rfl (hb hby d4_34) rfl) ?_
  show Go p.tables e below _ (T2.setTop (mkF m 35 #[.val (.ref o), .val (.int (2 : Int32)), .val (.int w1)] [(.int (2 : Int32)), (.int (2 : Int32)), (.ref o)]))
  refine Go.by (fun _ => XS.iloadN X2.here hx rfl (hb hby d4_35) rfl) ?_
  show Go p.tables e below _ (T2.setTop (mkF m 36 #[.val (.ref o), .val (.int (2 : Int32)), .val (.int w1)] [(.int w1), (.int (2 : Int32)), (.int (2 : Int32)), (.ref o)]))
  obtain ⟨v3, T3, h3, X3, q3, st3⟩ := X2.callS hx hZ (y := (⟨"com/example/bitstrata/bitstrata/bitmap/WorkspaceVectorsPinLaw", "row", "([[JIII)Z"⟩ : MethodName)) hown (tw hw 22 rfl) (tw hw 23 rfl) (tw hw 20 rfl) (tw hw 24 rfl) (by decide) (rm5_22 l Z a0 hw [] o w1 h0 n0 Z0) (g := (mkF m 36 #[.val (.ref o), .val (.int (2 : Int32)), .val (.int w1)] [(.int w1), (.int (2 : Int32)), (.int (2 : Int32)), (.ref o)])) rfl (by rw [hml]; rfl) (argsL := [(.ref o), (.int (2 : Int32)), (.int (2 : Int32)), (.int w1)]) (rest := []) (lenOf pd0 rfl) rfl (hb hby d4_36) rfl (by decide) (Nat.le_of_ble_eq_true rfl) (k' := 0) (n' := 0) rfl rfl (by decide) (by decide)
  refine Go.by st3 ?_
  obtain ⟨rfl, rfl⟩ := q3
  show Go p.tables e below _ (T3.setTop (mkF m 39 #[.val (.ref o), .val (.int (2 : Int32)), .val (.int w1)] [(.int (1 : Int32))]))
  refine Go.by (fun _ => XS.ifYes X3.here hx rfl (pc0 := 39) (pc' := 44) rfl (hb hby d4_39) rfl ((if0 _ _).trans (feq (by decide)).2) (by decide) (by decide)) ?_
  show Go p.tables e below _ (T3.setTop (mkF m 44 #[.val (.ref o), .val (.int (2 : Int32)), .val (.int w1)] []))
  refine Go.by (fun _ => XS.iloadN X3.here hx rfl (hb hby d4_44) rfl) ?_
  show Go p.tables e below _ (T3.setTop (mkF m 45 #[.val (.ref o), .val (.int (2 : Int32)), .val (.int w1)] [(.int (2 : Int32))]))
  refine Go.by (fun _ => XS.iconst X3.here hx rfl (hb hby d4_45)) ?_
  show Go p.tables e below _ (T3.setTop (mkF m 46 #[.val (.ref o), .val (.int (2 : Int32)), .val (.int w1)] [(.int (2 : Int32)), (.int (2 : Int32))]))
  refine Go.by (fun _ => XS.icmpNo X3.here hx rfl (hb hby d4_46) rfl (flt (by decide)).1) ?_
  show Go p.tables e below _ (T3.setTop (mkF m 49 #[.val (.ref o), .val (.int (2 : Int32)), .val (.int w1)] []))
  refine Go.by (fun _ => XS.aloadN X3.here hx rfl (hb hby d4_49) rfl rfl) ?_
  show Go p.tables e below _ (T3.setTop (mkF m 50 #[.val (.ref o), .val (.int (2 : Int32)), .val (.int w1)] [(.ref o)]))
  refine Go.by (fun _ => XS.iconst X3.here hx rfl (hb hby d4_50)) ?_
  show Go p.tables e below _ (T3.setTop (mkF m 51 #[.val (.ref o), .val (.int (2 : Int32)), .val (.int w1)] [(.int (0 : Int32)), (.ref o)]))
  refine Go.by (X3.ldA hx hZ V_o rfl (by decide) (i := 0) rfl (by decide) (v := (.ref x0)) hf0 (g := (mkF m 51 #[.val (.ref o), .val (.int (2 : Int32)), .val (.int w1)] [(.int (0 : Int32)), (.ref o)])) rfl rfl (hb hby d4_51)) ?_
  show Go p.tables e below _ (T3.setTop (mkF m 52 #[.val (.ref o), .val (.int (2 : Int32)), .val (.int w1)] [(.ref x0)]))
  refine Go.by (fun _ => XS.aloadN X3.here hx rfl (hb hby d4_52) rfl rfl) ?_
  show Go p.tables e below _ (T3.setTop (mkF m 53 #[.val (.ref o), .val (.int (2 : Int32)), .val (.int w1)] [(.ref o), (.ref x0)]))
  refine Go.by (fun _ => XS.iconst X3.here hx rfl (hb hby d4_53)) ?_
  show Go p.tables e below _ (T3.setTop (mkF m 54 #[.val (.ref o), .val (.int (2 : Int32)), .val (.int w1)] [(.int (1 : Int32)), (.ref o), (.ref x0)]))
  refine Go.by (X3.ldA hx hZ V_o rfl (by decide) (i := 1) rfl (by decide) (v := (.ref x1)) hf1 (g := (mkF m 54 #[.val (.ref o), .val (.int (2 : Int32)), .val (.int w1)] [(.int (1 : Int32)), (.ref o), (.ref x0)])) rfl rfl (hb hby d4_54)) ?_
  show Go p.tables e below _ (T3.setTop (mkF m 55 #[.val (.ref o), .val (.int (2 : Int32)), .val (.int w1)] [(.ref x1), (.ref x0)]))
  refine Go.by (X3.acmp (g := (mkF m 55 #[.val (.ref o), .val (.int (2 : Int32)), .val (.int w1)] [(.ref x1), (.ref x0)])) hx rfl rfl rfl (pc0 := 55) (pc' := 60) (same := false) rfl (hb hby d4_55) rfl (decide_eq_false fun q => n01 (Value.ref.inj q)) (by decide) (by decide)) ?_
  show Go p.tables e below _ (T3.setTop (mkF m 60 #[.val (.ref o), .val (.int (2 : Int32)), .val (.int w1)] []))
  refine Go.by (fun _ => XS.iloadN X3.here hx rfl (hb hby d4_60) rfl) ?_
  show Go p.tables e below _ (T3.setTop (mkF m 61 #[.val (.ref o), .val (.int (2 : Int32)), .val (.int w1)] [(.int (2 : Int32))]))
  refine Go.by (fun _ => XS.iconst X3.here hx rfl (hb hby d4_61)) ?_
  show Go p.tables e below _ (T3.setTop (mkF m 62 #[.val (.ref o), .val (.int (2 : Int32)), .val (.int w1)] [(.int (3 : Int32)), (.int (2 : Int32))]))
  refine Go.by (fun _ => XS.icmpYes X3.here hx rfl (pc0 := 62) (pc' := 85) rfl (hb hby d4_62) rfl (tlt (by decide)).1 (by decide) (by decide)) ?_
  show Go p.tables e below _ (T3.setTop (mkF m 85 #[.val (.ref o), .val (.int (2 : Int32)), .val (.int w1)] []))
  refine Go.by (fun _ => XS.iconst X3.here hx rfl (hb hby d4_85)) ?_
  show Go p.tables e below _ (T3.setTop (mkF m 86 #[.val (.ref o), .val (.int (2 : Int32)), .val (.int w1)] [(.int (1 : Int32))]))
  exact Go.retN X3 hx hlk (z' := (1 : Int32)) hret (by simp) (hb hby d4_86) rfl (by decide) (by decide) ⟨rfl, rfl⟩
abbrev Rm4_30 : Room := { frames := 1, cells := 0, slots := 0, locals := 15 }
set_option maxRecDepth 65536 in
set_option maxHeartbeats 40000000 in
theorem rm4_30 (l : Launch) (Z : State) (a0 : Array Value) (hw : ∀ d ∈ tables_1, d.before a0 Z = true) (ws : List Jvm.Cond) (o : Addr) (w1 : Int32) (kO kd : ClassId) (fo : Nat → Value) (sz : Nat) (h0 : Heap) (n0 : Nat) (Z0 : n0 ≤ h0.size) (V_o : Avf Z h0 o kO (.array .long) 3 fo) :
    Met l Z n0 (⟨"com/example/bitstrata/bitstrata/bitmap/WorkspaceVectorsPinLaw", "shaped", "([[JII)Z"⟩ : MethodName) method_3_code 3 (some .boolean) ws Rm4_30 #[(.ref o), (.int (0 : Int32)), (.int w1)] h0 (fun v h => v = some (.int 1) ∧ h0 = h) := by
  refine enter (Ls := #[.val (.ref o), .val (.int (0 : Int32)), .val (.int w1)]) (plainFor_of_name pn1) (fun m => by first | (simp [entryFrame, mkF, argsToLocals, Value.category]; done) | rfl) ?_
  intro p e s m below meth c T0 hx hby hml hown hnm hret hlk hZ X0
  show Go p.tables e below _ (T0.setTop (mkF m 0 #[.val (.ref o), .val (.int (0 : Int32)), .val (.int w1)] []))
  refine Go.by (fun _ => XS.aloadN X0.here hx rfl (hb hby d4_0) rfl rfl) ?_
  show Go p.tables e below _ (T0.setTop (mkF m 1 #[.val (.ref o), .val (.int (0 : Int32)), .val (.int w1)] [(.ref o)]))
  refine Go.by (fun _ => XS.ifnullNo X0.here hx rfl (hb hby d4_1) rfl) ?_
  show Go p.tables e below _ (T0.setTop (mkF m 4 #[.val (.ref o), .val (.int (0 : Int32)), .val (.int w1)] []))
  refine Go.by (fun _ => XS.aloadN X0.here hx rfl (hb hby d4_4) rfl rfl) ?_
  show Go p.tables e below _ (T0.setTop (mkF m 5 #[.val (.ref o), .val (.int (0 : Int32)), .val (.int w1)] [(.ref o)]))
  refine Go.by (X0.len hx hZ V_o (z := (3 : Int32)) rfl (g := (mkF m 5 #[.val (.ref o), .val (.int (0 : Int32)), .val (.int w1)] [(.ref o)])) rfl rfl (hb hby d4_5)) ?_
  show Go p.tables e below _ (T0.setTop (mkF m 6 #[.val (.ref o), .val (.int (0 : Int32)), .val (.int w1)] [(.int (3 : Int32))]))
  refine Go.by (fun _ => XS.iloadN X0.here hx rfl (hb hby d4_6) rfl) ?_
  show Go p.tables e below _ (T0.setTop (mkF m 7 #[.val (.ref o), .val (.int (0 : Int32)), .val (.int w1)] [(.int (0 : Int32)), (.int (3 : Int32))]))
  refine Go.by (fun _ => XS.icmpYes X0.here hx rfl (pc0 := 7) (pc' := 12) rfl (hb hby d4_7) rfl (flt (by decide)).2.1 (by decide) (by decide)) ?_
  show Go p.tables e below _ (T0.setTop (mkF m 12 #[.val (.ref o), .val (.int (0 : Int32)), .val (.int w1)] []))
  refine Go.by (fun _ => XS.aloadN X0.here hx rfl (hb hby d4_12) rfl rfl) ?_
  show Go p.tables e below _ (T0.setTop (mkF m 13 #[.val (.ref o), .val (.int (0 : Int32)), .val (.int w1)] [(.ref o)]))
  refine Go.by (fun _ => XS.iconst X0.here hx rfl (hb hby d4_13)) ?_
  show Go p.tables e below _ (T0.setTop (mkF m 14 #[.val (.ref o), .val (.int (0 : Int32)), .val (.int w1)] [(.int (0 : Int32)), (.ref o)]))
  refine Go.by (fun _ => XS.iloadN X0.here hx rfl (hb hby d4_14) rfl) ?_
  show Go p.tables e below _ (T0.setTop (mkF m 15 #[.val (.ref o), .val (.int (0 : Int32)), .val (.int w1)] [(.int (0 : Int32)), (.int (0 : Int32)), (.ref o)]))
  refine Go.by (fun _ => XS.iloadN X0.here hx rfl (hb hby d4_15) rfl) ?_
  show Go p.tables e below _ (T0.setTop (mkF m 16 #[.val (.ref o), .val (.int (0 : Int32)), .val (.int w1)] [(.int w1), (.int (0 : Int32)), (.int (0 : Int32)), (.ref o)]))
  obtain ⟨v1, T1, h1, X1, q1, st1⟩ := X0.callS hx hZ (y := (⟨"com/example/bitstrata/bitstrata/bitmap/WorkspaceVectorsPinLaw", "row", "([[JIII)Z"⟩ : MethodName)) hown (tw hw 22 rfl) (tw hw 23 rfl) (tw hw 20 rfl) (tw hw 24 rfl) (by decide) (rm5_00 l Z a0 hw [] o w1 h0 n0 Z0) (g := (mkF m 16 #[.val (.ref o), .val (.int (0 : Int32)), .val (.int w1)] [(.int w1), (.int (0 : Int32)), (.int (0 : Int32)), (.ref o)])) rfl (by rw [hml]; rfl) (argsL := [(.ref o), (.int (0 : Int32)), (.int (0 : Int32)), (.int w1)]) (rest := []) (lenOf pd0 rfl) rfl (hb hby d4_16) rfl (by decide) (Nat.le_of_ble_eq_true rfl) (k' := 0) (n' := 0) rfl rfl (by decide) (by decide)
  refine Go.by st1 ?_
  obtain ⟨rfl, rfl⟩ := q1
  show Go p.tables e below _ (T1.setTop (mkF m 19 #[.val (.ref o), .val (.int (0 : Int32)), .val (.int w1)] [(.int (1 : Int32))]))
  refine Go.by (fun _ => XS.ifNo X1.here hx rfl (hb hby d4_19) rfl ((if0 _ _).trans (feq (by decide)).1)) ?_
  show Go p.tables e below _ (T1.setTop (mkF m 22 #[.val (.ref o), .val (.int (0 : Int32)), .val (.int w1)] []))
  refine Go.by (fun _ => XS.aloadN X1.here hx rfl (hb hby d4_22) rfl rfl) ?_
  show Go p.tables e below _ (T1.setTop (mkF m 23 #[.val (.ref o), .val (.int (0 : Int32)), .val (.int w1)] [(.ref o)]))
  refine Go.by (fun _ => XS.iconst X1.here hx rfl (hb hby d4_23)) ?_
  show Go p.tables e below _ (T1.setTop (mkF m 24 #[.val (.ref o), .val (.int (0 : Int32)), .val (.int w1)] [(.int (1 : Int32)), (.ref o)]))
  refine Go.by (fun _ => XS.iloadN X1.here hx rfl (hb hby d4_24) rfl) ?_
  show Go p.tables e below _ (T1.setTop (mkF m 25 #[.val (.ref o), .val (.int (0 : Int32)), .val (.int w1)] [(.int (0 : Int32)), (.int (1 : Int32)), (.ref o)]))
  refine Go.by (fun _ => XS.iloadN X1.here hx rfl (hb hby d4_25) rfl) ?_
  show Go p.tables e below _ (T1.setTop (mkF m 26 #[.val (.ref o), .val (.int (0 : Int32)), .val (.int w1)] [(.int w1), (.int (0 : Int32)), (.int (1 : Int32)), (.ref o)]))
  obtain ⟨v2, T2, h2, X2, q2, st2⟩ := X1.callS hx hZ (y := (⟨"com/example/bitstrata/bitstrata/bitmap/WorkspaceVectorsPinLaw", "row", "([[JIII)Z"⟩ : MethodName)) hown (tw hw 22 rfl) (tw hw 23 rfl) (tw hw 20 rfl) (tw hw 24 rfl) (by decide) (rm5_10 l Z a0 hw [] o w1 h0 n0 Z0) (g := (mkF m 26 #[.val (.ref o), .val (.int (0 : Int32)), .val (.int w1)] [(.int w1), (.int (0 : Int32)), (.int (1 : Int32)), (.ref o)])) rfl (by rw [hml]; rfl) (argsL := [(.ref o), (.int (1 : Int32)), (.int (0 : Int32)), (.int w1)]) (rest := []) (lenOf pd0 rfl) rfl (hb hby d4_26) rfl (by decide) (Nat.le_of_ble_eq_true rfl) (k' := 0) (n' := 0) rfl rfl (by decide) (by decide)
  refine Go.by st2 ?_
  obtain ⟨rfl, rfl⟩ := q2
  show Go p.tables e below _ (T2.setTop (mkF m 29 #[.val (.ref o), .val (.int (0 : Int32)), .val (.int w1)] [(.int (1 : Int32))]))
  refine Go.by (fun _ => XS.ifNo X2.here hx rfl (hb hby d4_29) rfl ((if0 _ _).trans (feq (by decide)).1)) ?_
  show Go p.tables e below _ (T2.setTop (mkF m 32 #[.val (.ref o), .val (.int (0 : Int32)), .val (.int w1)] []))
  refine Go.by (fun _ => XS.aloadN X2.here hx rfl (hb hby d4_32) rfl rfl) ?_
  show Go p.tables e below _ (T2.setTop (mkF m 33 #[.val (.ref o), .val (.int (0 : Int32)), .val (.int w1)] [(.ref o)]))
  refine Go.by (fun _ => XS.iconst X2.here hx rfl (hb hby d4_33)) ?_
  show Go p.tables e below _ (T2.setTop (mkF m 34 #[.val (.ref o), .val (.int (0 : Int32)), .val (.int w1)] [(.int (2 : Int32)), (.ref o)]))
  refine Go.by (fun _ => XS.iloadN X2.here hx rfl (hb hby d4_34) rfl) ?_
  show Go p.tables e below _ (T2.setTop (mkF m 35 #[.val (.ref o), .val (.int (0 : Int32)), .val (.int w1)] [(.int (0 : Int32)), (.int (2 : Int32)), (.ref o)]))
  refine Go.by (fun _ => XS.iloadN X2.here hx rfl (hb hby d4_35) rfl) ?_
  show Go p.tables e below _ (T2.setTop (mkF m 36 #[.val (.ref o), .val (.int (0 : Int32)), .val (.int w1)] [(.int w1), (.int (0 : Int32)), (.int (2 : Int32)), (.ref o)]))
  obtain ⟨v3, T3, h3, X3, q3, st3⟩ := X2.callS hx hZ (y := (⟨"com/example/bitstrata/bitstrata/bitmap/WorkspaceVectorsPinLaw", "row", "([[JIII)Z"⟩ : MethodName)) hown (tw hw 22 rfl) (tw hw 23 rfl) (tw hw 20 rfl) (tw hw 24 rfl) (by decide) (rm5_20 l Z a0 hw [] o w1 h0 n0 Z0) (g := (mkF m 36 #[.val (.ref o), .val (.int (0 : Int32)), .val (.int w1)] [(.int w1), (.int (0 : Int32)), (.int (2 : Int32)), (.ref o)])) rfl (by rw [hml]; rfl) (argsL := [(.ref o), (.int (2 : Int32)), (.int (0 : Int32)), (.int w1)]) (rest := []) (lenOf pd0 rfl) rfl (hb hby d4_36) rfl (by decide) (Nat.le_of_ble_eq_true rfl) (k' := 0) (n' := 0) rfl rfl (by decide) (by decide)
  refine Go.by st3 ?_
  obtain ⟨rfl, rfl⟩ := q3
  show Go p.tables e below _ (T3.setTop (mkF m 39 #[.val (.ref o), .val (.int (0 : Int32)), .val (.int w1)] [(.int (1 : Int32))]))
  refine Go.by (fun _ => XS.ifYes X3.here hx rfl (pc0 := 39) (pc' := 44) rfl (hb hby d4_39) rfl ((if0 _ _).trans (feq (by decide)).2) (by decide) (by decide)) ?_
  show Go p.tables e below _ (T3.setTop (mkF m 44 #[.val (.ref o), .val (.int (0 : Int32)), .val (.int w1)] []))
  refine Go.by (fun _ => XS.iloadN X3.here hx rfl (hb hby d4_44) rfl) ?_
  show Go p.tables e below _ (T3.setTop (mkF m 45 #[.val (.ref o), .val (.int (0 : Int32)), .val (.int w1)] [(.int (0 : Int32))]))
  refine Go.by (fun _ => XS.iconst X3.here hx rfl (hb hby d4_45)) ?_
  show Go p.tables e below _ (T3.setTop (mkF m 46 #[.val (.ref o), .val (.int (0 : Int32)), .val (.int w1)] [(.int (2 : Int32)), (.int (0 : Int32))]))
  refine Go.by (fun _ => XS.icmpYes X3.here hx rfl (pc0 := 46) (pc' := 60) rfl (hb hby d4_46) rfl (tlt (by decide)).1 (by decide) (by decide)) ?_
  show Go p.tables e below _ (T3.setTop (mkF m 60 #[.val (.ref o), .val (.int (0 : Int32)), .val (.int w1)] []))
  refine Go.by (fun _ => XS.iloadN X3.here hx rfl (hb hby d4_60) rfl) ?_
  show Go p.tables e below _ (T3.setTop (mkF m 61 #[.val (.ref o), .val (.int (0 : Int32)), .val (.int w1)] [(.int (0 : Int32))]))
  refine Go.by (fun _ => XS.iconst X3.here hx rfl (hb hby d4_61)) ?_
  show Go p.tables e below _ (T3.setTop (mkF m 62 #[.val (.ref o), .val (.int (0 : Int32)), .val (.int w1)] [(.int (3 : Int32)), (.int (0 : Int32))]))
  refine Go.by (fun _ => XS.icmpYes X3.here hx rfl (pc0 := 62) (pc' := 85) rfl (hb hby d4_62) rfl (tlt (by decide)).1 (by decide) (by decide)) ?_
  show Go p.tables e below _ (T3.setTop (mkF m 85 #[.val (.ref o), .val (.int (0 : Int32)), .val (.int w1)] []))
  refine Go.by (fun _ => XS.iconst X3.here hx rfl (hb hby d4_85)) ?_
  show Go p.tables e below _ (T3.setTop (mkF m 86 #[.val (.ref o), .val (.int (0 : Int32)), .val (.int w1)] [(.int (1 : Int32))]))
  exact Go.retN X3 hx hlk (z' := (1 : Int32)) hret (by simp) (hb hby d4_86) rfl (by decide) (by decide) ⟨rfl, rfl⟩
abbrev Rm4_31 : Room := { frames := 1, cells := 0, slots := 0, locals := 15 }
set_option maxRecDepth 65536 in
set_option maxHeartbeats 40000000 in
theorem rm4_31 (l : Launch) (Z : State) (a0 : Array Value) (hw : ∀ d ∈ tables_1, d.before a0 Z = true) (ws : List Jvm.Cond) (o : Addr) (w1 : Int32) (kO kd : ClassId) (fo : Nat → Value) (sz : Nat) (x0 : Addr) (h0 : Heap) (n0 : Nat) (Z0 : n0 ≤ h0.size) (V_o : Avf Z h0 o kO (.array .long) 3 fo) (hsz : sz.toInt32 = w1) (hf0 : fo 0 = .ref x0) (V_x0 : Avf Z h0 x0 kd .long sz (fun _ => (.long 0))) :
    Met l Z n0 (⟨"com/example/bitstrata/bitstrata/bitmap/WorkspaceVectorsPinLaw", "shaped", "([[JII)Z"⟩ : MethodName) method_3_code 3 (some .boolean) ws Rm4_31 #[(.ref o), (.int (1 : Int32)), (.int w1)] h0 (fun v h => v = some (.int 1) ∧ h0 = h) := by
  refine enter (Ls := #[.val (.ref o), .val (.int (1 : Int32)), .val (.int w1)]) (plainFor_of_name pn1) (fun m => by first | (simp [entryFrame, mkF, argsToLocals, Value.category]; done) | rfl) ?_
  intro p e s m below meth c T0 hx hby hml hown hnm hret hlk hZ X0
  show Go p.tables e below _ (T0.setTop (mkF m 0 #[.val (.ref o), .val (.int (1 : Int32)), .val (.int w1)] []))
  refine Go.by (fun _ => XS.aloadN X0.here hx rfl (hb hby d4_0) rfl rfl) ?_
  show Go p.tables e below _ (T0.setTop (mkF m 1 #[.val (.ref o), .val (.int (1 : Int32)), .val (.int w1)] [(.ref o)]))
  refine Go.by (fun _ => XS.ifnullNo X0.here hx rfl (hb hby d4_1) rfl) ?_
  show Go p.tables e below _ (T0.setTop (mkF m 4 #[.val (.ref o), .val (.int (1 : Int32)), .val (.int w1)] []))
  refine Go.by (fun _ => XS.aloadN X0.here hx rfl (hb hby d4_4) rfl rfl) ?_
  show Go p.tables e below _ (T0.setTop (mkF m 5 #[.val (.ref o), .val (.int (1 : Int32)), .val (.int w1)] [(.ref o)]))
  refine Go.by (X0.len hx hZ V_o (z := (3 : Int32)) rfl (g := (mkF m 5 #[.val (.ref o), .val (.int (1 : Int32)), .val (.int w1)] [(.ref o)])) rfl rfl (hb hby d4_5)) ?_
  show Go p.tables e below _ (T0.setTop (mkF m 6 #[.val (.ref o), .val (.int (1 : Int32)), .val (.int w1)] [(.int (3 : Int32))]))
  refine Go.by (fun _ => XS.iloadN X0.here hx rfl (hb hby d4_6) rfl) ?_
  show Go p.tables e below _ (T0.setTop (mkF m 7 #[.val (.ref o), .val (.int (1 : Int32)), .val (.int w1)] [(.int (1 : Int32)), (.int (3 : Int32))]))
  refine Go.by (fun _ => XS.icmpYes X0.here hx rfl (pc0 := 7) (pc' := 12) rfl (hb hby d4_7) rfl (flt (by decide)).2.1 (by decide) (by decide)) ?_
  show Go p.tables e below _ (T0.setTop (mkF m 12 #[.val (.ref o), .val (.int (1 : Int32)), .val (.int w1)] []))
  refine Go.by (fun _ => XS.aloadN X0.here hx rfl (hb hby d4_12) rfl rfl) ?_
  show Go p.tables e below _ (T0.setTop (mkF m 13 #[.val (.ref o), .val (.int (1 : Int32)), .val (.int w1)] [(.ref o)]))
  refine Go.by (fun _ => XS.iconst X0.here hx rfl (hb hby d4_13)) ?_
  show Go p.tables e below _ (T0.setTop (mkF m 14 #[.val (.ref o), .val (.int (1 : Int32)), .val (.int w1)] [(.int (0 : Int32)), (.ref o)]))
  refine Go.by (fun _ => XS.iloadN X0.here hx rfl (hb hby d4_14) rfl) ?_
  show Go p.tables e below _ (T0.setTop (mkF m 15 #[.val (.ref o), .val (.int (1 : Int32)), .val (.int w1)] [(.int (1 : Int32)), (.int (0 : Int32)), (.ref o)]))
  refine Go.by (fun _ => XS.iloadN X0.here hx rfl (hb hby d4_15) rfl) ?_
  show Go p.tables e below _ (T0.setTop (mkF m 16 #[.val (.ref o), .val (.int (1 : Int32)), .val (.int w1)] [(.int w1), (.int (1 : Int32)), (.int (0 : Int32)), (.ref o)]))
  obtain ⟨v1, T1, h1, X1, q1, st1⟩ := X0.callS hx hZ (y := (⟨"com/example/bitstrata/bitstrata/bitmap/WorkspaceVectorsPinLaw", "row", "([[JIII)Z"⟩ : MethodName)) hown (tw hw 22 rfl) (tw hw 23 rfl) (tw hw 20 rfl) (tw hw 24 rfl) (by decide) (rm5_3_01 l Z a0 hw [] o w1 kO kd fo x0 sz h0 n0 Z0 V_o hf0 V_x0 hsz) (g := (mkF m 16 #[.val (.ref o), .val (.int (1 : Int32)), .val (.int w1)] [(.int w1), (.int (1 : Int32)), (.int (0 : Int32)), (.ref o)])) rfl (by rw [hml]; rfl) (argsL := [(.ref o), (.int (0 : Int32)), (.int (1 : Int32)), (.int w1)]) (rest := []) (lenOf pd0 rfl) rfl (hb hby d4_16) rfl (by decide) (Nat.le_of_ble_eq_true rfl) (k' := 0) (n' := 0) rfl rfl (by decide) (by decide)
  refine Go.by st1 ?_
  obtain ⟨rfl, rfl⟩ := q1
  show Go p.tables e below _ (T1.setTop (mkF m 19 #[.val (.ref o), .val (.int (1 : Int32)), .val (.int w1)] [(.int (1 : Int32))]))
  refine Go.by (fun _ => XS.ifNo X1.here hx rfl (hb hby d4_19) rfl ((if0 _ _).trans (feq (by decide)).1)) ?_
  show Go p.tables e below _ (T1.setTop (mkF m 22 #[.val (.ref o), .val (.int (1 : Int32)), .val (.int w1)] []))
  refine Go.by (fun _ => XS.aloadN X1.here hx rfl (hb hby d4_22) rfl rfl) ?_
  show Go p.tables e below _ (T1.setTop (mkF m 23 #[.val (.ref o), .val (.int (1 : Int32)), .val (.int w1)] [(.ref o)]))
  refine Go.by (fun _ => XS.iconst X1.here hx rfl (hb hby d4_23)) ?_
  show Go p.tables e below _ (T1.setTop (mkF m 24 #[.val (.ref o), .val (.int (1 : Int32)), .val (.int w1)] [(.int (1 : Int32)), (.ref o)]))
  refine Go.by (fun _ => XS.iloadN X1.here hx rfl (hb hby d4_24) rfl) ?_
  show Go p.tables e below _ (T1.setTop (mkF m 25 #[.val (.ref o), .val (.int (1 : Int32)), .val (.int w1)] [(.int (1 : Int32)), (.int (1 : Int32)), (.ref o)]))
  refine Go.by (fun _ => XS.iloadN X1.here hx rfl (hb hby d4_25) rfl) ?_
  show Go p.tables e below _ (T1.setTop (mkF m 26 #[.val (.ref o), .val (.int (1 : Int32)), .val (.int w1)] [(.int w1), (.int (1 : Int32)), (.int (1 : Int32)), (.ref o)]))
  obtain ⟨v2, T2, h2, X2, q2, st2⟩ := X1.callS hx hZ (y := (⟨"com/example/bitstrata/bitstrata/bitmap/WorkspaceVectorsPinLaw", "row", "([[JIII)Z"⟩ : MethodName)) hown (tw hw 22 rfl) (tw hw 23 rfl) (tw hw 20 rfl) (tw hw 24 rfl) (by decide) (rm5_11 l Z a0 hw [] o w1 h0 n0 Z0) (g := (mkF m 26 #[.val (.ref o), .val (.int (1 : Int32)), .val (.int w1)] [(.int w1), (.int (1 : Int32)), (.int (1 : Int32)), (.ref o)])) rfl (by rw [hml]; rfl) (argsL := [(.ref o), (.int (1 : Int32)), (.int (1 : Int32)), (.int w1)]) (rest := []) (lenOf pd0 rfl) rfl (hb hby d4_26) rfl (by decide) (Nat.le_of_ble_eq_true rfl) (k' := 0) (n' := 0) rfl rfl (by decide) (by decide)
  refine Go.by st2 ?_
  obtain ⟨rfl, rfl⟩ := q2
  show Go p.tables e below _ (T2.setTop (mkF m 29 #[.val (.ref o), .val (.int (1 : Int32)), .val (.int w1)] [(.int (1 : Int32))]))
  refine Go.by (fun _ => XS.ifNo X2.here hx rfl (hb hby d4_29) rfl ((if0 _ _).trans (feq (by decide)).1)) ?_
  show Go p.tables e below _ (T2.setTop (mkF m 32 #[.val (.ref o), .val (.int (1 : Int32)), .val (.int w1)] []))
  refine Go.by (fun _ => XS.aloadN X2.here hx rfl (hb hby d4_32) rfl rfl) ?_
  show Go p.tables e below _ (T2.setTop (mkF m 33 #[.val (.ref o), .val (.int (1 : Int32)), .val (.int w1)] [(.ref o)]))
  refine Go.by (fun _ => XS.iconst X2.here hx rfl (hb hby d4_33)) ?_
  show Go p.tables e below _ (T2.setTop (mkF m 34 #[.val (.ref o), .val (.int (1 : Int32)), .val (.int w1)] [(.int (2 : Int32)), (.ref o)]))
  refine Go.by (fun _ => XS.iloadN X2.here hx rfl (hb hby d4_34) rfl) ?_
  show Go p.tables e below _ (T2.setTop (mkF m 35 #[.val (.ref o), .val (.int (1 : Int32)), .val (.int w1)] [(.int (1 : Int32)), (.int (2 : Int32)), (.ref o)]))
  refine Go.by (fun _ => XS.iloadN X2.here hx rfl (hb hby d4_35) rfl) ?_
  show Go p.tables e below _ (T2.setTop (mkF m 36 #[.val (.ref o), .val (.int (1 : Int32)), .val (.int w1)] [(.int w1), (.int (1 : Int32)), (.int (2 : Int32)), (.ref o)]))
  obtain ⟨v3, T3, h3, X3, q3, st3⟩ := X2.callS hx hZ (y := (⟨"com/example/bitstrata/bitstrata/bitmap/WorkspaceVectorsPinLaw", "row", "([[JIII)Z"⟩ : MethodName)) hown (tw hw 22 rfl) (tw hw 23 rfl) (tw hw 20 rfl) (tw hw 24 rfl) (by decide) (rm5_21 l Z a0 hw [] o w1 h0 n0 Z0) (g := (mkF m 36 #[.val (.ref o), .val (.int (1 : Int32)), .val (.int w1)] [(.int w1), (.int (1 : Int32)), (.int (2 : Int32)), (.ref o)])) rfl (by rw [hml]; rfl) (argsL := [(.ref o), (.int (2 : Int32)), (.int (1 : Int32)), (.int w1)]) (rest := []) (lenOf pd0 rfl) rfl (hb hby d4_36) rfl (by decide) (Nat.le_of_ble_eq_true rfl) (k' := 0) (n' := 0) rfl rfl (by decide) (by decide)
  refine Go.by st3 ?_
  obtain ⟨rfl, rfl⟩ := q3
  show Go p.tables e below _ (T3.setTop (mkF m 39 #[.val (.ref o), .val (.int (1 : Int32)), .val (.int w1)] [(.int (1 : Int32))]))
  refine Go.by (fun _ => XS.ifYes X3.here hx rfl (pc0 := 39) (pc' := 44) rfl (hb hby d4_39) rfl ((if0 _ _).trans (feq (by decide)).2) (by decide) (by decide)) ?_
  show Go p.tables e below _ (T3.setTop (mkF m 44 #[.val (.ref o), .val (.int (1 : Int32)), .val (.int w1)] []))
  refine Go.by (fun _ => XS.iloadN X3.here hx rfl (hb hby d4_44) rfl) ?_
  show Go p.tables e below _ (T3.setTop (mkF m 45 #[.val (.ref o), .val (.int (1 : Int32)), .val (.int w1)] [(.int (1 : Int32))]))
  refine Go.by (fun _ => XS.iconst X3.here hx rfl (hb hby d4_45)) ?_
  show Go p.tables e below _ (T3.setTop (mkF m 46 #[.val (.ref o), .val (.int (1 : Int32)), .val (.int w1)] [(.int (2 : Int32)), (.int (1 : Int32))]))
  refine Go.by (fun _ => XS.icmpYes X3.here hx rfl (pc0 := 46) (pc' := 60) rfl (hb hby d4_46) rfl (tlt (by decide)).1 (by decide) (by decide)) ?_
  show Go p.tables e below _ (T3.setTop (mkF m 60 #[.val (.ref o), .val (.int (1 : Int32)), .val (.int w1)] []))
  refine Go.by (fun _ => XS.iloadN X3.here hx rfl (hb hby d4_60) rfl) ?_
  show Go p.tables e below _ (T3.setTop (mkF m 61 #[.val (.ref o), .val (.int (1 : Int32)), .val (.int w1)] [(.int (1 : Int32))]))
  refine Go.by (fun _ => XS.iconst X3.here hx rfl (hb hby d4_61)) ?_
  show Go p.tables e below _ (T3.setTop (mkF m 62 #[.val (.ref o), .val (.int (1 : Int32)), .val (.int w1)] [(.int (3 : Int32)), (.int (1 : Int32))]))
  refine Go.by (fun _ => XS.icmpYes X3.here hx rfl (pc0 := 62) (pc' := 85) rfl (hb hby d4_62) rfl (tlt (by decide)).1 (by decide) (by decide)) ?_
  show Go p.tables e below _ (T3.setTop (mkF m 85 #[.val (.ref o), .val (.int (1 : Int32)), .val (.int w1)] []))
  refine Go.by (fun _ => XS.iconst X3.here hx rfl (hb hby d4_85)) ?_
  show Go p.tables e below _ (T3.setTop (mkF m 86 #[.val (.ref o), .val (.int (1 : Int32)), .val (.int w1)] [(.int (1 : Int32))]))
  exact Go.retN X3 hx hlk (z' := (1 : Int32)) hret (by simp) (hb hby d4_86) rfl (by decide) (by decide) ⟨rfl, rfl⟩
abbrev Rm4_32 : Room := { frames := 1, cells := 0, slots := 0, locals := 15 }
set_option maxRecDepth 65536 in
set_option maxHeartbeats 40000000 in
theorem rm4_32 (l : Launch) (Z : State) (a0 : Array Value) (hw : ∀ d ∈ tables_1, d.before a0 Z = true) (ws : List Jvm.Cond) (o : Addr) (w1 : Int32) (kO kd : ClassId) (fo : Nat → Value) (sz : Nat) (x0 x1 : Addr) (h0 : Heap) (n0 : Nat) (Z0 : n0 ≤ h0.size) (V_o : Avf Z h0 o kO (.array .long) 3 fo) (hsz : sz.toInt32 = w1) (hf0 : fo 0 = .ref x0) (V_x0 : Avf Z h0 x0 kd .long sz (fun _ => (.long 0))) (hf1 : fo 1 = .ref x1) (V_x1 : Avf Z h0 x1 kd .long sz (fun _ => (.long 0))) (n01 : x0 ≠ x1) :
    Met l Z n0 (⟨"com/example/bitstrata/bitstrata/bitmap/WorkspaceVectorsPinLaw", "shaped", "([[JII)Z"⟩ : MethodName) method_3_code 3 (some .boolean) ws Rm4_32 #[(.ref o), (.int (2 : Int32)), (.int w1)] h0 (fun v h => v = some (.int 1) ∧ h0 = h) := by
  refine enter (Ls := #[.val (.ref o), .val (.int (2 : Int32)), .val (.int w1)]) (plainFor_of_name pn1) (fun m => by first | (simp [entryFrame, mkF, argsToLocals, Value.category]; done) | rfl) ?_
  intro p e s m below meth c T0 hx hby hml hown hnm hret hlk hZ X0
  show Go p.tables e below _ (T0.setTop (mkF m 0 #[.val (.ref o), .val (.int (2 : Int32)), .val (.int w1)] []))
  refine Go.by (fun _ => XS.aloadN X0.here hx rfl (hb hby d4_0) rfl rfl) ?_
  show Go p.tables e below _ (T0.setTop (mkF m 1 #[.val (.ref o), .val (.int (2 : Int32)), .val (.int w1)] [(.ref o)]))
  refine Go.by (fun _ => XS.ifnullNo X0.here hx rfl (hb hby d4_1) rfl) ?_
  show Go p.tables e below _ (T0.setTop (mkF m 4 #[.val (.ref o), .val (.int (2 : Int32)), .val (.int w1)] []))
  refine Go.by (fun _ => XS.aloadN X0.here hx rfl (hb hby d4_4) rfl rfl) ?_
  show Go p.tables e below _ (T0.setTop (mkF m 5 #[.val (.ref o), .val (.int (2 : Int32)), .val (.int w1)] [(.ref o)]))
  refine Go.by (X0.len hx hZ V_o (z := (3 : Int32)) rfl (g := (mkF m 5 #[.val (.ref o), .val (.int (2 : Int32)), .val (.int w1)] [(.ref o)])) rfl rfl (hb hby d4_5)) ?_
  show Go p.tables e below _ (T0.setTop (mkF m 6 #[.val (.ref o), .val (.int (2 : Int32)), .val (.int w1)] [(.int (3 : Int32))]))
  refine Go.by (fun _ => XS.iloadN X0.here hx rfl (hb hby d4_6) rfl) ?_
  show Go p.tables e below _ (T0.setTop (mkF m 7 #[.val (.ref o), .val (.int (2 : Int32)), .val (.int w1)] [(.int (2 : Int32)), (.int (3 : Int32))]))
  refine Go.by (fun _ => XS.icmpYes X0.here hx rfl (pc0 := 7) (pc' := 12) rfl (hb hby d4_7) rfl (flt (by decide)).2.1 (by decide) (by decide)) ?_
  show Go p.tables e below _ (T0.setTop (mkF m 12 #[.val (.ref o), .val (.int (2 : Int32)), .val (.int w1)] []))
  refine Go.by (fun _ => XS.aloadN X0.here hx rfl (hb hby d4_12) rfl rfl) ?_
  show Go p.tables e below _ (T0.setTop (mkF m 13 #[.val (.ref o), .val (.int (2 : Int32)), .val (.int w1)] [(.ref o)]))
  refine Go.by (fun _ => XS.iconst X0.here hx rfl (hb hby d4_13)) ?_
  show Go p.tables e below _ (T0.setTop (mkF m 14 #[.val (.ref o), .val (.int (2 : Int32)), .val (.int w1)] [(.int (0 : Int32)), (.ref o)]))
  refine Go.by (fun _ => XS.iloadN X0.here hx rfl (hb hby d4_14) rfl) ?_
  show Go p.tables e below _ (T0.setTop (mkF m 15 #[.val (.ref o), .val (.int (2 : Int32)), .val (.int w1)] [(.int (2 : Int32)), (.int (0 : Int32)), (.ref o)]))
  refine Go.by (fun _ => XS.iloadN X0.here hx rfl (hb hby d4_15) rfl) ?_
  show Go p.tables e below _ (T0.setTop (mkF m 16 #[.val (.ref o), .val (.int (2 : Int32)), .val (.int w1)] [(.int w1), (.int (2 : Int32)), (.int (0 : Int32)), (.ref o)]))
  obtain ⟨v1, T1, h1, X1, q1, st1⟩ := X0.callS hx hZ (y := (⟨"com/example/bitstrata/bitstrata/bitmap/WorkspaceVectorsPinLaw", "row", "([[JIII)Z"⟩ : MethodName)) hown (tw hw 22 rfl) (tw hw 23 rfl) (tw hw 20 rfl) (tw hw 24 rfl) (by decide) (rm5_3_02 l Z a0 hw [] o w1 kO kd fo x0 sz h0 n0 Z0 V_o hf0 V_x0 hsz) (g := (mkF m 16 #[.val (.ref o), .val (.int (2 : Int32)), .val (.int w1)] [(.int w1), (.int (2 : Int32)), (.int (0 : Int32)), (.ref o)])) rfl (by rw [hml]; rfl) (argsL := [(.ref o), (.int (0 : Int32)), (.int (2 : Int32)), (.int w1)]) (rest := []) (lenOf pd0 rfl) rfl (hb hby d4_16) rfl (by decide) (Nat.le_of_ble_eq_true rfl) (k' := 0) (n' := 0) rfl rfl (by decide) (by decide)
  refine Go.by st1 ?_
  obtain ⟨rfl, rfl⟩ := q1
  show Go p.tables e below _ (T1.setTop (mkF m 19 #[.val (.ref o), .val (.int (2 : Int32)), .val (.int w1)] [(.int (1 : Int32))]))
  refine Go.by (fun _ => XS.ifNo X1.here hx rfl (hb hby d4_19) rfl ((if0 _ _).trans (feq (by decide)).1)) ?_
  show Go p.tables e below _ (T1.setTop (mkF m 22 #[.val (.ref o), .val (.int (2 : Int32)), .val (.int w1)] []))
  refine Go.by (fun _ => XS.aloadN X1.here hx rfl (hb hby d4_22) rfl rfl) ?_
  show Go p.tables e below _ (T1.setTop (mkF m 23 #[.val (.ref o), .val (.int (2 : Int32)), .val (.int w1)] [(.ref o)]))
  refine Go.by (fun _ => XS.iconst X1.here hx rfl (hb hby d4_23)) ?_
  show Go p.tables e below _ (T1.setTop (mkF m 24 #[.val (.ref o), .val (.int (2 : Int32)), .val (.int w1)] [(.int (1 : Int32)), (.ref o)]))
  refine Go.by (fun _ => XS.iloadN X1.here hx rfl (hb hby d4_24) rfl) ?_
  show Go p.tables e below _ (T1.setTop (mkF m 25 #[.val (.ref o), .val (.int (2 : Int32)), .val (.int w1)] [(.int (2 : Int32)), (.int (1 : Int32)), (.ref o)]))
  refine Go.by (fun _ => XS.iloadN X1.here hx rfl (hb hby d4_25) rfl) ?_
  show Go p.tables e below _ (T1.setTop (mkF m 26 #[.val (.ref o), .val (.int (2 : Int32)), .val (.int w1)] [(.int w1), (.int (2 : Int32)), (.int (1 : Int32)), (.ref o)]))
  obtain ⟨v2, T2, h2, X2, q2, st2⟩ := X1.callS hx hZ (y := (⟨"com/example/bitstrata/bitstrata/bitmap/WorkspaceVectorsPinLaw", "row", "([[JIII)Z"⟩ : MethodName)) hown (tw hw 22 rfl) (tw hw 23 rfl) (tw hw 20 rfl) (tw hw 24 rfl) (by decide) (rm5_3_12 l Z a0 hw [] o w1 kO kd fo x1 sz h0 n0 Z0 V_o hf1 V_x1 hsz) (g := (mkF m 26 #[.val (.ref o), .val (.int (2 : Int32)), .val (.int w1)] [(.int w1), (.int (2 : Int32)), (.int (1 : Int32)), (.ref o)])) rfl (by rw [hml]; rfl) (argsL := [(.ref o), (.int (1 : Int32)), (.int (2 : Int32)), (.int w1)]) (rest := []) (lenOf pd0 rfl) rfl (hb hby d4_26) rfl (by decide) (Nat.le_of_ble_eq_true rfl) (k' := 0) (n' := 0) rfl rfl (by decide) (by decide)
  refine Go.by st2 ?_
  obtain ⟨rfl, rfl⟩ := q2
  show Go p.tables e below _ (T2.setTop (mkF m 29 #[.val (.ref o), .val (.int (2 : Int32)), .val (.int w1)] [(.int (1 : Int32))]))
  refine Go.by (fun _ => XS.ifNo X2.here hx rfl (hb hby d4_29) rfl ((if0 _ _).trans (feq (by decide)).1)) ?_
  show Go p.tables e below _ (T2.setTop (mkF m 32 #[.val (.ref o), .val (.int (2 : Int32)), .val (.int w1)] []))
  refine Go.by (fun _ => XS.aloadN X2.here hx rfl (hb hby d4_32) rfl rfl) ?_
  show Go p.tables e below _ (T2.setTop (mkF m 33 #[.val (.ref o), .val (.int (2 : Int32)), .val (.int w1)] [(.ref o)]))
  refine Go.by (fun _ => XS.iconst X2.here hx rfl (hb hby d4_33)) ?_
  show Go p.tables e below _ (T2.setTop (mkF m 34 #[.val (.ref o), .val (.int (2 : Int32)), .val (.int w1)] [(.int (2 : Int32)), (.ref o)]))
  refine Go.by (fun _ => XS.iloadN X2.here hx rfl (hb hby d4_34) rfl) ?_
  show Go p.tables e below _ (T2.setTop (mkF m 35 #[.val (.ref o), .val (.int (2 : Int32)), .val (.int w1)] [(.int (2 : Int32)), (.int (2 : Int32)), (.ref o)]))
  refine Go.by (fun _ => XS.iloadN X2.here hx rfl (hb hby d4_35) rfl) ?_
  show Go p.tables e below _ (T2.setTop (mkF m 36 #[.val (.ref o), .val (.int (2 : Int32)), .val (.int w1)] [(.int w1), (.int (2 : Int32)), (.int (2 : Int32)), (.ref o)]))
  obtain ⟨v3, T3, h3, X3, q3, st3⟩ := X2.callS hx hZ (y := (⟨"com/example/bitstrata/bitstrata/bitmap/WorkspaceVectorsPinLaw", "row", "([[JIII)Z"⟩ : MethodName)) hown (tw hw 22 rfl) (tw hw 23 rfl) (tw hw 20 rfl) (tw hw 24 rfl) (by decide) (rm5_22 l Z a0 hw [] o w1 h0 n0 Z0) (g := (mkF m 36 #[.val (.ref o), .val (.int (2 : Int32)), .val (.int w1)] [(.int w1), (.int (2 : Int32)), (.int (2 : Int32)), (.ref o)])) rfl (by rw [hml]; rfl) (argsL := [(.ref o), (.int (2 : Int32)), (.int (2 : Int32)), (.int w1)]) (rest := []) (lenOf pd0 rfl) rfl (hb hby d4_36) rfl (by decide) (Nat.le_of_ble_eq_true rfl) (k' := 0) (n' := 0) rfl rfl (by decide) (by decide)
  refine Go.by st3 ?_
  obtain ⟨rfl, rfl⟩ := q3
  show Go p.tables e below _ (T3.setTop (mkF m 39 #[.val (.ref o), .val (.int (2 : Int32)), .val (.int w1)] [(.int (1 : Int32))]))
  refine Go.by (fun _ => XS.ifYes X3.here hx rfl (pc0 := 39) (pc' := 44) rfl (hb hby d4_39) rfl ((if0 _ _).trans (feq (by decide)).2) (by decide) (by decide)) ?_
  show Go p.tables e below _ (T3.setTop (mkF m 44 #[.val (.ref o), .val (.int (2 : Int32)), .val (.int w1)] []))
  refine Go.by (fun _ => XS.iloadN X3.here hx rfl (hb hby d4_44) rfl) ?_
  show Go p.tables e below _ (T3.setTop (mkF m 45 #[.val (.ref o), .val (.int (2 : Int32)), .val (.int w1)] [(.int (2 : Int32))]))
  refine Go.by (fun _ => XS.iconst X3.here hx rfl (hb hby d4_45)) ?_
  show Go p.tables e below _ (T3.setTop (mkF m 46 #[.val (.ref o), .val (.int (2 : Int32)), .val (.int w1)] [(.int (2 : Int32)), (.int (2 : Int32))]))
  refine Go.by (fun _ => XS.icmpNo X3.here hx rfl (hb hby d4_46) rfl (flt (by decide)).1) ?_
  show Go p.tables e below _ (T3.setTop (mkF m 49 #[.val (.ref o), .val (.int (2 : Int32)), .val (.int w1)] []))
  refine Go.by (fun _ => XS.aloadN X3.here hx rfl (hb hby d4_49) rfl rfl) ?_
  show Go p.tables e below _ (T3.setTop (mkF m 50 #[.val (.ref o), .val (.int (2 : Int32)), .val (.int w1)] [(.ref o)]))
  refine Go.by (fun _ => XS.iconst X3.here hx rfl (hb hby d4_50)) ?_
  show Go p.tables e below _ (T3.setTop (mkF m 51 #[.val (.ref o), .val (.int (2 : Int32)), .val (.int w1)] [(.int (0 : Int32)), (.ref o)]))
  refine Go.by (X3.ldA hx hZ V_o rfl (by decide) (i := 0) rfl (by decide) (v := (.ref x0)) hf0 (g := (mkF m 51 #[.val (.ref o), .val (.int (2 : Int32)), .val (.int w1)] [(.int (0 : Int32)), (.ref o)])) rfl rfl (hb hby d4_51)) ?_
  show Go p.tables e below _ (T3.setTop (mkF m 52 #[.val (.ref o), .val (.int (2 : Int32)), .val (.int w1)] [(.ref x0)]))
  refine Go.by (fun _ => XS.aloadN X3.here hx rfl (hb hby d4_52) rfl rfl) ?_
  show Go p.tables e below _ (T3.setTop (mkF m 53 #[.val (.ref o), .val (.int (2 : Int32)), .val (.int w1)] [(.ref o), (.ref x0)]))
  refine Go.by (fun _ => XS.iconst X3.here hx rfl (hb hby d4_53)) ?_
  show Go p.tables e below _ (T3.setTop (mkF m 54 #[.val (.ref o), .val (.int (2 : Int32)), .val (.int w1)] [(.int (1 : Int32)), (.ref o), (.ref x0)]))
  refine Go.by (X3.ldA hx hZ V_o rfl (by decide) (i := 1) rfl (by decide) (v := (.ref x1)) hf1 (g := (mkF m 54 #[.val (.ref o), .val (.int (2 : Int32)), .val (.int w1)] [(.int (1 : Int32)), (.ref o), (.ref x0)])) rfl rfl (hb hby d4_54)) ?_
  show Go p.tables e below _ (T3.setTop (mkF m 55 #[.val (.ref o), .val (.int (2 : Int32)), .val (.int w1)] [(.ref x1), (.ref x0)]))
  refine Go.by (X3.acmp (g := (mkF m 55 #[.val (.ref o), .val (.int (2 : Int32)), .val (.int w1)] [(.ref x1), (.ref x0)])) hx rfl rfl rfl (pc0 := 55) (pc' := 60) (same := false) rfl (hb hby d4_55) rfl (decide_eq_false fun q => n01 (Value.ref.inj q)) (by decide) (by decide)) ?_
  show Go p.tables e below _ (T3.setTop (mkF m 60 #[.val (.ref o), .val (.int (2 : Int32)), .val (.int w1)] []))
  refine Go.by (fun _ => XS.iloadN X3.here hx rfl (hb hby d4_60) rfl) ?_
  show Go p.tables e below _ (T3.setTop (mkF m 61 #[.val (.ref o), .val (.int (2 : Int32)), .val (.int w1)] [(.int (2 : Int32))]))
  refine Go.by (fun _ => XS.iconst X3.here hx rfl (hb hby d4_61)) ?_
  show Go p.tables e below _ (T3.setTop (mkF m 62 #[.val (.ref o), .val (.int (2 : Int32)), .val (.int w1)] [(.int (3 : Int32)), (.int (2 : Int32))]))
  refine Go.by (fun _ => XS.icmpYes X3.here hx rfl (pc0 := 62) (pc' := 85) rfl (hb hby d4_62) rfl (tlt (by decide)).1 (by decide) (by decide)) ?_
  show Go p.tables e below _ (T3.setTop (mkF m 85 #[.val (.ref o), .val (.int (2 : Int32)), .val (.int w1)] []))
  refine Go.by (fun _ => XS.iconst X3.here hx rfl (hb hby d4_85)) ?_
  show Go p.tables e below _ (T3.setTop (mkF m 86 #[.val (.ref o), .val (.int (2 : Int32)), .val (.int w1)] [(.int (1 : Int32))]))
  exact Go.retN X3 hx hlk (z' := (1 : Int32)) hret (by simp) (hb hby d4_86) rfl (by decide) (by decide) ⟨rfl, rfl⟩
theorem d4_65 : decode method_3_code 65 = .ok (.aload_n 0, 1) := by decide +kernel
theorem d4_66 : decode method_3_code 66 = .ok (.iconst 0, 1) := by decide +kernel
theorem d4_67 : decode method_3_code 67 = .ok (.aaload, 1) := by decide +kernel
theorem d4_68 : decode method_3_code 68 = .ok (.aload_n 0, 1) := by decide +kernel
theorem d4_69 : decode method_3_code 69 = .ok (.iconst 2, 1) := by decide +kernel
theorem d4_70 : decode method_3_code 70 = .ok (.aaload, 1) := by decide +kernel
theorem d4_71 : decode method_3_code 71 = .ok (.if_acmp .eq 12, 3) := by decide +kernel
theorem d4_74 : decode method_3_code 74 = .ok (.aload_n 0, 1) := by decide +kernel
theorem d4_75 : decode method_3_code 75 = .ok (.iconst 1, 1) := by decide +kernel
theorem d4_76 : decode method_3_code 76 = .ok (.aaload, 1) := by decide +kernel
theorem d4_77 : decode method_3_code 77 = .ok (.aload_n 0, 1) := by decide +kernel
theorem d4_78 : decode method_3_code 78 = .ok (.iconst 2, 1) := by decide +kernel
theorem d4_79 : decode method_3_code 79 = .ok (.aaload, 1) := by decide +kernel
theorem d4_80 : decode method_3_code 80 = .ok (.if_acmp .ne 5, 3) := by decide +kernel
abbrev Rm4_33 : Room := { frames := 1, cells := 0, slots := 0, locals := 15 }
set_option maxRecDepth 65536 in
set_option maxHeartbeats 40000000 in
theorem rm4_33 (l : Launch) (Z : State) (a0 : Array Value) (hw : ∀ d ∈ tables_1, d.before a0 Z = true) (ws : List Jvm.Cond) (o : Addr) (w1 : Int32) (kO kd : ClassId) (fo : Nat → Value) (sz : Nat) (x0 x1 x2 : Addr) (h0 : Heap) (n0 : Nat) (Z0 : n0 ≤ h0.size) (V_o : Avf Z h0 o kO (.array .long) 3 fo) (hsz : sz.toInt32 = w1) (hf0 : fo 0 = .ref x0) (V_x0 : Avf Z h0 x0 kd .long sz (fun _ => (.long 0))) (hf1 : fo 1 = .ref x1) (V_x1 : Avf Z h0 x1 kd .long sz (fun _ => (.long 0))) (hf2 : fo 2 = .ref x2) (V_x2 : Avf Z h0 x2 kd .long sz (fun _ => (.long 0))) (n01 : x0 ≠ x1) (n02 : x0 ≠ x2) (n12 : x1 ≠ x2) :
    Met l Z n0 (⟨"com/example/bitstrata/bitstrata/bitmap/WorkspaceVectorsPinLaw", "shaped", "([[JII)Z"⟩ : MethodName) method_3_code 3 (some .boolean) ws Rm4_33 #[(.ref o), (.int (3 : Int32)), (.int w1)] h0 (fun v h => v = some (.int 1) ∧ h0 = h) := by
  refine enter (Ls := #[.val (.ref o), .val (.int (3 : Int32)), .val (.int w1)]) (plainFor_of_name pn1) (fun m => by first | (simp [entryFrame, mkF, argsToLocals, Value.category]; done) | rfl) ?_
  intro p e s m below meth c T0 hx hby hml hown hnm hret hlk hZ X0
  show Go p.tables e below _ (T0.setTop (mkF m 0 #[.val (.ref o), .val (.int (3 : Int32)), .val (.int w1)] []))
  refine Go.by (fun _ => XS.aloadN X0.here hx rfl (hb hby d4_0) rfl rfl) ?_
  show Go p.tables e below _ (T0.setTop (mkF m 1 #[.val (.ref o), .val (.int (3 : Int32)), .val (.int w1)] [(.ref o)]))
  refine Go.by (fun _ => XS.ifnullNo X0.here hx rfl (hb hby d4_1) rfl) ?_
  show Go p.tables e below _ (T0.setTop (mkF m 4 #[.val (.ref o), .val (.int (3 : Int32)), .val (.int w1)] []))
  refine Go.by (fun _ => XS.aloadN X0.here hx rfl (hb hby d4_4) rfl rfl) ?_
  show Go p.tables e below _ (T0.setTop (mkF m 5 #[.val (.ref o), .val (.int (3 : Int32)), .val (.int w1)] [(.ref o)]))
  refine Go.by (X0.len hx hZ V_o (z := (3 : Int32)) rfl (g := (mkF m 5 #[.val (.ref o), .val (.int (3 : Int32)), .val (.int w1)] [(.ref o)])) rfl rfl (hb hby d4_5)) ?_
  show Go p.tables e below _ (T0.setTop (mkF m 6 #[.val (.ref o), .val (.int (3 : Int32)), .val (.int w1)] [(.int (3 : Int32))]))
  refine Go.by (fun _ => XS.iloadN X0.here hx rfl (hb hby d4_6) rfl) ?_
  show Go p.tables e below _ (T0.setTop (mkF m 7 #[.val (.ref o), .val (.int (3 : Int32)), .val (.int w1)] [(.int (3 : Int32)), (.int (3 : Int32))]))
  refine Go.by (fun _ => XS.icmpYes X0.here hx rfl (pc0 := 7) (pc' := 12) rfl (hb hby d4_7) rfl (flt (by decide)).2.1 (by decide) (by decide)) ?_
  show Go p.tables e below _ (T0.setTop (mkF m 12 #[.val (.ref o), .val (.int (3 : Int32)), .val (.int w1)] []))
  refine Go.by (fun _ => XS.aloadN X0.here hx rfl (hb hby d4_12) rfl rfl) ?_
  show Go p.tables e below _ (T0.setTop (mkF m 13 #[.val (.ref o), .val (.int (3 : Int32)), .val (.int w1)] [(.ref o)]))
  refine Go.by (fun _ => XS.iconst X0.here hx rfl (hb hby d4_13)) ?_
  show Go p.tables e below _ (T0.setTop (mkF m 14 #[.val (.ref o), .val (.int (3 : Int32)), .val (.int w1)] [(.int (0 : Int32)), (.ref o)]))
  refine Go.by (fun _ => XS.iloadN X0.here hx rfl (hb hby d4_14) rfl) ?_
  show Go p.tables e below _ (T0.setTop (mkF m 15 #[.val (.ref o), .val (.int (3 : Int32)), .val (.int w1)] [(.int (3 : Int32)), (.int (0 : Int32)), (.ref o)]))
  refine Go.by (fun _ => XS.iloadN X0.here hx rfl (hb hby d4_15) rfl) ?_
  show Go p.tables e below _ (T0.setTop (mkF m 16 #[.val (.ref o), .val (.int (3 : Int32)), .val (.int w1)] [(.int w1), (.int (3 : Int32)), (.int (0 : Int32)), (.ref o)]))
  obtain ⟨v1, T1, h1, X1, q1, st1⟩ := X0.callS hx hZ (y := (⟨"com/example/bitstrata/bitstrata/bitmap/WorkspaceVectorsPinLaw", "row", "([[JIII)Z"⟩ : MethodName)) hown (tw hw 22 rfl) (tw hw 23 rfl) (tw hw 20 rfl) (tw hw 24 rfl) (by decide) (rm5_3_03 l Z a0 hw [] o w1 kO kd fo x0 sz h0 n0 Z0 V_o hf0 V_x0 hsz) (g := (mkF m 16 #[.val (.ref o), .val (.int (3 : Int32)), .val (.int w1)] [(.int w1), (.int (3 : Int32)), (.int (0 : Int32)), (.ref o)])) rfl (by rw [hml]; rfl) (argsL := [(.ref o), (.int (0 : Int32)), (.int (3 : Int32)), (.int w1)]) (rest := []) (lenOf pd0 rfl) rfl (hb hby d4_16) rfl (by decide) (Nat.le_of_ble_eq_true rfl) (k' := 0) (n' := 0) rfl rfl (by decide) (by decide)
  refine Go.by st1 ?_
  obtain ⟨rfl, rfl⟩ := q1
  show Go p.tables e below _ (T1.setTop (mkF m 19 #[.val (.ref o), .val (.int (3 : Int32)), .val (.int w1)] [(.int (1 : Int32))]))
  refine Go.by (fun _ => XS.ifNo X1.here hx rfl (hb hby d4_19) rfl ((if0 _ _).trans (feq (by decide)).1)) ?_
  show Go p.tables e below _ (T1.setTop (mkF m 22 #[.val (.ref o), .val (.int (3 : Int32)), .val (.int w1)] []))
  refine Go.by (fun _ => XS.aloadN X1.here hx rfl (hb hby d4_22) rfl rfl) ?_
  show Go p.tables e below _ (T1.setTop (mkF m 23 #[.val (.ref o), .val (.int (3 : Int32)), .val (.int w1)] [(.ref o)]))
  refine Go.by (fun _ => XS.iconst X1.here hx rfl (hb hby d4_23)) ?_
  show Go p.tables e below _ (T1.setTop (mkF m 24 #[.val (.ref o), .val (.int (3 : Int32)), .val (.int w1)] [(.int (1 : Int32)), (.ref o)]))
  refine Go.by (fun _ => XS.iloadN X1.here hx rfl (hb hby d4_24) rfl) ?_
  show Go p.tables e below _ (T1.setTop (mkF m 25 #[.val (.ref o), .val (.int (3 : Int32)), .val (.int w1)] [(.int (3 : Int32)), (.int (1 : Int32)), (.ref o)]))
  refine Go.by (fun _ => XS.iloadN X1.here hx rfl (hb hby d4_25) rfl) ?_
  show Go p.tables e below _ (T1.setTop (mkF m 26 #[.val (.ref o), .val (.int (3 : Int32)), .val (.int w1)] [(.int w1), (.int (3 : Int32)), (.int (1 : Int32)), (.ref o)]))
  obtain ⟨v2, T2, h2, X2, q2, st2⟩ := X1.callS hx hZ (y := (⟨"com/example/bitstrata/bitstrata/bitmap/WorkspaceVectorsPinLaw", "row", "([[JIII)Z"⟩ : MethodName)) hown (tw hw 22 rfl) (tw hw 23 rfl) (tw hw 20 rfl) (tw hw 24 rfl) (by decide) (rm5_3_13 l Z a0 hw [] o w1 kO kd fo x1 sz h0 n0 Z0 V_o hf1 V_x1 hsz) (g := (mkF m 26 #[.val (.ref o), .val (.int (3 : Int32)), .val (.int w1)] [(.int w1), (.int (3 : Int32)), (.int (1 : Int32)), (.ref o)])) rfl (by rw [hml]; rfl) (argsL := [(.ref o), (.int (1 : Int32)), (.int (3 : Int32)), (.int w1)]) (rest := []) (lenOf pd0 rfl) rfl (hb hby d4_26) rfl (by decide) (Nat.le_of_ble_eq_true rfl) (k' := 0) (n' := 0) rfl rfl (by decide) (by decide)
  refine Go.by st2 ?_
  obtain ⟨rfl, rfl⟩ := q2
  show Go p.tables e below _ (T2.setTop (mkF m 29 #[.val (.ref o), .val (.int (3 : Int32)), .val (.int w1)] [(.int (1 : Int32))]))
  refine Go.by (fun _ => XS.ifNo X2.here hx rfl (hb hby d4_29) rfl ((if0 _ _).trans (feq (by decide)).1)) ?_
  show Go p.tables e below _ (T2.setTop (mkF m 32 #[.val (.ref o), .val (.int (3 : Int32)), .val (.int w1)] []))
  refine Go.by (fun _ => XS.aloadN X2.here hx rfl (hb hby d4_32) rfl rfl) ?_
  show Go p.tables e below _ (T2.setTop (mkF m 33 #[.val (.ref o), .val (.int (3 : Int32)), .val (.int w1)] [(.ref o)]))
  refine Go.by (fun _ => XS.iconst X2.here hx rfl (hb hby d4_33)) ?_
  show Go p.tables e below _ (T2.setTop (mkF m 34 #[.val (.ref o), .val (.int (3 : Int32)), .val (.int w1)] [(.int (2 : Int32)), (.ref o)]))
  refine Go.by (fun _ => XS.iloadN X2.here hx rfl (hb hby d4_34) rfl) ?_
  show Go p.tables e below _ (T2.setTop (mkF m 35 #[.val (.ref o), .val (.int (3 : Int32)), .val (.int w1)] [(.int (3 : Int32)), (.int (2 : Int32)), (.ref o)]))
  refine Go.by (fun _ => XS.iloadN X2.here hx rfl (hb hby d4_35) rfl) ?_
  show Go p.tables e below _ (T2.setTop (mkF m 36 #[.val (.ref o), .val (.int (3 : Int32)), .val (.int w1)] [(.int w1), (.int (3 : Int32)), (.int (2 : Int32)), (.ref o)]))
  obtain ⟨v3, T3, h3, X3, q3, st3⟩ := X2.callS hx hZ (y := (⟨"com/example/bitstrata/bitstrata/bitmap/WorkspaceVectorsPinLaw", "row", "([[JIII)Z"⟩ : MethodName)) hown (tw hw 22 rfl) (tw hw 23 rfl) (tw hw 20 rfl) (tw hw 24 rfl) (by decide) (rm5_3_23 l Z a0 hw [] o w1 kO kd fo x2 sz h0 n0 Z0 V_o hf2 V_x2 hsz) (g := (mkF m 36 #[.val (.ref o), .val (.int (3 : Int32)), .val (.int w1)] [(.int w1), (.int (3 : Int32)), (.int (2 : Int32)), (.ref o)])) rfl (by rw [hml]; rfl) (argsL := [(.ref o), (.int (2 : Int32)), (.int (3 : Int32)), (.int w1)]) (rest := []) (lenOf pd0 rfl) rfl (hb hby d4_36) rfl (by decide) (Nat.le_of_ble_eq_true rfl) (k' := 0) (n' := 0) rfl rfl (by decide) (by decide)
  refine Go.by st3 ?_
  obtain ⟨rfl, rfl⟩ := q3
  show Go p.tables e below _ (T3.setTop (mkF m 39 #[.val (.ref o), .val (.int (3 : Int32)), .val (.int w1)] [(.int (1 : Int32))]))
  refine Go.by (fun _ => XS.ifYes X3.here hx rfl (pc0 := 39) (pc' := 44) rfl (hb hby d4_39) rfl ((if0 _ _).trans (feq (by decide)).2) (by decide) (by decide)) ?_
  show Go p.tables e below _ (T3.setTop (mkF m 44 #[.val (.ref o), .val (.int (3 : Int32)), .val (.int w1)] []))
  refine Go.by (fun _ => XS.iloadN X3.here hx rfl (hb hby d4_44) rfl) ?_
  show Go p.tables e below _ (T3.setTop (mkF m 45 #[.val (.ref o), .val (.int (3 : Int32)), .val (.int w1)] [(.int (3 : Int32))]))
  refine Go.by (fun _ => XS.iconst X3.here hx rfl (hb hby d4_45)) ?_
  show Go p.tables e below _ (T3.setTop (mkF m 46 #[.val (.ref o), .val (.int (3 : Int32)), .val (.int w1)] [(.int (2 : Int32)), (.int (3 : Int32))]))
  refine Go.by (fun _ => XS.icmpNo X3.here hx rfl (hb hby d4_46) rfl (flt (by decide)).1) ?_
  show Go p.tables e below _ (T3.setTop (mkF m 49 #[.val (.ref o), .val (.int (3 : Int32)), .val (.int w1)] []))
  refine Go.by (fun _ => XS.aloadN X3.here hx rfl (hb hby d4_49) rfl rfl) ?_
  show Go p.tables e below _ (T3.setTop (mkF m 50 #[.val (.ref o), .val (.int (3 : Int32)), .val (.int w1)] [(.ref o)]))
  refine Go.by (fun _ => XS.iconst X3.here hx rfl (hb hby d4_50)) ?_
  show Go p.tables e below _ (T3.setTop (mkF m 51 #[.val (.ref o), .val (.int (3 : Int32)), .val (.int w1)] [(.int (0 : Int32)), (.ref o)]))
  refine Go.by (X3.ldA hx hZ V_o rfl (by decide) (i := 0) rfl (by decide) (v := (.ref x0)) hf0 (g := (mkF m 51 #[.val (.ref o), .val (.int (3 : Int32)), .val (.int w1)] [(.int (0 : Int32)), (.ref o)])) rfl rfl (hb hby d4_51)) ?_
  show Go p.tables e below _ (T3.setTop (mkF m 52 #[.val (.ref o), .val (.int (3 : Int32)), .val (.int w1)] [(.ref x0)]))
  refine Go.by (fun _ => XS.aloadN X3.here hx rfl (hb hby d4_52) rfl rfl) ?_
  show Go p.tables e below _ (T3.setTop (mkF m 53 #[.val (.ref o), .val (.int (3 : Int32)), .val (.int w1)] [(.ref o), (.ref x0)]))
  refine Go.by (fun _ => XS.iconst X3.here hx rfl (hb hby d4_53)) ?_
  show Go p.tables e below _ (T3.setTop (mkF m 54 #[.val (.ref o), .val (.int (3 : Int32)), .val (.int w1)] [(.int (1 : Int32)), (.ref o), (.ref x0)]))
  refine Go.by (X3.ldA hx hZ V_o rfl (by decide) (i := 1) rfl (by decide) (v := (.ref x1)) hf1 (g := (mkF m 54 #[.val (.ref o), .val (.int (3 : Int32)), .val (.int w1)] [(.int (1 : Int32)), (.ref o), (.ref x0)])) rfl rfl (hb hby d4_54)) ?_
  show Go p.tables e below _ (T3.setTop (mkF m 55 #[.val (.ref o), .val (.int (3 : Int32)), .val (.int w1)] [(.ref x1), (.ref x0)]))
  refine Go.by (X3.acmp (g := (mkF m 55 #[.val (.ref o), .val (.int (3 : Int32)), .val (.int w1)] [(.ref x1), (.ref x0)])) hx rfl rfl rfl (pc0 := 55) (pc' := 60) (same := false) rfl (hb hby d4_55) rfl (decide_eq_false fun q => n01 (Value.ref.inj q)) (by decide) (by decide)) ?_
  show Go p.tables e below _ (T3.setTop (mkF m 60 #[.val (.ref o), .val (.int (3 : Int32)), .val (.int w1)] []))
  refine Go.by (fun _ => XS.iloadN X3.here hx rfl (hb hby d4_60) rfl) ?_
  show Go p.tables e below _ (T3.setTop (mkF m 61 #[.val (.ref o), .val (.int (3 : Int32)), .val (.int w1)] [(.int (3 : Int32))]))
  refine Go.by (fun _ => XS.iconst X3.here hx rfl (hb hby d4_61)) ?_
  show Go p.tables e below _ (T3.setTop (mkF m 62 #[.val (.ref o), .val (.int (3 : Int32)), .val (.int w1)] [(.int (3 : Int32)), (.int (3 : Int32))]))
  refine Go.by (fun _ => XS.icmpNo X3.here hx rfl (hb hby d4_62) rfl (flt (by decide)).1) ?_
  show Go p.tables e below _ (T3.setTop (mkF m 65 #[.val (.ref o), .val (.int (3 : Int32)), .val (.int w1)] []))
  refine Go.by (fun _ => XS.aloadN X3.here hx rfl (hb hby d4_65) rfl rfl) ?_
  show Go p.tables e below _ (T3.setTop (mkF m 66 #[.val (.ref o), .val (.int (3 : Int32)), .val (.int w1)] [(.ref o)]))
  refine Go.by (fun _ => XS.iconst X3.here hx rfl (hb hby d4_66)) ?_
  show Go p.tables e below _ (T3.setTop (mkF m 67 #[.val (.ref o), .val (.int (3 : Int32)), .val (.int w1)] [(.int (0 : Int32)), (.ref o)]))
  refine Go.by (X3.ldA hx hZ V_o rfl (by decide) (i := 0) rfl (by decide) (v := (.ref x0)) hf0 (g := (mkF m 67 #[.val (.ref o), .val (.int (3 : Int32)), .val (.int w1)] [(.int (0 : Int32)), (.ref o)])) rfl rfl (hb hby d4_67)) ?_
  show Go p.tables e below _ (T3.setTop (mkF m 68 #[.val (.ref o), .val (.int (3 : Int32)), .val (.int w1)] [(.ref x0)]))
  refine Go.by (fun _ => XS.aloadN X3.here hx rfl (hb hby d4_68) rfl rfl) ?_
  show Go p.tables e below _ (T3.setTop (mkF m 69 #[.val (.ref o), .val (.int (3 : Int32)), .val (.int w1)] [(.ref o), (.ref x0)]))
  refine Go.by (fun _ => XS.iconst X3.here hx rfl (hb hby d4_69)) ?_
  show Go p.tables e below _ (T3.setTop (mkF m 70 #[.val (.ref o), .val (.int (3 : Int32)), .val (.int w1)] [(.int (2 : Int32)), (.ref o), (.ref x0)]))
  refine Go.by (X3.ldA hx hZ V_o rfl (by decide) (i := 2) rfl (by decide) (v := (.ref x2)) hf2 (g := (mkF m 70 #[.val (.ref o), .val (.int (3 : Int32)), .val (.int w1)] [(.int (2 : Int32)), (.ref o), (.ref x0)])) rfl rfl (hb hby d4_70)) ?_
  show Go p.tables e below _ (T3.setTop (mkF m 71 #[.val (.ref o), .val (.int (3 : Int32)), .val (.int w1)] [(.ref x2), (.ref x0)]))
  refine Go.by (X3.acmp (g := (mkF m 71 #[.val (.ref o), .val (.int (3 : Int32)), .val (.int w1)] [(.ref x2), (.ref x0)])) hx rfl rfl rfl (pc0 := 71) (pc' := 74) (same := false) rfl (hb hby d4_71) rfl (decide_eq_false fun q => n02 (Value.ref.inj q)) (by decide) (by decide)) ?_
  show Go p.tables e below _ (T3.setTop (mkF m 74 #[.val (.ref o), .val (.int (3 : Int32)), .val (.int w1)] []))
  refine Go.by (fun _ => XS.aloadN X3.here hx rfl (hb hby d4_74) rfl rfl) ?_
  show Go p.tables e below _ (T3.setTop (mkF m 75 #[.val (.ref o), .val (.int (3 : Int32)), .val (.int w1)] [(.ref o)]))
  refine Go.by (fun _ => XS.iconst X3.here hx rfl (hb hby d4_75)) ?_
  show Go p.tables e below _ (T3.setTop (mkF m 76 #[.val (.ref o), .val (.int (3 : Int32)), .val (.int w1)] [(.int (1 : Int32)), (.ref o)]))
  refine Go.by (X3.ldA hx hZ V_o rfl (by decide) (i := 1) rfl (by decide) (v := (.ref x1)) hf1 (g := (mkF m 76 #[.val (.ref o), .val (.int (3 : Int32)), .val (.int w1)] [(.int (1 : Int32)), (.ref o)])) rfl rfl (hb hby d4_76)) ?_
  show Go p.tables e below _ (T3.setTop (mkF m 77 #[.val (.ref o), .val (.int (3 : Int32)), .val (.int w1)] [(.ref x1)]))
  refine Go.by (fun _ => XS.aloadN X3.here hx rfl (hb hby d4_77) rfl rfl) ?_
  show Go p.tables e below _ (T3.setTop (mkF m 78 #[.val (.ref o), .val (.int (3 : Int32)), .val (.int w1)] [(.ref o), (.ref x1)]))
  refine Go.by (fun _ => XS.iconst X3.here hx rfl (hb hby d4_78)) ?_
  show Go p.tables e below _ (T3.setTop (mkF m 79 #[.val (.ref o), .val (.int (3 : Int32)), .val (.int w1)] [(.int (2 : Int32)), (.ref o), (.ref x1)]))
  refine Go.by (X3.ldA hx hZ V_o rfl (by decide) (i := 2) rfl (by decide) (v := (.ref x2)) hf2 (g := (mkF m 79 #[.val (.ref o), .val (.int (3 : Int32)), .val (.int w1)] [(.int (2 : Int32)), (.ref o), (.ref x1)])) rfl rfl (hb hby d4_79)) ?_
  show Go p.tables e below _ (T3.setTop (mkF m 80 #[.val (.ref o), .val (.int (3 : Int32)), .val (.int w1)] [(.ref x2), (.ref x1)]))
  refine Go.by (X3.acmp (g := (mkF m 80 #[.val (.ref o), .val (.int (3 : Int32)), .val (.int w1)] [(.ref x2), (.ref x1)])) hx rfl rfl rfl (pc0 := 80) (pc' := 85) (same := false) rfl (hb hby d4_80) rfl (decide_eq_false fun q => n12 (Value.ref.inj q)) (by decide) (by decide)) ?_
  show Go p.tables e below _ (T3.setTop (mkF m 85 #[.val (.ref o), .val (.int (3 : Int32)), .val (.int w1)] []))
  refine Go.by (fun _ => XS.iconst X3.here hx rfl (hb hby d4_85)) ?_
  show Go p.tables e below _ (T3.setTop (mkF m 86 #[.val (.ref o), .val (.int (3 : Int32)), .val (.int w1)] [(.int (1 : Int32))]))
  exact Go.retN X3 hx hlk (z' := (1 : Int32)) hret (by simp) (hb hby d4_86) rfl (by decide) (by decide) ⟨rfl, rfl⟩
theorem pd1 : parseMethodDescriptor "()V" = some ⟨[], none⟩ := by decide +kernel
theorem pd2 : parseMethodDescriptor "(II)[[J" = some ⟨[.int, .int], some (.array (.array .long))⟩ := by decide +kernel
theorem pd3 : parseMethodDescriptor "([[JII)Z" = some ⟨[(.array (.array .long)), .int, .int], some .boolean⟩ := by decide +kernel
set_option maxRecDepth 65536 in
set_option maxHeartbeats 40000000 in
theorem rm0 (l : Launch) (Z : State) (a0 : Array Value) (hw : ∀ d ∈ tables_1, d.before a0 Z = true) (ws : List Jvm.Cond) (p0 : Int32) (p1 : Int32) (p2 : Int32) (p3 : Int32) (h0 : Heap) (n0 : Nat) (Z0 : n0 ≤ h0.size) :
    Met l Z n0 x code maxLocals ret ws room_1 #[(.int p0), (.int p1), (.int p2), (.int p3)] h0 (fun v h => v = some (.int 1)) := by
  refine enter (Ls := #[.val (.int p0), .val (.int p1), .val (.int p2), .val (.int p3), .unset, .unset, .unset, .unset, .unset, .unset, .unset, .unset]) (plainFor_of_name pn1) (fun m => by first | (simp [entryFrame, mkF, argsToLocals, Value.category, maxLocals]; done) | rfl) ?_
  intro p e s m below meth c T0 hx hby hml hown hnm hret hlk hZ X0
  show Go p.tables e below _ (T0.setTop (mkF m 0 #[.val (.int p0), .val (.int p1), .val (.int p2), .val (.int p3), .unset, .unset, .unset, .unset, .unset, .unset, .unset, .unset] []))
  refine Go.by (fun _ => XS.iloadN X0.here hx rfl (hb hby at_0) rfl) ?_
  refine Go.by (fun _ => XS.iconst X0.here hx rfl (hb hby at_1)) ?_
  refine Go.by (fun _ => XS.iand X0.here hx rfl (hb hby at_2) rfl) ?_
  refine Go.by (fun _ => XS.istore X0.here hx rfl (hb hby at_3) rfl (l' := #[.val (.int p0), .val (.int p1), .val (.int p2), .val (.int p3), .val (.int (p0 &&& (3 : Int32))), .unset, .unset, .unset, .unset, .unset, .unset, .unset]) rfl) ?_
  show Go p.tables e below _ (T0.setTop (mkF m 5 #[.val (.int p0), .val (.int p1), .val (.int p2), .val (.int p3), .val (.int (p0 &&& (3 : Int32))), .unset, .unset, .unset, .unset, .unset, .unset, .unset] []))
  refine Go.by (fun _ => XS.iloadN X0.here hx rfl (hb hby at_5) rfl) ?_
  refine Go.by (fun _ => XS.bipush X0.here hx rfl (hb hby at_6)) ?_
  show Go p.tables e below _ (T0.setTop (mkF m 8 #[.val (.int p0), .val (.int p1), .val (.int p2), .val (.int p3), .val (.int (p0 &&& (3 : Int32))), .unset, .unset, .unset, .unset, .unset, .unset, .unset] [(.int (7 : Int32)), (.int p1)]))
  refine Go.by (fun _ => XS.iand X0.here hx rfl (hb hby at_8) rfl) ?_
  refine Go.by (fun _ => XS.istore X0.here hx rfl (hb hby at_9) rfl (l' := #[.val (.int p0), .val (.int p1), .val (.int p2), .val (.int p3), .val (.int (p0 &&& (3 : Int32))), .val (.int (p1 &&& (7 : Int32))), .unset, .unset, .unset, .unset, .unset, .unset]) rfl) ?_
  show Go p.tables e below _ (T0.setTop (mkF m 11 #[.val (.int p0), .val (.int p1), .val (.int p2), .val (.int p3), .val (.int (p0 &&& (3 : Int32))), .val (.int (p1 &&& (7 : Int32))), .unset, .unset, .unset, .unset, .unset, .unset] []))
  refine Go.by (fun _ => XS.iloadN X0.here hx rfl (hb hby at_11) rfl) ?_
  refine Go.by (fun _ => XS.iconst X0.here hx rfl (hb hby at_12)) ?_
  refine Go.by (fun _ => XS.iand X0.here hx rfl (hb hby at_13) rfl) ?_
  refine Go.by (fun _ => XS.istore X0.here hx rfl (hb hby at_14) rfl (l' := #[.val (.int p0), .val (.int p1), .val (.int p2), .val (.int p3), .val (.int (p0 &&& (3 : Int32))), .val (.int (p1 &&& (7 : Int32))), .val (.int (p2 &&& (3 : Int32))), .unset, .unset, .unset, .unset, .unset]) rfl) ?_
  show Go p.tables e below _ (T0.setTop (mkF m 16 #[.val (.int p0), .val (.int p1), .val (.int p2), .val (.int p3), .val (.int (p0 &&& (3 : Int32))), .val (.int (p1 &&& (7 : Int32))), .val (.int (p2 &&& (3 : Int32))), .unset, .unset, .unset, .unset, .unset] []))
  refine Go.by (fun _ => XS.iloadN X0.here hx rfl (hb hby at_16) rfl) ?_
  refine Go.by (fun _ => XS.bipush X0.here hx rfl (hb hby at_17)) ?_
  refine Go.by (fun _ => XS.iand X0.here hx rfl (hb hby at_19) rfl) ?_
  refine Go.by (fun _ => XS.istore X0.here hx rfl (hb hby at_20) rfl (l' := #[.val (.int p0), .val (.int p1), .val (.int p2), .val (.int p3), .val (.int (p0 &&& (3 : Int32))), .val (.int (p1 &&& (7 : Int32))), .val (.int (p2 &&& (3 : Int32))), .val (.int (p3 &&& (7 : Int32))), .unset, .unset, .unset, .unset]) rfl) ?_
  show Go p.tables e below _ (T0.setTop (mkF m 22 #[.val (.int p0), .val (.int p1), .val (.int p2), .val (.int p3), .val (.int (p0 &&& (3 : Int32))), .val (.int (p1 &&& (7 : Int32))), .val (.int (p2 &&& (3 : Int32))), .val (.int (p3 &&& (7 : Int32))), .unset, .unset, .unset, .unset] []))
  have hw_wb := own_m8 p1
  generalize (p1 &&& (7 : Int32)) = wb at *
  have hw_we := own_m8 p3
  generalize (p3 &&& (7 : Int32)) = we at *
  rcases own_m4 p0 with ea | ea | ea | ea
  · rw [ea]
    rcases own_m4 p2 with ec | ec | ec | ec
    · rw [ec]
      show Go p.tables e below _ (T0.setTop (mkF m 22 #[.val (.int p0), .val (.int p1), .val (.int p2), .val (.int p3), .val (.int (0 : Int32)), .val (.int wb), .val (.int (0 : Int32)), .val (.int we), .unset, .unset, .unset, .unset] []))
      obtain ⟨T1, h1, b1, X1, g1, E1, A1, D1, st1⟩ := X0.newO hx hZ hown (tw hw 0 rfl) (tw hw 1 rfl) (tw hw 2 rfl) (g := (mkF m 22 #[.val (.int p0), .val (.int p1), .val (.int p2), .val (.int p3), .val (.int (0 : Int32)), .val (.int wb), .val (.int (0 : Int32)), .val (.int we), .unset, .unset, .unset, .unset] [])) rfl (hb hby at_22) (k' := 1) (n' := 1) rfl rfl (by decide) (by decide)
      have g_b1 : n0 ≤ b1 := by rw [g1]; exact Z0
      have Zs2 : n0 ≤ h1.size := Nat.le_trans Z0 E1.1
      have F1_vectors : Fld Z h1 b1 "com/example/bitstrata/bitstrata/bitmap/Formula$Workspace" "vectors" "[[J" .null := D1 (Or.inl (tw hw 12 rfl)) (ty := (.array (.array .long))) (by decide)
      refine Go.by st1 ?_
      show Go p.tables e below _ (T1.setTop (mkF m 25 #[.val (.int p0), .val (.int p1), .val (.int p2), .val (.int p3), .val (.int (0 : Int32)), .val (.int wb), .val (.int (0 : Int32)), .val (.int we), .unset, .unset, .unset, .unset] [(.ref b1)]))
      refine Go.by (fun _ => XS.dup X1.here hx rfl (hb hby at_25) rfl rfl) ?_
      show Go p.tables e below _ (T1.setTop (mkF m 26 #[.val (.int p0), .val (.int p1), .val (.int p2), .val (.int p3), .val (.int (0 : Int32)), .val (.int wb), .val (.int (0 : Int32)), .val (.int we), .unset, .unset, .unset, .unset] [(.ref b1), (.ref b1)]))
      obtain ⟨v3, T3, h3, X3, q3, st3⟩ := X1.callI hx hZ (y := (⟨"com/example/bitstrata/bitstrata/bitmap/Formula$Workspace", "<init>", "()V"⟩ : MethodName)) rfl hown (tw hw 3 rfl) (tw hw 4 rfl) (tw hw 2 rfl) (tw hw 5 rfl) (by decide) (rm1 l Z a0 hw [] b1 h1 n0 Zs2 A1 g_b1 F1_vectors) (g := (mkF m 26 #[.val (.int p0), .val (.int p1), .val (.int p2), .val (.int p3), .val (.int (0 : Int32)), .val (.int wb), .val (.int (0 : Int32)), .val (.int we), .unset, .unset, .unset, .unset] [(.ref b1), (.ref b1)])) rfl (by rw [hml]; rfl) (argsL := []) (rest := [(.ref b1)]) (lenOf pd1 rfl) rfl (hb hby at_26) rfl (by decide) (Nat.le_of_ble_eq_true rfl) (k' := 2) (n' := 1) rfl rfl (by decide) (by decide)
      refine Go.by st3 ?_
      obtain ⟨o3, kO3, rfl, so3, K3, Ex3, Fv3, V3⟩ := q3
      have g_o3 : n0 ≤ o3 := Nat.le_trans Zs2 so3
      have ne_b1_o3 : b1 ≠ o3 := Nat.ne_of_lt (Nat.lt_of_lt_of_le A1.lt so3)
      have f4_44 := A1.keep K3
      have Zs4 : n0 ≤ h3.size := Nat.le_trans Zs2 K3.1
      show Go p.tables e below _ (T3.setTop (mkF m 29 #[.val (.int p0), .val (.int p1), .val (.int p2), .val (.int p3), .val (.int (0 : Int32)), .val (.int wb), .val (.int (0 : Int32)), .val (.int we), .unset, .unset, .unset, .unset] [(.ref b1)]))
      refine Go.by (fun _ => XS.astore X3.here hx rfl (hb hby at_29) rfl rfl (l' := #[.val (.int p0), .val (.int p1), .val (.int p2), .val (.int p3), .val (.int (0 : Int32)), .val (.int wb), .val (.int (0 : Int32)), .val (.int we), .val (.ref b1), .unset, .unset, .unset]) rfl) ?_
      show Go p.tables e below _ (T3.setTop (mkF m 31 #[.val (.int p0), .val (.int p1), .val (.int p2), .val (.int p3), .val (.int (0 : Int32)), .val (.int wb), .val (.int (0 : Int32)), .val (.int we), .val (.ref b1), .unset, .unset, .unset] []))
      refine Go.by (fun _ => XS.aload X3.here hx rfl (hb hby at_31) rfl rfl) ?_
      refine Go.by (fun _ => XS.iload X3.here hx rfl (hb hby at_33) rfl) ?_
      refine Go.by (fun _ => XS.iload X3.here hx rfl (hb hby at_35) rfl) ?_
      obtain ⟨v5, T5, h5, X5, q5, st5⟩ := X3.callV hx hZ (y := (⟨"com/example/bitstrata/bitstrata/bitmap/Formula$Workspace", "vectors", "(II)[[J"⟩ : MethodName)) (z := (⟨"com/example/bitstrata/bitstrata/bitmap/Formula$Workspace", "vectors", "(II)[[J"⟩ : MethodName)) hown (tw hw 13 rfl) (tw hw 14 rfl) (notFace_of_selects (args := #[]) (mvT hZ (tw hw 16 rfl))) (tw hw 16 rfl) (tw hw 15 rfl) (tw hw 2 rfl) (tw hw 17 rfl) (by decide) (rm3_00 l Z a0 hw [] b1 wb o3 kO3 (fun _ => .null) h3 n0 Zs4 Ex3 g_b1 Fv3 V3 hw_wb.1 hw_wb.2) Ex3 (g := (mkF m 37 #[.val (.int p0), .val (.int p1), .val (.int p2), .val (.int p3), .val (.int (0 : Int32)), .val (.int wb), .val (.int (0 : Int32)), .val (.int we), .val (.ref b1), .unset, .unset, .unset] [(.int wb), (.int (0 : Int32)), (.ref b1)])) rfl (by rw [hml]; rfl) (argsL := [(.int (0 : Int32)), (.int wb)]) (rest := []) (lenOf pd2 rfl) rfl (hb hby at_37) rfl (by decide) (Nat.le_of_ble_eq_true rfl) (k' := 2) (n' := 1) rfl rfl (by decide) (by decide)
      refine Go.by st5 ?_
      obtain ⟨rfl, rfl⟩ := q5
      show Go p.tables e below _ (T5.setTop (mkF m 40 #[.val (.int p0), .val (.int p1), .val (.int p2), .val (.int p3), .val (.int (0 : Int32)), .val (.int wb), .val (.int (0 : Int32)), .val (.int we), .val (.ref b1), .unset, .unset, .unset] [(.ref o3)]))
      refine Go.by (fun _ => XS.astore X5.here hx rfl (hb hby at_40) rfl rfl (l' := #[.val (.int p0), .val (.int p1), .val (.int p2), .val (.int p3), .val (.int (0 : Int32)), .val (.int wb), .val (.int (0 : Int32)), .val (.int we), .val (.ref b1), .val (.ref o3), .unset, .unset]) rfl) ?_
      show Go p.tables e below _ (T5.setTop (mkF m 42 #[.val (.int p0), .val (.int p1), .val (.int p2), .val (.int p3), .val (.int (0 : Int32)), .val (.int wb), .val (.int (0 : Int32)), .val (.int we), .val (.ref b1), .val (.ref o3), .unset, .unset] []))
      refine Go.by (fun _ => XS.aload X5.here hx rfl (hb hby at_42) rfl rfl) ?_
      show Go p.tables e below _ (T5.setTop (mkF m 44 #[.val (.int p0), .val (.int p1), .val (.int p2), .val (.int p3), .val (.int (0 : Int32)), .val (.int wb), .val (.int (0 : Int32)), .val (.int we), .val (.ref b1), .val (.ref o3), .unset, .unset] [(.ref o3)]))
      refine Go.by (fun _ => XS.iload X5.here hx rfl (hb hby at_44) rfl) ?_
      refine Go.by (fun _ => XS.iload X5.here hx rfl (hb hby at_46) rfl) ?_
      obtain ⟨v6, T6, h6, X6, q6, st6⟩ := X5.callS hx hZ (y := (⟨"com/example/bitstrata/bitstrata/bitmap/WorkspaceVectorsPinLaw", "shaped", "([[JII)Z"⟩ : MethodName)) hown (tw hw 18 rfl) (tw hw 19 rfl) (tw hw 20 rfl) (tw hw 21 rfl) (by decide) (rm4_00 l Z a0 hw [] o3 wb kO3 kO3 (fun _ => .null) 0  h3 n0 Zs4 V3) (g := (mkF m 48 #[.val (.int p0), .val (.int p1), .val (.int p2), .val (.int p3), .val (.int (0 : Int32)), .val (.int wb), .val (.int (0 : Int32)), .val (.int we), .val (.ref b1), .val (.ref o3), .unset, .unset] [(.int wb), (.int (0 : Int32)), (.ref o3)])) rfl (by rw [hml]; rfl) (argsL := [(.ref o3), (.int (0 : Int32)), (.int wb)]) (rest := []) (lenOf pd3 rfl) rfl (hb hby at_48) rfl (by decide) (Nat.le_of_ble_eq_true rfl) (k' := 2) (n' := 1) rfl rfl (by decide) (by decide)
      refine Go.by st6 ?_
      obtain ⟨rfl, rfl⟩ := q6
      show Go p.tables e below _ (T6.setTop (mkF m 51 #[.val (.int p0), .val (.int p1), .val (.int p2), .val (.int p3), .val (.int (0 : Int32)), .val (.int wb), .val (.int (0 : Int32)), .val (.int we), .val (.ref b1), .val (.ref o3), .unset, .unset] [(.int (1 : Int32))]))
      refine Go.by (fun _ => XS.ifYes X6.here hx rfl (pc0 := 51) (pc' := 56) rfl (hb hby at_51) rfl ((if0 _ _).trans (feq (by decide)).2) (by decide) (by decide)) ?_
      show Go p.tables e below _ (T6.setTop (mkF m 56 #[.val (.int p0), .val (.int p1), .val (.int p2), .val (.int p3), .val (.int (0 : Int32)), .val (.int wb), .val (.int (0 : Int32)), .val (.int we), .val (.ref b1), .val (.ref o3), .unset, .unset] []))
      refine Go.by (fun _ => XS.aload X6.here hx rfl (hb hby at_56) rfl rfl) ?_
      refine Go.by (fun _ => XS.iload X6.here hx rfl (hb hby at_58) rfl) ?_
      refine Go.by (fun _ => XS.iload X6.here hx rfl (hb hby at_60) rfl) ?_
      obtain ⟨v7, T7, h7, X7, q7, st7⟩ := X6.callV hx hZ (y := (⟨"com/example/bitstrata/bitstrata/bitmap/Formula$Workspace", "vectors", "(II)[[J"⟩ : MethodName)) (z := (⟨"com/example/bitstrata/bitstrata/bitmap/Formula$Workspace", "vectors", "(II)[[J"⟩ : MethodName)) hown (tw hw 13 rfl) (tw hw 14 rfl) (notFace_of_selects (args := #[]) (mvT hZ (tw hw 16 rfl))) (tw hw 16 rfl) (tw hw 15 rfl) (tw hw 2 rfl) (tw hw 17 rfl) (by decide) (rm3_00 l Z a0 hw [] b1 we o3 kO3 (fun _ => .null) h3 n0 Zs4 Ex3 g_b1 Fv3 V3 hw_we.1 hw_we.2) Ex3 (g := (mkF m 62 #[.val (.int p0), .val (.int p1), .val (.int p2), .val (.int p3), .val (.int (0 : Int32)), .val (.int wb), .val (.int (0 : Int32)), .val (.int we), .val (.ref b1), .val (.ref o3), .unset, .unset] [(.int we), (.int (0 : Int32)), (.ref b1)])) rfl (by rw [hml]; rfl) (argsL := [(.int (0 : Int32)), (.int we)]) (rest := []) (lenOf pd2 rfl) rfl (hb hby at_62) rfl (by decide) (Nat.le_of_ble_eq_true rfl) (k' := 2) (n' := 1) rfl rfl (by decide) (by decide)
      refine Go.by st7 ?_
      obtain ⟨rfl, rfl⟩ := q7
      show Go p.tables e below _ (T7.setTop (mkF m 65 #[.val (.int p0), .val (.int p1), .val (.int p2), .val (.int p3), .val (.int (0 : Int32)), .val (.int wb), .val (.int (0 : Int32)), .val (.int we), .val (.ref b1), .val (.ref o3), .unset, .unset] [(.ref o3)]))
      refine Go.by (fun _ => XS.astore X7.here hx rfl (hb hby at_65) rfl rfl (l' := #[.val (.int p0), .val (.int p1), .val (.int p2), .val (.int p3), .val (.int (0 : Int32)), .val (.int wb), .val (.int (0 : Int32)), .val (.int we), .val (.ref b1), .val (.ref o3), .val (.ref o3), .unset]) rfl) ?_
      show Go p.tables e below _ (T7.setTop (mkF m 67 #[.val (.int p0), .val (.int p1), .val (.int p2), .val (.int p3), .val (.int (0 : Int32)), .val (.int wb), .val (.int (0 : Int32)), .val (.int we), .val (.ref b1), .val (.ref o3), .val (.ref o3), .unset] []))
      refine Go.by (fun _ => XS.aload X7.here hx rfl (hb hby at_67) rfl rfl) ?_
      refine Go.by (fun _ => XS.iload X7.here hx rfl (hb hby at_69) rfl) ?_
      refine Go.by (fun _ => XS.iload X7.here hx rfl (hb hby at_71) rfl) ?_
      obtain ⟨v8, T8, h8, X8, q8, st8⟩ := X7.callS hx hZ (y := (⟨"com/example/bitstrata/bitstrata/bitmap/WorkspaceVectorsPinLaw", "shaped", "([[JII)Z"⟩ : MethodName)) hown (tw hw 18 rfl) (tw hw 19 rfl) (tw hw 20 rfl) (tw hw 21 rfl) (by decide) (rm4_00 l Z a0 hw [] o3 we kO3 kO3 (fun _ => .null) 0  h3 n0 Zs4 V3) (g := (mkF m 73 #[.val (.int p0), .val (.int p1), .val (.int p2), .val (.int p3), .val (.int (0 : Int32)), .val (.int wb), .val (.int (0 : Int32)), .val (.int we), .val (.ref b1), .val (.ref o3), .val (.ref o3), .unset] [(.int we), (.int (0 : Int32)), (.ref o3)])) rfl (by rw [hml]; rfl) (argsL := [(.ref o3), (.int (0 : Int32)), (.int we)]) (rest := []) (lenOf pd3 rfl) rfl (hb hby at_73) rfl (by decide) (Nat.le_of_ble_eq_true rfl) (k' := 2) (n' := 1) rfl rfl (by decide) (by decide)
      refine Go.by st8 ?_
      obtain ⟨rfl, rfl⟩ := q8
      show Go p.tables e below _ (T8.setTop (mkF m 76 #[.val (.int p0), .val (.int p1), .val (.int p2), .val (.int p3), .val (.int (0 : Int32)), .val (.int wb), .val (.int (0 : Int32)), .val (.int we), .val (.ref b1), .val (.ref o3), .val (.ref o3), .unset] [(.int (1 : Int32))]))
      refine Go.by (fun _ => XS.ifYes X8.here hx rfl (pc0 := 76) (pc' := 81) rfl (hb hby at_76) rfl ((if0 _ _).trans (feq (by decide)).2) (by decide) (by decide)) ?_
      show Go p.tables e below _ (T8.setTop (mkF m 81 #[.val (.int p0), .val (.int p1), .val (.int p2), .val (.int p3), .val (.int (0 : Int32)), .val (.int wb), .val (.int (0 : Int32)), .val (.int we), .val (.ref b1), .val (.ref o3), .val (.ref o3), .unset] []))
      refine Go.by (fun _ => XS.iload X8.here hx rfl (hb hby at_81) rfl) ?_
      refine Go.by (fun _ => XS.iload X8.here hx rfl (hb hby at_83) rfl) ?_
      refine Go.by (fun _ => XS.icmpNo X8.here hx rfl (hb hby at_85) rfl (flt (by decide)).2.2.1) ?_
      show Go p.tables e below _ (T8.setTop (mkF m 88 #[.val (.int p0), .val (.int p1), .val (.int p2), .val (.int p3), .val (.int (0 : Int32)), .val (.int wb), .val (.int (0 : Int32)), .val (.int we), .val (.ref b1), .val (.ref o3), .val (.ref o3), .unset] []))
      refine Go.by (fun _ => XS.iload X8.here hx rfl (hb hby at_88) rfl) ?_
      show Go p.tables e below _ (T8.setTop (mkF m 90 #[.val (.int p0), .val (.int p1), .val (.int p2), .val (.int p3), .val (.int (0 : Int32)), .val (.int wb), .val (.int (0 : Int32)), .val (.int we), .val (.ref b1), .val (.ref o3), .val (.ref o3), .unset] [(.int (0 : Int32))]))
      refine Go.by (fun _ => XS.ifYes X8.here hx rfl (pc0 := 90) (pc' := 100) rfl (hb hby at_90) rfl ((if0 _ _).trans (teq (by decide)).1) (by decide) (by decide)) ?_
      show Go p.tables e below _ (T8.setTop (mkF m 100 #[.val (.int p0), .val (.int p1), .val (.int p2), .val (.int p3), .val (.int (0 : Int32)), .val (.int wb), .val (.int (0 : Int32)), .val (.int we), .val (.ref b1), .val (.ref o3), .val (.ref o3), .unset] []))
      refine Go.by (fun _ => XS.iconst X8.here hx rfl (hb hby at_100)) ?_
      refine Go.by (fun _ => XS.goto X8.here hx rfl (pc0 := 101) (pc' := 105) rfl (hb hby at_101) (by decide) (by decide)) ?_
      show Go p.tables e below _ (T8.setTop (mkF m 105 #[.val (.int p0), .val (.int p1), .val (.int p2), .val (.int p3), .val (.int (0 : Int32)), .val (.int wb), .val (.int (0 : Int32)), .val (.int we), .val (.ref b1), .val (.ref o3), .val (.ref o3), .unset] [(.int (1 : Int32))]))
      refine Go.by (fun _ => XS.istore X8.here hx rfl (hb hby at_105) rfl (l' := #[.val (.int p0), .val (.int p1), .val (.int p2), .val (.int p3), .val (.int (0 : Int32)), .val (.int wb), .val (.int (0 : Int32)), .val (.int we), .val (.ref b1), .val (.ref o3), .val (.ref o3), .val (.int (1 : Int32))]) rfl) ?_
      show Go p.tables e below _ (T8.setTop (mkF m 107 #[.val (.int p0), .val (.int p1), .val (.int p2), .val (.int p3), .val (.int (0 : Int32)), .val (.int wb), .val (.int (0 : Int32)), .val (.int we), .val (.ref b1), .val (.ref o3), .val (.ref o3), .val (.int (1 : Int32))] []))
      refine Go.by (fun _ => XS.iload X8.here hx rfl (hb hby at_107) rfl) ?_
      refine Go.by (fun _ => XS.ifNo X8.here hx rfl (hb hby at_109) rfl ((if0 _ _).trans (feq (by decide)).1)) ?_
      show Go p.tables e below _ (T8.setTop (mkF m 112 #[.val (.int p0), .val (.int p1), .val (.int p2), .val (.int p3), .val (.int (0 : Int32)), .val (.int wb), .val (.int (0 : Int32)), .val (.int we), .val (.ref b1), .val (.ref o3), .val (.ref o3), .val (.int (1 : Int32))] []))
      refine Go.by (fun _ => XS.aload X8.here hx rfl (hb hby at_112) rfl rfl) ?_
      refine Go.by (fun _ => XS.aload X8.here hx rfl (hb hby at_114) rfl rfl) ?_
      refine Go.by (X8.acmp (g := (mkF m 116 #[.val (.int p0), .val (.int p1), .val (.int p2), .val (.int p3), .val (.int (0 : Int32)), .val (.int wb), .val (.int (0 : Int32)), .val (.int we), .val (.ref b1), .val (.ref o3), .val (.ref o3), .val (.int (1 : Int32))] [(.ref o3), (.ref o3)])) hx rfl rfl rfl (pc0 := 116) (pc' := 121) (same := true) rfl (hb hby at_116) rfl (decide_eq_true rfl) (by decide) (by decide)) ?_
      show Go p.tables e below _ (T8.setTop (mkF m 121 #[.val (.int p0), .val (.int p1), .val (.int p2), .val (.int p3), .val (.int (0 : Int32)), .val (.int wb), .val (.int (0 : Int32)), .val (.int we), .val (.ref b1), .val (.ref o3), .val (.ref o3), .val (.int (1 : Int32))] []))
      refine Go.by (fun _ => XS.iconst X8.here hx rfl (hb hby at_121)) ?_
      show Go p.tables e below _ (T8.setTop (mkF m 122 #[.val (.int p0), .val (.int p1), .val (.int p2), .val (.int p3), .val (.int (0 : Int32)), .val (.int wb), .val (.int (0 : Int32)), .val (.int we), .val (.ref b1), .val (.ref o3), .val (.ref o3), .val (.int (1 : Int32))] [(.int (1 : Int32))]))
      exact Go.retN X8 hx hlk (z' := (1 : Int32)) hret (by simp) (hb hby at_122) rfl (by decide) (by decide) rfl
    · rw [ec]
      show Go p.tables e below _ (T0.setTop (mkF m 22 #[.val (.int p0), .val (.int p1), .val (.int p2), .val (.int p3), .val (.int (0 : Int32)), .val (.int wb), .val (.int (1 : Int32)), .val (.int we), .unset, .unset, .unset, .unset] []))
      obtain ⟨T9, h9, b9, X9, g9, E9, A9, D9, st9⟩ := X0.newO hx hZ hown (tw hw 0 rfl) (tw hw 1 rfl) (tw hw 2 rfl) (g := (mkF m 22 #[.val (.int p0), .val (.int p1), .val (.int p2), .val (.int p3), .val (.int (0 : Int32)), .val (.int wb), .val (.int (1 : Int32)), .val (.int we), .unset, .unset, .unset, .unset] [])) rfl (hb hby at_22) (k' := 1) (n' := 1) rfl rfl (by decide) (by decide)
      have g_b9 : n0 ≤ b9 := by rw [g9]; exact Z0
      have Zs10 : n0 ≤ h9.size := Nat.le_trans Z0 E9.1
      have F9_vectors : Fld Z h9 b9 "com/example/bitstrata/bitstrata/bitmap/Formula$Workspace" "vectors" "[[J" .null := D9 (Or.inl (tw hw 12 rfl)) (ty := (.array (.array .long))) (by decide)
      refine Go.by st9 ?_
      show Go p.tables e below _ (T9.setTop (mkF m 25 #[.val (.int p0), .val (.int p1), .val (.int p2), .val (.int p3), .val (.int (0 : Int32)), .val (.int wb), .val (.int (1 : Int32)), .val (.int we), .unset, .unset, .unset, .unset] [(.ref b9)]))
      refine Go.by (fun _ => XS.dup X9.here hx rfl (hb hby at_25) rfl rfl) ?_
      obtain ⟨v11, T11, h11, X11, q11, st11⟩ := X9.callI hx hZ (y := (⟨"com/example/bitstrata/bitstrata/bitmap/Formula$Workspace", "<init>", "()V"⟩ : MethodName)) rfl hown (tw hw 3 rfl) (tw hw 4 rfl) (tw hw 2 rfl) (tw hw 5 rfl) (by decide) (rm1 l Z a0 hw [] b9 h9 n0 Zs10 A9 g_b9 F9_vectors) (g := (mkF m 26 #[.val (.int p0), .val (.int p1), .val (.int p2), .val (.int p3), .val (.int (0 : Int32)), .val (.int wb), .val (.int (1 : Int32)), .val (.int we), .unset, .unset, .unset, .unset] [(.ref b9), (.ref b9)])) rfl (by rw [hml]; rfl) (argsL := []) (rest := [(.ref b9)]) (lenOf pd1 rfl) rfl (hb hby at_26) rfl (by decide) (Nat.le_of_ble_eq_true rfl) (k' := 2) (n' := 1) rfl rfl (by decide) (by decide)
      refine Go.by st11 ?_
      obtain ⟨o11, kO11, rfl, so11, K11, Ex11, Fv11, V11⟩ := q11
      have g_o11 : n0 ≤ o11 := Nat.le_trans Zs10 so11
      have ne_b9_o11 : b9 ≠ o11 := Nat.ne_of_lt (Nat.lt_of_lt_of_le A9.lt so11)
      have f12_123 := A9.keep K11
      have Zs12 : n0 ≤ h11.size := Nat.le_trans Zs10 K11.1
      show Go p.tables e below _ (T11.setTop (mkF m 29 #[.val (.int p0), .val (.int p1), .val (.int p2), .val (.int p3), .val (.int (0 : Int32)), .val (.int wb), .val (.int (1 : Int32)), .val (.int we), .unset, .unset, .unset, .unset] [(.ref b9)]))
      refine Go.by (fun _ => XS.astore X11.here hx rfl (hb hby at_29) rfl rfl (l' := #[.val (.int p0), .val (.int p1), .val (.int p2), .val (.int p3), .val (.int (0 : Int32)), .val (.int wb), .val (.int (1 : Int32)), .val (.int we), .val (.ref b9), .unset, .unset, .unset]) rfl) ?_
      show Go p.tables e below _ (T11.setTop (mkF m 31 #[.val (.int p0), .val (.int p1), .val (.int p2), .val (.int p3), .val (.int (0 : Int32)), .val (.int wb), .val (.int (1 : Int32)), .val (.int we), .val (.ref b9), .unset, .unset, .unset] []))
      refine Go.by (fun _ => XS.aload X11.here hx rfl (hb hby at_31) rfl rfl) ?_
      refine Go.by (fun _ => XS.iload X11.here hx rfl (hb hby at_33) rfl) ?_
      refine Go.by (fun _ => XS.iload X11.here hx rfl (hb hby at_35) rfl) ?_
      show Go p.tables e below _ (T11.setTop (mkF m 37 #[.val (.int p0), .val (.int p1), .val (.int p2), .val (.int p3), .val (.int (0 : Int32)), .val (.int wb), .val (.int (1 : Int32)), .val (.int we), .val (.ref b9), .unset, .unset, .unset] [(.int wb), (.int (0 : Int32)), (.ref b9)]))
      obtain ⟨v13, T13, h13, X13, q13, st13⟩ := X11.callV hx hZ (y := (⟨"com/example/bitstrata/bitstrata/bitmap/Formula$Workspace", "vectors", "(II)[[J"⟩ : MethodName)) (z := (⟨"com/example/bitstrata/bitstrata/bitmap/Formula$Workspace", "vectors", "(II)[[J"⟩ : MethodName)) hown (tw hw 13 rfl) (tw hw 14 rfl) (notFace_of_selects (args := #[]) (mvT hZ (tw hw 16 rfl))) (tw hw 16 rfl) (tw hw 15 rfl) (tw hw 2 rfl) (tw hw 17 rfl) (by decide) (rm3_00 l Z a0 hw [] b9 wb o11 kO11 (fun _ => .null) h11 n0 Zs12 Ex11 g_b9 Fv11 V11 hw_wb.1 hw_wb.2) Ex11 (g := (mkF m 37 #[.val (.int p0), .val (.int p1), .val (.int p2), .val (.int p3), .val (.int (0 : Int32)), .val (.int wb), .val (.int (1 : Int32)), .val (.int we), .val (.ref b9), .unset, .unset, .unset] [(.int wb), (.int (0 : Int32)), (.ref b9)])) rfl (by rw [hml]; rfl) (argsL := [(.int (0 : Int32)), (.int wb)]) (rest := []) (lenOf pd2 rfl) rfl (hb hby at_37) rfl (by decide) (Nat.le_of_ble_eq_true rfl) (k' := 2) (n' := 1) rfl rfl (by decide) (by decide)
      refine Go.by st13 ?_
      obtain ⟨rfl, rfl⟩ := q13
      show Go p.tables e below _ (T13.setTop (mkF m 40 #[.val (.int p0), .val (.int p1), .val (.int p2), .val (.int p3), .val (.int (0 : Int32)), .val (.int wb), .val (.int (1 : Int32)), .val (.int we), .val (.ref b9), .unset, .unset, .unset] [(.ref o11)]))
      refine Go.by (fun _ => XS.astore X13.here hx rfl (hb hby at_40) rfl rfl (l' := #[.val (.int p0), .val (.int p1), .val (.int p2), .val (.int p3), .val (.int (0 : Int32)), .val (.int wb), .val (.int (1 : Int32)), .val (.int we), .val (.ref b9), .val (.ref o11), .unset, .unset]) rfl) ?_
      show Go p.tables e below _ (T13.setTop (mkF m 42 #[.val (.int p0), .val (.int p1), .val (.int p2), .val (.int p3), .val (.int (0 : Int32)), .val (.int wb), .val (.int (1 : Int32)), .val (.int we), .val (.ref b9), .val (.ref o11), .unset, .unset] []))
      refine Go.by (fun _ => XS.aload X13.here hx rfl (hb hby at_42) rfl rfl) ?_
      refine Go.by (fun _ => XS.iload X13.here hx rfl (hb hby at_44) rfl) ?_
      refine Go.by (fun _ => XS.iload X13.here hx rfl (hb hby at_46) rfl) ?_
      obtain ⟨v14, T14, h14, X14, q14, st14⟩ := X13.callS hx hZ (y := (⟨"com/example/bitstrata/bitstrata/bitmap/WorkspaceVectorsPinLaw", "shaped", "([[JII)Z"⟩ : MethodName)) hown (tw hw 18 rfl) (tw hw 19 rfl) (tw hw 20 rfl) (tw hw 21 rfl) (by decide) (rm4_00 l Z a0 hw [] o11 wb kO11 kO11 (fun _ => .null) 0  h11 n0 Zs12 V11) (g := (mkF m 48 #[.val (.int p0), .val (.int p1), .val (.int p2), .val (.int p3), .val (.int (0 : Int32)), .val (.int wb), .val (.int (1 : Int32)), .val (.int we), .val (.ref b9), .val (.ref o11), .unset, .unset] [(.int wb), (.int (0 : Int32)), (.ref o11)])) rfl (by rw [hml]; rfl) (argsL := [(.ref o11), (.int (0 : Int32)), (.int wb)]) (rest := []) (lenOf pd3 rfl) rfl (hb hby at_48) rfl (by decide) (Nat.le_of_ble_eq_true rfl) (k' := 2) (n' := 1) rfl rfl (by decide) (by decide)
      refine Go.by st14 ?_
      obtain ⟨rfl, rfl⟩ := q14
      show Go p.tables e below _ (T14.setTop (mkF m 51 #[.val (.int p0), .val (.int p1), .val (.int p2), .val (.int p3), .val (.int (0 : Int32)), .val (.int wb), .val (.int (1 : Int32)), .val (.int we), .val (.ref b9), .val (.ref o11), .unset, .unset] [(.int (1 : Int32))]))
      refine Go.by (fun _ => XS.ifYes X14.here hx rfl (pc0 := 51) (pc' := 56) rfl (hb hby at_51) rfl ((if0 _ _).trans (feq (by decide)).2) (by decide) (by decide)) ?_
      show Go p.tables e below _ (T14.setTop (mkF m 56 #[.val (.int p0), .val (.int p1), .val (.int p2), .val (.int p3), .val (.int (0 : Int32)), .val (.int wb), .val (.int (1 : Int32)), .val (.int we), .val (.ref b9), .val (.ref o11), .unset, .unset] []))
      refine Go.by (fun _ => XS.aload X14.here hx rfl (hb hby at_56) rfl rfl) ?_
      refine Go.by (fun _ => XS.iload X14.here hx rfl (hb hby at_58) rfl) ?_
      show Go p.tables e below _ (T14.setTop (mkF m 60 #[.val (.int p0), .val (.int p1), .val (.int p2), .val (.int p3), .val (.int (0 : Int32)), .val (.int wb), .val (.int (1 : Int32)), .val (.int we), .val (.ref b9), .val (.ref o11), .unset, .unset] [(.int (1 : Int32)), (.ref b9)]))
      refine Go.by (fun _ => XS.iload X14.here hx rfl (hb hby at_60) rfl) ?_
      obtain ⟨v15, T15, h15, X15, q15, st15⟩ := X14.callV hx hZ (y := (⟨"com/example/bitstrata/bitstrata/bitmap/Formula$Workspace", "vectors", "(II)[[J"⟩ : MethodName)) (z := (⟨"com/example/bitstrata/bitstrata/bitmap/Formula$Workspace", "vectors", "(II)[[J"⟩ : MethodName)) hown (tw hw 13 rfl) (tw hw 14 rfl) (notFace_of_selects (args := #[]) (mvT hZ (tw hw 16 rfl))) (tw hw 16 rfl) (tw hw 15 rfl) (tw hw 2 rfl) (tw hw 17 rfl) (by decide) (rm3_01 l Z a0 hw [] b9 we o11 kO11 (fun _ => .null) h11 n0 Zs12 Ex11 g_b9 Fv11 V11 hw_we.1 hw_we.2) Ex11 (g := (mkF m 62 #[.val (.int p0), .val (.int p1), .val (.int p2), .val (.int p3), .val (.int (0 : Int32)), .val (.int wb), .val (.int (1 : Int32)), .val (.int we), .val (.ref b9), .val (.ref o11), .unset, .unset] [(.int we), (.int (1 : Int32)), (.ref b9)])) rfl (by rw [hml]; rfl) (argsL := [(.int (1 : Int32)), (.int we)]) (rest := []) (lenOf pd2 rfl) rfl (hb hby at_62) rfl (by decide) (Nat.le_of_ble_eq_true rfl) (k' := 4) (n' := 9) rfl rfl (by decide) (by decide)
      refine Go.by st15 ?_
      obtain ⟨r15, kc15, kd15, rfl, sr15, K15, Ex15, Fv15, V15, VV15⟩ := q15
      have g_r15 : n0 ≤ r15 := Nat.le_trans Zs12 sr15
      have ne_b9_r15 : b9 ≠ r15 := Nat.ne_of_lt (Nat.lt_of_lt_of_le Ex11.lt sr15)
      obtain ⟨x15_0, ex15_0⟩ : ∃ z, z = r15 + 1 + 0 := ⟨_, rfl⟩
      have Vx15_0 := VV15 0 (by decide)
      rw [← ex15_0] at Vx15_0
      have sx15_0 : h11.size ≤ x15_0 := by rw [ex15_0]; exact Nat.le_trans sr15 (Nat.le_trans (Nat.le_add_right _ 1) (Nat.le_add_right _ 0))
      have g_x15_0 : n0 ≤ x15_0 := Nat.le_trans Zs12 sx15_0
      have ne_b9_x15_0 : b9 ≠ x15_0 := Nat.ne_of_lt (Nat.lt_of_lt_of_le Ex11.lt sx15_0)
      have f16_162 := Ex11.keep K15
      have Zs16 : n0 ≤ h15.size := Nat.le_trans Zs12 K15.1
      show Go p.tables e below _ (T15.setTop (mkF m 65 #[.val (.int p0), .val (.int p1), .val (.int p2), .val (.int p3), .val (.int (0 : Int32)), .val (.int wb), .val (.int (1 : Int32)), .val (.int we), .val (.ref b9), .val (.ref o11), .unset, .unset] [(.ref r15)]))
      refine Go.by (fun _ => XS.astore X15.here hx rfl (hb hby at_65) rfl rfl (l' := #[.val (.int p0), .val (.int p1), .val (.int p2), .val (.int p3), .val (.int (0 : Int32)), .val (.int wb), .val (.int (1 : Int32)), .val (.int we), .val (.ref b9), .val (.ref o11), .val (.ref r15), .unset]) rfl) ?_
      show Go p.tables e below _ (T15.setTop (mkF m 67 #[.val (.int p0), .val (.int p1), .val (.int p2), .val (.int p3), .val (.int (0 : Int32)), .val (.int wb), .val (.int (1 : Int32)), .val (.int we), .val (.ref b9), .val (.ref o11), .val (.ref r15), .unset] []))
      refine Go.by (fun _ => XS.aload X15.here hx rfl (hb hby at_67) rfl rfl) ?_
      refine Go.by (fun _ => XS.iload X15.here hx rfl (hb hby at_69) rfl) ?_
      refine Go.by (fun _ => XS.iload X15.here hx rfl (hb hby at_71) rfl) ?_
      obtain ⟨v17, T17, h17, X17, q17, st17⟩ := X15.callS hx hZ (y := (⟨"com/example/bitstrata/bitstrata/bitmap/WorkspaceVectorsPinLaw", "shaped", "([[JII)Z"⟩ : MethodName)) hown (tw hw 18 rfl) (tw hw 19 rfl) (tw hw 20 rfl) (tw hw 21 rfl) (by decide) (rm4_11 l Z a0 hw [] r15 we kc15 kd15 (fun i => .ref (r15 + 1 + i)) (we.toNatClampNeg) x15_0 h15 n0 Zs16 V15 (back32 hw_we.1).1 (congrArg Value.ref ex15_0.symm) Vx15_0) (g := (mkF m 73 #[.val (.int p0), .val (.int p1), .val (.int p2), .val (.int p3), .val (.int (0 : Int32)), .val (.int wb), .val (.int (1 : Int32)), .val (.int we), .val (.ref b9), .val (.ref o11), .val (.ref r15), .unset] [(.int we), (.int (1 : Int32)), (.ref r15)])) rfl (by rw [hml]; rfl) (argsL := [(.ref r15), (.int (1 : Int32)), (.int we)]) (rest := []) (lenOf pd3 rfl) rfl (hb hby at_73) rfl (by decide) (Nat.le_of_ble_eq_true rfl) (k' := 4) (n' := 9) rfl rfl (by decide) (by decide)
      refine Go.by st17 ?_
      obtain ⟨rfl, rfl⟩ := q17
      show Go p.tables e below _ (T17.setTop (mkF m 76 #[.val (.int p0), .val (.int p1), .val (.int p2), .val (.int p3), .val (.int (0 : Int32)), .val (.int wb), .val (.int (1 : Int32)), .val (.int we), .val (.ref b9), .val (.ref o11), .val (.ref r15), .unset] [(.int (1 : Int32))]))
      refine Go.by (fun _ => XS.ifYes X17.here hx rfl (pc0 := 76) (pc' := 81) rfl (hb hby at_76) rfl ((if0 _ _).trans (feq (by decide)).2) (by decide) (by decide)) ?_
      show Go p.tables e below _ (T17.setTop (mkF m 81 #[.val (.int p0), .val (.int p1), .val (.int p2), .val (.int p3), .val (.int (0 : Int32)), .val (.int wb), .val (.int (1 : Int32)), .val (.int we), .val (.ref b9), .val (.ref o11), .val (.ref r15), .unset] []))
      refine Go.by (fun _ => XS.iload X17.here hx rfl (hb hby at_81) rfl) ?_
      show Go p.tables e below _ (T17.setTop (mkF m 83 #[.val (.int p0), .val (.int p1), .val (.int p2), .val (.int p3), .val (.int (0 : Int32)), .val (.int wb), .val (.int (1 : Int32)), .val (.int we), .val (.ref b9), .val (.ref o11), .val (.ref r15), .unset] [(.int (1 : Int32))]))
      refine Go.by (fun _ => XS.iload X17.here hx rfl (hb hby at_83) rfl) ?_
      refine Go.by (fun _ => XS.icmpYes X17.here hx rfl (pc0 := 85) (pc' := 104) rfl (hb hby at_85) rfl (tlt (by decide)).2.2.1 (by decide) (by decide)) ?_
      show Go p.tables e below _ (T17.setTop (mkF m 104 #[.val (.int p0), .val (.int p1), .val (.int p2), .val (.int p3), .val (.int (0 : Int32)), .val (.int wb), .val (.int (1 : Int32)), .val (.int we), .val (.ref b9), .val (.ref o11), .val (.ref r15), .unset] []))
      refine Go.by (fun _ => XS.iconst X17.here hx rfl (hb hby at_104)) ?_
      refine Go.by (fun _ => XS.istore X17.here hx rfl (hb hby at_105) rfl (l' := #[.val (.int p0), .val (.int p1), .val (.int p2), .val (.int p3), .val (.int (0 : Int32)), .val (.int wb), .val (.int (1 : Int32)), .val (.int we), .val (.ref b9), .val (.ref o11), .val (.ref r15), .val (.int (0 : Int32))]) rfl) ?_
      show Go p.tables e below _ (T17.setTop (mkF m 107 #[.val (.int p0), .val (.int p1), .val (.int p2), .val (.int p3), .val (.int (0 : Int32)), .val (.int wb), .val (.int (1 : Int32)), .val (.int we), .val (.ref b9), .val (.ref o11), .val (.ref r15), .val (.int (0 : Int32))] []))
      refine Go.by (fun _ => XS.iload X17.here hx rfl (hb hby at_107) rfl) ?_
      refine Go.by (fun _ => XS.ifYes X17.here hx rfl (pc0 := 109) (pc' := 121) rfl (hb hby at_109) rfl ((if0 _ _).trans (teq (by decide)).1) (by decide) (by decide)) ?_
      show Go p.tables e below _ (T17.setTop (mkF m 121 #[.val (.int p0), .val (.int p1), .val (.int p2), .val (.int p3), .val (.int (0 : Int32)), .val (.int wb), .val (.int (1 : Int32)), .val (.int we), .val (.ref b9), .val (.ref o11), .val (.ref r15), .val (.int (0 : Int32))] []))
      refine Go.by (fun _ => XS.iconst X17.here hx rfl (hb hby at_121)) ?_
      exact Go.retN X17 hx hlk (z' := (1 : Int32)) hret (by simp) (hb hby at_122) rfl (by decide) (by decide) rfl
    · rw [ec]
      show Go p.tables e below _ (T0.setTop (mkF m 22 #[.val (.int p0), .val (.int p1), .val (.int p2), .val (.int p3), .val (.int (0 : Int32)), .val (.int wb), .val (.int (2 : Int32)), .val (.int we), .unset, .unset, .unset, .unset] []))
      obtain ⟨T18, h18, b18, X18, g18, E18, A18, D18, st18⟩ := X0.newO hx hZ hown (tw hw 0 rfl) (tw hw 1 rfl) (tw hw 2 rfl) (g := (mkF m 22 #[.val (.int p0), .val (.int p1), .val (.int p2), .val (.int p3), .val (.int (0 : Int32)), .val (.int wb), .val (.int (2 : Int32)), .val (.int we), .unset, .unset, .unset, .unset] [])) rfl (hb hby at_22) (k' := 1) (n' := 1) rfl rfl (by decide) (by decide)
      have g_b18 : n0 ≤ b18 := by rw [g18]; exact Z0
      have Zs19 : n0 ≤ h18.size := Nat.le_trans Z0 E18.1
      have F18_vectors : Fld Z h18 b18 "com/example/bitstrata/bitstrata/bitmap/Formula$Workspace" "vectors" "[[J" .null := D18 (Or.inl (tw hw 12 rfl)) (ty := (.array (.array .long))) (by decide)
      refine Go.by st18 ?_
      show Go p.tables e below _ (T18.setTop (mkF m 25 #[.val (.int p0), .val (.int p1), .val (.int p2), .val (.int p3), .val (.int (0 : Int32)), .val (.int wb), .val (.int (2 : Int32)), .val (.int we), .unset, .unset, .unset, .unset] [(.ref b18)]))
      refine Go.by (fun _ => XS.dup X18.here hx rfl (hb hby at_25) rfl rfl) ?_
      obtain ⟨v20, T20, h20, X20, q20, st20⟩ := X18.callI hx hZ (y := (⟨"com/example/bitstrata/bitstrata/bitmap/Formula$Workspace", "<init>", "()V"⟩ : MethodName)) rfl hown (tw hw 3 rfl) (tw hw 4 rfl) (tw hw 2 rfl) (tw hw 5 rfl) (by decide) (rm1 l Z a0 hw [] b18 h18 n0 Zs19 A18 g_b18 F18_vectors) (g := (mkF m 26 #[.val (.int p0), .val (.int p1), .val (.int p2), .val (.int p3), .val (.int (0 : Int32)), .val (.int wb), .val (.int (2 : Int32)), .val (.int we), .unset, .unset, .unset, .unset] [(.ref b18), (.ref b18)])) rfl (by rw [hml]; rfl) (argsL := []) (rest := [(.ref b18)]) (lenOf pd1 rfl) rfl (hb hby at_26) rfl (by decide) (Nat.le_of_ble_eq_true rfl) (k' := 2) (n' := 1) rfl rfl (by decide) (by decide)
      refine Go.by st20 ?_
      obtain ⟨o20, kO20, rfl, so20, K20, Ex20, Fv20, V20⟩ := q20
      have g_o20 : n0 ≤ o20 := Nat.le_trans Zs19 so20
      have ne_b18_o20 : b18 ≠ o20 := Nat.ne_of_lt (Nat.lt_of_lt_of_le A18.lt so20)
      have f21_203 := A18.keep K20
      have Zs21 : n0 ≤ h20.size := Nat.le_trans Zs19 K20.1
      show Go p.tables e below _ (T20.setTop (mkF m 29 #[.val (.int p0), .val (.int p1), .val (.int p2), .val (.int p3), .val (.int (0 : Int32)), .val (.int wb), .val (.int (2 : Int32)), .val (.int we), .unset, .unset, .unset, .unset] [(.ref b18)]))
      refine Go.by (fun _ => XS.astore X20.here hx rfl (hb hby at_29) rfl rfl (l' := #[.val (.int p0), .val (.int p1), .val (.int p2), .val (.int p3), .val (.int (0 : Int32)), .val (.int wb), .val (.int (2 : Int32)), .val (.int we), .val (.ref b18), .unset, .unset, .unset]) rfl) ?_
      show Go p.tables e below _ (T20.setTop (mkF m 31 #[.val (.int p0), .val (.int p1), .val (.int p2), .val (.int p3), .val (.int (0 : Int32)), .val (.int wb), .val (.int (2 : Int32)), .val (.int we), .val (.ref b18), .unset, .unset, .unset] []))
      refine Go.by (fun _ => XS.aload X20.here hx rfl (hb hby at_31) rfl rfl) ?_
      refine Go.by (fun _ => XS.iload X20.here hx rfl (hb hby at_33) rfl) ?_
      refine Go.by (fun _ => XS.iload X20.here hx rfl (hb hby at_35) rfl) ?_
      obtain ⟨v22, T22, h22, X22, q22, st22⟩ := X20.callV hx hZ (y := (⟨"com/example/bitstrata/bitstrata/bitmap/Formula$Workspace", "vectors", "(II)[[J"⟩ : MethodName)) (z := (⟨"com/example/bitstrata/bitstrata/bitmap/Formula$Workspace", "vectors", "(II)[[J"⟩ : MethodName)) hown (tw hw 13 rfl) (tw hw 14 rfl) (notFace_of_selects (args := #[]) (mvT hZ (tw hw 16 rfl))) (tw hw 16 rfl) (tw hw 15 rfl) (tw hw 2 rfl) (tw hw 17 rfl) (by decide) (rm3_00 l Z a0 hw [] b18 wb o20 kO20 (fun _ => .null) h20 n0 Zs21 Ex20 g_b18 Fv20 V20 hw_wb.1 hw_wb.2) Ex20 (g := (mkF m 37 #[.val (.int p0), .val (.int p1), .val (.int p2), .val (.int p3), .val (.int (0 : Int32)), .val (.int wb), .val (.int (2 : Int32)), .val (.int we), .val (.ref b18), .unset, .unset, .unset] [(.int wb), (.int (0 : Int32)), (.ref b18)])) rfl (by rw [hml]; rfl) (argsL := [(.int (0 : Int32)), (.int wb)]) (rest := []) (lenOf pd2 rfl) rfl (hb hby at_37) rfl (by decide) (Nat.le_of_ble_eq_true rfl) (k' := 2) (n' := 1) rfl rfl (by decide) (by decide)
      refine Go.by st22 ?_
      obtain ⟨rfl, rfl⟩ := q22
      show Go p.tables e below _ (T22.setTop (mkF m 40 #[.val (.int p0), .val (.int p1), .val (.int p2), .val (.int p3), .val (.int (0 : Int32)), .val (.int wb), .val (.int (2 : Int32)), .val (.int we), .val (.ref b18), .unset, .unset, .unset] [(.ref o20)]))
      refine Go.by (fun _ => XS.astore X22.here hx rfl (hb hby at_40) rfl rfl (l' := #[.val (.int p0), .val (.int p1), .val (.int p2), .val (.int p3), .val (.int (0 : Int32)), .val (.int wb), .val (.int (2 : Int32)), .val (.int we), .val (.ref b18), .val (.ref o20), .unset, .unset]) rfl) ?_
      show Go p.tables e below _ (T22.setTop (mkF m 42 #[.val (.int p0), .val (.int p1), .val (.int p2), .val (.int p3), .val (.int (0 : Int32)), .val (.int wb), .val (.int (2 : Int32)), .val (.int we), .val (.ref b18), .val (.ref o20), .unset, .unset] []))
      refine Go.by (fun _ => XS.aload X22.here hx rfl (hb hby at_42) rfl rfl) ?_
      refine Go.by (fun _ => XS.iload X22.here hx rfl (hb hby at_44) rfl) ?_
      refine Go.by (fun _ => XS.iload X22.here hx rfl (hb hby at_46) rfl) ?_
      obtain ⟨v23, T23, h23, X23, q23, st23⟩ := X22.callS hx hZ (y := (⟨"com/example/bitstrata/bitstrata/bitmap/WorkspaceVectorsPinLaw", "shaped", "([[JII)Z"⟩ : MethodName)) hown (tw hw 18 rfl) (tw hw 19 rfl) (tw hw 20 rfl) (tw hw 21 rfl) (by decide) (rm4_00 l Z a0 hw [] o20 wb kO20 kO20 (fun _ => .null) 0  h20 n0 Zs21 V20) (g := (mkF m 48 #[.val (.int p0), .val (.int p1), .val (.int p2), .val (.int p3), .val (.int (0 : Int32)), .val (.int wb), .val (.int (2 : Int32)), .val (.int we), .val (.ref b18), .val (.ref o20), .unset, .unset] [(.int wb), (.int (0 : Int32)), (.ref o20)])) rfl (by rw [hml]; rfl) (argsL := [(.ref o20), (.int (0 : Int32)), (.int wb)]) (rest := []) (lenOf pd3 rfl) rfl (hb hby at_48) rfl (by decide) (Nat.le_of_ble_eq_true rfl) (k' := 2) (n' := 1) rfl rfl (by decide) (by decide)
      refine Go.by st23 ?_
      obtain ⟨rfl, rfl⟩ := q23
      show Go p.tables e below _ (T23.setTop (mkF m 51 #[.val (.int p0), .val (.int p1), .val (.int p2), .val (.int p3), .val (.int (0 : Int32)), .val (.int wb), .val (.int (2 : Int32)), .val (.int we), .val (.ref b18), .val (.ref o20), .unset, .unset] [(.int (1 : Int32))]))
      refine Go.by (fun _ => XS.ifYes X23.here hx rfl (pc0 := 51) (pc' := 56) rfl (hb hby at_51) rfl ((if0 _ _).trans (feq (by decide)).2) (by decide) (by decide)) ?_
      show Go p.tables e below _ (T23.setTop (mkF m 56 #[.val (.int p0), .val (.int p1), .val (.int p2), .val (.int p3), .val (.int (0 : Int32)), .val (.int wb), .val (.int (2 : Int32)), .val (.int we), .val (.ref b18), .val (.ref o20), .unset, .unset] []))
      refine Go.by (fun _ => XS.aload X23.here hx rfl (hb hby at_56) rfl rfl) ?_
      refine Go.by (fun _ => XS.iload X23.here hx rfl (hb hby at_58) rfl) ?_
      refine Go.by (fun _ => XS.iload X23.here hx rfl (hb hby at_60) rfl) ?_
      show Go p.tables e below _ (T23.setTop (mkF m 62 #[.val (.int p0), .val (.int p1), .val (.int p2), .val (.int p3), .val (.int (0 : Int32)), .val (.int wb), .val (.int (2 : Int32)), .val (.int we), .val (.ref b18), .val (.ref o20), .unset, .unset] [(.int we), (.int (2 : Int32)), (.ref b18)]))
      obtain ⟨v24, T24, h24, X24, q24, st24⟩ := X23.callV hx hZ (y := (⟨"com/example/bitstrata/bitstrata/bitmap/Formula$Workspace", "vectors", "(II)[[J"⟩ : MethodName)) (z := (⟨"com/example/bitstrata/bitstrata/bitmap/Formula$Workspace", "vectors", "(II)[[J"⟩ : MethodName)) hown (tw hw 13 rfl) (tw hw 14 rfl) (notFace_of_selects (args := #[]) (mvT hZ (tw hw 16 rfl))) (tw hw 16 rfl) (tw hw 15 rfl) (tw hw 2 rfl) (tw hw 17 rfl) (by decide) (rm3_02 l Z a0 hw [] b18 we o20 kO20 (fun _ => .null) h20 n0 Zs21 Ex20 g_b18 Fv20 V20 hw_we.1 hw_we.2) Ex20 (g := (mkF m 62 #[.val (.int p0), .val (.int p1), .val (.int p2), .val (.int p3), .val (.int (0 : Int32)), .val (.int wb), .val (.int (2 : Int32)), .val (.int we), .val (.ref b18), .val (.ref o20), .unset, .unset] [(.int we), (.int (2 : Int32)), (.ref b18)])) rfl (by rw [hml]; rfl) (argsL := [(.int (2 : Int32)), (.int we)]) (rest := []) (lenOf pd2 rfl) rfl (hb hby at_62) rfl (by decide) (Nat.le_of_ble_eq_true rfl) (k' := 5) (n' := 17) rfl rfl (by decide) (by decide)
      refine Go.by st24 ?_
      obtain ⟨r24, kc24, kd24, rfl, sr24, K24, Ex24, Fv24, V24, VV24⟩ := q24
      have g_r24 : n0 ≤ r24 := Nat.le_trans Zs21 sr24
      have ne_b18_r24 : b18 ≠ r24 := Nat.ne_of_lt (Nat.lt_of_lt_of_le Ex20.lt sr24)
      obtain ⟨x24_0, ex24_0⟩ : ∃ z, z = r24 + 1 + 0 := ⟨_, rfl⟩
      have Vx24_0 := VV24 0 (by decide)
      rw [← ex24_0] at Vx24_0
      have sx24_0 : h20.size ≤ x24_0 := by rw [ex24_0]; exact Nat.le_trans sr24 (Nat.le_trans (Nat.le_add_right _ 1) (Nat.le_add_right _ 0))
      have g_x24_0 : n0 ≤ x24_0 := Nat.le_trans Zs21 sx24_0
      have ne_b18_x24_0 : b18 ≠ x24_0 := Nat.ne_of_lt (Nat.lt_of_lt_of_le Ex20.lt sx24_0)
      obtain ⟨x24_1, ex24_1⟩ : ∃ z, z = r24 + 1 + 1 := ⟨_, rfl⟩
      have Vx24_1 := VV24 1 (by decide)
      rw [← ex24_1] at Vx24_1
      have sx24_1 : h20.size ≤ x24_1 := by rw [ex24_1]; exact Nat.le_trans sr24 (Nat.le_trans (Nat.le_add_right _ 1) (Nat.le_add_right _ 1))
      have g_x24_1 : n0 ≤ x24_1 := Nat.le_trans Zs21 sx24_1
      have ne_b18_x24_1 : b18 ≠ x24_1 := Nat.ne_of_lt (Nat.lt_of_lt_of_le Ex20.lt sx24_1)
      have f25_247 := Ex20.keep K24
      have Zs25 : n0 ≤ h24.size := Nat.le_trans Zs21 K24.1
      have nx24_01 : x24_0 ≠ x24_1 := by rw [ex24_0, ex24_1]; exact fun q => absurd (Nat.add_left_cancel q) (by decide)
      show Go p.tables e below _ (T24.setTop (mkF m 65 #[.val (.int p0), .val (.int p1), .val (.int p2), .val (.int p3), .val (.int (0 : Int32)), .val (.int wb), .val (.int (2 : Int32)), .val (.int we), .val (.ref b18), .val (.ref o20), .unset, .unset] [(.ref r24)]))
      refine Go.by (fun _ => XS.astore X24.here hx rfl (hb hby at_65) rfl rfl (l' := #[.val (.int p0), .val (.int p1), .val (.int p2), .val (.int p3), .val (.int (0 : Int32)), .val (.int wb), .val (.int (2 : Int32)), .val (.int we), .val (.ref b18), .val (.ref o20), .val (.ref r24), .unset]) rfl) ?_
      show Go p.tables e below _ (T24.setTop (mkF m 67 #[.val (.int p0), .val (.int p1), .val (.int p2), .val (.int p3), .val (.int (0 : Int32)), .val (.int wb), .val (.int (2 : Int32)), .val (.int we), .val (.ref b18), .val (.ref o20), .val (.ref r24), .unset] []))
      refine Go.by (fun _ => XS.aload X24.here hx rfl (hb hby at_67) rfl rfl) ?_
      refine Go.by (fun _ => XS.iload X24.here hx rfl (hb hby at_69) rfl) ?_
      refine Go.by (fun _ => XS.iload X24.here hx rfl (hb hby at_71) rfl) ?_
      obtain ⟨v26, T26, h26, X26, q26, st26⟩ := X24.callS hx hZ (y := (⟨"com/example/bitstrata/bitstrata/bitmap/WorkspaceVectorsPinLaw", "shaped", "([[JII)Z"⟩ : MethodName)) hown (tw hw 18 rfl) (tw hw 19 rfl) (tw hw 20 rfl) (tw hw 21 rfl) (by decide) (rm4_22 l Z a0 hw [] r24 we kc24 kd24 (fun i => .ref (r24 + 1 + i)) (we.toNatClampNeg) x24_0 x24_1 h24 n0 Zs25 V24 (back32 hw_we.1).1 (congrArg Value.ref ex24_0.symm) Vx24_0 (congrArg Value.ref ex24_1.symm) Vx24_1 nx24_01) (g := (mkF m 73 #[.val (.int p0), .val (.int p1), .val (.int p2), .val (.int p3), .val (.int (0 : Int32)), .val (.int wb), .val (.int (2 : Int32)), .val (.int we), .val (.ref b18), .val (.ref o20), .val (.ref r24), .unset] [(.int we), (.int (2 : Int32)), (.ref r24)])) rfl (by rw [hml]; rfl) (argsL := [(.ref r24), (.int (2 : Int32)), (.int we)]) (rest := []) (lenOf pd3 rfl) rfl (hb hby at_73) rfl (by decide) (Nat.le_of_ble_eq_true rfl) (k' := 5) (n' := 17) rfl rfl (by decide) (by decide)
      refine Go.by st26 ?_
      obtain ⟨rfl, rfl⟩ := q26
      show Go p.tables e below _ (T26.setTop (mkF m 76 #[.val (.int p0), .val (.int p1), .val (.int p2), .val (.int p3), .val (.int (0 : Int32)), .val (.int wb), .val (.int (2 : Int32)), .val (.int we), .val (.ref b18), .val (.ref o20), .val (.ref r24), .unset] [(.int (1 : Int32))]))
      refine Go.by (fun _ => XS.ifYes X26.here hx rfl (pc0 := 76) (pc' := 81) rfl (hb hby at_76) rfl ((if0 _ _).trans (feq (by decide)).2) (by decide) (by decide)) ?_
      show Go p.tables e below _ (T26.setTop (mkF m 81 #[.val (.int p0), .val (.int p1), .val (.int p2), .val (.int p3), .val (.int (0 : Int32)), .val (.int wb), .val (.int (2 : Int32)), .val (.int we), .val (.ref b18), .val (.ref o20), .val (.ref r24), .unset] []))
      refine Go.by (fun _ => XS.iload X26.here hx rfl (hb hby at_81) rfl) ?_
      refine Go.by (fun _ => XS.iload X26.here hx rfl (hb hby at_83) rfl) ?_
      show Go p.tables e below _ (T26.setTop (mkF m 85 #[.val (.int p0), .val (.int p1), .val (.int p2), .val (.int p3), .val (.int (0 : Int32)), .val (.int wb), .val (.int (2 : Int32)), .val (.int we), .val (.ref b18), .val (.ref o20), .val (.ref r24), .unset] [(.int (0 : Int32)), (.int (2 : Int32))]))
      refine Go.by (fun _ => XS.icmpYes X26.here hx rfl (pc0 := 85) (pc' := 104) rfl (hb hby at_85) rfl (tlt (by decide)).2.2.1 (by decide) (by decide)) ?_
      show Go p.tables e below _ (T26.setTop (mkF m 104 #[.val (.int p0), .val (.int p1), .val (.int p2), .val (.int p3), .val (.int (0 : Int32)), .val (.int wb), .val (.int (2 : Int32)), .val (.int we), .val (.ref b18), .val (.ref o20), .val (.ref r24), .unset] []))
      refine Go.by (fun _ => XS.iconst X26.here hx rfl (hb hby at_104)) ?_
      refine Go.by (fun _ => XS.istore X26.here hx rfl (hb hby at_105) rfl (l' := #[.val (.int p0), .val (.int p1), .val (.int p2), .val (.int p3), .val (.int (0 : Int32)), .val (.int wb), .val (.int (2 : Int32)), .val (.int we), .val (.ref b18), .val (.ref o20), .val (.ref r24), .val (.int (0 : Int32))]) rfl) ?_
      show Go p.tables e below _ (T26.setTop (mkF m 107 #[.val (.int p0), .val (.int p1), .val (.int p2), .val (.int p3), .val (.int (0 : Int32)), .val (.int wb), .val (.int (2 : Int32)), .val (.int we), .val (.ref b18), .val (.ref o20), .val (.ref r24), .val (.int (0 : Int32))] []))
      refine Go.by (fun _ => XS.iload X26.here hx rfl (hb hby at_107) rfl) ?_
      refine Go.by (fun _ => XS.ifYes X26.here hx rfl (pc0 := 109) (pc' := 121) rfl (hb hby at_109) rfl ((if0 _ _).trans (teq (by decide)).1) (by decide) (by decide)) ?_
      show Go p.tables e below _ (T26.setTop (mkF m 121 #[.val (.int p0), .val (.int p1), .val (.int p2), .val (.int p3), .val (.int (0 : Int32)), .val (.int wb), .val (.int (2 : Int32)), .val (.int we), .val (.ref b18), .val (.ref o20), .val (.ref r24), .val (.int (0 : Int32))] []))
      refine Go.by (fun _ => XS.iconst X26.here hx rfl (hb hby at_121)) ?_
      exact Go.retN X26 hx hlk (z' := (1 : Int32)) hret (by simp) (hb hby at_122) rfl (by decide) (by decide) rfl
    · rw [ec]
      show Go p.tables e below _ (T0.setTop (mkF m 22 #[.val (.int p0), .val (.int p1), .val (.int p2), .val (.int p3), .val (.int (0 : Int32)), .val (.int wb), .val (.int (3 : Int32)), .val (.int we), .unset, .unset, .unset, .unset] []))
      obtain ⟨T27, h27, b27, X27, g27, E27, A27, D27, st27⟩ := X0.newO hx hZ hown (tw hw 0 rfl) (tw hw 1 rfl) (tw hw 2 rfl) (g := (mkF m 22 #[.val (.int p0), .val (.int p1), .val (.int p2), .val (.int p3), .val (.int (0 : Int32)), .val (.int wb), .val (.int (3 : Int32)), .val (.int we), .unset, .unset, .unset, .unset] [])) rfl (hb hby at_22) (k' := 1) (n' := 1) rfl rfl (by decide) (by decide)
      have g_b27 : n0 ≤ b27 := by rw [g27]; exact Z0
      have Zs28 : n0 ≤ h27.size := Nat.le_trans Z0 E27.1
      have F27_vectors : Fld Z h27 b27 "com/example/bitstrata/bitstrata/bitmap/Formula$Workspace" "vectors" "[[J" .null := D27 (Or.inl (tw hw 12 rfl)) (ty := (.array (.array .long))) (by decide)
      refine Go.by st27 ?_
      show Go p.tables e below _ (T27.setTop (mkF m 25 #[.val (.int p0), .val (.int p1), .val (.int p2), .val (.int p3), .val (.int (0 : Int32)), .val (.int wb), .val (.int (3 : Int32)), .val (.int we), .unset, .unset, .unset, .unset] [(.ref b27)]))
      refine Go.by (fun _ => XS.dup X27.here hx rfl (hb hby at_25) rfl rfl) ?_
      show Go p.tables e below _ (T27.setTop (mkF m 26 #[.val (.int p0), .val (.int p1), .val (.int p2), .val (.int p3), .val (.int (0 : Int32)), .val (.int wb), .val (.int (3 : Int32)), .val (.int we), .unset, .unset, .unset, .unset] [(.ref b27), (.ref b27)]))
      obtain ⟨v29, T29, h29, X29, q29, st29⟩ := X27.callI hx hZ (y := (⟨"com/example/bitstrata/bitstrata/bitmap/Formula$Workspace", "<init>", "()V"⟩ : MethodName)) rfl hown (tw hw 3 rfl) (tw hw 4 rfl) (tw hw 2 rfl) (tw hw 5 rfl) (by decide) (rm1 l Z a0 hw [] b27 h27 n0 Zs28 A27 g_b27 F27_vectors) (g := (mkF m 26 #[.val (.int p0), .val (.int p1), .val (.int p2), .val (.int p3), .val (.int (0 : Int32)), .val (.int wb), .val (.int (3 : Int32)), .val (.int we), .unset, .unset, .unset, .unset] [(.ref b27), (.ref b27)])) rfl (by rw [hml]; rfl) (argsL := []) (rest := [(.ref b27)]) (lenOf pd1 rfl) rfl (hb hby at_26) rfl (by decide) (Nat.le_of_ble_eq_true rfl) (k' := 2) (n' := 1) rfl rfl (by decide) (by decide)
      refine Go.by st29 ?_
      obtain ⟨o29, kO29, rfl, so29, K29, Ex29, Fv29, V29⟩ := q29
      have g_o29 : n0 ≤ o29 := Nat.le_trans Zs28 so29
      have ne_b27_o29 : b27 ≠ o29 := Nat.ne_of_lt (Nat.lt_of_lt_of_le A27.lt so29)
      have f30_290 := A27.keep K29
      have Zs30 : n0 ≤ h29.size := Nat.le_trans Zs28 K29.1
      show Go p.tables e below _ (T29.setTop (mkF m 29 #[.val (.int p0), .val (.int p1), .val (.int p2), .val (.int p3), .val (.int (0 : Int32)), .val (.int wb), .val (.int (3 : Int32)), .val (.int we), .unset, .unset, .unset, .unset] [(.ref b27)]))
      refine Go.by (fun _ => XS.astore X29.here hx rfl (hb hby at_29) rfl rfl (l' := #[.val (.int p0), .val (.int p1), .val (.int p2), .val (.int p3), .val (.int (0 : Int32)), .val (.int wb), .val (.int (3 : Int32)), .val (.int we), .val (.ref b27), .unset, .unset, .unset]) rfl) ?_
      show Go p.tables e below _ (T29.setTop (mkF m 31 #[.val (.int p0), .val (.int p1), .val (.int p2), .val (.int p3), .val (.int (0 : Int32)), .val (.int wb), .val (.int (3 : Int32)), .val (.int we), .val (.ref b27), .unset, .unset, .unset] []))
      refine Go.by (fun _ => XS.aload X29.here hx rfl (hb hby at_31) rfl rfl) ?_
      refine Go.by (fun _ => XS.iload X29.here hx rfl (hb hby at_33) rfl) ?_
      refine Go.by (fun _ => XS.iload X29.here hx rfl (hb hby at_35) rfl) ?_
      obtain ⟨v31, T31, h31, X31, q31, st31⟩ := X29.callV hx hZ (y := (⟨"com/example/bitstrata/bitstrata/bitmap/Formula$Workspace", "vectors", "(II)[[J"⟩ : MethodName)) (z := (⟨"com/example/bitstrata/bitstrata/bitmap/Formula$Workspace", "vectors", "(II)[[J"⟩ : MethodName)) hown (tw hw 13 rfl) (tw hw 14 rfl) (notFace_of_selects (args := #[]) (mvT hZ (tw hw 16 rfl))) (tw hw 16 rfl) (tw hw 15 rfl) (tw hw 2 rfl) (tw hw 17 rfl) (by decide) (rm3_00 l Z a0 hw [] b27 wb o29 kO29 (fun _ => .null) h29 n0 Zs30 Ex29 g_b27 Fv29 V29 hw_wb.1 hw_wb.2) Ex29 (g := (mkF m 37 #[.val (.int p0), .val (.int p1), .val (.int p2), .val (.int p3), .val (.int (0 : Int32)), .val (.int wb), .val (.int (3 : Int32)), .val (.int we), .val (.ref b27), .unset, .unset, .unset] [(.int wb), (.int (0 : Int32)), (.ref b27)])) rfl (by rw [hml]; rfl) (argsL := [(.int (0 : Int32)), (.int wb)]) (rest := []) (lenOf pd2 rfl) rfl (hb hby at_37) rfl (by decide) (Nat.le_of_ble_eq_true rfl) (k' := 2) (n' := 1) rfl rfl (by decide) (by decide)
      refine Go.by st31 ?_
      obtain ⟨rfl, rfl⟩ := q31
      show Go p.tables e below _ (T31.setTop (mkF m 40 #[.val (.int p0), .val (.int p1), .val (.int p2), .val (.int p3), .val (.int (0 : Int32)), .val (.int wb), .val (.int (3 : Int32)), .val (.int we), .val (.ref b27), .unset, .unset, .unset] [(.ref o29)]))
      refine Go.by (fun _ => XS.astore X31.here hx rfl (hb hby at_40) rfl rfl (l' := #[.val (.int p0), .val (.int p1), .val (.int p2), .val (.int p3), .val (.int (0 : Int32)), .val (.int wb), .val (.int (3 : Int32)), .val (.int we), .val (.ref b27), .val (.ref o29), .unset, .unset]) rfl) ?_
      show Go p.tables e below _ (T31.setTop (mkF m 42 #[.val (.int p0), .val (.int p1), .val (.int p2), .val (.int p3), .val (.int (0 : Int32)), .val (.int wb), .val (.int (3 : Int32)), .val (.int we), .val (.ref b27), .val (.ref o29), .unset, .unset] []))
      refine Go.by (fun _ => XS.aload X31.here hx rfl (hb hby at_42) rfl rfl) ?_
      show Go p.tables e below _ (T31.setTop (mkF m 44 #[.val (.int p0), .val (.int p1), .val (.int p2), .val (.int p3), .val (.int (0 : Int32)), .val (.int wb), .val (.int (3 : Int32)), .val (.int we), .val (.ref b27), .val (.ref o29), .unset, .unset] [(.ref o29)]))
      refine Go.by (fun _ => XS.iload X31.here hx rfl (hb hby at_44) rfl) ?_
      refine Go.by (fun _ => XS.iload X31.here hx rfl (hb hby at_46) rfl) ?_
      obtain ⟨v32, T32, h32, X32, q32, st32⟩ := X31.callS hx hZ (y := (⟨"com/example/bitstrata/bitstrata/bitmap/WorkspaceVectorsPinLaw", "shaped", "([[JII)Z"⟩ : MethodName)) hown (tw hw 18 rfl) (tw hw 19 rfl) (tw hw 20 rfl) (tw hw 21 rfl) (by decide) (rm4_00 l Z a0 hw [] o29 wb kO29 kO29 (fun _ => .null) 0  h29 n0 Zs30 V29) (g := (mkF m 48 #[.val (.int p0), .val (.int p1), .val (.int p2), .val (.int p3), .val (.int (0 : Int32)), .val (.int wb), .val (.int (3 : Int32)), .val (.int we), .val (.ref b27), .val (.ref o29), .unset, .unset] [(.int wb), (.int (0 : Int32)), (.ref o29)])) rfl (by rw [hml]; rfl) (argsL := [(.ref o29), (.int (0 : Int32)), (.int wb)]) (rest := []) (lenOf pd3 rfl) rfl (hb hby at_48) rfl (by decide) (Nat.le_of_ble_eq_true rfl) (k' := 2) (n' := 1) rfl rfl (by decide) (by decide)
      refine Go.by st32 ?_
      obtain ⟨rfl, rfl⟩ := q32
      show Go p.tables e below _ (T32.setTop (mkF m 51 #[.val (.int p0), .val (.int p1), .val (.int p2), .val (.int p3), .val (.int (0 : Int32)), .val (.int wb), .val (.int (3 : Int32)), .val (.int we), .val (.ref b27), .val (.ref o29), .unset, .unset] [(.int (1 : Int32))]))
      refine Go.by (fun _ => XS.ifYes X32.here hx rfl (pc0 := 51) (pc' := 56) rfl (hb hby at_51) rfl ((if0 _ _).trans (feq (by decide)).2) (by decide) (by decide)) ?_
      show Go p.tables e below _ (T32.setTop (mkF m 56 #[.val (.int p0), .val (.int p1), .val (.int p2), .val (.int p3), .val (.int (0 : Int32)), .val (.int wb), .val (.int (3 : Int32)), .val (.int we), .val (.ref b27), .val (.ref o29), .unset, .unset] []))
      refine Go.by (fun _ => XS.aload X32.here hx rfl (hb hby at_56) rfl rfl) ?_
      refine Go.by (fun _ => XS.iload X32.here hx rfl (hb hby at_58) rfl) ?_
      refine Go.by (fun _ => XS.iload X32.here hx rfl (hb hby at_60) rfl) ?_
      obtain ⟨v33, T33, h33, X33, q33, st33⟩ := X32.callV hx hZ (y := (⟨"com/example/bitstrata/bitstrata/bitmap/Formula$Workspace", "vectors", "(II)[[J"⟩ : MethodName)) (z := (⟨"com/example/bitstrata/bitstrata/bitmap/Formula$Workspace", "vectors", "(II)[[J"⟩ : MethodName)) hown (tw hw 13 rfl) (tw hw 14 rfl) (notFace_of_selects (args := #[]) (mvT hZ (tw hw 16 rfl))) (tw hw 16 rfl) (tw hw 15 rfl) (tw hw 2 rfl) (tw hw 17 rfl) (by decide) (rm3_03 l Z a0 hw [] b27 we o29 kO29 (fun _ => .null) h29 n0 Zs30 Ex29 g_b27 Fv29 V29 hw_we.1 hw_we.2) Ex29 (g := (mkF m 62 #[.val (.int p0), .val (.int p1), .val (.int p2), .val (.int p3), .val (.int (0 : Int32)), .val (.int wb), .val (.int (3 : Int32)), .val (.int we), .val (.ref b27), .val (.ref o29), .unset, .unset] [(.int we), (.int (3 : Int32)), (.ref b27)])) rfl (by rw [hml]; rfl) (argsL := [(.int (3 : Int32)), (.int we)]) (rest := []) (lenOf pd2 rfl) rfl (hb hby at_62) rfl (by decide) (Nat.le_of_ble_eq_true rfl) (k' := 6) (n' := 25) rfl rfl (by decide) (by decide)
      refine Go.by st33 ?_
      obtain ⟨r33, kc33, kd33, rfl, sr33, K33, Ex33, Fv33, V33, VV33⟩ := q33
      have g_r33 : n0 ≤ r33 := Nat.le_trans Zs30 sr33
      have ne_b27_r33 : b27 ≠ r33 := Nat.ne_of_lt (Nat.lt_of_lt_of_le Ex29.lt sr33)
      obtain ⟨x33_0, ex33_0⟩ : ∃ z, z = r33 + 1 + 0 := ⟨_, rfl⟩
      have Vx33_0 := VV33 0 (by decide)
      rw [← ex33_0] at Vx33_0
      have sx33_0 : h29.size ≤ x33_0 := by rw [ex33_0]; exact Nat.le_trans sr33 (Nat.le_trans (Nat.le_add_right _ 1) (Nat.le_add_right _ 0))
      have g_x33_0 : n0 ≤ x33_0 := Nat.le_trans Zs30 sx33_0
      have ne_b27_x33_0 : b27 ≠ x33_0 := Nat.ne_of_lt (Nat.lt_of_lt_of_le Ex29.lt sx33_0)
      obtain ⟨x33_1, ex33_1⟩ : ∃ z, z = r33 + 1 + 1 := ⟨_, rfl⟩
      have Vx33_1 := VV33 1 (by decide)
      rw [← ex33_1] at Vx33_1
      have sx33_1 : h29.size ≤ x33_1 := by rw [ex33_1]; exact Nat.le_trans sr33 (Nat.le_trans (Nat.le_add_right _ 1) (Nat.le_add_right _ 1))
      have g_x33_1 : n0 ≤ x33_1 := Nat.le_trans Zs30 sx33_1
      have ne_b27_x33_1 : b27 ≠ x33_1 := Nat.ne_of_lt (Nat.lt_of_lt_of_le Ex29.lt sx33_1)
      obtain ⟨x33_2, ex33_2⟩ : ∃ z, z = r33 + 1 + 2 := ⟨_, rfl⟩
      have Vx33_2 := VV33 2 (by decide)
      rw [← ex33_2] at Vx33_2
      have sx33_2 : h29.size ≤ x33_2 := by rw [ex33_2]; exact Nat.le_trans sr33 (Nat.le_trans (Nat.le_add_right _ 1) (Nat.le_add_right _ 2))
      have g_x33_2 : n0 ≤ x33_2 := Nat.le_trans Zs30 sx33_2
      have ne_b27_x33_2 : b27 ≠ x33_2 := Nat.ne_of_lt (Nat.lt_of_lt_of_le Ex29.lt sx33_2)
      have f34_340 := Ex29.keep K33
      have Zs34 : n0 ≤ h33.size := Nat.le_trans Zs30 K33.1
      have nx33_01 : x33_0 ≠ x33_1 := by rw [ex33_0, ex33_1]; exact fun q => absurd (Nat.add_left_cancel q) (by decide)
      have nx33_02 : x33_0 ≠ x33_2 := by rw [ex33_0, ex33_2]; exact fun q => absurd (Nat.add_left_cancel q) (by decide)
      have nx33_12 : x33_1 ≠ x33_2 := by rw [ex33_1, ex33_2]; exact fun q => absurd (Nat.add_left_cancel q) (by decide)
      show Go p.tables e below _ (T33.setTop (mkF m 65 #[.val (.int p0), .val (.int p1), .val (.int p2), .val (.int p3), .val (.int (0 : Int32)), .val (.int wb), .val (.int (3 : Int32)), .val (.int we), .val (.ref b27), .val (.ref o29), .unset, .unset] [(.ref r33)]))
      refine Go.by (fun _ => XS.astore X33.here hx rfl (hb hby at_65) rfl rfl (l' := #[.val (.int p0), .val (.int p1), .val (.int p2), .val (.int p3), .val (.int (0 : Int32)), .val (.int wb), .val (.int (3 : Int32)), .val (.int we), .val (.ref b27), .val (.ref o29), .val (.ref r33), .unset]) rfl) ?_
      show Go p.tables e below _ (T33.setTop (mkF m 67 #[.val (.int p0), .val (.int p1), .val (.int p2), .val (.int p3), .val (.int (0 : Int32)), .val (.int wb), .val (.int (3 : Int32)), .val (.int we), .val (.ref b27), .val (.ref o29), .val (.ref r33), .unset] []))
      refine Go.by (fun _ => XS.aload X33.here hx rfl (hb hby at_67) rfl rfl) ?_
      refine Go.by (fun _ => XS.iload X33.here hx rfl (hb hby at_69) rfl) ?_
      refine Go.by (fun _ => XS.iload X33.here hx rfl (hb hby at_71) rfl) ?_
      obtain ⟨v35, T35, h35, X35, q35, st35⟩ := X33.callS hx hZ (y := (⟨"com/example/bitstrata/bitstrata/bitmap/WorkspaceVectorsPinLaw", "shaped", "([[JII)Z"⟩ : MethodName)) hown (tw hw 18 rfl) (tw hw 19 rfl) (tw hw 20 rfl) (tw hw 21 rfl) (by decide) (rm4_33 l Z a0 hw [] r33 we kc33 kd33 (fun i => .ref (r33 + 1 + i)) (we.toNatClampNeg) x33_0 x33_1 x33_2 h33 n0 Zs34 V33 (back32 hw_we.1).1 (congrArg Value.ref ex33_0.symm) Vx33_0 (congrArg Value.ref ex33_1.symm) Vx33_1 (congrArg Value.ref ex33_2.symm) Vx33_2 nx33_01 nx33_02 nx33_12) (g := (mkF m 73 #[.val (.int p0), .val (.int p1), .val (.int p2), .val (.int p3), .val (.int (0 : Int32)), .val (.int wb), .val (.int (3 : Int32)), .val (.int we), .val (.ref b27), .val (.ref o29), .val (.ref r33), .unset] [(.int we), (.int (3 : Int32)), (.ref r33)])) rfl (by rw [hml]; rfl) (argsL := [(.ref r33), (.int (3 : Int32)), (.int we)]) (rest := []) (lenOf pd3 rfl) rfl (hb hby at_73) rfl (by decide) (Nat.le_of_ble_eq_true rfl) (k' := 6) (n' := 25) rfl rfl (by decide) (by decide)
      refine Go.by st35 ?_
      obtain ⟨rfl, rfl⟩ := q35
      show Go p.tables e below _ (T35.setTop (mkF m 76 #[.val (.int p0), .val (.int p1), .val (.int p2), .val (.int p3), .val (.int (0 : Int32)), .val (.int wb), .val (.int (3 : Int32)), .val (.int we), .val (.ref b27), .val (.ref o29), .val (.ref r33), .unset] [(.int (1 : Int32))]))
      refine Go.by (fun _ => XS.ifYes X35.here hx rfl (pc0 := 76) (pc' := 81) rfl (hb hby at_76) rfl ((if0 _ _).trans (feq (by decide)).2) (by decide) (by decide)) ?_
      show Go p.tables e below _ (T35.setTop (mkF m 81 #[.val (.int p0), .val (.int p1), .val (.int p2), .val (.int p3), .val (.int (0 : Int32)), .val (.int wb), .val (.int (3 : Int32)), .val (.int we), .val (.ref b27), .val (.ref o29), .val (.ref r33), .unset] []))
      refine Go.by (fun _ => XS.iload X35.here hx rfl (hb hby at_81) rfl) ?_
      refine Go.by (fun _ => XS.iload X35.here hx rfl (hb hby at_83) rfl) ?_
      refine Go.by (fun _ => XS.icmpYes X35.here hx rfl (pc0 := 85) (pc' := 104) rfl (hb hby at_85) rfl (tlt (by decide)).2.2.1 (by decide) (by decide)) ?_
      show Go p.tables e below _ (T35.setTop (mkF m 104 #[.val (.int p0), .val (.int p1), .val (.int p2), .val (.int p3), .val (.int (0 : Int32)), .val (.int wb), .val (.int (3 : Int32)), .val (.int we), .val (.ref b27), .val (.ref o29), .val (.ref r33), .unset] []))
      refine Go.by (fun _ => XS.iconst X35.here hx rfl (hb hby at_104)) ?_
      show Go p.tables e below _ (T35.setTop (mkF m 105 #[.val (.int p0), .val (.int p1), .val (.int p2), .val (.int p3), .val (.int (0 : Int32)), .val (.int wb), .val (.int (3 : Int32)), .val (.int we), .val (.ref b27), .val (.ref o29), .val (.ref r33), .unset] [(.int (0 : Int32))]))
      refine Go.by (fun _ => XS.istore X35.here hx rfl (hb hby at_105) rfl (l' := #[.val (.int p0), .val (.int p1), .val (.int p2), .val (.int p3), .val (.int (0 : Int32)), .val (.int wb), .val (.int (3 : Int32)), .val (.int we), .val (.ref b27), .val (.ref o29), .val (.ref r33), .val (.int (0 : Int32))]) rfl) ?_
      show Go p.tables e below _ (T35.setTop (mkF m 107 #[.val (.int p0), .val (.int p1), .val (.int p2), .val (.int p3), .val (.int (0 : Int32)), .val (.int wb), .val (.int (3 : Int32)), .val (.int we), .val (.ref b27), .val (.ref o29), .val (.ref r33), .val (.int (0 : Int32))] []))
      refine Go.by (fun _ => XS.iload X35.here hx rfl (hb hby at_107) rfl) ?_
      refine Go.by (fun _ => XS.ifYes X35.here hx rfl (pc0 := 109) (pc' := 121) rfl (hb hby at_109) rfl ((if0 _ _).trans (teq (by decide)).1) (by decide) (by decide)) ?_
      show Go p.tables e below _ (T35.setTop (mkF m 121 #[.val (.int p0), .val (.int p1), .val (.int p2), .val (.int p3), .val (.int (0 : Int32)), .val (.int wb), .val (.int (3 : Int32)), .val (.int we), .val (.ref b27), .val (.ref o29), .val (.ref r33), .val (.int (0 : Int32))] []))
      refine Go.by (fun _ => XS.iconst X35.here hx rfl (hb hby at_121)) ?_
      exact Go.retN X35 hx hlk (z' := (1 : Int32)) hret (by simp) (hb hby at_122) rfl (by decide) (by decide) rfl
  · rw [ea]
    rcases own_m4 p2 with ec | ec | ec | ec
    · rw [ec]
      show Go p.tables e below _ (T0.setTop (mkF m 22 #[.val (.int p0), .val (.int p1), .val (.int p2), .val (.int p3), .val (.int (1 : Int32)), .val (.int wb), .val (.int (0 : Int32)), .val (.int we), .unset, .unset, .unset, .unset] []))
      obtain ⟨T36, h36, b36, X36, g36, E36, A36, D36, st36⟩ := X0.newO hx hZ hown (tw hw 0 rfl) (tw hw 1 rfl) (tw hw 2 rfl) (g := (mkF m 22 #[.val (.int p0), .val (.int p1), .val (.int p2), .val (.int p3), .val (.int (1 : Int32)), .val (.int wb), .val (.int (0 : Int32)), .val (.int we), .unset, .unset, .unset, .unset] [])) rfl (hb hby at_22) (k' := 1) (n' := 1) rfl rfl (by decide) (by decide)
      have g_b36 : n0 ≤ b36 := by rw [g36]; exact Z0
      have Zs37 : n0 ≤ h36.size := Nat.le_trans Z0 E36.1
      have F36_vectors : Fld Z h36 b36 "com/example/bitstrata/bitstrata/bitmap/Formula$Workspace" "vectors" "[[J" .null := D36 (Or.inl (tw hw 12 rfl)) (ty := (.array (.array .long))) (by decide)
      refine Go.by st36 ?_
      show Go p.tables e below _ (T36.setTop (mkF m 25 #[.val (.int p0), .val (.int p1), .val (.int p2), .val (.int p3), .val (.int (1 : Int32)), .val (.int wb), .val (.int (0 : Int32)), .val (.int we), .unset, .unset, .unset, .unset] [(.ref b36)]))
      refine Go.by (fun _ => XS.dup X36.here hx rfl (hb hby at_25) rfl rfl) ?_
      obtain ⟨v38, T38, h38, X38, q38, st38⟩ := X36.callI hx hZ (y := (⟨"com/example/bitstrata/bitstrata/bitmap/Formula$Workspace", "<init>", "()V"⟩ : MethodName)) rfl hown (tw hw 3 rfl) (tw hw 4 rfl) (tw hw 2 rfl) (tw hw 5 rfl) (by decide) (rm1 l Z a0 hw [] b36 h36 n0 Zs37 A36 g_b36 F36_vectors) (g := (mkF m 26 #[.val (.int p0), .val (.int p1), .val (.int p2), .val (.int p3), .val (.int (1 : Int32)), .val (.int wb), .val (.int (0 : Int32)), .val (.int we), .unset, .unset, .unset, .unset] [(.ref b36), (.ref b36)])) rfl (by rw [hml]; rfl) (argsL := []) (rest := [(.ref b36)]) (lenOf pd1 rfl) rfl (hb hby at_26) rfl (by decide) (Nat.le_of_ble_eq_true rfl) (k' := 2) (n' := 1) rfl rfl (by decide) (by decide)
      refine Go.by st38 ?_
      obtain ⟨o38, kO38, rfl, so38, K38, Ex38, Fv38, V38⟩ := q38
      have g_o38 : n0 ≤ o38 := Nat.le_trans Zs37 so38
      have ne_b36_o38 : b36 ≠ o38 := Nat.ne_of_lt (Nat.lt_of_lt_of_le A36.lt so38)
      have f39_386 := A36.keep K38
      have Zs39 : n0 ≤ h38.size := Nat.le_trans Zs37 K38.1
      show Go p.tables e below _ (T38.setTop (mkF m 29 #[.val (.int p0), .val (.int p1), .val (.int p2), .val (.int p3), .val (.int (1 : Int32)), .val (.int wb), .val (.int (0 : Int32)), .val (.int we), .unset, .unset, .unset, .unset] [(.ref b36)]))
      refine Go.by (fun _ => XS.astore X38.here hx rfl (hb hby at_29) rfl rfl (l' := #[.val (.int p0), .val (.int p1), .val (.int p2), .val (.int p3), .val (.int (1 : Int32)), .val (.int wb), .val (.int (0 : Int32)), .val (.int we), .val (.ref b36), .unset, .unset, .unset]) rfl) ?_
      show Go p.tables e below _ (T38.setTop (mkF m 31 #[.val (.int p0), .val (.int p1), .val (.int p2), .val (.int p3), .val (.int (1 : Int32)), .val (.int wb), .val (.int (0 : Int32)), .val (.int we), .val (.ref b36), .unset, .unset, .unset] []))
      refine Go.by (fun _ => XS.aload X38.here hx rfl (hb hby at_31) rfl rfl) ?_
      refine Go.by (fun _ => XS.iload X38.here hx rfl (hb hby at_33) rfl) ?_
      refine Go.by (fun _ => XS.iload X38.here hx rfl (hb hby at_35) rfl) ?_
      obtain ⟨v40, T40, h40, X40, q40, st40⟩ := X38.callV hx hZ (y := (⟨"com/example/bitstrata/bitstrata/bitmap/Formula$Workspace", "vectors", "(II)[[J"⟩ : MethodName)) (z := (⟨"com/example/bitstrata/bitstrata/bitmap/Formula$Workspace", "vectors", "(II)[[J"⟩ : MethodName)) hown (tw hw 13 rfl) (tw hw 14 rfl) (notFace_of_selects (args := #[]) (mvT hZ (tw hw 16 rfl))) (tw hw 16 rfl) (tw hw 15 rfl) (tw hw 2 rfl) (tw hw 17 rfl) (by decide) (rm3_01 l Z a0 hw [] b36 wb o38 kO38 (fun _ => .null) h38 n0 Zs39 Ex38 g_b36 Fv38 V38 hw_wb.1 hw_wb.2) Ex38 (g := (mkF m 37 #[.val (.int p0), .val (.int p1), .val (.int p2), .val (.int p3), .val (.int (1 : Int32)), .val (.int wb), .val (.int (0 : Int32)), .val (.int we), .val (.ref b36), .unset, .unset, .unset] [(.int wb), (.int (1 : Int32)), (.ref b36)])) rfl (by rw [hml]; rfl) (argsL := [(.int (1 : Int32)), (.int wb)]) (rest := []) (lenOf pd2 rfl) rfl (hb hby at_37) rfl (by decide) (Nat.le_of_ble_eq_true rfl) (k' := 4) (n' := 9) rfl rfl (by decide) (by decide)
      refine Go.by st40 ?_
      obtain ⟨r40, kc40, kd40, rfl, sr40, K40, Ex40, Fv40, V40, VV40⟩ := q40
      have g_r40 : n0 ≤ r40 := Nat.le_trans Zs39 sr40
      have ne_b36_r40 : b36 ≠ r40 := Nat.ne_of_lt (Nat.lt_of_lt_of_le Ex38.lt sr40)
      obtain ⟨x40_0, ex40_0⟩ : ∃ z, z = r40 + 1 + 0 := ⟨_, rfl⟩
      have Vx40_0 := VV40 0 (by decide)
      rw [← ex40_0] at Vx40_0
      have sx40_0 : h38.size ≤ x40_0 := by rw [ex40_0]; exact Nat.le_trans sr40 (Nat.le_trans (Nat.le_add_right _ 1) (Nat.le_add_right _ 0))
      have g_x40_0 : n0 ≤ x40_0 := Nat.le_trans Zs39 sx40_0
      have ne_b36_x40_0 : b36 ≠ x40_0 := Nat.ne_of_lt (Nat.lt_of_lt_of_le Ex38.lt sx40_0)
      have f41_405 := Ex38.keep K40
      have Zs41 : n0 ≤ h40.size := Nat.le_trans Zs39 K40.1
      show Go p.tables e below _ (T40.setTop (mkF m 40 #[.val (.int p0), .val (.int p1), .val (.int p2), .val (.int p3), .val (.int (1 : Int32)), .val (.int wb), .val (.int (0 : Int32)), .val (.int we), .val (.ref b36), .unset, .unset, .unset] [(.ref r40)]))
      refine Go.by (fun _ => XS.astore X40.here hx rfl (hb hby at_40) rfl rfl (l' := #[.val (.int p0), .val (.int p1), .val (.int p2), .val (.int p3), .val (.int (1 : Int32)), .val (.int wb), .val (.int (0 : Int32)), .val (.int we), .val (.ref b36), .val (.ref r40), .unset, .unset]) rfl) ?_
      show Go p.tables e below _ (T40.setTop (mkF m 42 #[.val (.int p0), .val (.int p1), .val (.int p2), .val (.int p3), .val (.int (1 : Int32)), .val (.int wb), .val (.int (0 : Int32)), .val (.int we), .val (.ref b36), .val (.ref r40), .unset, .unset] []))
      refine Go.by (fun _ => XS.aload X40.here hx rfl (hb hby at_42) rfl rfl) ?_
      refine Go.by (fun _ => XS.iload X40.here hx rfl (hb hby at_44) rfl) ?_
      show Go p.tables e below _ (T40.setTop (mkF m 46 #[.val (.int p0), .val (.int p1), .val (.int p2), .val (.int p3), .val (.int (1 : Int32)), .val (.int wb), .val (.int (0 : Int32)), .val (.int we), .val (.ref b36), .val (.ref r40), .unset, .unset] [(.int (1 : Int32)), (.ref r40)]))
      refine Go.by (fun _ => XS.iload X40.here hx rfl (hb hby at_46) rfl) ?_
      obtain ⟨v42, T42, h42, X42, q42, st42⟩ := X40.callS hx hZ (y := (⟨"com/example/bitstrata/bitstrata/bitmap/WorkspaceVectorsPinLaw", "shaped", "([[JII)Z"⟩ : MethodName)) hown (tw hw 18 rfl) (tw hw 19 rfl) (tw hw 20 rfl) (tw hw 21 rfl) (by decide) (rm4_11 l Z a0 hw [] r40 wb kc40 kd40 (fun i => .ref (r40 + 1 + i)) (wb.toNatClampNeg) x40_0 h40 n0 Zs41 V40 (back32 hw_wb.1).1 (congrArg Value.ref ex40_0.symm) Vx40_0) (g := (mkF m 48 #[.val (.int p0), .val (.int p1), .val (.int p2), .val (.int p3), .val (.int (1 : Int32)), .val (.int wb), .val (.int (0 : Int32)), .val (.int we), .val (.ref b36), .val (.ref r40), .unset, .unset] [(.int wb), (.int (1 : Int32)), (.ref r40)])) rfl (by rw [hml]; rfl) (argsL := [(.ref r40), (.int (1 : Int32)), (.int wb)]) (rest := []) (lenOf pd3 rfl) rfl (hb hby at_48) rfl (by decide) (Nat.le_of_ble_eq_true rfl) (k' := 4) (n' := 9) rfl rfl (by decide) (by decide)
      refine Go.by st42 ?_
      obtain ⟨rfl, rfl⟩ := q42
      show Go p.tables e below _ (T42.setTop (mkF m 51 #[.val (.int p0), .val (.int p1), .val (.int p2), .val (.int p3), .val (.int (1 : Int32)), .val (.int wb), .val (.int (0 : Int32)), .val (.int we), .val (.ref b36), .val (.ref r40), .unset, .unset] [(.int (1 : Int32))]))
      refine Go.by (fun _ => XS.ifYes X42.here hx rfl (pc0 := 51) (pc' := 56) rfl (hb hby at_51) rfl ((if0 _ _).trans (feq (by decide)).2) (by decide) (by decide)) ?_
      show Go p.tables e below _ (T42.setTop (mkF m 56 #[.val (.int p0), .val (.int p1), .val (.int p2), .val (.int p3), .val (.int (1 : Int32)), .val (.int wb), .val (.int (0 : Int32)), .val (.int we), .val (.ref b36), .val (.ref r40), .unset, .unset] []))
      refine Go.by (fun _ => XS.aload X42.here hx rfl (hb hby at_56) rfl rfl) ?_
      refine Go.by (fun _ => XS.iload X42.here hx rfl (hb hby at_58) rfl) ?_
      refine Go.by (fun _ => XS.iload X42.here hx rfl (hb hby at_60) rfl) ?_
      obtain ⟨v43, T43, h43, X43, q43, st43⟩ := X42.callV hx hZ (y := (⟨"com/example/bitstrata/bitstrata/bitmap/Formula$Workspace", "vectors", "(II)[[J"⟩ : MethodName)) (z := (⟨"com/example/bitstrata/bitstrata/bitmap/Formula$Workspace", "vectors", "(II)[[J"⟩ : MethodName)) hown (tw hw 13 rfl) (tw hw 14 rfl) (notFace_of_selects (args := #[]) (mvT hZ (tw hw 16 rfl))) (tw hw 16 rfl) (tw hw 15 rfl) (tw hw 2 rfl) (tw hw 17 rfl) (by decide) (rm3_10 l Z a0 hw [] b36 we r40 kc40 (fun i => .ref (r40 + 1 + i)) h40 n0 Zs41 Ex40 g_b36 Fv40 V40 hw_we.1 hw_we.2) Ex40 (g := (mkF m 62 #[.val (.int p0), .val (.int p1), .val (.int p2), .val (.int p3), .val (.int (1 : Int32)), .val (.int wb), .val (.int (0 : Int32)), .val (.int we), .val (.ref b36), .val (.ref r40), .unset, .unset] [(.int we), (.int (0 : Int32)), (.ref b36)])) rfl (by rw [hml]; rfl) (argsL := [(.int (0 : Int32)), (.int we)]) (rest := []) (lenOf pd2 rfl) rfl (hb hby at_62) rfl (by decide) (Nat.le_of_ble_eq_true rfl) (k' := 4) (n' := 9) rfl rfl (by decide) (by decide)
      refine Go.by st43 ?_
      obtain ⟨rfl, rfl⟩ := q43
      show Go p.tables e below _ (T43.setTop (mkF m 65 #[.val (.int p0), .val (.int p1), .val (.int p2), .val (.int p3), .val (.int (1 : Int32)), .val (.int wb), .val (.int (0 : Int32)), .val (.int we), .val (.ref b36), .val (.ref r40), .unset, .unset] [(.ref r40)]))
      refine Go.by (fun _ => XS.astore X43.here hx rfl (hb hby at_65) rfl rfl (l' := #[.val (.int p0), .val (.int p1), .val (.int p2), .val (.int p3), .val (.int (1 : Int32)), .val (.int wb), .val (.int (0 : Int32)), .val (.int we), .val (.ref b36), .val (.ref r40), .val (.ref r40), .unset]) rfl) ?_
      show Go p.tables e below _ (T43.setTop (mkF m 67 #[.val (.int p0), .val (.int p1), .val (.int p2), .val (.int p3), .val (.int (1 : Int32)), .val (.int wb), .val (.int (0 : Int32)), .val (.int we), .val (.ref b36), .val (.ref r40), .val (.ref r40), .unset] []))
      refine Go.by (fun _ => XS.aload X43.here hx rfl (hb hby at_67) rfl rfl) ?_
      show Go p.tables e below _ (T43.setTop (mkF m 69 #[.val (.int p0), .val (.int p1), .val (.int p2), .val (.int p3), .val (.int (1 : Int32)), .val (.int wb), .val (.int (0 : Int32)), .val (.int we), .val (.ref b36), .val (.ref r40), .val (.ref r40), .unset] [(.ref r40)]))
      refine Go.by (fun _ => XS.iload X43.here hx rfl (hb hby at_69) rfl) ?_
      refine Go.by (fun _ => XS.iload X43.here hx rfl (hb hby at_71) rfl) ?_
      obtain ⟨v44, T44, h44, X44, q44, st44⟩ := X43.callS hx hZ (y := (⟨"com/example/bitstrata/bitstrata/bitmap/WorkspaceVectorsPinLaw", "shaped", "([[JII)Z"⟩ : MethodName)) hown (tw hw 18 rfl) (tw hw 19 rfl) (tw hw 20 rfl) (tw hw 21 rfl) (by decide) (rm4_10 l Z a0 hw [] r40 we kc40 kd40 (fun i => .ref (r40 + 1 + i)) (wb.toNatClampNeg)  h40 n0 Zs41 V40) (g := (mkF m 73 #[.val (.int p0), .val (.int p1), .val (.int p2), .val (.int p3), .val (.int (1 : Int32)), .val (.int wb), .val (.int (0 : Int32)), .val (.int we), .val (.ref b36), .val (.ref r40), .val (.ref r40), .unset] [(.int we), (.int (0 : Int32)), (.ref r40)])) rfl (by rw [hml]; rfl) (argsL := [(.ref r40), (.int (0 : Int32)), (.int we)]) (rest := []) (lenOf pd3 rfl) rfl (hb hby at_73) rfl (by decide) (Nat.le_of_ble_eq_true rfl) (k' := 4) (n' := 9) rfl rfl (by decide) (by decide)
      refine Go.by st44 ?_
      obtain ⟨rfl, rfl⟩ := q44
      show Go p.tables e below _ (T44.setTop (mkF m 76 #[.val (.int p0), .val (.int p1), .val (.int p2), .val (.int p3), .val (.int (1 : Int32)), .val (.int wb), .val (.int (0 : Int32)), .val (.int we), .val (.ref b36), .val (.ref r40), .val (.ref r40), .unset] [(.int (1 : Int32))]))
      refine Go.by (fun _ => XS.ifYes X44.here hx rfl (pc0 := 76) (pc' := 81) rfl (hb hby at_76) rfl ((if0 _ _).trans (feq (by decide)).2) (by decide) (by decide)) ?_
      show Go p.tables e below _ (T44.setTop (mkF m 81 #[.val (.int p0), .val (.int p1), .val (.int p2), .val (.int p3), .val (.int (1 : Int32)), .val (.int wb), .val (.int (0 : Int32)), .val (.int we), .val (.ref b36), .val (.ref r40), .val (.ref r40), .unset] []))
      refine Go.by (fun _ => XS.iload X44.here hx rfl (hb hby at_81) rfl) ?_
      refine Go.by (fun _ => XS.iload X44.here hx rfl (hb hby at_83) rfl) ?_
      refine Go.by (fun _ => XS.icmpNo X44.here hx rfl (hb hby at_85) rfl (flt (by decide)).2.2.1) ?_
      show Go p.tables e below _ (T44.setTop (mkF m 88 #[.val (.int p0), .val (.int p1), .val (.int p2), .val (.int p3), .val (.int (1 : Int32)), .val (.int wb), .val (.int (0 : Int32)), .val (.int we), .val (.ref b36), .val (.ref r40), .val (.ref r40), .unset] []))
      refine Go.by (fun _ => XS.iload X44.here hx rfl (hb hby at_88) rfl) ?_
      refine Go.by (fun _ => XS.ifYes X44.here hx rfl (pc0 := 90) (pc' := 100) rfl (hb hby at_90) rfl ((if0 _ _).trans (teq (by decide)).1) (by decide) (by decide)) ?_
      show Go p.tables e below _ (T44.setTop (mkF m 100 #[.val (.int p0), .val (.int p1), .val (.int p2), .val (.int p3), .val (.int (1 : Int32)), .val (.int wb), .val (.int (0 : Int32)), .val (.int we), .val (.ref b36), .val (.ref r40), .val (.ref r40), .unset] []))
      refine Go.by (fun _ => XS.iconst X44.here hx rfl (hb hby at_100)) ?_
      show Go p.tables e below _ (T44.setTop (mkF m 101 #[.val (.int p0), .val (.int p1), .val (.int p2), .val (.int p3), .val (.int (1 : Int32)), .val (.int wb), .val (.int (0 : Int32)), .val (.int we), .val (.ref b36), .val (.ref r40), .val (.ref r40), .unset] [(.int (1 : Int32))]))
      refine Go.by (fun _ => XS.goto X44.here hx rfl (pc0 := 101) (pc' := 105) rfl (hb hby at_101) (by decide) (by decide)) ?_
      show Go p.tables e below _ (T44.setTop (mkF m 105 #[.val (.int p0), .val (.int p1), .val (.int p2), .val (.int p3), .val (.int (1 : Int32)), .val (.int wb), .val (.int (0 : Int32)), .val (.int we), .val (.ref b36), .val (.ref r40), .val (.ref r40), .unset] [(.int (1 : Int32))]))
      refine Go.by (fun _ => XS.istore X44.here hx rfl (hb hby at_105) rfl (l' := #[.val (.int p0), .val (.int p1), .val (.int p2), .val (.int p3), .val (.int (1 : Int32)), .val (.int wb), .val (.int (0 : Int32)), .val (.int we), .val (.ref b36), .val (.ref r40), .val (.ref r40), .val (.int (1 : Int32))]) rfl) ?_
      show Go p.tables e below _ (T44.setTop (mkF m 107 #[.val (.int p0), .val (.int p1), .val (.int p2), .val (.int p3), .val (.int (1 : Int32)), .val (.int wb), .val (.int (0 : Int32)), .val (.int we), .val (.ref b36), .val (.ref r40), .val (.ref r40), .val (.int (1 : Int32))] []))
      refine Go.by (fun _ => XS.iload X44.here hx rfl (hb hby at_107) rfl) ?_
      refine Go.by (fun _ => XS.ifNo X44.here hx rfl (hb hby at_109) rfl ((if0 _ _).trans (feq (by decide)).1)) ?_
      show Go p.tables e below _ (T44.setTop (mkF m 112 #[.val (.int p0), .val (.int p1), .val (.int p2), .val (.int p3), .val (.int (1 : Int32)), .val (.int wb), .val (.int (0 : Int32)), .val (.int we), .val (.ref b36), .val (.ref r40), .val (.ref r40), .val (.int (1 : Int32))] []))
      refine Go.by (fun _ => XS.aload X44.here hx rfl (hb hby at_112) rfl rfl) ?_
      refine Go.by (fun _ => XS.aload X44.here hx rfl (hb hby at_114) rfl rfl) ?_
      refine Go.by (X44.acmp (g := (mkF m 116 #[.val (.int p0), .val (.int p1), .val (.int p2), .val (.int p3), .val (.int (1 : Int32)), .val (.int wb), .val (.int (0 : Int32)), .val (.int we), .val (.ref b36), .val (.ref r40), .val (.ref r40), .val (.int (1 : Int32))] [(.ref r40), (.ref r40)])) hx rfl rfl rfl (pc0 := 116) (pc' := 121) (same := true) rfl (hb hby at_116) rfl (decide_eq_true rfl) (by decide) (by decide)) ?_
      show Go p.tables e below _ (T44.setTop (mkF m 121 #[.val (.int p0), .val (.int p1), .val (.int p2), .val (.int p3), .val (.int (1 : Int32)), .val (.int wb), .val (.int (0 : Int32)), .val (.int we), .val (.ref b36), .val (.ref r40), .val (.ref r40), .val (.int (1 : Int32))] []))
      refine Go.by (fun _ => XS.iconst X44.here hx rfl (hb hby at_121)) ?_
      exact Go.retN X44 hx hlk (z' := (1 : Int32)) hret (by simp) (hb hby at_122) rfl (by decide) (by decide) rfl
    · rw [ec]
      show Go p.tables e below _ (T0.setTop (mkF m 22 #[.val (.int p0), .val (.int p1), .val (.int p2), .val (.int p3), .val (.int (1 : Int32)), .val (.int wb), .val (.int (1 : Int32)), .val (.int we), .unset, .unset, .unset, .unset] []))
      obtain ⟨T45, h45, b45, X45, g45, E45, A45, D45, st45⟩ := X0.newO hx hZ hown (tw hw 0 rfl) (tw hw 1 rfl) (tw hw 2 rfl) (g := (mkF m 22 #[.val (.int p0), .val (.int p1), .val (.int p2), .val (.int p3), .val (.int (1 : Int32)), .val (.int wb), .val (.int (1 : Int32)), .val (.int we), .unset, .unset, .unset, .unset] [])) rfl (hb hby at_22) (k' := 1) (n' := 1) rfl rfl (by decide) (by decide)
      have g_b45 : n0 ≤ b45 := by rw [g45]; exact Z0
      have Zs46 : n0 ≤ h45.size := Nat.le_trans Z0 E45.1
      have F45_vectors : Fld Z h45 b45 "com/example/bitstrata/bitstrata/bitmap/Formula$Workspace" "vectors" "[[J" .null := D45 (Or.inl (tw hw 12 rfl)) (ty := (.array (.array .long))) (by decide)
      refine Go.by st45 ?_
      show Go p.tables e below _ (T45.setTop (mkF m 25 #[.val (.int p0), .val (.int p1), .val (.int p2), .val (.int p3), .val (.int (1 : Int32)), .val (.int wb), .val (.int (1 : Int32)), .val (.int we), .unset, .unset, .unset, .unset] [(.ref b45)]))
      refine Go.by (fun _ => XS.dup X45.here hx rfl (hb hby at_25) rfl rfl) ?_
      obtain ⟨v47, T47, h47, X47, q47, st47⟩ := X45.callI hx hZ (y := (⟨"com/example/bitstrata/bitstrata/bitmap/Formula$Workspace", "<init>", "()V"⟩ : MethodName)) rfl hown (tw hw 3 rfl) (tw hw 4 rfl) (tw hw 2 rfl) (tw hw 5 rfl) (by decide) (rm1 l Z a0 hw [] b45 h45 n0 Zs46 A45 g_b45 F45_vectors) (g := (mkF m 26 #[.val (.int p0), .val (.int p1), .val (.int p2), .val (.int p3), .val (.int (1 : Int32)), .val (.int wb), .val (.int (1 : Int32)), .val (.int we), .unset, .unset, .unset, .unset] [(.ref b45), (.ref b45)])) rfl (by rw [hml]; rfl) (argsL := []) (rest := [(.ref b45)]) (lenOf pd1 rfl) rfl (hb hby at_26) rfl (by decide) (Nat.le_of_ble_eq_true rfl) (k' := 2) (n' := 1) rfl rfl (by decide) (by decide)
      refine Go.by st47 ?_
      obtain ⟨o47, kO47, rfl, so47, K47, Ex47, Fv47, V47⟩ := q47
      have g_o47 : n0 ≤ o47 := Nat.le_trans Zs46 so47
      have ne_b45_o47 : b45 ≠ o47 := Nat.ne_of_lt (Nat.lt_of_lt_of_le A45.lt so47)
      have f48_475 := A45.keep K47
      have Zs48 : n0 ≤ h47.size := Nat.le_trans Zs46 K47.1
      show Go p.tables e below _ (T47.setTop (mkF m 29 #[.val (.int p0), .val (.int p1), .val (.int p2), .val (.int p3), .val (.int (1 : Int32)), .val (.int wb), .val (.int (1 : Int32)), .val (.int we), .unset, .unset, .unset, .unset] [(.ref b45)]))
      refine Go.by (fun _ => XS.astore X47.here hx rfl (hb hby at_29) rfl rfl (l' := #[.val (.int p0), .val (.int p1), .val (.int p2), .val (.int p3), .val (.int (1 : Int32)), .val (.int wb), .val (.int (1 : Int32)), .val (.int we), .val (.ref b45), .unset, .unset, .unset]) rfl) ?_
      show Go p.tables e below _ (T47.setTop (mkF m 31 #[.val (.int p0), .val (.int p1), .val (.int p2), .val (.int p3), .val (.int (1 : Int32)), .val (.int wb), .val (.int (1 : Int32)), .val (.int we), .val (.ref b45), .unset, .unset, .unset] []))
      refine Go.by (fun _ => XS.aload X47.here hx rfl (hb hby at_31) rfl rfl) ?_
      refine Go.by (fun _ => XS.iload X47.here hx rfl (hb hby at_33) rfl) ?_
      refine Go.by (fun _ => XS.iload X47.here hx rfl (hb hby at_35) rfl) ?_
      obtain ⟨v49, T49, h49, X49, q49, st49⟩ := X47.callV hx hZ (y := (⟨"com/example/bitstrata/bitstrata/bitmap/Formula$Workspace", "vectors", "(II)[[J"⟩ : MethodName)) (z := (⟨"com/example/bitstrata/bitstrata/bitmap/Formula$Workspace", "vectors", "(II)[[J"⟩ : MethodName)) hown (tw hw 13 rfl) (tw hw 14 rfl) (notFace_of_selects (args := #[]) (mvT hZ (tw hw 16 rfl))) (tw hw 16 rfl) (tw hw 15 rfl) (tw hw 2 rfl) (tw hw 17 rfl) (by decide) (rm3_01 l Z a0 hw [] b45 wb o47 kO47 (fun _ => .null) h47 n0 Zs48 Ex47 g_b45 Fv47 V47 hw_wb.1 hw_wb.2) Ex47 (g := (mkF m 37 #[.val (.int p0), .val (.int p1), .val (.int p2), .val (.int p3), .val (.int (1 : Int32)), .val (.int wb), .val (.int (1 : Int32)), .val (.int we), .val (.ref b45), .unset, .unset, .unset] [(.int wb), (.int (1 : Int32)), (.ref b45)])) rfl (by rw [hml]; rfl) (argsL := [(.int (1 : Int32)), (.int wb)]) (rest := []) (lenOf pd2 rfl) rfl (hb hby at_37) rfl (by decide) (Nat.le_of_ble_eq_true rfl) (k' := 4) (n' := 9) rfl rfl (by decide) (by decide)
      refine Go.by st49 ?_
      obtain ⟨r49, kc49, kd49, rfl, sr49, K49, Ex49, Fv49, V49, VV49⟩ := q49
      have g_r49 : n0 ≤ r49 := Nat.le_trans Zs48 sr49
      have ne_b45_r49 : b45 ≠ r49 := Nat.ne_of_lt (Nat.lt_of_lt_of_le Ex47.lt sr49)
      obtain ⟨x49_0, ex49_0⟩ : ∃ z, z = r49 + 1 + 0 := ⟨_, rfl⟩
      have Vx49_0 := VV49 0 (by decide)
      rw [← ex49_0] at Vx49_0
      have sx49_0 : h47.size ≤ x49_0 := by rw [ex49_0]; exact Nat.le_trans sr49 (Nat.le_trans (Nat.le_add_right _ 1) (Nat.le_add_right _ 0))
      have g_x49_0 : n0 ≤ x49_0 := Nat.le_trans Zs48 sx49_0
      have ne_b45_x49_0 : b45 ≠ x49_0 := Nat.ne_of_lt (Nat.lt_of_lt_of_le Ex47.lt sx49_0)
      have f50_494 := Ex47.keep K49
      have Zs50 : n0 ≤ h49.size := Nat.le_trans Zs48 K49.1
      show Go p.tables e below _ (T49.setTop (mkF m 40 #[.val (.int p0), .val (.int p1), .val (.int p2), .val (.int p3), .val (.int (1 : Int32)), .val (.int wb), .val (.int (1 : Int32)), .val (.int we), .val (.ref b45), .unset, .unset, .unset] [(.ref r49)]))
      refine Go.by (fun _ => XS.astore X49.here hx rfl (hb hby at_40) rfl rfl (l' := #[.val (.int p0), .val (.int p1), .val (.int p2), .val (.int p3), .val (.int (1 : Int32)), .val (.int wb), .val (.int (1 : Int32)), .val (.int we), .val (.ref b45), .val (.ref r49), .unset, .unset]) rfl) ?_
      show Go p.tables e below _ (T49.setTop (mkF m 42 #[.val (.int p0), .val (.int p1), .val (.int p2), .val (.int p3), .val (.int (1 : Int32)), .val (.int wb), .val (.int (1 : Int32)), .val (.int we), .val (.ref b45), .val (.ref r49), .unset, .unset] []))
      refine Go.by (fun _ => XS.aload X49.here hx rfl (hb hby at_42) rfl rfl) ?_
      refine Go.by (fun _ => XS.iload X49.here hx rfl (hb hby at_44) rfl) ?_
      refine Go.by (fun _ => XS.iload X49.here hx rfl (hb hby at_46) rfl) ?_
      obtain ⟨v51, T51, h51, X51, q51, st51⟩ := X49.callS hx hZ (y := (⟨"com/example/bitstrata/bitstrata/bitmap/WorkspaceVectorsPinLaw", "shaped", "([[JII)Z"⟩ : MethodName)) hown (tw hw 18 rfl) (tw hw 19 rfl) (tw hw 20 rfl) (tw hw 21 rfl) (by decide) (rm4_11 l Z a0 hw [] r49 wb kc49 kd49 (fun i => .ref (r49 + 1 + i)) (wb.toNatClampNeg) x49_0 h49 n0 Zs50 V49 (back32 hw_wb.1).1 (congrArg Value.ref ex49_0.symm) Vx49_0) (g := (mkF m 48 #[.val (.int p0), .val (.int p1), .val (.int p2), .val (.int p3), .val (.int (1 : Int32)), .val (.int wb), .val (.int (1 : Int32)), .val (.int we), .val (.ref b45), .val (.ref r49), .unset, .unset] [(.int wb), (.int (1 : Int32)), (.ref r49)])) rfl (by rw [hml]; rfl) (argsL := [(.ref r49), (.int (1 : Int32)), (.int wb)]) (rest := []) (lenOf pd3 rfl) rfl (hb hby at_48) rfl (by decide) (Nat.le_of_ble_eq_true rfl) (k' := 4) (n' := 9) rfl rfl (by decide) (by decide)
      refine Go.by st51 ?_
      obtain ⟨rfl, rfl⟩ := q51
      show Go p.tables e below _ (T51.setTop (mkF m 51 #[.val (.int p0), .val (.int p1), .val (.int p2), .val (.int p3), .val (.int (1 : Int32)), .val (.int wb), .val (.int (1 : Int32)), .val (.int we), .val (.ref b45), .val (.ref r49), .unset, .unset] [(.int (1 : Int32))]))
      refine Go.by (fun _ => XS.ifYes X51.here hx rfl (pc0 := 51) (pc' := 56) rfl (hb hby at_51) rfl ((if0 _ _).trans (feq (by decide)).2) (by decide) (by decide)) ?_
      show Go p.tables e below _ (T51.setTop (mkF m 56 #[.val (.int p0), .val (.int p1), .val (.int p2), .val (.int p3), .val (.int (1 : Int32)), .val (.int wb), .val (.int (1 : Int32)), .val (.int we), .val (.ref b45), .val (.ref r49), .unset, .unset] []))
      refine Go.by (fun _ => XS.aload X51.here hx rfl (hb hby at_56) rfl rfl) ?_
      refine Go.by (fun _ => XS.iload X51.here hx rfl (hb hby at_58) rfl) ?_
      refine Go.by (fun _ => XS.iload X51.here hx rfl (hb hby at_60) rfl) ?_
      show Go p.tables e below _ (T51.setTop (mkF m 62 #[.val (.int p0), .val (.int p1), .val (.int p2), .val (.int p3), .val (.int (1 : Int32)), .val (.int wb), .val (.int (1 : Int32)), .val (.int we), .val (.ref b45), .val (.ref r49), .unset, .unset] [(.int we), (.int (1 : Int32)), (.ref b45)]))
      obtain ⟨v52, T52, h52, X52, q52, st52⟩ := X51.callV hx hZ (y := (⟨"com/example/bitstrata/bitstrata/bitmap/Formula$Workspace", "vectors", "(II)[[J"⟩ : MethodName)) (z := (⟨"com/example/bitstrata/bitstrata/bitmap/Formula$Workspace", "vectors", "(II)[[J"⟩ : MethodName)) hown (tw hw 13 rfl) (tw hw 14 rfl) (notFace_of_selects (args := #[]) (mvT hZ (tw hw 16 rfl))) (tw hw 16 rfl) (tw hw 15 rfl) (tw hw 2 rfl) (tw hw 17 rfl) (by decide) (rm3_11 l Z a0 hw [] b45 we r49 kc49 (fun i => .ref (r49 + 1 + i)) x49_0 kd49 (wb.toNatClampNeg) h49 n0 Zs50 Ex49 g_b45 Fv49 V49 hw_we.1 hw_we.2 (congrArg Value.ref ex49_0.symm) Vx49_0) Ex49 (g := (mkF m 62 #[.val (.int p0), .val (.int p1), .val (.int p2), .val (.int p3), .val (.int (1 : Int32)), .val (.int wb), .val (.int (1 : Int32)), .val (.int we), .val (.ref b45), .val (.ref r49), .unset, .unset] [(.int we), (.int (1 : Int32)), (.ref b45)])) rfl (by rw [hml]; rfl) (argsL := [(.int (1 : Int32)), (.int we)]) (rest := []) (lenOf pd2 rfl) rfl (hb hby at_62) rfl (by decide) (Nat.le_of_ble_eq_true rfl) (k' := 6) (n' := 17) rfl rfl (by decide) (by decide)
      refine Go.by st52 ?_
      rcases q52 with ⟨hcd52, rfl, rfl⟩ | ⟨hcd52, ⟨r52, kc52, kd52, rfl, sr52, K52, Ex52, Fv52, V52, VV52⟩⟩
      · skip
        show Go p.tables e below _ (T52.setTop (mkF m 65 #[.val (.int p0), .val (.int p1), .val (.int p2), .val (.int p3), .val (.int (1 : Int32)), .val (.int wb), .val (.int (1 : Int32)), .val (.int we), .val (.ref b45), .val (.ref r49), .unset, .unset] [(.ref r49)]))
        refine Go.by (fun _ => XS.astore X52.here hx rfl (hb hby at_65) rfl rfl (l' := #[.val (.int p0), .val (.int p1), .val (.int p2), .val (.int p3), .val (.int (1 : Int32)), .val (.int wb), .val (.int (1 : Int32)), .val (.int we), .val (.ref b45), .val (.ref r49), .val (.ref r49), .unset]) rfl) ?_
        show Go p.tables e below _ (T52.setTop (mkF m 67 #[.val (.int p0), .val (.int p1), .val (.int p2), .val (.int p3), .val (.int (1 : Int32)), .val (.int wb), .val (.int (1 : Int32)), .val (.int we), .val (.ref b45), .val (.ref r49), .val (.ref r49), .unset] []))
        refine Go.by (fun _ => XS.aload X52.here hx rfl (hb hby at_67) rfl rfl) ?_
        refine Go.by (fun _ => XS.iload X52.here hx rfl (hb hby at_69) rfl) ?_
        refine Go.by (fun _ => XS.iload X52.here hx rfl (hb hby at_71) rfl) ?_
        obtain ⟨v53, T53, h53, X53, q53, st53⟩ := X52.callS hx hZ (y := (⟨"com/example/bitstrata/bitstrata/bitmap/WorkspaceVectorsPinLaw", "shaped", "([[JII)Z"⟩ : MethodName)) hown (tw hw 18 rfl) (tw hw 19 rfl) (tw hw 20 rfl) (tw hw 21 rfl) (by decide) (rm4_11 l Z a0 hw [] r49 we kc49 kd49 (fun i => .ref (r49 + 1 + i)) (wb.toNatClampNeg) x49_0 h49 n0 Zs50 V49 hcd52 (congrArg Value.ref ex49_0.symm) Vx49_0) (g := (mkF m 73 #[.val (.int p0), .val (.int p1), .val (.int p2), .val (.int p3), .val (.int (1 : Int32)), .val (.int wb), .val (.int (1 : Int32)), .val (.int we), .val (.ref b45), .val (.ref r49), .val (.ref r49), .unset] [(.int we), (.int (1 : Int32)), (.ref r49)])) rfl (by rw [hml]; rfl) (argsL := [(.ref r49), (.int (1 : Int32)), (.int we)]) (rest := []) (lenOf pd3 rfl) rfl (hb hby at_73) rfl (by decide) (Nat.le_of_ble_eq_true rfl) (k' := 6) (n' := 17) rfl rfl (by decide) (by decide)
        refine Go.by st53 ?_
        obtain ⟨rfl, rfl⟩ := q53
        show Go p.tables e below _ (T53.setTop (mkF m 76 #[.val (.int p0), .val (.int p1), .val (.int p2), .val (.int p3), .val (.int (1 : Int32)), .val (.int wb), .val (.int (1 : Int32)), .val (.int we), .val (.ref b45), .val (.ref r49), .val (.ref r49), .unset] [(.int (1 : Int32))]))
        refine Go.by (fun _ => XS.ifYes X53.here hx rfl (pc0 := 76) (pc' := 81) rfl (hb hby at_76) rfl ((if0 _ _).trans (feq (by decide)).2) (by decide) (by decide)) ?_
        show Go p.tables e below _ (T53.setTop (mkF m 81 #[.val (.int p0), .val (.int p1), .val (.int p2), .val (.int p3), .val (.int (1 : Int32)), .val (.int wb), .val (.int (1 : Int32)), .val (.int we), .val (.ref b45), .val (.ref r49), .val (.ref r49), .unset] []))
        refine Go.by (fun _ => XS.iload X53.here hx rfl (hb hby at_81) rfl) ?_
        refine Go.by (fun _ => XS.iload X53.here hx rfl (hb hby at_83) rfl) ?_
        show Go p.tables e below _ (T53.setTop (mkF m 85 #[.val (.int p0), .val (.int p1), .val (.int p2), .val (.int p3), .val (.int (1 : Int32)), .val (.int wb), .val (.int (1 : Int32)), .val (.int we), .val (.ref b45), .val (.ref r49), .val (.ref r49), .unset] [(.int (1 : Int32)), (.int (1 : Int32))]))
        refine Go.by (fun _ => XS.icmpNo X53.here hx rfl (hb hby at_85) rfl (flt (by decide)).2.2.1) ?_
        show Go p.tables e below _ (T53.setTop (mkF m 88 #[.val (.int p0), .val (.int p1), .val (.int p2), .val (.int p3), .val (.int (1 : Int32)), .val (.int wb), .val (.int (1 : Int32)), .val (.int we), .val (.ref b45), .val (.ref r49), .val (.ref r49), .unset] []))
        refine Go.by (fun _ => XS.iload X53.here hx rfl (hb hby at_88) rfl) ?_
        refine Go.by (fun _ => XS.ifNo X53.here hx rfl (hb hby at_90) rfl ((if0 _ _).trans (feq (by decide)).1)) ?_
        show Go p.tables e below _ (T53.setTop (mkF m 93 #[.val (.int p0), .val (.int p1), .val (.int p2), .val (.int p3), .val (.int (1 : Int32)), .val (.int wb), .val (.int (1 : Int32)), .val (.int we), .val (.ref b45), .val (.ref r49), .val (.ref r49), .unset] []))
        refine Go.by (fun _ => XS.iload X53.here hx rfl (hb hby at_93) rfl) ?_
        refine Go.by (fun _ => XS.iload X53.here hx rfl (hb hby at_95) rfl) ?_
        refine Go.by (fun _ => XS.icmpNo X53.here hx rfl (hb hby at_97) rfl (teq (hcd52.symm.trans (back32 hw_wb.1).1)).2) ?_
        show Go p.tables e below _ (T53.setTop (mkF m 100 #[.val (.int p0), .val (.int p1), .val (.int p2), .val (.int p3), .val (.int (1 : Int32)), .val (.int wb), .val (.int (1 : Int32)), .val (.int we), .val (.ref b45), .val (.ref r49), .val (.ref r49), .unset] []))
        refine Go.by (fun _ => XS.iconst X53.here hx rfl (hb hby at_100)) ?_
        refine Go.by (fun _ => XS.goto X53.here hx rfl (pc0 := 101) (pc' := 105) rfl (hb hby at_101) (by decide) (by decide)) ?_
        show Go p.tables e below _ (T53.setTop (mkF m 105 #[.val (.int p0), .val (.int p1), .val (.int p2), .val (.int p3), .val (.int (1 : Int32)), .val (.int wb), .val (.int (1 : Int32)), .val (.int we), .val (.ref b45), .val (.ref r49), .val (.ref r49), .unset] [(.int (1 : Int32))]))
        refine Go.by (fun _ => XS.istore X53.here hx rfl (hb hby at_105) rfl (l' := #[.val (.int p0), .val (.int p1), .val (.int p2), .val (.int p3), .val (.int (1 : Int32)), .val (.int wb), .val (.int (1 : Int32)), .val (.int we), .val (.ref b45), .val (.ref r49), .val (.ref r49), .val (.int (1 : Int32))]) rfl) ?_
        show Go p.tables e below _ (T53.setTop (mkF m 107 #[.val (.int p0), .val (.int p1), .val (.int p2), .val (.int p3), .val (.int (1 : Int32)), .val (.int wb), .val (.int (1 : Int32)), .val (.int we), .val (.ref b45), .val (.ref r49), .val (.ref r49), .val (.int (1 : Int32))] []))
        refine Go.by (fun _ => XS.iload X53.here hx rfl (hb hby at_107) rfl) ?_
        show Go p.tables e below _ (T53.setTop (mkF m 109 #[.val (.int p0), .val (.int p1), .val (.int p2), .val (.int p3), .val (.int (1 : Int32)), .val (.int wb), .val (.int (1 : Int32)), .val (.int we), .val (.ref b45), .val (.ref r49), .val (.ref r49), .val (.int (1 : Int32))] [(.int (1 : Int32))]))
        refine Go.by (fun _ => XS.ifNo X53.here hx rfl (hb hby at_109) rfl ((if0 _ _).trans (feq (by decide)).1)) ?_
        show Go p.tables e below _ (T53.setTop (mkF m 112 #[.val (.int p0), .val (.int p1), .val (.int p2), .val (.int p3), .val (.int (1 : Int32)), .val (.int wb), .val (.int (1 : Int32)), .val (.int we), .val (.ref b45), .val (.ref r49), .val (.ref r49), .val (.int (1 : Int32))] []))
        refine Go.by (fun _ => XS.aload X53.here hx rfl (hb hby at_112) rfl rfl) ?_
        refine Go.by (fun _ => XS.aload X53.here hx rfl (hb hby at_114) rfl rfl) ?_
        refine Go.by (X53.acmp (g := (mkF m 116 #[.val (.int p0), .val (.int p1), .val (.int p2), .val (.int p3), .val (.int (1 : Int32)), .val (.int wb), .val (.int (1 : Int32)), .val (.int we), .val (.ref b45), .val (.ref r49), .val (.ref r49), .val (.int (1 : Int32))] [(.ref r49), (.ref r49)])) hx rfl rfl rfl (pc0 := 116) (pc' := 121) (same := true) rfl (hb hby at_116) rfl (decide_eq_true rfl) (by decide) (by decide)) ?_
        show Go p.tables e below _ (T53.setTop (mkF m 121 #[.val (.int p0), .val (.int p1), .val (.int p2), .val (.int p3), .val (.int (1 : Int32)), .val (.int wb), .val (.int (1 : Int32)), .val (.int we), .val (.ref b45), .val (.ref r49), .val (.ref r49), .val (.int (1 : Int32))] []))
        refine Go.by (fun _ => XS.iconst X53.here hx rfl (hb hby at_121)) ?_
        exact Go.retN X53 hx hlk (z' := (1 : Int32)) hret (by simp) (hb hby at_122) rfl (by decide) (by decide) rfl
      · skip
        have g_r52 : n0 ≤ r52 := Nat.le_trans Zs50 sr52
        have ne_b45_r52 : b45 ≠ r52 := Nat.ne_of_lt (Nat.lt_of_lt_of_le Ex49.lt sr52)
        obtain ⟨x52_0, ex52_0⟩ : ∃ z, z = r52 + 1 + 0 := ⟨_, rfl⟩
        have Vx52_0 := VV52 0 (by decide)
        rw [← ex52_0] at Vx52_0
        have sx52_0 : h49.size ≤ x52_0 := by rw [ex52_0]; exact Nat.le_trans sr52 (Nat.le_trans (Nat.le_add_right _ 1) (Nat.le_add_right _ 0))
        have g_x52_0 : n0 ≤ x52_0 := Nat.le_trans Zs50 sx52_0
        have ne_b45_x52_0 : b45 ≠ x52_0 := Nat.ne_of_lt (Nat.lt_of_lt_of_le Ex49.lt sx52_0)
        have f54_564 := Ex49.keep K52
        have Zs54 : n0 ≤ h52.size := Nat.le_trans Zs50 K52.1
        show Go p.tables e below _ (T52.setTop (mkF m 65 #[.val (.int p0), .val (.int p1), .val (.int p2), .val (.int p3), .val (.int (1 : Int32)), .val (.int wb), .val (.int (1 : Int32)), .val (.int we), .val (.ref b45), .val (.ref r49), .unset, .unset] [(.ref r52)]))
        refine Go.by (fun _ => XS.astore X52.here hx rfl (hb hby at_65) rfl rfl (l' := #[.val (.int p0), .val (.int p1), .val (.int p2), .val (.int p3), .val (.int (1 : Int32)), .val (.int wb), .val (.int (1 : Int32)), .val (.int we), .val (.ref b45), .val (.ref r49), .val (.ref r52), .unset]) rfl) ?_
        show Go p.tables e below _ (T52.setTop (mkF m 67 #[.val (.int p0), .val (.int p1), .val (.int p2), .val (.int p3), .val (.int (1 : Int32)), .val (.int wb), .val (.int (1 : Int32)), .val (.int we), .val (.ref b45), .val (.ref r49), .val (.ref r52), .unset] []))
        refine Go.by (fun _ => XS.aload X52.here hx rfl (hb hby at_67) rfl rfl) ?_
        refine Go.by (fun _ => XS.iload X52.here hx rfl (hb hby at_69) rfl) ?_
        show Go p.tables e below _ (T52.setTop (mkF m 71 #[.val (.int p0), .val (.int p1), .val (.int p2), .val (.int p3), .val (.int (1 : Int32)), .val (.int wb), .val (.int (1 : Int32)), .val (.int we), .val (.ref b45), .val (.ref r49), .val (.ref r52), .unset] [(.int (1 : Int32)), (.ref r52)]))
        refine Go.by (fun _ => XS.iload X52.here hx rfl (hb hby at_71) rfl) ?_
        obtain ⟨v55, T55, h55, X55, q55, st55⟩ := X52.callS hx hZ (y := (⟨"com/example/bitstrata/bitstrata/bitmap/WorkspaceVectorsPinLaw", "shaped", "([[JII)Z"⟩ : MethodName)) hown (tw hw 18 rfl) (tw hw 19 rfl) (tw hw 20 rfl) (tw hw 21 rfl) (by decide) (rm4_11 l Z a0 hw [] r52 we kc52 kd52 (fun i => .ref (r52 + 1 + i)) (we.toNatClampNeg) x52_0 h52 n0 Zs54 V52 (back32 hw_we.1).1 (congrArg Value.ref ex52_0.symm) Vx52_0) (g := (mkF m 73 #[.val (.int p0), .val (.int p1), .val (.int p2), .val (.int p3), .val (.int (1 : Int32)), .val (.int wb), .val (.int (1 : Int32)), .val (.int we), .val (.ref b45), .val (.ref r49), .val (.ref r52), .unset] [(.int we), (.int (1 : Int32)), (.ref r52)])) rfl (by rw [hml]; rfl) (argsL := [(.ref r52), (.int (1 : Int32)), (.int we)]) (rest := []) (lenOf pd3 rfl) rfl (hb hby at_73) rfl (by decide) (Nat.le_of_ble_eq_true rfl) (k' := 6) (n' := 17) rfl rfl (by decide) (by decide)
        refine Go.by st55 ?_
        obtain ⟨rfl, rfl⟩ := q55
        show Go p.tables e below _ (T55.setTop (mkF m 76 #[.val (.int p0), .val (.int p1), .val (.int p2), .val (.int p3), .val (.int (1 : Int32)), .val (.int wb), .val (.int (1 : Int32)), .val (.int we), .val (.ref b45), .val (.ref r49), .val (.ref r52), .unset] [(.int (1 : Int32))]))
        refine Go.by (fun _ => XS.ifYes X55.here hx rfl (pc0 := 76) (pc' := 81) rfl (hb hby at_76) rfl ((if0 _ _).trans (feq (by decide)).2) (by decide) (by decide)) ?_
        show Go p.tables e below _ (T55.setTop (mkF m 81 #[.val (.int p0), .val (.int p1), .val (.int p2), .val (.int p3), .val (.int (1 : Int32)), .val (.int wb), .val (.int (1 : Int32)), .val (.int we), .val (.ref b45), .val (.ref r49), .val (.ref r52), .unset] []))
        refine Go.by (fun _ => XS.iload X55.here hx rfl (hb hby at_81) rfl) ?_
        refine Go.by (fun _ => XS.iload X55.here hx rfl (hb hby at_83) rfl) ?_
        refine Go.by (fun _ => XS.icmpNo X55.here hx rfl (hb hby at_85) rfl (flt (by decide)).2.2.1) ?_
        show Go p.tables e below _ (T55.setTop (mkF m 88 #[.val (.int p0), .val (.int p1), .val (.int p2), .val (.int p3), .val (.int (1 : Int32)), .val (.int wb), .val (.int (1 : Int32)), .val (.int we), .val (.ref b45), .val (.ref r49), .val (.ref r52), .unset] []))
        refine Go.by (fun _ => XS.iload X55.here hx rfl (hb hby at_88) rfl) ?_
        refine Go.by (fun _ => XS.ifNo X55.here hx rfl (hb hby at_90) rfl ((if0 _ _).trans (feq (by decide)).1)) ?_
        show Go p.tables e below _ (T55.setTop (mkF m 93 #[.val (.int p0), .val (.int p1), .val (.int p2), .val (.int p3), .val (.int (1 : Int32)), .val (.int wb), .val (.int (1 : Int32)), .val (.int we), .val (.ref b45), .val (.ref r49), .val (.ref r52), .unset] []))
        refine Go.by (fun _ => XS.iload X55.here hx rfl (hb hby at_93) rfl) ?_
        refine Go.by (fun _ => XS.iload X55.here hx rfl (hb hby at_95) rfl) ?_
        show Go p.tables e below _ (T55.setTop (mkF m 97 #[.val (.int p0), .val (.int p1), .val (.int p2), .val (.int p3), .val (.int (1 : Int32)), .val (.int wb), .val (.int (1 : Int32)), .val (.int we), .val (.ref b45), .val (.ref r49), .val (.ref r52), .unset] [(.int wb), (.int we)]))
        refine Go.by (fun _ => XS.icmpYes X55.here hx rfl (pc0 := 97) (pc' := 104) rfl (hb hby at_97) rfl (feq (fun q => hcd52 ((back32 hw_wb.1).1.trans q.symm))).2 (by decide) (by decide)) ?_
        show Go p.tables e below _ (T55.setTop (mkF m 104 #[.val (.int p0), .val (.int p1), .val (.int p2), .val (.int p3), .val (.int (1 : Int32)), .val (.int wb), .val (.int (1 : Int32)), .val (.int we), .val (.ref b45), .val (.ref r49), .val (.ref r52), .unset] []))
        refine Go.by (fun _ => XS.iconst X55.here hx rfl (hb hby at_104)) ?_
        refine Go.by (fun _ => XS.istore X55.here hx rfl (hb hby at_105) rfl (l' := #[.val (.int p0), .val (.int p1), .val (.int p2), .val (.int p3), .val (.int (1 : Int32)), .val (.int wb), .val (.int (1 : Int32)), .val (.int we), .val (.ref b45), .val (.ref r49), .val (.ref r52), .val (.int (0 : Int32))]) rfl) ?_
        show Go p.tables e below _ (T55.setTop (mkF m 107 #[.val (.int p0), .val (.int p1), .val (.int p2), .val (.int p3), .val (.int (1 : Int32)), .val (.int wb), .val (.int (1 : Int32)), .val (.int we), .val (.ref b45), .val (.ref r49), .val (.ref r52), .val (.int (0 : Int32))] []))
        refine Go.by (fun _ => XS.iload X55.here hx rfl (hb hby at_107) rfl) ?_
        refine Go.by (fun _ => XS.ifYes X55.here hx rfl (pc0 := 109) (pc' := 121) rfl (hb hby at_109) rfl ((if0 _ _).trans (teq (by decide)).1) (by decide) (by decide)) ?_
        show Go p.tables e below _ (T55.setTop (mkF m 121 #[.val (.int p0), .val (.int p1), .val (.int p2), .val (.int p3), .val (.int (1 : Int32)), .val (.int wb), .val (.int (1 : Int32)), .val (.int we), .val (.ref b45), .val (.ref r49), .val (.ref r52), .val (.int (0 : Int32))] []))
        refine Go.by (fun _ => XS.iconst X55.here hx rfl (hb hby at_121)) ?_
        exact Go.retN X55 hx hlk (z' := (1 : Int32)) hret (by simp) (hb hby at_122) rfl (by decide) (by decide) rfl
    · rw [ec]
      show Go p.tables e below _ (T0.setTop (mkF m 22 #[.val (.int p0), .val (.int p1), .val (.int p2), .val (.int p3), .val (.int (1 : Int32)), .val (.int wb), .val (.int (2 : Int32)), .val (.int we), .unset, .unset, .unset, .unset] []))
      obtain ⟨T56, h56, b56, X56, g56, E56, A56, D56, st56⟩ := X0.newO hx hZ hown (tw hw 0 rfl) (tw hw 1 rfl) (tw hw 2 rfl) (g := (mkF m 22 #[.val (.int p0), .val (.int p1), .val (.int p2), .val (.int p3), .val (.int (1 : Int32)), .val (.int wb), .val (.int (2 : Int32)), .val (.int we), .unset, .unset, .unset, .unset] [])) rfl (hb hby at_22) (k' := 1) (n' := 1) rfl rfl (by decide) (by decide)
      have g_b56 : n0 ≤ b56 := by rw [g56]; exact Z0
      have Zs57 : n0 ≤ h56.size := Nat.le_trans Z0 E56.1
      have F56_vectors : Fld Z h56 b56 "com/example/bitstrata/bitstrata/bitmap/Formula$Workspace" "vectors" "[[J" .null := D56 (Or.inl (tw hw 12 rfl)) (ty := (.array (.array .long))) (by decide)
      refine Go.by st56 ?_
      show Go p.tables e below _ (T56.setTop (mkF m 25 #[.val (.int p0), .val (.int p1), .val (.int p2), .val (.int p3), .val (.int (1 : Int32)), .val (.int wb), .val (.int (2 : Int32)), .val (.int we), .unset, .unset, .unset, .unset] [(.ref b56)]))
      refine Go.by (fun _ => XS.dup X56.here hx rfl (hb hby at_25) rfl rfl) ?_
      show Go p.tables e below _ (T56.setTop (mkF m 26 #[.val (.int p0), .val (.int p1), .val (.int p2), .val (.int p3), .val (.int (1 : Int32)), .val (.int wb), .val (.int (2 : Int32)), .val (.int we), .unset, .unset, .unset, .unset] [(.ref b56), (.ref b56)]))
      obtain ⟨v58, T58, h58, X58, q58, st58⟩ := X56.callI hx hZ (y := (⟨"com/example/bitstrata/bitstrata/bitmap/Formula$Workspace", "<init>", "()V"⟩ : MethodName)) rfl hown (tw hw 3 rfl) (tw hw 4 rfl) (tw hw 2 rfl) (tw hw 5 rfl) (by decide) (rm1 l Z a0 hw [] b56 h56 n0 Zs57 A56 g_b56 F56_vectors) (g := (mkF m 26 #[.val (.int p0), .val (.int p1), .val (.int p2), .val (.int p3), .val (.int (1 : Int32)), .val (.int wb), .val (.int (2 : Int32)), .val (.int we), .unset, .unset, .unset, .unset] [(.ref b56), (.ref b56)])) rfl (by rw [hml]; rfl) (argsL := []) (rest := [(.ref b56)]) (lenOf pd1 rfl) rfl (hb hby at_26) rfl (by decide) (Nat.le_of_ble_eq_true rfl) (k' := 2) (n' := 1) rfl rfl (by decide) (by decide)
      refine Go.by st58 ?_
      obtain ⟨o58, kO58, rfl, so58, K58, Ex58, Fv58, V58⟩ := q58
      have g_o58 : n0 ≤ o58 := Nat.le_trans Zs57 so58
      have ne_b56_o58 : b56 ≠ o58 := Nat.ne_of_lt (Nat.lt_of_lt_of_le A56.lt so58)
      have f59_614 := A56.keep K58
      have Zs59 : n0 ≤ h58.size := Nat.le_trans Zs57 K58.1
      show Go p.tables e below _ (T58.setTop (mkF m 29 #[.val (.int p0), .val (.int p1), .val (.int p2), .val (.int p3), .val (.int (1 : Int32)), .val (.int wb), .val (.int (2 : Int32)), .val (.int we), .unset, .unset, .unset, .unset] [(.ref b56)]))
      refine Go.by (fun _ => XS.astore X58.here hx rfl (hb hby at_29) rfl rfl (l' := #[.val (.int p0), .val (.int p1), .val (.int p2), .val (.int p3), .val (.int (1 : Int32)), .val (.int wb), .val (.int (2 : Int32)), .val (.int we), .val (.ref b56), .unset, .unset, .unset]) rfl) ?_
      show Go p.tables e below _ (T58.setTop (mkF m 31 #[.val (.int p0), .val (.int p1), .val (.int p2), .val (.int p3), .val (.int (1 : Int32)), .val (.int wb), .val (.int (2 : Int32)), .val (.int we), .val (.ref b56), .unset, .unset, .unset] []))
      refine Go.by (fun _ => XS.aload X58.here hx rfl (hb hby at_31) rfl rfl) ?_
      refine Go.by (fun _ => XS.iload X58.here hx rfl (hb hby at_33) rfl) ?_
      refine Go.by (fun _ => XS.iload X58.here hx rfl (hb hby at_35) rfl) ?_
      obtain ⟨v60, T60, h60, X60, q60, st60⟩ := X58.callV hx hZ (y := (⟨"com/example/bitstrata/bitstrata/bitmap/Formula$Workspace", "vectors", "(II)[[J"⟩ : MethodName)) (z := (⟨"com/example/bitstrata/bitstrata/bitmap/Formula$Workspace", "vectors", "(II)[[J"⟩ : MethodName)) hown (tw hw 13 rfl) (tw hw 14 rfl) (notFace_of_selects (args := #[]) (mvT hZ (tw hw 16 rfl))) (tw hw 16 rfl) (tw hw 15 rfl) (tw hw 2 rfl) (tw hw 17 rfl) (by decide) (rm3_01 l Z a0 hw [] b56 wb o58 kO58 (fun _ => .null) h58 n0 Zs59 Ex58 g_b56 Fv58 V58 hw_wb.1 hw_wb.2) Ex58 (g := (mkF m 37 #[.val (.int p0), .val (.int p1), .val (.int p2), .val (.int p3), .val (.int (1 : Int32)), .val (.int wb), .val (.int (2 : Int32)), .val (.int we), .val (.ref b56), .unset, .unset, .unset] [(.int wb), (.int (1 : Int32)), (.ref b56)])) rfl (by rw [hml]; rfl) (argsL := [(.int (1 : Int32)), (.int wb)]) (rest := []) (lenOf pd2 rfl) rfl (hb hby at_37) rfl (by decide) (Nat.le_of_ble_eq_true rfl) (k' := 4) (n' := 9) rfl rfl (by decide) (by decide)
      refine Go.by st60 ?_
      obtain ⟨r60, kc60, kd60, rfl, sr60, K60, Ex60, Fv60, V60, VV60⟩ := q60
      have g_r60 : n0 ≤ r60 := Nat.le_trans Zs59 sr60
      have ne_b56_r60 : b56 ≠ r60 := Nat.ne_of_lt (Nat.lt_of_lt_of_le Ex58.lt sr60)
      obtain ⟨x60_0, ex60_0⟩ : ∃ z, z = r60 + 1 + 0 := ⟨_, rfl⟩
      have Vx60_0 := VV60 0 (by decide)
      rw [← ex60_0] at Vx60_0
      have sx60_0 : h58.size ≤ x60_0 := by rw [ex60_0]; exact Nat.le_trans sr60 (Nat.le_trans (Nat.le_add_right _ 1) (Nat.le_add_right _ 0))
      have g_x60_0 : n0 ≤ x60_0 := Nat.le_trans Zs59 sx60_0
      have ne_b56_x60_0 : b56 ≠ x60_0 := Nat.ne_of_lt (Nat.lt_of_lt_of_le Ex58.lt sx60_0)
      have f61_633 := Ex58.keep K60
      have Zs61 : n0 ≤ h60.size := Nat.le_trans Zs59 K60.1
      show Go p.tables e below _ (T60.setTop (mkF m 40 #[.val (.int p0), .val (.int p1), .val (.int p2), .val (.int p3), .val (.int (1 : Int32)), .val (.int wb), .val (.int (2 : Int32)), .val (.int we), .val (.ref b56), .unset, .unset, .unset] [(.ref r60)]))
      refine Go.by (fun _ => XS.astore X60.here hx rfl (hb hby at_40) rfl rfl (l' := #[.val (.int p0), .val (.int p1), .val (.int p2), .val (.int p3), .val (.int (1 : Int32)), .val (.int wb), .val (.int (2 : Int32)), .val (.int we), .val (.ref b56), .val (.ref r60), .unset, .unset]) rfl) ?_
      show Go p.tables e below _ (T60.setTop (mkF m 42 #[.val (.int p0), .val (.int p1), .val (.int p2), .val (.int p3), .val (.int (1 : Int32)), .val (.int wb), .val (.int (2 : Int32)), .val (.int we), .val (.ref b56), .val (.ref r60), .unset, .unset] []))
      refine Go.by (fun _ => XS.aload X60.here hx rfl (hb hby at_42) rfl rfl) ?_
      show Go p.tables e below _ (T60.setTop (mkF m 44 #[.val (.int p0), .val (.int p1), .val (.int p2), .val (.int p3), .val (.int (1 : Int32)), .val (.int wb), .val (.int (2 : Int32)), .val (.int we), .val (.ref b56), .val (.ref r60), .unset, .unset] [(.ref r60)]))
      refine Go.by (fun _ => XS.iload X60.here hx rfl (hb hby at_44) rfl) ?_
      refine Go.by (fun _ => XS.iload X60.here hx rfl (hb hby at_46) rfl) ?_
      obtain ⟨v62, T62, h62, X62, q62, st62⟩ := X60.callS hx hZ (y := (⟨"com/example/bitstrata/bitstrata/bitmap/WorkspaceVectorsPinLaw", "shaped", "([[JII)Z"⟩ : MethodName)) hown (tw hw 18 rfl) (tw hw 19 rfl) (tw hw 20 rfl) (tw hw 21 rfl) (by decide) (rm4_11 l Z a0 hw [] r60 wb kc60 kd60 (fun i => .ref (r60 + 1 + i)) (wb.toNatClampNeg) x60_0 h60 n0 Zs61 V60 (back32 hw_wb.1).1 (congrArg Value.ref ex60_0.symm) Vx60_0) (g := (mkF m 48 #[.val (.int p0), .val (.int p1), .val (.int p2), .val (.int p3), .val (.int (1 : Int32)), .val (.int wb), .val (.int (2 : Int32)), .val (.int we), .val (.ref b56), .val (.ref r60), .unset, .unset] [(.int wb), (.int (1 : Int32)), (.ref r60)])) rfl (by rw [hml]; rfl) (argsL := [(.ref r60), (.int (1 : Int32)), (.int wb)]) (rest := []) (lenOf pd3 rfl) rfl (hb hby at_48) rfl (by decide) (Nat.le_of_ble_eq_true rfl) (k' := 4) (n' := 9) rfl rfl (by decide) (by decide)
      refine Go.by st62 ?_
      obtain ⟨rfl, rfl⟩ := q62
      show Go p.tables e below _ (T62.setTop (mkF m 51 #[.val (.int p0), .val (.int p1), .val (.int p2), .val (.int p3), .val (.int (1 : Int32)), .val (.int wb), .val (.int (2 : Int32)), .val (.int we), .val (.ref b56), .val (.ref r60), .unset, .unset] [(.int (1 : Int32))]))
      refine Go.by (fun _ => XS.ifYes X62.here hx rfl (pc0 := 51) (pc' := 56) rfl (hb hby at_51) rfl ((if0 _ _).trans (feq (by decide)).2) (by decide) (by decide)) ?_
      show Go p.tables e below _ (T62.setTop (mkF m 56 #[.val (.int p0), .val (.int p1), .val (.int p2), .val (.int p3), .val (.int (1 : Int32)), .val (.int wb), .val (.int (2 : Int32)), .val (.int we), .val (.ref b56), .val (.ref r60), .unset, .unset] []))
      refine Go.by (fun _ => XS.aload X62.here hx rfl (hb hby at_56) rfl rfl) ?_
      refine Go.by (fun _ => XS.iload X62.here hx rfl (hb hby at_58) rfl) ?_
      refine Go.by (fun _ => XS.iload X62.here hx rfl (hb hby at_60) rfl) ?_
      obtain ⟨v63, T63, h63, X63, q63, st63⟩ := X62.callV hx hZ (y := (⟨"com/example/bitstrata/bitstrata/bitmap/Formula$Workspace", "vectors", "(II)[[J"⟩ : MethodName)) (z := (⟨"com/example/bitstrata/bitstrata/bitmap/Formula$Workspace", "vectors", "(II)[[J"⟩ : MethodName)) hown (tw hw 13 rfl) (tw hw 14 rfl) (notFace_of_selects (args := #[]) (mvT hZ (tw hw 16 rfl))) (tw hw 16 rfl) (tw hw 15 rfl) (tw hw 2 rfl) (tw hw 17 rfl) (by decide) (rm3_12 l Z a0 hw [] b56 we r60 kc60 (fun i => .ref (r60 + 1 + i)) h60 n0 Zs61 Ex60 g_b56 Fv60 V60 hw_we.1 hw_we.2) Ex60 (g := (mkF m 62 #[.val (.int p0), .val (.int p1), .val (.int p2), .val (.int p3), .val (.int (1 : Int32)), .val (.int wb), .val (.int (2 : Int32)), .val (.int we), .val (.ref b56), .val (.ref r60), .unset, .unset] [(.int we), (.int (2 : Int32)), (.ref b56)])) rfl (by rw [hml]; rfl) (argsL := [(.int (2 : Int32)), (.int we)]) (rest := []) (lenOf pd2 rfl) rfl (hb hby at_62) rfl (by decide) (Nat.le_of_ble_eq_true rfl) (k' := 7) (n' := 25) rfl rfl (by decide) (by decide)
      refine Go.by st63 ?_
      obtain ⟨r63, kc63, kd63, rfl, sr63, K63, Ex63, Fv63, V63, VV63⟩ := q63
      have g_r63 : n0 ≤ r63 := Nat.le_trans Zs61 sr63
      have ne_b56_r63 : b56 ≠ r63 := Nat.ne_of_lt (Nat.lt_of_lt_of_le Ex60.lt sr63)
      obtain ⟨x63_0, ex63_0⟩ : ∃ z, z = r63 + 1 + 0 := ⟨_, rfl⟩
      have Vx63_0 := VV63 0 (by decide)
      rw [← ex63_0] at Vx63_0
      have sx63_0 : h60.size ≤ x63_0 := by rw [ex63_0]; exact Nat.le_trans sr63 (Nat.le_trans (Nat.le_add_right _ 1) (Nat.le_add_right _ 0))
      have g_x63_0 : n0 ≤ x63_0 := Nat.le_trans Zs61 sx63_0
      have ne_b56_x63_0 : b56 ≠ x63_0 := Nat.ne_of_lt (Nat.lt_of_lt_of_le Ex60.lt sx63_0)
      obtain ⟨x63_1, ex63_1⟩ : ∃ z, z = r63 + 1 + 1 := ⟨_, rfl⟩
      have Vx63_1 := VV63 1 (by decide)
      rw [← ex63_1] at Vx63_1
      have sx63_1 : h60.size ≤ x63_1 := by rw [ex63_1]; exact Nat.le_trans sr63 (Nat.le_trans (Nat.le_add_right _ 1) (Nat.le_add_right _ 1))
      have g_x63_1 : n0 ≤ x63_1 := Nat.le_trans Zs61 sx63_1
      have ne_b56_x63_1 : b56 ≠ x63_1 := Nat.ne_of_lt (Nat.lt_of_lt_of_le Ex60.lt sx63_1)
      have f64_668 := Ex60.keep K63
      have Zs64 : n0 ≤ h63.size := Nat.le_trans Zs61 K63.1
      have nx63_01 : x63_0 ≠ x63_1 := by rw [ex63_0, ex63_1]; exact fun q => absurd (Nat.add_left_cancel q) (by decide)
      show Go p.tables e below _ (T63.setTop (mkF m 65 #[.val (.int p0), .val (.int p1), .val (.int p2), .val (.int p3), .val (.int (1 : Int32)), .val (.int wb), .val (.int (2 : Int32)), .val (.int we), .val (.ref b56), .val (.ref r60), .unset, .unset] [(.ref r63)]))
      refine Go.by (fun _ => XS.astore X63.here hx rfl (hb hby at_65) rfl rfl (l' := #[.val (.int p0), .val (.int p1), .val (.int p2), .val (.int p3), .val (.int (1 : Int32)), .val (.int wb), .val (.int (2 : Int32)), .val (.int we), .val (.ref b56), .val (.ref r60), .val (.ref r63), .unset]) rfl) ?_
      show Go p.tables e below _ (T63.setTop (mkF m 67 #[.val (.int p0), .val (.int p1), .val (.int p2), .val (.int p3), .val (.int (1 : Int32)), .val (.int wb), .val (.int (2 : Int32)), .val (.int we), .val (.ref b56), .val (.ref r60), .val (.ref r63), .unset] []))
      refine Go.by (fun _ => XS.aload X63.here hx rfl (hb hby at_67) rfl rfl) ?_
      refine Go.by (fun _ => XS.iload X63.here hx rfl (hb hby at_69) rfl) ?_
      refine Go.by (fun _ => XS.iload X63.here hx rfl (hb hby at_71) rfl) ?_
      obtain ⟨v65, T65, h65, X65, q65, st65⟩ := X63.callS hx hZ (y := (⟨"com/example/bitstrata/bitstrata/bitmap/WorkspaceVectorsPinLaw", "shaped", "([[JII)Z"⟩ : MethodName)) hown (tw hw 18 rfl) (tw hw 19 rfl) (tw hw 20 rfl) (tw hw 21 rfl) (by decide) (rm4_22 l Z a0 hw [] r63 we kc63 kd63 (fun i => .ref (r63 + 1 + i)) (we.toNatClampNeg) x63_0 x63_1 h63 n0 Zs64 V63 (back32 hw_we.1).1 (congrArg Value.ref ex63_0.symm) Vx63_0 (congrArg Value.ref ex63_1.symm) Vx63_1 nx63_01) (g := (mkF m 73 #[.val (.int p0), .val (.int p1), .val (.int p2), .val (.int p3), .val (.int (1 : Int32)), .val (.int wb), .val (.int (2 : Int32)), .val (.int we), .val (.ref b56), .val (.ref r60), .val (.ref r63), .unset] [(.int we), (.int (2 : Int32)), (.ref r63)])) rfl (by rw [hml]; rfl) (argsL := [(.ref r63), (.int (2 : Int32)), (.int we)]) (rest := []) (lenOf pd3 rfl) rfl (hb hby at_73) rfl (by decide) (Nat.le_of_ble_eq_true rfl) (k' := 7) (n' := 25) rfl rfl (by decide) (by decide)
      refine Go.by st65 ?_
      obtain ⟨rfl, rfl⟩ := q65
      show Go p.tables e below _ (T65.setTop (mkF m 76 #[.val (.int p0), .val (.int p1), .val (.int p2), .val (.int p3), .val (.int (1 : Int32)), .val (.int wb), .val (.int (2 : Int32)), .val (.int we), .val (.ref b56), .val (.ref r60), .val (.ref r63), .unset] [(.int (1 : Int32))]))
      refine Go.by (fun _ => XS.ifYes X65.here hx rfl (pc0 := 76) (pc' := 81) rfl (hb hby at_76) rfl ((if0 _ _).trans (feq (by decide)).2) (by decide) (by decide)) ?_
      show Go p.tables e below _ (T65.setTop (mkF m 81 #[.val (.int p0), .val (.int p1), .val (.int p2), .val (.int p3), .val (.int (1 : Int32)), .val (.int wb), .val (.int (2 : Int32)), .val (.int we), .val (.ref b56), .val (.ref r60), .val (.ref r63), .unset] []))
      refine Go.by (fun _ => XS.iload X65.here hx rfl (hb hby at_81) rfl) ?_
      refine Go.by (fun _ => XS.iload X65.here hx rfl (hb hby at_83) rfl) ?_
      refine Go.by (fun _ => XS.icmpYes X65.here hx rfl (pc0 := 85) (pc' := 104) rfl (hb hby at_85) rfl (tlt (by decide)).2.2.1 (by decide) (by decide)) ?_
      show Go p.tables e below _ (T65.setTop (mkF m 104 #[.val (.int p0), .val (.int p1), .val (.int p2), .val (.int p3), .val (.int (1 : Int32)), .val (.int wb), .val (.int (2 : Int32)), .val (.int we), .val (.ref b56), .val (.ref r60), .val (.ref r63), .unset] []))
      refine Go.by (fun _ => XS.iconst X65.here hx rfl (hb hby at_104)) ?_
      show Go p.tables e below _ (T65.setTop (mkF m 105 #[.val (.int p0), .val (.int p1), .val (.int p2), .val (.int p3), .val (.int (1 : Int32)), .val (.int wb), .val (.int (2 : Int32)), .val (.int we), .val (.ref b56), .val (.ref r60), .val (.ref r63), .unset] [(.int (0 : Int32))]))
      refine Go.by (fun _ => XS.istore X65.here hx rfl (hb hby at_105) rfl (l' := #[.val (.int p0), .val (.int p1), .val (.int p2), .val (.int p3), .val (.int (1 : Int32)), .val (.int wb), .val (.int (2 : Int32)), .val (.int we), .val (.ref b56), .val (.ref r60), .val (.ref r63), .val (.int (0 : Int32))]) rfl) ?_
      show Go p.tables e below _ (T65.setTop (mkF m 107 #[.val (.int p0), .val (.int p1), .val (.int p2), .val (.int p3), .val (.int (1 : Int32)), .val (.int wb), .val (.int (2 : Int32)), .val (.int we), .val (.ref b56), .val (.ref r60), .val (.ref r63), .val (.int (0 : Int32))] []))
      refine Go.by (fun _ => XS.iload X65.here hx rfl (hb hby at_107) rfl) ?_
      refine Go.by (fun _ => XS.ifYes X65.here hx rfl (pc0 := 109) (pc' := 121) rfl (hb hby at_109) rfl ((if0 _ _).trans (teq (by decide)).1) (by decide) (by decide)) ?_
      show Go p.tables e below _ (T65.setTop (mkF m 121 #[.val (.int p0), .val (.int p1), .val (.int p2), .val (.int p3), .val (.int (1 : Int32)), .val (.int wb), .val (.int (2 : Int32)), .val (.int we), .val (.ref b56), .val (.ref r60), .val (.ref r63), .val (.int (0 : Int32))] []))
      refine Go.by (fun _ => XS.iconst X65.here hx rfl (hb hby at_121)) ?_
      exact Go.retN X65 hx hlk (z' := (1 : Int32)) hret (by simp) (hb hby at_122) rfl (by decide) (by decide) rfl
    · rw [ec]
      show Go p.tables e below _ (T0.setTop (mkF m 22 #[.val (.int p0), .val (.int p1), .val (.int p2), .val (.int p3), .val (.int (1 : Int32)), .val (.int wb), .val (.int (3 : Int32)), .val (.int we), .unset, .unset, .unset, .unset] []))
      obtain ⟨T66, h66, b66, X66, g66, E66, A66, D66, st66⟩ := X0.newO hx hZ hown (tw hw 0 rfl) (tw hw 1 rfl) (tw hw 2 rfl) (g := (mkF m 22 #[.val (.int p0), .val (.int p1), .val (.int p2), .val (.int p3), .val (.int (1 : Int32)), .val (.int wb), .val (.int (3 : Int32)), .val (.int we), .unset, .unset, .unset, .unset] [])) rfl (hb hby at_22) (k' := 1) (n' := 1) rfl rfl (by decide) (by decide)
      have g_b66 : n0 ≤ b66 := by rw [g66]; exact Z0
      have Zs67 : n0 ≤ h66.size := Nat.le_trans Z0 E66.1
      have F66_vectors : Fld Z h66 b66 "com/example/bitstrata/bitstrata/bitmap/Formula$Workspace" "vectors" "[[J" .null := D66 (Or.inl (tw hw 12 rfl)) (ty := (.array (.array .long))) (by decide)
      refine Go.by st66 ?_
      show Go p.tables e below _ (T66.setTop (mkF m 25 #[.val (.int p0), .val (.int p1), .val (.int p2), .val (.int p3), .val (.int (1 : Int32)), .val (.int wb), .val (.int (3 : Int32)), .val (.int we), .unset, .unset, .unset, .unset] [(.ref b66)]))
      refine Go.by (fun _ => XS.dup X66.here hx rfl (hb hby at_25) rfl rfl) ?_
      obtain ⟨v68, T68, h68, X68, q68, st68⟩ := X66.callI hx hZ (y := (⟨"com/example/bitstrata/bitstrata/bitmap/Formula$Workspace", "<init>", "()V"⟩ : MethodName)) rfl hown (tw hw 3 rfl) (tw hw 4 rfl) (tw hw 2 rfl) (tw hw 5 rfl) (by decide) (rm1 l Z a0 hw [] b66 h66 n0 Zs67 A66 g_b66 F66_vectors) (g := (mkF m 26 #[.val (.int p0), .val (.int p1), .val (.int p2), .val (.int p3), .val (.int (1 : Int32)), .val (.int wb), .val (.int (3 : Int32)), .val (.int we), .unset, .unset, .unset, .unset] [(.ref b66), (.ref b66)])) rfl (by rw [hml]; rfl) (argsL := []) (rest := [(.ref b66)]) (lenOf pd1 rfl) rfl (hb hby at_26) rfl (by decide) (Nat.le_of_ble_eq_true rfl) (k' := 2) (n' := 1) rfl rfl (by decide) (by decide)
      refine Go.by st68 ?_
      obtain ⟨o68, kO68, rfl, so68, K68, Ex68, Fv68, V68⟩ := q68
      have g_o68 : n0 ≤ o68 := Nat.le_trans Zs67 so68
      have ne_b66_o68 : b66 ≠ o68 := Nat.ne_of_lt (Nat.lt_of_lt_of_le A66.lt so68)
      have f69_710 := A66.keep K68
      have Zs69 : n0 ≤ h68.size := Nat.le_trans Zs67 K68.1
      show Go p.tables e below _ (T68.setTop (mkF m 29 #[.val (.int p0), .val (.int p1), .val (.int p2), .val (.int p3), .val (.int (1 : Int32)), .val (.int wb), .val (.int (3 : Int32)), .val (.int we), .unset, .unset, .unset, .unset] [(.ref b66)]))
      refine Go.by (fun _ => XS.astore X68.here hx rfl (hb hby at_29) rfl rfl (l' := #[.val (.int p0), .val (.int p1), .val (.int p2), .val (.int p3), .val (.int (1 : Int32)), .val (.int wb), .val (.int (3 : Int32)), .val (.int we), .val (.ref b66), .unset, .unset, .unset]) rfl) ?_
      show Go p.tables e below _ (T68.setTop (mkF m 31 #[.val (.int p0), .val (.int p1), .val (.int p2), .val (.int p3), .val (.int (1 : Int32)), .val (.int wb), .val (.int (3 : Int32)), .val (.int we), .val (.ref b66), .unset, .unset, .unset] []))
      refine Go.by (fun _ => XS.aload X68.here hx rfl (hb hby at_31) rfl rfl) ?_
      refine Go.by (fun _ => XS.iload X68.here hx rfl (hb hby at_33) rfl) ?_
      refine Go.by (fun _ => XS.iload X68.here hx rfl (hb hby at_35) rfl) ?_
      obtain ⟨v70, T70, h70, X70, q70, st70⟩ := X68.callV hx hZ (y := (⟨"com/example/bitstrata/bitstrata/bitmap/Formula$Workspace", "vectors", "(II)[[J"⟩ : MethodName)) (z := (⟨"com/example/bitstrata/bitstrata/bitmap/Formula$Workspace", "vectors", "(II)[[J"⟩ : MethodName)) hown (tw hw 13 rfl) (tw hw 14 rfl) (notFace_of_selects (args := #[]) (mvT hZ (tw hw 16 rfl))) (tw hw 16 rfl) (tw hw 15 rfl) (tw hw 2 rfl) (tw hw 17 rfl) (by decide) (rm3_01 l Z a0 hw [] b66 wb o68 kO68 (fun _ => .null) h68 n0 Zs69 Ex68 g_b66 Fv68 V68 hw_wb.1 hw_wb.2) Ex68 (g := (mkF m 37 #[.val (.int p0), .val (.int p1), .val (.int p2), .val (.int p3), .val (.int (1 : Int32)), .val (.int wb), .val (.int (3 : Int32)), .val (.int we), .val (.ref b66), .unset, .unset, .unset] [(.int wb), (.int (1 : Int32)), (.ref b66)])) rfl (by rw [hml]; rfl) (argsL := [(.int (1 : Int32)), (.int wb)]) (rest := []) (lenOf pd2 rfl) rfl (hb hby at_37) rfl (by decide) (Nat.le_of_ble_eq_true rfl) (k' := 4) (n' := 9) rfl rfl (by decide) (by decide)
      refine Go.by st70 ?_
      obtain ⟨r70, kc70, kd70, rfl, sr70, K70, Ex70, Fv70, V70, VV70⟩ := q70
      have g_r70 : n0 ≤ r70 := Nat.le_trans Zs69 sr70
      have ne_b66_r70 : b66 ≠ r70 := Nat.ne_of_lt (Nat.lt_of_lt_of_le Ex68.lt sr70)
      obtain ⟨x70_0, ex70_0⟩ : ∃ z, z = r70 + 1 + 0 := ⟨_, rfl⟩
      have Vx70_0 := VV70 0 (by decide)
      rw [← ex70_0] at Vx70_0
      have sx70_0 : h68.size ≤ x70_0 := by rw [ex70_0]; exact Nat.le_trans sr70 (Nat.le_trans (Nat.le_add_right _ 1) (Nat.le_add_right _ 0))
      have g_x70_0 : n0 ≤ x70_0 := Nat.le_trans Zs69 sx70_0
      have ne_b66_x70_0 : b66 ≠ x70_0 := Nat.ne_of_lt (Nat.lt_of_lt_of_le Ex68.lt sx70_0)
      have f71_729 := Ex68.keep K70
      have Zs71 : n0 ≤ h70.size := Nat.le_trans Zs69 K70.1
      show Go p.tables e below _ (T70.setTop (mkF m 40 #[.val (.int p0), .val (.int p1), .val (.int p2), .val (.int p3), .val (.int (1 : Int32)), .val (.int wb), .val (.int (3 : Int32)), .val (.int we), .val (.ref b66), .unset, .unset, .unset] [(.ref r70)]))
      refine Go.by (fun _ => XS.astore X70.here hx rfl (hb hby at_40) rfl rfl (l' := #[.val (.int p0), .val (.int p1), .val (.int p2), .val (.int p3), .val (.int (1 : Int32)), .val (.int wb), .val (.int (3 : Int32)), .val (.int we), .val (.ref b66), .val (.ref r70), .unset, .unset]) rfl) ?_
      show Go p.tables e below _ (T70.setTop (mkF m 42 #[.val (.int p0), .val (.int p1), .val (.int p2), .val (.int p3), .val (.int (1 : Int32)), .val (.int wb), .val (.int (3 : Int32)), .val (.int we), .val (.ref b66), .val (.ref r70), .unset, .unset] []))
      refine Go.by (fun _ => XS.aload X70.here hx rfl (hb hby at_42) rfl rfl) ?_
      refine Go.by (fun _ => XS.iload X70.here hx rfl (hb hby at_44) rfl) ?_
      show Go p.tables e below _ (T70.setTop (mkF m 46 #[.val (.int p0), .val (.int p1), .val (.int p2), .val (.int p3), .val (.int (1 : Int32)), .val (.int wb), .val (.int (3 : Int32)), .val (.int we), .val (.ref b66), .val (.ref r70), .unset, .unset] [(.int (1 : Int32)), (.ref r70)]))
      refine Go.by (fun _ => XS.iload X70.here hx rfl (hb hby at_46) rfl) ?_
      obtain ⟨v72, T72, h72, X72, q72, st72⟩ := X70.callS hx hZ (y := (⟨"com/example/bitstrata/bitstrata/bitmap/WorkspaceVectorsPinLaw", "shaped", "([[JII)Z"⟩ : MethodName)) hown (tw hw 18 rfl) (tw hw 19 rfl) (tw hw 20 rfl) (tw hw 21 rfl) (by decide) (rm4_11 l Z a0 hw [] r70 wb kc70 kd70 (fun i => .ref (r70 + 1 + i)) (wb.toNatClampNeg) x70_0 h70 n0 Zs71 V70 (back32 hw_wb.1).1 (congrArg Value.ref ex70_0.symm) Vx70_0) (g := (mkF m 48 #[.val (.int p0), .val (.int p1), .val (.int p2), .val (.int p3), .val (.int (1 : Int32)), .val (.int wb), .val (.int (3 : Int32)), .val (.int we), .val (.ref b66), .val (.ref r70), .unset, .unset] [(.int wb), (.int (1 : Int32)), (.ref r70)])) rfl (by rw [hml]; rfl) (argsL := [(.ref r70), (.int (1 : Int32)), (.int wb)]) (rest := []) (lenOf pd3 rfl) rfl (hb hby at_48) rfl (by decide) (Nat.le_of_ble_eq_true rfl) (k' := 4) (n' := 9) rfl rfl (by decide) (by decide)
      refine Go.by st72 ?_
      obtain ⟨rfl, rfl⟩ := q72
      show Go p.tables e below _ (T72.setTop (mkF m 51 #[.val (.int p0), .val (.int p1), .val (.int p2), .val (.int p3), .val (.int (1 : Int32)), .val (.int wb), .val (.int (3 : Int32)), .val (.int we), .val (.ref b66), .val (.ref r70), .unset, .unset] [(.int (1 : Int32))]))
      refine Go.by (fun _ => XS.ifYes X72.here hx rfl (pc0 := 51) (pc' := 56) rfl (hb hby at_51) rfl ((if0 _ _).trans (feq (by decide)).2) (by decide) (by decide)) ?_
      show Go p.tables e below _ (T72.setTop (mkF m 56 #[.val (.int p0), .val (.int p1), .val (.int p2), .val (.int p3), .val (.int (1 : Int32)), .val (.int wb), .val (.int (3 : Int32)), .val (.int we), .val (.ref b66), .val (.ref r70), .unset, .unset] []))
      refine Go.by (fun _ => XS.aload X72.here hx rfl (hb hby at_56) rfl rfl) ?_
      refine Go.by (fun _ => XS.iload X72.here hx rfl (hb hby at_58) rfl) ?_
      refine Go.by (fun _ => XS.iload X72.here hx rfl (hb hby at_60) rfl) ?_
      obtain ⟨v73, T73, h73, X73, q73, st73⟩ := X72.callV hx hZ (y := (⟨"com/example/bitstrata/bitstrata/bitmap/Formula$Workspace", "vectors", "(II)[[J"⟩ : MethodName)) (z := (⟨"com/example/bitstrata/bitstrata/bitmap/Formula$Workspace", "vectors", "(II)[[J"⟩ : MethodName)) hown (tw hw 13 rfl) (tw hw 14 rfl) (notFace_of_selects (args := #[]) (mvT hZ (tw hw 16 rfl))) (tw hw 16 rfl) (tw hw 15 rfl) (tw hw 2 rfl) (tw hw 17 rfl) (by decide) (rm3_13 l Z a0 hw [] b66 we r70 kc70 (fun i => .ref (r70 + 1 + i)) h70 n0 Zs71 Ex70 g_b66 Fv70 V70 hw_we.1 hw_we.2) Ex70 (g := (mkF m 62 #[.val (.int p0), .val (.int p1), .val (.int p2), .val (.int p3), .val (.int (1 : Int32)), .val (.int wb), .val (.int (3 : Int32)), .val (.int we), .val (.ref b66), .val (.ref r70), .unset, .unset] [(.int we), (.int (3 : Int32)), (.ref b66)])) rfl (by rw [hml]; rfl) (argsL := [(.int (3 : Int32)), (.int we)]) (rest := []) (lenOf pd2 rfl) rfl (hb hby at_62) rfl (by decide) (Nat.le_of_ble_eq_true rfl) (k' := 8) (n' := 33) rfl rfl (by decide) (by decide)
      refine Go.by st73 ?_
      obtain ⟨r73, kc73, kd73, rfl, sr73, K73, Ex73, Fv73, V73, VV73⟩ := q73
      have g_r73 : n0 ≤ r73 := Nat.le_trans Zs71 sr73
      have ne_b66_r73 : b66 ≠ r73 := Nat.ne_of_lt (Nat.lt_of_lt_of_le Ex70.lt sr73)
      obtain ⟨x73_0, ex73_0⟩ : ∃ z, z = r73 + 1 + 0 := ⟨_, rfl⟩
      have Vx73_0 := VV73 0 (by decide)
      rw [← ex73_0] at Vx73_0
      have sx73_0 : h70.size ≤ x73_0 := by rw [ex73_0]; exact Nat.le_trans sr73 (Nat.le_trans (Nat.le_add_right _ 1) (Nat.le_add_right _ 0))
      have g_x73_0 : n0 ≤ x73_0 := Nat.le_trans Zs71 sx73_0
      have ne_b66_x73_0 : b66 ≠ x73_0 := Nat.ne_of_lt (Nat.lt_of_lt_of_le Ex70.lt sx73_0)
      obtain ⟨x73_1, ex73_1⟩ : ∃ z, z = r73 + 1 + 1 := ⟨_, rfl⟩
      have Vx73_1 := VV73 1 (by decide)
      rw [← ex73_1] at Vx73_1
      have sx73_1 : h70.size ≤ x73_1 := by rw [ex73_1]; exact Nat.le_trans sr73 (Nat.le_trans (Nat.le_add_right _ 1) (Nat.le_add_right _ 1))
      have g_x73_1 : n0 ≤ x73_1 := Nat.le_trans Zs71 sx73_1
      have ne_b66_x73_1 : b66 ≠ x73_1 := Nat.ne_of_lt (Nat.lt_of_lt_of_le Ex70.lt sx73_1)
      obtain ⟨x73_2, ex73_2⟩ : ∃ z, z = r73 + 1 + 2 := ⟨_, rfl⟩
      have Vx73_2 := VV73 2 (by decide)
      rw [← ex73_2] at Vx73_2
      have sx73_2 : h70.size ≤ x73_2 := by rw [ex73_2]; exact Nat.le_trans sr73 (Nat.le_trans (Nat.le_add_right _ 1) (Nat.le_add_right _ 2))
      have g_x73_2 : n0 ≤ x73_2 := Nat.le_trans Zs71 sx73_2
      have ne_b66_x73_2 : b66 ≠ x73_2 := Nat.ne_of_lt (Nat.lt_of_lt_of_le Ex70.lt sx73_2)
      have f74_770 := Ex70.keep K73
      have Zs74 : n0 ≤ h73.size := Nat.le_trans Zs71 K73.1
      have nx73_01 : x73_0 ≠ x73_1 := by rw [ex73_0, ex73_1]; exact fun q => absurd (Nat.add_left_cancel q) (by decide)
      have nx73_02 : x73_0 ≠ x73_2 := by rw [ex73_0, ex73_2]; exact fun q => absurd (Nat.add_left_cancel q) (by decide)
      have nx73_12 : x73_1 ≠ x73_2 := by rw [ex73_1, ex73_2]; exact fun q => absurd (Nat.add_left_cancel q) (by decide)
      show Go p.tables e below _ (T73.setTop (mkF m 65 #[.val (.int p0), .val (.int p1), .val (.int p2), .val (.int p3), .val (.int (1 : Int32)), .val (.int wb), .val (.int (3 : Int32)), .val (.int we), .val (.ref b66), .val (.ref r70), .unset, .unset] [(.ref r73)]))
      refine Go.by (fun _ => XS.astore X73.here hx rfl (hb hby at_65) rfl rfl (l' := #[.val (.int p0), .val (.int p1), .val (.int p2), .val (.int p3), .val (.int (1 : Int32)), .val (.int wb), .val (.int (3 : Int32)), .val (.int we), .val (.ref b66), .val (.ref r70), .val (.ref r73), .unset]) rfl) ?_
      show Go p.tables e below _ (T73.setTop (mkF m 67 #[.val (.int p0), .val (.int p1), .val (.int p2), .val (.int p3), .val (.int (1 : Int32)), .val (.int wb), .val (.int (3 : Int32)), .val (.int we), .val (.ref b66), .val (.ref r70), .val (.ref r73), .unset] []))
      refine Go.by (fun _ => XS.aload X73.here hx rfl (hb hby at_67) rfl rfl) ?_
      show Go p.tables e below _ (T73.setTop (mkF m 69 #[.val (.int p0), .val (.int p1), .val (.int p2), .val (.int p3), .val (.int (1 : Int32)), .val (.int wb), .val (.int (3 : Int32)), .val (.int we), .val (.ref b66), .val (.ref r70), .val (.ref r73), .unset] [(.ref r73)]))
      refine Go.by (fun _ => XS.iload X73.here hx rfl (hb hby at_69) rfl) ?_
      refine Go.by (fun _ => XS.iload X73.here hx rfl (hb hby at_71) rfl) ?_
      obtain ⟨v75, T75, h75, X75, q75, st75⟩ := X73.callS hx hZ (y := (⟨"com/example/bitstrata/bitstrata/bitmap/WorkspaceVectorsPinLaw", "shaped", "([[JII)Z"⟩ : MethodName)) hown (tw hw 18 rfl) (tw hw 19 rfl) (tw hw 20 rfl) (tw hw 21 rfl) (by decide) (rm4_33 l Z a0 hw [] r73 we kc73 kd73 (fun i => .ref (r73 + 1 + i)) (we.toNatClampNeg) x73_0 x73_1 x73_2 h73 n0 Zs74 V73 (back32 hw_we.1).1 (congrArg Value.ref ex73_0.symm) Vx73_0 (congrArg Value.ref ex73_1.symm) Vx73_1 (congrArg Value.ref ex73_2.symm) Vx73_2 nx73_01 nx73_02 nx73_12) (g := (mkF m 73 #[.val (.int p0), .val (.int p1), .val (.int p2), .val (.int p3), .val (.int (1 : Int32)), .val (.int wb), .val (.int (3 : Int32)), .val (.int we), .val (.ref b66), .val (.ref r70), .val (.ref r73), .unset] [(.int we), (.int (3 : Int32)), (.ref r73)])) rfl (by rw [hml]; rfl) (argsL := [(.ref r73), (.int (3 : Int32)), (.int we)]) (rest := []) (lenOf pd3 rfl) rfl (hb hby at_73) rfl (by decide) (Nat.le_of_ble_eq_true rfl) (k' := 8) (n' := 33) rfl rfl (by decide) (by decide)
      refine Go.by st75 ?_
      obtain ⟨rfl, rfl⟩ := q75
      show Go p.tables e below _ (T75.setTop (mkF m 76 #[.val (.int p0), .val (.int p1), .val (.int p2), .val (.int p3), .val (.int (1 : Int32)), .val (.int wb), .val (.int (3 : Int32)), .val (.int we), .val (.ref b66), .val (.ref r70), .val (.ref r73), .unset] [(.int (1 : Int32))]))
      refine Go.by (fun _ => XS.ifYes X75.here hx rfl (pc0 := 76) (pc' := 81) rfl (hb hby at_76) rfl ((if0 _ _).trans (feq (by decide)).2) (by decide) (by decide)) ?_
      show Go p.tables e below _ (T75.setTop (mkF m 81 #[.val (.int p0), .val (.int p1), .val (.int p2), .val (.int p3), .val (.int (1 : Int32)), .val (.int wb), .val (.int (3 : Int32)), .val (.int we), .val (.ref b66), .val (.ref r70), .val (.ref r73), .unset] []))
      refine Go.by (fun _ => XS.iload X75.here hx rfl (hb hby at_81) rfl) ?_
      refine Go.by (fun _ => XS.iload X75.here hx rfl (hb hby at_83) rfl) ?_
      refine Go.by (fun _ => XS.icmpYes X75.here hx rfl (pc0 := 85) (pc' := 104) rfl (hb hby at_85) rfl (tlt (by decide)).2.2.1 (by decide) (by decide)) ?_
      show Go p.tables e below _ (T75.setTop (mkF m 104 #[.val (.int p0), .val (.int p1), .val (.int p2), .val (.int p3), .val (.int (1 : Int32)), .val (.int wb), .val (.int (3 : Int32)), .val (.int we), .val (.ref b66), .val (.ref r70), .val (.ref r73), .unset] []))
      refine Go.by (fun _ => XS.iconst X75.here hx rfl (hb hby at_104)) ?_
      refine Go.by (fun _ => XS.istore X75.here hx rfl (hb hby at_105) rfl (l' := #[.val (.int p0), .val (.int p1), .val (.int p2), .val (.int p3), .val (.int (1 : Int32)), .val (.int wb), .val (.int (3 : Int32)), .val (.int we), .val (.ref b66), .val (.ref r70), .val (.ref r73), .val (.int (0 : Int32))]) rfl) ?_
      show Go p.tables e below _ (T75.setTop (mkF m 107 #[.val (.int p0), .val (.int p1), .val (.int p2), .val (.int p3), .val (.int (1 : Int32)), .val (.int wb), .val (.int (3 : Int32)), .val (.int we), .val (.ref b66), .val (.ref r70), .val (.ref r73), .val (.int (0 : Int32))] []))
      refine Go.by (fun _ => XS.iload X75.here hx rfl (hb hby at_107) rfl) ?_
      refine Go.by (fun _ => XS.ifYes X75.here hx rfl (pc0 := 109) (pc' := 121) rfl (hb hby at_109) rfl ((if0 _ _).trans (teq (by decide)).1) (by decide) (by decide)) ?_
      show Go p.tables e below _ (T75.setTop (mkF m 121 #[.val (.int p0), .val (.int p1), .val (.int p2), .val (.int p3), .val (.int (1 : Int32)), .val (.int wb), .val (.int (3 : Int32)), .val (.int we), .val (.ref b66), .val (.ref r70), .val (.ref r73), .val (.int (0 : Int32))] []))
      refine Go.by (fun _ => XS.iconst X75.here hx rfl (hb hby at_121)) ?_
      exact Go.retN X75 hx hlk (z' := (1 : Int32)) hret (by simp) (hb hby at_122) rfl (by decide) (by decide) rfl
  · rw [ea]
    rcases own_m4 p2 with ec | ec | ec | ec
    · rw [ec]
      show Go p.tables e below _ (T0.setTop (mkF m 22 #[.val (.int p0), .val (.int p1), .val (.int p2), .val (.int p3), .val (.int (2 : Int32)), .val (.int wb), .val (.int (0 : Int32)), .val (.int we), .unset, .unset, .unset, .unset] []))
      obtain ⟨T76, h76, b76, X76, g76, E76, A76, D76, st76⟩ := X0.newO hx hZ hown (tw hw 0 rfl) (tw hw 1 rfl) (tw hw 2 rfl) (g := (mkF m 22 #[.val (.int p0), .val (.int p1), .val (.int p2), .val (.int p3), .val (.int (2 : Int32)), .val (.int wb), .val (.int (0 : Int32)), .val (.int we), .unset, .unset, .unset, .unset] [])) rfl (hb hby at_22) (k' := 1) (n' := 1) rfl rfl (by decide) (by decide)
      have g_b76 : n0 ≤ b76 := by rw [g76]; exact Z0
      have Zs77 : n0 ≤ h76.size := Nat.le_trans Z0 E76.1
      have F76_vectors : Fld Z h76 b76 "com/example/bitstrata/bitstrata/bitmap/Formula$Workspace" "vectors" "[[J" .null := D76 (Or.inl (tw hw 12 rfl)) (ty := (.array (.array .long))) (by decide)
      refine Go.by st76 ?_
      show Go p.tables e below _ (T76.setTop (mkF m 25 #[.val (.int p0), .val (.int p1), .val (.int p2), .val (.int p3), .val (.int (2 : Int32)), .val (.int wb), .val (.int (0 : Int32)), .val (.int we), .unset, .unset, .unset, .unset] [(.ref b76)]))
      refine Go.by (fun _ => XS.dup X76.here hx rfl (hb hby at_25) rfl rfl) ?_
      obtain ⟨v78, T78, h78, X78, q78, st78⟩ := X76.callI hx hZ (y := (⟨"com/example/bitstrata/bitstrata/bitmap/Formula$Workspace", "<init>", "()V"⟩ : MethodName)) rfl hown (tw hw 3 rfl) (tw hw 4 rfl) (tw hw 2 rfl) (tw hw 5 rfl) (by decide) (rm1 l Z a0 hw [] b76 h76 n0 Zs77 A76 g_b76 F76_vectors) (g := (mkF m 26 #[.val (.int p0), .val (.int p1), .val (.int p2), .val (.int p3), .val (.int (2 : Int32)), .val (.int wb), .val (.int (0 : Int32)), .val (.int we), .unset, .unset, .unset, .unset] [(.ref b76), (.ref b76)])) rfl (by rw [hml]; rfl) (argsL := []) (rest := [(.ref b76)]) (lenOf pd1 rfl) rfl (hb hby at_26) rfl (by decide) (Nat.le_of_ble_eq_true rfl) (k' := 2) (n' := 1) rfl rfl (by decide) (by decide)
      refine Go.by st78 ?_
      obtain ⟨o78, kO78, rfl, so78, K78, Ex78, Fv78, V78⟩ := q78
      have g_o78 : n0 ≤ o78 := Nat.le_trans Zs77 so78
      have ne_b76_o78 : b76 ≠ o78 := Nat.ne_of_lt (Nat.lt_of_lt_of_le A76.lt so78)
      have f79_816 := A76.keep K78
      have Zs79 : n0 ≤ h78.size := Nat.le_trans Zs77 K78.1
      show Go p.tables e below _ (T78.setTop (mkF m 29 #[.val (.int p0), .val (.int p1), .val (.int p2), .val (.int p3), .val (.int (2 : Int32)), .val (.int wb), .val (.int (0 : Int32)), .val (.int we), .unset, .unset, .unset, .unset] [(.ref b76)]))
      refine Go.by (fun _ => XS.astore X78.here hx rfl (hb hby at_29) rfl rfl (l' := #[.val (.int p0), .val (.int p1), .val (.int p2), .val (.int p3), .val (.int (2 : Int32)), .val (.int wb), .val (.int (0 : Int32)), .val (.int we), .val (.ref b76), .unset, .unset, .unset]) rfl) ?_
      show Go p.tables e below _ (T78.setTop (mkF m 31 #[.val (.int p0), .val (.int p1), .val (.int p2), .val (.int p3), .val (.int (2 : Int32)), .val (.int wb), .val (.int (0 : Int32)), .val (.int we), .val (.ref b76), .unset, .unset, .unset] []))
      refine Go.by (fun _ => XS.aload X78.here hx rfl (hb hby at_31) rfl rfl) ?_
      show Go p.tables e below _ (T78.setTop (mkF m 33 #[.val (.int p0), .val (.int p1), .val (.int p2), .val (.int p3), .val (.int (2 : Int32)), .val (.int wb), .val (.int (0 : Int32)), .val (.int we), .val (.ref b76), .unset, .unset, .unset] [(.ref b76)]))
      refine Go.by (fun _ => XS.iload X78.here hx rfl (hb hby at_33) rfl) ?_
      refine Go.by (fun _ => XS.iload X78.here hx rfl (hb hby at_35) rfl) ?_
      obtain ⟨v80, T80, h80, X80, q80, st80⟩ := X78.callV hx hZ (y := (⟨"com/example/bitstrata/bitstrata/bitmap/Formula$Workspace", "vectors", "(II)[[J"⟩ : MethodName)) (z := (⟨"com/example/bitstrata/bitstrata/bitmap/Formula$Workspace", "vectors", "(II)[[J"⟩ : MethodName)) hown (tw hw 13 rfl) (tw hw 14 rfl) (notFace_of_selects (args := #[]) (mvT hZ (tw hw 16 rfl))) (tw hw 16 rfl) (tw hw 15 rfl) (tw hw 2 rfl) (tw hw 17 rfl) (by decide) (rm3_02 l Z a0 hw [] b76 wb o78 kO78 (fun _ => .null) h78 n0 Zs79 Ex78 g_b76 Fv78 V78 hw_wb.1 hw_wb.2) Ex78 (g := (mkF m 37 #[.val (.int p0), .val (.int p1), .val (.int p2), .val (.int p3), .val (.int (2 : Int32)), .val (.int wb), .val (.int (0 : Int32)), .val (.int we), .val (.ref b76), .unset, .unset, .unset] [(.int wb), (.int (2 : Int32)), (.ref b76)])) rfl (by rw [hml]; rfl) (argsL := [(.int (2 : Int32)), (.int wb)]) (rest := []) (lenOf pd2 rfl) rfl (hb hby at_37) rfl (by decide) (Nat.le_of_ble_eq_true rfl) (k' := 5) (n' := 17) rfl rfl (by decide) (by decide)
      refine Go.by st80 ?_
      obtain ⟨r80, kc80, kd80, rfl, sr80, K80, Ex80, Fv80, V80, VV80⟩ := q80
      have g_r80 : n0 ≤ r80 := Nat.le_trans Zs79 sr80
      have ne_b76_r80 : b76 ≠ r80 := Nat.ne_of_lt (Nat.lt_of_lt_of_le Ex78.lt sr80)
      obtain ⟨x80_0, ex80_0⟩ : ∃ z, z = r80 + 1 + 0 := ⟨_, rfl⟩
      have Vx80_0 := VV80 0 (by decide)
      rw [← ex80_0] at Vx80_0
      have sx80_0 : h78.size ≤ x80_0 := by rw [ex80_0]; exact Nat.le_trans sr80 (Nat.le_trans (Nat.le_add_right _ 1) (Nat.le_add_right _ 0))
      have g_x80_0 : n0 ≤ x80_0 := Nat.le_trans Zs79 sx80_0
      have ne_b76_x80_0 : b76 ≠ x80_0 := Nat.ne_of_lt (Nat.lt_of_lt_of_le Ex78.lt sx80_0)
      obtain ⟨x80_1, ex80_1⟩ : ∃ z, z = r80 + 1 + 1 := ⟨_, rfl⟩
      have Vx80_1 := VV80 1 (by decide)
      rw [← ex80_1] at Vx80_1
      have sx80_1 : h78.size ≤ x80_1 := by rw [ex80_1]; exact Nat.le_trans sr80 (Nat.le_trans (Nat.le_add_right _ 1) (Nat.le_add_right _ 1))
      have g_x80_1 : n0 ≤ x80_1 := Nat.le_trans Zs79 sx80_1
      have ne_b76_x80_1 : b76 ≠ x80_1 := Nat.ne_of_lt (Nat.lt_of_lt_of_le Ex78.lt sx80_1)
      have f81_842 := Ex78.keep K80
      have Zs81 : n0 ≤ h80.size := Nat.le_trans Zs79 K80.1
      have nx80_01 : x80_0 ≠ x80_1 := by rw [ex80_0, ex80_1]; exact fun q => absurd (Nat.add_left_cancel q) (by decide)
      show Go p.tables e below _ (T80.setTop (mkF m 40 #[.val (.int p0), .val (.int p1), .val (.int p2), .val (.int p3), .val (.int (2 : Int32)), .val (.int wb), .val (.int (0 : Int32)), .val (.int we), .val (.ref b76), .unset, .unset, .unset] [(.ref r80)]))
      refine Go.by (fun _ => XS.astore X80.here hx rfl (hb hby at_40) rfl rfl (l' := #[.val (.int p0), .val (.int p1), .val (.int p2), .val (.int p3), .val (.int (2 : Int32)), .val (.int wb), .val (.int (0 : Int32)), .val (.int we), .val (.ref b76), .val (.ref r80), .unset, .unset]) rfl) ?_
      show Go p.tables e below _ (T80.setTop (mkF m 42 #[.val (.int p0), .val (.int p1), .val (.int p2), .val (.int p3), .val (.int (2 : Int32)), .val (.int wb), .val (.int (0 : Int32)), .val (.int we), .val (.ref b76), .val (.ref r80), .unset, .unset] []))
      refine Go.by (fun _ => XS.aload X80.here hx rfl (hb hby at_42) rfl rfl) ?_
      refine Go.by (fun _ => XS.iload X80.here hx rfl (hb hby at_44) rfl) ?_
      refine Go.by (fun _ => XS.iload X80.here hx rfl (hb hby at_46) rfl) ?_
      show Go p.tables e below _ (T80.setTop (mkF m 48 #[.val (.int p0), .val (.int p1), .val (.int p2), .val (.int p3), .val (.int (2 : Int32)), .val (.int wb), .val (.int (0 : Int32)), .val (.int we), .val (.ref b76), .val (.ref r80), .unset, .unset] [(.int wb), (.int (2 : Int32)), (.ref r80)]))
      obtain ⟨v82, T82, h82, X82, q82, st82⟩ := X80.callS hx hZ (y := (⟨"com/example/bitstrata/bitstrata/bitmap/WorkspaceVectorsPinLaw", "shaped", "([[JII)Z"⟩ : MethodName)) hown (tw hw 18 rfl) (tw hw 19 rfl) (tw hw 20 rfl) (tw hw 21 rfl) (by decide) (rm4_22 l Z a0 hw [] r80 wb kc80 kd80 (fun i => .ref (r80 + 1 + i)) (wb.toNatClampNeg) x80_0 x80_1 h80 n0 Zs81 V80 (back32 hw_wb.1).1 (congrArg Value.ref ex80_0.symm) Vx80_0 (congrArg Value.ref ex80_1.symm) Vx80_1 nx80_01) (g := (mkF m 48 #[.val (.int p0), .val (.int p1), .val (.int p2), .val (.int p3), .val (.int (2 : Int32)), .val (.int wb), .val (.int (0 : Int32)), .val (.int we), .val (.ref b76), .val (.ref r80), .unset, .unset] [(.int wb), (.int (2 : Int32)), (.ref r80)])) rfl (by rw [hml]; rfl) (argsL := [(.ref r80), (.int (2 : Int32)), (.int wb)]) (rest := []) (lenOf pd3 rfl) rfl (hb hby at_48) rfl (by decide) (Nat.le_of_ble_eq_true rfl) (k' := 5) (n' := 17) rfl rfl (by decide) (by decide)
      refine Go.by st82 ?_
      obtain ⟨rfl, rfl⟩ := q82
      show Go p.tables e below _ (T82.setTop (mkF m 51 #[.val (.int p0), .val (.int p1), .val (.int p2), .val (.int p3), .val (.int (2 : Int32)), .val (.int wb), .val (.int (0 : Int32)), .val (.int we), .val (.ref b76), .val (.ref r80), .unset, .unset] [(.int (1 : Int32))]))
      refine Go.by (fun _ => XS.ifYes X82.here hx rfl (pc0 := 51) (pc' := 56) rfl (hb hby at_51) rfl ((if0 _ _).trans (feq (by decide)).2) (by decide) (by decide)) ?_
      show Go p.tables e below _ (T82.setTop (mkF m 56 #[.val (.int p0), .val (.int p1), .val (.int p2), .val (.int p3), .val (.int (2 : Int32)), .val (.int wb), .val (.int (0 : Int32)), .val (.int we), .val (.ref b76), .val (.ref r80), .unset, .unset] []))
      refine Go.by (fun _ => XS.aload X82.here hx rfl (hb hby at_56) rfl rfl) ?_
      refine Go.by (fun _ => XS.iload X82.here hx rfl (hb hby at_58) rfl) ?_
      refine Go.by (fun _ => XS.iload X82.here hx rfl (hb hby at_60) rfl) ?_
      obtain ⟨v83, T83, h83, X83, q83, st83⟩ := X82.callV hx hZ (y := (⟨"com/example/bitstrata/bitstrata/bitmap/Formula$Workspace", "vectors", "(II)[[J"⟩ : MethodName)) (z := (⟨"com/example/bitstrata/bitstrata/bitmap/Formula$Workspace", "vectors", "(II)[[J"⟩ : MethodName)) hown (tw hw 13 rfl) (tw hw 14 rfl) (notFace_of_selects (args := #[]) (mvT hZ (tw hw 16 rfl))) (tw hw 16 rfl) (tw hw 15 rfl) (tw hw 2 rfl) (tw hw 17 rfl) (by decide) (rm3_20 l Z a0 hw [] b76 we r80 kc80 (fun i => .ref (r80 + 1 + i)) h80 n0 Zs81 Ex80 g_b76 Fv80 V80 hw_we.1 hw_we.2) Ex80 (g := (mkF m 62 #[.val (.int p0), .val (.int p1), .val (.int p2), .val (.int p3), .val (.int (2 : Int32)), .val (.int wb), .val (.int (0 : Int32)), .val (.int we), .val (.ref b76), .val (.ref r80), .unset, .unset] [(.int we), (.int (0 : Int32)), (.ref b76)])) rfl (by rw [hml]; rfl) (argsL := [(.int (0 : Int32)), (.int we)]) (rest := []) (lenOf pd2 rfl) rfl (hb hby at_62) rfl (by decide) (Nat.le_of_ble_eq_true rfl) (k' := 5) (n' := 17) rfl rfl (by decide) (by decide)
      refine Go.by st83 ?_
      obtain ⟨rfl, rfl⟩ := q83
      show Go p.tables e below _ (T83.setTop (mkF m 65 #[.val (.int p0), .val (.int p1), .val (.int p2), .val (.int p3), .val (.int (2 : Int32)), .val (.int wb), .val (.int (0 : Int32)), .val (.int we), .val (.ref b76), .val (.ref r80), .unset, .unset] [(.ref r80)]))
      refine Go.by (fun _ => XS.astore X83.here hx rfl (hb hby at_65) rfl rfl (l' := #[.val (.int p0), .val (.int p1), .val (.int p2), .val (.int p3), .val (.int (2 : Int32)), .val (.int wb), .val (.int (0 : Int32)), .val (.int we), .val (.ref b76), .val (.ref r80), .val (.ref r80), .unset]) rfl) ?_
      show Go p.tables e below _ (T83.setTop (mkF m 67 #[.val (.int p0), .val (.int p1), .val (.int p2), .val (.int p3), .val (.int (2 : Int32)), .val (.int wb), .val (.int (0 : Int32)), .val (.int we), .val (.ref b76), .val (.ref r80), .val (.ref r80), .unset] []))
      refine Go.by (fun _ => XS.aload X83.here hx rfl (hb hby at_67) rfl rfl) ?_
      refine Go.by (fun _ => XS.iload X83.here hx rfl (hb hby at_69) rfl) ?_
      show Go p.tables e below _ (T83.setTop (mkF m 71 #[.val (.int p0), .val (.int p1), .val (.int p2), .val (.int p3), .val (.int (2 : Int32)), .val (.int wb), .val (.int (0 : Int32)), .val (.int we), .val (.ref b76), .val (.ref r80), .val (.ref r80), .unset] [(.int (0 : Int32)), (.ref r80)]))
      refine Go.by (fun _ => XS.iload X83.here hx rfl (hb hby at_71) rfl) ?_
      obtain ⟨v84, T84, h84, X84, q84, st84⟩ := X83.callS hx hZ (y := (⟨"com/example/bitstrata/bitstrata/bitmap/WorkspaceVectorsPinLaw", "shaped", "([[JII)Z"⟩ : MethodName)) hown (tw hw 18 rfl) (tw hw 19 rfl) (tw hw 20 rfl) (tw hw 21 rfl) (by decide) (rm4_20 l Z a0 hw [] r80 we kc80 kd80 (fun i => .ref (r80 + 1 + i)) (wb.toNatClampNeg)  h80 n0 Zs81 V80) (g := (mkF m 73 #[.val (.int p0), .val (.int p1), .val (.int p2), .val (.int p3), .val (.int (2 : Int32)), .val (.int wb), .val (.int (0 : Int32)), .val (.int we), .val (.ref b76), .val (.ref r80), .val (.ref r80), .unset] [(.int we), (.int (0 : Int32)), (.ref r80)])) rfl (by rw [hml]; rfl) (argsL := [(.ref r80), (.int (0 : Int32)), (.int we)]) (rest := []) (lenOf pd3 rfl) rfl (hb hby at_73) rfl (by decide) (Nat.le_of_ble_eq_true rfl) (k' := 5) (n' := 17) rfl rfl (by decide) (by decide)
      refine Go.by st84 ?_
      obtain ⟨rfl, rfl⟩ := q84
      show Go p.tables e below _ (T84.setTop (mkF m 76 #[.val (.int p0), .val (.int p1), .val (.int p2), .val (.int p3), .val (.int (2 : Int32)), .val (.int wb), .val (.int (0 : Int32)), .val (.int we), .val (.ref b76), .val (.ref r80), .val (.ref r80), .unset] [(.int (1 : Int32))]))
      refine Go.by (fun _ => XS.ifYes X84.here hx rfl (pc0 := 76) (pc' := 81) rfl (hb hby at_76) rfl ((if0 _ _).trans (feq (by decide)).2) (by decide) (by decide)) ?_
      show Go p.tables e below _ (T84.setTop (mkF m 81 #[.val (.int p0), .val (.int p1), .val (.int p2), .val (.int p3), .val (.int (2 : Int32)), .val (.int wb), .val (.int (0 : Int32)), .val (.int we), .val (.ref b76), .val (.ref r80), .val (.ref r80), .unset] []))
      refine Go.by (fun _ => XS.iload X84.here hx rfl (hb hby at_81) rfl) ?_
      refine Go.by (fun _ => XS.iload X84.here hx rfl (hb hby at_83) rfl) ?_
      refine Go.by (fun _ => XS.icmpNo X84.here hx rfl (hb hby at_85) rfl (flt (by decide)).2.2.1) ?_
      show Go p.tables e below _ (T84.setTop (mkF m 88 #[.val (.int p0), .val (.int p1), .val (.int p2), .val (.int p3), .val (.int (2 : Int32)), .val (.int wb), .val (.int (0 : Int32)), .val (.int we), .val (.ref b76), .val (.ref r80), .val (.ref r80), .unset] []))
      refine Go.by (fun _ => XS.iload X84.here hx rfl (hb hby at_88) rfl) ?_
      refine Go.by (fun _ => XS.ifYes X84.here hx rfl (pc0 := 90) (pc' := 100) rfl (hb hby at_90) rfl ((if0 _ _).trans (teq (by decide)).1) (by decide) (by decide)) ?_
      show Go p.tables e below _ (T84.setTop (mkF m 100 #[.val (.int p0), .val (.int p1), .val (.int p2), .val (.int p3), .val (.int (2 : Int32)), .val (.int wb), .val (.int (0 : Int32)), .val (.int we), .val (.ref b76), .val (.ref r80), .val (.ref r80), .unset] []))
      refine Go.by (fun _ => XS.iconst X84.here hx rfl (hb hby at_100)) ?_
      refine Go.by (fun _ => XS.goto X84.here hx rfl (pc0 := 101) (pc' := 105) rfl (hb hby at_101) (by decide) (by decide)) ?_
      show Go p.tables e below _ (T84.setTop (mkF m 105 #[.val (.int p0), .val (.int p1), .val (.int p2), .val (.int p3), .val (.int (2 : Int32)), .val (.int wb), .val (.int (0 : Int32)), .val (.int we), .val (.ref b76), .val (.ref r80), .val (.ref r80), .unset] [(.int (1 : Int32))]))
      refine Go.by (fun _ => XS.istore X84.here hx rfl (hb hby at_105) rfl (l' := #[.val (.int p0), .val (.int p1), .val (.int p2), .val (.int p3), .val (.int (2 : Int32)), .val (.int wb), .val (.int (0 : Int32)), .val (.int we), .val (.ref b76), .val (.ref r80), .val (.ref r80), .val (.int (1 : Int32))]) rfl) ?_
      show Go p.tables e below _ (T84.setTop (mkF m 107 #[.val (.int p0), .val (.int p1), .val (.int p2), .val (.int p3), .val (.int (2 : Int32)), .val (.int wb), .val (.int (0 : Int32)), .val (.int we), .val (.ref b76), .val (.ref r80), .val (.ref r80), .val (.int (1 : Int32))] []))
      refine Go.by (fun _ => XS.iload X84.here hx rfl (hb hby at_107) rfl) ?_
      refine Go.by (fun _ => XS.ifNo X84.here hx rfl (hb hby at_109) rfl ((if0 _ _).trans (feq (by decide)).1)) ?_
      show Go p.tables e below _ (T84.setTop (mkF m 112 #[.val (.int p0), .val (.int p1), .val (.int p2), .val (.int p3), .val (.int (2 : Int32)), .val (.int wb), .val (.int (0 : Int32)), .val (.int we), .val (.ref b76), .val (.ref r80), .val (.ref r80), .val (.int (1 : Int32))] []))
      refine Go.by (fun _ => XS.aload X84.here hx rfl (hb hby at_112) rfl rfl) ?_
      refine Go.by (fun _ => XS.aload X84.here hx rfl (hb hby at_114) rfl rfl) ?_
      refine Go.by (X84.acmp (g := (mkF m 116 #[.val (.int p0), .val (.int p1), .val (.int p2), .val (.int p3), .val (.int (2 : Int32)), .val (.int wb), .val (.int (0 : Int32)), .val (.int we), .val (.ref b76), .val (.ref r80), .val (.ref r80), .val (.int (1 : Int32))] [(.ref r80), (.ref r80)])) hx rfl rfl rfl (pc0 := 116) (pc' := 121) (same := true) rfl (hb hby at_116) rfl (decide_eq_true rfl) (by decide) (by decide)) ?_
      show Go p.tables e below _ (T84.setTop (mkF m 121 #[.val (.int p0), .val (.int p1), .val (.int p2), .val (.int p3), .val (.int (2 : Int32)), .val (.int wb), .val (.int (0 : Int32)), .val (.int we), .val (.ref b76), .val (.ref r80), .val (.ref r80), .val (.int (1 : Int32))] []))
      refine Go.by (fun _ => XS.iconst X84.here hx rfl (hb hby at_121)) ?_
      exact Go.retN X84 hx hlk (z' := (1 : Int32)) hret (by simp) (hb hby at_122) rfl (by decide) (by decide) rfl
    · rw [ec]
      show Go p.tables e below _ (T0.setTop (mkF m 22 #[.val (.int p0), .val (.int p1), .val (.int p2), .val (.int p3), .val (.int (2 : Int32)), .val (.int wb), .val (.int (1 : Int32)), .val (.int we), .unset, .unset, .unset, .unset] []))
      obtain ⟨T85, h85, b85, X85, g85, E85, A85, D85, st85⟩ := X0.newO hx hZ hown (tw hw 0 rfl) (tw hw 1 rfl) (tw hw 2 rfl) (g := (mkF m 22 #[.val (.int p0), .val (.int p1), .val (.int p2), .val (.int p3), .val (.int (2 : Int32)), .val (.int wb), .val (.int (1 : Int32)), .val (.int we), .unset, .unset, .unset, .unset] [])) rfl (hb hby at_22) (k' := 1) (n' := 1) rfl rfl (by decide) (by decide)
      have g_b85 : n0 ≤ b85 := by rw [g85]; exact Z0
      have Zs86 : n0 ≤ h85.size := Nat.le_trans Z0 E85.1
      have F85_vectors : Fld Z h85 b85 "com/example/bitstrata/bitstrata/bitmap/Formula$Workspace" "vectors" "[[J" .null := D85 (Or.inl (tw hw 12 rfl)) (ty := (.array (.array .long))) (by decide)
      refine Go.by st85 ?_
      show Go p.tables e below _ (T85.setTop (mkF m 25 #[.val (.int p0), .val (.int p1), .val (.int p2), .val (.int p3), .val (.int (2 : Int32)), .val (.int wb), .val (.int (1 : Int32)), .val (.int we), .unset, .unset, .unset, .unset] [(.ref b85)]))
      refine Go.by (fun _ => XS.dup X85.here hx rfl (hb hby at_25) rfl rfl) ?_
      show Go p.tables e below _ (T85.setTop (mkF m 26 #[.val (.int p0), .val (.int p1), .val (.int p2), .val (.int p3), .val (.int (2 : Int32)), .val (.int wb), .val (.int (1 : Int32)), .val (.int we), .unset, .unset, .unset, .unset] [(.ref b85), (.ref b85)]))
      obtain ⟨v87, T87, h87, X87, q87, st87⟩ := X85.callI hx hZ (y := (⟨"com/example/bitstrata/bitstrata/bitmap/Formula$Workspace", "<init>", "()V"⟩ : MethodName)) rfl hown (tw hw 3 rfl) (tw hw 4 rfl) (tw hw 2 rfl) (tw hw 5 rfl) (by decide) (rm1 l Z a0 hw [] b85 h85 n0 Zs86 A85 g_b85 F85_vectors) (g := (mkF m 26 #[.val (.int p0), .val (.int p1), .val (.int p2), .val (.int p3), .val (.int (2 : Int32)), .val (.int wb), .val (.int (1 : Int32)), .val (.int we), .unset, .unset, .unset, .unset] [(.ref b85), (.ref b85)])) rfl (by rw [hml]; rfl) (argsL := []) (rest := [(.ref b85)]) (lenOf pd1 rfl) rfl (hb hby at_26) rfl (by decide) (Nat.le_of_ble_eq_true rfl) (k' := 2) (n' := 1) rfl rfl (by decide) (by decide)
      refine Go.by st87 ?_
      obtain ⟨o87, kO87, rfl, so87, K87, Ex87, Fv87, V87⟩ := q87
      have g_o87 : n0 ≤ o87 := Nat.le_trans Zs86 so87
      have ne_b85_o87 : b85 ≠ o87 := Nat.ne_of_lt (Nat.lt_of_lt_of_le A85.lt so87)
      have f88_913 := A85.keep K87
      have Zs88 : n0 ≤ h87.size := Nat.le_trans Zs86 K87.1
      show Go p.tables e below _ (T87.setTop (mkF m 29 #[.val (.int p0), .val (.int p1), .val (.int p2), .val (.int p3), .val (.int (2 : Int32)), .val (.int wb), .val (.int (1 : Int32)), .val (.int we), .unset, .unset, .unset, .unset] [(.ref b85)]))
      refine Go.by (fun _ => XS.astore X87.here hx rfl (hb hby at_29) rfl rfl (l' := #[.val (.int p0), .val (.int p1), .val (.int p2), .val (.int p3), .val (.int (2 : Int32)), .val (.int wb), .val (.int (1 : Int32)), .val (.int we), .val (.ref b85), .unset, .unset, .unset]) rfl) ?_
      show Go p.tables e below _ (T87.setTop (mkF m 31 #[.val (.int p0), .val (.int p1), .val (.int p2), .val (.int p3), .val (.int (2 : Int32)), .val (.int wb), .val (.int (1 : Int32)), .val (.int we), .val (.ref b85), .unset, .unset, .unset] []))
      refine Go.by (fun _ => XS.aload X87.here hx rfl (hb hby at_31) rfl rfl) ?_
      refine Go.by (fun _ => XS.iload X87.here hx rfl (hb hby at_33) rfl) ?_
      refine Go.by (fun _ => XS.iload X87.here hx rfl (hb hby at_35) rfl) ?_
      obtain ⟨v89, T89, h89, X89, q89, st89⟩ := X87.callV hx hZ (y := (⟨"com/example/bitstrata/bitstrata/bitmap/Formula$Workspace", "vectors", "(II)[[J"⟩ : MethodName)) (z := (⟨"com/example/bitstrata/bitstrata/bitmap/Formula$Workspace", "vectors", "(II)[[J"⟩ : MethodName)) hown (tw hw 13 rfl) (tw hw 14 rfl) (notFace_of_selects (args := #[]) (mvT hZ (tw hw 16 rfl))) (tw hw 16 rfl) (tw hw 15 rfl) (tw hw 2 rfl) (tw hw 17 rfl) (by decide) (rm3_02 l Z a0 hw [] b85 wb o87 kO87 (fun _ => .null) h87 n0 Zs88 Ex87 g_b85 Fv87 V87 hw_wb.1 hw_wb.2) Ex87 (g := (mkF m 37 #[.val (.int p0), .val (.int p1), .val (.int p2), .val (.int p3), .val (.int (2 : Int32)), .val (.int wb), .val (.int (1 : Int32)), .val (.int we), .val (.ref b85), .unset, .unset, .unset] [(.int wb), (.int (2 : Int32)), (.ref b85)])) rfl (by rw [hml]; rfl) (argsL := [(.int (2 : Int32)), (.int wb)]) (rest := []) (lenOf pd2 rfl) rfl (hb hby at_37) rfl (by decide) (Nat.le_of_ble_eq_true rfl) (k' := 5) (n' := 17) rfl rfl (by decide) (by decide)
      refine Go.by st89 ?_
      obtain ⟨r89, kc89, kd89, rfl, sr89, K89, Ex89, Fv89, V89, VV89⟩ := q89
      have g_r89 : n0 ≤ r89 := Nat.le_trans Zs88 sr89
      have ne_b85_r89 : b85 ≠ r89 := Nat.ne_of_lt (Nat.lt_of_lt_of_le Ex87.lt sr89)
      obtain ⟨x89_0, ex89_0⟩ : ∃ z, z = r89 + 1 + 0 := ⟨_, rfl⟩
      have Vx89_0 := VV89 0 (by decide)
      rw [← ex89_0] at Vx89_0
      have sx89_0 : h87.size ≤ x89_0 := by rw [ex89_0]; exact Nat.le_trans sr89 (Nat.le_trans (Nat.le_add_right _ 1) (Nat.le_add_right _ 0))
      have g_x89_0 : n0 ≤ x89_0 := Nat.le_trans Zs88 sx89_0
      have ne_b85_x89_0 : b85 ≠ x89_0 := Nat.ne_of_lt (Nat.lt_of_lt_of_le Ex87.lt sx89_0)
      obtain ⟨x89_1, ex89_1⟩ : ∃ z, z = r89 + 1 + 1 := ⟨_, rfl⟩
      have Vx89_1 := VV89 1 (by decide)
      rw [← ex89_1] at Vx89_1
      have sx89_1 : h87.size ≤ x89_1 := by rw [ex89_1]; exact Nat.le_trans sr89 (Nat.le_trans (Nat.le_add_right _ 1) (Nat.le_add_right _ 1))
      have g_x89_1 : n0 ≤ x89_1 := Nat.le_trans Zs88 sx89_1
      have ne_b85_x89_1 : b85 ≠ x89_1 := Nat.ne_of_lt (Nat.lt_of_lt_of_le Ex87.lt sx89_1)
      have f90_938 := Ex87.keep K89
      have Zs90 : n0 ≤ h89.size := Nat.le_trans Zs88 K89.1
      have nx89_01 : x89_0 ≠ x89_1 := by rw [ex89_0, ex89_1]; exact fun q => absurd (Nat.add_left_cancel q) (by decide)
      show Go p.tables e below _ (T89.setTop (mkF m 40 #[.val (.int p0), .val (.int p1), .val (.int p2), .val (.int p3), .val (.int (2 : Int32)), .val (.int wb), .val (.int (1 : Int32)), .val (.int we), .val (.ref b85), .unset, .unset, .unset] [(.ref r89)]))
      refine Go.by (fun _ => XS.astore X89.here hx rfl (hb hby at_40) rfl rfl (l' := #[.val (.int p0), .val (.int p1), .val (.int p2), .val (.int p3), .val (.int (2 : Int32)), .val (.int wb), .val (.int (1 : Int32)), .val (.int we), .val (.ref b85), .val (.ref r89), .unset, .unset]) rfl) ?_
      show Go p.tables e below _ (T89.setTop (mkF m 42 #[.val (.int p0), .val (.int p1), .val (.int p2), .val (.int p3), .val (.int (2 : Int32)), .val (.int wb), .val (.int (1 : Int32)), .val (.int we), .val (.ref b85), .val (.ref r89), .unset, .unset] []))
      refine Go.by (fun _ => XS.aload X89.here hx rfl (hb hby at_42) rfl rfl) ?_
      show Go p.tables e below _ (T89.setTop (mkF m 44 #[.val (.int p0), .val (.int p1), .val (.int p2), .val (.int p3), .val (.int (2 : Int32)), .val (.int wb), .val (.int (1 : Int32)), .val (.int we), .val (.ref b85), .val (.ref r89), .unset, .unset] [(.ref r89)]))
      refine Go.by (fun _ => XS.iload X89.here hx rfl (hb hby at_44) rfl) ?_
      refine Go.by (fun _ => XS.iload X89.here hx rfl (hb hby at_46) rfl) ?_
      obtain ⟨v91, T91, h91, X91, q91, st91⟩ := X89.callS hx hZ (y := (⟨"com/example/bitstrata/bitstrata/bitmap/WorkspaceVectorsPinLaw", "shaped", "([[JII)Z"⟩ : MethodName)) hown (tw hw 18 rfl) (tw hw 19 rfl) (tw hw 20 rfl) (tw hw 21 rfl) (by decide) (rm4_22 l Z a0 hw [] r89 wb kc89 kd89 (fun i => .ref (r89 + 1 + i)) (wb.toNatClampNeg) x89_0 x89_1 h89 n0 Zs90 V89 (back32 hw_wb.1).1 (congrArg Value.ref ex89_0.symm) Vx89_0 (congrArg Value.ref ex89_1.symm) Vx89_1 nx89_01) (g := (mkF m 48 #[.val (.int p0), .val (.int p1), .val (.int p2), .val (.int p3), .val (.int (2 : Int32)), .val (.int wb), .val (.int (1 : Int32)), .val (.int we), .val (.ref b85), .val (.ref r89), .unset, .unset] [(.int wb), (.int (2 : Int32)), (.ref r89)])) rfl (by rw [hml]; rfl) (argsL := [(.ref r89), (.int (2 : Int32)), (.int wb)]) (rest := []) (lenOf pd3 rfl) rfl (hb hby at_48) rfl (by decide) (Nat.le_of_ble_eq_true rfl) (k' := 5) (n' := 17) rfl rfl (by decide) (by decide)
      refine Go.by st91 ?_
      obtain ⟨rfl, rfl⟩ := q91
      show Go p.tables e below _ (T91.setTop (mkF m 51 #[.val (.int p0), .val (.int p1), .val (.int p2), .val (.int p3), .val (.int (2 : Int32)), .val (.int wb), .val (.int (1 : Int32)), .val (.int we), .val (.ref b85), .val (.ref r89), .unset, .unset] [(.int (1 : Int32))]))
      refine Go.by (fun _ => XS.ifYes X91.here hx rfl (pc0 := 51) (pc' := 56) rfl (hb hby at_51) rfl ((if0 _ _).trans (feq (by decide)).2) (by decide) (by decide)) ?_
      show Go p.tables e below _ (T91.setTop (mkF m 56 #[.val (.int p0), .val (.int p1), .val (.int p2), .val (.int p3), .val (.int (2 : Int32)), .val (.int wb), .val (.int (1 : Int32)), .val (.int we), .val (.ref b85), .val (.ref r89), .unset, .unset] []))
      refine Go.by (fun _ => XS.aload X91.here hx rfl (hb hby at_56) rfl rfl) ?_
      refine Go.by (fun _ => XS.iload X91.here hx rfl (hb hby at_58) rfl) ?_
      refine Go.by (fun _ => XS.iload X91.here hx rfl (hb hby at_60) rfl) ?_
      obtain ⟨v92, T92, h92, X92, q92, st92⟩ := X91.callV hx hZ (y := (⟨"com/example/bitstrata/bitstrata/bitmap/Formula$Workspace", "vectors", "(II)[[J"⟩ : MethodName)) (z := (⟨"com/example/bitstrata/bitstrata/bitmap/Formula$Workspace", "vectors", "(II)[[J"⟩ : MethodName)) hown (tw hw 13 rfl) (tw hw 14 rfl) (notFace_of_selects (args := #[]) (mvT hZ (tw hw 16 rfl))) (tw hw 16 rfl) (tw hw 15 rfl) (tw hw 2 rfl) (tw hw 17 rfl) (by decide) (rm3_21 l Z a0 hw [] b85 we r89 kc89 (fun i => .ref (r89 + 1 + i)) x89_0 kd89 (wb.toNatClampNeg) h89 n0 Zs90 Ex89 g_b85 Fv89 V89 hw_we.1 hw_we.2 (congrArg Value.ref ex89_0.symm) Vx89_0) Ex89 (g := (mkF m 62 #[.val (.int p0), .val (.int p1), .val (.int p2), .val (.int p3), .val (.int (2 : Int32)), .val (.int wb), .val (.int (1 : Int32)), .val (.int we), .val (.ref b85), .val (.ref r89), .unset, .unset] [(.int we), (.int (1 : Int32)), (.ref b85)])) rfl (by rw [hml]; rfl) (argsL := [(.int (1 : Int32)), (.int we)]) (rest := []) (lenOf pd2 rfl) rfl (hb hby at_62) rfl (by decide) (Nat.le_of_ble_eq_true rfl) (k' := 7) (n' := 25) rfl rfl (by decide) (by decide)
      refine Go.by st92 ?_
      rcases q92 with ⟨hcd92, rfl, rfl⟩ | ⟨hcd92, ⟨r92, kc92, kd92, rfl, sr92, K92, Ex92, Fv92, V92, VV92⟩⟩
      · skip
        show Go p.tables e below _ (T92.setTop (mkF m 65 #[.val (.int p0), .val (.int p1), .val (.int p2), .val (.int p3), .val (.int (2 : Int32)), .val (.int wb), .val (.int (1 : Int32)), .val (.int we), .val (.ref b85), .val (.ref r89), .unset, .unset] [(.ref r89)]))
        refine Go.by (fun _ => XS.astore X92.here hx rfl (hb hby at_65) rfl rfl (l' := #[.val (.int p0), .val (.int p1), .val (.int p2), .val (.int p3), .val (.int (2 : Int32)), .val (.int wb), .val (.int (1 : Int32)), .val (.int we), .val (.ref b85), .val (.ref r89), .val (.ref r89), .unset]) rfl) ?_
        show Go p.tables e below _ (T92.setTop (mkF m 67 #[.val (.int p0), .val (.int p1), .val (.int p2), .val (.int p3), .val (.int (2 : Int32)), .val (.int wb), .val (.int (1 : Int32)), .val (.int we), .val (.ref b85), .val (.ref r89), .val (.ref r89), .unset] []))
        refine Go.by (fun _ => XS.aload X92.here hx rfl (hb hby at_67) rfl rfl) ?_
        refine Go.by (fun _ => XS.iload X92.here hx rfl (hb hby at_69) rfl) ?_
        refine Go.by (fun _ => XS.iload X92.here hx rfl (hb hby at_71) rfl) ?_
        obtain ⟨v93, T93, h93, X93, q93, st93⟩ := X92.callS hx hZ (y := (⟨"com/example/bitstrata/bitstrata/bitmap/WorkspaceVectorsPinLaw", "shaped", "([[JII)Z"⟩ : MethodName)) hown (tw hw 18 rfl) (tw hw 19 rfl) (tw hw 20 rfl) (tw hw 21 rfl) (by decide) (rm4_21 l Z a0 hw [] r89 we kc89 kd89 (fun i => .ref (r89 + 1 + i)) (wb.toNatClampNeg) x89_0 h89 n0 Zs90 V89 hcd92 (congrArg Value.ref ex89_0.symm) Vx89_0) (g := (mkF m 73 #[.val (.int p0), .val (.int p1), .val (.int p2), .val (.int p3), .val (.int (2 : Int32)), .val (.int wb), .val (.int (1 : Int32)), .val (.int we), .val (.ref b85), .val (.ref r89), .val (.ref r89), .unset] [(.int we), (.int (1 : Int32)), (.ref r89)])) rfl (by rw [hml]; rfl) (argsL := [(.ref r89), (.int (1 : Int32)), (.int we)]) (rest := []) (lenOf pd3 rfl) rfl (hb hby at_73) rfl (by decide) (Nat.le_of_ble_eq_true rfl) (k' := 7) (n' := 25) rfl rfl (by decide) (by decide)
        refine Go.by st93 ?_
        obtain ⟨rfl, rfl⟩ := q93
        show Go p.tables e below _ (T93.setTop (mkF m 76 #[.val (.int p0), .val (.int p1), .val (.int p2), .val (.int p3), .val (.int (2 : Int32)), .val (.int wb), .val (.int (1 : Int32)), .val (.int we), .val (.ref b85), .val (.ref r89), .val (.ref r89), .unset] [(.int (1 : Int32))]))
        refine Go.by (fun _ => XS.ifYes X93.here hx rfl (pc0 := 76) (pc' := 81) rfl (hb hby at_76) rfl ((if0 _ _).trans (feq (by decide)).2) (by decide) (by decide)) ?_
        show Go p.tables e below _ (T93.setTop (mkF m 81 #[.val (.int p0), .val (.int p1), .val (.int p2), .val (.int p3), .val (.int (2 : Int32)), .val (.int wb), .val (.int (1 : Int32)), .val (.int we), .val (.ref b85), .val (.ref r89), .val (.ref r89), .unset] []))
        refine Go.by (fun _ => XS.iload X93.here hx rfl (hb hby at_81) rfl) ?_
        refine Go.by (fun _ => XS.iload X93.here hx rfl (hb hby at_83) rfl) ?_
        refine Go.by (fun _ => XS.icmpNo X93.here hx rfl (hb hby at_85) rfl (flt (by decide)).2.2.1) ?_
        show Go p.tables e below _ (T93.setTop (mkF m 88 #[.val (.int p0), .val (.int p1), .val (.int p2), .val (.int p3), .val (.int (2 : Int32)), .val (.int wb), .val (.int (1 : Int32)), .val (.int we), .val (.ref b85), .val (.ref r89), .val (.ref r89), .unset] []))
        refine Go.by (fun _ => XS.iload X93.here hx rfl (hb hby at_88) rfl) ?_
        show Go p.tables e below _ (T93.setTop (mkF m 90 #[.val (.int p0), .val (.int p1), .val (.int p2), .val (.int p3), .val (.int (2 : Int32)), .val (.int wb), .val (.int (1 : Int32)), .val (.int we), .val (.ref b85), .val (.ref r89), .val (.ref r89), .unset] [(.int (1 : Int32))]))
        refine Go.by (fun _ => XS.ifNo X93.here hx rfl (hb hby at_90) rfl ((if0 _ _).trans (feq (by decide)).1)) ?_
        show Go p.tables e below _ (T93.setTop (mkF m 93 #[.val (.int p0), .val (.int p1), .val (.int p2), .val (.int p3), .val (.int (2 : Int32)), .val (.int wb), .val (.int (1 : Int32)), .val (.int we), .val (.ref b85), .val (.ref r89), .val (.ref r89), .unset] []))
        refine Go.by (fun _ => XS.iload X93.here hx rfl (hb hby at_93) rfl) ?_
        refine Go.by (fun _ => XS.iload X93.here hx rfl (hb hby at_95) rfl) ?_
        refine Go.by (fun _ => XS.icmpNo X93.here hx rfl (hb hby at_97) rfl (teq (hcd92.symm.trans (back32 hw_wb.1).1)).2) ?_
        show Go p.tables e below _ (T93.setTop (mkF m 100 #[.val (.int p0), .val (.int p1), .val (.int p2), .val (.int p3), .val (.int (2 : Int32)), .val (.int wb), .val (.int (1 : Int32)), .val (.int we), .val (.ref b85), .val (.ref r89), .val (.ref r89), .unset] []))
        refine Go.by (fun _ => XS.iconst X93.here hx rfl (hb hby at_100)) ?_
        refine Go.by (fun _ => XS.goto X93.here hx rfl (pc0 := 101) (pc' := 105) rfl (hb hby at_101) (by decide) (by decide)) ?_
        show Go p.tables e below _ (T93.setTop (mkF m 105 #[.val (.int p0), .val (.int p1), .val (.int p2), .val (.int p3), .val (.int (2 : Int32)), .val (.int wb), .val (.int (1 : Int32)), .val (.int we), .val (.ref b85), .val (.ref r89), .val (.ref r89), .unset] [(.int (1 : Int32))]))
        refine Go.by (fun _ => XS.istore X93.here hx rfl (hb hby at_105) rfl (l' := #[.val (.int p0), .val (.int p1), .val (.int p2), .val (.int p3), .val (.int (2 : Int32)), .val (.int wb), .val (.int (1 : Int32)), .val (.int we), .val (.ref b85), .val (.ref r89), .val (.ref r89), .val (.int (1 : Int32))]) rfl) ?_
        show Go p.tables e below _ (T93.setTop (mkF m 107 #[.val (.int p0), .val (.int p1), .val (.int p2), .val (.int p3), .val (.int (2 : Int32)), .val (.int wb), .val (.int (1 : Int32)), .val (.int we), .val (.ref b85), .val (.ref r89), .val (.ref r89), .val (.int (1 : Int32))] []))
        refine Go.by (fun _ => XS.iload X93.here hx rfl (hb hby at_107) rfl) ?_
        refine Go.by (fun _ => XS.ifNo X93.here hx rfl (hb hby at_109) rfl ((if0 _ _).trans (feq (by decide)).1)) ?_
        show Go p.tables e below _ (T93.setTop (mkF m 112 #[.val (.int p0), .val (.int p1), .val (.int p2), .val (.int p3), .val (.int (2 : Int32)), .val (.int wb), .val (.int (1 : Int32)), .val (.int we), .val (.ref b85), .val (.ref r89), .val (.ref r89), .val (.int (1 : Int32))] []))
        refine Go.by (fun _ => XS.aload X93.here hx rfl (hb hby at_112) rfl rfl) ?_
        show Go p.tables e below _ (T93.setTop (mkF m 114 #[.val (.int p0), .val (.int p1), .val (.int p2), .val (.int p3), .val (.int (2 : Int32)), .val (.int wb), .val (.int (1 : Int32)), .val (.int we), .val (.ref b85), .val (.ref r89), .val (.ref r89), .val (.int (1 : Int32))] [(.ref r89)]))
        refine Go.by (fun _ => XS.aload X93.here hx rfl (hb hby at_114) rfl rfl) ?_
        refine Go.by (X93.acmp (g := (mkF m 116 #[.val (.int p0), .val (.int p1), .val (.int p2), .val (.int p3), .val (.int (2 : Int32)), .val (.int wb), .val (.int (1 : Int32)), .val (.int we), .val (.ref b85), .val (.ref r89), .val (.ref r89), .val (.int (1 : Int32))] [(.ref r89), (.ref r89)])) hx rfl rfl rfl (pc0 := 116) (pc' := 121) (same := true) rfl (hb hby at_116) rfl (decide_eq_true rfl) (by decide) (by decide)) ?_
        show Go p.tables e below _ (T93.setTop (mkF m 121 #[.val (.int p0), .val (.int p1), .val (.int p2), .val (.int p3), .val (.int (2 : Int32)), .val (.int wb), .val (.int (1 : Int32)), .val (.int we), .val (.ref b85), .val (.ref r89), .val (.ref r89), .val (.int (1 : Int32))] []))
        refine Go.by (fun _ => XS.iconst X93.here hx rfl (hb hby at_121)) ?_
        exact Go.retN X93 hx hlk (z' := (1 : Int32)) hret (by simp) (hb hby at_122) rfl (by decide) (by decide) rfl
      · skip
        have g_r92 : n0 ≤ r92 := Nat.le_trans Zs90 sr92
        have ne_b85_r92 : b85 ≠ r92 := Nat.ne_of_lt (Nat.lt_of_lt_of_le Ex89.lt sr92)
        obtain ⟨x92_0, ex92_0⟩ : ∃ z, z = r92 + 1 + 0 := ⟨_, rfl⟩
        have Vx92_0 := VV92 0 (by decide)
        rw [← ex92_0] at Vx92_0
        have sx92_0 : h89.size ≤ x92_0 := by rw [ex92_0]; exact Nat.le_trans sr92 (Nat.le_trans (Nat.le_add_right _ 1) (Nat.le_add_right _ 0))
        have g_x92_0 : n0 ≤ x92_0 := Nat.le_trans Zs90 sx92_0
        have ne_b85_x92_0 : b85 ≠ x92_0 := Nat.ne_of_lt (Nat.lt_of_lt_of_le Ex89.lt sx92_0)
        have f94_1009 := Ex89.keep K92
        have Zs94 : n0 ≤ h92.size := Nat.le_trans Zs90 K92.1
        show Go p.tables e below _ (T92.setTop (mkF m 65 #[.val (.int p0), .val (.int p1), .val (.int p2), .val (.int p3), .val (.int (2 : Int32)), .val (.int wb), .val (.int (1 : Int32)), .val (.int we), .val (.ref b85), .val (.ref r89), .unset, .unset] [(.ref r92)]))
        refine Go.by (fun _ => XS.astore X92.here hx rfl (hb hby at_65) rfl rfl (l' := #[.val (.int p0), .val (.int p1), .val (.int p2), .val (.int p3), .val (.int (2 : Int32)), .val (.int wb), .val (.int (1 : Int32)), .val (.int we), .val (.ref b85), .val (.ref r89), .val (.ref r92), .unset]) rfl) ?_
        show Go p.tables e below _ (T92.setTop (mkF m 67 #[.val (.int p0), .val (.int p1), .val (.int p2), .val (.int p3), .val (.int (2 : Int32)), .val (.int wb), .val (.int (1 : Int32)), .val (.int we), .val (.ref b85), .val (.ref r89), .val (.ref r92), .unset] []))
        refine Go.by (fun _ => XS.aload X92.here hx rfl (hb hby at_67) rfl rfl) ?_
        refine Go.by (fun _ => XS.iload X92.here hx rfl (hb hby at_69) rfl) ?_
        refine Go.by (fun _ => XS.iload X92.here hx rfl (hb hby at_71) rfl) ?_
        show Go p.tables e below _ (T92.setTop (mkF m 73 #[.val (.int p0), .val (.int p1), .val (.int p2), .val (.int p3), .val (.int (2 : Int32)), .val (.int wb), .val (.int (1 : Int32)), .val (.int we), .val (.ref b85), .val (.ref r89), .val (.ref r92), .unset] [(.int we), (.int (1 : Int32)), (.ref r92)]))
        obtain ⟨v95, T95, h95, X95, q95, st95⟩ := X92.callS hx hZ (y := (⟨"com/example/bitstrata/bitstrata/bitmap/WorkspaceVectorsPinLaw", "shaped", "([[JII)Z"⟩ : MethodName)) hown (tw hw 18 rfl) (tw hw 19 rfl) (tw hw 20 rfl) (tw hw 21 rfl) (by decide) (rm4_11 l Z a0 hw [] r92 we kc92 kd92 (fun i => .ref (r92 + 1 + i)) (we.toNatClampNeg) x92_0 h92 n0 Zs94 V92 (back32 hw_we.1).1 (congrArg Value.ref ex92_0.symm) Vx92_0) (g := (mkF m 73 #[.val (.int p0), .val (.int p1), .val (.int p2), .val (.int p3), .val (.int (2 : Int32)), .val (.int wb), .val (.int (1 : Int32)), .val (.int we), .val (.ref b85), .val (.ref r89), .val (.ref r92), .unset] [(.int we), (.int (1 : Int32)), (.ref r92)])) rfl (by rw [hml]; rfl) (argsL := [(.ref r92), (.int (1 : Int32)), (.int we)]) (rest := []) (lenOf pd3 rfl) rfl (hb hby at_73) rfl (by decide) (Nat.le_of_ble_eq_true rfl) (k' := 7) (n' := 25) rfl rfl (by decide) (by decide)
        refine Go.by st95 ?_
        obtain ⟨rfl, rfl⟩ := q95
        show Go p.tables e below _ (T95.setTop (mkF m 76 #[.val (.int p0), .val (.int p1), .val (.int p2), .val (.int p3), .val (.int (2 : Int32)), .val (.int wb), .val (.int (1 : Int32)), .val (.int we), .val (.ref b85), .val (.ref r89), .val (.ref r92), .unset] [(.int (1 : Int32))]))
        refine Go.by (fun _ => XS.ifYes X95.here hx rfl (pc0 := 76) (pc' := 81) rfl (hb hby at_76) rfl ((if0 _ _).trans (feq (by decide)).2) (by decide) (by decide)) ?_
        show Go p.tables e below _ (T95.setTop (mkF m 81 #[.val (.int p0), .val (.int p1), .val (.int p2), .val (.int p3), .val (.int (2 : Int32)), .val (.int wb), .val (.int (1 : Int32)), .val (.int we), .val (.ref b85), .val (.ref r89), .val (.ref r92), .unset] []))
        refine Go.by (fun _ => XS.iload X95.here hx rfl (hb hby at_81) rfl) ?_
        refine Go.by (fun _ => XS.iload X95.here hx rfl (hb hby at_83) rfl) ?_
        refine Go.by (fun _ => XS.icmpNo X95.here hx rfl (hb hby at_85) rfl (flt (by decide)).2.2.1) ?_
        show Go p.tables e below _ (T95.setTop (mkF m 88 #[.val (.int p0), .val (.int p1), .val (.int p2), .val (.int p3), .val (.int (2 : Int32)), .val (.int wb), .val (.int (1 : Int32)), .val (.int we), .val (.ref b85), .val (.ref r89), .val (.ref r92), .unset] []))
        refine Go.by (fun _ => XS.iload X95.here hx rfl (hb hby at_88) rfl) ?_
        refine Go.by (fun _ => XS.ifNo X95.here hx rfl (hb hby at_90) rfl ((if0 _ _).trans (feq (by decide)).1)) ?_
        show Go p.tables e below _ (T95.setTop (mkF m 93 #[.val (.int p0), .val (.int p1), .val (.int p2), .val (.int p3), .val (.int (2 : Int32)), .val (.int wb), .val (.int (1 : Int32)), .val (.int we), .val (.ref b85), .val (.ref r89), .val (.ref r92), .unset] []))
        refine Go.by (fun _ => XS.iload X95.here hx rfl (hb hby at_93) rfl) ?_
        refine Go.by (fun _ => XS.iload X95.here hx rfl (hb hby at_95) rfl) ?_
        refine Go.by (fun _ => XS.icmpYes X95.here hx rfl (pc0 := 97) (pc' := 104) rfl (hb hby at_97) rfl (feq (fun q => hcd92 ((back32 hw_wb.1).1.trans q.symm))).2 (by decide) (by decide)) ?_
        show Go p.tables e below _ (T95.setTop (mkF m 104 #[.val (.int p0), .val (.int p1), .val (.int p2), .val (.int p3), .val (.int (2 : Int32)), .val (.int wb), .val (.int (1 : Int32)), .val (.int we), .val (.ref b85), .val (.ref r89), .val (.ref r92), .unset] []))
        refine Go.by (fun _ => XS.iconst X95.here hx rfl (hb hby at_104)) ?_
        show Go p.tables e below _ (T95.setTop (mkF m 105 #[.val (.int p0), .val (.int p1), .val (.int p2), .val (.int p3), .val (.int (2 : Int32)), .val (.int wb), .val (.int (1 : Int32)), .val (.int we), .val (.ref b85), .val (.ref r89), .val (.ref r92), .unset] [(.int (0 : Int32))]))
        refine Go.by (fun _ => XS.istore X95.here hx rfl (hb hby at_105) rfl (l' := #[.val (.int p0), .val (.int p1), .val (.int p2), .val (.int p3), .val (.int (2 : Int32)), .val (.int wb), .val (.int (1 : Int32)), .val (.int we), .val (.ref b85), .val (.ref r89), .val (.ref r92), .val (.int (0 : Int32))]) rfl) ?_
        show Go p.tables e below _ (T95.setTop (mkF m 107 #[.val (.int p0), .val (.int p1), .val (.int p2), .val (.int p3), .val (.int (2 : Int32)), .val (.int wb), .val (.int (1 : Int32)), .val (.int we), .val (.ref b85), .val (.ref r89), .val (.ref r92), .val (.int (0 : Int32))] []))
        refine Go.by (fun _ => XS.iload X95.here hx rfl (hb hby at_107) rfl) ?_
        refine Go.by (fun _ => XS.ifYes X95.here hx rfl (pc0 := 109) (pc' := 121) rfl (hb hby at_109) rfl ((if0 _ _).trans (teq (by decide)).1) (by decide) (by decide)) ?_
        show Go p.tables e below _ (T95.setTop (mkF m 121 #[.val (.int p0), .val (.int p1), .val (.int p2), .val (.int p3), .val (.int (2 : Int32)), .val (.int wb), .val (.int (1 : Int32)), .val (.int we), .val (.ref b85), .val (.ref r89), .val (.ref r92), .val (.int (0 : Int32))] []))
        refine Go.by (fun _ => XS.iconst X95.here hx rfl (hb hby at_121)) ?_
        exact Go.retN X95 hx hlk (z' := (1 : Int32)) hret (by simp) (hb hby at_122) rfl (by decide) (by decide) rfl
    · rw [ec]
      show Go p.tables e below _ (T0.setTop (mkF m 22 #[.val (.int p0), .val (.int p1), .val (.int p2), .val (.int p3), .val (.int (2 : Int32)), .val (.int wb), .val (.int (2 : Int32)), .val (.int we), .unset, .unset, .unset, .unset] []))
      obtain ⟨T96, h96, b96, X96, g96, E96, A96, D96, st96⟩ := X0.newO hx hZ hown (tw hw 0 rfl) (tw hw 1 rfl) (tw hw 2 rfl) (g := (mkF m 22 #[.val (.int p0), .val (.int p1), .val (.int p2), .val (.int p3), .val (.int (2 : Int32)), .val (.int wb), .val (.int (2 : Int32)), .val (.int we), .unset, .unset, .unset, .unset] [])) rfl (hb hby at_22) (k' := 1) (n' := 1) rfl rfl (by decide) (by decide)
      have g_b96 : n0 ≤ b96 := by rw [g96]; exact Z0
      have Zs97 : n0 ≤ h96.size := Nat.le_trans Z0 E96.1
      have F96_vectors : Fld Z h96 b96 "com/example/bitstrata/bitstrata/bitmap/Formula$Workspace" "vectors" "[[J" .null := D96 (Or.inl (tw hw 12 rfl)) (ty := (.array (.array .long))) (by decide)
      refine Go.by st96 ?_
      show Go p.tables e below _ (T96.setTop (mkF m 25 #[.val (.int p0), .val (.int p1), .val (.int p2), .val (.int p3), .val (.int (2 : Int32)), .val (.int wb), .val (.int (2 : Int32)), .val (.int we), .unset, .unset, .unset, .unset] [(.ref b96)]))
      refine Go.by (fun _ => XS.dup X96.here hx rfl (hb hby at_25) rfl rfl) ?_
      obtain ⟨v98, T98, h98, X98, q98, st98⟩ := X96.callI hx hZ (y := (⟨"com/example/bitstrata/bitstrata/bitmap/Formula$Workspace", "<init>", "()V"⟩ : MethodName)) rfl hown (tw hw 3 rfl) (tw hw 4 rfl) (tw hw 2 rfl) (tw hw 5 rfl) (by decide) (rm1 l Z a0 hw [] b96 h96 n0 Zs97 A96 g_b96 F96_vectors) (g := (mkF m 26 #[.val (.int p0), .val (.int p1), .val (.int p2), .val (.int p3), .val (.int (2 : Int32)), .val (.int wb), .val (.int (2 : Int32)), .val (.int we), .unset, .unset, .unset, .unset] [(.ref b96), (.ref b96)])) rfl (by rw [hml]; rfl) (argsL := []) (rest := [(.ref b96)]) (lenOf pd1 rfl) rfl (hb hby at_26) rfl (by decide) (Nat.le_of_ble_eq_true rfl) (k' := 2) (n' := 1) rfl rfl (by decide) (by decide)
      refine Go.by st98 ?_
      obtain ⟨o98, kO98, rfl, so98, K98, Ex98, Fv98, V98⟩ := q98
      have g_o98 : n0 ≤ o98 := Nat.le_trans Zs97 so98
      have ne_b96_o98 : b96 ≠ o98 := Nat.ne_of_lt (Nat.lt_of_lt_of_le A96.lt so98)
      have f99_1058 := A96.keep K98
      have Zs99 : n0 ≤ h98.size := Nat.le_trans Zs97 K98.1
      show Go p.tables e below _ (T98.setTop (mkF m 29 #[.val (.int p0), .val (.int p1), .val (.int p2), .val (.int p3), .val (.int (2 : Int32)), .val (.int wb), .val (.int (2 : Int32)), .val (.int we), .unset, .unset, .unset, .unset] [(.ref b96)]))
      refine Go.by (fun _ => XS.astore X98.here hx rfl (hb hby at_29) rfl rfl (l' := #[.val (.int p0), .val (.int p1), .val (.int p2), .val (.int p3), .val (.int (2 : Int32)), .val (.int wb), .val (.int (2 : Int32)), .val (.int we), .val (.ref b96), .unset, .unset, .unset]) rfl) ?_
      show Go p.tables e below _ (T98.setTop (mkF m 31 #[.val (.int p0), .val (.int p1), .val (.int p2), .val (.int p3), .val (.int (2 : Int32)), .val (.int wb), .val (.int (2 : Int32)), .val (.int we), .val (.ref b96), .unset, .unset, .unset] []))
      refine Go.by (fun _ => XS.aload X98.here hx rfl (hb hby at_31) rfl rfl) ?_
      refine Go.by (fun _ => XS.iload X98.here hx rfl (hb hby at_33) rfl) ?_
      refine Go.by (fun _ => XS.iload X98.here hx rfl (hb hby at_35) rfl) ?_
      obtain ⟨v100, T100, h100, X100, q100, st100⟩ := X98.callV hx hZ (y := (⟨"com/example/bitstrata/bitstrata/bitmap/Formula$Workspace", "vectors", "(II)[[J"⟩ : MethodName)) (z := (⟨"com/example/bitstrata/bitstrata/bitmap/Formula$Workspace", "vectors", "(II)[[J"⟩ : MethodName)) hown (tw hw 13 rfl) (tw hw 14 rfl) (notFace_of_selects (args := #[]) (mvT hZ (tw hw 16 rfl))) (tw hw 16 rfl) (tw hw 15 rfl) (tw hw 2 rfl) (tw hw 17 rfl) (by decide) (rm3_02 l Z a0 hw [] b96 wb o98 kO98 (fun _ => .null) h98 n0 Zs99 Ex98 g_b96 Fv98 V98 hw_wb.1 hw_wb.2) Ex98 (g := (mkF m 37 #[.val (.int p0), .val (.int p1), .val (.int p2), .val (.int p3), .val (.int (2 : Int32)), .val (.int wb), .val (.int (2 : Int32)), .val (.int we), .val (.ref b96), .unset, .unset, .unset] [(.int wb), (.int (2 : Int32)), (.ref b96)])) rfl (by rw [hml]; rfl) (argsL := [(.int (2 : Int32)), (.int wb)]) (rest := []) (lenOf pd2 rfl) rfl (hb hby at_37) rfl (by decide) (Nat.le_of_ble_eq_true rfl) (k' := 5) (n' := 17) rfl rfl (by decide) (by decide)
      refine Go.by st100 ?_
      obtain ⟨r100, kc100, kd100, rfl, sr100, K100, Ex100, Fv100, V100, VV100⟩ := q100
      have g_r100 : n0 ≤ r100 := Nat.le_trans Zs99 sr100
      have ne_b96_r100 : b96 ≠ r100 := Nat.ne_of_lt (Nat.lt_of_lt_of_le Ex98.lt sr100)
      obtain ⟨x100_0, ex100_0⟩ : ∃ z, z = r100 + 1 + 0 := ⟨_, rfl⟩
      have Vx100_0 := VV100 0 (by decide)
      rw [← ex100_0] at Vx100_0
      have sx100_0 : h98.size ≤ x100_0 := by rw [ex100_0]; exact Nat.le_trans sr100 (Nat.le_trans (Nat.le_add_right _ 1) (Nat.le_add_right _ 0))
      have g_x100_0 : n0 ≤ x100_0 := Nat.le_trans Zs99 sx100_0
      have ne_b96_x100_0 : b96 ≠ x100_0 := Nat.ne_of_lt (Nat.lt_of_lt_of_le Ex98.lt sx100_0)
      obtain ⟨x100_1, ex100_1⟩ : ∃ z, z = r100 + 1 + 1 := ⟨_, rfl⟩
      have Vx100_1 := VV100 1 (by decide)
      rw [← ex100_1] at Vx100_1
      have sx100_1 : h98.size ≤ x100_1 := by rw [ex100_1]; exact Nat.le_trans sr100 (Nat.le_trans (Nat.le_add_right _ 1) (Nat.le_add_right _ 1))
      have g_x100_1 : n0 ≤ x100_1 := Nat.le_trans Zs99 sx100_1
      have ne_b96_x100_1 : b96 ≠ x100_1 := Nat.ne_of_lt (Nat.lt_of_lt_of_le Ex98.lt sx100_1)
      have f101_1083 := Ex98.keep K100
      have Zs101 : n0 ≤ h100.size := Nat.le_trans Zs99 K100.1
      have nx100_01 : x100_0 ≠ x100_1 := by rw [ex100_0, ex100_1]; exact fun q => absurd (Nat.add_left_cancel q) (by decide)
      show Go p.tables e below _ (T100.setTop (mkF m 40 #[.val (.int p0), .val (.int p1), .val (.int p2), .val (.int p3), .val (.int (2 : Int32)), .val (.int wb), .val (.int (2 : Int32)), .val (.int we), .val (.ref b96), .unset, .unset, .unset] [(.ref r100)]))
      refine Go.by (fun _ => XS.astore X100.here hx rfl (hb hby at_40) rfl rfl (l' := #[.val (.int p0), .val (.int p1), .val (.int p2), .val (.int p3), .val (.int (2 : Int32)), .val (.int wb), .val (.int (2 : Int32)), .val (.int we), .val (.ref b96), .val (.ref r100), .unset, .unset]) rfl) ?_
      show Go p.tables e below _ (T100.setTop (mkF m 42 #[.val (.int p0), .val (.int p1), .val (.int p2), .val (.int p3), .val (.int (2 : Int32)), .val (.int wb), .val (.int (2 : Int32)), .val (.int we), .val (.ref b96), .val (.ref r100), .unset, .unset] []))
      refine Go.by (fun _ => XS.aload X100.here hx rfl (hb hby at_42) rfl rfl) ?_
      refine Go.by (fun _ => XS.iload X100.here hx rfl (hb hby at_44) rfl) ?_
      show Go p.tables e below _ (T100.setTop (mkF m 46 #[.val (.int p0), .val (.int p1), .val (.int p2), .val (.int p3), .val (.int (2 : Int32)), .val (.int wb), .val (.int (2 : Int32)), .val (.int we), .val (.ref b96), .val (.ref r100), .unset, .unset] [(.int (2 : Int32)), (.ref r100)]))
      refine Go.by (fun _ => XS.iload X100.here hx rfl (hb hby at_46) rfl) ?_
      obtain ⟨v102, T102, h102, X102, q102, st102⟩ := X100.callS hx hZ (y := (⟨"com/example/bitstrata/bitstrata/bitmap/WorkspaceVectorsPinLaw", "shaped", "([[JII)Z"⟩ : MethodName)) hown (tw hw 18 rfl) (tw hw 19 rfl) (tw hw 20 rfl) (tw hw 21 rfl) (by decide) (rm4_22 l Z a0 hw [] r100 wb kc100 kd100 (fun i => .ref (r100 + 1 + i)) (wb.toNatClampNeg) x100_0 x100_1 h100 n0 Zs101 V100 (back32 hw_wb.1).1 (congrArg Value.ref ex100_0.symm) Vx100_0 (congrArg Value.ref ex100_1.symm) Vx100_1 nx100_01) (g := (mkF m 48 #[.val (.int p0), .val (.int p1), .val (.int p2), .val (.int p3), .val (.int (2 : Int32)), .val (.int wb), .val (.int (2 : Int32)), .val (.int we), .val (.ref b96), .val (.ref r100), .unset, .unset] [(.int wb), (.int (2 : Int32)), (.ref r100)])) rfl (by rw [hml]; rfl) (argsL := [(.ref r100), (.int (2 : Int32)), (.int wb)]) (rest := []) (lenOf pd3 rfl) rfl (hb hby at_48) rfl (by decide) (Nat.le_of_ble_eq_true rfl) (k' := 5) (n' := 17) rfl rfl (by decide) (by decide)
      refine Go.by st102 ?_
      obtain ⟨rfl, rfl⟩ := q102
      show Go p.tables e below _ (T102.setTop (mkF m 51 #[.val (.int p0), .val (.int p1), .val (.int p2), .val (.int p3), .val (.int (2 : Int32)), .val (.int wb), .val (.int (2 : Int32)), .val (.int we), .val (.ref b96), .val (.ref r100), .unset, .unset] [(.int (1 : Int32))]))
      refine Go.by (fun _ => XS.ifYes X102.here hx rfl (pc0 := 51) (pc' := 56) rfl (hb hby at_51) rfl ((if0 _ _).trans (feq (by decide)).2) (by decide) (by decide)) ?_
      show Go p.tables e below _ (T102.setTop (mkF m 56 #[.val (.int p0), .val (.int p1), .val (.int p2), .val (.int p3), .val (.int (2 : Int32)), .val (.int wb), .val (.int (2 : Int32)), .val (.int we), .val (.ref b96), .val (.ref r100), .unset, .unset] []))
      refine Go.by (fun _ => XS.aload X102.here hx rfl (hb hby at_56) rfl rfl) ?_
      refine Go.by (fun _ => XS.iload X102.here hx rfl (hb hby at_58) rfl) ?_
      refine Go.by (fun _ => XS.iload X102.here hx rfl (hb hby at_60) rfl) ?_
      obtain ⟨v103, T103, h103, X103, q103, st103⟩ := X102.callV hx hZ (y := (⟨"com/example/bitstrata/bitstrata/bitmap/Formula$Workspace", "vectors", "(II)[[J"⟩ : MethodName)) (z := (⟨"com/example/bitstrata/bitstrata/bitmap/Formula$Workspace", "vectors", "(II)[[J"⟩ : MethodName)) hown (tw hw 13 rfl) (tw hw 14 rfl) (notFace_of_selects (args := #[]) (mvT hZ (tw hw 16 rfl))) (tw hw 16 rfl) (tw hw 15 rfl) (tw hw 2 rfl) (tw hw 17 rfl) (by decide) (rm3_22 l Z a0 hw [] b96 we r100 kc100 (fun i => .ref (r100 + 1 + i)) x100_0 kd100 (wb.toNatClampNeg) h100 n0 Zs101 Ex100 g_b96 Fv100 V100 hw_we.1 hw_we.2 (congrArg Value.ref ex100_0.symm) Vx100_0) Ex100 (g := (mkF m 62 #[.val (.int p0), .val (.int p1), .val (.int p2), .val (.int p3), .val (.int (2 : Int32)), .val (.int wb), .val (.int (2 : Int32)), .val (.int we), .val (.ref b96), .val (.ref r100), .unset, .unset] [(.int we), (.int (2 : Int32)), (.ref b96)])) rfl (by rw [hml]; rfl) (argsL := [(.int (2 : Int32)), (.int we)]) (rest := []) (lenOf pd2 rfl) rfl (hb hby at_62) rfl (by decide) (Nat.le_of_ble_eq_true rfl) (k' := 8) (n' := 33) rfl rfl (by decide) (by decide)
      refine Go.by st103 ?_
      rcases q103 with ⟨hcd103, rfl, rfl⟩ | ⟨hcd103, ⟨r103, kc103, kd103, rfl, sr103, K103, Ex103, Fv103, V103, VV103⟩⟩
      · skip
        show Go p.tables e below _ (T103.setTop (mkF m 65 #[.val (.int p0), .val (.int p1), .val (.int p2), .val (.int p3), .val (.int (2 : Int32)), .val (.int wb), .val (.int (2 : Int32)), .val (.int we), .val (.ref b96), .val (.ref r100), .unset, .unset] [(.ref r100)]))
        refine Go.by (fun _ => XS.astore X103.here hx rfl (hb hby at_65) rfl rfl (l' := #[.val (.int p0), .val (.int p1), .val (.int p2), .val (.int p3), .val (.int (2 : Int32)), .val (.int wb), .val (.int (2 : Int32)), .val (.int we), .val (.ref b96), .val (.ref r100), .val (.ref r100), .unset]) rfl) ?_
        show Go p.tables e below _ (T103.setTop (mkF m 67 #[.val (.int p0), .val (.int p1), .val (.int p2), .val (.int p3), .val (.int (2 : Int32)), .val (.int wb), .val (.int (2 : Int32)), .val (.int we), .val (.ref b96), .val (.ref r100), .val (.ref r100), .unset] []))
        refine Go.by (fun _ => XS.aload X103.here hx rfl (hb hby at_67) rfl rfl) ?_
        show Go p.tables e below _ (T103.setTop (mkF m 69 #[.val (.int p0), .val (.int p1), .val (.int p2), .val (.int p3), .val (.int (2 : Int32)), .val (.int wb), .val (.int (2 : Int32)), .val (.int we), .val (.ref b96), .val (.ref r100), .val (.ref r100), .unset] [(.ref r100)]))
        refine Go.by (fun _ => XS.iload X103.here hx rfl (hb hby at_69) rfl) ?_
        refine Go.by (fun _ => XS.iload X103.here hx rfl (hb hby at_71) rfl) ?_
        obtain ⟨v104, T104, h104, X104, q104, st104⟩ := X103.callS hx hZ (y := (⟨"com/example/bitstrata/bitstrata/bitmap/WorkspaceVectorsPinLaw", "shaped", "([[JII)Z"⟩ : MethodName)) hown (tw hw 18 rfl) (tw hw 19 rfl) (tw hw 20 rfl) (tw hw 21 rfl) (by decide) (rm4_22 l Z a0 hw [] r100 we kc100 kd100 (fun i => .ref (r100 + 1 + i)) (wb.toNatClampNeg) x100_0 x100_1 h100 n0 Zs101 V100 hcd103 (congrArg Value.ref ex100_0.symm) Vx100_0 (congrArg Value.ref ex100_1.symm) Vx100_1 nx100_01) (g := (mkF m 73 #[.val (.int p0), .val (.int p1), .val (.int p2), .val (.int p3), .val (.int (2 : Int32)), .val (.int wb), .val (.int (2 : Int32)), .val (.int we), .val (.ref b96), .val (.ref r100), .val (.ref r100), .unset] [(.int we), (.int (2 : Int32)), (.ref r100)])) rfl (by rw [hml]; rfl) (argsL := [(.ref r100), (.int (2 : Int32)), (.int we)]) (rest := []) (lenOf pd3 rfl) rfl (hb hby at_73) rfl (by decide) (Nat.le_of_ble_eq_true rfl) (k' := 8) (n' := 33) rfl rfl (by decide) (by decide)
        refine Go.by st104 ?_
        obtain ⟨rfl, rfl⟩ := q104
        show Go p.tables e below _ (T104.setTop (mkF m 76 #[.val (.int p0), .val (.int p1), .val (.int p2), .val (.int p3), .val (.int (2 : Int32)), .val (.int wb), .val (.int (2 : Int32)), .val (.int we), .val (.ref b96), .val (.ref r100), .val (.ref r100), .unset] [(.int (1 : Int32))]))
        refine Go.by (fun _ => XS.ifYes X104.here hx rfl (pc0 := 76) (pc' := 81) rfl (hb hby at_76) rfl ((if0 _ _).trans (feq (by decide)).2) (by decide) (by decide)) ?_
        show Go p.tables e below _ (T104.setTop (mkF m 81 #[.val (.int p0), .val (.int p1), .val (.int p2), .val (.int p3), .val (.int (2 : Int32)), .val (.int wb), .val (.int (2 : Int32)), .val (.int we), .val (.ref b96), .val (.ref r100), .val (.ref r100), .unset] []))
        refine Go.by (fun _ => XS.iload X104.here hx rfl (hb hby at_81) rfl) ?_
        refine Go.by (fun _ => XS.iload X104.here hx rfl (hb hby at_83) rfl) ?_
        refine Go.by (fun _ => XS.icmpNo X104.here hx rfl (hb hby at_85) rfl (flt (by decide)).2.2.1) ?_
        show Go p.tables e below _ (T104.setTop (mkF m 88 #[.val (.int p0), .val (.int p1), .val (.int p2), .val (.int p3), .val (.int (2 : Int32)), .val (.int wb), .val (.int (2 : Int32)), .val (.int we), .val (.ref b96), .val (.ref r100), .val (.ref r100), .unset] []))
        refine Go.by (fun _ => XS.iload X104.here hx rfl (hb hby at_88) rfl) ?_
        refine Go.by (fun _ => XS.ifNo X104.here hx rfl (hb hby at_90) rfl ((if0 _ _).trans (feq (by decide)).1)) ?_
        show Go p.tables e below _ (T104.setTop (mkF m 93 #[.val (.int p0), .val (.int p1), .val (.int p2), .val (.int p3), .val (.int (2 : Int32)), .val (.int wb), .val (.int (2 : Int32)), .val (.int we), .val (.ref b96), .val (.ref r100), .val (.ref r100), .unset] []))
        refine Go.by (fun _ => XS.iload X104.here hx rfl (hb hby at_93) rfl) ?_
        show Go p.tables e below _ (T104.setTop (mkF m 95 #[.val (.int p0), .val (.int p1), .val (.int p2), .val (.int p3), .val (.int (2 : Int32)), .val (.int wb), .val (.int (2 : Int32)), .val (.int we), .val (.ref b96), .val (.ref r100), .val (.ref r100), .unset] [(.int we)]))
        refine Go.by (fun _ => XS.iload X104.here hx rfl (hb hby at_95) rfl) ?_
        refine Go.by (fun _ => XS.icmpNo X104.here hx rfl (hb hby at_97) rfl (teq (hcd103.symm.trans (back32 hw_wb.1).1)).2) ?_
        show Go p.tables e below _ (T104.setTop (mkF m 100 #[.val (.int p0), .val (.int p1), .val (.int p2), .val (.int p3), .val (.int (2 : Int32)), .val (.int wb), .val (.int (2 : Int32)), .val (.int we), .val (.ref b96), .val (.ref r100), .val (.ref r100), .unset] []))
        refine Go.by (fun _ => XS.iconst X104.here hx rfl (hb hby at_100)) ?_
        refine Go.by (fun _ => XS.goto X104.here hx rfl (pc0 := 101) (pc' := 105) rfl (hb hby at_101) (by decide) (by decide)) ?_
        show Go p.tables e below _ (T104.setTop (mkF m 105 #[.val (.int p0), .val (.int p1), .val (.int p2), .val (.int p3), .val (.int (2 : Int32)), .val (.int wb), .val (.int (2 : Int32)), .val (.int we), .val (.ref b96), .val (.ref r100), .val (.ref r100), .unset] [(.int (1 : Int32))]))
        refine Go.by (fun _ => XS.istore X104.here hx rfl (hb hby at_105) rfl (l' := #[.val (.int p0), .val (.int p1), .val (.int p2), .val (.int p3), .val (.int (2 : Int32)), .val (.int wb), .val (.int (2 : Int32)), .val (.int we), .val (.ref b96), .val (.ref r100), .val (.ref r100), .val (.int (1 : Int32))]) rfl) ?_
        show Go p.tables e below _ (T104.setTop (mkF m 107 #[.val (.int p0), .val (.int p1), .val (.int p2), .val (.int p3), .val (.int (2 : Int32)), .val (.int wb), .val (.int (2 : Int32)), .val (.int we), .val (.ref b96), .val (.ref r100), .val (.ref r100), .val (.int (1 : Int32))] []))
        refine Go.by (fun _ => XS.iload X104.here hx rfl (hb hby at_107) rfl) ?_
        refine Go.by (fun _ => XS.ifNo X104.here hx rfl (hb hby at_109) rfl ((if0 _ _).trans (feq (by decide)).1)) ?_
        show Go p.tables e below _ (T104.setTop (mkF m 112 #[.val (.int p0), .val (.int p1), .val (.int p2), .val (.int p3), .val (.int (2 : Int32)), .val (.int wb), .val (.int (2 : Int32)), .val (.int we), .val (.ref b96), .val (.ref r100), .val (.ref r100), .val (.int (1 : Int32))] []))
        refine Go.by (fun _ => XS.aload X104.here hx rfl (hb hby at_112) rfl rfl) ?_
        refine Go.by (fun _ => XS.aload X104.here hx rfl (hb hby at_114) rfl rfl) ?_
        show Go p.tables e below _ (T104.setTop (mkF m 116 #[.val (.int p0), .val (.int p1), .val (.int p2), .val (.int p3), .val (.int (2 : Int32)), .val (.int wb), .val (.int (2 : Int32)), .val (.int we), .val (.ref b96), .val (.ref r100), .val (.ref r100), .val (.int (1 : Int32))] [(.ref r100), (.ref r100)]))
        refine Go.by (X104.acmp (g := (mkF m 116 #[.val (.int p0), .val (.int p1), .val (.int p2), .val (.int p3), .val (.int (2 : Int32)), .val (.int wb), .val (.int (2 : Int32)), .val (.int we), .val (.ref b96), .val (.ref r100), .val (.ref r100), .val (.int (1 : Int32))] [(.ref r100), (.ref r100)])) hx rfl rfl rfl (pc0 := 116) (pc' := 121) (same := true) rfl (hb hby at_116) rfl (decide_eq_true rfl) (by decide) (by decide)) ?_
        show Go p.tables e below _ (T104.setTop (mkF m 121 #[.val (.int p0), .val (.int p1), .val (.int p2), .val (.int p3), .val (.int (2 : Int32)), .val (.int wb), .val (.int (2 : Int32)), .val (.int we), .val (.ref b96), .val (.ref r100), .val (.ref r100), .val (.int (1 : Int32))] []))
        refine Go.by (fun _ => XS.iconst X104.here hx rfl (hb hby at_121)) ?_
        exact Go.retN X104 hx hlk (z' := (1 : Int32)) hret (by simp) (hb hby at_122) rfl (by decide) (by decide) rfl
      · skip
        have g_r103 : n0 ≤ r103 := Nat.le_trans Zs101 sr103
        have ne_b96_r103 : b96 ≠ r103 := Nat.ne_of_lt (Nat.lt_of_lt_of_le Ex100.lt sr103)
        obtain ⟨x103_0, ex103_0⟩ : ∃ z, z = r103 + 1 + 0 := ⟨_, rfl⟩
        have Vx103_0 := VV103 0 (by decide)
        rw [← ex103_0] at Vx103_0
        have sx103_0 : h100.size ≤ x103_0 := by rw [ex103_0]; exact Nat.le_trans sr103 (Nat.le_trans (Nat.le_add_right _ 1) (Nat.le_add_right _ 0))
        have g_x103_0 : n0 ≤ x103_0 := Nat.le_trans Zs101 sx103_0
        have ne_b96_x103_0 : b96 ≠ x103_0 := Nat.ne_of_lt (Nat.lt_of_lt_of_le Ex100.lt sx103_0)
        obtain ⟨x103_1, ex103_1⟩ : ∃ z, z = r103 + 1 + 1 := ⟨_, rfl⟩
        have Vx103_1 := VV103 1 (by decide)
        rw [← ex103_1] at Vx103_1
        have sx103_1 : h100.size ≤ x103_1 := by rw [ex103_1]; exact Nat.le_trans sr103 (Nat.le_trans (Nat.le_add_right _ 1) (Nat.le_add_right _ 1))
        have g_x103_1 : n0 ≤ x103_1 := Nat.le_trans Zs101 sx103_1
        have ne_b96_x103_1 : b96 ≠ x103_1 := Nat.ne_of_lt (Nat.lt_of_lt_of_le Ex100.lt sx103_1)
        have f105_1161 := Ex100.keep K103
        have Zs105 : n0 ≤ h103.size := Nat.le_trans Zs101 K103.1
        have nx103_01 : x103_0 ≠ x103_1 := by rw [ex103_0, ex103_1]; exact fun q => absurd (Nat.add_left_cancel q) (by decide)
        show Go p.tables e below _ (T103.setTop (mkF m 65 #[.val (.int p0), .val (.int p1), .val (.int p2), .val (.int p3), .val (.int (2 : Int32)), .val (.int wb), .val (.int (2 : Int32)), .val (.int we), .val (.ref b96), .val (.ref r100), .unset, .unset] [(.ref r103)]))
        refine Go.by (fun _ => XS.astore X103.here hx rfl (hb hby at_65) rfl rfl (l' := #[.val (.int p0), .val (.int p1), .val (.int p2), .val (.int p3), .val (.int (2 : Int32)), .val (.int wb), .val (.int (2 : Int32)), .val (.int we), .val (.ref b96), .val (.ref r100), .val (.ref r103), .unset]) rfl) ?_
        show Go p.tables e below _ (T103.setTop (mkF m 67 #[.val (.int p0), .val (.int p1), .val (.int p2), .val (.int p3), .val (.int (2 : Int32)), .val (.int wb), .val (.int (2 : Int32)), .val (.int we), .val (.ref b96), .val (.ref r100), .val (.ref r103), .unset] []))
        refine Go.by (fun _ => XS.aload X103.here hx rfl (hb hby at_67) rfl rfl) ?_
        refine Go.by (fun _ => XS.iload X103.here hx rfl (hb hby at_69) rfl) ?_
        refine Go.by (fun _ => XS.iload X103.here hx rfl (hb hby at_71) rfl) ?_
        obtain ⟨v106, T106, h106, X106, q106, st106⟩ := X103.callS hx hZ (y := (⟨"com/example/bitstrata/bitstrata/bitmap/WorkspaceVectorsPinLaw", "shaped", "([[JII)Z"⟩ : MethodName)) hown (tw hw 18 rfl) (tw hw 19 rfl) (tw hw 20 rfl) (tw hw 21 rfl) (by decide) (rm4_22 l Z a0 hw [] r103 we kc103 kd103 (fun i => .ref (r103 + 1 + i)) (we.toNatClampNeg) x103_0 x103_1 h103 n0 Zs105 V103 (back32 hw_we.1).1 (congrArg Value.ref ex103_0.symm) Vx103_0 (congrArg Value.ref ex103_1.symm) Vx103_1 nx103_01) (g := (mkF m 73 #[.val (.int p0), .val (.int p1), .val (.int p2), .val (.int p3), .val (.int (2 : Int32)), .val (.int wb), .val (.int (2 : Int32)), .val (.int we), .val (.ref b96), .val (.ref r100), .val (.ref r103), .unset] [(.int we), (.int (2 : Int32)), (.ref r103)])) rfl (by rw [hml]; rfl) (argsL := [(.ref r103), (.int (2 : Int32)), (.int we)]) (rest := []) (lenOf pd3 rfl) rfl (hb hby at_73) rfl (by decide) (Nat.le_of_ble_eq_true rfl) (k' := 8) (n' := 33) rfl rfl (by decide) (by decide)
        refine Go.by st106 ?_
        obtain ⟨rfl, rfl⟩ := q106
        show Go p.tables e below _ (T106.setTop (mkF m 76 #[.val (.int p0), .val (.int p1), .val (.int p2), .val (.int p3), .val (.int (2 : Int32)), .val (.int wb), .val (.int (2 : Int32)), .val (.int we), .val (.ref b96), .val (.ref r100), .val (.ref r103), .unset] [(.int (1 : Int32))]))
        refine Go.by (fun _ => XS.ifYes X106.here hx rfl (pc0 := 76) (pc' := 81) rfl (hb hby at_76) rfl ((if0 _ _).trans (feq (by decide)).2) (by decide) (by decide)) ?_
        show Go p.tables e below _ (T106.setTop (mkF m 81 #[.val (.int p0), .val (.int p1), .val (.int p2), .val (.int p3), .val (.int (2 : Int32)), .val (.int wb), .val (.int (2 : Int32)), .val (.int we), .val (.ref b96), .val (.ref r100), .val (.ref r103), .unset] []))
        refine Go.by (fun _ => XS.iload X106.here hx rfl (hb hby at_81) rfl) ?_
        show Go p.tables e below _ (T106.setTop (mkF m 83 #[.val (.int p0), .val (.int p1), .val (.int p2), .val (.int p3), .val (.int (2 : Int32)), .val (.int wb), .val (.int (2 : Int32)), .val (.int we), .val (.ref b96), .val (.ref r100), .val (.ref r103), .unset] [(.int (2 : Int32))]))
        refine Go.by (fun _ => XS.iload X106.here hx rfl (hb hby at_83) rfl) ?_
        refine Go.by (fun _ => XS.icmpNo X106.here hx rfl (hb hby at_85) rfl (flt (by decide)).2.2.1) ?_
        show Go p.tables e below _ (T106.setTop (mkF m 88 #[.val (.int p0), .val (.int p1), .val (.int p2), .val (.int p3), .val (.int (2 : Int32)), .val (.int wb), .val (.int (2 : Int32)), .val (.int we), .val (.ref b96), .val (.ref r100), .val (.ref r103), .unset] []))
        refine Go.by (fun _ => XS.iload X106.here hx rfl (hb hby at_88) rfl) ?_
        refine Go.by (fun _ => XS.ifNo X106.here hx rfl (hb hby at_90) rfl ((if0 _ _).trans (feq (by decide)).1)) ?_
        show Go p.tables e below _ (T106.setTop (mkF m 93 #[.val (.int p0), .val (.int p1), .val (.int p2), .val (.int p3), .val (.int (2 : Int32)), .val (.int wb), .val (.int (2 : Int32)), .val (.int we), .val (.ref b96), .val (.ref r100), .val (.ref r103), .unset] []))
        refine Go.by (fun _ => XS.iload X106.here hx rfl (hb hby at_93) rfl) ?_
        refine Go.by (fun _ => XS.iload X106.here hx rfl (hb hby at_95) rfl) ?_
        refine Go.by (fun _ => XS.icmpYes X106.here hx rfl (pc0 := 97) (pc' := 104) rfl (hb hby at_97) rfl (feq (fun q => hcd103 ((back32 hw_wb.1).1.trans q.symm))).2 (by decide) (by decide)) ?_
        show Go p.tables e below _ (T106.setTop (mkF m 104 #[.val (.int p0), .val (.int p1), .val (.int p2), .val (.int p3), .val (.int (2 : Int32)), .val (.int wb), .val (.int (2 : Int32)), .val (.int we), .val (.ref b96), .val (.ref r100), .val (.ref r103), .unset] []))
        refine Go.by (fun _ => XS.iconst X106.here hx rfl (hb hby at_104)) ?_
        refine Go.by (fun _ => XS.istore X106.here hx rfl (hb hby at_105) rfl (l' := #[.val (.int p0), .val (.int p1), .val (.int p2), .val (.int p3), .val (.int (2 : Int32)), .val (.int wb), .val (.int (2 : Int32)), .val (.int we), .val (.ref b96), .val (.ref r100), .val (.ref r103), .val (.int (0 : Int32))]) rfl) ?_
        show Go p.tables e below _ (T106.setTop (mkF m 107 #[.val (.int p0), .val (.int p1), .val (.int p2), .val (.int p3), .val (.int (2 : Int32)), .val (.int wb), .val (.int (2 : Int32)), .val (.int we), .val (.ref b96), .val (.ref r100), .val (.ref r103), .val (.int (0 : Int32))] []))
        refine Go.by (fun _ => XS.iload X106.here hx rfl (hb hby at_107) rfl) ?_
        refine Go.by (fun _ => XS.ifYes X106.here hx rfl (pc0 := 109) (pc' := 121) rfl (hb hby at_109) rfl ((if0 _ _).trans (teq (by decide)).1) (by decide) (by decide)) ?_
        show Go p.tables e below _ (T106.setTop (mkF m 121 #[.val (.int p0), .val (.int p1), .val (.int p2), .val (.int p3), .val (.int (2 : Int32)), .val (.int wb), .val (.int (2 : Int32)), .val (.int we), .val (.ref b96), .val (.ref r100), .val (.ref r103), .val (.int (0 : Int32))] []))
        refine Go.by (fun _ => XS.iconst X106.here hx rfl (hb hby at_121)) ?_
        exact Go.retN X106 hx hlk (z' := (1 : Int32)) hret (by simp) (hb hby at_122) rfl (by decide) (by decide) rfl
    · rw [ec]
      show Go p.tables e below _ (T0.setTop (mkF m 22 #[.val (.int p0), .val (.int p1), .val (.int p2), .val (.int p3), .val (.int (2 : Int32)), .val (.int wb), .val (.int (3 : Int32)), .val (.int we), .unset, .unset, .unset, .unset] []))
      obtain ⟨T107, h107, b107, X107, g107, E107, A107, D107, st107⟩ := X0.newO hx hZ hown (tw hw 0 rfl) (tw hw 1 rfl) (tw hw 2 rfl) (g := (mkF m 22 #[.val (.int p0), .val (.int p1), .val (.int p2), .val (.int p3), .val (.int (2 : Int32)), .val (.int wb), .val (.int (3 : Int32)), .val (.int we), .unset, .unset, .unset, .unset] [])) rfl (hb hby at_22) (k' := 1) (n' := 1) rfl rfl (by decide) (by decide)
      have g_b107 : n0 ≤ b107 := by rw [g107]; exact Z0
      have Zs108 : n0 ≤ h107.size := Nat.le_trans Z0 E107.1
      have F107_vectors : Fld Z h107 b107 "com/example/bitstrata/bitstrata/bitmap/Formula$Workspace" "vectors" "[[J" .null := D107 (Or.inl (tw hw 12 rfl)) (ty := (.array (.array .long))) (by decide)
      refine Go.by st107 ?_
      show Go p.tables e below _ (T107.setTop (mkF m 25 #[.val (.int p0), .val (.int p1), .val (.int p2), .val (.int p3), .val (.int (2 : Int32)), .val (.int wb), .val (.int (3 : Int32)), .val (.int we), .unset, .unset, .unset, .unset] [(.ref b107)]))
      refine Go.by (fun _ => XS.dup X107.here hx rfl (hb hby at_25) rfl rfl) ?_
      obtain ⟨v109, T109, h109, X109, q109, st109⟩ := X107.callI hx hZ (y := (⟨"com/example/bitstrata/bitstrata/bitmap/Formula$Workspace", "<init>", "()V"⟩ : MethodName)) rfl hown (tw hw 3 rfl) (tw hw 4 rfl) (tw hw 2 rfl) (tw hw 5 rfl) (by decide) (rm1 l Z a0 hw [] b107 h107 n0 Zs108 A107 g_b107 F107_vectors) (g := (mkF m 26 #[.val (.int p0), .val (.int p1), .val (.int p2), .val (.int p3), .val (.int (2 : Int32)), .val (.int wb), .val (.int (3 : Int32)), .val (.int we), .unset, .unset, .unset, .unset] [(.ref b107), (.ref b107)])) rfl (by rw [hml]; rfl) (argsL := []) (rest := [(.ref b107)]) (lenOf pd1 rfl) rfl (hb hby at_26) rfl (by decide) (Nat.le_of_ble_eq_true rfl) (k' := 2) (n' := 1) rfl rfl (by decide) (by decide)
      refine Go.by st109 ?_
      obtain ⟨o109, kO109, rfl, so109, K109, Ex109, Fv109, V109⟩ := q109
      have g_o109 : n0 ≤ o109 := Nat.le_trans Zs108 so109
      have ne_b107_o109 : b107 ≠ o109 := Nat.ne_of_lt (Nat.lt_of_lt_of_le A107.lt so109)
      have f110_1210 := A107.keep K109
      have Zs110 : n0 ≤ h109.size := Nat.le_trans Zs108 K109.1
      show Go p.tables e below _ (T109.setTop (mkF m 29 #[.val (.int p0), .val (.int p1), .val (.int p2), .val (.int p3), .val (.int (2 : Int32)), .val (.int wb), .val (.int (3 : Int32)), .val (.int we), .unset, .unset, .unset, .unset] [(.ref b107)]))
      refine Go.by (fun _ => XS.astore X109.here hx rfl (hb hby at_29) rfl rfl (l' := #[.val (.int p0), .val (.int p1), .val (.int p2), .val (.int p3), .val (.int (2 : Int32)), .val (.int wb), .val (.int (3 : Int32)), .val (.int we), .val (.ref b107), .unset, .unset, .unset]) rfl) ?_
      show Go p.tables e below _ (T109.setTop (mkF m 31 #[.val (.int p0), .val (.int p1), .val (.int p2), .val (.int p3), .val (.int (2 : Int32)), .val (.int wb), .val (.int (3 : Int32)), .val (.int we), .val (.ref b107), .unset, .unset, .unset] []))
      refine Go.by (fun _ => XS.aload X109.here hx rfl (hb hby at_31) rfl rfl) ?_
      show Go p.tables e below _ (T109.setTop (mkF m 33 #[.val (.int p0), .val (.int p1), .val (.int p2), .val (.int p3), .val (.int (2 : Int32)), .val (.int wb), .val (.int (3 : Int32)), .val (.int we), .val (.ref b107), .unset, .unset, .unset] [(.ref b107)]))
      refine Go.by (fun _ => XS.iload X109.here hx rfl (hb hby at_33) rfl) ?_
      refine Go.by (fun _ => XS.iload X109.here hx rfl (hb hby at_35) rfl) ?_
      obtain ⟨v111, T111, h111, X111, q111, st111⟩ := X109.callV hx hZ (y := (⟨"com/example/bitstrata/bitstrata/bitmap/Formula$Workspace", "vectors", "(II)[[J"⟩ : MethodName)) (z := (⟨"com/example/bitstrata/bitstrata/bitmap/Formula$Workspace", "vectors", "(II)[[J"⟩ : MethodName)) hown (tw hw 13 rfl) (tw hw 14 rfl) (notFace_of_selects (args := #[]) (mvT hZ (tw hw 16 rfl))) (tw hw 16 rfl) (tw hw 15 rfl) (tw hw 2 rfl) (tw hw 17 rfl) (by decide) (rm3_02 l Z a0 hw [] b107 wb o109 kO109 (fun _ => .null) h109 n0 Zs110 Ex109 g_b107 Fv109 V109 hw_wb.1 hw_wb.2) Ex109 (g := (mkF m 37 #[.val (.int p0), .val (.int p1), .val (.int p2), .val (.int p3), .val (.int (2 : Int32)), .val (.int wb), .val (.int (3 : Int32)), .val (.int we), .val (.ref b107), .unset, .unset, .unset] [(.int wb), (.int (2 : Int32)), (.ref b107)])) rfl (by rw [hml]; rfl) (argsL := [(.int (2 : Int32)), (.int wb)]) (rest := []) (lenOf pd2 rfl) rfl (hb hby at_37) rfl (by decide) (Nat.le_of_ble_eq_true rfl) (k' := 5) (n' := 17) rfl rfl (by decide) (by decide)
      refine Go.by st111 ?_
      obtain ⟨r111, kc111, kd111, rfl, sr111, K111, Ex111, Fv111, V111, VV111⟩ := q111
      have g_r111 : n0 ≤ r111 := Nat.le_trans Zs110 sr111
      have ne_b107_r111 : b107 ≠ r111 := Nat.ne_of_lt (Nat.lt_of_lt_of_le Ex109.lt sr111)
      obtain ⟨x111_0, ex111_0⟩ : ∃ z, z = r111 + 1 + 0 := ⟨_, rfl⟩
      have Vx111_0 := VV111 0 (by decide)
      rw [← ex111_0] at Vx111_0
      have sx111_0 : h109.size ≤ x111_0 := by rw [ex111_0]; exact Nat.le_trans sr111 (Nat.le_trans (Nat.le_add_right _ 1) (Nat.le_add_right _ 0))
      have g_x111_0 : n0 ≤ x111_0 := Nat.le_trans Zs110 sx111_0
      have ne_b107_x111_0 : b107 ≠ x111_0 := Nat.ne_of_lt (Nat.lt_of_lt_of_le Ex109.lt sx111_0)
      obtain ⟨x111_1, ex111_1⟩ : ∃ z, z = r111 + 1 + 1 := ⟨_, rfl⟩
      have Vx111_1 := VV111 1 (by decide)
      rw [← ex111_1] at Vx111_1
      have sx111_1 : h109.size ≤ x111_1 := by rw [ex111_1]; exact Nat.le_trans sr111 (Nat.le_trans (Nat.le_add_right _ 1) (Nat.le_add_right _ 1))
      have g_x111_1 : n0 ≤ x111_1 := Nat.le_trans Zs110 sx111_1
      have ne_b107_x111_1 : b107 ≠ x111_1 := Nat.ne_of_lt (Nat.lt_of_lt_of_le Ex109.lt sx111_1)
      have f112_1236 := Ex109.keep K111
      have Zs112 : n0 ≤ h111.size := Nat.le_trans Zs110 K111.1
      have nx111_01 : x111_0 ≠ x111_1 := by rw [ex111_0, ex111_1]; exact fun q => absurd (Nat.add_left_cancel q) (by decide)
      show Go p.tables e below _ (T111.setTop (mkF m 40 #[.val (.int p0), .val (.int p1), .val (.int p2), .val (.int p3), .val (.int (2 : Int32)), .val (.int wb), .val (.int (3 : Int32)), .val (.int we), .val (.ref b107), .unset, .unset, .unset] [(.ref r111)]))
      refine Go.by (fun _ => XS.astore X111.here hx rfl (hb hby at_40) rfl rfl (l' := #[.val (.int p0), .val (.int p1), .val (.int p2), .val (.int p3), .val (.int (2 : Int32)), .val (.int wb), .val (.int (3 : Int32)), .val (.int we), .val (.ref b107), .val (.ref r111), .unset, .unset]) rfl) ?_
      show Go p.tables e below _ (T111.setTop (mkF m 42 #[.val (.int p0), .val (.int p1), .val (.int p2), .val (.int p3), .val (.int (2 : Int32)), .val (.int wb), .val (.int (3 : Int32)), .val (.int we), .val (.ref b107), .val (.ref r111), .unset, .unset] []))
      refine Go.by (fun _ => XS.aload X111.here hx rfl (hb hby at_42) rfl rfl) ?_
      refine Go.by (fun _ => XS.iload X111.here hx rfl (hb hby at_44) rfl) ?_
      refine Go.by (fun _ => XS.iload X111.here hx rfl (hb hby at_46) rfl) ?_
      show Go p.tables e below _ (T111.setTop (mkF m 48 #[.val (.int p0), .val (.int p1), .val (.int p2), .val (.int p3), .val (.int (2 : Int32)), .val (.int wb), .val (.int (3 : Int32)), .val (.int we), .val (.ref b107), .val (.ref r111), .unset, .unset] [(.int wb), (.int (2 : Int32)), (.ref r111)]))
      obtain ⟨v113, T113, h113, X113, q113, st113⟩ := X111.callS hx hZ (y := (⟨"com/example/bitstrata/bitstrata/bitmap/WorkspaceVectorsPinLaw", "shaped", "([[JII)Z"⟩ : MethodName)) hown (tw hw 18 rfl) (tw hw 19 rfl) (tw hw 20 rfl) (tw hw 21 rfl) (by decide) (rm4_22 l Z a0 hw [] r111 wb kc111 kd111 (fun i => .ref (r111 + 1 + i)) (wb.toNatClampNeg) x111_0 x111_1 h111 n0 Zs112 V111 (back32 hw_wb.1).1 (congrArg Value.ref ex111_0.symm) Vx111_0 (congrArg Value.ref ex111_1.symm) Vx111_1 nx111_01) (g := (mkF m 48 #[.val (.int p0), .val (.int p1), .val (.int p2), .val (.int p3), .val (.int (2 : Int32)), .val (.int wb), .val (.int (3 : Int32)), .val (.int we), .val (.ref b107), .val (.ref r111), .unset, .unset] [(.int wb), (.int (2 : Int32)), (.ref r111)])) rfl (by rw [hml]; rfl) (argsL := [(.ref r111), (.int (2 : Int32)), (.int wb)]) (rest := []) (lenOf pd3 rfl) rfl (hb hby at_48) rfl (by decide) (Nat.le_of_ble_eq_true rfl) (k' := 5) (n' := 17) rfl rfl (by decide) (by decide)
      refine Go.by st113 ?_
      obtain ⟨rfl, rfl⟩ := q113
      show Go p.tables e below _ (T113.setTop (mkF m 51 #[.val (.int p0), .val (.int p1), .val (.int p2), .val (.int p3), .val (.int (2 : Int32)), .val (.int wb), .val (.int (3 : Int32)), .val (.int we), .val (.ref b107), .val (.ref r111), .unset, .unset] [(.int (1 : Int32))]))
      refine Go.by (fun _ => XS.ifYes X113.here hx rfl (pc0 := 51) (pc' := 56) rfl (hb hby at_51) rfl ((if0 _ _).trans (feq (by decide)).2) (by decide) (by decide)) ?_
      show Go p.tables e below _ (T113.setTop (mkF m 56 #[.val (.int p0), .val (.int p1), .val (.int p2), .val (.int p3), .val (.int (2 : Int32)), .val (.int wb), .val (.int (3 : Int32)), .val (.int we), .val (.ref b107), .val (.ref r111), .unset, .unset] []))
      refine Go.by (fun _ => XS.aload X113.here hx rfl (hb hby at_56) rfl rfl) ?_
      refine Go.by (fun _ => XS.iload X113.here hx rfl (hb hby at_58) rfl) ?_
      refine Go.by (fun _ => XS.iload X113.here hx rfl (hb hby at_60) rfl) ?_
      obtain ⟨v114, T114, h114, X114, q114, st114⟩ := X113.callV hx hZ (y := (⟨"com/example/bitstrata/bitstrata/bitmap/Formula$Workspace", "vectors", "(II)[[J"⟩ : MethodName)) (z := (⟨"com/example/bitstrata/bitstrata/bitmap/Formula$Workspace", "vectors", "(II)[[J"⟩ : MethodName)) hown (tw hw 13 rfl) (tw hw 14 rfl) (notFace_of_selects (args := #[]) (mvT hZ (tw hw 16 rfl))) (tw hw 16 rfl) (tw hw 15 rfl) (tw hw 2 rfl) (tw hw 17 rfl) (by decide) (rm3_23 l Z a0 hw [] b107 we r111 kc111 (fun i => .ref (r111 + 1 + i)) h111 n0 Zs112 Ex111 g_b107 Fv111 V111 hw_we.1 hw_we.2) Ex111 (g := (mkF m 62 #[.val (.int p0), .val (.int p1), .val (.int p2), .val (.int p3), .val (.int (2 : Int32)), .val (.int wb), .val (.int (3 : Int32)), .val (.int we), .val (.ref b107), .val (.ref r111), .unset, .unset] [(.int we), (.int (3 : Int32)), (.ref b107)])) rfl (by rw [hml]; rfl) (argsL := [(.int (3 : Int32)), (.int we)]) (rest := []) (lenOf pd2 rfl) rfl (hb hby at_62) rfl (by decide) (Nat.le_of_ble_eq_true rfl) (k' := 9) (n' := 41) rfl rfl (by decide) (by decide)
      refine Go.by st114 ?_
      obtain ⟨r114, kc114, kd114, rfl, sr114, K114, Ex114, Fv114, V114, VV114⟩ := q114
      have g_r114 : n0 ≤ r114 := Nat.le_trans Zs112 sr114
      have ne_b107_r114 : b107 ≠ r114 := Nat.ne_of_lt (Nat.lt_of_lt_of_le Ex111.lt sr114)
      obtain ⟨x114_0, ex114_0⟩ : ∃ z, z = r114 + 1 + 0 := ⟨_, rfl⟩
      have Vx114_0 := VV114 0 (by decide)
      rw [← ex114_0] at Vx114_0
      have sx114_0 : h111.size ≤ x114_0 := by rw [ex114_0]; exact Nat.le_trans sr114 (Nat.le_trans (Nat.le_add_right _ 1) (Nat.le_add_right _ 0))
      have g_x114_0 : n0 ≤ x114_0 := Nat.le_trans Zs112 sx114_0
      have ne_b107_x114_0 : b107 ≠ x114_0 := Nat.ne_of_lt (Nat.lt_of_lt_of_le Ex111.lt sx114_0)
      obtain ⟨x114_1, ex114_1⟩ : ∃ z, z = r114 + 1 + 1 := ⟨_, rfl⟩
      have Vx114_1 := VV114 1 (by decide)
      rw [← ex114_1] at Vx114_1
      have sx114_1 : h111.size ≤ x114_1 := by rw [ex114_1]; exact Nat.le_trans sr114 (Nat.le_trans (Nat.le_add_right _ 1) (Nat.le_add_right _ 1))
      have g_x114_1 : n0 ≤ x114_1 := Nat.le_trans Zs112 sx114_1
      have ne_b107_x114_1 : b107 ≠ x114_1 := Nat.ne_of_lt (Nat.lt_of_lt_of_le Ex111.lt sx114_1)
      obtain ⟨x114_2, ex114_2⟩ : ∃ z, z = r114 + 1 + 2 := ⟨_, rfl⟩
      have Vx114_2 := VV114 2 (by decide)
      rw [← ex114_2] at Vx114_2
      have sx114_2 : h111.size ≤ x114_2 := by rw [ex114_2]; exact Nat.le_trans sr114 (Nat.le_trans (Nat.le_add_right _ 1) (Nat.le_add_right _ 2))
      have g_x114_2 : n0 ≤ x114_2 := Nat.le_trans Zs112 sx114_2
      have ne_b107_x114_2 : b107 ≠ x114_2 := Nat.ne_of_lt (Nat.lt_of_lt_of_le Ex111.lt sx114_2)
      have f115_1278 := Ex111.keep K114
      have Zs115 : n0 ≤ h114.size := Nat.le_trans Zs112 K114.1
      have nx114_01 : x114_0 ≠ x114_1 := by rw [ex114_0, ex114_1]; exact fun q => absurd (Nat.add_left_cancel q) (by decide)
      have nx114_02 : x114_0 ≠ x114_2 := by rw [ex114_0, ex114_2]; exact fun q => absurd (Nat.add_left_cancel q) (by decide)
      have nx114_12 : x114_1 ≠ x114_2 := by rw [ex114_1, ex114_2]; exact fun q => absurd (Nat.add_left_cancel q) (by decide)
      show Go p.tables e below _ (T114.setTop (mkF m 65 #[.val (.int p0), .val (.int p1), .val (.int p2), .val (.int p3), .val (.int (2 : Int32)), .val (.int wb), .val (.int (3 : Int32)), .val (.int we), .val (.ref b107), .val (.ref r111), .unset, .unset] [(.ref r114)]))
      refine Go.by (fun _ => XS.astore X114.here hx rfl (hb hby at_65) rfl rfl (l' := #[.val (.int p0), .val (.int p1), .val (.int p2), .val (.int p3), .val (.int (2 : Int32)), .val (.int wb), .val (.int (3 : Int32)), .val (.int we), .val (.ref b107), .val (.ref r111), .val (.ref r114), .unset]) rfl) ?_
      show Go p.tables e below _ (T114.setTop (mkF m 67 #[.val (.int p0), .val (.int p1), .val (.int p2), .val (.int p3), .val (.int (2 : Int32)), .val (.int wb), .val (.int (3 : Int32)), .val (.int we), .val (.ref b107), .val (.ref r111), .val (.ref r114), .unset] []))
      refine Go.by (fun _ => XS.aload X114.here hx rfl (hb hby at_67) rfl rfl) ?_
      refine Go.by (fun _ => XS.iload X114.here hx rfl (hb hby at_69) rfl) ?_
      show Go p.tables e below _ (T114.setTop (mkF m 71 #[.val (.int p0), .val (.int p1), .val (.int p2), .val (.int p3), .val (.int (2 : Int32)), .val (.int wb), .val (.int (3 : Int32)), .val (.int we), .val (.ref b107), .val (.ref r111), .val (.ref r114), .unset] [(.int (3 : Int32)), (.ref r114)]))
      refine Go.by (fun _ => XS.iload X114.here hx rfl (hb hby at_71) rfl) ?_
      obtain ⟨v116, T116, h116, X116, q116, st116⟩ := X114.callS hx hZ (y := (⟨"com/example/bitstrata/bitstrata/bitmap/WorkspaceVectorsPinLaw", "shaped", "([[JII)Z"⟩ : MethodName)) hown (tw hw 18 rfl) (tw hw 19 rfl) (tw hw 20 rfl) (tw hw 21 rfl) (by decide) (rm4_33 l Z a0 hw [] r114 we kc114 kd114 (fun i => .ref (r114 + 1 + i)) (we.toNatClampNeg) x114_0 x114_1 x114_2 h114 n0 Zs115 V114 (back32 hw_we.1).1 (congrArg Value.ref ex114_0.symm) Vx114_0 (congrArg Value.ref ex114_1.symm) Vx114_1 (congrArg Value.ref ex114_2.symm) Vx114_2 nx114_01 nx114_02 nx114_12) (g := (mkF m 73 #[.val (.int p0), .val (.int p1), .val (.int p2), .val (.int p3), .val (.int (2 : Int32)), .val (.int wb), .val (.int (3 : Int32)), .val (.int we), .val (.ref b107), .val (.ref r111), .val (.ref r114), .unset] [(.int we), (.int (3 : Int32)), (.ref r114)])) rfl (by rw [hml]; rfl) (argsL := [(.ref r114), (.int (3 : Int32)), (.int we)]) (rest := []) (lenOf pd3 rfl) rfl (hb hby at_73) rfl (by decide) (Nat.le_of_ble_eq_true rfl) (k' := 9) (n' := 41) rfl rfl (by decide) (by decide)
      refine Go.by st116 ?_
      obtain ⟨rfl, rfl⟩ := q116
      show Go p.tables e below _ (T116.setTop (mkF m 76 #[.val (.int p0), .val (.int p1), .val (.int p2), .val (.int p3), .val (.int (2 : Int32)), .val (.int wb), .val (.int (3 : Int32)), .val (.int we), .val (.ref b107), .val (.ref r111), .val (.ref r114), .unset] [(.int (1 : Int32))]))
      refine Go.by (fun _ => XS.ifYes X116.here hx rfl (pc0 := 76) (pc' := 81) rfl (hb hby at_76) rfl ((if0 _ _).trans (feq (by decide)).2) (by decide) (by decide)) ?_
      show Go p.tables e below _ (T116.setTop (mkF m 81 #[.val (.int p0), .val (.int p1), .val (.int p2), .val (.int p3), .val (.int (2 : Int32)), .val (.int wb), .val (.int (3 : Int32)), .val (.int we), .val (.ref b107), .val (.ref r111), .val (.ref r114), .unset] []))
      refine Go.by (fun _ => XS.iload X116.here hx rfl (hb hby at_81) rfl) ?_
      refine Go.by (fun _ => XS.iload X116.here hx rfl (hb hby at_83) rfl) ?_
      refine Go.by (fun _ => XS.icmpYes X116.here hx rfl (pc0 := 85) (pc' := 104) rfl (hb hby at_85) rfl (tlt (by decide)).2.2.1 (by decide) (by decide)) ?_
      show Go p.tables e below _ (T116.setTop (mkF m 104 #[.val (.int p0), .val (.int p1), .val (.int p2), .val (.int p3), .val (.int (2 : Int32)), .val (.int wb), .val (.int (3 : Int32)), .val (.int we), .val (.ref b107), .val (.ref r111), .val (.ref r114), .unset] []))
      refine Go.by (fun _ => XS.iconst X116.here hx rfl (hb hby at_104)) ?_
      refine Go.by (fun _ => XS.istore X116.here hx rfl (hb hby at_105) rfl (l' := #[.val (.int p0), .val (.int p1), .val (.int p2), .val (.int p3), .val (.int (2 : Int32)), .val (.int wb), .val (.int (3 : Int32)), .val (.int we), .val (.ref b107), .val (.ref r111), .val (.ref r114), .val (.int (0 : Int32))]) rfl) ?_
      show Go p.tables e below _ (T116.setTop (mkF m 107 #[.val (.int p0), .val (.int p1), .val (.int p2), .val (.int p3), .val (.int (2 : Int32)), .val (.int wb), .val (.int (3 : Int32)), .val (.int we), .val (.ref b107), .val (.ref r111), .val (.ref r114), .val (.int (0 : Int32))] []))
      refine Go.by (fun _ => XS.iload X116.here hx rfl (hb hby at_107) rfl) ?_
      show Go p.tables e below _ (T116.setTop (mkF m 109 #[.val (.int p0), .val (.int p1), .val (.int p2), .val (.int p3), .val (.int (2 : Int32)), .val (.int wb), .val (.int (3 : Int32)), .val (.int we), .val (.ref b107), .val (.ref r111), .val (.ref r114), .val (.int (0 : Int32))] [(.int (0 : Int32))]))
      refine Go.by (fun _ => XS.ifYes X116.here hx rfl (pc0 := 109) (pc' := 121) rfl (hb hby at_109) rfl ((if0 _ _).trans (teq (by decide)).1) (by decide) (by decide)) ?_
      show Go p.tables e below _ (T116.setTop (mkF m 121 #[.val (.int p0), .val (.int p1), .val (.int p2), .val (.int p3), .val (.int (2 : Int32)), .val (.int wb), .val (.int (3 : Int32)), .val (.int we), .val (.ref b107), .val (.ref r111), .val (.ref r114), .val (.int (0 : Int32))] []))
      refine Go.by (fun _ => XS.iconst X116.here hx rfl (hb hby at_121)) ?_
      exact Go.retN X116 hx hlk (z' := (1 : Int32)) hret (by simp) (hb hby at_122) rfl (by decide) (by decide) rfl
  · rw [ea]
    rcases own_m4 p2 with ec | ec | ec | ec
    · rw [ec]
      show Go p.tables e below _ (T0.setTop (mkF m 22 #[.val (.int p0), .val (.int p1), .val (.int p2), .val (.int p3), .val (.int (3 : Int32)), .val (.int wb), .val (.int (0 : Int32)), .val (.int we), .unset, .unset, .unset, .unset] []))
      obtain ⟨T117, h117, b117, X117, g117, E117, A117, D117, st117⟩ := X0.newO hx hZ hown (tw hw 0 rfl) (tw hw 1 rfl) (tw hw 2 rfl) (g := (mkF m 22 #[.val (.int p0), .val (.int p1), .val (.int p2), .val (.int p3), .val (.int (3 : Int32)), .val (.int wb), .val (.int (0 : Int32)), .val (.int we), .unset, .unset, .unset, .unset] [])) rfl (hb hby at_22) (k' := 1) (n' := 1) rfl rfl (by decide) (by decide)
      have g_b117 : n0 ≤ b117 := by rw [g117]; exact Z0
      have Zs118 : n0 ≤ h117.size := Nat.le_trans Z0 E117.1
      have F117_vectors : Fld Z h117 b117 "com/example/bitstrata/bitstrata/bitmap/Formula$Workspace" "vectors" "[[J" .null := D117 (Or.inl (tw hw 12 rfl)) (ty := (.array (.array .long))) (by decide)
      refine Go.by st117 ?_
      show Go p.tables e below _ (T117.setTop (mkF m 25 #[.val (.int p0), .val (.int p1), .val (.int p2), .val (.int p3), .val (.int (3 : Int32)), .val (.int wb), .val (.int (0 : Int32)), .val (.int we), .unset, .unset, .unset, .unset] [(.ref b117)]))
      refine Go.by (fun _ => XS.dup X117.here hx rfl (hb hby at_25) rfl rfl) ?_
      obtain ⟨v119, T119, h119, X119, q119, st119⟩ := X117.callI hx hZ (y := (⟨"com/example/bitstrata/bitstrata/bitmap/Formula$Workspace", "<init>", "()V"⟩ : MethodName)) rfl hown (tw hw 3 rfl) (tw hw 4 rfl) (tw hw 2 rfl) (tw hw 5 rfl) (by decide) (rm1 l Z a0 hw [] b117 h117 n0 Zs118 A117 g_b117 F117_vectors) (g := (mkF m 26 #[.val (.int p0), .val (.int p1), .val (.int p2), .val (.int p3), .val (.int (3 : Int32)), .val (.int wb), .val (.int (0 : Int32)), .val (.int we), .unset, .unset, .unset, .unset] [(.ref b117), (.ref b117)])) rfl (by rw [hml]; rfl) (argsL := []) (rest := [(.ref b117)]) (lenOf pd1 rfl) rfl (hb hby at_26) rfl (by decide) (Nat.le_of_ble_eq_true rfl) (k' := 2) (n' := 1) rfl rfl (by decide) (by decide)
      refine Go.by st119 ?_
      obtain ⟨o119, kO119, rfl, so119, K119, Ex119, Fv119, V119⟩ := q119
      have g_o119 : n0 ≤ o119 := Nat.le_trans Zs118 so119
      have ne_b117_o119 : b117 ≠ o119 := Nat.ne_of_lt (Nat.lt_of_lt_of_le A117.lt so119)
      have f120_1325 := A117.keep K119
      have Zs120 : n0 ≤ h119.size := Nat.le_trans Zs118 K119.1
      show Go p.tables e below _ (T119.setTop (mkF m 29 #[.val (.int p0), .val (.int p1), .val (.int p2), .val (.int p3), .val (.int (3 : Int32)), .val (.int wb), .val (.int (0 : Int32)), .val (.int we), .unset, .unset, .unset, .unset] [(.ref b117)]))
      refine Go.by (fun _ => XS.astore X119.here hx rfl (hb hby at_29) rfl rfl (l' := #[.val (.int p0), .val (.int p1), .val (.int p2), .val (.int p3), .val (.int (3 : Int32)), .val (.int wb), .val (.int (0 : Int32)), .val (.int we), .val (.ref b117), .unset, .unset, .unset]) rfl) ?_
      show Go p.tables e below _ (T119.setTop (mkF m 31 #[.val (.int p0), .val (.int p1), .val (.int p2), .val (.int p3), .val (.int (3 : Int32)), .val (.int wb), .val (.int (0 : Int32)), .val (.int we), .val (.ref b117), .unset, .unset, .unset] []))
      refine Go.by (fun _ => XS.aload X119.here hx rfl (hb hby at_31) rfl rfl) ?_
      refine Go.by (fun _ => XS.iload X119.here hx rfl (hb hby at_33) rfl) ?_
      show Go p.tables e below _ (T119.setTop (mkF m 35 #[.val (.int p0), .val (.int p1), .val (.int p2), .val (.int p3), .val (.int (3 : Int32)), .val (.int wb), .val (.int (0 : Int32)), .val (.int we), .val (.ref b117), .unset, .unset, .unset] [(.int (3 : Int32)), (.ref b117)]))
      refine Go.by (fun _ => XS.iload X119.here hx rfl (hb hby at_35) rfl) ?_
      obtain ⟨v121, T121, h121, X121, q121, st121⟩ := X119.callV hx hZ (y := (⟨"com/example/bitstrata/bitstrata/bitmap/Formula$Workspace", "vectors", "(II)[[J"⟩ : MethodName)) (z := (⟨"com/example/bitstrata/bitstrata/bitmap/Formula$Workspace", "vectors", "(II)[[J"⟩ : MethodName)) hown (tw hw 13 rfl) (tw hw 14 rfl) (notFace_of_selects (args := #[]) (mvT hZ (tw hw 16 rfl))) (tw hw 16 rfl) (tw hw 15 rfl) (tw hw 2 rfl) (tw hw 17 rfl) (by decide) (rm3_03 l Z a0 hw [] b117 wb o119 kO119 (fun _ => .null) h119 n0 Zs120 Ex119 g_b117 Fv119 V119 hw_wb.1 hw_wb.2) Ex119 (g := (mkF m 37 #[.val (.int p0), .val (.int p1), .val (.int p2), .val (.int p3), .val (.int (3 : Int32)), .val (.int wb), .val (.int (0 : Int32)), .val (.int we), .val (.ref b117), .unset, .unset, .unset] [(.int wb), (.int (3 : Int32)), (.ref b117)])) rfl (by rw [hml]; rfl) (argsL := [(.int (3 : Int32)), (.int wb)]) (rest := []) (lenOf pd2 rfl) rfl (hb hby at_37) rfl (by decide) (Nat.le_of_ble_eq_true rfl) (k' := 6) (n' := 25) rfl rfl (by decide) (by decide)
      refine Go.by st121 ?_
      obtain ⟨r121, kc121, kd121, rfl, sr121, K121, Ex121, Fv121, V121, VV121⟩ := q121
      have g_r121 : n0 ≤ r121 := Nat.le_trans Zs120 sr121
      have ne_b117_r121 : b117 ≠ r121 := Nat.ne_of_lt (Nat.lt_of_lt_of_le Ex119.lt sr121)
      obtain ⟨x121_0, ex121_0⟩ : ∃ z, z = r121 + 1 + 0 := ⟨_, rfl⟩
      have Vx121_0 := VV121 0 (by decide)
      rw [← ex121_0] at Vx121_0
      have sx121_0 : h119.size ≤ x121_0 := by rw [ex121_0]; exact Nat.le_trans sr121 (Nat.le_trans (Nat.le_add_right _ 1) (Nat.le_add_right _ 0))
      have g_x121_0 : n0 ≤ x121_0 := Nat.le_trans Zs120 sx121_0
      have ne_b117_x121_0 : b117 ≠ x121_0 := Nat.ne_of_lt (Nat.lt_of_lt_of_le Ex119.lt sx121_0)
      obtain ⟨x121_1, ex121_1⟩ : ∃ z, z = r121 + 1 + 1 := ⟨_, rfl⟩
      have Vx121_1 := VV121 1 (by decide)
      rw [← ex121_1] at Vx121_1
      have sx121_1 : h119.size ≤ x121_1 := by rw [ex121_1]; exact Nat.le_trans sr121 (Nat.le_trans (Nat.le_add_right _ 1) (Nat.le_add_right _ 1))
      have g_x121_1 : n0 ≤ x121_1 := Nat.le_trans Zs120 sx121_1
      have ne_b117_x121_1 : b117 ≠ x121_1 := Nat.ne_of_lt (Nat.lt_of_lt_of_le Ex119.lt sx121_1)
      obtain ⟨x121_2, ex121_2⟩ : ∃ z, z = r121 + 1 + 2 := ⟨_, rfl⟩
      have Vx121_2 := VV121 2 (by decide)
      rw [← ex121_2] at Vx121_2
      have sx121_2 : h119.size ≤ x121_2 := by rw [ex121_2]; exact Nat.le_trans sr121 (Nat.le_trans (Nat.le_add_right _ 1) (Nat.le_add_right _ 2))
      have g_x121_2 : n0 ≤ x121_2 := Nat.le_trans Zs120 sx121_2
      have ne_b117_x121_2 : b117 ≠ x121_2 := Nat.ne_of_lt (Nat.lt_of_lt_of_le Ex119.lt sx121_2)
      have f122_1357 := Ex119.keep K121
      have Zs122 : n0 ≤ h121.size := Nat.le_trans Zs120 K121.1
      have nx121_01 : x121_0 ≠ x121_1 := by rw [ex121_0, ex121_1]; exact fun q => absurd (Nat.add_left_cancel q) (by decide)
      have nx121_02 : x121_0 ≠ x121_2 := by rw [ex121_0, ex121_2]; exact fun q => absurd (Nat.add_left_cancel q) (by decide)
      have nx121_12 : x121_1 ≠ x121_2 := by rw [ex121_1, ex121_2]; exact fun q => absurd (Nat.add_left_cancel q) (by decide)
      show Go p.tables e below _ (T121.setTop (mkF m 40 #[.val (.int p0), .val (.int p1), .val (.int p2), .val (.int p3), .val (.int (3 : Int32)), .val (.int wb), .val (.int (0 : Int32)), .val (.int we), .val (.ref b117), .unset, .unset, .unset] [(.ref r121)]))
      refine Go.by (fun _ => XS.astore X121.here hx rfl (hb hby at_40) rfl rfl (l' := #[.val (.int p0), .val (.int p1), .val (.int p2), .val (.int p3), .val (.int (3 : Int32)), .val (.int wb), .val (.int (0 : Int32)), .val (.int we), .val (.ref b117), .val (.ref r121), .unset, .unset]) rfl) ?_
      show Go p.tables e below _ (T121.setTop (mkF m 42 #[.val (.int p0), .val (.int p1), .val (.int p2), .val (.int p3), .val (.int (3 : Int32)), .val (.int wb), .val (.int (0 : Int32)), .val (.int we), .val (.ref b117), .val (.ref r121), .unset, .unset] []))
      refine Go.by (fun _ => XS.aload X121.here hx rfl (hb hby at_42) rfl rfl) ?_
      refine Go.by (fun _ => XS.iload X121.here hx rfl (hb hby at_44) rfl) ?_
      refine Go.by (fun _ => XS.iload X121.here hx rfl (hb hby at_46) rfl) ?_
      obtain ⟨v123, T123, h123, X123, q123, st123⟩ := X121.callS hx hZ (y := (⟨"com/example/bitstrata/bitstrata/bitmap/WorkspaceVectorsPinLaw", "shaped", "([[JII)Z"⟩ : MethodName)) hown (tw hw 18 rfl) (tw hw 19 rfl) (tw hw 20 rfl) (tw hw 21 rfl) (by decide) (rm4_33 l Z a0 hw [] r121 wb kc121 kd121 (fun i => .ref (r121 + 1 + i)) (wb.toNatClampNeg) x121_0 x121_1 x121_2 h121 n0 Zs122 V121 (back32 hw_wb.1).1 (congrArg Value.ref ex121_0.symm) Vx121_0 (congrArg Value.ref ex121_1.symm) Vx121_1 (congrArg Value.ref ex121_2.symm) Vx121_2 nx121_01 nx121_02 nx121_12) (g := (mkF m 48 #[.val (.int p0), .val (.int p1), .val (.int p2), .val (.int p3), .val (.int (3 : Int32)), .val (.int wb), .val (.int (0 : Int32)), .val (.int we), .val (.ref b117), .val (.ref r121), .unset, .unset] [(.int wb), (.int (3 : Int32)), (.ref r121)])) rfl (by rw [hml]; rfl) (argsL := [(.ref r121), (.int (3 : Int32)), (.int wb)]) (rest := []) (lenOf pd3 rfl) rfl (hb hby at_48) rfl (by decide) (Nat.le_of_ble_eq_true rfl) (k' := 6) (n' := 25) rfl rfl (by decide) (by decide)
      refine Go.by st123 ?_
      obtain ⟨rfl, rfl⟩ := q123
      show Go p.tables e below _ (T123.setTop (mkF m 51 #[.val (.int p0), .val (.int p1), .val (.int p2), .val (.int p3), .val (.int (3 : Int32)), .val (.int wb), .val (.int (0 : Int32)), .val (.int we), .val (.ref b117), .val (.ref r121), .unset, .unset] [(.int (1 : Int32))]))
      refine Go.by (fun _ => XS.ifYes X123.here hx rfl (pc0 := 51) (pc' := 56) rfl (hb hby at_51) rfl ((if0 _ _).trans (feq (by decide)).2) (by decide) (by decide)) ?_
      show Go p.tables e below _ (T123.setTop (mkF m 56 #[.val (.int p0), .val (.int p1), .val (.int p2), .val (.int p3), .val (.int (3 : Int32)), .val (.int wb), .val (.int (0 : Int32)), .val (.int we), .val (.ref b117), .val (.ref r121), .unset, .unset] []))
      refine Go.by (fun _ => XS.aload X123.here hx rfl (hb hby at_56) rfl rfl) ?_
      show Go p.tables e below _ (T123.setTop (mkF m 58 #[.val (.int p0), .val (.int p1), .val (.int p2), .val (.int p3), .val (.int (3 : Int32)), .val (.int wb), .val (.int (0 : Int32)), .val (.int we), .val (.ref b117), .val (.ref r121), .unset, .unset] [(.ref b117)]))
      refine Go.by (fun _ => XS.iload X123.here hx rfl (hb hby at_58) rfl) ?_
      refine Go.by (fun _ => XS.iload X123.here hx rfl (hb hby at_60) rfl) ?_
      obtain ⟨v124, T124, h124, X124, q124, st124⟩ := X123.callV hx hZ (y := (⟨"com/example/bitstrata/bitstrata/bitmap/Formula$Workspace", "vectors", "(II)[[J"⟩ : MethodName)) (z := (⟨"com/example/bitstrata/bitstrata/bitmap/Formula$Workspace", "vectors", "(II)[[J"⟩ : MethodName)) hown (tw hw 13 rfl) (tw hw 14 rfl) (notFace_of_selects (args := #[]) (mvT hZ (tw hw 16 rfl))) (tw hw 16 rfl) (tw hw 15 rfl) (tw hw 2 rfl) (tw hw 17 rfl) (by decide) (rm3_30 l Z a0 hw [] b117 we r121 kc121 (fun i => .ref (r121 + 1 + i)) h121 n0 Zs122 Ex121 g_b117 Fv121 V121 hw_we.1 hw_we.2) Ex121 (g := (mkF m 62 #[.val (.int p0), .val (.int p1), .val (.int p2), .val (.int p3), .val (.int (3 : Int32)), .val (.int wb), .val (.int (0 : Int32)), .val (.int we), .val (.ref b117), .val (.ref r121), .unset, .unset] [(.int we), (.int (0 : Int32)), (.ref b117)])) rfl (by rw [hml]; rfl) (argsL := [(.int (0 : Int32)), (.int we)]) (rest := []) (lenOf pd2 rfl) rfl (hb hby at_62) rfl (by decide) (Nat.le_of_ble_eq_true rfl) (k' := 6) (n' := 25) rfl rfl (by decide) (by decide)
      refine Go.by st124 ?_
      obtain ⟨rfl, rfl⟩ := q124
      show Go p.tables e below _ (T124.setTop (mkF m 65 #[.val (.int p0), .val (.int p1), .val (.int p2), .val (.int p3), .val (.int (3 : Int32)), .val (.int wb), .val (.int (0 : Int32)), .val (.int we), .val (.ref b117), .val (.ref r121), .unset, .unset] [(.ref r121)]))
      refine Go.by (fun _ => XS.astore X124.here hx rfl (hb hby at_65) rfl rfl (l' := #[.val (.int p0), .val (.int p1), .val (.int p2), .val (.int p3), .val (.int (3 : Int32)), .val (.int wb), .val (.int (0 : Int32)), .val (.int we), .val (.ref b117), .val (.ref r121), .val (.ref r121), .unset]) rfl) ?_
      show Go p.tables e below _ (T124.setTop (mkF m 67 #[.val (.int p0), .val (.int p1), .val (.int p2), .val (.int p3), .val (.int (3 : Int32)), .val (.int wb), .val (.int (0 : Int32)), .val (.int we), .val (.ref b117), .val (.ref r121), .val (.ref r121), .unset] []))
      refine Go.by (fun _ => XS.aload X124.here hx rfl (hb hby at_67) rfl rfl) ?_
      refine Go.by (fun _ => XS.iload X124.here hx rfl (hb hby at_69) rfl) ?_
      refine Go.by (fun _ => XS.iload X124.here hx rfl (hb hby at_71) rfl) ?_
      show Go p.tables e below _ (T124.setTop (mkF m 73 #[.val (.int p0), .val (.int p1), .val (.int p2), .val (.int p3), .val (.int (3 : Int32)), .val (.int wb), .val (.int (0 : Int32)), .val (.int we), .val (.ref b117), .val (.ref r121), .val (.ref r121), .unset] [(.int we), (.int (0 : Int32)), (.ref r121)]))
      obtain ⟨v125, T125, h125, X125, q125, st125⟩ := X124.callS hx hZ (y := (⟨"com/example/bitstrata/bitstrata/bitmap/WorkspaceVectorsPinLaw", "shaped", "([[JII)Z"⟩ : MethodName)) hown (tw hw 18 rfl) (tw hw 19 rfl) (tw hw 20 rfl) (tw hw 21 rfl) (by decide) (rm4_30 l Z a0 hw [] r121 we kc121 kd121 (fun i => .ref (r121 + 1 + i)) (wb.toNatClampNeg)  h121 n0 Zs122 V121) (g := (mkF m 73 #[.val (.int p0), .val (.int p1), .val (.int p2), .val (.int p3), .val (.int (3 : Int32)), .val (.int wb), .val (.int (0 : Int32)), .val (.int we), .val (.ref b117), .val (.ref r121), .val (.ref r121), .unset] [(.int we), (.int (0 : Int32)), (.ref r121)])) rfl (by rw [hml]; rfl) (argsL := [(.ref r121), (.int (0 : Int32)), (.int we)]) (rest := []) (lenOf pd3 rfl) rfl (hb hby at_73) rfl (by decide) (Nat.le_of_ble_eq_true rfl) (k' := 6) (n' := 25) rfl rfl (by decide) (by decide)
      refine Go.by st125 ?_
      obtain ⟨rfl, rfl⟩ := q125
      show Go p.tables e below _ (T125.setTop (mkF m 76 #[.val (.int p0), .val (.int p1), .val (.int p2), .val (.int p3), .val (.int (3 : Int32)), .val (.int wb), .val (.int (0 : Int32)), .val (.int we), .val (.ref b117), .val (.ref r121), .val (.ref r121), .unset] [(.int (1 : Int32))]))
      refine Go.by (fun _ => XS.ifYes X125.here hx rfl (pc0 := 76) (pc' := 81) rfl (hb hby at_76) rfl ((if0 _ _).trans (feq (by decide)).2) (by decide) (by decide)) ?_
      show Go p.tables e below _ (T125.setTop (mkF m 81 #[.val (.int p0), .val (.int p1), .val (.int p2), .val (.int p3), .val (.int (3 : Int32)), .val (.int wb), .val (.int (0 : Int32)), .val (.int we), .val (.ref b117), .val (.ref r121), .val (.ref r121), .unset] []))
      refine Go.by (fun _ => XS.iload X125.here hx rfl (hb hby at_81) rfl) ?_
      refine Go.by (fun _ => XS.iload X125.here hx rfl (hb hby at_83) rfl) ?_
      refine Go.by (fun _ => XS.icmpNo X125.here hx rfl (hb hby at_85) rfl (flt (by decide)).2.2.1) ?_
      show Go p.tables e below _ (T125.setTop (mkF m 88 #[.val (.int p0), .val (.int p1), .val (.int p2), .val (.int p3), .val (.int (3 : Int32)), .val (.int wb), .val (.int (0 : Int32)), .val (.int we), .val (.ref b117), .val (.ref r121), .val (.ref r121), .unset] []))
      refine Go.by (fun _ => XS.iload X125.here hx rfl (hb hby at_88) rfl) ?_
      refine Go.by (fun _ => XS.ifYes X125.here hx rfl (pc0 := 90) (pc' := 100) rfl (hb hby at_90) rfl ((if0 _ _).trans (teq (by decide)).1) (by decide) (by decide)) ?_
      show Go p.tables e below _ (T125.setTop (mkF m 100 #[.val (.int p0), .val (.int p1), .val (.int p2), .val (.int p3), .val (.int (3 : Int32)), .val (.int wb), .val (.int (0 : Int32)), .val (.int we), .val (.ref b117), .val (.ref r121), .val (.ref r121), .unset] []))
      refine Go.by (fun _ => XS.iconst X125.here hx rfl (hb hby at_100)) ?_
      refine Go.by (fun _ => XS.goto X125.here hx rfl (pc0 := 101) (pc' := 105) rfl (hb hby at_101) (by decide) (by decide)) ?_
      show Go p.tables e below _ (T125.setTop (mkF m 105 #[.val (.int p0), .val (.int p1), .val (.int p2), .val (.int p3), .val (.int (3 : Int32)), .val (.int wb), .val (.int (0 : Int32)), .val (.int we), .val (.ref b117), .val (.ref r121), .val (.ref r121), .unset] [(.int (1 : Int32))]))
      refine Go.by (fun _ => XS.istore X125.here hx rfl (hb hby at_105) rfl (l' := #[.val (.int p0), .val (.int p1), .val (.int p2), .val (.int p3), .val (.int (3 : Int32)), .val (.int wb), .val (.int (0 : Int32)), .val (.int we), .val (.ref b117), .val (.ref r121), .val (.ref r121), .val (.int (1 : Int32))]) rfl) ?_
      show Go p.tables e below _ (T125.setTop (mkF m 107 #[.val (.int p0), .val (.int p1), .val (.int p2), .val (.int p3), .val (.int (3 : Int32)), .val (.int wb), .val (.int (0 : Int32)), .val (.int we), .val (.ref b117), .val (.ref r121), .val (.ref r121), .val (.int (1 : Int32))] []))
      refine Go.by (fun _ => XS.iload X125.here hx rfl (hb hby at_107) rfl) ?_
      show Go p.tables e below _ (T125.setTop (mkF m 109 #[.val (.int p0), .val (.int p1), .val (.int p2), .val (.int p3), .val (.int (3 : Int32)), .val (.int wb), .val (.int (0 : Int32)), .val (.int we), .val (.ref b117), .val (.ref r121), .val (.ref r121), .val (.int (1 : Int32))] [(.int (1 : Int32))]))
      refine Go.by (fun _ => XS.ifNo X125.here hx rfl (hb hby at_109) rfl ((if0 _ _).trans (feq (by decide)).1)) ?_
      show Go p.tables e below _ (T125.setTop (mkF m 112 #[.val (.int p0), .val (.int p1), .val (.int p2), .val (.int p3), .val (.int (3 : Int32)), .val (.int wb), .val (.int (0 : Int32)), .val (.int we), .val (.ref b117), .val (.ref r121), .val (.ref r121), .val (.int (1 : Int32))] []))
      refine Go.by (fun _ => XS.aload X125.here hx rfl (hb hby at_112) rfl rfl) ?_
      refine Go.by (fun _ => XS.aload X125.here hx rfl (hb hby at_114) rfl rfl) ?_
      refine Go.by (X125.acmp (g := (mkF m 116 #[.val (.int p0), .val (.int p1), .val (.int p2), .val (.int p3), .val (.int (3 : Int32)), .val (.int wb), .val (.int (0 : Int32)), .val (.int we), .val (.ref b117), .val (.ref r121), .val (.ref r121), .val (.int (1 : Int32))] [(.ref r121), (.ref r121)])) hx rfl rfl rfl (pc0 := 116) (pc' := 121) (same := true) rfl (hb hby at_116) rfl (decide_eq_true rfl) (by decide) (by decide)) ?_
      show Go p.tables e below _ (T125.setTop (mkF m 121 #[.val (.int p0), .val (.int p1), .val (.int p2), .val (.int p3), .val (.int (3 : Int32)), .val (.int wb), .val (.int (0 : Int32)), .val (.int we), .val (.ref b117), .val (.ref r121), .val (.ref r121), .val (.int (1 : Int32))] []))
      refine Go.by (fun _ => XS.iconst X125.here hx rfl (hb hby at_121)) ?_
      exact Go.retN X125 hx hlk (z' := (1 : Int32)) hret (by simp) (hb hby at_122) rfl (by decide) (by decide) rfl
    · rw [ec]
      show Go p.tables e below _ (T0.setTop (mkF m 22 #[.val (.int p0), .val (.int p1), .val (.int p2), .val (.int p3), .val (.int (3 : Int32)), .val (.int wb), .val (.int (1 : Int32)), .val (.int we), .unset, .unset, .unset, .unset] []))
      obtain ⟨T126, h126, b126, X126, g126, E126, A126, D126, st126⟩ := X0.newO hx hZ hown (tw hw 0 rfl) (tw hw 1 rfl) (tw hw 2 rfl) (g := (mkF m 22 #[.val (.int p0), .val (.int p1), .val (.int p2), .val (.int p3), .val (.int (3 : Int32)), .val (.int wb), .val (.int (1 : Int32)), .val (.int we), .unset, .unset, .unset, .unset] [])) rfl (hb hby at_22) (k' := 1) (n' := 1) rfl rfl (by decide) (by decide)
      have g_b126 : n0 ≤ b126 := by rw [g126]; exact Z0
      have Zs127 : n0 ≤ h126.size := Nat.le_trans Z0 E126.1
      have F126_vectors : Fld Z h126 b126 "com/example/bitstrata/bitstrata/bitmap/Formula$Workspace" "vectors" "[[J" .null := D126 (Or.inl (tw hw 12 rfl)) (ty := (.array (.array .long))) (by decide)
      refine Go.by st126 ?_
      show Go p.tables e below _ (T126.setTop (mkF m 25 #[.val (.int p0), .val (.int p1), .val (.int p2), .val (.int p3), .val (.int (3 : Int32)), .val (.int wb), .val (.int (1 : Int32)), .val (.int we), .unset, .unset, .unset, .unset] [(.ref b126)]))
      refine Go.by (fun _ => XS.dup X126.here hx rfl (hb hby at_25) rfl rfl) ?_
      obtain ⟨v128, T128, h128, X128, q128, st128⟩ := X126.callI hx hZ (y := (⟨"com/example/bitstrata/bitstrata/bitmap/Formula$Workspace", "<init>", "()V"⟩ : MethodName)) rfl hown (tw hw 3 rfl) (tw hw 4 rfl) (tw hw 2 rfl) (tw hw 5 rfl) (by decide) (rm1 l Z a0 hw [] b126 h126 n0 Zs127 A126 g_b126 F126_vectors) (g := (mkF m 26 #[.val (.int p0), .val (.int p1), .val (.int p2), .val (.int p3), .val (.int (3 : Int32)), .val (.int wb), .val (.int (1 : Int32)), .val (.int we), .unset, .unset, .unset, .unset] [(.ref b126), (.ref b126)])) rfl (by rw [hml]; rfl) (argsL := []) (rest := [(.ref b126)]) (lenOf pd1 rfl) rfl (hb hby at_26) rfl (by decide) (Nat.le_of_ble_eq_true rfl) (k' := 2) (n' := 1) rfl rfl (by decide) (by decide)
      refine Go.by st128 ?_
      obtain ⟨o128, kO128, rfl, so128, K128, Ex128, Fv128, V128⟩ := q128
      have g_o128 : n0 ≤ o128 := Nat.le_trans Zs127 so128
      have ne_b126_o128 : b126 ≠ o128 := Nat.ne_of_lt (Nat.lt_of_lt_of_le A126.lt so128)
      have f129_1430 := A126.keep K128
      have Zs129 : n0 ≤ h128.size := Nat.le_trans Zs127 K128.1
      show Go p.tables e below _ (T128.setTop (mkF m 29 #[.val (.int p0), .val (.int p1), .val (.int p2), .val (.int p3), .val (.int (3 : Int32)), .val (.int wb), .val (.int (1 : Int32)), .val (.int we), .unset, .unset, .unset, .unset] [(.ref b126)]))
      refine Go.by (fun _ => XS.astore X128.here hx rfl (hb hby at_29) rfl rfl (l' := #[.val (.int p0), .val (.int p1), .val (.int p2), .val (.int p3), .val (.int (3 : Int32)), .val (.int wb), .val (.int (1 : Int32)), .val (.int we), .val (.ref b126), .unset, .unset, .unset]) rfl) ?_
      show Go p.tables e below _ (T128.setTop (mkF m 31 #[.val (.int p0), .val (.int p1), .val (.int p2), .val (.int p3), .val (.int (3 : Int32)), .val (.int wb), .val (.int (1 : Int32)), .val (.int we), .val (.ref b126), .unset, .unset, .unset] []))
      refine Go.by (fun _ => XS.aload X128.here hx rfl (hb hby at_31) rfl rfl) ?_
      refine Go.by (fun _ => XS.iload X128.here hx rfl (hb hby at_33) rfl) ?_
      refine Go.by (fun _ => XS.iload X128.here hx rfl (hb hby at_35) rfl) ?_
      obtain ⟨v130, T130, h130, X130, q130, st130⟩ := X128.callV hx hZ (y := (⟨"com/example/bitstrata/bitstrata/bitmap/Formula$Workspace", "vectors", "(II)[[J"⟩ : MethodName)) (z := (⟨"com/example/bitstrata/bitstrata/bitmap/Formula$Workspace", "vectors", "(II)[[J"⟩ : MethodName)) hown (tw hw 13 rfl) (tw hw 14 rfl) (notFace_of_selects (args := #[]) (mvT hZ (tw hw 16 rfl))) (tw hw 16 rfl) (tw hw 15 rfl) (tw hw 2 rfl) (tw hw 17 rfl) (by decide) (rm3_03 l Z a0 hw [] b126 wb o128 kO128 (fun _ => .null) h128 n0 Zs129 Ex128 g_b126 Fv128 V128 hw_wb.1 hw_wb.2) Ex128 (g := (mkF m 37 #[.val (.int p0), .val (.int p1), .val (.int p2), .val (.int p3), .val (.int (3 : Int32)), .val (.int wb), .val (.int (1 : Int32)), .val (.int we), .val (.ref b126), .unset, .unset, .unset] [(.int wb), (.int (3 : Int32)), (.ref b126)])) rfl (by rw [hml]; rfl) (argsL := [(.int (3 : Int32)), (.int wb)]) (rest := []) (lenOf pd2 rfl) rfl (hb hby at_37) rfl (by decide) (Nat.le_of_ble_eq_true rfl) (k' := 6) (n' := 25) rfl rfl (by decide) (by decide)
      refine Go.by st130 ?_
      obtain ⟨r130, kc130, kd130, rfl, sr130, K130, Ex130, Fv130, V130, VV130⟩ := q130
      have g_r130 : n0 ≤ r130 := Nat.le_trans Zs129 sr130
      have ne_b126_r130 : b126 ≠ r130 := Nat.ne_of_lt (Nat.lt_of_lt_of_le Ex128.lt sr130)
      obtain ⟨x130_0, ex130_0⟩ : ∃ z, z = r130 + 1 + 0 := ⟨_, rfl⟩
      have Vx130_0 := VV130 0 (by decide)
      rw [← ex130_0] at Vx130_0
      have sx130_0 : h128.size ≤ x130_0 := by rw [ex130_0]; exact Nat.le_trans sr130 (Nat.le_trans (Nat.le_add_right _ 1) (Nat.le_add_right _ 0))
      have g_x130_0 : n0 ≤ x130_0 := Nat.le_trans Zs129 sx130_0
      have ne_b126_x130_0 : b126 ≠ x130_0 := Nat.ne_of_lt (Nat.lt_of_lt_of_le Ex128.lt sx130_0)
      obtain ⟨x130_1, ex130_1⟩ : ∃ z, z = r130 + 1 + 1 := ⟨_, rfl⟩
      have Vx130_1 := VV130 1 (by decide)
      rw [← ex130_1] at Vx130_1
      have sx130_1 : h128.size ≤ x130_1 := by rw [ex130_1]; exact Nat.le_trans sr130 (Nat.le_trans (Nat.le_add_right _ 1) (Nat.le_add_right _ 1))
      have g_x130_1 : n0 ≤ x130_1 := Nat.le_trans Zs129 sx130_1
      have ne_b126_x130_1 : b126 ≠ x130_1 := Nat.ne_of_lt (Nat.lt_of_lt_of_le Ex128.lt sx130_1)
      obtain ⟨x130_2, ex130_2⟩ : ∃ z, z = r130 + 1 + 2 := ⟨_, rfl⟩
      have Vx130_2 := VV130 2 (by decide)
      rw [← ex130_2] at Vx130_2
      have sx130_2 : h128.size ≤ x130_2 := by rw [ex130_2]; exact Nat.le_trans sr130 (Nat.le_trans (Nat.le_add_right _ 1) (Nat.le_add_right _ 2))
      have g_x130_2 : n0 ≤ x130_2 := Nat.le_trans Zs129 sx130_2
      have ne_b126_x130_2 : b126 ≠ x130_2 := Nat.ne_of_lt (Nat.lt_of_lt_of_le Ex128.lt sx130_2)
      have f131_1461 := Ex128.keep K130
      have Zs131 : n0 ≤ h130.size := Nat.le_trans Zs129 K130.1
      have nx130_01 : x130_0 ≠ x130_1 := by rw [ex130_0, ex130_1]; exact fun q => absurd (Nat.add_left_cancel q) (by decide)
      have nx130_02 : x130_0 ≠ x130_2 := by rw [ex130_0, ex130_2]; exact fun q => absurd (Nat.add_left_cancel q) (by decide)
      have nx130_12 : x130_1 ≠ x130_2 := by rw [ex130_1, ex130_2]; exact fun q => absurd (Nat.add_left_cancel q) (by decide)
      show Go p.tables e below _ (T130.setTop (mkF m 40 #[.val (.int p0), .val (.int p1), .val (.int p2), .val (.int p3), .val (.int (3 : Int32)), .val (.int wb), .val (.int (1 : Int32)), .val (.int we), .val (.ref b126), .unset, .unset, .unset] [(.ref r130)]))
      refine Go.by (fun _ => XS.astore X130.here hx rfl (hb hby at_40) rfl rfl (l' := #[.val (.int p0), .val (.int p1), .val (.int p2), .val (.int p3), .val (.int (3 : Int32)), .val (.int wb), .val (.int (1 : Int32)), .val (.int we), .val (.ref b126), .val (.ref r130), .unset, .unset]) rfl) ?_
      show Go p.tables e below _ (T130.setTop (mkF m 42 #[.val (.int p0), .val (.int p1), .val (.int p2), .val (.int p3), .val (.int (3 : Int32)), .val (.int wb), .val (.int (1 : Int32)), .val (.int we), .val (.ref b126), .val (.ref r130), .unset, .unset] []))
      refine Go.by (fun _ => XS.aload X130.here hx rfl (hb hby at_42) rfl rfl) ?_
      refine Go.by (fun _ => XS.iload X130.here hx rfl (hb hby at_44) rfl) ?_
      show Go p.tables e below _ (T130.setTop (mkF m 46 #[.val (.int p0), .val (.int p1), .val (.int p2), .val (.int p3), .val (.int (3 : Int32)), .val (.int wb), .val (.int (1 : Int32)), .val (.int we), .val (.ref b126), .val (.ref r130), .unset, .unset] [(.int (3 : Int32)), (.ref r130)]))
      refine Go.by (fun _ => XS.iload X130.here hx rfl (hb hby at_46) rfl) ?_
      obtain ⟨v132, T132, h132, X132, q132, st132⟩ := X130.callS hx hZ (y := (⟨"com/example/bitstrata/bitstrata/bitmap/WorkspaceVectorsPinLaw", "shaped", "([[JII)Z"⟩ : MethodName)) hown (tw hw 18 rfl) (tw hw 19 rfl) (tw hw 20 rfl) (tw hw 21 rfl) (by decide) (rm4_33 l Z a0 hw [] r130 wb kc130 kd130 (fun i => .ref (r130 + 1 + i)) (wb.toNatClampNeg) x130_0 x130_1 x130_2 h130 n0 Zs131 V130 (back32 hw_wb.1).1 (congrArg Value.ref ex130_0.symm) Vx130_0 (congrArg Value.ref ex130_1.symm) Vx130_1 (congrArg Value.ref ex130_2.symm) Vx130_2 nx130_01 nx130_02 nx130_12) (g := (mkF m 48 #[.val (.int p0), .val (.int p1), .val (.int p2), .val (.int p3), .val (.int (3 : Int32)), .val (.int wb), .val (.int (1 : Int32)), .val (.int we), .val (.ref b126), .val (.ref r130), .unset, .unset] [(.int wb), (.int (3 : Int32)), (.ref r130)])) rfl (by rw [hml]; rfl) (argsL := [(.ref r130), (.int (3 : Int32)), (.int wb)]) (rest := []) (lenOf pd3 rfl) rfl (hb hby at_48) rfl (by decide) (Nat.le_of_ble_eq_true rfl) (k' := 6) (n' := 25) rfl rfl (by decide) (by decide)
      refine Go.by st132 ?_
      obtain ⟨rfl, rfl⟩ := q132
      show Go p.tables e below _ (T132.setTop (mkF m 51 #[.val (.int p0), .val (.int p1), .val (.int p2), .val (.int p3), .val (.int (3 : Int32)), .val (.int wb), .val (.int (1 : Int32)), .val (.int we), .val (.ref b126), .val (.ref r130), .unset, .unset] [(.int (1 : Int32))]))
      refine Go.by (fun _ => XS.ifYes X132.here hx rfl (pc0 := 51) (pc' := 56) rfl (hb hby at_51) rfl ((if0 _ _).trans (feq (by decide)).2) (by decide) (by decide)) ?_
      show Go p.tables e below _ (T132.setTop (mkF m 56 #[.val (.int p0), .val (.int p1), .val (.int p2), .val (.int p3), .val (.int (3 : Int32)), .val (.int wb), .val (.int (1 : Int32)), .val (.int we), .val (.ref b126), .val (.ref r130), .unset, .unset] []))
      refine Go.by (fun _ => XS.aload X132.here hx rfl (hb hby at_56) rfl rfl) ?_
      refine Go.by (fun _ => XS.iload X132.here hx rfl (hb hby at_58) rfl) ?_
      refine Go.by (fun _ => XS.iload X132.here hx rfl (hb hby at_60) rfl) ?_
      obtain ⟨v133, T133, h133, X133, q133, st133⟩ := X132.callV hx hZ (y := (⟨"com/example/bitstrata/bitstrata/bitmap/Formula$Workspace", "vectors", "(II)[[J"⟩ : MethodName)) (z := (⟨"com/example/bitstrata/bitstrata/bitmap/Formula$Workspace", "vectors", "(II)[[J"⟩ : MethodName)) hown (tw hw 13 rfl) (tw hw 14 rfl) (notFace_of_selects (args := #[]) (mvT hZ (tw hw 16 rfl))) (tw hw 16 rfl) (tw hw 15 rfl) (tw hw 2 rfl) (tw hw 17 rfl) (by decide) (rm3_31 l Z a0 hw [] b126 we r130 kc130 (fun i => .ref (r130 + 1 + i)) x130_0 kd130 (wb.toNatClampNeg) h130 n0 Zs131 Ex130 g_b126 Fv130 V130 hw_we.1 hw_we.2 (congrArg Value.ref ex130_0.symm) Vx130_0) Ex130 (g := (mkF m 62 #[.val (.int p0), .val (.int p1), .val (.int p2), .val (.int p3), .val (.int (3 : Int32)), .val (.int wb), .val (.int (1 : Int32)), .val (.int we), .val (.ref b126), .val (.ref r130), .unset, .unset] [(.int we), (.int (1 : Int32)), (.ref b126)])) rfl (by rw [hml]; rfl) (argsL := [(.int (1 : Int32)), (.int we)]) (rest := []) (lenOf pd2 rfl) rfl (hb hby at_62) rfl (by decide) (Nat.le_of_ble_eq_true rfl) (k' := 8) (n' := 33) rfl rfl (by decide) (by decide)
      refine Go.by st133 ?_
      rcases q133 with ⟨hcd133, rfl, rfl⟩ | ⟨hcd133, ⟨r133, kc133, kd133, rfl, sr133, K133, Ex133, Fv133, V133, VV133⟩⟩
      · skip
        show Go p.tables e below _ (T133.setTop (mkF m 65 #[.val (.int p0), .val (.int p1), .val (.int p2), .val (.int p3), .val (.int (3 : Int32)), .val (.int wb), .val (.int (1 : Int32)), .val (.int we), .val (.ref b126), .val (.ref r130), .unset, .unset] [(.ref r130)]))
        refine Go.by (fun _ => XS.astore X133.here hx rfl (hb hby at_65) rfl rfl (l' := #[.val (.int p0), .val (.int p1), .val (.int p2), .val (.int p3), .val (.int (3 : Int32)), .val (.int wb), .val (.int (1 : Int32)), .val (.int we), .val (.ref b126), .val (.ref r130), .val (.ref r130), .unset]) rfl) ?_
        show Go p.tables e below _ (T133.setTop (mkF m 67 #[.val (.int p0), .val (.int p1), .val (.int p2), .val (.int p3), .val (.int (3 : Int32)), .val (.int wb), .val (.int (1 : Int32)), .val (.int we), .val (.ref b126), .val (.ref r130), .val (.ref r130), .unset] []))
        refine Go.by (fun _ => XS.aload X133.here hx rfl (hb hby at_67) rfl rfl) ?_
        show Go p.tables e below _ (T133.setTop (mkF m 69 #[.val (.int p0), .val (.int p1), .val (.int p2), .val (.int p3), .val (.int (3 : Int32)), .val (.int wb), .val (.int (1 : Int32)), .val (.int we), .val (.ref b126), .val (.ref r130), .val (.ref r130), .unset] [(.ref r130)]))
        refine Go.by (fun _ => XS.iload X133.here hx rfl (hb hby at_69) rfl) ?_
        refine Go.by (fun _ => XS.iload X133.here hx rfl (hb hby at_71) rfl) ?_
        obtain ⟨v134, T134, h134, X134, q134, st134⟩ := X133.callS hx hZ (y := (⟨"com/example/bitstrata/bitstrata/bitmap/WorkspaceVectorsPinLaw", "shaped", "([[JII)Z"⟩ : MethodName)) hown (tw hw 18 rfl) (tw hw 19 rfl) (tw hw 20 rfl) (tw hw 21 rfl) (by decide) (rm4_31 l Z a0 hw [] r130 we kc130 kd130 (fun i => .ref (r130 + 1 + i)) (wb.toNatClampNeg) x130_0 h130 n0 Zs131 V130 hcd133 (congrArg Value.ref ex130_0.symm) Vx130_0) (g := (mkF m 73 #[.val (.int p0), .val (.int p1), .val (.int p2), .val (.int p3), .val (.int (3 : Int32)), .val (.int wb), .val (.int (1 : Int32)), .val (.int we), .val (.ref b126), .val (.ref r130), .val (.ref r130), .unset] [(.int we), (.int (1 : Int32)), (.ref r130)])) rfl (by rw [hml]; rfl) (argsL := [(.ref r130), (.int (1 : Int32)), (.int we)]) (rest := []) (lenOf pd3 rfl) rfl (hb hby at_73) rfl (by decide) (Nat.le_of_ble_eq_true rfl) (k' := 8) (n' := 33) rfl rfl (by decide) (by decide)
        refine Go.by st134 ?_
        obtain ⟨rfl, rfl⟩ := q134
        show Go p.tables e below _ (T134.setTop (mkF m 76 #[.val (.int p0), .val (.int p1), .val (.int p2), .val (.int p3), .val (.int (3 : Int32)), .val (.int wb), .val (.int (1 : Int32)), .val (.int we), .val (.ref b126), .val (.ref r130), .val (.ref r130), .unset] [(.int (1 : Int32))]))
        refine Go.by (fun _ => XS.ifYes X134.here hx rfl (pc0 := 76) (pc' := 81) rfl (hb hby at_76) rfl ((if0 _ _).trans (feq (by decide)).2) (by decide) (by decide)) ?_
        show Go p.tables e below _ (T134.setTop (mkF m 81 #[.val (.int p0), .val (.int p1), .val (.int p2), .val (.int p3), .val (.int (3 : Int32)), .val (.int wb), .val (.int (1 : Int32)), .val (.int we), .val (.ref b126), .val (.ref r130), .val (.ref r130), .unset] []))
        refine Go.by (fun _ => XS.iload X134.here hx rfl (hb hby at_81) rfl) ?_
        refine Go.by (fun _ => XS.iload X134.here hx rfl (hb hby at_83) rfl) ?_
        refine Go.by (fun _ => XS.icmpNo X134.here hx rfl (hb hby at_85) rfl (flt (by decide)).2.2.1) ?_
        show Go p.tables e below _ (T134.setTop (mkF m 88 #[.val (.int p0), .val (.int p1), .val (.int p2), .val (.int p3), .val (.int (3 : Int32)), .val (.int wb), .val (.int (1 : Int32)), .val (.int we), .val (.ref b126), .val (.ref r130), .val (.ref r130), .unset] []))
        refine Go.by (fun _ => XS.iload X134.here hx rfl (hb hby at_88) rfl) ?_
        refine Go.by (fun _ => XS.ifNo X134.here hx rfl (hb hby at_90) rfl ((if0 _ _).trans (feq (by decide)).1)) ?_
        show Go p.tables e below _ (T134.setTop (mkF m 93 #[.val (.int p0), .val (.int p1), .val (.int p2), .val (.int p3), .val (.int (3 : Int32)), .val (.int wb), .val (.int (1 : Int32)), .val (.int we), .val (.ref b126), .val (.ref r130), .val (.ref r130), .unset] []))
        refine Go.by (fun _ => XS.iload X134.here hx rfl (hb hby at_93) rfl) ?_
        show Go p.tables e below _ (T134.setTop (mkF m 95 #[.val (.int p0), .val (.int p1), .val (.int p2), .val (.int p3), .val (.int (3 : Int32)), .val (.int wb), .val (.int (1 : Int32)), .val (.int we), .val (.ref b126), .val (.ref r130), .val (.ref r130), .unset] [(.int we)]))
        refine Go.by (fun _ => XS.iload X134.here hx rfl (hb hby at_95) rfl) ?_
        refine Go.by (fun _ => XS.icmpNo X134.here hx rfl (hb hby at_97) rfl (teq (hcd133.symm.trans (back32 hw_wb.1).1)).2) ?_
        show Go p.tables e below _ (T134.setTop (mkF m 100 #[.val (.int p0), .val (.int p1), .val (.int p2), .val (.int p3), .val (.int (3 : Int32)), .val (.int wb), .val (.int (1 : Int32)), .val (.int we), .val (.ref b126), .val (.ref r130), .val (.ref r130), .unset] []))
        refine Go.by (fun _ => XS.iconst X134.here hx rfl (hb hby at_100)) ?_
        refine Go.by (fun _ => XS.goto X134.here hx rfl (pc0 := 101) (pc' := 105) rfl (hb hby at_101) (by decide) (by decide)) ?_
        show Go p.tables e below _ (T134.setTop (mkF m 105 #[.val (.int p0), .val (.int p1), .val (.int p2), .val (.int p3), .val (.int (3 : Int32)), .val (.int wb), .val (.int (1 : Int32)), .val (.int we), .val (.ref b126), .val (.ref r130), .val (.ref r130), .unset] [(.int (1 : Int32))]))
        refine Go.by (fun _ => XS.istore X134.here hx rfl (hb hby at_105) rfl (l' := #[.val (.int p0), .val (.int p1), .val (.int p2), .val (.int p3), .val (.int (3 : Int32)), .val (.int wb), .val (.int (1 : Int32)), .val (.int we), .val (.ref b126), .val (.ref r130), .val (.ref r130), .val (.int (1 : Int32))]) rfl) ?_
        show Go p.tables e below _ (T134.setTop (mkF m 107 #[.val (.int p0), .val (.int p1), .val (.int p2), .val (.int p3), .val (.int (3 : Int32)), .val (.int wb), .val (.int (1 : Int32)), .val (.int we), .val (.ref b126), .val (.ref r130), .val (.ref r130), .val (.int (1 : Int32))] []))
        refine Go.by (fun _ => XS.iload X134.here hx rfl (hb hby at_107) rfl) ?_
        refine Go.by (fun _ => XS.ifNo X134.here hx rfl (hb hby at_109) rfl ((if0 _ _).trans (feq (by decide)).1)) ?_
        show Go p.tables e below _ (T134.setTop (mkF m 112 #[.val (.int p0), .val (.int p1), .val (.int p2), .val (.int p3), .val (.int (3 : Int32)), .val (.int wb), .val (.int (1 : Int32)), .val (.int we), .val (.ref b126), .val (.ref r130), .val (.ref r130), .val (.int (1 : Int32))] []))
        refine Go.by (fun _ => XS.aload X134.here hx rfl (hb hby at_112) rfl rfl) ?_
        refine Go.by (fun _ => XS.aload X134.here hx rfl (hb hby at_114) rfl rfl) ?_
        show Go p.tables e below _ (T134.setTop (mkF m 116 #[.val (.int p0), .val (.int p1), .val (.int p2), .val (.int p3), .val (.int (3 : Int32)), .val (.int wb), .val (.int (1 : Int32)), .val (.int we), .val (.ref b126), .val (.ref r130), .val (.ref r130), .val (.int (1 : Int32))] [(.ref r130), (.ref r130)]))
        refine Go.by (X134.acmp (g := (mkF m 116 #[.val (.int p0), .val (.int p1), .val (.int p2), .val (.int p3), .val (.int (3 : Int32)), .val (.int wb), .val (.int (1 : Int32)), .val (.int we), .val (.ref b126), .val (.ref r130), .val (.ref r130), .val (.int (1 : Int32))] [(.ref r130), (.ref r130)])) hx rfl rfl rfl (pc0 := 116) (pc' := 121) (same := true) rfl (hb hby at_116) rfl (decide_eq_true rfl) (by decide) (by decide)) ?_
        show Go p.tables e below _ (T134.setTop (mkF m 121 #[.val (.int p0), .val (.int p1), .val (.int p2), .val (.int p3), .val (.int (3 : Int32)), .val (.int wb), .val (.int (1 : Int32)), .val (.int we), .val (.ref b126), .val (.ref r130), .val (.ref r130), .val (.int (1 : Int32))] []))
        refine Go.by (fun _ => XS.iconst X134.here hx rfl (hb hby at_121)) ?_
        exact Go.retN X134 hx hlk (z' := (1 : Int32)) hret (by simp) (hb hby at_122) rfl (by decide) (by decide) rfl
      · skip
        have g_r133 : n0 ≤ r133 := Nat.le_trans Zs131 sr133
        have ne_b126_r133 : b126 ≠ r133 := Nat.ne_of_lt (Nat.lt_of_lt_of_le Ex130.lt sr133)
        obtain ⟨x133_0, ex133_0⟩ : ∃ z, z = r133 + 1 + 0 := ⟨_, rfl⟩
        have Vx133_0 := VV133 0 (by decide)
        rw [← ex133_0] at Vx133_0
        have sx133_0 : h130.size ≤ x133_0 := by rw [ex133_0]; exact Nat.le_trans sr133 (Nat.le_trans (Nat.le_add_right _ 1) (Nat.le_add_right _ 0))
        have g_x133_0 : n0 ≤ x133_0 := Nat.le_trans Zs131 sx133_0
        have ne_b126_x133_0 : b126 ≠ x133_0 := Nat.ne_of_lt (Nat.lt_of_lt_of_le Ex130.lt sx133_0)
        have f135_1535 := Ex130.keep K133
        have Zs135 : n0 ≤ h133.size := Nat.le_trans Zs131 K133.1
        show Go p.tables e below _ (T133.setTop (mkF m 65 #[.val (.int p0), .val (.int p1), .val (.int p2), .val (.int p3), .val (.int (3 : Int32)), .val (.int wb), .val (.int (1 : Int32)), .val (.int we), .val (.ref b126), .val (.ref r130), .unset, .unset] [(.ref r133)]))
        refine Go.by (fun _ => XS.astore X133.here hx rfl (hb hby at_65) rfl rfl (l' := #[.val (.int p0), .val (.int p1), .val (.int p2), .val (.int p3), .val (.int (3 : Int32)), .val (.int wb), .val (.int (1 : Int32)), .val (.int we), .val (.ref b126), .val (.ref r130), .val (.ref r133), .unset]) rfl) ?_
        show Go p.tables e below _ (T133.setTop (mkF m 67 #[.val (.int p0), .val (.int p1), .val (.int p2), .val (.int p3), .val (.int (3 : Int32)), .val (.int wb), .val (.int (1 : Int32)), .val (.int we), .val (.ref b126), .val (.ref r130), .val (.ref r133), .unset] []))
        refine Go.by (fun _ => XS.aload X133.here hx rfl (hb hby at_67) rfl rfl) ?_
        refine Go.by (fun _ => XS.iload X133.here hx rfl (hb hby at_69) rfl) ?_
        refine Go.by (fun _ => XS.iload X133.here hx rfl (hb hby at_71) rfl) ?_
        obtain ⟨v136, T136, h136, X136, q136, st136⟩ := X133.callS hx hZ (y := (⟨"com/example/bitstrata/bitstrata/bitmap/WorkspaceVectorsPinLaw", "shaped", "([[JII)Z"⟩ : MethodName)) hown (tw hw 18 rfl) (tw hw 19 rfl) (tw hw 20 rfl) (tw hw 21 rfl) (by decide) (rm4_11 l Z a0 hw [] r133 we kc133 kd133 (fun i => .ref (r133 + 1 + i)) (we.toNatClampNeg) x133_0 h133 n0 Zs135 V133 (back32 hw_we.1).1 (congrArg Value.ref ex133_0.symm) Vx133_0) (g := (mkF m 73 #[.val (.int p0), .val (.int p1), .val (.int p2), .val (.int p3), .val (.int (3 : Int32)), .val (.int wb), .val (.int (1 : Int32)), .val (.int we), .val (.ref b126), .val (.ref r130), .val (.ref r133), .unset] [(.int we), (.int (1 : Int32)), (.ref r133)])) rfl (by rw [hml]; rfl) (argsL := [(.ref r133), (.int (1 : Int32)), (.int we)]) (rest := []) (lenOf pd3 rfl) rfl (hb hby at_73) rfl (by decide) (Nat.le_of_ble_eq_true rfl) (k' := 8) (n' := 33) rfl rfl (by decide) (by decide)
        refine Go.by st136 ?_
        obtain ⟨rfl, rfl⟩ := q136
        show Go p.tables e below _ (T136.setTop (mkF m 76 #[.val (.int p0), .val (.int p1), .val (.int p2), .val (.int p3), .val (.int (3 : Int32)), .val (.int wb), .val (.int (1 : Int32)), .val (.int we), .val (.ref b126), .val (.ref r130), .val (.ref r133), .unset] [(.int (1 : Int32))]))
        refine Go.by (fun _ => XS.ifYes X136.here hx rfl (pc0 := 76) (pc' := 81) rfl (hb hby at_76) rfl ((if0 _ _).trans (feq (by decide)).2) (by decide) (by decide)) ?_
        show Go p.tables e below _ (T136.setTop (mkF m 81 #[.val (.int p0), .val (.int p1), .val (.int p2), .val (.int p3), .val (.int (3 : Int32)), .val (.int wb), .val (.int (1 : Int32)), .val (.int we), .val (.ref b126), .val (.ref r130), .val (.ref r133), .unset] []))
        refine Go.by (fun _ => XS.iload X136.here hx rfl (hb hby at_81) rfl) ?_
        show Go p.tables e below _ (T136.setTop (mkF m 83 #[.val (.int p0), .val (.int p1), .val (.int p2), .val (.int p3), .val (.int (3 : Int32)), .val (.int wb), .val (.int (1 : Int32)), .val (.int we), .val (.ref b126), .val (.ref r130), .val (.ref r133), .unset] [(.int (1 : Int32))]))
        refine Go.by (fun _ => XS.iload X136.here hx rfl (hb hby at_83) rfl) ?_
        refine Go.by (fun _ => XS.icmpNo X136.here hx rfl (hb hby at_85) rfl (flt (by decide)).2.2.1) ?_
        show Go p.tables e below _ (T136.setTop (mkF m 88 #[.val (.int p0), .val (.int p1), .val (.int p2), .val (.int p3), .val (.int (3 : Int32)), .val (.int wb), .val (.int (1 : Int32)), .val (.int we), .val (.ref b126), .val (.ref r130), .val (.ref r133), .unset] []))
        refine Go.by (fun _ => XS.iload X136.here hx rfl (hb hby at_88) rfl) ?_
        refine Go.by (fun _ => XS.ifNo X136.here hx rfl (hb hby at_90) rfl ((if0 _ _).trans (feq (by decide)).1)) ?_
        show Go p.tables e below _ (T136.setTop (mkF m 93 #[.val (.int p0), .val (.int p1), .val (.int p2), .val (.int p3), .val (.int (3 : Int32)), .val (.int wb), .val (.int (1 : Int32)), .val (.int we), .val (.ref b126), .val (.ref r130), .val (.ref r133), .unset] []))
        refine Go.by (fun _ => XS.iload X136.here hx rfl (hb hby at_93) rfl) ?_
        refine Go.by (fun _ => XS.iload X136.here hx rfl (hb hby at_95) rfl) ?_
        refine Go.by (fun _ => XS.icmpYes X136.here hx rfl (pc0 := 97) (pc' := 104) rfl (hb hby at_97) rfl (feq (fun q => hcd133 ((back32 hw_wb.1).1.trans q.symm))).2 (by decide) (by decide)) ?_
        show Go p.tables e below _ (T136.setTop (mkF m 104 #[.val (.int p0), .val (.int p1), .val (.int p2), .val (.int p3), .val (.int (3 : Int32)), .val (.int wb), .val (.int (1 : Int32)), .val (.int we), .val (.ref b126), .val (.ref r130), .val (.ref r133), .unset] []))
        refine Go.by (fun _ => XS.iconst X136.here hx rfl (hb hby at_104)) ?_
        refine Go.by (fun _ => XS.istore X136.here hx rfl (hb hby at_105) rfl (l' := #[.val (.int p0), .val (.int p1), .val (.int p2), .val (.int p3), .val (.int (3 : Int32)), .val (.int wb), .val (.int (1 : Int32)), .val (.int we), .val (.ref b126), .val (.ref r130), .val (.ref r133), .val (.int (0 : Int32))]) rfl) ?_
        show Go p.tables e below _ (T136.setTop (mkF m 107 #[.val (.int p0), .val (.int p1), .val (.int p2), .val (.int p3), .val (.int (3 : Int32)), .val (.int wb), .val (.int (1 : Int32)), .val (.int we), .val (.ref b126), .val (.ref r130), .val (.ref r133), .val (.int (0 : Int32))] []))
        refine Go.by (fun _ => XS.iload X136.here hx rfl (hb hby at_107) rfl) ?_
        refine Go.by (fun _ => XS.ifYes X136.here hx rfl (pc0 := 109) (pc' := 121) rfl (hb hby at_109) rfl ((if0 _ _).trans (teq (by decide)).1) (by decide) (by decide)) ?_
        show Go p.tables e below _ (T136.setTop (mkF m 121 #[.val (.int p0), .val (.int p1), .val (.int p2), .val (.int p3), .val (.int (3 : Int32)), .val (.int wb), .val (.int (1 : Int32)), .val (.int we), .val (.ref b126), .val (.ref r130), .val (.ref r133), .val (.int (0 : Int32))] []))
        refine Go.by (fun _ => XS.iconst X136.here hx rfl (hb hby at_121)) ?_
        exact Go.retN X136 hx hlk (z' := (1 : Int32)) hret (by simp) (hb hby at_122) rfl (by decide) (by decide) rfl
    · rw [ec]
      show Go p.tables e below _ (T0.setTop (mkF m 22 #[.val (.int p0), .val (.int p1), .val (.int p2), .val (.int p3), .val (.int (3 : Int32)), .val (.int wb), .val (.int (2 : Int32)), .val (.int we), .unset, .unset, .unset, .unset] []))
      obtain ⟨T137, h137, b137, X137, g137, E137, A137, D137, st137⟩ := X0.newO hx hZ hown (tw hw 0 rfl) (tw hw 1 rfl) (tw hw 2 rfl) (g := (mkF m 22 #[.val (.int p0), .val (.int p1), .val (.int p2), .val (.int p3), .val (.int (3 : Int32)), .val (.int wb), .val (.int (2 : Int32)), .val (.int we), .unset, .unset, .unset, .unset] [])) rfl (hb hby at_22) (k' := 1) (n' := 1) rfl rfl (by decide) (by decide)
      have g_b137 : n0 ≤ b137 := by rw [g137]; exact Z0
      have Zs138 : n0 ≤ h137.size := Nat.le_trans Z0 E137.1
      have F137_vectors : Fld Z h137 b137 "com/example/bitstrata/bitstrata/bitmap/Formula$Workspace" "vectors" "[[J" .null := D137 (Or.inl (tw hw 12 rfl)) (ty := (.array (.array .long))) (by decide)
      refine Go.by st137 ?_
      show Go p.tables e below _ (T137.setTop (mkF m 25 #[.val (.int p0), .val (.int p1), .val (.int p2), .val (.int p3), .val (.int (3 : Int32)), .val (.int wb), .val (.int (2 : Int32)), .val (.int we), .unset, .unset, .unset, .unset] [(.ref b137)]))
      refine Go.by (fun _ => XS.dup X137.here hx rfl (hb hby at_25) rfl rfl) ?_
      obtain ⟨v139, T139, h139, X139, q139, st139⟩ := X137.callI hx hZ (y := (⟨"com/example/bitstrata/bitstrata/bitmap/Formula$Workspace", "<init>", "()V"⟩ : MethodName)) rfl hown (tw hw 3 rfl) (tw hw 4 rfl) (tw hw 2 rfl) (tw hw 5 rfl) (by decide) (rm1 l Z a0 hw [] b137 h137 n0 Zs138 A137 g_b137 F137_vectors) (g := (mkF m 26 #[.val (.int p0), .val (.int p1), .val (.int p2), .val (.int p3), .val (.int (3 : Int32)), .val (.int wb), .val (.int (2 : Int32)), .val (.int we), .unset, .unset, .unset, .unset] [(.ref b137), (.ref b137)])) rfl (by rw [hml]; rfl) (argsL := []) (rest := [(.ref b137)]) (lenOf pd1 rfl) rfl (hb hby at_26) rfl (by decide) (Nat.le_of_ble_eq_true rfl) (k' := 2) (n' := 1) rfl rfl (by decide) (by decide)
      refine Go.by st139 ?_
      obtain ⟨o139, kO139, rfl, so139, K139, Ex139, Fv139, V139⟩ := q139
      have g_o139 : n0 ≤ o139 := Nat.le_trans Zs138 so139
      have ne_b137_o139 : b137 ≠ o139 := Nat.ne_of_lt (Nat.lt_of_lt_of_le A137.lt so139)
      have f140_1583 := A137.keep K139
      have Zs140 : n0 ≤ h139.size := Nat.le_trans Zs138 K139.1
      show Go p.tables e below _ (T139.setTop (mkF m 29 #[.val (.int p0), .val (.int p1), .val (.int p2), .val (.int p3), .val (.int (3 : Int32)), .val (.int wb), .val (.int (2 : Int32)), .val (.int we), .unset, .unset, .unset, .unset] [(.ref b137)]))
      refine Go.by (fun _ => XS.astore X139.here hx rfl (hb hby at_29) rfl rfl (l' := #[.val (.int p0), .val (.int p1), .val (.int p2), .val (.int p3), .val (.int (3 : Int32)), .val (.int wb), .val (.int (2 : Int32)), .val (.int we), .val (.ref b137), .unset, .unset, .unset]) rfl) ?_
      show Go p.tables e below _ (T139.setTop (mkF m 31 #[.val (.int p0), .val (.int p1), .val (.int p2), .val (.int p3), .val (.int (3 : Int32)), .val (.int wb), .val (.int (2 : Int32)), .val (.int we), .val (.ref b137), .unset, .unset, .unset] []))
      refine Go.by (fun _ => XS.aload X139.here hx rfl (hb hby at_31) rfl rfl) ?_
      show Go p.tables e below _ (T139.setTop (mkF m 33 #[.val (.int p0), .val (.int p1), .val (.int p2), .val (.int p3), .val (.int (3 : Int32)), .val (.int wb), .val (.int (2 : Int32)), .val (.int we), .val (.ref b137), .unset, .unset, .unset] [(.ref b137)]))
      refine Go.by (fun _ => XS.iload X139.here hx rfl (hb hby at_33) rfl) ?_
      refine Go.by (fun _ => XS.iload X139.here hx rfl (hb hby at_35) rfl) ?_
      obtain ⟨v141, T141, h141, X141, q141, st141⟩ := X139.callV hx hZ (y := (⟨"com/example/bitstrata/bitstrata/bitmap/Formula$Workspace", "vectors", "(II)[[J"⟩ : MethodName)) (z := (⟨"com/example/bitstrata/bitstrata/bitmap/Formula$Workspace", "vectors", "(II)[[J"⟩ : MethodName)) hown (tw hw 13 rfl) (tw hw 14 rfl) (notFace_of_selects (args := #[]) (mvT hZ (tw hw 16 rfl))) (tw hw 16 rfl) (tw hw 15 rfl) (tw hw 2 rfl) (tw hw 17 rfl) (by decide) (rm3_03 l Z a0 hw [] b137 wb o139 kO139 (fun _ => .null) h139 n0 Zs140 Ex139 g_b137 Fv139 V139 hw_wb.1 hw_wb.2) Ex139 (g := (mkF m 37 #[.val (.int p0), .val (.int p1), .val (.int p2), .val (.int p3), .val (.int (3 : Int32)), .val (.int wb), .val (.int (2 : Int32)), .val (.int we), .val (.ref b137), .unset, .unset, .unset] [(.int wb), (.int (3 : Int32)), (.ref b137)])) rfl (by rw [hml]; rfl) (argsL := [(.int (3 : Int32)), (.int wb)]) (rest := []) (lenOf pd2 rfl) rfl (hb hby at_37) rfl (by decide) (Nat.le_of_ble_eq_true rfl) (k' := 6) (n' := 25) rfl rfl (by decide) (by decide)
      refine Go.by st141 ?_
      obtain ⟨r141, kc141, kd141, rfl, sr141, K141, Ex141, Fv141, V141, VV141⟩ := q141
      have g_r141 : n0 ≤ r141 := Nat.le_trans Zs140 sr141
      have ne_b137_r141 : b137 ≠ r141 := Nat.ne_of_lt (Nat.lt_of_lt_of_le Ex139.lt sr141)
      obtain ⟨x141_0, ex141_0⟩ : ∃ z, z = r141 + 1 + 0 := ⟨_, rfl⟩
      have Vx141_0 := VV141 0 (by decide)
      rw [← ex141_0] at Vx141_0
      have sx141_0 : h139.size ≤ x141_0 := by rw [ex141_0]; exact Nat.le_trans sr141 (Nat.le_trans (Nat.le_add_right _ 1) (Nat.le_add_right _ 0))
      have g_x141_0 : n0 ≤ x141_0 := Nat.le_trans Zs140 sx141_0
      have ne_b137_x141_0 : b137 ≠ x141_0 := Nat.ne_of_lt (Nat.lt_of_lt_of_le Ex139.lt sx141_0)
      obtain ⟨x141_1, ex141_1⟩ : ∃ z, z = r141 + 1 + 1 := ⟨_, rfl⟩
      have Vx141_1 := VV141 1 (by decide)
      rw [← ex141_1] at Vx141_1
      have sx141_1 : h139.size ≤ x141_1 := by rw [ex141_1]; exact Nat.le_trans sr141 (Nat.le_trans (Nat.le_add_right _ 1) (Nat.le_add_right _ 1))
      have g_x141_1 : n0 ≤ x141_1 := Nat.le_trans Zs140 sx141_1
      have ne_b137_x141_1 : b137 ≠ x141_1 := Nat.ne_of_lt (Nat.lt_of_lt_of_le Ex139.lt sx141_1)
      obtain ⟨x141_2, ex141_2⟩ : ∃ z, z = r141 + 1 + 2 := ⟨_, rfl⟩
      have Vx141_2 := VV141 2 (by decide)
      rw [← ex141_2] at Vx141_2
      have sx141_2 : h139.size ≤ x141_2 := by rw [ex141_2]; exact Nat.le_trans sr141 (Nat.le_trans (Nat.le_add_right _ 1) (Nat.le_add_right _ 2))
      have g_x141_2 : n0 ≤ x141_2 := Nat.le_trans Zs140 sx141_2
      have ne_b137_x141_2 : b137 ≠ x141_2 := Nat.ne_of_lt (Nat.lt_of_lt_of_le Ex139.lt sx141_2)
      have f142_1615 := Ex139.keep K141
      have Zs142 : n0 ≤ h141.size := Nat.le_trans Zs140 K141.1
      have nx141_01 : x141_0 ≠ x141_1 := by rw [ex141_0, ex141_1]; exact fun q => absurd (Nat.add_left_cancel q) (by decide)
      have nx141_02 : x141_0 ≠ x141_2 := by rw [ex141_0, ex141_2]; exact fun q => absurd (Nat.add_left_cancel q) (by decide)
      have nx141_12 : x141_1 ≠ x141_2 := by rw [ex141_1, ex141_2]; exact fun q => absurd (Nat.add_left_cancel q) (by decide)
      show Go p.tables e below _ (T141.setTop (mkF m 40 #[.val (.int p0), .val (.int p1), .val (.int p2), .val (.int p3), .val (.int (3 : Int32)), .val (.int wb), .val (.int (2 : Int32)), .val (.int we), .val (.ref b137), .unset, .unset, .unset] [(.ref r141)]))
      refine Go.by (fun _ => XS.astore X141.here hx rfl (hb hby at_40) rfl rfl (l' := #[.val (.int p0), .val (.int p1), .val (.int p2), .val (.int p3), .val (.int (3 : Int32)), .val (.int wb), .val (.int (2 : Int32)), .val (.int we), .val (.ref b137), .val (.ref r141), .unset, .unset]) rfl) ?_
      show Go p.tables e below _ (T141.setTop (mkF m 42 #[.val (.int p0), .val (.int p1), .val (.int p2), .val (.int p3), .val (.int (3 : Int32)), .val (.int wb), .val (.int (2 : Int32)), .val (.int we), .val (.ref b137), .val (.ref r141), .unset, .unset] []))
      refine Go.by (fun _ => XS.aload X141.here hx rfl (hb hby at_42) rfl rfl) ?_
      refine Go.by (fun _ => XS.iload X141.here hx rfl (hb hby at_44) rfl) ?_
      refine Go.by (fun _ => XS.iload X141.here hx rfl (hb hby at_46) rfl) ?_
      show Go p.tables e below _ (T141.setTop (mkF m 48 #[.val (.int p0), .val (.int p1), .val (.int p2), .val (.int p3), .val (.int (3 : Int32)), .val (.int wb), .val (.int (2 : Int32)), .val (.int we), .val (.ref b137), .val (.ref r141), .unset, .unset] [(.int wb), (.int (3 : Int32)), (.ref r141)]))
      obtain ⟨v143, T143, h143, X143, q143, st143⟩ := X141.callS hx hZ (y := (⟨"com/example/bitstrata/bitstrata/bitmap/WorkspaceVectorsPinLaw", "shaped", "([[JII)Z"⟩ : MethodName)) hown (tw hw 18 rfl) (tw hw 19 rfl) (tw hw 20 rfl) (tw hw 21 rfl) (by decide) (rm4_33 l Z a0 hw [] r141 wb kc141 kd141 (fun i => .ref (r141 + 1 + i)) (wb.toNatClampNeg) x141_0 x141_1 x141_2 h141 n0 Zs142 V141 (back32 hw_wb.1).1 (congrArg Value.ref ex141_0.symm) Vx141_0 (congrArg Value.ref ex141_1.symm) Vx141_1 (congrArg Value.ref ex141_2.symm) Vx141_2 nx141_01 nx141_02 nx141_12) (g := (mkF m 48 #[.val (.int p0), .val (.int p1), .val (.int p2), .val (.int p3), .val (.int (3 : Int32)), .val (.int wb), .val (.int (2 : Int32)), .val (.int we), .val (.ref b137), .val (.ref r141), .unset, .unset] [(.int wb), (.int (3 : Int32)), (.ref r141)])) rfl (by rw [hml]; rfl) (argsL := [(.ref r141), (.int (3 : Int32)), (.int wb)]) (rest := []) (lenOf pd3 rfl) rfl (hb hby at_48) rfl (by decide) (Nat.le_of_ble_eq_true rfl) (k' := 6) (n' := 25) rfl rfl (by decide) (by decide)
      refine Go.by st143 ?_
      obtain ⟨rfl, rfl⟩ := q143
      show Go p.tables e below _ (T143.setTop (mkF m 51 #[.val (.int p0), .val (.int p1), .val (.int p2), .val (.int p3), .val (.int (3 : Int32)), .val (.int wb), .val (.int (2 : Int32)), .val (.int we), .val (.ref b137), .val (.ref r141), .unset, .unset] [(.int (1 : Int32))]))
      refine Go.by (fun _ => XS.ifYes X143.here hx rfl (pc0 := 51) (pc' := 56) rfl (hb hby at_51) rfl ((if0 _ _).trans (feq (by decide)).2) (by decide) (by decide)) ?_
      show Go p.tables e below _ (T143.setTop (mkF m 56 #[.val (.int p0), .val (.int p1), .val (.int p2), .val (.int p3), .val (.int (3 : Int32)), .val (.int wb), .val (.int (2 : Int32)), .val (.int we), .val (.ref b137), .val (.ref r141), .unset, .unset] []))
      refine Go.by (fun _ => XS.aload X143.here hx rfl (hb hby at_56) rfl rfl) ?_
      refine Go.by (fun _ => XS.iload X143.here hx rfl (hb hby at_58) rfl) ?_
      refine Go.by (fun _ => XS.iload X143.here hx rfl (hb hby at_60) rfl) ?_
      obtain ⟨v144, T144, h144, X144, q144, st144⟩ := X143.callV hx hZ (y := (⟨"com/example/bitstrata/bitstrata/bitmap/Formula$Workspace", "vectors", "(II)[[J"⟩ : MethodName)) (z := (⟨"com/example/bitstrata/bitstrata/bitmap/Formula$Workspace", "vectors", "(II)[[J"⟩ : MethodName)) hown (tw hw 13 rfl) (tw hw 14 rfl) (notFace_of_selects (args := #[]) (mvT hZ (tw hw 16 rfl))) (tw hw 16 rfl) (tw hw 15 rfl) (tw hw 2 rfl) (tw hw 17 rfl) (by decide) (rm3_32 l Z a0 hw [] b137 we r141 kc141 (fun i => .ref (r141 + 1 + i)) x141_0 kd141 (wb.toNatClampNeg) h141 n0 Zs142 Ex141 g_b137 Fv141 V141 hw_we.1 hw_we.2 (congrArg Value.ref ex141_0.symm) Vx141_0) Ex141 (g := (mkF m 62 #[.val (.int p0), .val (.int p1), .val (.int p2), .val (.int p3), .val (.int (3 : Int32)), .val (.int wb), .val (.int (2 : Int32)), .val (.int we), .val (.ref b137), .val (.ref r141), .unset, .unset] [(.int we), (.int (2 : Int32)), (.ref b137)])) rfl (by rw [hml]; rfl) (argsL := [(.int (2 : Int32)), (.int we)]) (rest := []) (lenOf pd2 rfl) rfl (hb hby at_62) rfl (by decide) (Nat.le_of_ble_eq_true rfl) (k' := 9) (n' := 41) rfl rfl (by decide) (by decide)
      refine Go.by st144 ?_
      rcases q144 with ⟨hcd144, rfl, rfl⟩ | ⟨hcd144, ⟨r144, kc144, kd144, rfl, sr144, K144, Ex144, Fv144, V144, VV144⟩⟩
      · skip
        show Go p.tables e below _ (T144.setTop (mkF m 65 #[.val (.int p0), .val (.int p1), .val (.int p2), .val (.int p3), .val (.int (3 : Int32)), .val (.int wb), .val (.int (2 : Int32)), .val (.int we), .val (.ref b137), .val (.ref r141), .unset, .unset] [(.ref r141)]))
        refine Go.by (fun _ => XS.astore X144.here hx rfl (hb hby at_65) rfl rfl (l' := #[.val (.int p0), .val (.int p1), .val (.int p2), .val (.int p3), .val (.int (3 : Int32)), .val (.int wb), .val (.int (2 : Int32)), .val (.int we), .val (.ref b137), .val (.ref r141), .val (.ref r141), .unset]) rfl) ?_
        show Go p.tables e below _ (T144.setTop (mkF m 67 #[.val (.int p0), .val (.int p1), .val (.int p2), .val (.int p3), .val (.int (3 : Int32)), .val (.int wb), .val (.int (2 : Int32)), .val (.int we), .val (.ref b137), .val (.ref r141), .val (.ref r141), .unset] []))
        refine Go.by (fun _ => XS.aload X144.here hx rfl (hb hby at_67) rfl rfl) ?_
        refine Go.by (fun _ => XS.iload X144.here hx rfl (hb hby at_69) rfl) ?_
        show Go p.tables e below _ (T144.setTop (mkF m 71 #[.val (.int p0), .val (.int p1), .val (.int p2), .val (.int p3), .val (.int (3 : Int32)), .val (.int wb), .val (.int (2 : Int32)), .val (.int we), .val (.ref b137), .val (.ref r141), .val (.ref r141), .unset] [(.int (2 : Int32)), (.ref r141)]))
        refine Go.by (fun _ => XS.iload X144.here hx rfl (hb hby at_71) rfl) ?_
        obtain ⟨v145, T145, h145, X145, q145, st145⟩ := X144.callS hx hZ (y := (⟨"com/example/bitstrata/bitstrata/bitmap/WorkspaceVectorsPinLaw", "shaped", "([[JII)Z"⟩ : MethodName)) hown (tw hw 18 rfl) (tw hw 19 rfl) (tw hw 20 rfl) (tw hw 21 rfl) (by decide) (rm4_32 l Z a0 hw [] r141 we kc141 kd141 (fun i => .ref (r141 + 1 + i)) (wb.toNatClampNeg) x141_0 x141_1 h141 n0 Zs142 V141 hcd144 (congrArg Value.ref ex141_0.symm) Vx141_0 (congrArg Value.ref ex141_1.symm) Vx141_1 nx141_01) (g := (mkF m 73 #[.val (.int p0), .val (.int p1), .val (.int p2), .val (.int p3), .val (.int (3 : Int32)), .val (.int wb), .val (.int (2 : Int32)), .val (.int we), .val (.ref b137), .val (.ref r141), .val (.ref r141), .unset] [(.int we), (.int (2 : Int32)), (.ref r141)])) rfl (by rw [hml]; rfl) (argsL := [(.ref r141), (.int (2 : Int32)), (.int we)]) (rest := []) (lenOf pd3 rfl) rfl (hb hby at_73) rfl (by decide) (Nat.le_of_ble_eq_true rfl) (k' := 9) (n' := 41) rfl rfl (by decide) (by decide)
        refine Go.by st145 ?_
        obtain ⟨rfl, rfl⟩ := q145
        show Go p.tables e below _ (T145.setTop (mkF m 76 #[.val (.int p0), .val (.int p1), .val (.int p2), .val (.int p3), .val (.int (3 : Int32)), .val (.int wb), .val (.int (2 : Int32)), .val (.int we), .val (.ref b137), .val (.ref r141), .val (.ref r141), .unset] [(.int (1 : Int32))]))
        refine Go.by (fun _ => XS.ifYes X145.here hx rfl (pc0 := 76) (pc' := 81) rfl (hb hby at_76) rfl ((if0 _ _).trans (feq (by decide)).2) (by decide) (by decide)) ?_
        show Go p.tables e below _ (T145.setTop (mkF m 81 #[.val (.int p0), .val (.int p1), .val (.int p2), .val (.int p3), .val (.int (3 : Int32)), .val (.int wb), .val (.int (2 : Int32)), .val (.int we), .val (.ref b137), .val (.ref r141), .val (.ref r141), .unset] []))
        refine Go.by (fun _ => XS.iload X145.here hx rfl (hb hby at_81) rfl) ?_
        refine Go.by (fun _ => XS.iload X145.here hx rfl (hb hby at_83) rfl) ?_
        refine Go.by (fun _ => XS.icmpNo X145.here hx rfl (hb hby at_85) rfl (flt (by decide)).2.2.1) ?_
        show Go p.tables e below _ (T145.setTop (mkF m 88 #[.val (.int p0), .val (.int p1), .val (.int p2), .val (.int p3), .val (.int (3 : Int32)), .val (.int wb), .val (.int (2 : Int32)), .val (.int we), .val (.ref b137), .val (.ref r141), .val (.ref r141), .unset] []))
        refine Go.by (fun _ => XS.iload X145.here hx rfl (hb hby at_88) rfl) ?_
        refine Go.by (fun _ => XS.ifNo X145.here hx rfl (hb hby at_90) rfl ((if0 _ _).trans (feq (by decide)).1)) ?_
        show Go p.tables e below _ (T145.setTop (mkF m 93 #[.val (.int p0), .val (.int p1), .val (.int p2), .val (.int p3), .val (.int (3 : Int32)), .val (.int wb), .val (.int (2 : Int32)), .val (.int we), .val (.ref b137), .val (.ref r141), .val (.ref r141), .unset] []))
        refine Go.by (fun _ => XS.iload X145.here hx rfl (hb hby at_93) rfl) ?_
        refine Go.by (fun _ => XS.iload X145.here hx rfl (hb hby at_95) rfl) ?_
        show Go p.tables e below _ (T145.setTop (mkF m 97 #[.val (.int p0), .val (.int p1), .val (.int p2), .val (.int p3), .val (.int (3 : Int32)), .val (.int wb), .val (.int (2 : Int32)), .val (.int we), .val (.ref b137), .val (.ref r141), .val (.ref r141), .unset] [(.int wb), (.int we)]))
        refine Go.by (fun _ => XS.icmpNo X145.here hx rfl (hb hby at_97) rfl (teq (hcd144.symm.trans (back32 hw_wb.1).1)).2) ?_
        show Go p.tables e below _ (T145.setTop (mkF m 100 #[.val (.int p0), .val (.int p1), .val (.int p2), .val (.int p3), .val (.int (3 : Int32)), .val (.int wb), .val (.int (2 : Int32)), .val (.int we), .val (.ref b137), .val (.ref r141), .val (.ref r141), .unset] []))
        refine Go.by (fun _ => XS.iconst X145.here hx rfl (hb hby at_100)) ?_
        refine Go.by (fun _ => XS.goto X145.here hx rfl (pc0 := 101) (pc' := 105) rfl (hb hby at_101) (by decide) (by decide)) ?_
        show Go p.tables e below _ (T145.setTop (mkF m 105 #[.val (.int p0), .val (.int p1), .val (.int p2), .val (.int p3), .val (.int (3 : Int32)), .val (.int wb), .val (.int (2 : Int32)), .val (.int we), .val (.ref b137), .val (.ref r141), .val (.ref r141), .unset] [(.int (1 : Int32))]))
        refine Go.by (fun _ => XS.istore X145.here hx rfl (hb hby at_105) rfl (l' := #[.val (.int p0), .val (.int p1), .val (.int p2), .val (.int p3), .val (.int (3 : Int32)), .val (.int wb), .val (.int (2 : Int32)), .val (.int we), .val (.ref b137), .val (.ref r141), .val (.ref r141), .val (.int (1 : Int32))]) rfl) ?_
        show Go p.tables e below _ (T145.setTop (mkF m 107 #[.val (.int p0), .val (.int p1), .val (.int p2), .val (.int p3), .val (.int (3 : Int32)), .val (.int wb), .val (.int (2 : Int32)), .val (.int we), .val (.ref b137), .val (.ref r141), .val (.ref r141), .val (.int (1 : Int32))] []))
        refine Go.by (fun _ => XS.iload X145.here hx rfl (hb hby at_107) rfl) ?_
        refine Go.by (fun _ => XS.ifNo X145.here hx rfl (hb hby at_109) rfl ((if0 _ _).trans (feq (by decide)).1)) ?_
        show Go p.tables e below _ (T145.setTop (mkF m 112 #[.val (.int p0), .val (.int p1), .val (.int p2), .val (.int p3), .val (.int (3 : Int32)), .val (.int wb), .val (.int (2 : Int32)), .val (.int we), .val (.ref b137), .val (.ref r141), .val (.ref r141), .val (.int (1 : Int32))] []))
        refine Go.by (fun _ => XS.aload X145.here hx rfl (hb hby at_112) rfl rfl) ?_
        refine Go.by (fun _ => XS.aload X145.here hx rfl (hb hby at_114) rfl rfl) ?_
        refine Go.by (X145.acmp (g := (mkF m 116 #[.val (.int p0), .val (.int p1), .val (.int p2), .val (.int p3), .val (.int (3 : Int32)), .val (.int wb), .val (.int (2 : Int32)), .val (.int we), .val (.ref b137), .val (.ref r141), .val (.ref r141), .val (.int (1 : Int32))] [(.ref r141), (.ref r141)])) hx rfl rfl rfl (pc0 := 116) (pc' := 121) (same := true) rfl (hb hby at_116) rfl (decide_eq_true rfl) (by decide) (by decide)) ?_
        show Go p.tables e below _ (T145.setTop (mkF m 121 #[.val (.int p0), .val (.int p1), .val (.int p2), .val (.int p3), .val (.int (3 : Int32)), .val (.int wb), .val (.int (2 : Int32)), .val (.int we), .val (.ref b137), .val (.ref r141), .val (.ref r141), .val (.int (1 : Int32))] []))
        refine Go.by (fun _ => XS.iconst X145.here hx rfl (hb hby at_121)) ?_
        show Go p.tables e below _ (T145.setTop (mkF m 122 #[.val (.int p0), .val (.int p1), .val (.int p2), .val (.int p3), .val (.int (3 : Int32)), .val (.int wb), .val (.int (2 : Int32)), .val (.int we), .val (.ref b137), .val (.ref r141), .val (.ref r141), .val (.int (1 : Int32))] [(.int (1 : Int32))]))
        exact Go.retN X145 hx hlk (z' := (1 : Int32)) hret (by simp) (hb hby at_122) rfl (by decide) (by decide) rfl
      · skip
        have g_r144 : n0 ≤ r144 := Nat.le_trans Zs142 sr144
        have ne_b137_r144 : b137 ≠ r144 := Nat.ne_of_lt (Nat.lt_of_lt_of_le Ex141.lt sr144)
        obtain ⟨x144_0, ex144_0⟩ : ∃ z, z = r144 + 1 + 0 := ⟨_, rfl⟩
        have Vx144_0 := VV144 0 (by decide)
        rw [← ex144_0] at Vx144_0
        have sx144_0 : h141.size ≤ x144_0 := by rw [ex144_0]; exact Nat.le_trans sr144 (Nat.le_trans (Nat.le_add_right _ 1) (Nat.le_add_right _ 0))
        have g_x144_0 : n0 ≤ x144_0 := Nat.le_trans Zs142 sx144_0
        have ne_b137_x144_0 : b137 ≠ x144_0 := Nat.ne_of_lt (Nat.lt_of_lt_of_le Ex141.lt sx144_0)
        obtain ⟨x144_1, ex144_1⟩ : ∃ z, z = r144 + 1 + 1 := ⟨_, rfl⟩
        have Vx144_1 := VV144 1 (by decide)
        rw [← ex144_1] at Vx144_1
        have sx144_1 : h141.size ≤ x144_1 := by rw [ex144_1]; exact Nat.le_trans sr144 (Nat.le_trans (Nat.le_add_right _ 1) (Nat.le_add_right _ 1))
        have g_x144_1 : n0 ≤ x144_1 := Nat.le_trans Zs142 sx144_1
        have ne_b137_x144_1 : b137 ≠ x144_1 := Nat.ne_of_lt (Nat.lt_of_lt_of_le Ex141.lt sx144_1)
        have f146_1695 := Ex141.keep K144
        have Zs146 : n0 ≤ h144.size := Nat.le_trans Zs142 K144.1
        have nx144_01 : x144_0 ≠ x144_1 := by rw [ex144_0, ex144_1]; exact fun q => absurd (Nat.add_left_cancel q) (by decide)
        show Go p.tables e below _ (T144.setTop (mkF m 65 #[.val (.int p0), .val (.int p1), .val (.int p2), .val (.int p3), .val (.int (3 : Int32)), .val (.int wb), .val (.int (2 : Int32)), .val (.int we), .val (.ref b137), .val (.ref r141), .unset, .unset] [(.ref r144)]))
        refine Go.by (fun _ => XS.astore X144.here hx rfl (hb hby at_65) rfl rfl (l' := #[.val (.int p0), .val (.int p1), .val (.int p2), .val (.int p3), .val (.int (3 : Int32)), .val (.int wb), .val (.int (2 : Int32)), .val (.int we), .val (.ref b137), .val (.ref r141), .val (.ref r144), .unset]) rfl) ?_
        show Go p.tables e below _ (T144.setTop (mkF m 67 #[.val (.int p0), .val (.int p1), .val (.int p2), .val (.int p3), .val (.int (3 : Int32)), .val (.int wb), .val (.int (2 : Int32)), .val (.int we), .val (.ref b137), .val (.ref r141), .val (.ref r144), .unset] []))
        refine Go.by (fun _ => XS.aload X144.here hx rfl (hb hby at_67) rfl rfl) ?_
        refine Go.by (fun _ => XS.iload X144.here hx rfl (hb hby at_69) rfl) ?_
        refine Go.by (fun _ => XS.iload X144.here hx rfl (hb hby at_71) rfl) ?_
        obtain ⟨v147, T147, h147, X147, q147, st147⟩ := X144.callS hx hZ (y := (⟨"com/example/bitstrata/bitstrata/bitmap/WorkspaceVectorsPinLaw", "shaped", "([[JII)Z"⟩ : MethodName)) hown (tw hw 18 rfl) (tw hw 19 rfl) (tw hw 20 rfl) (tw hw 21 rfl) (by decide) (rm4_22 l Z a0 hw [] r144 we kc144 kd144 (fun i => .ref (r144 + 1 + i)) (we.toNatClampNeg) x144_0 x144_1 h144 n0 Zs146 V144 (back32 hw_we.1).1 (congrArg Value.ref ex144_0.symm) Vx144_0 (congrArg Value.ref ex144_1.symm) Vx144_1 nx144_01) (g := (mkF m 73 #[.val (.int p0), .val (.int p1), .val (.int p2), .val (.int p3), .val (.int (3 : Int32)), .val (.int wb), .val (.int (2 : Int32)), .val (.int we), .val (.ref b137), .val (.ref r141), .val (.ref r144), .unset] [(.int we), (.int (2 : Int32)), (.ref r144)])) rfl (by rw [hml]; rfl) (argsL := [(.ref r144), (.int (2 : Int32)), (.int we)]) (rest := []) (lenOf pd3 rfl) rfl (hb hby at_73) rfl (by decide) (Nat.le_of_ble_eq_true rfl) (k' := 9) (n' := 41) rfl rfl (by decide) (by decide)
        refine Go.by st147 ?_
        obtain ⟨rfl, rfl⟩ := q147
        show Go p.tables e below _ (T147.setTop (mkF m 76 #[.val (.int p0), .val (.int p1), .val (.int p2), .val (.int p3), .val (.int (3 : Int32)), .val (.int wb), .val (.int (2 : Int32)), .val (.int we), .val (.ref b137), .val (.ref r141), .val (.ref r144), .unset] [(.int (1 : Int32))]))
        refine Go.by (fun _ => XS.ifYes X147.here hx rfl (pc0 := 76) (pc' := 81) rfl (hb hby at_76) rfl ((if0 _ _).trans (feq (by decide)).2) (by decide) (by decide)) ?_
        show Go p.tables e below _ (T147.setTop (mkF m 81 #[.val (.int p0), .val (.int p1), .val (.int p2), .val (.int p3), .val (.int (3 : Int32)), .val (.int wb), .val (.int (2 : Int32)), .val (.int we), .val (.ref b137), .val (.ref r141), .val (.ref r144), .unset] []))
        refine Go.by (fun _ => XS.iload X147.here hx rfl (hb hby at_81) rfl) ?_
        refine Go.by (fun _ => XS.iload X147.here hx rfl (hb hby at_83) rfl) ?_
        show Go p.tables e below _ (T147.setTop (mkF m 85 #[.val (.int p0), .val (.int p1), .val (.int p2), .val (.int p3), .val (.int (3 : Int32)), .val (.int wb), .val (.int (2 : Int32)), .val (.int we), .val (.ref b137), .val (.ref r141), .val (.ref r144), .unset] [(.int (3 : Int32)), (.int (2 : Int32))]))
        refine Go.by (fun _ => XS.icmpNo X147.here hx rfl (hb hby at_85) rfl (flt (by decide)).2.2.1) ?_
        show Go p.tables e below _ (T147.setTop (mkF m 88 #[.val (.int p0), .val (.int p1), .val (.int p2), .val (.int p3), .val (.int (3 : Int32)), .val (.int wb), .val (.int (2 : Int32)), .val (.int we), .val (.ref b137), .val (.ref r141), .val (.ref r144), .unset] []))
        refine Go.by (fun _ => XS.iload X147.here hx rfl (hb hby at_88) rfl) ?_
        refine Go.by (fun _ => XS.ifNo X147.here hx rfl (hb hby at_90) rfl ((if0 _ _).trans (feq (by decide)).1)) ?_
        show Go p.tables e below _ (T147.setTop (mkF m 93 #[.val (.int p0), .val (.int p1), .val (.int p2), .val (.int p3), .val (.int (3 : Int32)), .val (.int wb), .val (.int (2 : Int32)), .val (.int we), .val (.ref b137), .val (.ref r141), .val (.ref r144), .unset] []))
        refine Go.by (fun _ => XS.iload X147.here hx rfl (hb hby at_93) rfl) ?_
        refine Go.by (fun _ => XS.iload X147.here hx rfl (hb hby at_95) rfl) ?_
        refine Go.by (fun _ => XS.icmpYes X147.here hx rfl (pc0 := 97) (pc' := 104) rfl (hb hby at_97) rfl (feq (fun q => hcd144 ((back32 hw_wb.1).1.trans q.symm))).2 (by decide) (by decide)) ?_
        show Go p.tables e below _ (T147.setTop (mkF m 104 #[.val (.int p0), .val (.int p1), .val (.int p2), .val (.int p3), .val (.int (3 : Int32)), .val (.int wb), .val (.int (2 : Int32)), .val (.int we), .val (.ref b137), .val (.ref r141), .val (.ref r144), .unset] []))
        refine Go.by (fun _ => XS.iconst X147.here hx rfl (hb hby at_104)) ?_
        refine Go.by (fun _ => XS.istore X147.here hx rfl (hb hby at_105) rfl (l' := #[.val (.int p0), .val (.int p1), .val (.int p2), .val (.int p3), .val (.int (3 : Int32)), .val (.int wb), .val (.int (2 : Int32)), .val (.int we), .val (.ref b137), .val (.ref r141), .val (.ref r144), .val (.int (0 : Int32))]) rfl) ?_
        show Go p.tables e below _ (T147.setTop (mkF m 107 #[.val (.int p0), .val (.int p1), .val (.int p2), .val (.int p3), .val (.int (3 : Int32)), .val (.int wb), .val (.int (2 : Int32)), .val (.int we), .val (.ref b137), .val (.ref r141), .val (.ref r144), .val (.int (0 : Int32))] []))
        refine Go.by (fun _ => XS.iload X147.here hx rfl (hb hby at_107) rfl) ?_
        show Go p.tables e below _ (T147.setTop (mkF m 109 #[.val (.int p0), .val (.int p1), .val (.int p2), .val (.int p3), .val (.int (3 : Int32)), .val (.int wb), .val (.int (2 : Int32)), .val (.int we), .val (.ref b137), .val (.ref r141), .val (.ref r144), .val (.int (0 : Int32))] [(.int (0 : Int32))]))
        refine Go.by (fun _ => XS.ifYes X147.here hx rfl (pc0 := 109) (pc' := 121) rfl (hb hby at_109) rfl ((if0 _ _).trans (teq (by decide)).1) (by decide) (by decide)) ?_
        show Go p.tables e below _ (T147.setTop (mkF m 121 #[.val (.int p0), .val (.int p1), .val (.int p2), .val (.int p3), .val (.int (3 : Int32)), .val (.int wb), .val (.int (2 : Int32)), .val (.int we), .val (.ref b137), .val (.ref r141), .val (.ref r144), .val (.int (0 : Int32))] []))
        refine Go.by (fun _ => XS.iconst X147.here hx rfl (hb hby at_121)) ?_
        exact Go.retN X147 hx hlk (z' := (1 : Int32)) hret (by simp) (hb hby at_122) rfl (by decide) (by decide) rfl
    · rw [ec]
      show Go p.tables e below _ (T0.setTop (mkF m 22 #[.val (.int p0), .val (.int p1), .val (.int p2), .val (.int p3), .val (.int (3 : Int32)), .val (.int wb), .val (.int (3 : Int32)), .val (.int we), .unset, .unset, .unset, .unset] []))
      obtain ⟨T148, h148, b148, X148, g148, E148, A148, D148, st148⟩ := X0.newO hx hZ hown (tw hw 0 rfl) (tw hw 1 rfl) (tw hw 2 rfl) (g := (mkF m 22 #[.val (.int p0), .val (.int p1), .val (.int p2), .val (.int p3), .val (.int (3 : Int32)), .val (.int wb), .val (.int (3 : Int32)), .val (.int we), .unset, .unset, .unset, .unset] [])) rfl (hb hby at_22) (k' := 1) (n' := 1) rfl rfl (by decide) (by decide)
      have g_b148 : n0 ≤ b148 := by rw [g148]; exact Z0
      have Zs149 : n0 ≤ h148.size := Nat.le_trans Z0 E148.1
      have F148_vectors : Fld Z h148 b148 "com/example/bitstrata/bitstrata/bitmap/Formula$Workspace" "vectors" "[[J" .null := D148 (Or.inl (tw hw 12 rfl)) (ty := (.array (.array .long))) (by decide)
      refine Go.by st148 ?_
      show Go p.tables e below _ (T148.setTop (mkF m 25 #[.val (.int p0), .val (.int p1), .val (.int p2), .val (.int p3), .val (.int (3 : Int32)), .val (.int wb), .val (.int (3 : Int32)), .val (.int we), .unset, .unset, .unset, .unset] [(.ref b148)]))
      refine Go.by (fun _ => XS.dup X148.here hx rfl (hb hby at_25) rfl rfl) ?_
      obtain ⟨v150, T150, h150, X150, q150, st150⟩ := X148.callI hx hZ (y := (⟨"com/example/bitstrata/bitstrata/bitmap/Formula$Workspace", "<init>", "()V"⟩ : MethodName)) rfl hown (tw hw 3 rfl) (tw hw 4 rfl) (tw hw 2 rfl) (tw hw 5 rfl) (by decide) (rm1 l Z a0 hw [] b148 h148 n0 Zs149 A148 g_b148 F148_vectors) (g := (mkF m 26 #[.val (.int p0), .val (.int p1), .val (.int p2), .val (.int p3), .val (.int (3 : Int32)), .val (.int wb), .val (.int (3 : Int32)), .val (.int we), .unset, .unset, .unset, .unset] [(.ref b148), (.ref b148)])) rfl (by rw [hml]; rfl) (argsL := []) (rest := [(.ref b148)]) (lenOf pd1 rfl) rfl (hb hby at_26) rfl (by decide) (Nat.le_of_ble_eq_true rfl) (k' := 2) (n' := 1) rfl rfl (by decide) (by decide)
      refine Go.by st150 ?_
      obtain ⟨o150, kO150, rfl, so150, K150, Ex150, Fv150, V150⟩ := q150
      have g_o150 : n0 ≤ o150 := Nat.le_trans Zs149 so150
      have ne_b148_o150 : b148 ≠ o150 := Nat.ne_of_lt (Nat.lt_of_lt_of_le A148.lt so150)
      have f151_1745 := A148.keep K150
      have Zs151 : n0 ≤ h150.size := Nat.le_trans Zs149 K150.1
      show Go p.tables e below _ (T150.setTop (mkF m 29 #[.val (.int p0), .val (.int p1), .val (.int p2), .val (.int p3), .val (.int (3 : Int32)), .val (.int wb), .val (.int (3 : Int32)), .val (.int we), .unset, .unset, .unset, .unset] [(.ref b148)]))
      refine Go.by (fun _ => XS.astore X150.here hx rfl (hb hby at_29) rfl rfl (l' := #[.val (.int p0), .val (.int p1), .val (.int p2), .val (.int p3), .val (.int (3 : Int32)), .val (.int wb), .val (.int (3 : Int32)), .val (.int we), .val (.ref b148), .unset, .unset, .unset]) rfl) ?_
      show Go p.tables e below _ (T150.setTop (mkF m 31 #[.val (.int p0), .val (.int p1), .val (.int p2), .val (.int p3), .val (.int (3 : Int32)), .val (.int wb), .val (.int (3 : Int32)), .val (.int we), .val (.ref b148), .unset, .unset, .unset] []))
      refine Go.by (fun _ => XS.aload X150.here hx rfl (hb hby at_31) rfl rfl) ?_
      refine Go.by (fun _ => XS.iload X150.here hx rfl (hb hby at_33) rfl) ?_
      show Go p.tables e below _ (T150.setTop (mkF m 35 #[.val (.int p0), .val (.int p1), .val (.int p2), .val (.int p3), .val (.int (3 : Int32)), .val (.int wb), .val (.int (3 : Int32)), .val (.int we), .val (.ref b148), .unset, .unset, .unset] [(.int (3 : Int32)), (.ref b148)]))
      refine Go.by (fun _ => XS.iload X150.here hx rfl (hb hby at_35) rfl) ?_
      obtain ⟨v152, T152, h152, X152, q152, st152⟩ := X150.callV hx hZ (y := (⟨"com/example/bitstrata/bitstrata/bitmap/Formula$Workspace", "vectors", "(II)[[J"⟩ : MethodName)) (z := (⟨"com/example/bitstrata/bitstrata/bitmap/Formula$Workspace", "vectors", "(II)[[J"⟩ : MethodName)) hown (tw hw 13 rfl) (tw hw 14 rfl) (notFace_of_selects (args := #[]) (mvT hZ (tw hw 16 rfl))) (tw hw 16 rfl) (tw hw 15 rfl) (tw hw 2 rfl) (tw hw 17 rfl) (by decide) (rm3_03 l Z a0 hw [] b148 wb o150 kO150 (fun _ => .null) h150 n0 Zs151 Ex150 g_b148 Fv150 V150 hw_wb.1 hw_wb.2) Ex150 (g := (mkF m 37 #[.val (.int p0), .val (.int p1), .val (.int p2), .val (.int p3), .val (.int (3 : Int32)), .val (.int wb), .val (.int (3 : Int32)), .val (.int we), .val (.ref b148), .unset, .unset, .unset] [(.int wb), (.int (3 : Int32)), (.ref b148)])) rfl (by rw [hml]; rfl) (argsL := [(.int (3 : Int32)), (.int wb)]) (rest := []) (lenOf pd2 rfl) rfl (hb hby at_37) rfl (by decide) (Nat.le_of_ble_eq_true rfl) (k' := 6) (n' := 25) rfl rfl (by decide) (by decide)
      refine Go.by st152 ?_
      obtain ⟨r152, kc152, kd152, rfl, sr152, K152, Ex152, Fv152, V152, VV152⟩ := q152
      have g_r152 : n0 ≤ r152 := Nat.le_trans Zs151 sr152
      have ne_b148_r152 : b148 ≠ r152 := Nat.ne_of_lt (Nat.lt_of_lt_of_le Ex150.lt sr152)
      obtain ⟨x152_0, ex152_0⟩ : ∃ z, z = r152 + 1 + 0 := ⟨_, rfl⟩
      have Vx152_0 := VV152 0 (by decide)
      rw [← ex152_0] at Vx152_0
      have sx152_0 : h150.size ≤ x152_0 := by rw [ex152_0]; exact Nat.le_trans sr152 (Nat.le_trans (Nat.le_add_right _ 1) (Nat.le_add_right _ 0))
      have g_x152_0 : n0 ≤ x152_0 := Nat.le_trans Zs151 sx152_0
      have ne_b148_x152_0 : b148 ≠ x152_0 := Nat.ne_of_lt (Nat.lt_of_lt_of_le Ex150.lt sx152_0)
      obtain ⟨x152_1, ex152_1⟩ : ∃ z, z = r152 + 1 + 1 := ⟨_, rfl⟩
      have Vx152_1 := VV152 1 (by decide)
      rw [← ex152_1] at Vx152_1
      have sx152_1 : h150.size ≤ x152_1 := by rw [ex152_1]; exact Nat.le_trans sr152 (Nat.le_trans (Nat.le_add_right _ 1) (Nat.le_add_right _ 1))
      have g_x152_1 : n0 ≤ x152_1 := Nat.le_trans Zs151 sx152_1
      have ne_b148_x152_1 : b148 ≠ x152_1 := Nat.ne_of_lt (Nat.lt_of_lt_of_le Ex150.lt sx152_1)
      obtain ⟨x152_2, ex152_2⟩ : ∃ z, z = r152 + 1 + 2 := ⟨_, rfl⟩
      have Vx152_2 := VV152 2 (by decide)
      rw [← ex152_2] at Vx152_2
      have sx152_2 : h150.size ≤ x152_2 := by rw [ex152_2]; exact Nat.le_trans sr152 (Nat.le_trans (Nat.le_add_right _ 1) (Nat.le_add_right _ 2))
      have g_x152_2 : n0 ≤ x152_2 := Nat.le_trans Zs151 sx152_2
      have ne_b148_x152_2 : b148 ≠ x152_2 := Nat.ne_of_lt (Nat.lt_of_lt_of_le Ex150.lt sx152_2)
      have f153_1777 := Ex150.keep K152
      have Zs153 : n0 ≤ h152.size := Nat.le_trans Zs151 K152.1
      have nx152_01 : x152_0 ≠ x152_1 := by rw [ex152_0, ex152_1]; exact fun q => absurd (Nat.add_left_cancel q) (by decide)
      have nx152_02 : x152_0 ≠ x152_2 := by rw [ex152_0, ex152_2]; exact fun q => absurd (Nat.add_left_cancel q) (by decide)
      have nx152_12 : x152_1 ≠ x152_2 := by rw [ex152_1, ex152_2]; exact fun q => absurd (Nat.add_left_cancel q) (by decide)
      show Go p.tables e below _ (T152.setTop (mkF m 40 #[.val (.int p0), .val (.int p1), .val (.int p2), .val (.int p3), .val (.int (3 : Int32)), .val (.int wb), .val (.int (3 : Int32)), .val (.int we), .val (.ref b148), .unset, .unset, .unset] [(.ref r152)]))
      refine Go.by (fun _ => XS.astore X152.here hx rfl (hb hby at_40) rfl rfl (l' := #[.val (.int p0), .val (.int p1), .val (.int p2), .val (.int p3), .val (.int (3 : Int32)), .val (.int wb), .val (.int (3 : Int32)), .val (.int we), .val (.ref b148), .val (.ref r152), .unset, .unset]) rfl) ?_
      show Go p.tables e below _ (T152.setTop (mkF m 42 #[.val (.int p0), .val (.int p1), .val (.int p2), .val (.int p3), .val (.int (3 : Int32)), .val (.int wb), .val (.int (3 : Int32)), .val (.int we), .val (.ref b148), .val (.ref r152), .unset, .unset] []))
      refine Go.by (fun _ => XS.aload X152.here hx rfl (hb hby at_42) rfl rfl) ?_
      refine Go.by (fun _ => XS.iload X152.here hx rfl (hb hby at_44) rfl) ?_
      refine Go.by (fun _ => XS.iload X152.here hx rfl (hb hby at_46) rfl) ?_
      obtain ⟨v154, T154, h154, X154, q154, st154⟩ := X152.callS hx hZ (y := (⟨"com/example/bitstrata/bitstrata/bitmap/WorkspaceVectorsPinLaw", "shaped", "([[JII)Z"⟩ : MethodName)) hown (tw hw 18 rfl) (tw hw 19 rfl) (tw hw 20 rfl) (tw hw 21 rfl) (by decide) (rm4_33 l Z a0 hw [] r152 wb kc152 kd152 (fun i => .ref (r152 + 1 + i)) (wb.toNatClampNeg) x152_0 x152_1 x152_2 h152 n0 Zs153 V152 (back32 hw_wb.1).1 (congrArg Value.ref ex152_0.symm) Vx152_0 (congrArg Value.ref ex152_1.symm) Vx152_1 (congrArg Value.ref ex152_2.symm) Vx152_2 nx152_01 nx152_02 nx152_12) (g := (mkF m 48 #[.val (.int p0), .val (.int p1), .val (.int p2), .val (.int p3), .val (.int (3 : Int32)), .val (.int wb), .val (.int (3 : Int32)), .val (.int we), .val (.ref b148), .val (.ref r152), .unset, .unset] [(.int wb), (.int (3 : Int32)), (.ref r152)])) rfl (by rw [hml]; rfl) (argsL := [(.ref r152), (.int (3 : Int32)), (.int wb)]) (rest := []) (lenOf pd3 rfl) rfl (hb hby at_48) rfl (by decide) (Nat.le_of_ble_eq_true rfl) (k' := 6) (n' := 25) rfl rfl (by decide) (by decide)
      refine Go.by st154 ?_
      obtain ⟨rfl, rfl⟩ := q154
      show Go p.tables e below _ (T154.setTop (mkF m 51 #[.val (.int p0), .val (.int p1), .val (.int p2), .val (.int p3), .val (.int (3 : Int32)), .val (.int wb), .val (.int (3 : Int32)), .val (.int we), .val (.ref b148), .val (.ref r152), .unset, .unset] [(.int (1 : Int32))]))
      refine Go.by (fun _ => XS.ifYes X154.here hx rfl (pc0 := 51) (pc' := 56) rfl (hb hby at_51) rfl ((if0 _ _).trans (feq (by decide)).2) (by decide) (by decide)) ?_
      show Go p.tables e below _ (T154.setTop (mkF m 56 #[.val (.int p0), .val (.int p1), .val (.int p2), .val (.int p3), .val (.int (3 : Int32)), .val (.int wb), .val (.int (3 : Int32)), .val (.int we), .val (.ref b148), .val (.ref r152), .unset, .unset] []))
      refine Go.by (fun _ => XS.aload X154.here hx rfl (hb hby at_56) rfl rfl) ?_
      show Go p.tables e below _ (T154.setTop (mkF m 58 #[.val (.int p0), .val (.int p1), .val (.int p2), .val (.int p3), .val (.int (3 : Int32)), .val (.int wb), .val (.int (3 : Int32)), .val (.int we), .val (.ref b148), .val (.ref r152), .unset, .unset] [(.ref b148)]))
      refine Go.by (fun _ => XS.iload X154.here hx rfl (hb hby at_58) rfl) ?_
      refine Go.by (fun _ => XS.iload X154.here hx rfl (hb hby at_60) rfl) ?_
      obtain ⟨v155, T155, h155, X155, q155, st155⟩ := X154.callV hx hZ (y := (⟨"com/example/bitstrata/bitstrata/bitmap/Formula$Workspace", "vectors", "(II)[[J"⟩ : MethodName)) (z := (⟨"com/example/bitstrata/bitstrata/bitmap/Formula$Workspace", "vectors", "(II)[[J"⟩ : MethodName)) hown (tw hw 13 rfl) (tw hw 14 rfl) (notFace_of_selects (args := #[]) (mvT hZ (tw hw 16 rfl))) (tw hw 16 rfl) (tw hw 15 rfl) (tw hw 2 rfl) (tw hw 17 rfl) (by decide) (rm3_33 l Z a0 hw [] b148 we r152 kc152 (fun i => .ref (r152 + 1 + i)) x152_0 kd152 (wb.toNatClampNeg) h152 n0 Zs153 Ex152 g_b148 Fv152 V152 hw_we.1 hw_we.2 (congrArg Value.ref ex152_0.symm) Vx152_0) Ex152 (g := (mkF m 62 #[.val (.int p0), .val (.int p1), .val (.int p2), .val (.int p3), .val (.int (3 : Int32)), .val (.int wb), .val (.int (3 : Int32)), .val (.int we), .val (.ref b148), .val (.ref r152), .unset, .unset] [(.int we), (.int (3 : Int32)), (.ref b148)])) rfl (by rw [hml]; rfl) (argsL := [(.int (3 : Int32)), (.int we)]) (rest := []) (lenOf pd2 rfl) rfl (hb hby at_62) rfl (by decide) (Nat.le_of_ble_eq_true rfl) (k' := 10) (n' := 49) rfl rfl (by decide) (by decide)
      refine Go.by st155 ?_
      rcases q155 with ⟨hcd155, rfl, rfl⟩ | ⟨hcd155, ⟨r155, kc155, kd155, rfl, sr155, K155, Ex155, Fv155, V155, VV155⟩⟩
      · skip
        show Go p.tables e below _ (T155.setTop (mkF m 65 #[.val (.int p0), .val (.int p1), .val (.int p2), .val (.int p3), .val (.int (3 : Int32)), .val (.int wb), .val (.int (3 : Int32)), .val (.int we), .val (.ref b148), .val (.ref r152), .unset, .unset] [(.ref r152)]))
        refine Go.by (fun _ => XS.astore X155.here hx rfl (hb hby at_65) rfl rfl (l' := #[.val (.int p0), .val (.int p1), .val (.int p2), .val (.int p3), .val (.int (3 : Int32)), .val (.int wb), .val (.int (3 : Int32)), .val (.int we), .val (.ref b148), .val (.ref r152), .val (.ref r152), .unset]) rfl) ?_
        show Go p.tables e below _ (T155.setTop (mkF m 67 #[.val (.int p0), .val (.int p1), .val (.int p2), .val (.int p3), .val (.int (3 : Int32)), .val (.int wb), .val (.int (3 : Int32)), .val (.int we), .val (.ref b148), .val (.ref r152), .val (.ref r152), .unset] []))
        refine Go.by (fun _ => XS.aload X155.here hx rfl (hb hby at_67) rfl rfl) ?_
        refine Go.by (fun _ => XS.iload X155.here hx rfl (hb hby at_69) rfl) ?_
        refine Go.by (fun _ => XS.iload X155.here hx rfl (hb hby at_71) rfl) ?_
        show Go p.tables e below _ (T155.setTop (mkF m 73 #[.val (.int p0), .val (.int p1), .val (.int p2), .val (.int p3), .val (.int (3 : Int32)), .val (.int wb), .val (.int (3 : Int32)), .val (.int we), .val (.ref b148), .val (.ref r152), .val (.ref r152), .unset] [(.int we), (.int (3 : Int32)), (.ref r152)]))
        obtain ⟨v156, T156, h156, X156, q156, st156⟩ := X155.callS hx hZ (y := (⟨"com/example/bitstrata/bitstrata/bitmap/WorkspaceVectorsPinLaw", "shaped", "([[JII)Z"⟩ : MethodName)) hown (tw hw 18 rfl) (tw hw 19 rfl) (tw hw 20 rfl) (tw hw 21 rfl) (by decide) (rm4_33 l Z a0 hw [] r152 we kc152 kd152 (fun i => .ref (r152 + 1 + i)) (wb.toNatClampNeg) x152_0 x152_1 x152_2 h152 n0 Zs153 V152 hcd155 (congrArg Value.ref ex152_0.symm) Vx152_0 (congrArg Value.ref ex152_1.symm) Vx152_1 (congrArg Value.ref ex152_2.symm) Vx152_2 nx152_01 nx152_02 nx152_12) (g := (mkF m 73 #[.val (.int p0), .val (.int p1), .val (.int p2), .val (.int p3), .val (.int (3 : Int32)), .val (.int wb), .val (.int (3 : Int32)), .val (.int we), .val (.ref b148), .val (.ref r152), .val (.ref r152), .unset] [(.int we), (.int (3 : Int32)), (.ref r152)])) rfl (by rw [hml]; rfl) (argsL := [(.ref r152), (.int (3 : Int32)), (.int we)]) (rest := []) (lenOf pd3 rfl) rfl (hb hby at_73) rfl (by decide) (Nat.le_of_ble_eq_true rfl) (k' := 10) (n' := 49) rfl rfl (by decide) (by decide)
        refine Go.by st156 ?_
        obtain ⟨rfl, rfl⟩ := q156
        show Go p.tables e below _ (T156.setTop (mkF m 76 #[.val (.int p0), .val (.int p1), .val (.int p2), .val (.int p3), .val (.int (3 : Int32)), .val (.int wb), .val (.int (3 : Int32)), .val (.int we), .val (.ref b148), .val (.ref r152), .val (.ref r152), .unset] [(.int (1 : Int32))]))
        refine Go.by (fun _ => XS.ifYes X156.here hx rfl (pc0 := 76) (pc' := 81) rfl (hb hby at_76) rfl ((if0 _ _).trans (feq (by decide)).2) (by decide) (by decide)) ?_
        show Go p.tables e below _ (T156.setTop (mkF m 81 #[.val (.int p0), .val (.int p1), .val (.int p2), .val (.int p3), .val (.int (3 : Int32)), .val (.int wb), .val (.int (3 : Int32)), .val (.int we), .val (.ref b148), .val (.ref r152), .val (.ref r152), .unset] []))
        refine Go.by (fun _ => XS.iload X156.here hx rfl (hb hby at_81) rfl) ?_
        refine Go.by (fun _ => XS.iload X156.here hx rfl (hb hby at_83) rfl) ?_
        refine Go.by (fun _ => XS.icmpNo X156.here hx rfl (hb hby at_85) rfl (flt (by decide)).2.2.1) ?_
        show Go p.tables e below _ (T156.setTop (mkF m 88 #[.val (.int p0), .val (.int p1), .val (.int p2), .val (.int p3), .val (.int (3 : Int32)), .val (.int wb), .val (.int (3 : Int32)), .val (.int we), .val (.ref b148), .val (.ref r152), .val (.ref r152), .unset] []))
        refine Go.by (fun _ => XS.iload X156.here hx rfl (hb hby at_88) rfl) ?_
        refine Go.by (fun _ => XS.ifNo X156.here hx rfl (hb hby at_90) rfl ((if0 _ _).trans (feq (by decide)).1)) ?_
        show Go p.tables e below _ (T156.setTop (mkF m 93 #[.val (.int p0), .val (.int p1), .val (.int p2), .val (.int p3), .val (.int (3 : Int32)), .val (.int wb), .val (.int (3 : Int32)), .val (.int we), .val (.ref b148), .val (.ref r152), .val (.ref r152), .unset] []))
        refine Go.by (fun _ => XS.iload X156.here hx rfl (hb hby at_93) rfl) ?_
        refine Go.by (fun _ => XS.iload X156.here hx rfl (hb hby at_95) rfl) ?_
        refine Go.by (fun _ => XS.icmpNo X156.here hx rfl (hb hby at_97) rfl (teq (hcd155.symm.trans (back32 hw_wb.1).1)).2) ?_
        show Go p.tables e below _ (T156.setTop (mkF m 100 #[.val (.int p0), .val (.int p1), .val (.int p2), .val (.int p3), .val (.int (3 : Int32)), .val (.int wb), .val (.int (3 : Int32)), .val (.int we), .val (.ref b148), .val (.ref r152), .val (.ref r152), .unset] []))
        refine Go.by (fun _ => XS.iconst X156.here hx rfl (hb hby at_100)) ?_
        show Go p.tables e below _ (T156.setTop (mkF m 101 #[.val (.int p0), .val (.int p1), .val (.int p2), .val (.int p3), .val (.int (3 : Int32)), .val (.int wb), .val (.int (3 : Int32)), .val (.int we), .val (.ref b148), .val (.ref r152), .val (.ref r152), .unset] [(.int (1 : Int32))]))
        refine Go.by (fun _ => XS.goto X156.here hx rfl (pc0 := 101) (pc' := 105) rfl (hb hby at_101) (by decide) (by decide)) ?_
        show Go p.tables e below _ (T156.setTop (mkF m 105 #[.val (.int p0), .val (.int p1), .val (.int p2), .val (.int p3), .val (.int (3 : Int32)), .val (.int wb), .val (.int (3 : Int32)), .val (.int we), .val (.ref b148), .val (.ref r152), .val (.ref r152), .unset] [(.int (1 : Int32))]))
        refine Go.by (fun _ => XS.istore X156.here hx rfl (hb hby at_105) rfl (l' := #[.val (.int p0), .val (.int p1), .val (.int p2), .val (.int p3), .val (.int (3 : Int32)), .val (.int wb), .val (.int (3 : Int32)), .val (.int we), .val (.ref b148), .val (.ref r152), .val (.ref r152), .val (.int (1 : Int32))]) rfl) ?_
        show Go p.tables e below _ (T156.setTop (mkF m 107 #[.val (.int p0), .val (.int p1), .val (.int p2), .val (.int p3), .val (.int (3 : Int32)), .val (.int wb), .val (.int (3 : Int32)), .val (.int we), .val (.ref b148), .val (.ref r152), .val (.ref r152), .val (.int (1 : Int32))] []))
        refine Go.by (fun _ => XS.iload X156.here hx rfl (hb hby at_107) rfl) ?_
        refine Go.by (fun _ => XS.ifNo X156.here hx rfl (hb hby at_109) rfl ((if0 _ _).trans (feq (by decide)).1)) ?_
        show Go p.tables e below _ (T156.setTop (mkF m 112 #[.val (.int p0), .val (.int p1), .val (.int p2), .val (.int p3), .val (.int (3 : Int32)), .val (.int wb), .val (.int (3 : Int32)), .val (.int we), .val (.ref b148), .val (.ref r152), .val (.ref r152), .val (.int (1 : Int32))] []))
        refine Go.by (fun _ => XS.aload X156.here hx rfl (hb hby at_112) rfl rfl) ?_
        refine Go.by (fun _ => XS.aload X156.here hx rfl (hb hby at_114) rfl rfl) ?_
        refine Go.by (X156.acmp (g := (mkF m 116 #[.val (.int p0), .val (.int p1), .val (.int p2), .val (.int p3), .val (.int (3 : Int32)), .val (.int wb), .val (.int (3 : Int32)), .val (.int we), .val (.ref b148), .val (.ref r152), .val (.ref r152), .val (.int (1 : Int32))] [(.ref r152), (.ref r152)])) hx rfl rfl rfl (pc0 := 116) (pc' := 121) (same := true) rfl (hb hby at_116) rfl (decide_eq_true rfl) (by decide) (by decide)) ?_
        show Go p.tables e below _ (T156.setTop (mkF m 121 #[.val (.int p0), .val (.int p1), .val (.int p2), .val (.int p3), .val (.int (3 : Int32)), .val (.int wb), .val (.int (3 : Int32)), .val (.int we), .val (.ref b148), .val (.ref r152), .val (.ref r152), .val (.int (1 : Int32))] []))
        refine Go.by (fun _ => XS.iconst X156.here hx rfl (hb hby at_121)) ?_
        exact Go.retN X156 hx hlk (z' := (1 : Int32)) hret (by simp) (hb hby at_122) rfl (by decide) (by decide) rfl
      · skip
        have g_r155 : n0 ≤ r155 := Nat.le_trans Zs153 sr155
        have ne_b148_r155 : b148 ≠ r155 := Nat.ne_of_lt (Nat.lt_of_lt_of_le Ex152.lt sr155)
        obtain ⟨x155_0, ex155_0⟩ : ∃ z, z = r155 + 1 + 0 := ⟨_, rfl⟩
        have Vx155_0 := VV155 0 (by decide)
        rw [← ex155_0] at Vx155_0
        have sx155_0 : h152.size ≤ x155_0 := by rw [ex155_0]; exact Nat.le_trans sr155 (Nat.le_trans (Nat.le_add_right _ 1) (Nat.le_add_right _ 0))
        have g_x155_0 : n0 ≤ x155_0 := Nat.le_trans Zs153 sx155_0
        have ne_b148_x155_0 : b148 ≠ x155_0 := Nat.ne_of_lt (Nat.lt_of_lt_of_le Ex152.lt sx155_0)
        obtain ⟨x155_1, ex155_1⟩ : ∃ z, z = r155 + 1 + 1 := ⟨_, rfl⟩
        have Vx155_1 := VV155 1 (by decide)
        rw [← ex155_1] at Vx155_1
        have sx155_1 : h152.size ≤ x155_1 := by rw [ex155_1]; exact Nat.le_trans sr155 (Nat.le_trans (Nat.le_add_right _ 1) (Nat.le_add_right _ 1))
        have g_x155_1 : n0 ≤ x155_1 := Nat.le_trans Zs153 sx155_1
        have ne_b148_x155_1 : b148 ≠ x155_1 := Nat.ne_of_lt (Nat.lt_of_lt_of_le Ex152.lt sx155_1)
        obtain ⟨x155_2, ex155_2⟩ : ∃ z, z = r155 + 1 + 2 := ⟨_, rfl⟩
        have Vx155_2 := VV155 2 (by decide)
        rw [← ex155_2] at Vx155_2
        have sx155_2 : h152.size ≤ x155_2 := by rw [ex155_2]; exact Nat.le_trans sr155 (Nat.le_trans (Nat.le_add_right _ 1) (Nat.le_add_right _ 2))
        have g_x155_2 : n0 ≤ x155_2 := Nat.le_trans Zs153 sx155_2
        have ne_b148_x155_2 : b148 ≠ x155_2 := Nat.ne_of_lt (Nat.lt_of_lt_of_le Ex152.lt sx155_2)
        have f157_1862 := Ex152.keep K155
        have Zs157 : n0 ≤ h155.size := Nat.le_trans Zs153 K155.1
        have nx155_01 : x155_0 ≠ x155_1 := by rw [ex155_0, ex155_1]; exact fun q => absurd (Nat.add_left_cancel q) (by decide)
        have nx155_02 : x155_0 ≠ x155_2 := by rw [ex155_0, ex155_2]; exact fun q => absurd (Nat.add_left_cancel q) (by decide)
        have nx155_12 : x155_1 ≠ x155_2 := by rw [ex155_1, ex155_2]; exact fun q => absurd (Nat.add_left_cancel q) (by decide)
        show Go p.tables e below _ (T155.setTop (mkF m 65 #[.val (.int p0), .val (.int p1), .val (.int p2), .val (.int p3), .val (.int (3 : Int32)), .val (.int wb), .val (.int (3 : Int32)), .val (.int we), .val (.ref b148), .val (.ref r152), .unset, .unset] [(.ref r155)]))
        refine Go.by (fun _ => XS.astore X155.here hx rfl (hb hby at_65) rfl rfl (l' := #[.val (.int p0), .val (.int p1), .val (.int p2), .val (.int p3), .val (.int (3 : Int32)), .val (.int wb), .val (.int (3 : Int32)), .val (.int we), .val (.ref b148), .val (.ref r152), .val (.ref r155), .unset]) rfl) ?_
        show Go p.tables e below _ (T155.setTop (mkF m 67 #[.val (.int p0), .val (.int p1), .val (.int p2), .val (.int p3), .val (.int (3 : Int32)), .val (.int wb), .val (.int (3 : Int32)), .val (.int we), .val (.ref b148), .val (.ref r152), .val (.ref r155), .unset] []))
        refine Go.by (fun _ => XS.aload X155.here hx rfl (hb hby at_67) rfl rfl) ?_
        refine Go.by (fun _ => XS.iload X155.here hx rfl (hb hby at_69) rfl) ?_
        refine Go.by (fun _ => XS.iload X155.here hx rfl (hb hby at_71) rfl) ?_
        obtain ⟨v158, T158, h158, X158, q158, st158⟩ := X155.callS hx hZ (y := (⟨"com/example/bitstrata/bitstrata/bitmap/WorkspaceVectorsPinLaw", "shaped", "([[JII)Z"⟩ : MethodName)) hown (tw hw 18 rfl) (tw hw 19 rfl) (tw hw 20 rfl) (tw hw 21 rfl) (by decide) (rm4_33 l Z a0 hw [] r155 we kc155 kd155 (fun i => .ref (r155 + 1 + i)) (we.toNatClampNeg) x155_0 x155_1 x155_2 h155 n0 Zs157 V155 (back32 hw_we.1).1 (congrArg Value.ref ex155_0.symm) Vx155_0 (congrArg Value.ref ex155_1.symm) Vx155_1 (congrArg Value.ref ex155_2.symm) Vx155_2 nx155_01 nx155_02 nx155_12) (g := (mkF m 73 #[.val (.int p0), .val (.int p1), .val (.int p2), .val (.int p3), .val (.int (3 : Int32)), .val (.int wb), .val (.int (3 : Int32)), .val (.int we), .val (.ref b148), .val (.ref r152), .val (.ref r155), .unset] [(.int we), (.int (3 : Int32)), (.ref r155)])) rfl (by rw [hml]; rfl) (argsL := [(.ref r155), (.int (3 : Int32)), (.int we)]) (rest := []) (lenOf pd3 rfl) rfl (hb hby at_73) rfl (by decide) (Nat.le_of_ble_eq_true rfl) (k' := 10) (n' := 49) rfl rfl (by decide) (by decide)
        refine Go.by st158 ?_
        obtain ⟨rfl, rfl⟩ := q158
        show Go p.tables e below _ (T158.setTop (mkF m 76 #[.val (.int p0), .val (.int p1), .val (.int p2), .val (.int p3), .val (.int (3 : Int32)), .val (.int wb), .val (.int (3 : Int32)), .val (.int we), .val (.ref b148), .val (.ref r152), .val (.ref r155), .unset] [(.int (1 : Int32))]))
        refine Go.by (fun _ => XS.ifYes X158.here hx rfl (pc0 := 76) (pc' := 81) rfl (hb hby at_76) rfl ((if0 _ _).trans (feq (by decide)).2) (by decide) (by decide)) ?_
        show Go p.tables e below _ (T158.setTop (mkF m 81 #[.val (.int p0), .val (.int p1), .val (.int p2), .val (.int p3), .val (.int (3 : Int32)), .val (.int wb), .val (.int (3 : Int32)), .val (.int we), .val (.ref b148), .val (.ref r152), .val (.ref r155), .unset] []))
        refine Go.by (fun _ => XS.iload X158.here hx rfl (hb hby at_81) rfl) ?_
        refine Go.by (fun _ => XS.iload X158.here hx rfl (hb hby at_83) rfl) ?_
        refine Go.by (fun _ => XS.icmpNo X158.here hx rfl (hb hby at_85) rfl (flt (by decide)).2.2.1) ?_
        show Go p.tables e below _ (T158.setTop (mkF m 88 #[.val (.int p0), .val (.int p1), .val (.int p2), .val (.int p3), .val (.int (3 : Int32)), .val (.int wb), .val (.int (3 : Int32)), .val (.int we), .val (.ref b148), .val (.ref r152), .val (.ref r155), .unset] []))
        refine Go.by (fun _ => XS.iload X158.here hx rfl (hb hby at_88) rfl) ?_
        show Go p.tables e below _ (T158.setTop (mkF m 90 #[.val (.int p0), .val (.int p1), .val (.int p2), .val (.int p3), .val (.int (3 : Int32)), .val (.int wb), .val (.int (3 : Int32)), .val (.int we), .val (.ref b148), .val (.ref r152), .val (.ref r155), .unset] [(.int (3 : Int32))]))
        refine Go.by (fun _ => XS.ifNo X158.here hx rfl (hb hby at_90) rfl ((if0 _ _).trans (feq (by decide)).1)) ?_
        show Go p.tables e below _ (T158.setTop (mkF m 93 #[.val (.int p0), .val (.int p1), .val (.int p2), .val (.int p3), .val (.int (3 : Int32)), .val (.int wb), .val (.int (3 : Int32)), .val (.int we), .val (.ref b148), .val (.ref r152), .val (.ref r155), .unset] []))
        refine Go.by (fun _ => XS.iload X158.here hx rfl (hb hby at_93) rfl) ?_
        refine Go.by (fun _ => XS.iload X158.here hx rfl (hb hby at_95) rfl) ?_
        refine Go.by (fun _ => XS.icmpYes X158.here hx rfl (pc0 := 97) (pc' := 104) rfl (hb hby at_97) rfl (feq (fun q => hcd155 ((back32 hw_wb.1).1.trans q.symm))).2 (by decide) (by decide)) ?_
        show Go p.tables e below _ (T158.setTop (mkF m 104 #[.val (.int p0), .val (.int p1), .val (.int p2), .val (.int p3), .val (.int (3 : Int32)), .val (.int wb), .val (.int (3 : Int32)), .val (.int we), .val (.ref b148), .val (.ref r152), .val (.ref r155), .unset] []))
        refine Go.by (fun _ => XS.iconst X158.here hx rfl (hb hby at_104)) ?_
        refine Go.by (fun _ => XS.istore X158.here hx rfl (hb hby at_105) rfl (l' := #[.val (.int p0), .val (.int p1), .val (.int p2), .val (.int p3), .val (.int (3 : Int32)), .val (.int wb), .val (.int (3 : Int32)), .val (.int we), .val (.ref b148), .val (.ref r152), .val (.ref r155), .val (.int (0 : Int32))]) rfl) ?_
        show Go p.tables e below _ (T158.setTop (mkF m 107 #[.val (.int p0), .val (.int p1), .val (.int p2), .val (.int p3), .val (.int (3 : Int32)), .val (.int wb), .val (.int (3 : Int32)), .val (.int we), .val (.ref b148), .val (.ref r152), .val (.ref r155), .val (.int (0 : Int32))] []))
        refine Go.by (fun _ => XS.iload X158.here hx rfl (hb hby at_107) rfl) ?_
        refine Go.by (fun _ => XS.ifYes X158.here hx rfl (pc0 := 109) (pc' := 121) rfl (hb hby at_109) rfl ((if0 _ _).trans (teq (by decide)).1) (by decide) (by decide)) ?_
        show Go p.tables e below _ (T158.setTop (mkF m 121 #[.val (.int p0), .val (.int p1), .val (.int p2), .val (.int p3), .val (.int (3 : Int32)), .val (.int wb), .val (.int (3 : Int32)), .val (.int we), .val (.ref b148), .val (.ref r152), .val (.ref r155), .val (.int (0 : Int32))] []))
        refine Go.by (fun _ => XS.iconst X158.here hx rfl (hb hby at_121)) ?_
        show Go p.tables e below _ (T158.setTop (mkF m 122 #[.val (.int p0), .val (.int p1), .val (.int p2), .val (.int p3), .val (.int (3 : Int32)), .val (.int wb), .val (.int (3 : Int32)), .val (.int we), .val (.ref b148), .val (.ref r152), .val (.ref r155), .val (.int (0 : Int32))] [(.int (1 : Int32))]))
        exact Go.retN X158 hx hlk (z' := (1 : Int32)) hret (by simp) (hb hby at_122) rfl (by decide) (by decide) rfl
set_option maxRecDepth 65536 in
set_option maxHeartbeats 40000000 in
theorem comes_1 {Post : Tables → Env → Array Value → State → Outcome → State → Prop} (hpost : ∀ tb e args s v u, (limb_1_1.after args s (.returned v) u = true ∧ limb_1_2.after args s (.returned v) u = true ∧ True) → FrameEnd s (.returned v) u (Jvm.fieldLocs frame_1_writes args s ++ Jvm.arrayLocs frame_1_arrays args s ++ Jvm.staticLocs frame_1_statics s) 32 192 → Post tb e args s (.returned v) u) :
    ArmFor flags0 classFile x code maxLocals ret World_1 tables_1 room_1 Calls_1 rest_1 Pre_1 Post := by
  intro l hfl _ _ p e ha hc hk s m args below hf hA hF happ hP
  obtain ⟨hcalls, hrest, hpre⟩ := hP
  obtain ⟨-, -, -, hnamed, -, -, -, hat⟩ := (Spec.applies_iff hf).mp happ
  obtain ⟨hg, hn⟩ := and_e (Cond.before_iff.mp (show (Jvm.Cond.and given_1 narrow_1).before args s = true from hpre))
  obtain ⟨gc, gr0⟩ := and_e hg
  obtain ⟨ga0, gr1⟩ := and_e gr0
  obtain ⟨ga1, gr2⟩ := and_e gr1
  obtain ⟨ga2, ga3⟩ := and_e gr2
  obtain ⟨w0, w1, w2, w3, rfl⟩ : ∃ w0 w1 w2 w3 : Value, args = #[w0, w1, w2, w3] := by
    have hs : args.size = 4 := by simpa [Cond.value, given_1] using gc
    obtain ⟨L⟩ := args
    match L, hs with
    | [w0, w1, w2, w3], _ => exact ⟨w0, w1, w2, w3, rfl⟩
  have hw := fun d (hd : d ∈ tables_1) => atoms_spec (ws := Jvm.Cond.code x code maxLocals ret :: tables_1) hat d (List.mem_cons_of_mem _ hd)
  have hfit : Fit s := fun {y c} hc i hi => by
    obtain ⟨ha, rfl⟩ := Array.getElem?_eq_some_iff.mp hc
    have q := List.all_eq_true.mp ((Array.all_eq_true_iff_forall_mem.mp hF) _ (Array.getElem_mem ha)) i (List.mem_range.mpr hi)
    simpa [Array.getElem?_eq_getElem hi] using q
  obtain ⟨i0, ei0⟩ := is_v ga0
  obtain rfl : w0 = (.int i0) := Option.some.inj ei0
  obtain ⟨i1, ei1⟩ := is_v ga1
  obtain rfl : w1 = (.int i1) := Option.some.inj ei1
  obtain ⟨i2, ei2⟩ := is_v ga2
  obtain rfl : w2 = (.int i2) := Option.some.inj ei2
  obtain ⟨i3, ei3⟩ := is_v ga3
  obtain rfl : w3 = (.int i3) := Option.some.inj ei3
  obtain ⟨n, o, h1, h2, h3, _, L, rfl, ⟨rfl, N⟩, hq⟩ := rm0 l s _ hw tables_1 i0 i1 i2 i3 s.heap s.heap.size (Nat.le_refl _) p e ha hc hk s m _ below hf ((Spec.applies_iff_loose hf).mp happ).1 ⟨rfl, State.Warmed39.refl s, rfl⟩ trivial
  refine ⟨n, _, h1, h2, h3, hpost _ _ _ _ _ _ ⟨Cond.after_iff.mpr rfl, Cond.after_iff.mpr (eq_i res_at (Term.int_eval (1)) rfl), trivial⟩ ⟨hq.1, hq.2.1, (hq.2.2.sift fun y hy => Or.inr (N y hy)).mono (by decide) (by decide)⟩⟩
theorem main_1_1 : Claimed_1_1 := comes_1 fun _ _ _ _ _ _ h hF => ⟨h.1, hF⟩
theorem main_1_2 : Claimed_1_2 := comes_1 fun _ _ _ _ _ _ h hF => ⟨h.2.1, hF⟩
end Jvm.Pilot.@@N@@
namespace Jvm.Pilot.@@N@@
open Jvm Jvm.ClassFile Sem Op Lib Jvm.Free Jvm.Stand Jvm.Pilot.@@N@@.Jvm.D
/-! MADE BY PROGRAM (witnessworld.py) out of the Statement's table words and the real class files: 11 classes; the members and pool entries that the words name. The judged class is class 1, her method 3. -/
namespace start1
open Jvm.ClassFile
def u (s : String) : CpInfo := .utf8 (stringToUtf16 s)
/-- a pool by its gaps: so many unusable entries, then the entry; so many at the end -/
def gap : Nat → List CpInfo → List CpInfo
  | 0, r => r
  | n + 1, r => .unusable :: gap n r
def poolList (es : List (Nat × CpInfo)) (last : Nat) : List CpInfo := es.foldr (fun e r => gap e.1 (e.2 :: r)) (gap last [])
def pool (es : List (Nat × CpInfo)) (last : Nat) : Array CpInfo := ⟨poolList es last⟩
def fileOf (pool : Array CpInfo) (this : Nat) (attrs : Array Attribute := #[]) (ms : Array MethodInfo := #[]) (fl : Nat := 33) (sup : Nat := 0) (ifs : Array Nat := #[]) (fds : Array FieldInfo := #[]) : ClassFile where
  minorVersion := 0
  majorVersion := 65
  constantPool := pool
  accessFlags := fl
  thisClass := this
  superClass := sup
  interfaces := ifs
  fields := fds
  methods := ms
  attributes := attrs
def plain (name : String) (sup : Option ClassId) : Class where
  name := name
  kind := .ordinary
  loader := none
  accessFlags := 33
  super := sup
  interfaces := #[]
  cf := none
  fields := #[]
  methods := #[]
  instanceTypes := #[]
  staticTypes := #[]
  resolved := #[]
  callSites := []
  init := .initialized
  statics := none
  mirror := none

def pool0 : Array CpInfo := pool [(5, u "<init>"), (0, u "()V"), (1, .class_ 10), (1, u "java/lang/Object")] 113

def k0c0 : Code := { maxStack := 0, maxLocals := 1, code := object_method_1_code, exceptionTable := #[], attributes := #[] }
def k0m0 : Method := { name := "<init>", desc := "()V", sig := { parameters := [], returnType := none }, accessFlags := 1, code := some k0c0 }
/-- java/lang/Object -/
def k0 : Class := { plain "java/lang/Object" none with
  accessFlags := 33
  interfaces := #[]
  cf := some (fileOf pool0 8 #[] #[{ accessFlags := 1, nameIndex := 5, descriptorIndex := 6, attributes := #[] }] 33 0 #[] #[])
  fields := #[]
  methods := #[k0m0]
  instanceTypes := #[]
  staticTypes := #[]
  resolved := Array.replicate 124 none
  statics := none }

def pool1 : Array CpInfo := pool [(2, .class_ 4), (0, .nameAndType 5 6), (0, u "java/lang/Object"), (0, u "<init>"), (0, u "()V"), (0, .methodref 8 9), (0, .class_ 10), (0, .nameAndType 11 12), (0, u "com/example/bitstrata/bitstrata/bitmap/WorkspaceVectorsPinLaw"), (0, u "row"), (0, u "([[JIII)Z"), (0, .class_ 14), (0, u "com/example/bitstrata/bitstrata/bitmap/Formula$Workspace"), (0, .methodref 13 3), (0, .methodref 13 17), (0, .nameAndType 18 19), (0, u "vectors"), (0, u "(II)[[J"), (0, .methodref 8 21), (0, .nameAndType 22 23), (0, u "shaped"), (0, u "([[JII)Z"), (3, u "law"), (0, u "(IIII)Z")] 8

def k1m0 : Method := { name := "<init>", desc := "()V", sig := { parameters := [], returnType := none }, accessFlags := 2, code := none }
def k1c1 : Code := { maxStack := 2, maxLocals := 4, code := method_2_code, exceptionTable := #[], attributes := #[] }
def k1m1 : Method := { name := "row", desc := "([[JIII)Z", sig := { parameters := [(.array (.array .long)), .int, .int, .int], returnType := some .boolean }, accessFlags := 10, code := some k1c1 }
def k1c2 : Code := { maxStack := 4, maxLocals := 3, code := method_3_code, exceptionTable := #[], attributes := #[] }
def k1m2 : Method := { name := "shaped", desc := "([[JII)Z", sig := { parameters := [(.array (.array .long)), .int, .int], returnType := some .boolean }, accessFlags := 10, code := some k1c2 }
def k1c3 : Code := { maxStack := 3, maxLocals := 12, code := code, exceptionTable := #[], attributes := #[] }
def k1m3 : Method := { name := "law", desc := "(IIII)Z", sig := { parameters := [.int, .int, .int, .int], returnType := some .boolean }, accessFlags := 9, code := some k1c3 }
/-- com/example/bitstrata/bitstrata/bitmap/WorkspaceVectorsPinLaw -/
def k1 : Class := { plain "com/example/bitstrata/bitstrata/bitmap/WorkspaceVectorsPinLaw" (some 0) with
  accessFlags := 49
  interfaces := #[]
  cf := some (fileOf pool1 8 #[] #[{ accessFlags := 2, nameIndex := 5, descriptorIndex := 6, attributes := #[] }, { accessFlags := 10, nameIndex := 11, descriptorIndex := 12, attributes := #[] }, { accessFlags := 10, nameIndex := 22, descriptorIndex := 23, attributes := #[] }, { accessFlags := 9, nameIndex := 27, descriptorIndex := 28, attributes := #[] }] 49 2 #[] #[])
  fields := #[]
  methods := #[k1m0, k1m1, k1m2, k1m3]
  instanceTypes := #[]
  staticTypes := #[]
  resolved := Array.replicate 37 none
  statics := none }

def pool2 : Array CpInfo := pool [(1, .methodref 2 3), (0, .class_ 4), (0, .nameAndType 5 6), (0, u "java/lang/Object"), (0, u "<init>"), (0, u "()V"), (0, .class_ 8), (0, u "[J"), (0, .fieldref 10 11), (0, .class_ 12), (0, .nameAndType 13 14), (0, u "com/example/bitstrata/bitstrata/bitmap/Formula$Workspace"), (0, u "vectors"), (0, u "[[J"), (0, .class_ 14), (2, u "(II)[[J"), (4, .class_ 24), (0, u "com/example/bitstrata/bitstrata/bitmap/Formula")] 2

def k2c0 : Code := { maxStack := 2, maxLocals := 1, code := prog_11_method_1_code, exceptionTable := #[], attributes := #[] }
def k2m0 : Method := { name := "<init>", desc := "()V", sig := { parameters := [], returnType := none }, accessFlags := 1, code := some k2c0 }
def k2c1 : Code := { maxStack := 3, maxLocals := 3, code := prog_11_method_2_code, exceptionTable := #[], attributes := #[] }
def k2m1 : Method := { name := "vectors", desc := "(II)[[J", sig := { parameters := [.int, .int], returnType := some (.array (.array .long)) }, accessFlags := 0, code := some k2c1 }
/-- com/example/bitstrata/bitstrata/bitmap/Formula$Workspace -/
def k2 : Class := { plain "com/example/bitstrata/bitstrata/bitmap/Formula$Workspace" (some 0) with
  accessFlags := 49
  interfaces := #[]
  cf := some (fileOf pool2 10 #[.nestHost 23] #[{ accessFlags := 1, nameIndex := 5, descriptorIndex := 6, attributes := #[] }, { accessFlags := 0, nameIndex := 13, descriptorIndex := 18, attributes := #[] }] 49 2 #[] #[{ accessFlags := 2, nameIndex := 13, descriptorIndex := 14, attributes := #[] }])
  fields := #[{ name := "vectors", type := (.array (.array .long)), accessFlags := 2, slot := 0, constantValue := 0 }]
  methods := #[k2m0, k2m1]
  instanceTypes := #[(.array (.array .long))]
  staticTypes := #[]
  resolved := Array.replicate 27 none
  statics := none }

def pool3 : Array CpInfo := pool [(1, u "java/lang/Cloneable"), (0, .class_ 1), (0, u "java/lang/Object"), (0, .class_ 3)] 3

/-- java/lang/Cloneable -/
def k3 : Class := { plain "java/lang/Cloneable" (some 0) with
  accessFlags := 1537
  interfaces := #[]
  cf := some (fileOf pool3 2 #[] #[] 1537 4 #[] #[])
  fields := #[]
  methods := #[]
  instanceTypes := #[]
  staticTypes := #[]
  resolved := Array.replicate 8 none
  statics := none }

def pool4 : Array CpInfo := pool [(1, u "java/io/Serializable"), (0, .class_ 1), (0, u "java/lang/Object"), (0, .class_ 3)] 3

/-- java/io/Serializable -/
def k4 : Class := { plain "java/io/Serializable" (some 0) with
  accessFlags := 1537
  interfaces := #[]
  cf := some (fileOf pool4 2 #[] #[] 1537 4 #[] #[])
  fields := #[]
  methods := #[]
  instanceTypes := #[]
  staticTypes := #[]
  resolved := Array.replicate 8 none
  statics := none }

/-- the primitive byte -/
def k5 : Class := { plain "byte" none with kind := .primitive 'B', accessFlags := 0x411 }
/-- [B -/
def k6 : Class := { plain "[B" (some 0) with kind := .array 5 .byte, interfaces := #[3, 4], accessFlags := 1041 }

/-- the primitive int -/
def k7 : Class := { plain "int" none with kind := .primitive 'I', accessFlags := 0x411 }
/-- [I -/
def k8 : Class := { plain "[I" (some 0) with kind := .array 7 .int, interfaces := #[3, 4], accessFlags := 1041 }

/-- the primitive long -/
def k9 : Class := { plain "long" none with kind := .primitive 'J', accessFlags := 0x411 }
/-- [J -/
def k10 : Class := { plain "[J" (some 0) with kind := .array 9 .long, interfaces := #[3, 4], accessFlags := 1041 }

def k11 : Class := { plain "[[J" (some 0) with kind := .array 10 (.array .long), interfaces := #[3, 4], accessFlags := 1041 }
def heap : Heap := #[]
def classes : Array Class := #[k0, k1, k2, k3, k4, k5, k6, k7, k8, k9, k10, k11]
def interned : List (Array UInt16 × Addr) := []
def slotsUsed : Nat := 0
def theMethod : MethodId := ⟨1, 3⟩
def args0 : Array Value := #[.int 5, .int 7, .int 8, .int 9]
def aboutOver (below : List Frame) : State where
  vm := { classes := classes, interned := interned.toArray }
  heap := heap
  slotsUsed := slotsUsed
  threads := #[{ frames := .invoking theMethod args0 :: below }]
def below0 : List Frame := [.native { method := ⟨0, 0⟩, args := #[] }]
def about1 : State := aboutOver below0
def p0 : Program := .bare "" "" ""
def e0 : Env := launch0.env 0 0 0
theorem w_frames : about1.frames = Frame.invoking theMethod args0 :: below0 := rfl
set_option maxRecDepth 65536 in
theorem w_args : argsFit about1.vm theMethod args0 = true := by decide +kernel
set_option maxRecDepth 65536 in
theorem w_heap : heapFits about1 = true := by decide +kernel
set_option maxRecDepth 65536 in
theorem w_runnable : about1.curStatus? = some .runnable := by decide +kernel
set_option maxRecDepth 65536 in
theorem w_alone : about1.alone = true := by decide +kernel
set_option maxRecDepth 65536 in
theorem w_named : about1.methodNamed? x = some theMethod := by decide +kernel
set_option maxRecDepth 65536 in
theorem w_hears : about1.hears theMethod below0 = true := by decide +kernel
set_option maxRecDepth 65536 in
theorem w_ripe : about1.ripe theMethod args0 below0 = true := by decide +kernel
theorem w_running : about1.status = .running := rfl
set_option maxRecDepth 65536 in
theorem w_room : about1.hasRoom e0.platform room_1 = true :=
  launch0.hasRoom_least _ room_1 (by decide +kernel) (by decide +kernel) (by decide +kernel) (by decide +kernel) (by decide +kernel) (by decide +kernel)
theorem allAtoms_all (ts : List Jvm.Cond) (a : Array Jvm.Value) (st : Jvm.State) : (allAtoms ts).before a st = ts.all (fun c => c.before a st) := by
  induction ts with
  | nil => rfl
  | cons c t ih =>
    show (Jvm.Cond.and c (allAtoms t)).before a st = _
    rw [Jvm.Cond.before_and, ih, List.all_cons]
def words1 : List Jvm.Cond := Jvm.Cond.code x code maxLocals ret :: tables_1
/-- a 'code' word, met by the world's own term for the bytes: nothing is compared byte by byte -/
theorem code_word {y : MethodName} {bytes : ByteArray} {mx : Nat} {rt : Option FieldType} {a : Array Value} {s : State} {m : MethodId} {meth : Method} {c : Code} (h1 : s.methodNamed? y = some m) (h2 : s.vm.method? m = some meth) (h3 : meth.code = some c) (h4 : c.code = bytes)
    (h5 : (c.maxLocals == mx && c.exceptionTable.isEmpty && decide (c.maxStack ≤ mostOperands) && decide (meth.sig.returnType = rt) && !meth.locks && decide (parseMethodDescriptor y.desc = some meth.sig)) = true) : (Jvm.Cond.code y bytes mx rt).before a s = true := by
  simp only [Bool.and_eq_true, beq_iff_eq, Bool.not_eq_true', decide_eq_true_eq] at h5
  obtain ⟨⟨⟨⟨⟨g1, g2⟩, g3⟩, g4⟩, g5⟩, g6⟩ := h5
  simp [Cond.before, Cond.holds, Cond.value, h1, h2, h3, h4, g1, g2, g3, g4, g5, g6]
def isCode : Jvm.Cond → Bool
  | .code _ _ _ _ => true
  | _ => false
theorem all_split {L : List Jvm.Cond} {P : Jvm.Cond → Bool} (h1 : L.all (fun c => isCode c || P c) = true) (h2 : ∀ c ∈ L.filter isCode, P c = true) : L.all P = true := by
  refine List.all_eq_true.mpr fun c hc => ?_
  have h := List.all_eq_true.mp h1 c hc
  rcases Bool.eq_false_or_eq_true (isCode c) with hi | hi
  · exact h2 c (List.mem_filter.mpr ⟨hc, hi⟩)
  · simpa [hi] using h
set_option maxRecDepth 65536 in
theorem w_c0 : (Jvm.Cond.code x code maxLocals ret).before args0 about1 = true := code_word (m := ⟨1, 3⟩) (meth := k1m3) (c := k1c3) (by decide +kernel) rfl rfl rfl (by decide +kernel)
set_option maxRecDepth 65536 in
theorem w_c1 : (Jvm.Cond.code ({ cls := "com/example/bitstrata/bitstrata/bitmap/Formula$Workspace", name := "<init>", desc := "()V" } : Jvm.MethodName) prog_11_method_1_code (1 : Nat) (Option.none : Option Jvm.ClassFile.FieldType)).before args0 about1 = true := code_word (m := ⟨2, 0⟩) (meth := k2m0) (c := k2c0) (by decide +kernel) rfl rfl rfl (by decide +kernel)
set_option maxRecDepth 65536 in
theorem w_c2 : (Jvm.Cond.code ({ cls := "java/lang/Object", name := "<init>", desc := "()V" } : Jvm.MethodName) object_method_1_code (1 : Nat) (Option.none : Option Jvm.ClassFile.FieldType)).before args0 about1 = true := code_word (m := ⟨0, 0⟩) (meth := k0m0) (c := k0c0) (by decide +kernel) rfl rfl rfl (by decide +kernel)
set_option maxRecDepth 65536 in
theorem w_c3 : (Jvm.Cond.code ({ cls := "com/example/bitstrata/bitstrata/bitmap/Formula$Workspace", name := "vectors", desc := "(II)[[J" } : Jvm.MethodName) prog_11_method_2_code (3 : Nat) (Option.some (Jvm.ClassFile.FieldType.array (Jvm.ClassFile.FieldType.array Jvm.ClassFile.FieldType.long)))).before args0 about1 = true := code_word (m := ⟨2, 1⟩) (meth := k2m1) (c := k2c1) (by decide +kernel) rfl rfl rfl (by decide +kernel)
set_option maxRecDepth 65536 in
theorem w_c4 : (Jvm.Cond.code ({ cls := "com/example/bitstrata/bitstrata/bitmap/WorkspaceVectorsPinLaw", name := "shaped", desc := "([[JII)Z" } : Jvm.MethodName) method_3_code (3 : Nat) (Option.some Jvm.ClassFile.FieldType.boolean)).before args0 about1 = true := code_word (m := ⟨1, 2⟩) (meth := k1m2) (c := k1c2) (by decide +kernel) rfl rfl rfl (by decide +kernel)
set_option maxRecDepth 65536 in
theorem w_c5 : (Jvm.Cond.code ({ cls := "com/example/bitstrata/bitstrata/bitmap/WorkspaceVectorsPinLaw", name := "row", desc := "([[JIII)Z" } : Jvm.MethodName) method_2_code (4 : Nat) (Option.some Jvm.ClassFile.FieldType.boolean)).before args0 about1 = true := code_word (m := ⟨1, 1⟩) (meth := k1m1) (c := k1c1) (by decide +kernel) rfl rfl rfl (by decide +kernel)
def codes1 : List Jvm.Cond := [Jvm.Cond.code x code maxLocals ret, Jvm.Cond.code ({ cls := "com/example/bitstrata/bitstrata/bitmap/Formula$Workspace", name := "<init>", desc := "()V" } : Jvm.MethodName) prog_11_method_1_code (1 : Nat) (Option.none : Option Jvm.ClassFile.FieldType), Jvm.Cond.code ({ cls := "java/lang/Object", name := "<init>", desc := "()V" } : Jvm.MethodName) object_method_1_code (1 : Nat) (Option.none : Option Jvm.ClassFile.FieldType), Jvm.Cond.code ({ cls := "com/example/bitstrata/bitstrata/bitmap/Formula$Workspace", name := "vectors", desc := "(II)[[J" } : Jvm.MethodName) prog_11_method_2_code (3 : Nat) (Option.some (Jvm.ClassFile.FieldType.array (Jvm.ClassFile.FieldType.array Jvm.ClassFile.FieldType.long))), Jvm.Cond.code ({ cls := "com/example/bitstrata/bitstrata/bitmap/WorkspaceVectorsPinLaw", name := "shaped", desc := "([[JII)Z" } : Jvm.MethodName) method_3_code (3 : Nat) (Option.some Jvm.ClassFile.FieldType.boolean), Jvm.Cond.code ({ cls := "com/example/bitstrata/bitstrata/bitmap/WorkspaceVectorsPinLaw", name := "row", desc := "([[JIII)Z" } : Jvm.MethodName) method_2_code (4 : Nat) (Option.some Jvm.ClassFile.FieldType.boolean)]
set_option maxRecDepth 65536 in
theorem codes_eq : words1.filter isCode = codes1 := rfl
theorem w_codes : ∀ c ∈ words1.filter isCode, c.before args0 about1 = true := by
  rw [codes_eq]
  intro c hc
  simp only [codes1, List.mem_cons, List.not_mem_nil, or_false] at hc
  rcases hc with rfl | rfl | rfl | rfl | rfl | rfl
  · exact w_c0
  · exact w_c1
  · exact w_c2
  · exact w_c3
  · exact w_c4
  · exact w_c5
set_option maxRecDepth 65536 in
theorem w_t1 : (words1.take 24).all (fun c => isCode c || c.before args0 about1) = true := by decide +kernel
set_option maxRecDepth 65536 in
theorem w_t2 : (words1.drop 24).all (fun c => isCode c || c.before args0 about1) = true := by decide +kernel
theorem w_tables : (allAtoms (Jvm.Cond.code x code maxLocals ret :: tables_1)).before args0 about1 = true := by
  rw [allAtoms_all]
  show words1.all (fun c => c.before args0 about1) = true
  refine all_split ?_ w_codes
  rw [← List.take_append_drop 24 words1, List.all_append, w_t1, w_t2]
  rfl
set_option maxRecDepth 65536 in
theorem w_case : (Jvm.Cond.and given_1 narrow_1).before args0 about1 = true := by decide +kernel
theorem w_applies : (headSpec (Jvm.Cond.code x code maxLocals ret :: tables_1) room_1).applies x e0.platform about1 = true :=
  (Spec.applies_iff w_frames).mpr ⟨w_running, w_runnable, w_alone, w_named, w_hears, w_ripe, w_room, w_tables⟩
theorem atStart : AtStart classFile x code maxLocals ret World_1 tables_1 room_1 Calls_1 rest_1 Pre_1 launch0 p0 e0 about1 theMethod args0 below0 :=
  ⟨lists_1, trivial, launch0.admits_env _ _ _, launch0.least_env, fairChoices_fair.cas, fairChoices_fair.clock, w_frames, w_args, w_heap, w_applies, trivial, trivial, w_case⟩
end start1
theorem witness_1 : WitnessClaimed_1 := ⟨start1.p0, start1.e0, start1.about1, start1.theMethod, start1.args0, start1.below0, start1.atStart⟩
end Jvm.Pilot.@@N@@
