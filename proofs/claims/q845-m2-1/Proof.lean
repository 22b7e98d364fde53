import JvmDerived
import JvmDerived.Pilot.@@N@@Statement
import JvmDerived.Pilot.@@N@@Code
set_option linter.unusedVariables false
set_option linter.unusedSimpArgs false
namespace Jvm.RoadKit
open Sem ClassFile Op Lib Jvm.Stand Jvm.Free Jvm.LawKit
section New
variable {p : Program} {l : Launch} {e : Env} {R : Room} {s : State} {m : MethodId} {args : Array Value} {below : List Frame} {meth : Method} {c : Code} {T : State} {locs : List Loc} {cells slots : Nat}
theorem retI (X : Stand p l e R s m args below meth c T locs cells slots) (hx : p.tables.exec = Jvm.exec) {pc : Nat} {Ls : Array Slot} {z : Int32} {rest : List Value} (hret : meth.sig.returnType = some .int) (hd : decode c.code pc = .ok (.ireturn, 1)) {fs : List Frame}
    (hl : ∀ (f : JFrame) (acts : List Action), f.method = m → f.locked = none → f.entered = [] → (doReturn e (T.setTop f) acts (some (.int z))).1 = T.setFrames fs) : Steps p.tables e below (T.setTop (mkF m pc Ls (.int z :: rest))) (T.setFrames fs) := by
  have hm' : T.vm.method? m = some meth := X.method'
  have hn : narrow .int (.int z) = .int z := rfl
  show Steps p.tables e below (T.setTop { method := m, pc := pc, locals := Ls, stack := _ :: rest, locked := none }) _
  jvm_step X.here [X.here.top, hx, hd, hm', hret, hn]
  first | (intro acts; rw [hl _ acts rfl rfl rfl]) | rw [hl _ _ rfl rfl rfl]
  exact Steps.refl _
end New
end Jvm.RoadKit
namespace Jvm.Pilot.@@N@@
open Jvm Jvm.ClassFile Sem Op Lib Jvm.Free Jvm.Stand Jvm.LawKit Jvm.RoadKit Bundle Jvm.Pilot.@@N@@.Jvm.D
section OwnKit
variable {p : Program} {l : Launch} {e : Env} {R : Room} {s : State} {m : MethodId} {args : Array Value} {below : List Frame} {meth : Method} {c : Code} {T : State} {locs : List Loc} {cells slots : Nat} {Z : State} {a0 : Array Value} {h : Heap}
variable {Q : Option Value → Heap → List Loc → Prop} {rc rs pc : Nat} {Ls : Array Slot} {st : List Value}
def Go (p : Program) (e : Env) (below : List Frame) (s : State) (Q : Option Value → Heap → List Loc → Prop) (rc rs : Nat) (F : State) : Prop :=
  ∃ s₂ o, Steps p.tables e below F s₂ ∧ s₂.status = .running ∧ Ended s₂ below o ∧ ∃ v L, o = .returned v ∧ Q v s₂.heap L ∧ FrameEnd s o s₂ L rc rs
theorem Go.by {F F' : State} (g : Go p e below s Q rc rs F') (h : ∀ t, Steps p.tables e below F' t → Steps p.tables e below F t) : Go p e below s Q rc rs F := by
  obtain ⟨s2, o, h1, r⟩ := g
  exact ⟨s2, o, h _ h1, r⟩
def shlI (x y : Int32) : Int32 := x <<< (y &&& 31)
def shrI (x y : Int32) : Int32 := x >>> (y &&& 31)
def ushrI (x y : Int32) : Int32 := (x.toUInt32 >>> (y &&& 31).toUInt32).toInt32
def shlJ (x : Int64) (y : Int32) : Int64 := x <<< (y &&& 0x3f).toInt64
def shrJ (x : Int64) (y : Int32) : Int64 := x >>> (y &&& 0x3f).toInt64
def ushrJ (x : Int64) (y : Int32) : Int64 := (x.toUInt64 >>> (y &&& 0x3f).toInt64.toUInt64).toInt64
def i2bI (x : Int32) : Int32 := x.toInt8.toInt32
def i2cI (x : Int32) : Int32 := x.toUInt32.toUInt16.toUInt32.toInt32
def i2sI (x : Int32) : Int32 := x.toInt16.toInt32
theorem g_iload (X : Stand p l e R s m args below meth c T locs cells slots) (hx : p.tables.exec = Jvm.exec) {k : Nat} {v : Int32} (pc' : Nat) (hd : decode c.code pc = .ok (.iload k, 2)) (hl : Ls[k]? = some (.val (.int v))) (hp : pc + 2 = pc') (g : Go p e below s Q rc rs (T.setTop (mkF m pc' Ls (.int v :: st)))) : Go p e below s Q rc rs (T.setTop (mkF m pc Ls st)) := by
  subst hp; exact g.by fun t k => XS.iload X.here hx rfl hd hl k
theorem g_iloadN (X : Stand p l e R s m args below meth c T locs cells slots) (hx : p.tables.exec = Jvm.exec) {k : Fin 4} {v : Int32} (pc' : Nat) (hd : decode c.code pc = .ok (.iload_n k, 1)) (hl : Ls[k.val]? = some (.val (.int v))) (hp : pc + 1 = pc') (g : Go p e below s Q rc rs (T.setTop (mkF m pc' Ls (.int v :: st)))) : Go p e below s Q rc rs (T.setTop (mkF m pc Ls st)) := by
  subst hp; exact g.by fun t k => XS.iloadN X.here hx rfl hd hl k
theorem g_istore (X : Stand p l e R s m args below meth c T locs cells slots) (hx : p.tables.exec = Jvm.exec) {k : Nat} {v : Int32} (l' : Array Slot) (pc' : Nat) (hd : decode c.code pc = .ok (.istore k, 2)) (hl : storeLocals Ls k (.int v) = some l') (hp : pc + 2 = pc') (g : Go p e below s Q rc rs (T.setTop (mkF m pc' l' st))) : Go p e below s Q rc rs (T.setTop (mkF m pc Ls (.int v :: st))) := by
  subst hp; exact g.by fun t k => XS.istore X.here hx rfl hd rfl hl k
theorem g_istoreN (X : Stand p l e R s m args below meth c T locs cells slots) (hx : p.tables.exec = Jvm.exec) {k : Fin 4} {v : Int32} (l' : Array Slot) (pc' : Nat) (hd : decode c.code pc = .ok (.istore_n k, 1)) (hl : storeLocals Ls k.val (.int v) = some l') (hp : pc + 1 = pc') (g : Go p e below s Q rc rs (T.setTop (mkF m pc' l' st))) : Go p e below s Q rc rs (T.setTop (mkF m pc Ls (.int v :: st))) := by
  subst hp; exact g.by fun t k => XS.istoreN X.here hx rfl hd rfl hl k
theorem g_lload (X : Stand p l e R s m args below meth c T locs cells slots) (hx : p.tables.exec = Jvm.exec) {k : Nat} {v : Int64} (pc' : Nat) (hd : decode c.code pc = .ok (.lload k, 2)) (hl : Ls[k]? = some (.val (.long v))) (hp : pc + 2 = pc') (g : Go p e below s Q rc rs (T.setTop (mkF m pc' Ls (.long v :: st)))) : Go p e below s Q rc rs (T.setTop (mkF m pc Ls st)) := by
  subst hp; exact g.by fun t k => XS.lload X.here hx rfl hd hl k
theorem g_lloadN (X : Stand p l e R s m args below meth c T locs cells slots) (hx : p.tables.exec = Jvm.exec) {k : Fin 4} {v : Int64} (pc' : Nat) (hd : decode c.code pc = .ok (.lload_n k, 1)) (hl : Ls[k.val]? = some (.val (.long v))) (hp : pc + 1 = pc') (g : Go p e below s Q rc rs (T.setTop (mkF m pc' Ls (.long v :: st)))) : Go p e below s Q rc rs (T.setTop (mkF m pc Ls st)) := by
  subst hp; exact g.by fun t k => XS.lloadN X.here hx rfl hd hl k
theorem g_lstore (X : Stand p l e R s m args below meth c T locs cells slots) (hx : p.tables.exec = Jvm.exec) {k : Nat} {v : Int64} (l' : Array Slot) (pc' : Nat) (hd : decode c.code pc = .ok (.lstore k, 2)) (hl : storeLocals Ls k (.long v) = some l') (hp : pc + 2 = pc') (g : Go p e below s Q rc rs (T.setTop (mkF m pc' l' st))) : Go p e below s Q rc rs (T.setTop (mkF m pc Ls (.long v :: st))) := by
  subst hp; exact g.by fun t k => XS.lstore X.here hx rfl hd rfl hl k
theorem g_lstoreN (X : Stand p l e R s m args below meth c T locs cells slots) (hx : p.tables.exec = Jvm.exec) {k : Fin 4} {v : Int64} (l' : Array Slot) (pc' : Nat) (hd : decode c.code pc = .ok (.lstore_n k, 1)) (hl : storeLocals Ls k.val (.long v) = some l') (hp : pc + 1 = pc') (g : Go p e below s Q rc rs (T.setTop (mkF m pc' l' st))) : Go p e below s Q rc rs (T.setTop (mkF m pc Ls (.long v :: st))) := by
  subst hp; exact g.by fun t k => XS.lstoreN X.here hx rfl hd rfl hl k
theorem g_aload (X : Stand p l e R s m args below meth c T locs cells slots) (hx : p.tables.exec = Jvm.exec) {k : Nat} {v : Value} (pc' : Nat) (hd : decode c.code pc = .ok (.aload k, 2)) (hl : Ls[k]? = some (.val v)) (hv : v.isRef = true) (hp : pc + 2 = pc') (g : Go p e below s Q rc rs (T.setTop (mkF m pc' Ls (v :: st)))) : Go p e below s Q rc rs (T.setTop (mkF m pc Ls st)) := by
  subst hp; exact g.by fun t k => XS.aload X.here hx rfl hd hl hv k
theorem g_aloadN (X : Stand p l e R s m args below meth c T locs cells slots) (hx : p.tables.exec = Jvm.exec) {k : Fin 4} {v : Value} (pc' : Nat) (hd : decode c.code pc = .ok (.aload_n k, 1)) (hl : Ls[k.val]? = some (.val v)) (hv : v.isRef = true) (hp : pc + 1 = pc') (g : Go p e below s Q rc rs (T.setTop (mkF m pc' Ls (v :: st)))) : Go p e below s Q rc rs (T.setTop (mkF m pc Ls st)) := by
  subst hp; exact g.by fun t k => XS.aloadN X.here hx rfl hd hl hv k
theorem g_astore (X : Stand p l e R s m args below meth c T locs cells slots) (hx : p.tables.exec = Jvm.exec) {k : Nat} {v : Value} (l' : Array Slot) (pc' : Nat) (hd : decode c.code pc = .ok (.astore k, 2)) (hl : storeLocals Ls k v = some l') (hv : v.isRef = true) (hp : pc + 2 = pc') (g : Go p e below s Q rc rs (T.setTop (mkF m pc' l' st))) : Go p e below s Q rc rs (T.setTop (mkF m pc Ls (v :: st))) := by
  subst hp; exact g.by fun t k => XS.astore X.here hx rfl hd rfl hv hl k
theorem g_astoreN (X : Stand p l e R s m args below meth c T locs cells slots) (hx : p.tables.exec = Jvm.exec) {k : Fin 4} {v : Value} (l' : Array Slot) (pc' : Nat) (hd : decode c.code pc = .ok (.astore_n k, 1)) (hl : storeLocals Ls k.val v = some l') (hv : v.isRef = true) (hp : pc + 1 = pc') (g : Go p e below s Q rc rs (T.setTop (mkF m pc' l' st))) : Go p e below s Q rc rs (T.setTop (mkF m pc Ls (v :: st))) := by
  subst hp; exact g.by fun t k => XS.astoreN X.here hx rfl hd rfl hv hl k
theorem g_istoreS (X : Stand p l e R s m args below meth c T locs cells slots) (hx : p.tables.exec = Jvm.exec) {k : Nat} {v : Int32} {os : Slot} (l' : Array Slot) (pc' : Nat) (hd : decode c.code pc = .ok (.istore k, 2)) (hold : Ls[k]? = some os) (ho : One os) (hl : Ls.setIfInBounds k (.val (.int v)) = l') (hp : pc + 2 = pc') (g : Go p e below s Q rc rs (T.setTop (mkF m pc' l' st))) : Go p e below s Q rc rs (T.setTop (mkF m pc Ls ((.int v) :: st))) := by
  subst hp; exact g.by fun t k => XS.istore X.here hx rfl hd rfl (hl ▸ XS.store1 hold ho rfl) k
theorem g_istoreNS (X : Stand p l e R s m args below meth c T locs cells slots) (hx : p.tables.exec = Jvm.exec) {k : Fin 4} {v : Int32} {os : Slot} (l' : Array Slot) (pc' : Nat) (hd : decode c.code pc = .ok (.istore_n k, 1)) (hold : Ls[k.val]? = some os) (ho : One os) (hl : Ls.setIfInBounds k.val (.val (.int v)) = l') (hp : pc + 1 = pc') (g : Go p e below s Q rc rs (T.setTop (mkF m pc' l' st))) : Go p e below s Q rc rs (T.setTop (mkF m pc Ls ((.int v) :: st))) := by
  subst hp; exact g.by fun t k => XS.istoreN X.here hx rfl hd rfl (hl ▸ XS.store1 hold ho rfl) k
theorem g_astoreS (X : Stand p l e R s m args below meth c T locs cells slots) (hx : p.tables.exec = Jvm.exec) {k : Nat} {v : Value} {os : Slot} (l' : Array Slot) (pc' : Nat) (hd : decode c.code pc = .ok (.astore k, 2)) (hold : Ls[k]? = some os) (ho : One os) (hl : Ls.setIfInBounds k (.val v) = l') (hv : v.isRef = true) (hp : pc + 2 = pc') (g : Go p e below s Q rc rs (T.setTop (mkF m pc' l' st))) : Go p e below s Q rc rs (T.setTop (mkF m pc Ls (v :: st))) := by
  subst hp; exact g.by fun t k => XS.astore X.here hx rfl hd rfl hv (hl ▸ XS.store1 hold ho (by cases v <;> first | rfl | simp_all [Value.isRef])) k
theorem g_astoreNS (X : Stand p l e R s m args below meth c T locs cells slots) (hx : p.tables.exec = Jvm.exec) {k : Fin 4} {v : Value} {os : Slot} (l' : Array Slot) (pc' : Nat) (hd : decode c.code pc = .ok (.astore_n k, 1)) (hold : Ls[k.val]? = some os) (ho : One os) (hl : Ls.setIfInBounds k.val (.val v) = l') (hv : v.isRef = true) (hp : pc + 1 = pc') (g : Go p e below s Q rc rs (T.setTop (mkF m pc' l' st))) : Go p e below s Q rc rs (T.setTop (mkF m pc Ls (v :: st))) := by
  subst hp; exact g.by fun t k => XS.astoreN X.here hx rfl hd rfl hv (hl ▸ XS.store1 hold ho (by cases v <;> first | rfl | simp_all [Value.isRef])) k
theorem g_iconst (X : Stand p l e R s m args below meth c T locs cells slots) (hx : p.tables.exec = Jvm.exec) {i : Int} (v : Int32) (pc' : Nat) (hd : decode c.code pc = .ok (.iconst i, 1)) (hv : Int32.ofInt i = v) (hp : pc + 1 = pc') (g : Go p e below s Q rc rs (T.setTop (mkF m pc' Ls (.int v :: st)))) : Go p e below s Q rc rs (T.setTop (mkF m pc Ls st)) := by
  subst hp hv; exact g.by fun t k => XS.iconst X.here hx rfl hd k
theorem g_bipush (X : Stand p l e R s m args below meth c T locs cells slots) (hx : p.tables.exec = Jvm.exec) {i : Int} (v : Int32) (pc' : Nat) (hd : decode c.code pc = .ok (.bipush i, 2)) (hv : (Int8.ofInt i).toInt32 = v) (hp : pc + 2 = pc') (g : Go p e below s Q rc rs (T.setTop (mkF m pc' Ls (.int v :: st)))) : Go p e below s Q rc rs (T.setTop (mkF m pc Ls st)) := by
  subst hp hv; exact g.by fun t k => XS.bipush X.here hx rfl hd k
theorem g_sipush (X : Stand p l e R s m args below meth c T locs cells slots) (hx : p.tables.exec = Jvm.exec) {i : Int} (v : Int32) (pc' : Nat) (hd : decode c.code pc = .ok (.sipush i, 3)) (hv : (Int16.ofInt i).toInt32 = v) (hp : pc + 3 = pc') (g : Go p e below s Q rc rs (T.setTop (mkF m pc' Ls (.int v :: st)))) : Go p e below s Q rc rs (T.setTop (mkF m pc Ls st)) := by
  subst hp hv; exact g.by fun t k => XS.sipush X.here hx rfl hd k
theorem g_lconst (X : Stand p l e R s m args below meth c T locs cells slots) (hx : p.tables.exec = Jvm.exec) {i : Fin 2} (v : Int64) (pc' : Nat) (hd : decode c.code pc = .ok (.lconst i, 1)) (hv : Int64.ofNat i = v) (hp : pc + 1 = pc') (g : Go p e below s Q rc rs (T.setTop (mkF m pc' Ls (.long v :: st)))) : Go p e below s Q rc rs (T.setTop (mkF m pc Ls st)) := by
  subst hp hv; exact g.by fun t k => XS.lconst X.here hx rfl hd k
theorem g_aconst_null (X : Stand p l e R s m args below meth c T locs cells slots) (hx : p.tables.exec = Jvm.exec) (pc' : Nat) (hd : decode c.code pc = .ok (.aconst_null, 1)) (hp : pc + 1 = pc') (g : Go p e below s Q rc rs (T.setTop (mkF m pc' Ls (.null :: st)))) : Go p e below s Q rc rs (T.setTop (mkF m pc Ls st)) := by
  subst hp; exact g.by fun t k => XS.aconstNull X.here hx rfl hd k
theorem g_ldc (X : Stand p l e R s m args below meth c T locs cells slots) (hx : p.tables.exec = Jvm.exec) (hZ : Z.Warmed39 s.vm) {own : String} {i : Nat} {v : Int32} (hown : s.vm.findClass own = some m.cls) (w : (Cond.constant own i v).before a0 Z = true) (pc' : Nat) (hd : decode c.code pc = .ok (.ldc i, 2)) (hp : pc + 2 = pc') (g : Go p e below s Q rc rs (T.setTop (mkF m pc' Ls (.int v :: st)))) : Go p e below s Q rc rs (T.setTop (mkF m pc Ls st)) := by
  subst hp; exact g.by fun t k => X.ldcInt hx hown (mvT hZ w) (g := mkF m pc Ls st) rfl hd t k
theorem g_ldc_w (X : Stand p l e R s m args below meth c T locs cells slots) (hx : p.tables.exec = Jvm.exec) (hZ : Z.Warmed39 s.vm) {own : String} {i : Nat} {v : Int32} (hown : s.vm.findClass own = some m.cls) (w : (Cond.constant own i v).before a0 Z = true) (pc' : Nat) (hd : decode c.code pc = .ok (.ldc_w i, 3)) (hp : pc + 3 = pc') (g : Go p e below s Q rc rs (T.setTop (mkF m pc' Ls (.int v :: st)))) : Go p e below s Q rc rs (T.setTop (mkF m pc Ls st)) := by
  subst hp; exact g.by fun t k => X.ldcwInt hx hown (mvT hZ w) (g := mkF m pc Ls st) rfl hd t k
theorem g_ldc2_w (X : Stand p l e R s m args below meth c T locs cells slots) (hx : p.tables.exec = Jvm.exec) (hZ : Z.Warmed39 s.vm) {own : String} {i : Nat} {v : Int64} (hown : s.vm.findClass own = some m.cls) (w : (Cond.constantLong own i v).before a0 Z = true) (pc' : Nat) (hd : decode c.code pc = .ok (.ldc2_w i, 3)) (hp : pc + 3 = pc') (g : Go p e below s Q rc rs (T.setTop (mkF m pc' Ls (.long v :: st)))) : Go p e below s Q rc rs (T.setTop (mkF m pc Ls st)) := by
  subst hp; exact g.by fun t k => X.ldc2Long hx hown (mvT hZ w) (g := mkF m pc Ls st) rfl hd t k
theorem g_iadd (X : Stand p l e R s m args below meth c T locs cells slots) (hx : p.tables.exec = Jvm.exec) {x y : Int32} (pc' : Nat) (hd : decode c.code pc = .ok (.iadd, 1)) (hp : pc + 1 = pc') (g : Go p e below s Q rc rs (T.setTop (mkF m pc' Ls (.int (x + y) :: st)))) : Go p e below s Q rc rs (T.setTop (mkF m pc Ls (.int y :: .int x :: st))) := by
  subst hp; exact g.by fun t k => XS.iadd X.here hx rfl hd rfl k
theorem g_isub (X : Stand p l e R s m args below meth c T locs cells slots) (hx : p.tables.exec = Jvm.exec) {x y : Int32} (pc' : Nat) (hd : decode c.code pc = .ok (.isub, 1)) (hp : pc + 1 = pc') (g : Go p e below s Q rc rs (T.setTop (mkF m pc' Ls (.int (x - y) :: st)))) : Go p e below s Q rc rs (T.setTop (mkF m pc Ls (.int y :: .int x :: st))) := by
  subst hp; exact g.by fun t k => XS.isub X.here hx rfl hd rfl k
theorem g_imul (X : Stand p l e R s m args below meth c T locs cells slots) (hx : p.tables.exec = Jvm.exec) {x y : Int32} (pc' : Nat) (hd : decode c.code pc = .ok (.imul, 1)) (hp : pc + 1 = pc') (g : Go p e below s Q rc rs (T.setTop (mkF m pc' Ls (.int (x * y) :: st)))) : Go p e below s Q rc rs (T.setTop (mkF m pc Ls (.int y :: .int x :: st))) := by
  subst hp; exact g.by fun t k => XS.imul X.here hx rfl hd rfl k
theorem g_iand (X : Stand p l e R s m args below meth c T locs cells slots) (hx : p.tables.exec = Jvm.exec) {x y : Int32} (pc' : Nat) (hd : decode c.code pc = .ok (.iand, 1)) (hp : pc + 1 = pc') (g : Go p e below s Q rc rs (T.setTop (mkF m pc' Ls (.int (x &&& y) :: st)))) : Go p e below s Q rc rs (T.setTop (mkF m pc Ls (.int y :: .int x :: st))) := by
  subst hp; exact g.by fun t k => XS.iand X.here hx rfl hd rfl k
theorem g_ior (X : Stand p l e R s m args below meth c T locs cells slots) (hx : p.tables.exec = Jvm.exec) {x y : Int32} (pc' : Nat) (hd : decode c.code pc = .ok (.ior, 1)) (hp : pc + 1 = pc') (g : Go p e below s Q rc rs (T.setTop (mkF m pc' Ls (.int (x ||| y) :: st)))) : Go p e below s Q rc rs (T.setTop (mkF m pc Ls (.int y :: .int x :: st))) := by
  subst hp; exact g.by fun t k => XS.ior X.here hx rfl hd rfl k
theorem g_ixor (X : Stand p l e R s m args below meth c T locs cells slots) (hx : p.tables.exec = Jvm.exec) {x y : Int32} (pc' : Nat) (hd : decode c.code pc = .ok (.ixor, 1)) (hp : pc + 1 = pc') (g : Go p e below s Q rc rs (T.setTop (mkF m pc' Ls (.int (x ^^^ y) :: st)))) : Go p e below s Q rc rs (T.setTop (mkF m pc Ls (.int y :: .int x :: st))) := by
  subst hp; exact g.by fun t k => XS.ixor X.here hx rfl hd rfl k
theorem g_ineg (X : Stand p l e R s m args below meth c T locs cells slots) (hx : p.tables.exec = Jvm.exec) {x : Int32} (pc' : Nat) (hd : decode c.code pc = .ok (.ineg, 1)) (hp : pc + 1 = pc') (g : Go p e below s Q rc rs (T.setTop (mkF m pc' Ls (.int (-x) :: st)))) : Go p e below s Q rc rs (T.setTop (mkF m pc Ls (.int x :: st))) := by
  subst hp; exact g.by fun t k => XS.ineg X.here hx rfl hd rfl k
theorem g_idiv (X : Stand p l e R s m args below meth c T locs cells slots) (hx : p.tables.exec = Jvm.exec) {x y : Int32} (pc' : Nat) (hd : decode c.code pc = .ok (.idiv, 1)) (hy : y ≠ 0) (hp : pc + 1 = pc') (g : Go p e below s Q rc rs (T.setTop (mkF m pc' Ls (.int (x / y) :: st)))) : Go p e below s Q rc rs (T.setTop (mkF m pc Ls (.int y :: .int x :: st))) := by
  subst hp; exact g.by fun t k => XS.idiv X.here hx rfl hd rfl hy k
theorem g_ladd (X : Stand p l e R s m args below meth c T locs cells slots) (hx : p.tables.exec = Jvm.exec) {x y : Int64} (pc' : Nat) (hd : decode c.code pc = .ok (.ladd, 1)) (hp : pc + 1 = pc') (g : Go p e below s Q rc rs (T.setTop (mkF m pc' Ls (.long (x + y) :: st)))) : Go p e below s Q rc rs (T.setTop (mkF m pc Ls (.long y :: .long x :: st))) := by
  subst hp; exact g.by fun t k => XS.ladd X.here hx rfl hd rfl k
theorem g_lsub (X : Stand p l e R s m args below meth c T locs cells slots) (hx : p.tables.exec = Jvm.exec) {x y : Int64} (pc' : Nat) (hd : decode c.code pc = .ok (.lsub, 1)) (hp : pc + 1 = pc') (g : Go p e below s Q rc rs (T.setTop (mkF m pc' Ls (.long (x - y) :: st)))) : Go p e below s Q rc rs (T.setTop (mkF m pc Ls (.long y :: .long x :: st))) := by
  subst hp; exact g.by fun t k => XS.lsub X.here hx rfl hd rfl k
theorem g_lmul (X : Stand p l e R s m args below meth c T locs cells slots) (hx : p.tables.exec = Jvm.exec) {x y : Int64} (pc' : Nat) (hd : decode c.code pc = .ok (.lmul, 1)) (hp : pc + 1 = pc') (g : Go p e below s Q rc rs (T.setTop (mkF m pc' Ls (.long (x * y) :: st)))) : Go p e below s Q rc rs (T.setTop (mkF m pc Ls (.long y :: .long x :: st))) := by
  subst hp; exact g.by fun t k => XS.lmul X.here hx rfl hd rfl k
theorem g_land (X : Stand p l e R s m args below meth c T locs cells slots) (hx : p.tables.exec = Jvm.exec) {x y : Int64} (pc' : Nat) (hd : decode c.code pc = .ok (.land, 1)) (hp : pc + 1 = pc') (g : Go p e below s Q rc rs (T.setTop (mkF m pc' Ls (.long (x &&& y) :: st)))) : Go p e below s Q rc rs (T.setTop (mkF m pc Ls (.long y :: .long x :: st))) := by
  subst hp; exact g.by fun t k => XS.land X.here hx rfl hd rfl k
theorem g_lor (X : Stand p l e R s m args below meth c T locs cells slots) (hx : p.tables.exec = Jvm.exec) {x y : Int64} (pc' : Nat) (hd : decode c.code pc = .ok (.lor, 1)) (hp : pc + 1 = pc') (g : Go p e below s Q rc rs (T.setTop (mkF m pc' Ls (.long (x ||| y) :: st)))) : Go p e below s Q rc rs (T.setTop (mkF m pc Ls (.long y :: .long x :: st))) := by
  subst hp; exact g.by fun t k => XS.lor X.here hx rfl hd rfl k
theorem g_lxor (X : Stand p l e R s m args below meth c T locs cells slots) (hx : p.tables.exec = Jvm.exec) {x y : Int64} (pc' : Nat) (hd : decode c.code pc = .ok (.lxor, 1)) (hp : pc + 1 = pc') (g : Go p e below s Q rc rs (T.setTop (mkF m pc' Ls (.long (x ^^^ y) :: st)))) : Go p e below s Q rc rs (T.setTop (mkF m pc Ls (.long y :: .long x :: st))) := by
  subst hp; exact g.by fun t k => XS.lxor X.here hx rfl hd rfl k
theorem g_lneg (X : Stand p l e R s m args below meth c T locs cells slots) (hx : p.tables.exec = Jvm.exec) {x : Int64} (pc' : Nat) (hd : decode c.code pc = .ok (.lneg, 1)) (hp : pc + 1 = pc') (g : Go p e below s Q rc rs (T.setTop (mkF m pc' Ls (.long (-x) :: st)))) : Go p e below s Q rc rs (T.setTop (mkF m pc Ls (.long x :: st))) := by
  subst hp; exact g.by fun t k => XS.lneg X.here hx rfl hd rfl k
theorem g_ldiv (X : Stand p l e R s m args below meth c T locs cells slots) (hx : p.tables.exec = Jvm.exec) {x y : Int64} (pc' : Nat) (hd : decode c.code pc = .ok (.ldiv, 1)) (hy : y ≠ 0) (hp : pc + 1 = pc') (g : Go p e below s Q rc rs (T.setTop (mkF m pc' Ls (.long (x / y) :: st)))) : Go p e below s Q rc rs (T.setTop (mkF m pc Ls (.long y :: .long x :: st))) := by
  subst hp; exact g.by fun t k => XS.ldiv X.here hx rfl hd rfl hy k
theorem g_irem (X : Stand p l e R s m args below meth c T locs cells slots) (hx : p.tables.exec = Jvm.exec) {x y : Int32} (pc' : Nat) (hd : decode c.code pc = .ok (.irem, 1)) (hy : y ≠ 0) (hp : pc + 1 = pc') (g : Go p e below s Q rc rs (T.setTop (mkF m pc' Ls (.int (x % y) :: st)))) : Go p e below s Q rc rs (T.setTop (mkF m pc Ls (.int y :: .int x :: st))) := by
  subst hp; exact g.by fun t k => iremM X hx rfl hd rfl hy k
theorem g_lrem (X : Stand p l e R s m args below meth c T locs cells slots) (hx : p.tables.exec = Jvm.exec) {x y : Int64} (pc' : Nat) (hd : decode c.code pc = .ok (.lrem, 1)) (hy : y ≠ 0) (hp : pc + 1 = pc') (g : Go p e below s Q rc rs (T.setTop (mkF m pc' Ls (.long (x % y) :: st)))) : Go p e below s Q rc rs (T.setTop (mkF m pc Ls (.long y :: .long x :: st))) := by
  subst hp; exact g.by fun t k => XS.lrem X.here hx rfl hd rfl hy (by rw [lrem_mod]; exact k)
theorem g_ishl (X : Stand p l e R s m args below meth c T locs cells slots) (hx : p.tables.exec = Jvm.exec) {x : Int32} {y : Int32} (pc' : Nat) (hd : decode c.code pc = .ok (.ishl, 1)) (hp : pc + 1 = pc') (g : Go p e below s Q rc rs (T.setTop (mkF m pc' Ls (.int (shlI x y) :: st)))) : Go p e below s Q rc rs (T.setTop (mkF m pc Ls (.int y :: .int x :: st))) := by
  subst hp; exact g.by fun t k => XS.ishl X.here hx rfl hd rfl k
theorem g_ishr (X : Stand p l e R s m args below meth c T locs cells slots) (hx : p.tables.exec = Jvm.exec) {x : Int32} {y : Int32} (pc' : Nat) (hd : decode c.code pc = .ok (.ishr, 1)) (hp : pc + 1 = pc') (g : Go p e below s Q rc rs (T.setTop (mkF m pc' Ls (.int (shrI x y) :: st)))) : Go p e below s Q rc rs (T.setTop (mkF m pc Ls (.int y :: .int x :: st))) := by
  subst hp; exact g.by fun t k => XS.ishr X.here hx rfl hd rfl k
theorem g_iushr (X : Stand p l e R s m args below meth c T locs cells slots) (hx : p.tables.exec = Jvm.exec) {x : Int32} {y : Int32} (pc' : Nat) (hd : decode c.code pc = .ok (.iushr, 1)) (hp : pc + 1 = pc') (g : Go p e below s Q rc rs (T.setTop (mkF m pc' Ls (.int (ushrI x y) :: st)))) : Go p e below s Q rc rs (T.setTop (mkF m pc Ls (.int y :: .int x :: st))) := by
  subst hp; exact g.by fun t k => XS.iushr X.here hx rfl hd rfl k
theorem g_lshl (X : Stand p l e R s m args below meth c T locs cells slots) (hx : p.tables.exec = Jvm.exec) {x : Int64} {y : Int32} (pc' : Nat) (hd : decode c.code pc = .ok (.lshl, 1)) (hp : pc + 1 = pc') (g : Go p e below s Q rc rs (T.setTop (mkF m pc' Ls (.long (shlJ x y) :: st)))) : Go p e below s Q rc rs (T.setTop (mkF m pc Ls (.int y :: .long x :: st))) := by
  subst hp; exact g.by fun t k => XS.lshl X.here hx rfl hd rfl k
theorem g_lshr (X : Stand p l e R s m args below meth c T locs cells slots) (hx : p.tables.exec = Jvm.exec) {x : Int64} {y : Int32} (pc' : Nat) (hd : decode c.code pc = .ok (.lshr, 1)) (hp : pc + 1 = pc') (g : Go p e below s Q rc rs (T.setTop (mkF m pc' Ls (.long (shrJ x y) :: st)))) : Go p e below s Q rc rs (T.setTop (mkF m pc Ls (.int y :: .long x :: st))) := by
  subst hp; exact g.by fun t k => XS.lshr X.here hx rfl hd rfl k
theorem g_lushr (X : Stand p l e R s m args below meth c T locs cells slots) (hx : p.tables.exec = Jvm.exec) {x : Int64} {y : Int32} (pc' : Nat) (hd : decode c.code pc = .ok (.lushr, 1)) (hp : pc + 1 = pc') (g : Go p e below s Q rc rs (T.setTop (mkF m pc' Ls (.long (ushrJ x y) :: st)))) : Go p e below s Q rc rs (T.setTop (mkF m pc Ls (.int y :: .long x :: st))) := by
  subst hp; exact g.by fun t k => XS.lushr X.here hx rfl hd rfl k
theorem g_i2l (X : Stand p l e R s m args below meth c T locs cells slots) (hx : p.tables.exec = Jvm.exec) {x : Int32} (pc' : Nat) (hd : decode c.code pc = .ok (.i2l, 1)) (hp : pc + 1 = pc') (g : Go p e below s Q rc rs (T.setTop (mkF m pc' Ls (.long (x.toInt64) :: st)))) : Go p e below s Q rc rs (T.setTop (mkF m pc Ls (.int x :: st))) := by
  subst hp; exact g.by fun t k => XS.i2l X.here hx rfl hd rfl k
theorem g_l2i (X : Stand p l e R s m args below meth c T locs cells slots) (hx : p.tables.exec = Jvm.exec) {x : Int64} (pc' : Nat) (hd : decode c.code pc = .ok (.l2i, 1)) (hp : pc + 1 = pc') (g : Go p e below s Q rc rs (T.setTop (mkF m pc' Ls (.int (x.toInt32) :: st)))) : Go p e below s Q rc rs (T.setTop (mkF m pc Ls (.long x :: st))) := by
  subst hp; exact g.by fun t k => XS.l2i X.here hx rfl hd rfl k
theorem g_i2b (X : Stand p l e R s m args below meth c T locs cells slots) (hx : p.tables.exec = Jvm.exec) {x : Int32} (pc' : Nat) (hd : decode c.code pc = .ok (.i2b, 1)) (hp : pc + 1 = pc') (g : Go p e below s Q rc rs (T.setTop (mkF m pc' Ls (.int (i2bI x) :: st)))) : Go p e below s Q rc rs (T.setTop (mkF m pc Ls (.int x :: st))) := by
  subst hp; exact g.by fun t k => XS.i2b X.here hx rfl hd rfl k
theorem g_i2c (X : Stand p l e R s m args below meth c T locs cells slots) (hx : p.tables.exec = Jvm.exec) {x : Int32} (pc' : Nat) (hd : decode c.code pc = .ok (.i2c, 1)) (hp : pc + 1 = pc') (g : Go p e below s Q rc rs (T.setTop (mkF m pc' Ls (.int (i2cI x) :: st)))) : Go p e below s Q rc rs (T.setTop (mkF m pc Ls (.int x :: st))) := by
  subst hp; exact g.by fun t k => XS.i2c X.here hx rfl hd rfl k
theorem g_i2s (X : Stand p l e R s m args below meth c T locs cells slots) (hx : p.tables.exec = Jvm.exec) {x : Int32} (pc' : Nat) (hd : decode c.code pc = .ok (.i2s, 1)) (hp : pc + 1 = pc') (g : Go p e below s Q rc rs (T.setTop (mkF m pc' Ls (.int (i2sI x) :: st)))) : Go p e below s Q rc rs (T.setTop (mkF m pc Ls (.int x :: st))) := by
  subst hp; exact g.by fun t k => XS.i2s X.here hx rfl hd rfl k
theorem g_lcmp (X : Stand p l e R s m args below meth c T locs cells slots) (hx : p.tables.exec = Jvm.exec) {x y : Int64} (pc' : Nat) (hd : decode c.code pc = .ok (.lcmp, 1)) (hp : pc + 1 = pc') (g : Go p e below s Q rc rs (T.setTop (mkF m pc' Ls (.int (lcmpW x y) :: st)))) : Go p e below s Q rc rs (T.setTop (mkF m pc Ls (.long y :: .long x :: st))) := by
  subst hp; exact g.by fun t k => XS.lcmp X.here hx rfl hd rfl k
theorem g_iinc (X : Stand p l e R s m args below meth c T locs cells slots) (hx : p.tables.exec = Jvm.exec) {k : Nat} {i : Int} {x : Int32} (v : Int32) (l' : Array Slot) (pc' : Nat) (hd : decode c.code pc = .ok (.iinc k i, 3)) (hv : Int32.ofInt i = v) (hl : Ls[k]? = some (.val (.int x))) (hl' : storeLocals Ls k (.int (x + v)) = some l') (hp : pc + 3 = pc') (g : Go p e below s Q rc rs (T.setTop (mkF m pc' l' st))) : Go p e below s Q rc rs (T.setTop (mkF m pc Ls st)) := by
  subst hp hv; exact g.by fun t k => XS.iinc X.here hx rfl hd hl hl' k
theorem g_dup (X : Stand p l e R s m args below meth c T locs cells slots) (hx : p.tables.exec = Jvm.exec) {x : Value} (pc' : Nat) (hd : decode c.code pc = .ok (.dup, 1)) (hc : x.category = 1) (hp : pc + 1 = pc') (g : Go p e below s Q rc rs (T.setTop (mkF m pc' Ls (x :: x :: st)))) : Go p e below s Q rc rs (T.setTop (mkF m pc Ls (x :: st))) := by
  subst hp; exact g.by fun t k => XS.dup X.here hx rfl hd rfl hc k
theorem g_pop (X : Stand p l e R s m args below meth c T locs cells slots) (hx : p.tables.exec = Jvm.exec) {x : Value} (pc' : Nat) (hd : decode c.code pc = .ok (.pop, 1)) (hc : x.category = 1) (hp : pc + 1 = pc') (g : Go p e below s Q rc rs (T.setTop (mkF m pc' Ls st))) : Go p e below s Q rc rs (T.setTop (mkF m pc Ls (x :: st))) := by
  subst hp; exact g.by fun t k => XS.pop X.here hx rfl hd rfl hc k
theorem g_dup_x1 (X : Stand p l e R s m args below meth c T locs cells slots) (hx : p.tables.exec = Jvm.exec) {x y : Value} (pc' : Nat) (hd : decode c.code pc = .ok (.dup_x1, 1)) (hc : x.category = 1) (hc2 : y.category = 1) (hp : pc + 1 = pc') (g : Go p e below s Q rc rs (T.setTop (mkF m pc' Ls (x :: y :: x :: st)))) : Go p e below s Q rc rs (T.setTop (mkF m pc Ls (x :: y :: st))) := by
  subst hp; exact g.by fun t k => XS.dupX1 X.here hx rfl hd rfl hc hc2 k
theorem g_dup2 (X : Stand p l e R s m args below meth c T locs cells slots) (hx : p.tables.exec = Jvm.exec) {x y : Value} (pc' : Nat) (hd : decode c.code pc = .ok (.dup2, 1)) (hc : x.category = 1) (hc2 : y.category = 1) (hp : pc + 1 = pc') (g : Go p e below s Q rc rs (T.setTop (mkF m pc' Ls (x :: y :: x :: y :: st)))) : Go p e below s Q rc rs (T.setTop (mkF m pc Ls (x :: y :: st))) := by
  subst hp; exact g.by fun t k => XT.dup2 X.here hx rfl hd rfl hc hc2 k
theorem g_dup2L (X : Stand p l e R s m args below meth c T locs cells slots) (hx : p.tables.exec = Jvm.exec) {x : Int64} (pc' : Nat) (hd : decode c.code pc = .ok (.dup2, 1)) (hp : pc + 1 = pc') (g : Go p e below s Q rc rs (T.setTop (mkF m pc' Ls (.long x :: .long x :: st)))) : Go p e below s Q rc rs (T.setTop (mkF m pc Ls (.long x :: st))) := by
  subst hp; exact g.by fun t k => XT.dup2L X.here hx rfl hd rfl k
theorem g_pop2L (X : Stand p l e R s m args below meth c T locs cells slots) (hx : p.tables.exec = Jvm.exec) {x : Int64} (pc' : Nat) (hd : decode c.code pc = .ok (.pop2, 1)) (hp : pc + 1 = pc') (g : Go p e below s Q rc rs (T.setTop (mkF m pc' Ls st))) : Go p e below s Q rc rs (T.setTop (mkF m pc Ls (.long x :: st))) := by
  subst hp; refine g.by fun t k => ?_
  jvm_step X.here [X.here.top, hx, hd, Value.category]
  exact k
theorem g_goto (X : Stand p l e R s m args below meth c T locs cells slots) (hx : p.tables.exec = Jvm.exec) {o : Int} (pc' : Nat) (hd : decode c.code pc = .ok (.goto o, 3)) (ho : 0 ≤ (pc : Int) + o) (hp : ((pc : Int) + o).toNat = pc') (g : Go p e below s Q rc rs (T.setTop (mkF m pc' Ls st))) : Go p e below s Q rc rs (T.setTop (mkF m pc Ls st)) := by
  subst hp; exact g.by fun t k => XS.goto X.here hx rfl rfl hd ho rfl k
theorem g_icmp_lt (X : Stand p l e R s m args below meth c T locs cells slots) (hx : p.tables.exec = Jvm.exec) {x y : Int32} {o : Int} (pcY pcN : Nat) (hd : decode c.code pc = .ok (.if_icmp .lt o, 3)) (ho : 0 ≤ (pc : Int) + o) (hY : ((pc : Int) + o).toNat = pcY) (hN : pc + 3 = pcN) (gp : x < y → Go p e below s Q rc rs (T.setTop (mkF m pcY Ls st))) (gn : ¬ x < y → Go p e below s Q rc rs (T.setTop (mkF m pcN Ls st))) : Go p e below s Q rc rs (T.setTop (mkF m pc Ls (.int y :: .int x :: st))) := by
  subst hY hN
  by_cases q : x < y
  · exact (gp q).by fun t k => XS.icmpYes X.here hx rfl rfl hd rfl (tlt q).1 ho rfl k
  · exact (gn q).by fun t k => XS.icmpNo X.here hx rfl hd rfl (flt q).1 k
theorem g_if0_lt (X : Stand p l e R s m args below meth c T locs cells slots) (hx : p.tables.exec = Jvm.exec) {x : Int32} {o : Int} (pcY pcN : Nat) (hd : decode c.code pc = .ok (.ifCond .lt o, 3)) (ho : 0 ≤ (pc : Int) + o) (hY : ((pc : Int) + o).toNat = pcY) (hN : pc + 3 = pcN) (gp : x < 0 → Go p e below s Q rc rs (T.setTop (mkF m pcY Ls st))) (gn : ¬ x < 0 → Go p e below s Q rc rs (T.setTop (mkF m pcN Ls st))) : Go p e below s Q rc rs (T.setTop (mkF m pc Ls (.int x :: st))) := by
  subst hY hN
  by_cases q : x < 0
  · exact (gp q).by fun t k => XS.ifYes X.here hx rfl rfl hd rfl ((if0 _ _).trans (tlt q).1) ho rfl k
  · exact (gn q).by fun t k => XS.ifNo X.here hx rfl hd rfl ((if0 _ _).trans (flt q).1) k
theorem g_lc_lt (X : Stand p l e R s m args below meth c T locs cells slots) (hx : p.tables.exec = Jvm.exec) {x y : Int64} {o : Int} (pcY pcN : Nat) (hd : decode c.code pc = .ok (.ifCond .lt o, 3)) (ho : 0 ≤ (pc : Int) + o) (hY : ((pc : Int) + o).toNat = pcY) (hN : pc + 3 = pcN) (gp : x < y → Go p e below s Q rc rs (T.setTop (mkF m pcY Ls st))) (gn : ¬ x < y → Go p e below s Q rc rs (T.setTop (mkF m pcN Ls st))) : Go p e below s Q rc rs (T.setTop (mkF m pc Ls (.int (lcmpW x y) :: st))) :=
  g_if0_lt X hx pcY pcN hd ho hY hN (fun q => gp ((lw_lt x y).1 q)) (fun q => gn fun r => q ((lw_lt x y).2 r))
theorem g_icmp_ge (X : Stand p l e R s m args below meth c T locs cells slots) (hx : p.tables.exec = Jvm.exec) {x y : Int32} {o : Int} (pcY pcN : Nat) (hd : decode c.code pc = .ok (.if_icmp .ge o, 3)) (ho : 0 ≤ (pc : Int) + o) (hY : ((pc : Int) + o).toNat = pcY) (hN : pc + 3 = pcN) (gp : x < y → Go p e below s Q rc rs (T.setTop (mkF m pcN Ls st))) (gn : ¬ x < y → Go p e below s Q rc rs (T.setTop (mkF m pcY Ls st))) : Go p e below s Q rc rs (T.setTop (mkF m pc Ls (.int y :: .int x :: st))) := by
  subst hY hN
  by_cases q : x < y
  · exact (gp q).by fun t k => XS.icmpNo X.here hx rfl hd rfl (tlt q).2.1 k
  · exact (gn q).by fun t k => XS.icmpYes X.here hx rfl rfl hd rfl (flt q).2.1 ho rfl k
theorem g_if0_ge (X : Stand p l e R s m args below meth c T locs cells slots) (hx : p.tables.exec = Jvm.exec) {x : Int32} {o : Int} (pcY pcN : Nat) (hd : decode c.code pc = .ok (.ifCond .ge o, 3)) (ho : 0 ≤ (pc : Int) + o) (hY : ((pc : Int) + o).toNat = pcY) (hN : pc + 3 = pcN) (gp : x < 0 → Go p e below s Q rc rs (T.setTop (mkF m pcN Ls st))) (gn : ¬ x < 0 → Go p e below s Q rc rs (T.setTop (mkF m pcY Ls st))) : Go p e below s Q rc rs (T.setTop (mkF m pc Ls (.int x :: st))) := by
  subst hY hN
  by_cases q : x < 0
  · exact (gp q).by fun t k => XS.ifNo X.here hx rfl hd rfl ((if0 _ _).trans (tlt q).2.1) k
  · exact (gn q).by fun t k => XS.ifYes X.here hx rfl rfl hd rfl ((if0 _ _).trans (flt q).2.1) ho rfl k
theorem g_lc_ge (X : Stand p l e R s m args below meth c T locs cells slots) (hx : p.tables.exec = Jvm.exec) {x y : Int64} {o : Int} (pcY pcN : Nat) (hd : decode c.code pc = .ok (.ifCond .ge o, 3)) (ho : 0 ≤ (pc : Int) + o) (hY : ((pc : Int) + o).toNat = pcY) (hN : pc + 3 = pcN) (gp : x < y → Go p e below s Q rc rs (T.setTop (mkF m pcN Ls st))) (gn : ¬ x < y → Go p e below s Q rc rs (T.setTop (mkF m pcY Ls st))) : Go p e below s Q rc rs (T.setTop (mkF m pc Ls (.int (lcmpW x y) :: st))) :=
  g_if0_ge X hx pcY pcN hd ho hY hN (fun q => gp ((lw_lt x y).1 q)) (fun q => gn fun r => q ((lw_lt x y).2 r))
theorem g_icmp_gt (X : Stand p l e R s m args below meth c T locs cells slots) (hx : p.tables.exec = Jvm.exec) {x y : Int32} {o : Int} (pcY pcN : Nat) (hd : decode c.code pc = .ok (.if_icmp .gt o, 3)) (ho : 0 ≤ (pc : Int) + o) (hY : ((pc : Int) + o).toNat = pcY) (hN : pc + 3 = pcN) (gp : y < x → Go p e below s Q rc rs (T.setTop (mkF m pcY Ls st))) (gn : ¬ y < x → Go p e below s Q rc rs (T.setTop (mkF m pcN Ls st))) : Go p e below s Q rc rs (T.setTop (mkF m pc Ls (.int y :: .int x :: st))) := by
  subst hY hN
  by_cases q : y < x
  · exact (gp q).by fun t k => XS.icmpYes X.here hx rfl rfl hd rfl (tlt q).2.2.1 ho rfl k
  · exact (gn q).by fun t k => XS.icmpNo X.here hx rfl hd rfl (flt q).2.2.1 k
theorem g_if0_gt (X : Stand p l e R s m args below meth c T locs cells slots) (hx : p.tables.exec = Jvm.exec) {x : Int32} {o : Int} (pcY pcN : Nat) (hd : decode c.code pc = .ok (.ifCond .gt o, 3)) (ho : 0 ≤ (pc : Int) + o) (hY : ((pc : Int) + o).toNat = pcY) (hN : pc + 3 = pcN) (gp : 0 < x → Go p e below s Q rc rs (T.setTop (mkF m pcY Ls st))) (gn : ¬ 0 < x → Go p e below s Q rc rs (T.setTop (mkF m pcN Ls st))) : Go p e below s Q rc rs (T.setTop (mkF m pc Ls (.int x :: st))) := by
  subst hY hN
  by_cases q : 0 < x
  · exact (gp q).by fun t k => XS.ifYes X.here hx rfl rfl hd rfl ((if0 _ _).trans (tlt q).2.2.1) ho rfl k
  · exact (gn q).by fun t k => XS.ifNo X.here hx rfl hd rfl ((if0 _ _).trans (flt q).2.2.1) k
theorem g_lc_gt (X : Stand p l e R s m args below meth c T locs cells slots) (hx : p.tables.exec = Jvm.exec) {x y : Int64} {o : Int} (pcY pcN : Nat) (hd : decode c.code pc = .ok (.ifCond .gt o, 3)) (ho : 0 ≤ (pc : Int) + o) (hY : ((pc : Int) + o).toNat = pcY) (hN : pc + 3 = pcN) (gp : y < x → Go p e below s Q rc rs (T.setTop (mkF m pcY Ls st))) (gn : ¬ y < x → Go p e below s Q rc rs (T.setTop (mkF m pcN Ls st))) : Go p e below s Q rc rs (T.setTop (mkF m pc Ls (.int (lcmpW x y) :: st))) :=
  g_if0_gt X hx pcY pcN hd ho hY hN (fun q => gp ((lw_gt x y).1 q)) (fun q => gn fun r => q ((lw_gt x y).2 r))
theorem g_icmp_le (X : Stand p l e R s m args below meth c T locs cells slots) (hx : p.tables.exec = Jvm.exec) {x y : Int32} {o : Int} (pcY pcN : Nat) (hd : decode c.code pc = .ok (.if_icmp .le o, 3)) (ho : 0 ≤ (pc : Int) + o) (hY : ((pc : Int) + o).toNat = pcY) (hN : pc + 3 = pcN) (gp : y < x → Go p e below s Q rc rs (T.setTop (mkF m pcN Ls st))) (gn : ¬ y < x → Go p e below s Q rc rs (T.setTop (mkF m pcY Ls st))) : Go p e below s Q rc rs (T.setTop (mkF m pc Ls (.int y :: .int x :: st))) := by
  subst hY hN
  by_cases q : y < x
  · exact (gp q).by fun t k => XS.icmpNo X.here hx rfl hd rfl (tlt q).2.2.2 k
  · exact (gn q).by fun t k => XS.icmpYes X.here hx rfl rfl hd rfl (flt q).2.2.2 ho rfl k
theorem g_if0_le (X : Stand p l e R s m args below meth c T locs cells slots) (hx : p.tables.exec = Jvm.exec) {x : Int32} {o : Int} (pcY pcN : Nat) (hd : decode c.code pc = .ok (.ifCond .le o, 3)) (ho : 0 ≤ (pc : Int) + o) (hY : ((pc : Int) + o).toNat = pcY) (hN : pc + 3 = pcN) (gp : 0 < x → Go p e below s Q rc rs (T.setTop (mkF m pcN Ls st))) (gn : ¬ 0 < x → Go p e below s Q rc rs (T.setTop (mkF m pcY Ls st))) : Go p e below s Q rc rs (T.setTop (mkF m pc Ls (.int x :: st))) := by
  subst hY hN
  by_cases q : 0 < x
  · exact (gp q).by fun t k => XS.ifNo X.here hx rfl hd rfl ((if0 _ _).trans (tlt q).2.2.2) k
  · exact (gn q).by fun t k => XS.ifYes X.here hx rfl rfl hd rfl ((if0 _ _).trans (flt q).2.2.2) ho rfl k
theorem g_lc_le (X : Stand p l e R s m args below meth c T locs cells slots) (hx : p.tables.exec = Jvm.exec) {x y : Int64} {o : Int} (pcY pcN : Nat) (hd : decode c.code pc = .ok (.ifCond .le o, 3)) (ho : 0 ≤ (pc : Int) + o) (hY : ((pc : Int) + o).toNat = pcY) (hN : pc + 3 = pcN) (gp : y < x → Go p e below s Q rc rs (T.setTop (mkF m pcN Ls st))) (gn : ¬ y < x → Go p e below s Q rc rs (T.setTop (mkF m pcY Ls st))) : Go p e below s Q rc rs (T.setTop (mkF m pc Ls (.int (lcmpW x y) :: st))) :=
  g_if0_le X hx pcY pcN hd ho hY hN (fun q => gp ((lw_gt x y).1 q)) (fun q => gn fun r => q ((lw_gt x y).2 r))
theorem g_icmp_eq (X : Stand p l e R s m args below meth c T locs cells slots) (hx : p.tables.exec = Jvm.exec) {x y : Int32} {o : Int} (pcY pcN : Nat) (hd : decode c.code pc = .ok (.if_icmp .eq o, 3)) (ho : 0 ≤ (pc : Int) + o) (hY : ((pc : Int) + o).toNat = pcY) (hN : pc + 3 = pcN) (gp : x = y → Go p e below s Q rc rs (T.setTop (mkF m pcY Ls st))) (gn : ¬ x = y → Go p e below s Q rc rs (T.setTop (mkF m pcN Ls st))) : Go p e below s Q rc rs (T.setTop (mkF m pc Ls (.int y :: .int x :: st))) := by
  subst hY hN
  by_cases q : x = y
  · exact (gp q).by fun t k => XS.icmpYes X.here hx rfl rfl hd rfl (teq q).1 ho rfl k
  · exact (gn q).by fun t k => XS.icmpNo X.here hx rfl hd rfl (feq q).1 k
theorem g_if0_eq (X : Stand p l e R s m args below meth c T locs cells slots) (hx : p.tables.exec = Jvm.exec) {x : Int32} {o : Int} (pcY pcN : Nat) (hd : decode c.code pc = .ok (.ifCond .eq o, 3)) (ho : 0 ≤ (pc : Int) + o) (hY : ((pc : Int) + o).toNat = pcY) (hN : pc + 3 = pcN) (gp : x = 0 → Go p e below s Q rc rs (T.setTop (mkF m pcY Ls st))) (gn : ¬ x = 0 → Go p e below s Q rc rs (T.setTop (mkF m pcN Ls st))) : Go p e below s Q rc rs (T.setTop (mkF m pc Ls (.int x :: st))) := by
  subst hY hN
  by_cases q : x = 0
  · exact (gp q).by fun t k => XS.ifYes X.here hx rfl rfl hd rfl ((if0 _ _).trans (teq q).1) ho rfl k
  · exact (gn q).by fun t k => XS.ifNo X.here hx rfl hd rfl ((if0 _ _).trans (feq q).1) k
theorem g_lc_eq (X : Stand p l e R s m args below meth c T locs cells slots) (hx : p.tables.exec = Jvm.exec) {x y : Int64} {o : Int} (pcY pcN : Nat) (hd : decode c.code pc = .ok (.ifCond .eq o, 3)) (ho : 0 ≤ (pc : Int) + o) (hY : ((pc : Int) + o).toNat = pcY) (hN : pc + 3 = pcN) (gp : x = y → Go p e below s Q rc rs (T.setTop (mkF m pcY Ls st))) (gn : ¬ x = y → Go p e below s Q rc rs (T.setTop (mkF m pcN Ls st))) : Go p e below s Q rc rs (T.setTop (mkF m pc Ls (.int (lcmpW x y) :: st))) :=
  g_if0_eq X hx pcY pcN hd ho hY hN (fun q => gp ((lw_eq x y).1 q)) (fun q => gn fun r => q ((lw_eq x y).2 r))
theorem g_icmp_ne (X : Stand p l e R s m args below meth c T locs cells slots) (hx : p.tables.exec = Jvm.exec) {x y : Int32} {o : Int} (pcY pcN : Nat) (hd : decode c.code pc = .ok (.if_icmp .ne o, 3)) (ho : 0 ≤ (pc : Int) + o) (hY : ((pc : Int) + o).toNat = pcY) (hN : pc + 3 = pcN) (gp : x = y → Go p e below s Q rc rs (T.setTop (mkF m pcN Ls st))) (gn : ¬ x = y → Go p e below s Q rc rs (T.setTop (mkF m pcY Ls st))) : Go p e below s Q rc rs (T.setTop (mkF m pc Ls (.int y :: .int x :: st))) := by
  subst hY hN
  by_cases q : x = y
  · exact (gp q).by fun t k => XS.icmpNo X.here hx rfl hd rfl (teq q).2 k
  · exact (gn q).by fun t k => XS.icmpYes X.here hx rfl rfl hd rfl (feq q).2 ho rfl k
theorem g_if0_ne (X : Stand p l e R s m args below meth c T locs cells slots) (hx : p.tables.exec = Jvm.exec) {x : Int32} {o : Int} (pcY pcN : Nat) (hd : decode c.code pc = .ok (.ifCond .ne o, 3)) (ho : 0 ≤ (pc : Int) + o) (hY : ((pc : Int) + o).toNat = pcY) (hN : pc + 3 = pcN) (gp : x = 0 → Go p e below s Q rc rs (T.setTop (mkF m pcN Ls st))) (gn : ¬ x = 0 → Go p e below s Q rc rs (T.setTop (mkF m pcY Ls st))) : Go p e below s Q rc rs (T.setTop (mkF m pc Ls (.int x :: st))) := by
  subst hY hN
  by_cases q : x = 0
  · exact (gp q).by fun t k => XS.ifNo X.here hx rfl hd rfl ((if0 _ _).trans (teq q).2) k
  · exact (gn q).by fun t k => XS.ifYes X.here hx rfl rfl hd rfl ((if0 _ _).trans (feq q).2) ho rfl k
theorem g_lc_ne (X : Stand p l e R s m args below meth c T locs cells slots) (hx : p.tables.exec = Jvm.exec) {x y : Int64} {o : Int} (pcY pcN : Nat) (hd : decode c.code pc = .ok (.ifCond .ne o, 3)) (ho : 0 ≤ (pc : Int) + o) (hY : ((pc : Int) + o).toNat = pcY) (hN : pc + 3 = pcN) (gp : x = y → Go p e below s Q rc rs (T.setTop (mkF m pcN Ls st))) (gn : ¬ x = y → Go p e below s Q rc rs (T.setTop (mkF m pcY Ls st))) : Go p e below s Q rc rs (T.setTop (mkF m pc Ls (.int (lcmpW x y) :: st))) :=
  g_if0_ne X hx pcY pcN hd ho hY hN (fun q => gp ((lw_eq x y).1 q)) (fun q => gn fun r => q ((lw_eq x y).2 r))
theorem g_ifnull_no (X : Stand p l e R s m args below meth c T locs cells slots) (hx : p.tables.exec = Jvm.exec) {b : Addr} {o : Int} (pc' : Nat) (hd : decode c.code pc = .ok (.ifnull o, 3)) (hp : pc + 3 = pc') (g : Go p e below s Q rc rs (T.setTop (mkF m pc' Ls st))) : Go p e below s Q rc rs (T.setTop (mkF m pc Ls (.ref b :: st))) := by
  subst hp; exact g.by fun t k => XS.ifnullNo X.here hx rfl hd rfl k
theorem g_ifnonnull_yes (X : Stand p l e R s m args below meth c T locs cells slots) (hx : p.tables.exec = Jvm.exec) {b : Addr} {o : Int} (pc' : Nat) (hd : decode c.code pc = .ok (.ifnonnull o, 3)) (ho : 0 ≤ (pc : Int) + o) (hp : ((pc : Int) + o).toNat = pc') (g : Go p e below s Q rc rs (T.setTop (mkF m pc' Ls st))) : Go p e below s Q rc rs (T.setTop (mkF m pc Ls (.ref b :: st))) := by
  subst hp; exact g.by fun t k => XS.ifnonnullYes X.here hx rfl rfl hd rfl ho rfl k
theorem g_retI (X : Stand p l e R s m args below meth c T locs cells slots) (hx : p.tables.exec = Jvm.exec) (hret : meth.sig.returnType = some .int) (hlk : meth.locks = false) {z : Int32} (hd : decode c.code pc = .ok (.ireturn, 1)) (hc : cells ≤ rc) (hs : slots ≤ rs) (hQ : Q (some (.int z)) T.heap locs) : Go p e below s Q rc rs (T.setTop (mkF m pc Ls (.int z :: st))) := by
  obtain ⟨fs, hr, hrun, hended, hW, hsame⟩ := X.leave (v := some (.int z)) (fun q => by rw [hret] at q; cases q) hlk
  exact ⟨_, _, retI X hx hret hd hr, hrun, hended, _, _, rfl, hQ, ⟨_, rfl⟩, hW, hsame.mono hc hs⟩
theorem g_retN (X : Stand p l e R s m args below meth c T locs cells slots) (hx : p.tables.exec = Jvm.exec) {ty : FieldType} (hret : meth.sig.returnType = some ty) (ht : ty = .boolean ∨ ty = .byte ∨ ty = .char ∨ ty = .short) (hlk : meth.locks = false) {z : Int32} (hd : decode c.code pc = .ok (.ireturn, 1)) (hc : cells ≤ rc) (hs : slots ≤ rs) (hQ : Q (some (.int (nar ty z))) T.heap locs) : Go p e below s Q rc rs (T.setTop (mkF m pc Ls (.int z :: st))) := by
  obtain ⟨fs, hr, hrun, hended, hW, hsame⟩ := X.leave (v := some (.int (nar ty z))) (fun q => by rw [hret] at q; cases q) hlk
  exact ⟨_, _, retN X hx hret ht hd hr, hrun, hended, _, _, rfl, hQ, ⟨_, rfl⟩, hW, hsame.mono hc hs⟩
theorem g_retJ (X : Stand p l e R s m args below meth c T locs cells slots) (hx : p.tables.exec = Jvm.exec) (hret : meth.sig.returnType = some .long) (hlk : meth.locks = false) {z : Int64} (hd : decode c.code pc = .ok (.lreturn, 1)) (hc : cells ≤ rc) (hs : slots ≤ rs) (hQ : Q (some (.long z)) T.heap locs) : Go p e below s Q rc rs (T.setTop (mkF m pc Ls (.long z :: st))) := by
  obtain ⟨fs, hr, hrun, hended, hW, hsame⟩ := X.leave (v := some (.long z)) (fun q => by rw [hret] at q; cases q) hlk
  exact ⟨_, _, retOut X hx hret rfl (Or.inr (Or.inl ⟨rfl, rfl, z, rfl⟩)) hd hr, hrun, hended, _, _, rfl, hQ, ⟨_, rfl⟩, hW, hsame.mono hc hs⟩
theorem g_retA (X : Stand p l e R s m args below meth c T locs cells slots) (hx : p.tables.exec = Jvm.exec) {ty : FieldType} (hret : meth.sig.returnType = some ty) (ht : ty.isReference = true) (hlk : meth.locks = false) {b : Addr} (hd : decode c.code pc = .ok (.areturn, 1)) (hc : cells ≤ rc) (hs : slots ≤ rs) (hQ : Q (some (.ref b)) T.heap locs) : Go p e below s Q rc rs (T.setTop (mkF m pc Ls [.ref b])) := by
  obtain ⟨fs, hr, hrun, hended, hW, hsame⟩ := X.leave (v := some (.ref b)) (fun q => by rw [hret] at q; cases q) hlk
  exact ⟨_, _, X.areturnOut hx rfl hret ht hd hr, hrun, hended, _, _, rfl, hQ, ⟨_, rfl⟩, hW, hsame.mono hc hs⟩
theorem g_retV (X : Stand p l e R s m args below meth c T locs cells slots) (hx : p.tables.exec = Jvm.exec) (hret : meth.sig.returnType = none) (hlk : meth.locks = false) (hd : decode c.code pc = .ok (.return_, 1)) (hc : cells ≤ rc) (hs : slots ≤ rs) (hQ : Q none T.heap locs) : Go p e below s Q rc rs (T.setTop (mkF m pc Ls [])) := by
  obtain ⟨fs, hr, hrun, hended, hW, hsame⟩ := X.leave (v := none) (fun _ => rfl) hlk
  exact ⟨_, _, X.returnOut hx hret hd hr, hrun, hended, _, _, rfl, hQ, ⟨_, rfl⟩, hW, hsame.mono hc hs⟩
theorem g_body {y : MethodName} {bytes : ByteArray} {maxL : Nat} {ret : Option FieldType} {ws : List Jvm.Cond} {rm : Room} {as : Array Value} (hpn : plainFor y = true)
    (body : ∀ p e s m below meth c T, Stand p l e rm s m as below meth c T [] 0 0 → p.tables.exec = Jvm.exec → c.code = bytes → c.maxLocals = maxL → meth.sig.returnType = ret → meth.locks = false → s.vm.findClass y.cls = some m.cls → meth.name = y.name → Z.Warmed39 s.vm → T.heap = h → Go p e below s Q rc rs (T.setTop (entryFrame m as maxL))) :
    MetFree l y (head1 (Jvm.Cond.code y bytes maxL ret :: ws) rm) (fun a U => a = as ∧ Z.Warmed39 U.vm ∧ U.heap = h) (fun _ _ _ _ _ => True) (fun _ U o U' => ∃ v L, o = .returned v ∧ Q v U'.heap L ∧ FrameEnd U o U' L rc rs) := by
  refine MetFree.of_bodySF hpn hisR ?_
  intro p e s m args below meth c s₁ Bd hml hP hK
  obtain ⟨rfl, hZ, hh⟩ := hP
  exact body p e s m below meth c s₁ (Stand.of_body Bd) Bd.exec Bd.bytes hml Bd.returns Bd.notSynchronized (findClass_of_methodNamed Bd.named) (name_of_methodNamed Bd.named Bd.method).1 hZ (by rw [← hh, Bd.state]; rfl)
theorem g_callS (X : Stand p l e R s m args below meth c T locs cells slots) (hx : p.tables.exec = Jvm.exec) (hZ : Z.Warmed39 s.vm) {own : String} {i : Nat} {y : MethodName} {bytes : ByteArray} {maxL : Nat} {ret : Option FieldType} {rm : Room} {as : Array Value} {Q' : Option Value → Heap → List Loc → Prop} (hown : s.vm.findClass own = some m.cls) (w1 : (Jvm.Cond.methodLink own i y).before a0 Z = true) (w2 : (Jvm.Cond.static y).before a0 Z = true) (w3 : (Jvm.Cond.initialized y.cls).before a0 Z = true) (w4 : (Jvm.Cond.code y bytes maxL ret).before a0 Z = true) (hy : y.cls ≠ "java/lang/invoke/MethodHandle" ∧ y.cls ≠ "java/lang/invoke/VarHandle") (eT : T.heap = h) (hM : MetFree l y (head1 [Jvm.Cond.code y bytes maxL ret] rm) (fun a U => a = as ∧ Z.Warmed39 U.vm ∧ U.heap = h) (fun _ _ _ _ _ => True) (fun _ U o U' => ∃ v L, o = .returned v ∧ Q' v U'.heap L ∧ FrameEnd U o U' L rm.cells rm.slots)) (argsL rest : List Value) (W : Nat) (has : argsL.toArray = as) (hlen : ∀ sig, parseMethodDescriptor y.desc = some sig → argsL.length = sig.parameters.length) (hst : st = argsL.reverse ++ rest) (hW : (rest.map fun v => v.category).sum ≤ W) (hf : rm.frames + 1 ≤ R.frames) (hlo : W + (maxL + 11) + rm.locals ≤ R.locals) (hcl : cells + rm.cells ≤ R.cells) (hsl : slots + rm.slots ≤ R.slots) (hsz : Ls.size = c.maxLocals) (hd : decode c.code pc = .ok (.invokestatic i, 3)) (k : ∀ T' L v, Stand p l e R s m args below meth c T' (locs ++ L) (cells + rm.cells) (slots + rm.slots) → Q' v T'.heap L → Go p e below s Q rc rs (T'.setTop (mkF m (pc + 3) Ls (v.toList ++ rest)))) : Go p e below s Q rc rs (T.setTop (mkF m pc Ls st)) := by
  subst hst has
  obtain ⟨_, _, ⟨T', L', k', n'⟩, -, X', ⟨Lc, hQ, e1, e2, e3⟩, stp⟩ := Jvm.LawKit.callS X hx (y := y) hown (mvT hZ w1) (mvT hZ w2) (mvT hZ w3) (mvT hZ w4) hy (backOf (W := W) hM hZ w4 w3 hf hlo) (g := mkF m pc Ls (argsL.reverse ++ rest)) rfl hsz (argsL := argsL) (rest := rest) hlen rfl (by show 2 * 0 + _ ≤ _; omega) hd (fun _ _ => ⟨rfl, eT, hcl, hsl⟩)
  dsimp only [Pt.U, Pt.locs, Pt.cells, Pt.slots] at X' e1 e2 e3 stp hQ
  subst e1 e2 e3
  exact (k _ _ _ X' hQ).by stp
theorem g_callI (X : Stand p l e R s m args below meth c T locs cells slots) (hx : p.tables.exec = Jvm.exec) (hZ : Z.Warmed39 s.vm) {own : String} {i : Nat} {y : MethodName} {bytes : ByteArray} {maxL : Nat} {rm : Room} {as : Array Value} {Q' : Option Value → Heap → List Loc → Prop} (hy1 : y.name = "<init>") (hown : s.vm.findClass own = some m.cls) (w1 : (Jvm.Cond.methodLink own i y).before a0 Z = true) (w2 : (Jvm.Cond.instanceMethod y).before a0 Z = true) (w3 : (Jvm.Cond.initialized y.cls).before a0 Z = true) (w4 : (Jvm.Cond.code y bytes maxL none).before a0 Z = true) (hy : y.cls ≠ "java/lang/invoke/MethodHandle" ∧ y.cls ≠ "java/lang/invoke/VarHandle") (eT : T.heap = h) (hM : MetFree l y (head1 [Jvm.Cond.code y bytes maxL none] rm) (fun a U => a = as ∧ Z.Warmed39 U.vm ∧ U.heap = h) (fun _ _ _ _ _ => True) (fun _ U o U' => ∃ v L, o = .returned v ∧ Q' v U'.heap L ∧ FrameEnd U o U' L rm.cells rm.slots)) (b : Addr) (argsL rest : List Value) (W : Nat) (has : (.ref b :: argsL : List Value).toArray = as) (hlen : ∀ sig, parseMethodDescriptor y.desc = some sig → argsL.length = sig.parameters.length) (hst : st = argsL.reverse ++ .ref b :: rest) (hW : (rest.map fun v => v.category).sum ≤ W) (hf : rm.frames + 1 ≤ R.frames) (hlo : W + (maxL + 11) + rm.locals ≤ R.locals) (hcl : cells + rm.cells ≤ R.cells) (hsl : slots + rm.slots ≤ R.slots) (hsz : Ls.size = c.maxLocals) (hd : decode c.code pc = .ok (.invokespecial i, 3)) (k : ∀ T' L v, Stand p l e R s m args below meth c T' (locs ++ L) (cells + rm.cells) (slots + rm.slots) → Q' v T'.heap L → Go p e below s Q rc rs (T'.setTop (mkF m (pc + 3) Ls (v.toList ++ rest)))) : Go p e below s Q rc rs (T.setTop (mkF m pc Ls st)) := by
  subst hst has
  obtain ⟨_, _, ⟨T', L', k', n'⟩, -, X', ⟨Lc, hQ, e1, e2, e3⟩, stp⟩ := X.specialBack hx (y := y) hy1 hown (mvT hZ w1) (mvT hZ w2) (mvT hZ w4) hy (backOf (W := W) hM hZ w4 w3 hf hlo) (g := mkF m pc Ls (argsL.reverse ++ .ref b :: rest)) rfl hsz (Steps.refl _) (a := b) (argsL := argsL) (rest := rest) hlen rfl (by show 2 * 0 + _ ≤ _; omega) hd (fun _ _ => ⟨rfl, eT, hcl, hsl⟩)
  dsimp only [Pt.U, Pt.locs, Pt.cells, Pt.slots] at X' e1 e2 e3 stp hQ
  subst e1 e2 e3
  exact (k _ _ _ X' hQ).by fun t k => stp.trans k
theorem g_callV (X : Stand p l e R s m args below meth c T locs cells slots) (hx : p.tables.exec = Jvm.exec) (hZ : Z.Warmed39 s.vm) {own C : String} {i : Nat} {y : MethodName} {bytes : ByteArray} {maxL : Nat} {ret : Option FieldType} {rm : Room} {as : Array Value} {Q' : Option Value → Heap → List Loc → Prop} (hown : s.vm.findClass own = some m.cls) (w1 : (Jvm.Cond.methodLink own i y).before a0 Z = true) (w2 : (Jvm.Cond.declares y).before a0 Z = true) (w5 : (Jvm.Cond.selects C y y).before a0 Z = true) (w6 : (Jvm.Cond.instanceMethod y).before a0 Z = true) (w3 : (Jvm.Cond.initialized y.cls).before a0 Z = true) (w4 : (Jvm.Cond.code y bytes maxL ret).before a0 Z = true) (hy : y.cls ≠ "java/lang/invoke/MethodHandle" ∧ y.cls ≠ "java/lang/invoke/VarHandle") (eT : T.heap = h) (b : Addr) (E : Exa Z h b C) (hM : MetFree l y (head1 [Jvm.Cond.code y bytes maxL ret] rm) (fun a U => a = as ∧ Z.Warmed39 U.vm ∧ U.heap = h) (fun _ _ _ _ _ => True) (fun _ U o U' => ∃ v L, o = .returned v ∧ Q' v U'.heap L ∧ FrameEnd U o U' L rm.cells rm.slots)) (argsL rest : List Value) (W : Nat) (has : (.ref b :: argsL : List Value).toArray = as) (hlen : ∀ sig, parseMethodDescriptor y.desc = some sig → argsL.length = sig.parameters.length) (hst : st = argsL.reverse ++ .ref b :: rest) (hW : (rest.map fun v => v.category).sum ≤ W) (hf : rm.frames + 1 ≤ R.frames) (hlo : W + (maxL + 11) + rm.locals ≤ R.locals) (hcl : cells + rm.cells ≤ R.cells) (hsl : slots + rm.slots ≤ R.slots) (hsz : Ls.size = c.maxLocals) (hd : decode c.code pc = .ok (.invokevirtual i, 3)) (k : ∀ T' L v, Stand p l e R s m args below meth c T' (locs ++ L) (cells + rm.cells) (slots + rm.slots) → Q' v T'.heap L → Go p e below s Q rc rs (T'.setTop (mkF m (pc + 3) Ls (v.toList ++ rest)))) : Go p e below s Q rc rs (T.setTop (mkF m pc Ls st)) := by
  subst hst has
  obtain ⟨cq, kq, qa, qb, qc⟩ := isOf hZ eT E
  obtain ⟨_, _, ⟨T', L', k', n'⟩, -, X', ⟨Lc, hQ, e1, e2, e3⟩, stp⟩ := X.virtualBack hx (y := y) (z := y) hown (mvT hZ w1) (mvT hZ w2) (notFace_of_selects (args := #[]) (mvT hZ w5)) (mvT hZ w5) (mvT hZ w6) hy (backOf (W := W) hM hZ w4 w3 hf hlo) qa qc (g := mkF m pc Ls (argsL.reverse ++ .ref b :: rest)) rfl hsz (Steps.refl _) (argsL := argsL) (rest := rest) hlen rfl (by show 2 * 0 + _ ≤ _; omega) hd (fun _ _ => ⟨rfl, eT, hcl, hsl⟩)
  dsimp only [Pt.U, Pt.locs, Pt.cells, Pt.slots] at X' e1 e2 e3 stp hQ
  subst e1 e2 e3
  exact (k _ _ _ X' hQ).by fun t k => stp.trans k
theorem g_callP (X : Stand p l e R s m args below meth c T locs cells slots) (hx : p.tables.exec = Jvm.exec) (hZ : Z.Warmed39 s.vm) {own C : String} {i : Nat} {y : MethodName} {bytes : ByteArray} {maxL : Nat} {ret : Option FieldType} {rm : Room} {as : Array Value} {Q' : Option Value → Heap → List Loc → Prop} (hown : s.vm.findClass own = some m.cls) (w1 : (Jvm.Cond.methodLink own i y).before a0 Z = true) (w2 : (Jvm.Cond.instanceMethod y).before a0 Z = true) (w5 : (Jvm.Cond.selects y.cls y y).before a0 Z = true) (w6 : (Jvm.Cond.privateMethod y).before a0 Z = true) (w3 : (Jvm.Cond.initialized y.cls).before a0 Z = true) (w4 : (Jvm.Cond.code y bytes maxL ret).before a0 Z = true) (hy : y.cls ≠ "java/lang/invoke/MethodHandle" ∧ y.cls ≠ "java/lang/invoke/VarHandle") (eT : T.heap = h) (b : Addr) (E : Exa Z h b C) (hM : MetFree l y (head1 [Jvm.Cond.code y bytes maxL ret] rm) (fun a U => a = as ∧ Z.Warmed39 U.vm ∧ U.heap = h) (fun _ _ _ _ _ => True) (fun _ U o U' => ∃ v L, o = .returned v ∧ Q' v U'.heap L ∧ FrameEnd U o U' L rm.cells rm.slots)) (argsL rest : List Value) (W : Nat) (has : (.ref b :: argsL : List Value).toArray = as) (hlen : ∀ sig, parseMethodDescriptor y.desc = some sig → argsL.length = sig.parameters.length) (hst : st = argsL.reverse ++ .ref b :: rest) (hW : (rest.map fun v => v.category).sum ≤ W) (hf : rm.frames + 1 ≤ R.frames) (hlo : W + (maxL + 11) + rm.locals ≤ R.locals) (hcl : cells + rm.cells ≤ R.cells) (hsl : slots + rm.slots ≤ R.slots) (hsz : Ls.size = c.maxLocals) (hd : decode c.code pc = .ok (.invokevirtual i, 3)) (k : ∀ T' L v, Stand p l e R s m args below meth c T' (locs ++ L) (cells + rm.cells) (slots + rm.slots) → Q' v T'.heap L → Go p e below s Q rc rs (T'.setTop (mkF m (pc + 3) Ls (v.toList ++ rest)))) : Go p e below s Q rc rs (T.setTop (mkF m pc Ls st)) := by
  subst hst has
  obtain ⟨cq, q, q'⟩ := E.cell
  obtain ⟨_, _, ⟨T', L', k', n'⟩, -, X', ⟨Lc, hQ, e1, e2, e3⟩, stp⟩ := X.privateBack hx (y := y) hown (mvT hZ w1) (mvT hZ w2) (mvT hZ w5) (Cond.privateMethod_at (mvP hZ w6 (args := #[]))) (mvT hZ w4) hy (backOf (W := W) hM hZ w4 w3 hf hlo) (g := mkF m pc Ls (argsL.reverse ++ .ref b :: rest)) rfl hsz (Steps.refl _) (a := b) (by rw [eT]; exact q) q' (argsL := argsL) (rest := rest) hlen rfl (by show 2 * 0 + _ ≤ _; omega) hd (fun _ _ => ⟨rfl, eT, hcl, hsl⟩)
  dsimp only [Pt.U, Pt.locs, Pt.cells, Pt.slots] at X' e1 e2 e3 stp hQ
  subst e1 e2 e3
  exact (k _ _ _ X' hQ).by fun t k => stp.trans k
theorem g_initO (X : Stand p l e R s m args below meth c T locs cells slots) (hx : p.tables.exec = Jvm.exec) (hZ : Z.Warmed39 s.vm) {own : String} {i : Nat} (hown : s.vm.findClass own = some m.cls) (w1 : (Jvm.Cond.methodLink own i Lib.objectInit).before a0 Z = true) (w2 : (Jvm.Cond.instanceMethod Lib.objectInit).before a0 Z = true) (w3 : (Jvm.Cond.code Lib.objectInit ⟨#[0xb1]⟩ 1 none).before a0 Z = true) (eT : T.heap = h) {b : Addr} (pc' : Nat) (hsz : Ls.size = c.maxLocals) (hd : decode c.code pc = .ok (.invokespecial i, 3)) (hf : 1 ≤ R.frames) (W : Nat) (hW : (st.map fun v => v.category).sum ≤ W) (hlo : W + 12 ≤ R.locals) (hp : pc + 3 = pc') (k : ∀ T', Stand p l e R s m args below meth c T' locs cells slots → T'.heap = h → Go p e below s Q rc rs (T'.setTop (mkF m pc' Ls st))) : Go p e below s Q rc rs (T.setTop (mkF m pc Ls (.ref b :: st))) := by
  subst hp
  obtain ⟨T', X', e', stp⟩ := initO X hx hZ hown w1 w2 w3 eT (g := mkF m pc Ls (.ref b :: st)) rfl hsz rfl hd hf (W := W) (by show 2 * 0 + _ ≤ _; omega) hlo
  exact (k _ X' e').by stp
theorem g_getF (X : Stand p l e R s m args below meth c T locs cells slots) (hx : p.tables.exec = Jvm.exec) (hZ : Z.Warmed39 s.vm) {own R0 O n d : String} {i : Nat} (hown : s.vm.findClass own = some m.cls) (w : (Jvm.Cond.fieldLink own i R0 n d).before a0 Z = true) (via : Via Z R0 O n d) (eT : T.heap = h) {b : Addr} {v : Value} (F : Fld Z h b O n d v) (pc' : Nat) (hd : decode c.code pc = .ok (.getfield i, 3)) (hp : pc + 3 = pc') (k : ∀ T', Stand p l e R s m args below meth c T' locs cells slots → T'.heap = h → Go p e below s Q rc rs (T'.setTop (mkF m pc' Ls (v :: st)))) : Go p e below s Q rc rs (T.setTop (mkF m pc Ls (.ref b :: st))) := by
  subst hp
  obtain ⟨T', X', e', stp⟩ := getF X hx hZ hown (host := "") (Or.inl w) via eT F (g := mkF m pc Ls (.ref b :: st)) rfl rfl hd
  exact (k _ X' e').by stp
theorem g_putF (X : Stand p l e R s m args below meth c T locs cells slots) (hx : p.tables.exec = Jvm.exec) (hZ : Z.Warmed39 s.vm) {own R0 O n d C : String} {i kk : Nat} {ty : FieldType} (hown : s.vm.findClass own = some m.cls) (w : (Jvm.Cond.fieldLink own i R0 n d).before a0 Z = true) (via : Via Z R0 O n d) (eT : T.heap = h) {b : Addr} {v old : Value} (F : Fld Z h b O n d old) (E : Exa Z h b C) (L : (Jvm.Cond.lays C O n d).before a0 Z = true ∨ ((Jvm.Cond.laysFinal C O n d).before a0 Z = true ∧ own = O ∧ meth.name = "<init>")) (wi : (Jvm.Cond.instantiable C kk).before a0 Z = true) (hty : parseFieldDescriptor d = some ty) (hn : narrow ty v = v) (hf : fits ty v = true) (pc' : Nat) (hd : decode c.code pc = .ok (.putfield i, 3)) (hp : pc + 3 = pc') (k : ∀ T' h', Stand p l e R s m args below meth c T' (locs ++ [⟨b, Jvm.RoadKit.slotOf Z O n d⟩]) cells slots → T'.heap = h' → Wr h h' b (Jvm.RoadKit.slotOf Z O n d) v → Go p e below s Q rc rs (T'.setTop (mkF m pc' Ls st))) : Go p e below s Q rc rs (T.setTop (mkF m pc Ls (v :: .ref b :: st))) := by
  subst hp
  obtain ⟨T', h', X', e', W', stp⟩ := putF X hx hZ hown (host := "") (Or.inl w) via eT F E L wi hty hn hf (g := mkF m pc Ls (v :: .ref b :: st)) rfl rfl hd
  exact (k _ _ X' e' W').by stp
theorem g_new (X : Stand p l e R s m args below meth c T locs cells slots) (hx : p.tables.exec = Jvm.exec) (hZ : Z.Warmed39 s.vm) {own C : String} {i n : Nat} (hown : s.vm.findClass own = some m.cls) (w : (Jvm.Cond.classLink own i C).before a0 Z = true) (wi : (Jvm.Cond.instantiable C n).before a0 Z = true) (wz : (Jvm.Cond.initialized C).before a0 Z = true) (eT : T.heap = h) (pc' : Nat) (hd : decode c.code pc = .ok (.new i, 3)) (hcl : cells + 1 ≤ R.cells) (hsl : slots + n ≤ R.slots) (hp : pc + 3 = pc') (k : ∀ T' h' b, b = h.size → Stand p l e R s m args below meth c T' locs (cells + 1) (slots + n) → T'.heap = h' → Ext h h' → Exa Z h' b C → (∀ {O nm d : String} {ty : FieldType}, Laid Z a0 C O nm d → parseFieldDescriptor d = some ty → Fld Z h' b O nm d (defaultValue ty)) → Go p e below s Q rc rs (T'.setTop (mkF m pc' Ls (.ref b :: st)))) : Go p e below s Q rc rs (T.setTop (mkF m pc Ls st)) := by
  subst hp
  obtain ⟨T', h', X', e', E', A', D', -, stp⟩ := newO X hx hZ hown w wi wz eT (g := mkF m pc Ls st) rfl hd hcl hsl
  exact (k _ _ _ rfl X' e' E' A' D').by stp
/-- an array of n places whose j-th holds f j -/
def AV (Z : State) (h : Heap) (a : Addr) (ty : FieldType) (n : Nat) (f : Nat → Value) : Prop := ∃ c : Cell, Arr Z h a c ty ∧ c.slots.size = n ∧ n < 2 ^ 31 ∧ ∀ j, j < n → c.slots[j]? = some (f j)
theorem AV.ext {h' : Heap} {a : Addr} {ty : FieldType} {n : Nat} {f : Nat → Value} (F : AV Z h a ty n f) (E : Ext h h') : AV Z h' a ty n f := by obtain ⟨c, A, r⟩ := F; exact ⟨c, A.ext E, r⟩
theorem AV.other {h' : Heap} {a b : Addr} {ty : FieldType} {n sl : Nat} {f : Nat → Value} {v : Value} (F : AV Z h a ty n f) (W : Wr h h' b sl v) (q : a ≠ b) : AV Z h' a ty n f := by obtain ⟨c, A, r⟩ := F; exact ⟨c, A.other W q, r⟩
theorem AV.keep {h' : Heap} {a : Addr} {ws : List Addr} {ty : FieldType} {n : Nat} {f : Nat → Value} (F : AV Z h a ty n f) (K : Keep h h' ws) (q : a ∉ ws) : AV Z h' a ty n f := by obtain ⟨c, A, r⟩ := F; exact ⟨c, ⟨K.2.1 a c A.1 q, A.2⟩, r⟩
theorem AV.lt {a : Addr} {ty : FieldType} {n : Nat} {f : Nat → Value} (F : AV Z h a ty n f) : a < h.size := by obtain ⟨c, A, -⟩ := F; exact A.lt
theorem AV.small {a : Addr} {ty : FieldType} {n : Nat} {f : Nat → Value} (F : AV Z h a ty n f) : n < 2 ^ 31 := by obtain ⟨c, -, -, q, -⟩ := F; exact q
theorem AV.congr {a : Addr} {ty : FieldType} {n : Nat} {f g : Nat → Value} (F : AV Z h a ty n f) (q : ∀ j, j < n → f j = g j) : AV Z h a ty n g := by obtain ⟨c, A, r1, r2, r3⟩ := F; exact ⟨c, A, r1, r2, fun j hj => by rw [r3 j hj, q j hj]⟩
theorem own_idx {j : Int32} {i : Nat} (q : j.toInt = i) : ¬ j < 0 ∧ j.toNatClampNeg = i := by
  refine ⟨?_, ?_⟩
  · rw [Int32.lt_iff_toInt_lt, q]; simp
  · show j.toInt.toNat = i; omega
theorem own_in {j : Int32} {i : Nat} {cl : Cell} (q : j.toInt = i) (hi : i < cl.slots.size) : ¬ (j < 0 ∨ cl.slots.size ≤ j.toNatClampNeg) := by
  obtain ⟨q1, q2⟩ := own_idx q
  rintro (z | z)
  · exact q1 z
  · omega
def upd {α : Type} (g : Nat → α) (j : Nat) (x : α) : Nat → α := fun q => if q = j then x else g q
def AI (Z : State) (h : Heap) (a : Addr) (n : Nat) (g : Nat → Int32) : Prop := AV Z h a .int n (fun j => .int (g j))
def AJ (Z : State) (h : Heap) (a : Addr) (n : Nat) (g : Nat → Int64) : Prop := AV Z h a .long n (fun j => .long (g j))
def AB (Z : State) (h : Heap) (a : Addr) (n : Nat) (g : Nat → Int32) : Prop := AV Z h a .byte n (fun j => .int (g j))
theorem nm0 {a : Addr} : a ∉ ([] : List Addr) := nofun
theorem nm1 {a b : Addr} {ws : List Addr} (q : a ≠ b) (r : a ∉ ws) : a ∉ b :: ws := fun z => by
  rcases List.mem_cons.mp z with z | z
  · exact q z
  · exact r z
theorem AI.ext {h' : Heap} {a : Addr} {n : Nat} {g : Nat → Int32} (F : AI Z h a n g) (E : Ext h h') : AI Z h' a n g := AV.ext F E
theorem AI.other {h' : Heap} {a b : Addr} {n sl : Nat} {g : Nat → Int32} {v : Value} (F : AI Z h a n g) (W : Wr h h' b sl v) (q : a ≠ b) : AI Z h' a n g := AV.other F W q
theorem AI.keep {h' : Heap} {a : Addr} {ws : List Addr} {n : Nat} {g : Nat → Int32} (F : AI Z h a n g) (K : Keep h h' ws) (q : a ∉ ws) : AI Z h' a n g := AV.keep F K q
theorem AI.lt {a : Addr} {n : Nat} {g : Nat → Int32} (F : AI Z h a n g) : a < h.size := AV.lt F
theorem AI.small {a : Addr} {n : Nat} {g : Nat → Int32} (F : AI Z h a n g) : n < 2 ^ 31 := AV.small F
theorem AI.congr {a : Addr} {n : Nat} {g g' : Nat → Int32} (F : AI Z h a n g) (q : ∀ j, j < n → g j = g' j) : AI Z h a n g' := AV.congr F fun j hj => by rw [q j hj]
theorem AJ.ext {h' : Heap} {a : Addr} {n : Nat} {g : Nat → Int64} (F : AJ Z h a n g) (E : Ext h h') : AJ Z h' a n g := AV.ext F E
theorem AJ.other {h' : Heap} {a b : Addr} {n sl : Nat} {g : Nat → Int64} {v : Value} (F : AJ Z h a n g) (W : Wr h h' b sl v) (q : a ≠ b) : AJ Z h' a n g := AV.other F W q
theorem AJ.keep {h' : Heap} {a : Addr} {ws : List Addr} {n : Nat} {g : Nat → Int64} (F : AJ Z h a n g) (K : Keep h h' ws) (q : a ∉ ws) : AJ Z h' a n g := AV.keep F K q
theorem AJ.lt {a : Addr} {n : Nat} {g : Nat → Int64} (F : AJ Z h a n g) : a < h.size := AV.lt F
theorem AJ.small {a : Addr} {n : Nat} {g : Nat → Int64} (F : AJ Z h a n g) : n < 2 ^ 31 := AV.small F
theorem AJ.congr {a : Addr} {n : Nat} {g g' : Nat → Int64} (F : AJ Z h a n g) (q : ∀ j, j < n → g j = g' j) : AJ Z h a n g' := AV.congr F fun j hj => by rw [q j hj]
theorem AB.ext {h' : Heap} {a : Addr} {n : Nat} {g : Nat → Int32} (F : AB Z h a n g) (E : Ext h h') : AB Z h' a n g := AV.ext F E
theorem AB.other {h' : Heap} {a b : Addr} {n sl : Nat} {g : Nat → Int32} {v : Value} (F : AB Z h a n g) (W : Wr h h' b sl v) (q : a ≠ b) : AB Z h' a n g := AV.other F W q
theorem AB.keep {h' : Heap} {a : Addr} {ws : List Addr} {n : Nat} {g : Nat → Int32} (F : AB Z h a n g) (K : Keep h h' ws) (q : a ∉ ws) : AB Z h' a n g := AV.keep F K q
theorem AB.lt {a : Addr} {n : Nat} {g : Nat → Int32} (F : AB Z h a n g) : a < h.size := AV.lt F
theorem AB.small {a : Addr} {n : Nat} {g : Nat → Int32} (F : AB Z h a n g) : n < 2 ^ 31 := AV.small F
theorem AB.congr {a : Addr} {n : Nat} {g g' : Nat → Int32} (F : AB Z h a n g) (q : ∀ j, j < n → g j = g' j) : AB Z h a n g' := AV.congr F fun j hj => by rw [q j hj]
theorem g_iaload (X : Stand p l e R s m args below meth c T locs cells slots) (hx : p.tables.exec = Jvm.exec) (hZ : Z.Warmed39 s.vm) (eT : T.heap = h) {b : Addr} {n : Nat} {g : Nat → Int32} (A : AI Z h b n g) {j : Int32} (jn : Nat) (hj : j.toInt = jn) (hlt : jn < n) (pc' : Nat) (hd : decode c.code pc = .ok (.iaload, 1)) (hp : pc + 1 = pc') (k : Go p e below s Q rc rs (T.setTop (mkF m pc' Ls (.int (g jn) :: st)))) : Go p e below s Q rc rs (T.setTop (mkF m pc Ls (.int j :: .ref b :: st))) := by
  subst hp
  obtain ⟨cl, A1, A2, A3, A4⟩ := A
  exact k.by fun t k => X.iaload hx (j := j) (by rw [eT]; exact A1.1) (State.isArrayOf_alike hZ.alike A1.2.1) A1.2.2 (own_in hj (by omega)) (by rw [(own_idx hj).2]; exact A4 _ hlt) (g := mkF m pc Ls (.int j :: .ref b :: st)) rfl rfl hd t k
theorem g_laload (X : Stand p l e R s m args below meth c T locs cells slots) (hx : p.tables.exec = Jvm.exec) (hZ : Z.Warmed39 s.vm) (eT : T.heap = h) {b : Addr} {n : Nat} {g : Nat → Int64} (A : AJ Z h b n g) {j : Int32} (jn : Nat) (hj : j.toInt = jn) (hlt : jn < n) (pc' : Nat) (hd : decode c.code pc = .ok (.laload, 1)) (hp : pc + 1 = pc') (k : Go p e below s Q rc rs (T.setTop (mkF m pc' Ls (.long (g jn) :: st)))) : Go p e below s Q rc rs (T.setTop (mkF m pc Ls (.int j :: .ref b :: st))) := by
  subst hp
  obtain ⟨cl, A1, A2, A3, A4⟩ := A
  exact k.by fun t k => X.laload hx (j := j) (by rw [eT]; exact A1.1) (State.isArrayOf_alike hZ.alike A1.2.1) A1.2.2 (own_in hj (by omega)) (by rw [(own_idx hj).2]; exact A4 _ hlt) (g := mkF m pc Ls (.int j :: .ref b :: st)) rfl rfl hd t k
theorem g_baload (X : Stand p l e R s m args below meth c T locs cells slots) (hx : p.tables.exec = Jvm.exec) (hZ : Z.Warmed39 s.vm) (eT : T.heap = h) {b : Addr} {n : Nat} {g : Nat → Int32} (A : AB Z h b n g) {j : Int32} (jn : Nat) (hj : j.toInt = jn) (hlt : jn < n) (pc' : Nat) (hd : decode c.code pc = .ok (.baload, 1)) (hp : pc + 1 = pc') (k : Go p e below s Q rc rs (T.setTop (mkF m pc' Ls (.int (g jn) :: st)))) : Go p e below s Q rc rs (T.setTop (mkF m pc Ls (.int j :: .ref b :: st))) := by
  subst hp
  obtain ⟨cl, A1, A2, A3, A4⟩ := A
  exact k.by fun t k => X.baloadBytes hx (j := j) (by rw [eT]; exact A1.1) (State.isArrayOf_alike hZ.alike A1.2.1) A1.2.2 (own_in hj (by omega)) (by rw [(own_idx hj).2]; exact A4 _ hlt) (g := mkF m pc Ls (.int j :: .ref b :: st)) rfl rfl hd t k
theorem g_iastore (X : Stand p l e R s m args below meth c T locs cells slots) (hx : p.tables.exec = Jvm.exec) (hZ : Z.Warmed39 s.vm) (eT : T.heap = h) {b : Addr} {n : Nat} {g : Nat → Int32} (A : AI Z h b n g) {j : Int32} {x : Int32} (jn : Nat) (hj : j.toInt = jn) (hlt : jn < n) (pc' : Nat) (hd : decode c.code pc = .ok (.iastore, 1)) (hp : pc + 1 = pc') (k : ∀ T' h', Stand p l e R s m args below meth c T' (locs ++ [⟨b, jn⟩]) cells slots → T'.heap = h' → Wr h h' b jn (.int x) → AI Z h' b n (upd g jn x) → Go p e below s Q rc rs (T'.setTop (mkF m pc' Ls st))) : Go p e below s Q rc rs (T.setTop (mkF m pc Ls (.int x :: .int j :: .ref b :: st))) := by
  subst hp
  obtain ⟨cl, A1, A2, A3, A4⟩ := A
  obtain ⟨T', h', X', e', W', stp⟩ := stI X hx hZ eT A1 (j := j) (x := x) (own_in hj (by omega)) (g := mkF m pc Ls (.int x :: .int j :: .ref b :: st)) rfl rfl hd
  rw [(own_idx hj).2] at X' W'
  refine (k _ _ X' e' W' ⟨_, A1.same W', by rw [sz_set]; exact A2, A3, fun q hq => ?_⟩).by stp
  by_cases z : q = jn
  · subst z; simp [Cell.setSlot, A2, hq, upd]; try rfl
  · simp only [upd, z, if_false]; rw [← A4 q hq]; simp only [Cell.setSlot]; rw [Array.getElem?_setIfInBounds_ne (Ne.symm z)]
theorem g_lastore (X : Stand p l e R s m args below meth c T locs cells slots) (hx : p.tables.exec = Jvm.exec) (hZ : Z.Warmed39 s.vm) (eT : T.heap = h) {b : Addr} {n : Nat} {g : Nat → Int64} (A : AJ Z h b n g) {j : Int32} {x : Int64} (jn : Nat) (hj : j.toInt = jn) (hlt : jn < n) (pc' : Nat) (hd : decode c.code pc = .ok (.lastore, 1)) (hp : pc + 1 = pc') (k : ∀ T' h', Stand p l e R s m args below meth c T' (locs ++ [⟨b, jn⟩]) cells slots → T'.heap = h' → Wr h h' b jn (.long x) → AJ Z h' b n (upd g jn x) → Go p e below s Q rc rs (T'.setTop (mkF m pc' Ls st))) : Go p e below s Q rc rs (T.setTop (mkF m pc Ls (.long x :: .int j :: .ref b :: st))) := by
  subst hp
  obtain ⟨cl, A1, A2, A3, A4⟩ := A
  obtain ⟨T', h', X', e', W', stp⟩ := stJ X hx hZ eT A1 (j := j) (x := x) (own_in hj (by omega)) (g := mkF m pc Ls (.long x :: .int j :: .ref b :: st)) rfl rfl hd
  rw [(own_idx hj).2] at X' W'
  refine (k _ _ X' e' W' ⟨_, A1.same W', by rw [sz_set]; exact A2, A3, fun q hq => ?_⟩).by stp
  by_cases z : q = jn
  · subst z; simp [Cell.setSlot, A2, hq, upd]; try rfl
  · simp only [upd, z, if_false]; rw [← A4 q hq]; simp only [Cell.setSlot]; rw [Array.getElem?_setIfInBounds_ne (Ne.symm z)]
theorem g_bastore (X : Stand p l e R s m args below meth c T locs cells slots) (hx : p.tables.exec = Jvm.exec) (hZ : Z.Warmed39 s.vm) (eT : T.heap = h) {b : Addr} {n : Nat} {g : Nat → Int32} (A : AB Z h b n g) {j : Int32} {x : Int32} (jn : Nat) (hj : j.toInt = jn) (hlt : jn < n) (pc' : Nat) (hd : decode c.code pc = .ok (.bastore, 1)) (hp : pc + 1 = pc') (k : ∀ T' h', Stand p l e R s m args below meth c T' (locs ++ [⟨b, jn⟩]) cells slots → T'.heap = h' → Wr h h' b jn (.int (nar .byte x)) → AB Z h' b n (upd g jn (i2bI x)) → Go p e below s Q rc rs (T'.setTop (mkF m pc' Ls st))) : Go p e below s Q rc rs (T.setTop (mkF m pc Ls (.int x :: .int j :: .ref b :: st))) := by
  subst hp
  obtain ⟨cl, A1, A2, A3, A4⟩ := A
  obtain ⟨T', h', X', e', W', stp⟩ := stB X hx hZ eT A1 (j := j) (x := x) (own_in hj (by omega)) (g := mkF m pc Ls (.int x :: .int j :: .ref b :: st)) rfl rfl hd
  rw [(own_idx hj).2] at X' W'
  refine (k _ _ X' e' W' ⟨_, A1.same W', by rw [sz_set]; exact A2, A3, fun q hq => ?_⟩).by stp
  by_cases z : q = jn
  · subst z; simp [Cell.setSlot, A2, hq, upd]; try rfl
  · simp only [upd, z, if_false]; rw [← A4 q hq]; simp only [Cell.setSlot]; rw [Array.getElem?_setIfInBounds_ne (Ne.symm z)]
theorem g_arraylengthI (X : Stand p l e R s m args below meth c T locs cells slots) (hx : p.tables.exec = Jvm.exec) (hZ : Z.Warmed39 s.vm) (eT : T.heap = h) {b : Addr} {n : Nat} {g : Nat → Int32} (A : AI Z h b n g) (v : Int32) (hv : n.toInt32 = v) (pc' : Nat) (hd : decode c.code pc = .ok (.arraylength, 1)) (hp : pc + 1 = pc') (k : Go p e below s Q rc rs (T.setTop (mkF m pc' Ls (.int v :: st)))) : Go p e below s Q rc rs (T.setTop (mkF m pc Ls (.ref b :: st))) := by
  subst hp hv
  obtain ⟨cl, A1, A2, A3, A4⟩ := A
  subst A2
  exact k.by fun t k => X.arraylength hx (by rw [eT]; exact A1.1) (State.isArrayOf_alike hZ.alike A1.2.1) (g := mkF m pc Ls (.ref b :: st)) rfl rfl hd t k
theorem g_arraylengthJ (X : Stand p l e R s m args below meth c T locs cells slots) (hx : p.tables.exec = Jvm.exec) (hZ : Z.Warmed39 s.vm) (eT : T.heap = h) {b : Addr} {n : Nat} {g : Nat → Int64} (A : AJ Z h b n g) (v : Int32) (hv : n.toInt32 = v) (pc' : Nat) (hd : decode c.code pc = .ok (.arraylength, 1)) (hp : pc + 1 = pc') (k : Go p e below s Q rc rs (T.setTop (mkF m pc' Ls (.int v :: st)))) : Go p e below s Q rc rs (T.setTop (mkF m pc Ls (.ref b :: st))) := by
  subst hp hv
  obtain ⟨cl, A1, A2, A3, A4⟩ := A
  subst A2
  exact k.by fun t k => X.arraylength hx (by rw [eT]; exact A1.1) (State.isArrayOf_alike hZ.alike A1.2.1) (g := mkF m pc Ls (.ref b :: st)) rfl rfl hd t k
theorem g_arraylengthB (X : Stand p l e R s m args below meth c T locs cells slots) (hx : p.tables.exec = Jvm.exec) (hZ : Z.Warmed39 s.vm) (eT : T.heap = h) {b : Addr} {n : Nat} {g : Nat → Int32} (A : AB Z h b n g) (v : Int32) (hv : n.toInt32 = v) (pc' : Nat) (hd : decode c.code pc = .ok (.arraylength, 1)) (hp : pc + 1 = pc') (k : Go p e below s Q rc rs (T.setTop (mkF m pc' Ls (.int v :: st)))) : Go p e below s Q rc rs (T.setTop (mkF m pc Ls (.ref b :: st))) := by
  subst hp hv
  obtain ⟨cl, A1, A2, A3, A4⟩ := A
  subst A2
  exact k.by fun t k => X.arraylength hx (by rw [eT]; exact A1.1) (State.isArrayOf_alike hZ.alike A1.2.1) (g := mkF m pc Ls (.ref b :: st)) rfl rfl hd t k
theorem g_newarr (X : Stand p l e R s m args below meth c T locs cells slots) (hx : p.tables.exec = Jvm.exec) (hZ : Z.Warmed39 s.vm) {aty : ArrayType} (w : (Jvm.Cond.arrayClass (newarray.typeOf aty)).before a0 Z = true) (eT : T.heap = h) {n : Int32} (N cap : Nat) (hn : n.toInt = N) (hcap : N ≤ cap) (hb : cap * 8 ≤ 536870912) (pc' : Nat) (hd : decode c.code pc = .ok (.newarray aty, 2)) (hcl : cells + 1 ≤ R.cells) (hsl : slots + cap ≤ R.slots) (hp : pc + 2 = pc') (k : ∀ T' h' b, b = h.size → Stand p l e R s m args below meth c T' locs (cells + 1) (slots + cap) → T'.heap = h' → Ext h h' → AV Z h' b (newarray.typeOf aty) N (fun _ => defaultValue (newarray.typeOf aty)) → Go p e below s Q rc rs (T'.setTop (mkF m pc' Ls (.ref b :: st)))) : Go p e below s Q rc rs (T.setTop (mkF m pc Ls (.int n :: st))) := by
  subst hp
  obtain ⟨q1, q2⟩ := own_idx hn
  obtain ⟨T', h', kA, X', e', E', A', stp⟩ := newP X hx hZ w eT (g := mkF m pc Ls (.int n :: st)) rfl hd rfl q1 (cap := cap) (by rw [q2]; exact hcap) hb hcl hsl
  have hN : N < 2 ^ 31 := by have := n.toInt_lt; omega
  refine (k _ _ _ rfl X' e' E' ⟨_, A', by rw [sz_new, q2], hN, fun j hj => ?_⟩).by stp
  simp [newA, q2, hj]
theorem g_newarrayI (X : Stand p l e R s m args below meth c T locs cells slots) (hx : p.tables.exec = Jvm.exec) (hZ : Z.Warmed39 s.vm) (w : (Jvm.Cond.arrayClass .int).before a0 Z = true) (eT : T.heap = h) {n : Int32} (N cap : Nat) (hn : n.toInt = N) (hcap : N ≤ cap) (hb : cap * 8 ≤ 536870912) (pc' : Nat) (hd : decode c.code pc = .ok (.newarray .int, 2)) (hcl : cells + 1 ≤ R.cells) (hsl : slots + cap ≤ R.slots) (hp : pc + 2 = pc') (k : ∀ T' h' b, b = h.size → Stand p l e R s m args below meth c T' locs (cells + 1) (slots + cap) → T'.heap = h' → Ext h h' → AI Z h' b N (fun _ => (0 : Int32)) → Go p e below s Q rc rs (T'.setTop (mkF m pc' Ls (.ref b :: st)))) : Go p e below s Q rc rs (T.setTop (mkF m pc Ls (.int n :: st))) :=
  g_newarr X hx hZ (aty := .int) w eT N cap hn hcap hb pc' hd hcl hsl hp fun T' h' b q1 q2 q3 q4 q5 => k T' h' b q1 q2 q3 q4 q5
theorem g_newarrayJ (X : Stand p l e R s m args below meth c T locs cells slots) (hx : p.tables.exec = Jvm.exec) (hZ : Z.Warmed39 s.vm) (w : (Jvm.Cond.arrayClass .long).before a0 Z = true) (eT : T.heap = h) {n : Int32} (N cap : Nat) (hn : n.toInt = N) (hcap : N ≤ cap) (hb : cap * 8 ≤ 536870912) (pc' : Nat) (hd : decode c.code pc = .ok (.newarray .long, 2)) (hcl : cells + 1 ≤ R.cells) (hsl : slots + cap ≤ R.slots) (hp : pc + 2 = pc') (k : ∀ T' h' b, b = h.size → Stand p l e R s m args below meth c T' locs (cells + 1) (slots + cap) → T'.heap = h' → Ext h h' → AJ Z h' b N (fun _ => (0 : Int64)) → Go p e below s Q rc rs (T'.setTop (mkF m pc' Ls (.ref b :: st)))) : Go p e below s Q rc rs (T.setTop (mkF m pc Ls (.int n :: st))) :=
  g_newarr X hx hZ (aty := .long) w eT N cap hn hcap hb pc' hd hcl hsl hp fun T' h' b q1 q2 q3 q4 q5 => k T' h' b q1 q2 q3 q4 q5
theorem g_newarrayB (X : Stand p l e R s m args below meth c T locs cells slots) (hx : p.tables.exec = Jvm.exec) (hZ : Z.Warmed39 s.vm) (w : (Jvm.Cond.arrayClass .byte).before a0 Z = true) (eT : T.heap = h) {n : Int32} (N cap : Nat) (hn : n.toInt = N) (hcap : N ≤ cap) (hb : cap * 8 ≤ 536870912) (pc' : Nat) (hd : decode c.code pc = .ok (.newarray .byte, 2)) (hcl : cells + 1 ≤ R.cells) (hsl : slots + cap ≤ R.slots) (hp : pc + 2 = pc') (k : ∀ T' h' b, b = h.size → Stand p l e R s m args below meth c T' locs (cells + 1) (slots + cap) → T'.heap = h' → Ext h h' → AB Z h' b N (fun _ => (0 : Int32)) → Go p e below s Q rc rs (T'.setTop (mkF m pc' Ls (.ref b :: st)))) : Go p e below s Q rc rs (T.setTop (mkF m pc Ls (.int n :: st))) :=
  g_newarr X hx hZ (aty := .byte) w eT N cap hn hcap hb pc' hd hcl hsl hp fun T' h' b q1 q2 q3 q4 q5 => k T' h' b q1 q2 q3 q4 q5
end OwnKit
/-- the loads behind k turns of add (the sum w each), from place i of the path on -/
def own_aw (fn : Nat → Nat) (w : Int64) : Nat → Nat → (Nat → Int64) → Nat → Int64
  | 0, _, W => W
  | k + 1, i, W => own_aw fn w k (i + 1) (upd W (fn i) (W (fn i) + w))
def own_ap (fn : Nat → Nat) (d : Int32) : Nat → Nat → (Nat → Int32) → Nat → Int32
  | 0, _, P => P
  | k + 1, i, P => own_ap fn d k (i + 1) (upd P (fn i) (P (fn i) + d))
theorem own_add {x y : Int32} {i j : Nat} (h : x.toInt = i) (hy : y.toInt = j) (hb : i + j < 2 ^ 31) : (x + y).toInt = ((i + j : Nat) : Int) := by
  rw [Int32.toInt_add, h, hy]
  exact Int.bmod_eq_of_le (by omega) (by omega)
theorem own_ltlen {x : Int32} {i n : Nat} (h : x.toInt = i) (hn : n < 2 ^ 31) : x < n.toInt32 ↔ i < n := by
  rw [Int32.lt_iff_toInt_lt, h, len_toInt hn]; omega
def own_sw (fn : Nat → Nat) (w : Int64) : Nat → Nat → (Nat → Int64) → Nat → Int64
  | 0, _, W => W
  | k + 1, i, W => own_sw fn w k (i + 1) (upd W (fn i) (W (fn i) - w))
def own_sp (fn : Nat → Nat) (d : Int32) : Nat → Nat → (Nat → Int32) → Nat → Int32
  | 0, _, P => P
  | k + 1, i, P => own_sp fn d k (i + 1) (upd P (fn i) (P (fn i) - d))
theorem d1_0 : decode method_3_code 0 = .ok (.iload_n 0, 1) := by decide +kernel
theorem d1_1 : decode method_3_code 1 = .ok (.ifCond .ne 7, 3) := by decide +kernel
theorem d1_4 : decode method_3_code 4 = .ok (.iconst 0, 1) := by decide +kernel
theorem d1_5 : decode method_3_code 5 = .ok (.newarray .int, 2) := by decide +kernel
theorem d1_7 : decode method_3_code 7 = .ok (.areturn, 1) := by decide +kernel
theorem d1_8 : decode method_3_code 8 = .ok (.iload_n 0, 1) := by decide +kernel
theorem d1_9 : decode method_3_code 9 = .ok (.iconst 1, 1) := by decide +kernel
theorem d1_10 : decode method_3_code 10 = .ok (.if_icmp .ne 11, 3) := by decide +kernel
theorem d1_13 : decode method_3_code 13 = .ok (.iconst 1, 1) := by decide +kernel
theorem d1_14 : decode method_3_code 14 = .ok (.newarray .int, 2) := by decide +kernel
theorem d1_16 : decode method_3_code 16 = .ok (.dup, 1) := by decide +kernel
theorem d1_17 : decode method_3_code 17 = .ok (.iconst 0, 1) := by decide +kernel
theorem d1_18 : decode method_3_code 18 = .ok (.iload_n 1, 1) := by decide +kernel
theorem d1_19 : decode method_3_code 19 = .ok (.iastore, 1) := by decide +kernel
theorem d1_20 : decode method_3_code 20 = .ok (.areturn, 1) := by decide +kernel
theorem d1_21 : decode method_3_code 21 = .ok (.iload_n 0, 1) := by decide +kernel
theorem d1_22 : decode method_3_code 22 = .ok (.iconst 2, 1) := by decide +kernel
theorem d1_23 : decode method_3_code 23 = .ok (.if_icmp .ne 15, 3) := by decide +kernel
theorem d1_26 : decode method_3_code 26 = .ok (.iconst 2, 1) := by decide +kernel
theorem d1_27 : decode method_3_code 27 = .ok (.newarray .int, 2) := by decide +kernel
theorem d1_29 : decode method_3_code 29 = .ok (.dup, 1) := by decide +kernel
theorem d1_30 : decode method_3_code 30 = .ok (.iconst 0, 1) := by decide +kernel
theorem d1_31 : decode method_3_code 31 = .ok (.iload_n 1, 1) := by decide +kernel
theorem d1_32 : decode method_3_code 32 = .ok (.iastore, 1) := by decide +kernel
theorem d1_33 : decode method_3_code 33 = .ok (.dup, 1) := by decide +kernel
theorem d1_34 : decode method_3_code 34 = .ok (.iconst 1, 1) := by decide +kernel
theorem d1_35 : decode method_3_code 35 = .ok (.iload_n 2, 1) := by decide +kernel
theorem d1_36 : decode method_3_code 36 = .ok (.iastore, 1) := by decide +kernel
theorem d1_37 : decode method_3_code 37 = .ok (.areturn, 1) := by decide +kernel
theorem d1_38 : decode method_3_code 38 = .ok (.iconst 3, 1) := by decide +kernel
theorem d1_39 : decode method_3_code 39 = .ok (.newarray .int, 2) := by decide +kernel
theorem d1_41 : decode method_3_code 41 = .ok (.dup, 1) := by decide +kernel
theorem d1_42 : decode method_3_code 42 = .ok (.iconst 0, 1) := by decide +kernel
theorem d1_43 : decode method_3_code 43 = .ok (.iload_n 1, 1) := by decide +kernel
theorem d1_44 : decode method_3_code 44 = .ok (.iastore, 1) := by decide +kernel
theorem d1_45 : decode method_3_code 45 = .ok (.dup, 1) := by decide +kernel
theorem d1_46 : decode method_3_code 46 = .ok (.iconst 1, 1) := by decide +kernel
theorem d1_47 : decode method_3_code 47 = .ok (.iload_n 2, 1) := by decide +kernel
theorem d1_48 : decode method_3_code 48 = .ok (.iastore, 1) := by decide +kernel
theorem d1_49 : decode method_3_code 49 = .ok (.dup, 1) := by decide +kernel
theorem d1_50 : decode method_3_code 50 = .ok (.iconst 2, 1) := by decide +kernel
theorem d1_51 : decode method_3_code 51 = .ok (.iload_n 3, 1) := by decide +kernel
theorem d1_52 : decode method_3_code 52 = .ok (.iastore, 1) := by decide +kernel
theorem d1_53 : decode method_3_code 53 = .ok (.areturn, 1) := by decide +kernel
theorem pn_1 : plainName "com/example/contiguity/contiguity/planning/FibreLoadsRemovePinLaw" = true := by first | (simp [plainName, overriddenIn]; done) | decide +kernel
theorem ef_1 (m : MethodId) (x0 : Int32) (x1 : Int32) (x2 : Int32) (x3 : Int32) : entryFrame m #[(.int x0), (.int x1), (.int x2), (.int x3)] 4 = mkF m 0 #[.val (.int x0), .val (.int x1), .val (.int x2), .val (.int x3)] [] := by first | (simp [entryFrame, mkF, argsToLocals, Value.category]; done) | rfl
def g1_bb (x0 : Int32) (x1 : Int32) (x2 : Int32) (x3 : Int32) : Nat → Int32 := if x0 = (0 : Int32) then (fun _ => (0 : Int32)) else if x0 = (1 : Int32) then (upd (fun _ => (0 : Int32)) 0 x1) else if x0 = (2 : Int32) then (upd (upd (fun _ => (0 : Int32)) 0 x1) 1 x2) else (upd (upd (upd (fun _ => (0 : Int32)) 0 x1) 1 x2) 2 x3)
def n1_bb (x0 : Int32) : Nat := if x0 = (0 : Int32) then 0 else if x0 = (1 : Int32) then 1 else if x0 = (2 : Int32) then 2 else 3
def Q1 (Z : State) (x0 : Int32) (x1 : Int32) (x2 : Int32) (x3 : Int32) (h0 : Heap) (n0 : Nat) (v : Option Value) (h : Heap) (L : List Loc) : Prop := ∃ bb : Addr, v = some (.ref bb) ∧ Fr n0 L ∧ Keep h0 h [] ∧ h0.size ≤ bb ∧ AI Z h bb (n1_bb x0) (g1_bb x0 x1 x2 x3)
set_option maxRecDepth 65536 in
set_option maxHeartbeats 40000000 in
theorem rm1 (l : Launch) (Z : State) (a0 : Array Value) (hw : ∀ d ∈ tables_1, d.before a0 Z = true) (ws : List Jvm.Cond) (x0 : Int32) (x1 : Int32) (x2 : Int32) (x3 : Int32) (h0 : Heap) (n0 : Nat) (Z0 : n0 ≤ h0.size) :
    MetFree l (⟨"com/example/contiguity/contiguity/planning/FibreLoadsRemovePinLaw", "path", "(IIII)[I"⟩ : MethodName) (head1 (Jvm.Cond.code (⟨"com/example/contiguity/contiguity/planning/FibreLoadsRemovePinLaw", "path", "(IIII)[I"⟩ : MethodName) method_3_code 4 (some (.array .int)) :: ws) ({ frames := 0, cells := 1, slots := 3, locals := 0 } : Room)) (fun a U => a = #[(.int x0), (.int x1), (.int x2), (.int x3)] ∧ Z.Warmed39 U.vm ∧ U.heap = h0) (fun _ _ _ _ _ => True) (fun _ U o U' => ∃ v L, o = .returned v ∧ Q1 Z x0 x1 x2 x3 h0 n0 v U'.heap L ∧ FrameEnd U o U' L ({ frames := 0, cells := 1, slots := 3, locals := 0 } : Room).cells ({ frames := 0, cells := 1, slots := 3, locals := 0 } : Room).slots) := by
  refine g_body (plainFor_of_name pn_1) ?_
  intro p e s m below meth c T0 X0 hx hby hml hret hlk hown hnm hZ e0
  rw [ef_1]
  have N0 := Fr.nil n0
  show Go p e below s _ _ _ (T0.setTop (mkF m 0 #[.val (.int x0), .val (.int x1), .val (.int x2), .val (.int x3)] []))
  refine g_iloadN X0 hx 1 (hb hby d1_0) rfl rfl ?_
  show Go p e below s _ _ _ (T0.setTop (mkF m 1 #[.val (.int x0), .val (.int x1), .val (.int x2), .val (.int x3)] [(.int x0)]))
  refine g_if0_ne X0 hx 8 4 (hb hby d1_1) (by decide) rfl rfl (fun h1 => ?_) (fun h1 => ?_)
  · show Go p e below s _ _ _ (T0.setTop (mkF m 4 #[.val (.int x0), .val (.int x1), .val (.int x2), .val (.int x3)] []))
    refine g_iconst X0 hx (0 : Int32) 5 (hb hby d1_4) rfl rfl ?_
    show Go p e below s _ _ _ (T0.setTop (mkF m 5 #[.val (.int x0), .val (.int x1), .val (.int x2), .val (.int x3)] [(.int (0 : Int32))]))
    refine g_newarrayI X0 hx hZ (hw _ (List.mem_of_getElem? (i := 4) rfl)) e0 0 0 rfl (by decide) (by decide) 7 (hb hby d1_5) (by decide) (by decide) rfl ?_
    intro T2 h2 b2 g2 X2 e2 E2 A2
    have N_b2 : n0 ≤ b2 := Nat.le_trans Z0 (Nat.le_of_eq g2.symm)
    have sz_b2 := Nat.le_trans (Keep.refl h0 []).1 (Nat.le_of_eq g2.symm)
    have Z2 : n0 ≤ h2.size := Nat.le_trans Z0 E2.1
    have K2 := (Keep.refl h0 []).ext E2
    show Go p e below s _ _ _ (T2.setTop (mkF m 7 #[.val (.int x0), .val (.int x1), .val (.int x2), .val (.int x3)] [(.ref b2)]))
    exact g_retA X2 hx hret rfl hlk (hb hby d1_7) (by decide) (by decide) (by rw [e2]; exact ⟨b2, rfl, N0, K2, sz_b2, (by rw [g1_bb, if_pos h1, n1_bb, if_pos h1]; exact A2)⟩)
  · show Go p e below s _ _ _ (T0.setTop (mkF m 8 #[.val (.int x0), .val (.int x1), .val (.int x2), .val (.int x3)] []))
    refine g_iloadN X0 hx 9 (hb hby d1_8) rfl rfl ?_
    show Go p e below s _ _ _ (T0.setTop (mkF m 9 #[.val (.int x0), .val (.int x1), .val (.int x2), .val (.int x3)] [(.int x0)]))
    refine g_iconst X0 hx (1 : Int32) 10 (hb hby d1_9) rfl rfl ?_
    show Go p e below s _ _ _ (T0.setTop (mkF m 10 #[.val (.int x0), .val (.int x1), .val (.int x2), .val (.int x3)] [(.int (1 : Int32)), (.int x0)]))
    refine g_icmp_ne X0 hx 21 13 (hb hby d1_10) (by decide) rfl rfl (fun h3 => ?_) (fun h3 => ?_)
    · show Go p e below s _ _ _ (T0.setTop (mkF m 13 #[.val (.int x0), .val (.int x1), .val (.int x2), .val (.int x3)] []))
      refine g_iconst X0 hx (1 : Int32) 14 (hb hby d1_13) rfl rfl ?_
      show Go p e below s _ _ _ (T0.setTop (mkF m 14 #[.val (.int x0), .val (.int x1), .val (.int x2), .val (.int x3)] [(.int (1 : Int32))]))
      refine g_newarrayI X0 hx hZ (hw _ (List.mem_of_getElem? (i := 4) rfl)) e0 1 1 rfl (by decide) (by decide) 16 (hb hby d1_14) (by decide) (by decide) rfl ?_
      intro T4 h4 b4 g4 X4 e4 E4 A4
      have N_b4 : n0 ≤ b4 := Nat.le_trans Z0 (Nat.le_of_eq g4.symm)
      have sz_b4 := Nat.le_trans (Keep.refl h0 []).1 (Nat.le_of_eq g4.symm)
      have Z4 : n0 ≤ h4.size := Nat.le_trans Z0 E4.1
      have K4 := (Keep.refl h0 []).ext E4
      show Go p e below s _ _ _ (T4.setTop (mkF m 16 #[.val (.int x0), .val (.int x1), .val (.int x2), .val (.int x3)] [(.ref b4)]))
      refine g_dup X4 hx 17 (hb hby d1_16) rfl rfl ?_
      show Go p e below s _ _ _ (T4.setTop (mkF m 17 #[.val (.int x0), .val (.int x1), .val (.int x2), .val (.int x3)] [(.ref b4), (.ref b4)]))
      refine g_iconst X4 hx (0 : Int32) 18 (hb hby d1_17) rfl rfl ?_
      show Go p e below s _ _ _ (T4.setTop (mkF m 18 #[.val (.int x0), .val (.int x1), .val (.int x2), .val (.int x3)] [(.int (0 : Int32)), (.ref b4), (.ref b4)]))
      refine g_iloadN X4 hx 19 (hb hby d1_18) rfl rfl ?_
      show Go p e below s _ _ _ (T4.setTop (mkF m 19 #[.val (.int x0), .val (.int x1), .val (.int x2), .val (.int x3)] [(.int x1), (.int (0 : Int32)), (.ref b4), (.ref b4)]))
      refine g_iastore X4 hx hZ e4 A4 0 rfl (by decide) 20 (hb hby d1_19) rfl ?_
      intro T5 h5 X5 e5 W5 A5
      have K5 := K4.wr W5 (Or.inr sz_b4)
      have N5 := Fr.snoc X5 N0 N_b4
      have Z5 : n0 ≤ h5.size := by rw [W5.size]; exact Z4
      show Go p e below s _ _ _ (T5.setTop (mkF m 20 #[.val (.int x0), .val (.int x1), .val (.int x2), .val (.int x3)] [(.ref b4)]))
      exact g_retA X5 hx hret rfl hlk (hb hby d1_20) (by decide) (by decide) (by rw [e5]; exact ⟨b4, rfl, N5, K5, sz_b4, (by rw [g1_bb, if_neg h1, if_pos h3, n1_bb, if_neg h1, if_pos h3]; exact A5)⟩)
    · show Go p e below s _ _ _ (T0.setTop (mkF m 21 #[.val (.int x0), .val (.int x1), .val (.int x2), .val (.int x3)] []))
      refine g_iloadN X0 hx 22 (hb hby d1_21) rfl rfl ?_
      show Go p e below s _ _ _ (T0.setTop (mkF m 22 #[.val (.int x0), .val (.int x1), .val (.int x2), .val (.int x3)] [(.int x0)]))
      refine g_iconst X0 hx (2 : Int32) 23 (hb hby d1_22) rfl rfl ?_
      show Go p e below s _ _ _ (T0.setTop (mkF m 23 #[.val (.int x0), .val (.int x1), .val (.int x2), .val (.int x3)] [(.int (2 : Int32)), (.int x0)]))
      refine g_icmp_ne X0 hx 38 26 (hb hby d1_23) (by decide) rfl rfl (fun h6 => ?_) (fun h6 => ?_)
      · show Go p e below s _ _ _ (T0.setTop (mkF m 26 #[.val (.int x0), .val (.int x1), .val (.int x2), .val (.int x3)] []))
        refine g_iconst X0 hx (2 : Int32) 27 (hb hby d1_26) rfl rfl ?_
        show Go p e below s _ _ _ (T0.setTop (mkF m 27 #[.val (.int x0), .val (.int x1), .val (.int x2), .val (.int x3)] [(.int (2 : Int32))]))
        refine g_newarrayI X0 hx hZ (hw _ (List.mem_of_getElem? (i := 4) rfl)) e0 2 2 rfl (by decide) (by decide) 29 (hb hby d1_27) (by decide) (by decide) rfl ?_
        intro T7 h7 b7 g7 X7 e7 E7 A7
        have N_b7 : n0 ≤ b7 := Nat.le_trans Z0 (Nat.le_of_eq g7.symm)
        have sz_b7 := Nat.le_trans (Keep.refl h0 []).1 (Nat.le_of_eq g7.symm)
        have Z7 : n0 ≤ h7.size := Nat.le_trans Z0 E7.1
        have K7 := (Keep.refl h0 []).ext E7
        show Go p e below s _ _ _ (T7.setTop (mkF m 29 #[.val (.int x0), .val (.int x1), .val (.int x2), .val (.int x3)] [(.ref b7)]))
        refine g_dup X7 hx 30 (hb hby d1_29) rfl rfl ?_
        show Go p e below s _ _ _ (T7.setTop (mkF m 30 #[.val (.int x0), .val (.int x1), .val (.int x2), .val (.int x3)] [(.ref b7), (.ref b7)]))
        refine g_iconst X7 hx (0 : Int32) 31 (hb hby d1_30) rfl rfl ?_
        show Go p e below s _ _ _ (T7.setTop (mkF m 31 #[.val (.int x0), .val (.int x1), .val (.int x2), .val (.int x3)] [(.int (0 : Int32)), (.ref b7), (.ref b7)]))
        refine g_iloadN X7 hx 32 (hb hby d1_31) rfl rfl ?_
        show Go p e below s _ _ _ (T7.setTop (mkF m 32 #[.val (.int x0), .val (.int x1), .val (.int x2), .val (.int x3)] [(.int x1), (.int (0 : Int32)), (.ref b7), (.ref b7)]))
        refine g_iastore X7 hx hZ e7 A7 0 rfl (by decide) 33 (hb hby d1_32) rfl ?_
        intro T8 h8 X8 e8 W8 A8
        have K8 := K7.wr W8 (Or.inr sz_b7)
        have N8 := Fr.snoc X8 N0 N_b7
        have Z8 : n0 ≤ h8.size := by rw [W8.size]; exact Z7
        show Go p e below s _ _ _ (T8.setTop (mkF m 33 #[.val (.int x0), .val (.int x1), .val (.int x2), .val (.int x3)] [(.ref b7)]))
        refine g_dup X8 hx 34 (hb hby d1_33) rfl rfl ?_
        show Go p e below s _ _ _ (T8.setTop (mkF m 34 #[.val (.int x0), .val (.int x1), .val (.int x2), .val (.int x3)] [(.ref b7), (.ref b7)]))
        refine g_iconst X8 hx (1 : Int32) 35 (hb hby d1_34) rfl rfl ?_
        show Go p e below s _ _ _ (T8.setTop (mkF m 35 #[.val (.int x0), .val (.int x1), .val (.int x2), .val (.int x3)] [(.int (1 : Int32)), (.ref b7), (.ref b7)]))
        refine g_iloadN X8 hx 36 (hb hby d1_35) rfl rfl ?_
        show Go p e below s _ _ _ (T8.setTop (mkF m 36 #[.val (.int x0), .val (.int x1), .val (.int x2), .val (.int x3)] [(.int x2), (.int (1 : Int32)), (.ref b7), (.ref b7)]))
        refine g_iastore X8 hx hZ e8 A8 1 rfl (by decide) 37 (hb hby d1_36) rfl ?_
        intro T9 h9 X9 e9 W9 A9
        have K9 := K8.wr W9 (Or.inr sz_b7)
        have N9 := Fr.snoc X9 N8 N_b7
        have Z9 : n0 ≤ h9.size := by rw [W9.size]; exact Z8
        show Go p e below s _ _ _ (T9.setTop (mkF m 37 #[.val (.int x0), .val (.int x1), .val (.int x2), .val (.int x3)] [(.ref b7)]))
        exact g_retA X9 hx hret rfl hlk (hb hby d1_37) (by decide) (by decide) (by rw [e9]; exact ⟨b7, rfl, N9, K9, sz_b7, (by rw [g1_bb, if_neg h1, if_neg h3, if_pos h6, n1_bb, if_neg h1, if_neg h3, if_pos h6]; exact A9)⟩)
      · show Go p e below s _ _ _ (T0.setTop (mkF m 38 #[.val (.int x0), .val (.int x1), .val (.int x2), .val (.int x3)] []))
        refine g_iconst X0 hx (3 : Int32) 39 (hb hby d1_38) rfl rfl ?_
        show Go p e below s _ _ _ (T0.setTop (mkF m 39 #[.val (.int x0), .val (.int x1), .val (.int x2), .val (.int x3)] [(.int (3 : Int32))]))
        refine g_newarrayI X0 hx hZ (hw _ (List.mem_of_getElem? (i := 4) rfl)) e0 3 3 rfl (by decide) (by decide) 41 (hb hby d1_39) (by decide) (by decide) rfl ?_
        intro T10 h10 b10 g10 X10 e10 E10 A10
        have N_b10 : n0 ≤ b10 := Nat.le_trans Z0 (Nat.le_of_eq g10.symm)
        have sz_b10 := Nat.le_trans (Keep.refl h0 []).1 (Nat.le_of_eq g10.symm)
        have Z10 : n0 ≤ h10.size := Nat.le_trans Z0 E10.1
        have K10 := (Keep.refl h0 []).ext E10
        show Go p e below s _ _ _ (T10.setTop (mkF m 41 #[.val (.int x0), .val (.int x1), .val (.int x2), .val (.int x3)] [(.ref b10)]))
        refine g_dup X10 hx 42 (hb hby d1_41) rfl rfl ?_
        show Go p e below s _ _ _ (T10.setTop (mkF m 42 #[.val (.int x0), .val (.int x1), .val (.int x2), .val (.int x3)] [(.ref b10), (.ref b10)]))
        refine g_iconst X10 hx (0 : Int32) 43 (hb hby d1_42) rfl rfl ?_
        show Go p e below s _ _ _ (T10.setTop (mkF m 43 #[.val (.int x0), .val (.int x1), .val (.int x2), .val (.int x3)] [(.int (0 : Int32)), (.ref b10), (.ref b10)]))
        refine g_iloadN X10 hx 44 (hb hby d1_43) rfl rfl ?_
        show Go p e below s _ _ _ (T10.setTop (mkF m 44 #[.val (.int x0), .val (.int x1), .val (.int x2), .val (.int x3)] [(.int x1), (.int (0 : Int32)), (.ref b10), (.ref b10)]))
        refine g_iastore X10 hx hZ e10 A10 0 rfl (by decide) 45 (hb hby d1_44) rfl ?_
        intro T11 h11 X11 e11 W11 A11
        have K11 := K10.wr W11 (Or.inr sz_b10)
        have N11 := Fr.snoc X11 N0 N_b10
        have Z11 : n0 ≤ h11.size := by rw [W11.size]; exact Z10
        show Go p e below s _ _ _ (T11.setTop (mkF m 45 #[.val (.int x0), .val (.int x1), .val (.int x2), .val (.int x3)] [(.ref b10)]))
        refine g_dup X11 hx 46 (hb hby d1_45) rfl rfl ?_
        show Go p e below s _ _ _ (T11.setTop (mkF m 46 #[.val (.int x0), .val (.int x1), .val (.int x2), .val (.int x3)] [(.ref b10), (.ref b10)]))
        refine g_iconst X11 hx (1 : Int32) 47 (hb hby d1_46) rfl rfl ?_
        show Go p e below s _ _ _ (T11.setTop (mkF m 47 #[.val (.int x0), .val (.int x1), .val (.int x2), .val (.int x3)] [(.int (1 : Int32)), (.ref b10), (.ref b10)]))
        refine g_iloadN X11 hx 48 (hb hby d1_47) rfl rfl ?_
        show Go p e below s _ _ _ (T11.setTop (mkF m 48 #[.val (.int x0), .val (.int x1), .val (.int x2), .val (.int x3)] [(.int x2), (.int (1 : Int32)), (.ref b10), (.ref b10)]))
        refine g_iastore X11 hx hZ e11 A11 1 rfl (by decide) 49 (hb hby d1_48) rfl ?_
        intro T12 h12 X12 e12 W12 A12
        have K12 := K11.wr W12 (Or.inr sz_b10)
        have N12 := Fr.snoc X12 N11 N_b10
        have Z12 : n0 ≤ h12.size := by rw [W12.size]; exact Z11
        show Go p e below s _ _ _ (T12.setTop (mkF m 49 #[.val (.int x0), .val (.int x1), .val (.int x2), .val (.int x3)] [(.ref b10)]))
        refine g_dup X12 hx 50 (hb hby d1_49) rfl rfl ?_
        show Go p e below s _ _ _ (T12.setTop (mkF m 50 #[.val (.int x0), .val (.int x1), .val (.int x2), .val (.int x3)] [(.ref b10), (.ref b10)]))
        refine g_iconst X12 hx (2 : Int32) 51 (hb hby d1_50) rfl rfl ?_
        show Go p e below s _ _ _ (T12.setTop (mkF m 51 #[.val (.int x0), .val (.int x1), .val (.int x2), .val (.int x3)] [(.int (2 : Int32)), (.ref b10), (.ref b10)]))
        refine g_iloadN X12 hx 52 (hb hby d1_51) rfl rfl ?_
        show Go p e below s _ _ _ (T12.setTop (mkF m 52 #[.val (.int x0), .val (.int x1), .val (.int x2), .val (.int x3)] [(.int x3), (.int (2 : Int32)), (.ref b10), (.ref b10)]))
        refine g_iastore X12 hx hZ e12 A12 2 rfl (by decide) 53 (hb hby d1_52) rfl ?_
        intro T13 h13 X13 e13 W13 A13
        have K13 := K12.wr W13 (Or.inr sz_b10)
        have N13 := Fr.snoc X13 N12 N_b10
        have Z13 : n0 ≤ h13.size := by rw [W13.size]; exact Z12
        show Go p e below s _ _ _ (T13.setTop (mkF m 53 #[.val (.int x0), .val (.int x1), .val (.int x2), .val (.int x3)] [(.ref b10)]))
        exact g_retA X13 hx hret rfl hlk (hb hby d1_53) (by decide) (by decide) (by rw [e13]; exact ⟨b10, rfl, N13, K13, sz_b10, (by rw [g1_bb, if_neg h1, if_neg h3, if_neg h6, n1_bb, if_neg h1, if_neg h3, if_neg h6]; exact A13)⟩)
theorem d2_0 : decode prog_36_method_1_code 0 = .ok (.aload_n 0, 1) := by decide +kernel
theorem d2_1 : decode prog_36_method_1_code 1 = .ok (.invokespecial 1, 3) := by decide +kernel
theorem d2_4 : decode prog_36_method_1_code 4 = .ok (.aload_n 0, 1) := by decide +kernel
theorem d2_5 : decode prog_36_method_1_code 5 = .ok (.iload_n 1, 1) := by decide +kernel
theorem d2_6 : decode prog_36_method_1_code 6 = .ok (.newarray .long, 2) := by decide +kernel
theorem d2_8 : decode prog_36_method_1_code 8 = .ok (.putfield 7, 3) := by decide +kernel
theorem d2_11 : decode prog_36_method_1_code 11 = .ok (.aload_n 0, 1) := by decide +kernel
theorem d2_12 : decode prog_36_method_1_code 12 = .ok (.iload_n 1, 1) := by decide +kernel
theorem d2_13 : decode prog_36_method_1_code 13 = .ok (.newarray .int, 2) := by decide +kernel
theorem d2_15 : decode prog_36_method_1_code 15 = .ok (.putfield 13, 3) := by decide +kernel
theorem d2_18 : decode prog_36_method_1_code 18 = .ok (.return_, 1) := by decide +kernel
theorem pn_2 : plainName "com/example/contiguity/contiguity/planning/FibreLoads" = true := by first | (simp [plainName, overriddenIn]; done) | decide +kernel
theorem ef_2 (m : MethodId) (x0 : Addr) (x1 : Int32) : entryFrame m #[(.ref x0), (.int x1)] 2 = mkF m 0 #[.val (.ref x0), .val (.int x1)] [] := by first | (simp [entryFrame, mkF, argsToLocals, Value.category]; done) | rfl
def Q2 (Z : State) (x0 : Addr) (x1 : Int32) (h0 : Heap) (n0 : Nat) (v : Option Value) (h : Heap) (L : List Loc) : Prop := v = none ∧ Fr n0 L ∧ Keep h0 h [x0] ∧ ∃ b1 b2 : Addr, h0.size ≤ b1 ∧ h0.size ≤ b2 ∧ b1 ≠ b2 ∧ Fld Z h x0 "com/example/contiguity/contiguity/planning/FibreLoads" "width" "[J" (.ref b1) ∧ Fld Z h x0 "com/example/contiguity/contiguity/planning/FibreLoads" "paths" "[I" (.ref b2) ∧ AJ Z h b1 3 (fun _ => (0 : Int64)) ∧ AI Z h b2 3 (fun _ => (0 : Int32))
set_option maxRecDepth 65536 in
set_option maxHeartbeats 40000000 in
theorem rm2 (l : Launch) (Z : State) (a0 : Array Value) (hw : ∀ d ∈ tables_1, d.before a0 Z = true) (ws : List Jvm.Cond) (x0 : Addr) (x1 : Int32) (h0 : Heap) (n0 : Nat) (Z0 : n0 ≤ h0.size) (P0 : Exa Z h0 x0 "com/example/contiguity/contiguity/planning/FibreLoads") (P1 : Fld Z h0 x0 "com/example/contiguity/contiguity/planning/FibreLoads" "width" "[J" .null) (P2 : Fld Z h0 x0 "com/example/contiguity/contiguity/planning/FibreLoads" "paths" "[I" .null) (P3 : n0 ≤ x0) (hx3 : x1 = (3 : Int32)) :
    MetFree l (⟨"com/example/contiguity/contiguity/planning/FibreLoads", "<init>", "(I)V"⟩ : MethodName) (head1 (Jvm.Cond.code (⟨"com/example/contiguity/contiguity/planning/FibreLoads", "<init>", "(I)V"⟩ : MethodName) prog_36_method_1_code 2 none :: ws) ({ frames := 1, cells := 2, slots := 6, locals := 12 } : Room)) (fun a U => a = #[(.ref x0), (.int x1)] ∧ Z.Warmed39 U.vm ∧ U.heap = h0) (fun _ _ _ _ _ => True) (fun _ U o U' => ∃ v L, o = .returned v ∧ Q2 Z x0 x1 h0 n0 v U'.heap L ∧ FrameEnd U o U' L ({ frames := 1, cells := 2, slots := 6, locals := 12 } : Room).cells ({ frames := 1, cells := 2, slots := 6, locals := 12 } : Room).slots) := by
  refine g_body (plainFor_of_name pn_2) ?_
  intro p e s m below meth c T0 X0 hx hby hml hret hlk hown hnm hZ e0
  rw [ef_2]
  have N0 := Fr.nil n0
  show Go p e below s _ _ _ (T0.setTop (mkF m 0 #[.val (.ref x0), .val (.int x1)] []))
  refine g_aloadN X0 hx 1 (hb hby d2_0) rfl rfl rfl ?_
  show Go p e below s _ _ _ (T0.setTop (mkF m 1 #[.val (.ref x0), .val (.int x1)] [(.ref x0)]))
  refine g_initO X0 hx hZ hown (hw _ (List.mem_of_getElem? (i := 11) rfl)) (hw _ (List.mem_of_getElem? (i := 12) rfl)) (hw _ (List.mem_of_getElem? (i := 13) rfl)) e0 4 (by rw [hml]; rfl) (hb hby d2_1) (by decide) 0 (Nat.le_of_eq rfl) (by decide) rfl ?_
  intro T1 X1 e1
  show Go p e below s _ _ _ (T1.setTop (mkF m 4 #[.val (.ref x0), .val (.int x1)] []))
  refine g_aloadN X1 hx 5 (hb hby d2_4) rfl rfl rfl ?_
  show Go p e below s _ _ _ (T1.setTop (mkF m 5 #[.val (.ref x0), .val (.int x1)] [(.ref x0)]))
  refine g_iloadN X1 hx 6 (hb hby d2_5) rfl rfl ?_
  show Go p e below s _ _ _ (T1.setTop (mkF m 6 #[.val (.ref x0), .val (.int x1)] [(.int x1), (.ref x0)]))
  refine g_newarrayJ X1 hx hZ (hw _ (List.mem_of_getElem? (i := 14) rfl)) e1 3 3 (by rw [hx3]; rfl) (by decide) (by decide) 8 (hb hby d2_6) (by decide) (by decide) rfl ?_
  intro T2 h2 b2 g2 X2 e2 E2 A2
  have N_b2 : n0 ≤ b2 := Nat.le_trans Z0 (Nat.le_of_eq g2.symm)
  have sz_b2 := Nat.le_trans (Keep.refl h0 [x0]).1 (Nat.le_of_eq g2.symm)
  have ne_x0_b2 : x0 ≠ b2 := Nat.ne_of_lt (Nat.lt_of_lt_of_le P0.lt (Nat.le_of_eq g2.symm))
  have k2_0 := P0.ext E2
  have k2_1 := P1.ext E2
  have k2_2 := P2.ext E2
  have Z2 : n0 ≤ h2.size := Nat.le_trans Z0 E2.1
  have K2 := (Keep.refl h0 [x0]).ext E2
  show Go p e below s _ _ _ (T2.setTop (mkF m 8 #[.val (.ref x0), .val (.int x1)] [(.ref b2), (.ref x0)]))
  refine g_putF X2 hx hZ hown (hw _ (List.mem_of_getElem? (i := 15) rfl)) Via.refl e2 k2_1 k2_0 (Or.inr ⟨(hw _ (List.mem_of_getElem? (i := 16) rfl)), rfl, hnm⟩) (hw _ (List.mem_of_getElem? (i := 6) rfl)) (ty := (.array .long)) (by decide) rfl rfl 11 (hb hby d2_8) rfl ?_
  intro T3 h3 X3 e3 W3
  have K3 := K2.wr W3 (Or.inl (List.mem_of_getElem? (i := 0) rfl))
  have N3 := Fr.snoc X3 N0 P3
  have k3_0 := k2_0.wr W3
  have k3_2 := k2_2.other W3 (Or.inr (slot_ne (Or.inr (hw _ (List.mem_of_getElem? (i := 18) rfl))) (Or.inr (hw _ (List.mem_of_getElem? (i := 16) rfl))) (by decide) (t := (.array .int)) (t' := (.array .long)) (by decide) (by decide)))
  have k3_6 := A2.other W3 (Ne.symm ne_x0_b2)
  have Z3 : n0 ≤ h3.size := by rw [W3.size]; exact Z2
  have F3 := k2_1.same W3
  show Go p e below s _ _ _ (T3.setTop (mkF m 11 #[.val (.ref x0), .val (.int x1)] []))
  refine g_aloadN X3 hx 12 (hb hby d2_11) rfl rfl rfl ?_
  show Go p e below s _ _ _ (T3.setTop (mkF m 12 #[.val (.ref x0), .val (.int x1)] [(.ref x0)]))
  refine g_iloadN X3 hx 13 (hb hby d2_12) rfl rfl ?_
  show Go p e below s _ _ _ (T3.setTop (mkF m 13 #[.val (.ref x0), .val (.int x1)] [(.int x1), (.ref x0)]))
  refine g_newarrayI X3 hx hZ (hw _ (List.mem_of_getElem? (i := 4) rfl)) e3 3 3 (by rw [hx3]; rfl) (by decide) (by decide) 15 (hb hby d2_13) (by decide) (by decide) rfl ?_
  intro T4 h4 b4 g4 X4 e4 E4 A4
  have N_b4 : n0 ≤ b4 := Nat.le_trans Z3 (Nat.le_of_eq g4.symm)
  have sz_b4 := Nat.le_trans K3.1 (Nat.le_of_eq g4.symm)
  have ne_x0_b4 : x0 ≠ b4 := Nat.ne_of_lt (Nat.lt_of_lt_of_le k3_0.lt (Nat.le_of_eq g4.symm))
  have ne_b2_b4 : b2 ≠ b4 := Nat.ne_of_lt (Nat.lt_of_lt_of_le k3_6.lt (Nat.le_of_eq g4.symm))
  have k4_0 := k3_0.ext E4
  have k4_1 := k3_2.ext E4
  have k4_5 := k3_6.ext E4
  have k4_6 := F3.ext E4
  have Z4 : n0 ≤ h4.size := Nat.le_trans Z3 E4.1
  have K4 := K3.ext E4
  show Go p e below s _ _ _ (T4.setTop (mkF m 15 #[.val (.ref x0), .val (.int x1)] [(.ref b4), (.ref x0)]))
  refine g_putF X4 hx hZ hown (hw _ (List.mem_of_getElem? (i := 17) rfl)) Via.refl e4 k4_1 k4_0 (Or.inr ⟨(hw _ (List.mem_of_getElem? (i := 18) rfl)), rfl, hnm⟩) (hw _ (List.mem_of_getElem? (i := 6) rfl)) (ty := (.array .int)) (by decide) rfl rfl 18 (hb hby d2_15) rfl ?_
  intro T5 h5 X5 e5 W5
  have K5 := K4.wr W5 (Or.inl (List.mem_of_getElem? (i := 0) rfl))
  have N5 := Fr.snoc X5 N3 P3
  have k5_0 := k4_0.wr W5
  have k5_5 := k4_5.other W5 (Ne.symm ne_x0_b2)
  have k5_6 := k4_6.other W5 (Or.inr (slot_ne (Or.inr (hw _ (List.mem_of_getElem? (i := 16) rfl))) (Or.inr (hw _ (List.mem_of_getElem? (i := 18) rfl))) (by decide) (t := (.array .long)) (t' := (.array .int)) (by decide) (by decide)))
  have k5_10 := A4.other W5 (Ne.symm ne_x0_b4)
  have Z5 : n0 ≤ h5.size := by rw [W5.size]; exact Z4
  have F5 := k4_1.same W5
  show Go p e below s _ _ _ (T5.setTop (mkF m 18 #[.val (.ref x0), .val (.int x1)] []))
  exact g_retV X5 hx hret hlk (hb hby d2_18) (by decide) (by decide) (by rw [e5]; exact ⟨rfl, N5, K5, b2, b4, sz_b2, sz_b4, ne_b2_b4, k5_6, F5, k5_5, k5_10⟩)
def Q4 (Z : State) (x0 : Addr) (x1 : Addr) (x2 : Int32) (a1 : Addr) (a2 : Addr) (nn : Nat) (f : Nat → Int32) (mm : Nat) (W0 : Nat → Int64) (PP0 : Nat → Int32) (fn : Nat → Nat) (h0 : Heap) (n0 : Nat) (v : Option Value) (h : Heap) (L : List Loc) : Prop := v = none ∧ Fr n0 L ∧ Keep h0 h [a1, a2] ∧ AJ Z h a1 mm (own_aw fn x2.toInt64 nn 0 W0) ∧ AI Z h a2 mm (own_ap fn (1 : Int32) nn 0 PP0)
theorem d4_9 : decode prog_36_method_3_code 9 = .ok (.iload 5, 2) := by decide +kernel
theorem d4_11 : decode prog_36_method_3_code 11 = .ok (.iload 4, 2) := by decide +kernel
theorem d4_13 : decode prog_36_method_3_code 13 = .ok (.if_icmp .ge 38, 3) := by decide +kernel
theorem d4_16 : decode prog_36_method_3_code 16 = .ok (.aload_n 3, 1) := by decide +kernel
theorem d4_17 : decode prog_36_method_3_code 17 = .ok (.iload 5, 2) := by decide +kernel
theorem d4_19 : decode prog_36_method_3_code 19 = .ok (.iaload, 1) := by decide +kernel
theorem d4_20 : decode prog_36_method_3_code 20 = .ok (.istore 6, 2) := by decide +kernel
theorem d4_22 : decode prog_36_method_3_code 22 = .ok (.aload_n 0, 1) := by decide +kernel
theorem d4_23 : decode prog_36_method_3_code 23 = .ok (.getfield 7, 3) := by decide +kernel
theorem d4_26 : decode prog_36_method_3_code 26 = .ok (.iload 6, 2) := by decide +kernel
theorem d4_28 : decode prog_36_method_3_code 28 = .ok (.dup2, 1) := by decide +kernel
theorem d4_29 : decode prog_36_method_3_code 29 = .ok (.laload, 1) := by decide +kernel
theorem d4_30 : decode prog_36_method_3_code 30 = .ok (.iload_n 2, 1) := by decide +kernel
theorem d4_31 : decode prog_36_method_3_code 31 = .ok (.i2l, 1) := by decide +kernel
theorem d4_32 : decode prog_36_method_3_code 32 = .ok (.ladd, 1) := by decide +kernel
theorem d4_33 : decode prog_36_method_3_code 33 = .ok (.lastore, 1) := by decide +kernel
theorem d4_34 : decode prog_36_method_3_code 34 = .ok (.aload_n 0, 1) := by decide +kernel
theorem d4_35 : decode prog_36_method_3_code 35 = .ok (.getfield 13, 3) := by decide +kernel
theorem d4_38 : decode prog_36_method_3_code 38 = .ok (.iload 6, 2) := by decide +kernel
theorem d4_40 : decode prog_36_method_3_code 40 = .ok (.dup2, 1) := by decide +kernel
theorem d4_41 : decode prog_36_method_3_code 41 = .ok (.iaload, 1) := by decide +kernel
theorem d4_42 : decode prog_36_method_3_code 42 = .ok (.iconst 1, 1) := by decide +kernel
theorem d4_43 : decode prog_36_method_3_code 43 = .ok (.iadd, 1) := by decide +kernel
theorem d4_44 : decode prog_36_method_3_code 44 = .ok (.iastore, 1) := by decide +kernel
theorem d4_45 : decode prog_36_method_3_code 45 = .ok (.iinc 5 1, 3) := by decide +kernel
theorem d4_48 : decode prog_36_method_3_code 48 = .ok (.goto (-39), 3) := by decide +kernel
theorem d4_51 : decode prog_36_method_3_code 51 = .ok (.return_, 1) := by decide +kernel
set_option maxRecDepth 65536 in
set_option maxHeartbeats 40000000 in
theorem sg4 (l : Launch) (Z : State) (a0 : Array Value) (hw : ∀ d ∈ tables_1, d.before a0 Z = true) {p : Program} {e : Env} {s : State} {m : MethodId} {args : Array Value} {below : List Frame} {meth : Method} {c : Code} (hx : p.tables.exec = Jvm.exec) (hby : c.code = prog_36_method_3_code) (hml : c.maxLocals = 7) (hret : meth.sig.returnType = none) (hlk : meth.locks = false) (hown : s.vm.findClass "com/example/contiguity/contiguity/planning/FibreLoads" = some m.cls) (hnm : meth.name = "add") (hZ : Z.Warmed39 s.vm) (x0 : Addr) (x1 : Addr) (x2 : Int32) (a1 : Addr) (a2 : Addr) (nn : Nat) (f : Nat → Int32) (mm : Nat) (W0 : Nat → Int64) (PP0 : Nat → Int32) (fn : Nat → Nat) (h0 : Heap) (n0 : Nat) (hf : ∀ j, j < nn → (f j).toInt = fn j ∧ fn j < mm) : ∀ (k : Nat) (iv : Int32) (i : Nat) (W : Nat → Int64) (P : Nat → Int32) (s6 : Slot) (T0 : State) (locs : List Loc) (hS : Heap), Stand p l e ({ frames := 0, cells := 0, slots := 0, locals := 0 } : Room) s m args below meth c T0 locs 0 0 → T0.heap = hS → n0 ≤ hS.size → Fr n0 locs → Keep h0 hS [a1, a2] → Exa Z hS x0 "com/example/contiguity/contiguity/planning/FibreLoads" → Fld Z hS x0 "com/example/contiguity/contiguity/planning/FibreLoads" "width" "[J" (.ref a1) → Fld Z hS x0 "com/example/contiguity/contiguity/planning/FibreLoads" "paths" "[I" (.ref a2) → AI Z hS x1 nn f → AJ Z hS a1 mm W → AI Z hS a2 mm P → n0 ≤ a1 → n0 ≤ a2 → x0 ≠ a1 → x0 ≠ a2 → x1 ≠ a1 → x1 ≠ a2 → a1 ≠ a2 → (iv.toInt = i) → (i + k = nn) → (own_aw fn x2.toInt64 k i W = (own_aw fn x2.toInt64 nn 0 W0)) → (own_ap fn (1 : Int32) k i P = (own_ap fn (1 : Int32) nn 0 PP0)) → (One s6) → Go p e below s (Q4 Z x0 x1 x2 a1 a2 nn f mm W0 PP0 fn h0 n0) ({ frames := 0, cells := 0, slots := 0, locals := 0 } : Room).cells ({ frames := 0, cells := 0, slots := 0, locals := 0 } : Room).slots (T0.setTop (mkF m 9 #[.val (.ref x0), .val (.ref x1), .val (.int x2), .val (.ref x1), .val (.int (nn.toInt32)), .val (.int iv), s6] [])) := by
  intro k
  induction k with
  | zero =>
    intro iv i W P s6 T0 locs hS X0 e0 Z0 N0 K0 P0 P1 P2 P3 P4 P5 P6 P7 P8 P9 P10 P11 P12 hi he hW hP hs6
    refine g_iload X0 hx 11 (hb hby d4_9) rfl rfl ?_
    show Go p e below s _ _ _ (T0.setTop (mkF m 11 #[.val (.ref x0), .val (.ref x1), .val (.int x2), .val (.ref x1), .val (.int (nn.toInt32)), .val (.int iv), s6] [(.int iv)]))
    refine g_iload X0 hx 13 (hb hby d4_11) rfl rfl ?_
    show Go p e below s _ _ _ (T0.setTop (mkF m 13 #[.val (.ref x0), .val (.ref x1), .val (.int x2), .val (.ref x1), .val (.int (nn.toInt32)), .val (.int iv), s6] [(.int (nn.toInt32)), (.int iv)]))
    have h1 : ¬ (iv < (nn.toInt32)) := fun q => absurd ((own_ltlen hi P3.small).1 q) (by omega)
    refine g_icmp_ge X0 hx 51 16 (hb hby d4_13) (by decide) rfl rfl (fun q => absurd q h1) (fun _ => ?_)
    show Go p e below s _ _ _ (T0.setTop (mkF m 51 #[.val (.ref x0), .val (.ref x1), .val (.int x2), .val (.ref x1), .val (.int (nn.toInt32)), .val (.int iv), s6] []))
    exact g_retV X0 hx hret hlk (hb hby d4_51) (by decide) (by decide) (by rw [e0]; exact ⟨rfl, N0, K0, (by rw [← hW]; exact P4), (by rw [← hP]; exact P5)⟩)
  | succ k ih =>
    intro iv i W P s6 T0 locs hS X0 e0 Z0 N0 K0 P0 P1 P2 P3 P4 P5 P6 P7 P8 P9 P10 P11 P12 hi he hW hP hs6
    refine g_iload X0 hx 11 (hb hby d4_9) rfl rfl ?_
    show Go p e below s _ _ _ (T0.setTop (mkF m 11 #[.val (.ref x0), .val (.ref x1), .val (.int x2), .val (.ref x1), .val (.int (nn.toInt32)), .val (.int iv), s6] [(.int iv)]))
    refine g_iload X0 hx 13 (hb hby d4_11) rfl rfl ?_
    show Go p e below s _ _ _ (T0.setTop (mkF m 13 #[.val (.ref x0), .val (.ref x1), .val (.int x2), .val (.ref x1), .val (.int (nn.toInt32)), .val (.int iv), s6] [(.int (nn.toInt32)), (.int iv)]))
    have h2 : iv < (nn.toInt32) := (own_ltlen hi P3.small).2 (by omega)
    refine g_icmp_ge X0 hx 51 16 (hb hby d4_13) (by decide) rfl rfl (fun _ => ?_) (fun q => absurd h2 q)
    show Go p e below s _ _ _ (T0.setTop (mkF m 16 #[.val (.ref x0), .val (.ref x1), .val (.int x2), .val (.ref x1), .val (.int (nn.toInt32)), .val (.int iv), s6] []))
    refine g_aloadN X0 hx 17 (hb hby d4_16) rfl rfl rfl ?_
    show Go p e below s _ _ _ (T0.setTop (mkF m 17 #[.val (.ref x0), .val (.ref x1), .val (.int x2), .val (.ref x1), .val (.int (nn.toInt32)), .val (.int iv), s6] [(.ref x1)]))
    refine g_iload X0 hx 19 (hb hby d4_17) rfl rfl ?_
    show Go p e below s _ _ _ (T0.setTop (mkF m 19 #[.val (.ref x0), .val (.ref x1), .val (.int x2), .val (.ref x1), .val (.int (nn.toInt32)), .val (.int iv), s6] [(.int iv), (.ref x1)]))
    refine g_iaload X0 hx hZ e0 P3 i hi (by omega) 20 (hb hby d4_19) rfl ?_
    show Go p e below s _ _ _ (T0.setTop (mkF m 20 #[.val (.ref x0), .val (.ref x1), .val (.int x2), .val (.ref x1), .val (.int (nn.toInt32)), .val (.int iv), s6] [(.int (f i))]))
    refine g_istoreS X0 hx #[.val (.ref x0), .val (.ref x1), .val (.int x2), .val (.ref x1), .val (.int (nn.toInt32)), .val (.int iv), .val (.int (f i))] 22 (hb hby d4_20) rfl hs6 rfl rfl ?_
    show Go p e below s _ _ _ (T0.setTop (mkF m 22 #[.val (.ref x0), .val (.ref x1), .val (.int x2), .val (.ref x1), .val (.int (nn.toInt32)), .val (.int iv), .val (.int (f i))] []))
    refine g_aloadN X0 hx 23 (hb hby d4_22) rfl rfl rfl ?_
    show Go p e below s _ _ _ (T0.setTop (mkF m 23 #[.val (.ref x0), .val (.ref x1), .val (.int x2), .val (.ref x1), .val (.int (nn.toInt32)), .val (.int iv), .val (.int (f i))] [(.ref x0)]))
    refine g_getF X0 hx hZ hown (hw _ (List.mem_of_getElem? (i := 15) rfl)) Via.refl e0 P1 26 (hb hby d4_23) rfl ?_
    intro T4 X4 e4
    show Go p e below s _ _ _ (T4.setTop (mkF m 26 #[.val (.ref x0), .val (.ref x1), .val (.int x2), .val (.ref x1), .val (.int (nn.toInt32)), .val (.int iv), .val (.int (f i))] [(.ref a1)]))
    refine g_iload X4 hx 28 (hb hby d4_26) rfl rfl ?_
    show Go p e below s _ _ _ (T4.setTop (mkF m 28 #[.val (.ref x0), .val (.ref x1), .val (.int x2), .val (.ref x1), .val (.int (nn.toInt32)), .val (.int iv), .val (.int (f i))] [(.int (f i)), (.ref a1)]))
    refine g_dup2 X4 hx 29 (hb hby d4_28) rfl rfl rfl ?_
    show Go p e below s _ _ _ (T4.setTop (mkF m 29 #[.val (.ref x0), .val (.ref x1), .val (.int x2), .val (.ref x1), .val (.int (nn.toInt32)), .val (.int iv), .val (.int (f i))] [(.int (f i)), (.ref a1), (.int (f i)), (.ref a1)]))
    refine g_laload X4 hx hZ e4 P4 (fn i) (hf i (by omega)).1 (hf i (by omega)).2 30 (hb hby d4_29) rfl ?_
    show Go p e below s _ _ _ (T4.setTop (mkF m 30 #[.val (.ref x0), .val (.ref x1), .val (.int x2), .val (.ref x1), .val (.int (nn.toInt32)), .val (.int iv), .val (.int (f i))] [(.long (W (fn i))), (.int (f i)), (.ref a1)]))
    refine g_iloadN X4 hx 31 (hb hby d4_30) rfl rfl ?_
    show Go p e below s _ _ _ (T4.setTop (mkF m 31 #[.val (.ref x0), .val (.ref x1), .val (.int x2), .val (.ref x1), .val (.int (nn.toInt32)), .val (.int iv), .val (.int (f i))] [(.int x2), (.long (W (fn i))), (.int (f i)), (.ref a1)]))
    refine g_i2l X4 hx 32 (hb hby d4_31) rfl ?_
    show Go p e below s _ _ _ (T4.setTop (mkF m 32 #[.val (.ref x0), .val (.ref x1), .val (.int x2), .val (.ref x1), .val (.int (nn.toInt32)), .val (.int iv), .val (.int (f i))] [(.long (x2.toInt64)), (.long (W (fn i))), (.int (f i)), (.ref a1)]))
    refine g_ladd X4 hx 33 (hb hby d4_32) rfl ?_
    show Go p e below s _ _ _ (T4.setTop (mkF m 33 #[.val (.ref x0), .val (.ref x1), .val (.int x2), .val (.ref x1), .val (.int (nn.toInt32)), .val (.int iv), .val (.int (f i))] [(.long ((W (fn i)) + (x2.toInt64))), (.int (f i)), (.ref a1)]))
    refine g_lastore X4 hx hZ e4 P4 (fn i) (hf i (by omega)).1 (hf i (by omega)).2 34 (hb hby d4_33) rfl ?_
    intro T6 h6 X6 e6 W6 A6
    have K6 := K0.wr W6 (Or.inl (List.mem_of_getElem? (i := 0) rfl))
    have N6 := Fr.snoc X6 N0 P6
    have k6_0 := P0.wr W6
    have k6_1 := P1.other W6 (Or.inl P8)
    have k6_2 := P2.other W6 (Or.inl P8)
    have k6_3 := P3.other W6 P10
    have k6_5 := P5.other W6 (Ne.symm P12)
    have Z6 : n0 ≤ h6.size := by rw [W6.size]; exact Z0
    show Go p e below s _ _ _ (T6.setTop (mkF m 34 #[.val (.ref x0), .val (.ref x1), .val (.int x2), .val (.ref x1), .val (.int (nn.toInt32)), .val (.int iv), .val (.int (f i))] []))
    refine g_aloadN X6 hx 35 (hb hby d4_34) rfl rfl rfl ?_
    show Go p e below s _ _ _ (T6.setTop (mkF m 35 #[.val (.ref x0), .val (.ref x1), .val (.int x2), .val (.ref x1), .val (.int (nn.toInt32)), .val (.int iv), .val (.int (f i))] [(.ref x0)]))
    refine g_getF X6 hx hZ hown (hw _ (List.mem_of_getElem? (i := 17) rfl)) Via.refl e6 k6_2 38 (hb hby d4_35) rfl ?_
    intro T7 X7 e7
    show Go p e below s _ _ _ (T7.setTop (mkF m 38 #[.val (.ref x0), .val (.ref x1), .val (.int x2), .val (.ref x1), .val (.int (nn.toInt32)), .val (.int iv), .val (.int (f i))] [(.ref a2)]))
    refine g_iload X7 hx 40 (hb hby d4_38) rfl rfl ?_
    show Go p e below s _ _ _ (T7.setTop (mkF m 40 #[.val (.ref x0), .val (.ref x1), .val (.int x2), .val (.ref x1), .val (.int (nn.toInt32)), .val (.int iv), .val (.int (f i))] [(.int (f i)), (.ref a2)]))
    refine g_dup2 X7 hx 41 (hb hby d4_40) rfl rfl rfl ?_
    show Go p e below s _ _ _ (T7.setTop (mkF m 41 #[.val (.ref x0), .val (.ref x1), .val (.int x2), .val (.ref x1), .val (.int (nn.toInt32)), .val (.int iv), .val (.int (f i))] [(.int (f i)), (.ref a2), (.int (f i)), (.ref a2)]))
    refine g_iaload X7 hx hZ e7 k6_5 (fn i) (hf i (by omega)).1 (hf i (by omega)).2 42 (hb hby d4_41) rfl ?_
    show Go p e below s _ _ _ (T7.setTop (mkF m 42 #[.val (.ref x0), .val (.ref x1), .val (.int x2), .val (.ref x1), .val (.int (nn.toInt32)), .val (.int iv), .val (.int (f i))] [(.int (P (fn i))), (.int (f i)), (.ref a2)]))
    refine g_iconst X7 hx (1 : Int32) 43 (hb hby d4_42) rfl rfl ?_
    show Go p e below s _ _ _ (T7.setTop (mkF m 43 #[.val (.ref x0), .val (.ref x1), .val (.int x2), .val (.ref x1), .val (.int (nn.toInt32)), .val (.int iv), .val (.int (f i))] [(.int (1 : Int32)), (.int (P (fn i))), (.int (f i)), (.ref a2)]))
    refine g_iadd X7 hx 44 (hb hby d4_43) rfl ?_
    show Go p e below s _ _ _ (T7.setTop (mkF m 44 #[.val (.ref x0), .val (.ref x1), .val (.int x2), .val (.ref x1), .val (.int (nn.toInt32)), .val (.int iv), .val (.int (f i))] [(.int ((P (fn i)) + (1 : Int32))), (.int (f i)), (.ref a2)]))
    refine g_iastore X7 hx hZ e7 k6_5 (fn i) (hf i (by omega)).1 (hf i (by omega)).2 45 (hb hby d4_44) rfl ?_
    intro T9 h9 X9 e9 W9 A9
    have K9 := K6.wr W9 (Or.inl (List.mem_of_getElem? (i := 1) rfl))
    have N9 := Fr.snoc X9 N6 P7
    have k9_0 := k6_0.wr W9
    have k9_1 := k6_1.other W9 (Or.inl P9)
    have k9_2 := k6_2.other W9 (Or.inl P9)
    have k9_3 := k6_3.other W9 P11
    have k9_12 := A6.other W9 P12
    have Z9 : n0 ≤ h9.size := by rw [W9.size]; exact Z6
    show Go p e below s _ _ _ (T9.setTop (mkF m 45 #[.val (.ref x0), .val (.ref x1), .val (.int x2), .val (.ref x1), .val (.int (nn.toInt32)), .val (.int iv), .val (.int (f i))] []))
    refine g_iinc X9 hx (1 : Int32) #[.val (.ref x0), .val (.ref x1), .val (.int x2), .val (.ref x1), .val (.int (nn.toInt32)), .val (.int (iv + (1 : Int32))), .val (.int (f i))] 48 (hb hby d4_45) rfl rfl rfl rfl ?_
    show Go p e below s _ _ _ (T9.setTop (mkF m 48 #[.val (.ref x0), .val (.ref x1), .val (.int x2), .val (.ref x1), .val (.int (nn.toInt32)), .val (.int (iv + (1 : Int32))), .val (.int (f i))] []))
    refine g_goto X9 hx 9 (hb hby d4_48) (by decide) rfl ?_
    show Go p e below s _ _ _ (T9.setTop (mkF m 9 #[.val (.ref x0), .val (.ref x1), .val (.int x2), .val (.ref x1), .val (.int (nn.toInt32)), .val (.int (iv + (1 : Int32))), .val (.int (f i))] []))
    exact ih (iv + (1 : Int32)) (i + 1) (upd W (fn i) ((W (fn i)) + (x2.toInt64))) (upd P (fn i) ((P (fn i)) + (1 : Int32))) (.val (.int (f i))) _ _ _ X9 e9 Z9 N9 K9 k9_0 k9_1 k9_2 k9_3 k9_12 A9 P6 P7 P8 P9 P10 P11 P12 (own_add hi rfl (by have := P3.small; omega)) (by omega) hW hP (One.val rfl)
theorem d4_0 : decode prog_36_method_3_code 0 = .ok (.aload_n 1, 1) := by decide +kernel
theorem d4_1 : decode prog_36_method_3_code 1 = .ok (.astore_n 3, 1) := by decide +kernel
theorem d4_2 : decode prog_36_method_3_code 2 = .ok (.aload_n 3, 1) := by decide +kernel
theorem d4_3 : decode prog_36_method_3_code 3 = .ok (.arraylength, 1) := by decide +kernel
theorem d4_4 : decode prog_36_method_3_code 4 = .ok (.istore 4, 2) := by decide +kernel
theorem d4_6 : decode prog_36_method_3_code 6 = .ok (.iconst 0, 1) := by decide +kernel
theorem d4_7 : decode prog_36_method_3_code 7 = .ok (.istore 5, 2) := by decide +kernel
theorem ef_4 (m : MethodId) (x0 : Addr) (x1 : Addr) (x2 : Int32) : entryFrame m #[(.ref x0), (.ref x1), (.int x2)] 7 = mkF m 0 #[.val (.ref x0), .val (.ref x1), .val (.int x2), .unset, .unset, .unset, .unset] [] := by first | (simp [entryFrame, mkF, argsToLocals, Value.category]; done) | rfl
set_option maxRecDepth 65536 in
set_option maxHeartbeats 40000000 in
theorem rm4 (l : Launch) (Z : State) (a0 : Array Value) (hw : ∀ d ∈ tables_1, d.before a0 Z = true) (ws : List Jvm.Cond) (x0 : Addr) (x1 : Addr) (x2 : Int32) (a1 : Addr) (a2 : Addr) (nn : Nat) (f : Nat → Int32) (mm : Nat) (W0 : Nat → Int64) (PP0 : Nat → Int32) (fn : Nat → Nat) (h0 : Heap) (n0 : Nat) (Z0 : n0 ≤ h0.size) (P0 : Exa Z h0 x0 "com/example/contiguity/contiguity/planning/FibreLoads") (P1 : Fld Z h0 x0 "com/example/contiguity/contiguity/planning/FibreLoads" "width" "[J" (.ref a1)) (P2 : Fld Z h0 x0 "com/example/contiguity/contiguity/planning/FibreLoads" "paths" "[I" (.ref a2)) (P3 : AI Z h0 x1 nn f) (P4 : AJ Z h0 a1 mm W0) (P5 : AI Z h0 a2 mm PP0) (P6 : n0 ≤ a1) (P7 : n0 ≤ a2) (P8 : x0 ≠ a1) (P9 : x0 ≠ a2) (P10 : x1 ≠ a1) (P11 : x1 ≠ a2) (P12 : a1 ≠ a2) (hf : ∀ j, j < nn → (f j).toInt = fn j ∧ fn j < mm) :
    MetFree l (⟨"com/example/contiguity/contiguity/planning/FibreLoads", "add", "([II)V"⟩ : MethodName) (head1 (Jvm.Cond.code (⟨"com/example/contiguity/contiguity/planning/FibreLoads", "add", "([II)V"⟩ : MethodName) prog_36_method_3_code 7 none :: ws) ({ frames := 0, cells := 0, slots := 0, locals := 0 } : Room)) (fun a U => a = #[(.ref x0), (.ref x1), (.int x2)] ∧ Z.Warmed39 U.vm ∧ U.heap = h0) (fun _ _ _ _ _ => True) (fun _ U o U' => ∃ v L, o = .returned v ∧ Q4 Z x0 x1 x2 a1 a2 nn f mm W0 PP0 fn h0 n0 v U'.heap L ∧ FrameEnd U o U' L ({ frames := 0, cells := 0, slots := 0, locals := 0 } : Room).cells ({ frames := 0, cells := 0, slots := 0, locals := 0 } : Room).slots) := by
  refine g_body (plainFor_of_name pn_2) ?_
  intro p e s m below meth c T0 X0 hx hby hml hret hlk hown hnm hZ e0
  rw [ef_4]
  have N0 := Fr.nil n0
  show Go p e below s _ _ _ (T0.setTop (mkF m 0 #[.val (.ref x0), .val (.ref x1), .val (.int x2), .unset, .unset, .unset, .unset] []))
  refine g_aloadN X0 hx 1 (hb hby d4_0) rfl rfl rfl ?_
  show Go p e below s _ _ _ (T0.setTop (mkF m 1 #[.val (.ref x0), .val (.ref x1), .val (.int x2), .unset, .unset, .unset, .unset] [(.ref x1)]))
  refine g_astoreN X0 hx #[.val (.ref x0), .val (.ref x1), .val (.int x2), .val (.ref x1), .unset, .unset, .unset] 2 (hb hby d4_1) rfl rfl rfl ?_
  show Go p e below s _ _ _ (T0.setTop (mkF m 2 #[.val (.ref x0), .val (.ref x1), .val (.int x2), .val (.ref x1), .unset, .unset, .unset] []))
  refine g_aloadN X0 hx 3 (hb hby d4_2) rfl rfl rfl ?_
  show Go p e below s _ _ _ (T0.setTop (mkF m 3 #[.val (.ref x0), .val (.ref x1), .val (.int x2), .val (.ref x1), .unset, .unset, .unset] [(.ref x1)]))
  refine g_arraylengthI X0 hx hZ e0 P3 (nn.toInt32) rfl 4 (hb hby d4_3) rfl ?_
  show Go p e below s _ _ _ (T0.setTop (mkF m 4 #[.val (.ref x0), .val (.ref x1), .val (.int x2), .val (.ref x1), .unset, .unset, .unset] [(.int (nn.toInt32))]))
  refine g_istore X0 hx #[.val (.ref x0), .val (.ref x1), .val (.int x2), .val (.ref x1), .val (.int (nn.toInt32)), .unset, .unset] 6 (hb hby d4_4) rfl rfl ?_
  show Go p e below s _ _ _ (T0.setTop (mkF m 6 #[.val (.ref x0), .val (.ref x1), .val (.int x2), .val (.ref x1), .val (.int (nn.toInt32)), .unset, .unset] []))
  refine g_iconst X0 hx (0 : Int32) 7 (hb hby d4_6) rfl rfl ?_
  show Go p e below s _ _ _ (T0.setTop (mkF m 7 #[.val (.ref x0), .val (.ref x1), .val (.int x2), .val (.ref x1), .val (.int (nn.toInt32)), .unset, .unset] [(.int (0 : Int32))]))
  refine g_istore X0 hx #[.val (.ref x0), .val (.ref x1), .val (.int x2), .val (.ref x1), .val (.int (nn.toInt32)), .val (.int (0 : Int32)), .unset] 9 (hb hby d4_7) rfl rfl ?_
  show Go p e below s _ _ _ (T0.setTop (mkF m 9 #[.val (.ref x0), .val (.ref x1), .val (.int x2), .val (.ref x1), .val (.int (nn.toInt32)), .val (.int (0 : Int32)), .unset] []))
  exact sg4 l Z a0 hw hx hby hml hret hlk hown hnm hZ x0 x1 x2 a1 a2 nn f mm W0 PP0 fn h0 n0 hf nn (0 : Int32) 0 W0 PP0 .unset _ _ _ X0 e0 Z0 N0 (Keep.refl h0 [a1, a2]) P0 P1 P2 P3 P4 P5 P6 P7 P8 P9 P10 P11 P12 rfl (by omega) rfl rfl One.u
def Q5 (Z : State) (x0 : Addr) (x1 : Addr) (x2 : Int32) (a1 : Addr) (a2 : Addr) (nn : Nat) (f : Nat → Int32) (mm : Nat) (W0 : Nat → Int64) (PP0 : Nat → Int32) (fn : Nat → Nat) (h0 : Heap) (n0 : Nat) (v : Option Value) (h : Heap) (L : List Loc) : Prop := v = none ∧ Fr n0 L ∧ Keep h0 h [a1, a2] ∧ AJ Z h a1 mm (own_sw fn x2.toInt64 nn 0 W0) ∧ AI Z h a2 mm (own_sp fn (1 : Int32) nn 0 PP0)
theorem d5_9 : decode prog_36_method_4_code 9 = .ok (.iload 5, 2) := by decide +kernel
theorem d5_11 : decode prog_36_method_4_code 11 = .ok (.iload 4, 2) := by decide +kernel
theorem d5_13 : decode prog_36_method_4_code 13 = .ok (.if_icmp .ge 38, 3) := by decide +kernel
theorem d5_16 : decode prog_36_method_4_code 16 = .ok (.aload_n 3, 1) := by decide +kernel
theorem d5_17 : decode prog_36_method_4_code 17 = .ok (.iload 5, 2) := by decide +kernel
theorem d5_19 : decode prog_36_method_4_code 19 = .ok (.iaload, 1) := by decide +kernel
theorem d5_20 : decode prog_36_method_4_code 20 = .ok (.istore 6, 2) := by decide +kernel
theorem d5_22 : decode prog_36_method_4_code 22 = .ok (.aload_n 0, 1) := by decide +kernel
theorem d5_23 : decode prog_36_method_4_code 23 = .ok (.getfield 7, 3) := by decide +kernel
theorem d5_26 : decode prog_36_method_4_code 26 = .ok (.iload 6, 2) := by decide +kernel
theorem d5_28 : decode prog_36_method_4_code 28 = .ok (.dup2, 1) := by decide +kernel
theorem d5_29 : decode prog_36_method_4_code 29 = .ok (.laload, 1) := by decide +kernel
theorem d5_30 : decode prog_36_method_4_code 30 = .ok (.iload_n 2, 1) := by decide +kernel
theorem d5_31 : decode prog_36_method_4_code 31 = .ok (.i2l, 1) := by decide +kernel
theorem d5_32 : decode prog_36_method_4_code 32 = .ok (.lsub, 1) := by decide +kernel
theorem d5_33 : decode prog_36_method_4_code 33 = .ok (.lastore, 1) := by decide +kernel
theorem d5_34 : decode prog_36_method_4_code 34 = .ok (.aload_n 0, 1) := by decide +kernel
theorem d5_35 : decode prog_36_method_4_code 35 = .ok (.getfield 13, 3) := by decide +kernel
theorem d5_38 : decode prog_36_method_4_code 38 = .ok (.iload 6, 2) := by decide +kernel
theorem d5_40 : decode prog_36_method_4_code 40 = .ok (.dup2, 1) := by decide +kernel
theorem d5_41 : decode prog_36_method_4_code 41 = .ok (.iaload, 1) := by decide +kernel
theorem d5_42 : decode prog_36_method_4_code 42 = .ok (.iconst 1, 1) := by decide +kernel
theorem d5_43 : decode prog_36_method_4_code 43 = .ok (.isub, 1) := by decide +kernel
theorem d5_44 : decode prog_36_method_4_code 44 = .ok (.iastore, 1) := by decide +kernel
theorem d5_45 : decode prog_36_method_4_code 45 = .ok (.iinc 5 1, 3) := by decide +kernel
theorem d5_48 : decode prog_36_method_4_code 48 = .ok (.goto (-39), 3) := by decide +kernel
theorem d5_51 : decode prog_36_method_4_code 51 = .ok (.return_, 1) := by decide +kernel
set_option maxRecDepth 65536 in
set_option maxHeartbeats 40000000 in
theorem sg5 (l : Launch) (Z : State) (a0 : Array Value) (hw : ∀ d ∈ tables_1, d.before a0 Z = true) {p : Program} {e : Env} {s : State} {m : MethodId} {args : Array Value} {below : List Frame} {meth : Method} {c : Code} (hx : p.tables.exec = Jvm.exec) (hby : c.code = prog_36_method_4_code) (hml : c.maxLocals = 7) (hret : meth.sig.returnType = none) (hlk : meth.locks = false) (hown : s.vm.findClass "com/example/contiguity/contiguity/planning/FibreLoads" = some m.cls) (hnm : meth.name = "remove") (hZ : Z.Warmed39 s.vm) (x0 : Addr) (x1 : Addr) (x2 : Int32) (a1 : Addr) (a2 : Addr) (nn : Nat) (f : Nat → Int32) (mm : Nat) (W0 : Nat → Int64) (PP0 : Nat → Int32) (fn : Nat → Nat) (h0 : Heap) (n0 : Nat) (hf : ∀ j, j < nn → (f j).toInt = fn j ∧ fn j < mm) : ∀ (k : Nat) (iv : Int32) (i : Nat) (W : Nat → Int64) (P : Nat → Int32) (s6 : Slot) (T0 : State) (locs : List Loc) (hS : Heap), Stand p l e ({ frames := 0, cells := 0, slots := 0, locals := 0 } : Room) s m args below meth c T0 locs 0 0 → T0.heap = hS → n0 ≤ hS.size → Fr n0 locs → Keep h0 hS [a1, a2] → Exa Z hS x0 "com/example/contiguity/contiguity/planning/FibreLoads" → Fld Z hS x0 "com/example/contiguity/contiguity/planning/FibreLoads" "width" "[J" (.ref a1) → Fld Z hS x0 "com/example/contiguity/contiguity/planning/FibreLoads" "paths" "[I" (.ref a2) → AI Z hS x1 nn f → AJ Z hS a1 mm W → AI Z hS a2 mm P → n0 ≤ a1 → n0 ≤ a2 → x0 ≠ a1 → x0 ≠ a2 → x1 ≠ a1 → x1 ≠ a2 → a1 ≠ a2 → (iv.toInt = i) → (i + k = nn) → (own_sw fn x2.toInt64 k i W = (own_sw fn x2.toInt64 nn 0 W0)) → (own_sp fn (1 : Int32) k i P = (own_sp fn (1 : Int32) nn 0 PP0)) → (One s6) → Go p e below s (Q5 Z x0 x1 x2 a1 a2 nn f mm W0 PP0 fn h0 n0) ({ frames := 0, cells := 0, slots := 0, locals := 0 } : Room).cells ({ frames := 0, cells := 0, slots := 0, locals := 0 } : Room).slots (T0.setTop (mkF m 9 #[.val (.ref x0), .val (.ref x1), .val (.int x2), .val (.ref x1), .val (.int (nn.toInt32)), .val (.int iv), s6] [])) := by
  intro k
  induction k with
  | zero =>
    intro iv i W P s6 T0 locs hS X0 e0 Z0 N0 K0 P0 P1 P2 P3 P4 P5 P6 P7 P8 P9 P10 P11 P12 hi he hW hP hs6
    refine g_iload X0 hx 11 (hb hby d5_9) rfl rfl ?_
    show Go p e below s _ _ _ (T0.setTop (mkF m 11 #[.val (.ref x0), .val (.ref x1), .val (.int x2), .val (.ref x1), .val (.int (nn.toInt32)), .val (.int iv), s6] [(.int iv)]))
    refine g_iload X0 hx 13 (hb hby d5_11) rfl rfl ?_
    show Go p e below s _ _ _ (T0.setTop (mkF m 13 #[.val (.ref x0), .val (.ref x1), .val (.int x2), .val (.ref x1), .val (.int (nn.toInt32)), .val (.int iv), s6] [(.int (nn.toInt32)), (.int iv)]))
    have h1 : ¬ (iv < (nn.toInt32)) := fun q => absurd ((own_ltlen hi P3.small).1 q) (by omega)
    refine g_icmp_ge X0 hx 51 16 (hb hby d5_13) (by decide) rfl rfl (fun q => absurd q h1) (fun _ => ?_)
    show Go p e below s _ _ _ (T0.setTop (mkF m 51 #[.val (.ref x0), .val (.ref x1), .val (.int x2), .val (.ref x1), .val (.int (nn.toInt32)), .val (.int iv), s6] []))
    exact g_retV X0 hx hret hlk (hb hby d5_51) (by decide) (by decide) (by rw [e0]; exact ⟨rfl, N0, K0, (by rw [← hW]; exact P4), (by rw [← hP]; exact P5)⟩)
  | succ k ih =>
    intro iv i W P s6 T0 locs hS X0 e0 Z0 N0 K0 P0 P1 P2 P3 P4 P5 P6 P7 P8 P9 P10 P11 P12 hi he hW hP hs6
    refine g_iload X0 hx 11 (hb hby d5_9) rfl rfl ?_
    show Go p e below s _ _ _ (T0.setTop (mkF m 11 #[.val (.ref x0), .val (.ref x1), .val (.int x2), .val (.ref x1), .val (.int (nn.toInt32)), .val (.int iv), s6] [(.int iv)]))
    refine g_iload X0 hx 13 (hb hby d5_11) rfl rfl ?_
    show Go p e below s _ _ _ (T0.setTop (mkF m 13 #[.val (.ref x0), .val (.ref x1), .val (.int x2), .val (.ref x1), .val (.int (nn.toInt32)), .val (.int iv), s6] [(.int (nn.toInt32)), (.int iv)]))
    have h2 : iv < (nn.toInt32) := (own_ltlen hi P3.small).2 (by omega)
    refine g_icmp_ge X0 hx 51 16 (hb hby d5_13) (by decide) rfl rfl (fun _ => ?_) (fun q => absurd h2 q)
    show Go p e below s _ _ _ (T0.setTop (mkF m 16 #[.val (.ref x0), .val (.ref x1), .val (.int x2), .val (.ref x1), .val (.int (nn.toInt32)), .val (.int iv), s6] []))
    refine g_aloadN X0 hx 17 (hb hby d5_16) rfl rfl rfl ?_
    show Go p e below s _ _ _ (T0.setTop (mkF m 17 #[.val (.ref x0), .val (.ref x1), .val (.int x2), .val (.ref x1), .val (.int (nn.toInt32)), .val (.int iv), s6] [(.ref x1)]))
    refine g_iload X0 hx 19 (hb hby d5_17) rfl rfl ?_
    show Go p e below s _ _ _ (T0.setTop (mkF m 19 #[.val (.ref x0), .val (.ref x1), .val (.int x2), .val (.ref x1), .val (.int (nn.toInt32)), .val (.int iv), s6] [(.int iv), (.ref x1)]))
    refine g_iaload X0 hx hZ e0 P3 i hi (by omega) 20 (hb hby d5_19) rfl ?_
    show Go p e below s _ _ _ (T0.setTop (mkF m 20 #[.val (.ref x0), .val (.ref x1), .val (.int x2), .val (.ref x1), .val (.int (nn.toInt32)), .val (.int iv), s6] [(.int (f i))]))
    refine g_istoreS X0 hx #[.val (.ref x0), .val (.ref x1), .val (.int x2), .val (.ref x1), .val (.int (nn.toInt32)), .val (.int iv), .val (.int (f i))] 22 (hb hby d5_20) rfl hs6 rfl rfl ?_
    show Go p e below s _ _ _ (T0.setTop (mkF m 22 #[.val (.ref x0), .val (.ref x1), .val (.int x2), .val (.ref x1), .val (.int (nn.toInt32)), .val (.int iv), .val (.int (f i))] []))
    refine g_aloadN X0 hx 23 (hb hby d5_22) rfl rfl rfl ?_
    show Go p e below s _ _ _ (T0.setTop (mkF m 23 #[.val (.ref x0), .val (.ref x1), .val (.int x2), .val (.ref x1), .val (.int (nn.toInt32)), .val (.int iv), .val (.int (f i))] [(.ref x0)]))
    refine g_getF X0 hx hZ hown (hw _ (List.mem_of_getElem? (i := 15) rfl)) Via.refl e0 P1 26 (hb hby d5_23) rfl ?_
    intro T4 X4 e4
    show Go p e below s _ _ _ (T4.setTop (mkF m 26 #[.val (.ref x0), .val (.ref x1), .val (.int x2), .val (.ref x1), .val (.int (nn.toInt32)), .val (.int iv), .val (.int (f i))] [(.ref a1)]))
    refine g_iload X4 hx 28 (hb hby d5_26) rfl rfl ?_
    show Go p e below s _ _ _ (T4.setTop (mkF m 28 #[.val (.ref x0), .val (.ref x1), .val (.int x2), .val (.ref x1), .val (.int (nn.toInt32)), .val (.int iv), .val (.int (f i))] [(.int (f i)), (.ref a1)]))
    refine g_dup2 X4 hx 29 (hb hby d5_28) rfl rfl rfl ?_
    show Go p e below s _ _ _ (T4.setTop (mkF m 29 #[.val (.ref x0), .val (.ref x1), .val (.int x2), .val (.ref x1), .val (.int (nn.toInt32)), .val (.int iv), .val (.int (f i))] [(.int (f i)), (.ref a1), (.int (f i)), (.ref a1)]))
    refine g_laload X4 hx hZ e4 P4 (fn i) (hf i (by omega)).1 (hf i (by omega)).2 30 (hb hby d5_29) rfl ?_
    show Go p e below s _ _ _ (T4.setTop (mkF m 30 #[.val (.ref x0), .val (.ref x1), .val (.int x2), .val (.ref x1), .val (.int (nn.toInt32)), .val (.int iv), .val (.int (f i))] [(.long (W (fn i))), (.int (f i)), (.ref a1)]))
    refine g_iloadN X4 hx 31 (hb hby d5_30) rfl rfl ?_
    show Go p e below s _ _ _ (T4.setTop (mkF m 31 #[.val (.ref x0), .val (.ref x1), .val (.int x2), .val (.ref x1), .val (.int (nn.toInt32)), .val (.int iv), .val (.int (f i))] [(.int x2), (.long (W (fn i))), (.int (f i)), (.ref a1)]))
    refine g_i2l X4 hx 32 (hb hby d5_31) rfl ?_
    show Go p e below s _ _ _ (T4.setTop (mkF m 32 #[.val (.ref x0), .val (.ref x1), .val (.int x2), .val (.ref x1), .val (.int (nn.toInt32)), .val (.int iv), .val (.int (f i))] [(.long (x2.toInt64)), (.long (W (fn i))), (.int (f i)), (.ref a1)]))
    refine g_lsub X4 hx 33 (hb hby d5_32) rfl ?_
    show Go p e below s _ _ _ (T4.setTop (mkF m 33 #[.val (.ref x0), .val (.ref x1), .val (.int x2), .val (.ref x1), .val (.int (nn.toInt32)), .val (.int iv), .val (.int (f i))] [(.long ((W (fn i)) - (x2.toInt64))), (.int (f i)), (.ref a1)]))
    refine g_lastore X4 hx hZ e4 P4 (fn i) (hf i (by omega)).1 (hf i (by omega)).2 34 (hb hby d5_33) rfl ?_
    intro T6 h6 X6 e6 W6 A6
    have K6 := K0.wr W6 (Or.inl (List.mem_of_getElem? (i := 0) rfl))
    have N6 := Fr.snoc X6 N0 P6
    have k6_0 := P0.wr W6
    have k6_1 := P1.other W6 (Or.inl P8)
    have k6_2 := P2.other W6 (Or.inl P8)
    have k6_3 := P3.other W6 P10
    have k6_5 := P5.other W6 (Ne.symm P12)
    have Z6 : n0 ≤ h6.size := by rw [W6.size]; exact Z0
    show Go p e below s _ _ _ (T6.setTop (mkF m 34 #[.val (.ref x0), .val (.ref x1), .val (.int x2), .val (.ref x1), .val (.int (nn.toInt32)), .val (.int iv), .val (.int (f i))] []))
    refine g_aloadN X6 hx 35 (hb hby d5_34) rfl rfl rfl ?_
    show Go p e below s _ _ _ (T6.setTop (mkF m 35 #[.val (.ref x0), .val (.ref x1), .val (.int x2), .val (.ref x1), .val (.int (nn.toInt32)), .val (.int iv), .val (.int (f i))] [(.ref x0)]))
    refine g_getF X6 hx hZ hown (hw _ (List.mem_of_getElem? (i := 17) rfl)) Via.refl e6 k6_2 38 (hb hby d5_35) rfl ?_
    intro T7 X7 e7
    show Go p e below s _ _ _ (T7.setTop (mkF m 38 #[.val (.ref x0), .val (.ref x1), .val (.int x2), .val (.ref x1), .val (.int (nn.toInt32)), .val (.int iv), .val (.int (f i))] [(.ref a2)]))
    refine g_iload X7 hx 40 (hb hby d5_38) rfl rfl ?_
    show Go p e below s _ _ _ (T7.setTop (mkF m 40 #[.val (.ref x0), .val (.ref x1), .val (.int x2), .val (.ref x1), .val (.int (nn.toInt32)), .val (.int iv), .val (.int (f i))] [(.int (f i)), (.ref a2)]))
    refine g_dup2 X7 hx 41 (hb hby d5_40) rfl rfl rfl ?_
    show Go p e below s _ _ _ (T7.setTop (mkF m 41 #[.val (.ref x0), .val (.ref x1), .val (.int x2), .val (.ref x1), .val (.int (nn.toInt32)), .val (.int iv), .val (.int (f i))] [(.int (f i)), (.ref a2), (.int (f i)), (.ref a2)]))
    refine g_iaload X7 hx hZ e7 k6_5 (fn i) (hf i (by omega)).1 (hf i (by omega)).2 42 (hb hby d5_41) rfl ?_
    show Go p e below s _ _ _ (T7.setTop (mkF m 42 #[.val (.ref x0), .val (.ref x1), .val (.int x2), .val (.ref x1), .val (.int (nn.toInt32)), .val (.int iv), .val (.int (f i))] [(.int (P (fn i))), (.int (f i)), (.ref a2)]))
    refine g_iconst X7 hx (1 : Int32) 43 (hb hby d5_42) rfl rfl ?_
    show Go p e below s _ _ _ (T7.setTop (mkF m 43 #[.val (.ref x0), .val (.ref x1), .val (.int x2), .val (.ref x1), .val (.int (nn.toInt32)), .val (.int iv), .val (.int (f i))] [(.int (1 : Int32)), (.int (P (fn i))), (.int (f i)), (.ref a2)]))
    refine g_isub X7 hx 44 (hb hby d5_43) rfl ?_
    show Go p e below s _ _ _ (T7.setTop (mkF m 44 #[.val (.ref x0), .val (.ref x1), .val (.int x2), .val (.ref x1), .val (.int (nn.toInt32)), .val (.int iv), .val (.int (f i))] [(.int ((P (fn i)) - (1 : Int32))), (.int (f i)), (.ref a2)]))
    refine g_iastore X7 hx hZ e7 k6_5 (fn i) (hf i (by omega)).1 (hf i (by omega)).2 45 (hb hby d5_44) rfl ?_
    intro T9 h9 X9 e9 W9 A9
    have K9 := K6.wr W9 (Or.inl (List.mem_of_getElem? (i := 1) rfl))
    have N9 := Fr.snoc X9 N6 P7
    have k9_0 := k6_0.wr W9
    have k9_1 := k6_1.other W9 (Or.inl P9)
    have k9_2 := k6_2.other W9 (Or.inl P9)
    have k9_3 := k6_3.other W9 P11
    have k9_12 := A6.other W9 P12
    have Z9 : n0 ≤ h9.size := by rw [W9.size]; exact Z6
    show Go p e below s _ _ _ (T9.setTop (mkF m 45 #[.val (.ref x0), .val (.ref x1), .val (.int x2), .val (.ref x1), .val (.int (nn.toInt32)), .val (.int iv), .val (.int (f i))] []))
    refine g_iinc X9 hx (1 : Int32) #[.val (.ref x0), .val (.ref x1), .val (.int x2), .val (.ref x1), .val (.int (nn.toInt32)), .val (.int (iv + (1 : Int32))), .val (.int (f i))] 48 (hb hby d5_45) rfl rfl rfl rfl ?_
    show Go p e below s _ _ _ (T9.setTop (mkF m 48 #[.val (.ref x0), .val (.ref x1), .val (.int x2), .val (.ref x1), .val (.int (nn.toInt32)), .val (.int (iv + (1 : Int32))), .val (.int (f i))] []))
    refine g_goto X9 hx 9 (hb hby d5_48) (by decide) rfl ?_
    show Go p e below s _ _ _ (T9.setTop (mkF m 9 #[.val (.ref x0), .val (.ref x1), .val (.int x2), .val (.ref x1), .val (.int (nn.toInt32)), .val (.int (iv + (1 : Int32))), .val (.int (f i))] []))
    exact ih (iv + (1 : Int32)) (i + 1) (upd W (fn i) ((W (fn i)) - (x2.toInt64))) (upd P (fn i) ((P (fn i)) - (1 : Int32))) (.val (.int (f i))) _ _ _ X9 e9 Z9 N9 K9 k9_0 k9_1 k9_2 k9_3 k9_12 A9 P6 P7 P8 P9 P10 P11 P12 (own_add hi rfl (by have := P3.small; omega)) (by omega) hW hP (One.val rfl)
theorem d5_0 : decode prog_36_method_4_code 0 = .ok (.aload_n 1, 1) := by decide +kernel
theorem d5_1 : decode prog_36_method_4_code 1 = .ok (.astore_n 3, 1) := by decide +kernel
theorem d5_2 : decode prog_36_method_4_code 2 = .ok (.aload_n 3, 1) := by decide +kernel
theorem d5_3 : decode prog_36_method_4_code 3 = .ok (.arraylength, 1) := by decide +kernel
theorem d5_4 : decode prog_36_method_4_code 4 = .ok (.istore 4, 2) := by decide +kernel
theorem d5_6 : decode prog_36_method_4_code 6 = .ok (.iconst 0, 1) := by decide +kernel
theorem d5_7 : decode prog_36_method_4_code 7 = .ok (.istore 5, 2) := by decide +kernel
theorem ef_5 (m : MethodId) (x0 : Addr) (x1 : Addr) (x2 : Int32) : entryFrame m #[(.ref x0), (.ref x1), (.int x2)] 7 = mkF m 0 #[.val (.ref x0), .val (.ref x1), .val (.int x2), .unset, .unset, .unset, .unset] [] := by first | (simp [entryFrame, mkF, argsToLocals, Value.category]; done) | rfl
set_option maxRecDepth 65536 in
set_option maxHeartbeats 40000000 in
theorem rm5 (l : Launch) (Z : State) (a0 : Array Value) (hw : ∀ d ∈ tables_1, d.before a0 Z = true) (ws : List Jvm.Cond) (x0 : Addr) (x1 : Addr) (x2 : Int32) (a1 : Addr) (a2 : Addr) (nn : Nat) (f : Nat → Int32) (mm : Nat) (W0 : Nat → Int64) (PP0 : Nat → Int32) (fn : Nat → Nat) (h0 : Heap) (n0 : Nat) (Z0 : n0 ≤ h0.size) (P0 : Exa Z h0 x0 "com/example/contiguity/contiguity/planning/FibreLoads") (P1 : Fld Z h0 x0 "com/example/contiguity/contiguity/planning/FibreLoads" "width" "[J" (.ref a1)) (P2 : Fld Z h0 x0 "com/example/contiguity/contiguity/planning/FibreLoads" "paths" "[I" (.ref a2)) (P3 : AI Z h0 x1 nn f) (P4 : AJ Z h0 a1 mm W0) (P5 : AI Z h0 a2 mm PP0) (P6 : n0 ≤ a1) (P7 : n0 ≤ a2) (P8 : x0 ≠ a1) (P9 : x0 ≠ a2) (P10 : x1 ≠ a1) (P11 : x1 ≠ a2) (P12 : a1 ≠ a2) (hf : ∀ j, j < nn → (f j).toInt = fn j ∧ fn j < mm) :
    MetFree l (⟨"com/example/contiguity/contiguity/planning/FibreLoads", "remove", "([II)V"⟩ : MethodName) (head1 (Jvm.Cond.code (⟨"com/example/contiguity/contiguity/planning/FibreLoads", "remove", "([II)V"⟩ : MethodName) prog_36_method_4_code 7 none :: ws) ({ frames := 0, cells := 0, slots := 0, locals := 0 } : Room)) (fun a U => a = #[(.ref x0), (.ref x1), (.int x2)] ∧ Z.Warmed39 U.vm ∧ U.heap = h0) (fun _ _ _ _ _ => True) (fun _ U o U' => ∃ v L, o = .returned v ∧ Q5 Z x0 x1 x2 a1 a2 nn f mm W0 PP0 fn h0 n0 v U'.heap L ∧ FrameEnd U o U' L ({ frames := 0, cells := 0, slots := 0, locals := 0 } : Room).cells ({ frames := 0, cells := 0, slots := 0, locals := 0 } : Room).slots) := by
  refine g_body (plainFor_of_name pn_2) ?_
  intro p e s m below meth c T0 X0 hx hby hml hret hlk hown hnm hZ e0
  rw [ef_5]
  have N0 := Fr.nil n0
  show Go p e below s _ _ _ (T0.setTop (mkF m 0 #[.val (.ref x0), .val (.ref x1), .val (.int x2), .unset, .unset, .unset, .unset] []))
  refine g_aloadN X0 hx 1 (hb hby d5_0) rfl rfl rfl ?_
  show Go p e below s _ _ _ (T0.setTop (mkF m 1 #[.val (.ref x0), .val (.ref x1), .val (.int x2), .unset, .unset, .unset, .unset] [(.ref x1)]))
  refine g_astoreN X0 hx #[.val (.ref x0), .val (.ref x1), .val (.int x2), .val (.ref x1), .unset, .unset, .unset] 2 (hb hby d5_1) rfl rfl rfl ?_
  show Go p e below s _ _ _ (T0.setTop (mkF m 2 #[.val (.ref x0), .val (.ref x1), .val (.int x2), .val (.ref x1), .unset, .unset, .unset] []))
  refine g_aloadN X0 hx 3 (hb hby d5_2) rfl rfl rfl ?_
  show Go p e below s _ _ _ (T0.setTop (mkF m 3 #[.val (.ref x0), .val (.ref x1), .val (.int x2), .val (.ref x1), .unset, .unset, .unset] [(.ref x1)]))
  refine g_arraylengthI X0 hx hZ e0 P3 (nn.toInt32) rfl 4 (hb hby d5_3) rfl ?_
  show Go p e below s _ _ _ (T0.setTop (mkF m 4 #[.val (.ref x0), .val (.ref x1), .val (.int x2), .val (.ref x1), .unset, .unset, .unset] [(.int (nn.toInt32))]))
  refine g_istore X0 hx #[.val (.ref x0), .val (.ref x1), .val (.int x2), .val (.ref x1), .val (.int (nn.toInt32)), .unset, .unset] 6 (hb hby d5_4) rfl rfl ?_
  show Go p e below s _ _ _ (T0.setTop (mkF m 6 #[.val (.ref x0), .val (.ref x1), .val (.int x2), .val (.ref x1), .val (.int (nn.toInt32)), .unset, .unset] []))
  refine g_iconst X0 hx (0 : Int32) 7 (hb hby d5_6) rfl rfl ?_
  show Go p e below s _ _ _ (T0.setTop (mkF m 7 #[.val (.ref x0), .val (.ref x1), .val (.int x2), .val (.ref x1), .val (.int (nn.toInt32)), .unset, .unset] [(.int (0 : Int32))]))
  refine g_istore X0 hx #[.val (.ref x0), .val (.ref x1), .val (.int x2), .val (.ref x1), .val (.int (nn.toInt32)), .val (.int (0 : Int32)), .unset] 9 (hb hby d5_7) rfl rfl ?_
  show Go p e below s _ _ _ (T0.setTop (mkF m 9 #[.val (.ref x0), .val (.ref x1), .val (.int x2), .val (.ref x1), .val (.int (nn.toInt32)), .val (.int (0 : Int32)), .unset] []))
  exact sg5 l Z a0 hw hx hby hml hret hlk hown hnm hZ x0 x1 x2 a1 a2 nn f mm W0 PP0 fn h0 n0 hf nn (0 : Int32) 0 W0 PP0 .unset _ _ _ X0 e0 Z0 N0 (Keep.refl h0 [a1, a2]) P0 P1 P2 P3 P4 P5 P6 P7 P8 P9 P10 P11 P12 rfl (by omega) rfl rfl One.u
theorem d8_0 : decode prog_36_method_5_code 0 = .ok (.aload_n 0, 1) := by decide +kernel
theorem d8_1 : decode prog_36_method_5_code 1 = .ok (.getfield 7, 3) := by decide +kernel
theorem d8_4 : decode prog_36_method_5_code 4 = .ok (.iload_n 1, 1) := by decide +kernel
theorem d8_5 : decode prog_36_method_5_code 5 = .ok (.laload, 1) := by decide +kernel
theorem d8_6 : decode prog_36_method_5_code 6 = .ok (.lreturn, 1) := by decide +kernel
theorem ef_8 (m : MethodId) (x0 : Addr) (x1 : Int32) : entryFrame m #[(.ref x0), (.int x1)] 2 = mkF m 0 #[.val (.ref x0), .val (.int x1)] [] := by first | (simp [entryFrame, mkF, argsToLocals, Value.category]; done) | rfl
def Q8 (Z : State) (x0 : Addr) (x1 : Int32) (a1 : Addr) (mm : Nat) (W : Nat → Int64) (jn : Nat) (h0 : Heap) (v : Option Value) (h : Heap) (L : List Loc) : Prop := v = some (.long (W jn)) ∧ L = [] ∧ h = h0
set_option maxRecDepth 65536 in
set_option maxHeartbeats 40000000 in
theorem rm8 (l : Launch) (Z : State) (a0 : Array Value) (hw : ∀ d ∈ tables_1, d.before a0 Z = true) (ws : List Jvm.Cond) (x0 : Addr) (x1 : Int32) (a1 : Addr) (mm : Nat) (W : Nat → Int64) (jn : Nat) (h0 : Heap) (P0 : Fld Z h0 x0 "com/example/contiguity/contiguity/planning/FibreLoads" "width" "[J" (.ref a1)) (P1 : AJ Z h0 a1 mm W) (hj : x1.toInt = jn) (hl : jn < mm) :
    MetFree l (⟨"com/example/contiguity/contiguity/planning/FibreLoads", "width", "(I)J"⟩ : MethodName) (head1 (Jvm.Cond.code (⟨"com/example/contiguity/contiguity/planning/FibreLoads", "width", "(I)J"⟩ : MethodName) prog_36_method_5_code 2 (some .long) :: ws) ({ frames := 0, cells := 0, slots := 0, locals := 0 } : Room)) (fun a U => a = #[(.ref x0), (.int x1)] ∧ Z.Warmed39 U.vm ∧ U.heap = h0) (fun _ _ _ _ _ => True) (fun _ U o U' => ∃ v L, o = .returned v ∧ Q8 Z x0 x1 a1 mm W jn h0 v U'.heap L ∧ FrameEnd U o U' L ({ frames := 0, cells := 0, slots := 0, locals := 0 } : Room).cells ({ frames := 0, cells := 0, slots := 0, locals := 0 } : Room).slots) := by
  refine g_body (plainFor_of_name pn_2) ?_
  intro p e s m below meth c T0 X0 hx hby hml hret hlk hown hnm hZ e0
  rw [ef_8]
  show Go p e below s _ _ _ (T0.setTop (mkF m 0 #[.val (.ref x0), .val (.int x1)] []))
  refine g_aloadN X0 hx 1 (hb hby d8_0) rfl rfl rfl ?_
  show Go p e below s _ _ _ (T0.setTop (mkF m 1 #[.val (.ref x0), .val (.int x1)] [(.ref x0)]))
  refine g_getF X0 hx hZ hown (hw _ (List.mem_of_getElem? (i := 15) rfl)) Via.refl e0 P0 4 (hb hby d8_1) rfl ?_
  intro T1 X1 e1
  show Go p e below s _ _ _ (T1.setTop (mkF m 4 #[.val (.ref x0), .val (.int x1)] [(.ref a1)]))
  refine g_iloadN X1 hx 5 (hb hby d8_4) rfl rfl ?_
  show Go p e below s _ _ _ (T1.setTop (mkF m 5 #[.val (.ref x0), .val (.int x1)] [(.int x1), (.ref a1)]))
  refine g_laload X1 hx hZ e1 P1 jn hj hl 6 (hb hby d8_5) rfl ?_
  show Go p e below s _ _ _ (T1.setTop (mkF m 6 #[.val (.ref x0), .val (.int x1)] [(.long (W jn))]))
  exact g_retJ X1 hx hret hlk (hb hby d8_6) (by decide) (by decide) ⟨rfl, rfl, e1⟩
theorem d9_0 : decode prog_36_method_6_code 0 = .ok (.aload_n 0, 1) := by decide +kernel
theorem d9_1 : decode prog_36_method_6_code 1 = .ok (.getfield 13, 3) := by decide +kernel
theorem d9_4 : decode prog_36_method_6_code 4 = .ok (.iload_n 1, 1) := by decide +kernel
theorem d9_5 : decode prog_36_method_6_code 5 = .ok (.iaload, 1) := by decide +kernel
theorem d9_6 : decode prog_36_method_6_code 6 = .ok (.ireturn, 1) := by decide +kernel
theorem ef_9 (m : MethodId) (x0 : Addr) (x1 : Int32) : entryFrame m #[(.ref x0), (.int x1)] 2 = mkF m 0 #[.val (.ref x0), .val (.int x1)] [] := by first | (simp [entryFrame, mkF, argsToLocals, Value.category]; done) | rfl
def Q9 (Z : State) (x0 : Addr) (x1 : Int32) (a2 : Addr) (mm : Nat) (P : Nat → Int32) (jn : Nat) (h0 : Heap) (v : Option Value) (h : Heap) (L : List Loc) : Prop := v = some (.int (P jn)) ∧ L = [] ∧ h = h0
set_option maxRecDepth 65536 in
set_option maxHeartbeats 40000000 in
theorem rm9 (l : Launch) (Z : State) (a0 : Array Value) (hw : ∀ d ∈ tables_1, d.before a0 Z = true) (ws : List Jvm.Cond) (x0 : Addr) (x1 : Int32) (a2 : Addr) (mm : Nat) (P : Nat → Int32) (jn : Nat) (h0 : Heap) (P0 : Fld Z h0 x0 "com/example/contiguity/contiguity/planning/FibreLoads" "paths" "[I" (.ref a2)) (P1 : AI Z h0 a2 mm P) (hj : x1.toInt = jn) (hl : jn < mm) :
    MetFree l (⟨"com/example/contiguity/contiguity/planning/FibreLoads", "paths", "(I)I"⟩ : MethodName) (head1 (Jvm.Cond.code (⟨"com/example/contiguity/contiguity/planning/FibreLoads", "paths", "(I)I"⟩ : MethodName) prog_36_method_6_code 2 (some .int) :: ws) ({ frames := 0, cells := 0, slots := 0, locals := 0 } : Room)) (fun a U => a = #[(.ref x0), (.int x1)] ∧ Z.Warmed39 U.vm ∧ U.heap = h0) (fun _ _ _ _ _ => True) (fun _ U o U' => ∃ v L, o = .returned v ∧ Q9 Z x0 x1 a2 mm P jn h0 v U'.heap L ∧ FrameEnd U o U' L ({ frames := 0, cells := 0, slots := 0, locals := 0 } : Room).cells ({ frames := 0, cells := 0, slots := 0, locals := 0 } : Room).slots) := by
  refine g_body (plainFor_of_name pn_2) ?_
  intro p e s m below meth c T0 X0 hx hby hml hret hlk hown hnm hZ e0
  rw [ef_9]
  show Go p e below s _ _ _ (T0.setTop (mkF m 0 #[.val (.ref x0), .val (.int x1)] []))
  refine g_aloadN X0 hx 1 (hb hby d9_0) rfl rfl rfl ?_
  show Go p e below s _ _ _ (T0.setTop (mkF m 1 #[.val (.ref x0), .val (.int x1)] [(.ref x0)]))
  refine g_getF X0 hx hZ hown (hw _ (List.mem_of_getElem? (i := 17) rfl)) Via.refl e0 P0 4 (hb hby d9_1) rfl ?_
  intro T1 X1 e1
  show Go p e below s _ _ _ (T1.setTop (mkF m 4 #[.val (.ref x0), .val (.int x1)] [(.ref a2)]))
  refine g_iloadN X1 hx 5 (hb hby d9_4) rfl rfl ?_
  show Go p e below s _ _ _ (T1.setTop (mkF m 5 #[.val (.ref x0), .val (.int x1)] [(.int x1), (.ref a2)]))
  refine g_iaload X1 hx hZ e1 P1 jn hj hl 6 (hb hby d9_5) rfl ?_
  show Go p e below s _ _ _ (T1.setTop (mkF m 6 #[.val (.ref x0), .val (.int x1)] [(.int (P jn))]))
  exact g_retI X1 hx hret hlk (hb hby d9_6) (by decide) (by decide) ⟨rfl, rfl, e1⟩
theorem d7_0 : decode method_4_code 0 = .ok (.iconst 0, 1) := by decide +kernel
theorem d7_1 : decode method_4_code 1 = .ok (.istore 5, 2) := by decide +kernel
theorem d7_3 : decode method_4_code 3 = .ok (.iload_n 1, 1) := by decide +kernel
theorem d7_4 : decode method_4_code 4 = .ok (.ifCond .le 14, 3) := by decide +kernel
theorem d7_7 : decode method_4_code 7 = .ok (.iload_n 2, 1) := by decide +kernel
theorem d7_8 : decode method_4_code 8 = .ok (.iload_n 0, 1) := by decide +kernel
theorem d7_9 : decode method_4_code 9 = .ok (.if_icmp .ne 9, 3) := by decide +kernel
theorem d7_12 : decode method_4_code 12 = .ok (.iload 5, 2) := by decide +kernel
theorem d7_14 : decode method_4_code 14 = .ok (.iconst 1, 1) := by decide +kernel
theorem d7_15 : decode method_4_code 15 = .ok (.iadd, 1) := by decide +kernel
theorem d7_16 : decode method_4_code 16 = .ok (.istore 5, 2) := by decide +kernel
theorem d7_18 : decode method_4_code 18 = .ok (.iload_n 1, 1) := by decide +kernel
theorem d7_19 : decode method_4_code 19 = .ok (.iconst 1, 1) := by decide +kernel
theorem d7_20 : decode method_4_code 20 = .ok (.if_icmp .le 14, 3) := by decide +kernel
theorem d7_23 : decode method_4_code 23 = .ok (.iload_n 3, 1) := by decide +kernel
theorem d7_24 : decode method_4_code 24 = .ok (.iload_n 0, 1) := by decide +kernel
theorem d7_25 : decode method_4_code 25 = .ok (.if_icmp .ne 9, 3) := by decide +kernel
theorem d7_28 : decode method_4_code 28 = .ok (.iload 5, 2) := by decide +kernel
theorem d7_30 : decode method_4_code 30 = .ok (.iconst 1, 1) := by decide +kernel
theorem d7_31 : decode method_4_code 31 = .ok (.iadd, 1) := by decide +kernel
theorem d7_32 : decode method_4_code 32 = .ok (.istore 5, 2) := by decide +kernel
theorem d7_34 : decode method_4_code 34 = .ok (.iload_n 1, 1) := by decide +kernel
theorem d7_35 : decode method_4_code 35 = .ok (.iconst 2, 1) := by decide +kernel
theorem d7_36 : decode method_4_code 36 = .ok (.if_icmp .le 15, 3) := by decide +kernel
theorem d7_39 : decode method_4_code 39 = .ok (.iload 4, 2) := by decide +kernel
theorem d7_41 : decode method_4_code 41 = .ok (.iload_n 0, 1) := by decide +kernel
theorem d7_42 : decode method_4_code 42 = .ok (.if_icmp .ne 9, 3) := by decide +kernel
theorem d7_45 : decode method_4_code 45 = .ok (.iload 5, 2) := by decide +kernel
theorem d7_47 : decode method_4_code 47 = .ok (.iconst 1, 1) := by decide +kernel
theorem d7_48 : decode method_4_code 48 = .ok (.iadd, 1) := by decide +kernel
theorem d7_49 : decode method_4_code 49 = .ok (.istore 5, 2) := by decide +kernel
theorem d7_51 : decode method_4_code 51 = .ok (.iload 5, 2) := by decide +kernel
theorem d7_53 : decode method_4_code 53 = .ok (.ireturn, 1) := by decide +kernel
theorem ef_7 (m : MethodId) (x0 : Int32) (x1 : Int32) (x2 : Int32) (x3 : Int32) (x4 : Int32) : entryFrame m #[(.int x0), (.int x1), (.int x2), (.int x3), (.int x4)] 6 = mkF m 0 #[.val (.int x0), .val (.int x1), .val (.int x2), .val (.int x3), .val (.int x4), .unset] [] := by first | (simp [entryFrame, mkF, argsToLocals, Value.category]; done) | rfl
def z7_18_l5_1 (x0 : Int32) (x1 : Int32) (x2 : Int32) : Int32 := (if (0 : Int32) < x1 then (if x2 = x0 then ((0 : Int32) + (1 : Int32)) else (0 : Int32)) else (0 : Int32))
def z7_34_l5_2 (x0 : Int32) (x1 : Int32) (x2 : Int32) (x3 : Int32) : Int32 := (if (1 : Int32) < x1 then (if x3 = x0 then ((z7_18_l5_1 x0 x1 x2) + (1 : Int32)) else (z7_18_l5_1 x0 x1 x2)) else (z7_18_l5_1 x0 x1 x2))
def z7_51_l5_3 (x0 : Int32) (x1 : Int32) (x2 : Int32) (x3 : Int32) (x4 : Int32) : Int32 := (if (2 : Int32) < x1 then (if x4 = x0 then ((z7_34_l5_2 x0 x1 x2 x3) + (1 : Int32)) else (z7_34_l5_2 x0 x1 x2 x3)) else (z7_34_l5_2 x0 x1 x2 x3))
def f7 (x0 : Int32) (x1 : Int32) (x2 : Int32) (x3 : Int32) (x4 : Int32) : Int32 := (z7_51_l5_3 x0 x1 x2 x3 x4)
def Q7 (x0 : Int32) (x1 : Int32) (x2 : Int32) (x3 : Int32) (x4 : Int32) (h0 : Heap) (v : Option Value) (h : Heap) (L : List Loc) : Prop := v = some (.int (f7 x0 x1 x2 x3 x4)) ∧ L = [] ∧ h = h0
set_option maxRecDepth 65536 in
set_option maxHeartbeats 40000000 in
theorem rm7 (l : Launch) (Z : State) (a0 : Array Value) (hw : ∀ d ∈ tables_1, d.before a0 Z = true) (ws : List Jvm.Cond) (x0 : Int32) (x1 : Int32) (x2 : Int32) (x3 : Int32) (x4 : Int32) (h0 : Heap) :
    MetFree l (⟨"com/example/contiguity/contiguity/planning/FibreLoadsRemovePinLaw", "count", "(IIIII)I"⟩ : MethodName) (head1 (Jvm.Cond.code (⟨"com/example/contiguity/contiguity/planning/FibreLoadsRemovePinLaw", "count", "(IIIII)I"⟩ : MethodName) method_4_code 6 (some .int) :: ws) ({ frames := 0, cells := 0, slots := 0, locals := 0 } : Room)) (fun a U => a = #[(.int x0), (.int x1), (.int x2), (.int x3), (.int x4)] ∧ Z.Warmed39 U.vm ∧ U.heap = h0) (fun _ _ _ _ _ => True) (fun _ U o U' => ∃ v L, o = .returned v ∧ Q7 x0 x1 x2 x3 x4 h0 v U'.heap L ∧ FrameEnd U o U' L ({ frames := 0, cells := 0, slots := 0, locals := 0 } : Room).cells ({ frames := 0, cells := 0, slots := 0, locals := 0 } : Room).slots) := by
  refine g_body (plainFor_of_name pn_1) ?_
  intro p e s m below meth c T0 X0 hx hby hml hret hlk hown hnm hZ e0
  rw [ef_7]
  show Go p e below s _ _ _ (T0.setTop (mkF m 0 #[.val (.int x0), .val (.int x1), .val (.int x2), .val (.int x3), .val (.int x4), .unset] []))
  refine g_iconst X0 hx (0 : Int32) 1 (hb hby d7_0) rfl rfl ?_
  show Go p e below s _ _ _ (T0.setTop (mkF m 1 #[.val (.int x0), .val (.int x1), .val (.int x2), .val (.int x3), .val (.int x4), .unset] [(.int (0 : Int32))]))
  refine g_istore X0 hx #[.val (.int x0), .val (.int x1), .val (.int x2), .val (.int x3), .val (.int x4), .val (.int (0 : Int32))] 3 (hb hby d7_1) rfl rfl ?_
  show Go p e below s _ _ _ (T0.setTop (mkF m 3 #[.val (.int x0), .val (.int x1), .val (.int x2), .val (.int x3), .val (.int x4), .val (.int (0 : Int32))] []))
  refine g_iloadN X0 hx 4 (hb hby d7_3) rfl rfl ?_
  show Go p e below s _ _ _ (T0.setTop (mkF m 4 #[.val (.int x0), .val (.int x1), .val (.int x2), .val (.int x3), .val (.int x4), .val (.int (0 : Int32))] [(.int x1)]))
  have J1 : Go p e below s (Q7 x0 x1 x2 x3 x4 h0) ({ frames := 0, cells := 0, slots := 0, locals := 0 } : Room).cells ({ frames := 0, cells := 0, slots := 0, locals := 0 } : Room).slots (T0.setTop (mkF m 18 #[.val (.int x0), .val (.int x1), .val (.int x2), .val (.int x3), .val (.int x4), .val (.int (z7_18_l5_1 x0 x1 x2))] [])) := by
    refine g_iloadN X0 hx 19 (hb hby d7_18) rfl rfl ?_
    show Go p e below s _ _ _ (T0.setTop (mkF m 19 #[.val (.int x0), .val (.int x1), .val (.int x2), .val (.int x3), .val (.int x4), .val (.int (z7_18_l5_1 x0 x1 x2))] [(.int x1)]))
    refine g_iconst X0 hx (1 : Int32) 20 (hb hby d7_19) rfl rfl ?_
    show Go p e below s _ _ _ (T0.setTop (mkF m 20 #[.val (.int x0), .val (.int x1), .val (.int x2), .val (.int x3), .val (.int x4), .val (.int (z7_18_l5_1 x0 x1 x2))] [(.int (1 : Int32)), (.int x1)]))
    have J2 : Go p e below s (Q7 x0 x1 x2 x3 x4 h0) ({ frames := 0, cells := 0, slots := 0, locals := 0 } : Room).cells ({ frames := 0, cells := 0, slots := 0, locals := 0 } : Room).slots (T0.setTop (mkF m 34 #[.val (.int x0), .val (.int x1), .val (.int x2), .val (.int x3), .val (.int x4), .val (.int (z7_34_l5_2 x0 x1 x2 x3))] [])) := by
      refine g_iloadN X0 hx 35 (hb hby d7_34) rfl rfl ?_
      show Go p e below s _ _ _ (T0.setTop (mkF m 35 #[.val (.int x0), .val (.int x1), .val (.int x2), .val (.int x3), .val (.int x4), .val (.int (z7_34_l5_2 x0 x1 x2 x3))] [(.int x1)]))
      refine g_iconst X0 hx (2 : Int32) 36 (hb hby d7_35) rfl rfl ?_
      show Go p e below s _ _ _ (T0.setTop (mkF m 36 #[.val (.int x0), .val (.int x1), .val (.int x2), .val (.int x3), .val (.int x4), .val (.int (z7_34_l5_2 x0 x1 x2 x3))] [(.int (2 : Int32)), (.int x1)]))
      have J3 : Go p e below s (Q7 x0 x1 x2 x3 x4 h0) ({ frames := 0, cells := 0, slots := 0, locals := 0 } : Room).cells ({ frames := 0, cells := 0, slots := 0, locals := 0 } : Room).slots (T0.setTop (mkF m 51 #[.val (.int x0), .val (.int x1), .val (.int x2), .val (.int x3), .val (.int x4), .val (.int (z7_51_l5_3 x0 x1 x2 x3 x4))] [])) := by
        refine g_iload X0 hx 53 (hb hby d7_51) rfl rfl ?_
        show Go p e below s _ _ _ (T0.setTop (mkF m 53 #[.val (.int x0), .val (.int x1), .val (.int x2), .val (.int x3), .val (.int x4), .val (.int (z7_51_l5_3 x0 x1 x2 x3 x4))] [(.int (z7_51_l5_3 x0 x1 x2 x3 x4))]))
        exact g_retI X0 hx hret hlk (hb hby d7_53) (by decide) (by decide) ⟨congrArg (fun z => some (Value.int z)) (show (z7_51_l5_3 x0 x1 x2 x3 x4) = (f7 x0 x1 x2 x3 x4) from by rw [f7]), rfl, e0⟩
      refine g_icmp_le X0 hx 51 39 (hb hby d7_36) (by decide) rfl rfl (fun h4 => ?_) (fun h4 => ?_)
      · show Go p e below s _ _ _ (T0.setTop (mkF m 39 #[.val (.int x0), .val (.int x1), .val (.int x2), .val (.int x3), .val (.int x4), .val (.int (z7_34_l5_2 x0 x1 x2 x3))] []))
        refine g_iload X0 hx 41 (hb hby d7_39) rfl rfl ?_
        show Go p e below s _ _ _ (T0.setTop (mkF m 41 #[.val (.int x0), .val (.int x1), .val (.int x2), .val (.int x3), .val (.int x4), .val (.int (z7_34_l5_2 x0 x1 x2 x3))] [(.int x4)]))
        refine g_iloadN X0 hx 42 (hb hby d7_41) rfl rfl ?_
        show Go p e below s _ _ _ (T0.setTop (mkF m 42 #[.val (.int x0), .val (.int x1), .val (.int x2), .val (.int x3), .val (.int x4), .val (.int (z7_34_l5_2 x0 x1 x2 x3))] [(.int x0), (.int x4)]))
        refine g_icmp_ne X0 hx 51 45 (hb hby d7_42) (by decide) rfl rfl (fun h5 => ?_) (fun h5 => ?_)
        · show Go p e below s _ _ _ (T0.setTop (mkF m 45 #[.val (.int x0), .val (.int x1), .val (.int x2), .val (.int x3), .val (.int x4), .val (.int (z7_34_l5_2 x0 x1 x2 x3))] []))
          refine g_iload X0 hx 47 (hb hby d7_45) rfl rfl ?_
          show Go p e below s _ _ _ (T0.setTop (mkF m 47 #[.val (.int x0), .val (.int x1), .val (.int x2), .val (.int x3), .val (.int x4), .val (.int (z7_34_l5_2 x0 x1 x2 x3))] [(.int (z7_34_l5_2 x0 x1 x2 x3))]))
          refine g_iconst X0 hx (1 : Int32) 48 (hb hby d7_47) rfl rfl ?_
          show Go p e below s _ _ _ (T0.setTop (mkF m 48 #[.val (.int x0), .val (.int x1), .val (.int x2), .val (.int x3), .val (.int x4), .val (.int (z7_34_l5_2 x0 x1 x2 x3))] [(.int (1 : Int32)), (.int (z7_34_l5_2 x0 x1 x2 x3))]))
          refine g_iadd X0 hx 49 (hb hby d7_48) rfl ?_
          show Go p e below s _ _ _ (T0.setTop (mkF m 49 #[.val (.int x0), .val (.int x1), .val (.int x2), .val (.int x3), .val (.int x4), .val (.int (z7_34_l5_2 x0 x1 x2 x3))] [(.int ((z7_34_l5_2 x0 x1 x2 x3) + (1 : Int32)))]))
          refine g_istore X0 hx #[.val (.int x0), .val (.int x1), .val (.int x2), .val (.int x3), .val (.int x4), .val (.int ((z7_34_l5_2 x0 x1 x2 x3) + (1 : Int32)))] 51 (hb hby d7_49) rfl rfl ?_
          show Go p e below s _ _ _ (T0.setTop (mkF m 51 #[.val (.int x0), .val (.int x1), .val (.int x2), .val (.int x3), .val (.int x4), .val (.int ((z7_34_l5_2 x0 x1 x2 x3) + (1 : Int32)))] []))
          have q3 := J3
          simp only [z7_51_l5_3, if_pos h4, if_pos h5] at q3
          exact q3
        · show Go p e below s _ _ _ (T0.setTop (mkF m 51 #[.val (.int x0), .val (.int x1), .val (.int x2), .val (.int x3), .val (.int x4), .val (.int (z7_34_l5_2 x0 x1 x2 x3))] []))
          have q3 := J3
          simp only [z7_51_l5_3, if_pos h4, if_neg h5] at q3
          exact q3
      · show Go p e below s _ _ _ (T0.setTop (mkF m 51 #[.val (.int x0), .val (.int x1), .val (.int x2), .val (.int x3), .val (.int x4), .val (.int (z7_34_l5_2 x0 x1 x2 x3))] []))
        have q3 := J3
        simp only [z7_51_l5_3, if_neg h4] at q3
        exact q3
    refine g_icmp_le X0 hx 34 23 (hb hby d7_20) (by decide) rfl rfl (fun h6 => ?_) (fun h6 => ?_)
    · show Go p e below s _ _ _ (T0.setTop (mkF m 23 #[.val (.int x0), .val (.int x1), .val (.int x2), .val (.int x3), .val (.int x4), .val (.int (z7_18_l5_1 x0 x1 x2))] []))
      refine g_iloadN X0 hx 24 (hb hby d7_23) rfl rfl ?_
      show Go p e below s _ _ _ (T0.setTop (mkF m 24 #[.val (.int x0), .val (.int x1), .val (.int x2), .val (.int x3), .val (.int x4), .val (.int (z7_18_l5_1 x0 x1 x2))] [(.int x3)]))
      refine g_iloadN X0 hx 25 (hb hby d7_24) rfl rfl ?_
      show Go p e below s _ _ _ (T0.setTop (mkF m 25 #[.val (.int x0), .val (.int x1), .val (.int x2), .val (.int x3), .val (.int x4), .val (.int (z7_18_l5_1 x0 x1 x2))] [(.int x0), (.int x3)]))
      refine g_icmp_ne X0 hx 34 28 (hb hby d7_25) (by decide) rfl rfl (fun h7 => ?_) (fun h7 => ?_)
      · show Go p e below s _ _ _ (T0.setTop (mkF m 28 #[.val (.int x0), .val (.int x1), .val (.int x2), .val (.int x3), .val (.int x4), .val (.int (z7_18_l5_1 x0 x1 x2))] []))
        refine g_iload X0 hx 30 (hb hby d7_28) rfl rfl ?_
        show Go p e below s _ _ _ (T0.setTop (mkF m 30 #[.val (.int x0), .val (.int x1), .val (.int x2), .val (.int x3), .val (.int x4), .val (.int (z7_18_l5_1 x0 x1 x2))] [(.int (z7_18_l5_1 x0 x1 x2))]))
        refine g_iconst X0 hx (1 : Int32) 31 (hb hby d7_30) rfl rfl ?_
        show Go p e below s _ _ _ (T0.setTop (mkF m 31 #[.val (.int x0), .val (.int x1), .val (.int x2), .val (.int x3), .val (.int x4), .val (.int (z7_18_l5_1 x0 x1 x2))] [(.int (1 : Int32)), (.int (z7_18_l5_1 x0 x1 x2))]))
        refine g_iadd X0 hx 32 (hb hby d7_31) rfl ?_
        show Go p e below s _ _ _ (T0.setTop (mkF m 32 #[.val (.int x0), .val (.int x1), .val (.int x2), .val (.int x3), .val (.int x4), .val (.int (z7_18_l5_1 x0 x1 x2))] [(.int ((z7_18_l5_1 x0 x1 x2) + (1 : Int32)))]))
        refine g_istore X0 hx #[.val (.int x0), .val (.int x1), .val (.int x2), .val (.int x3), .val (.int x4), .val (.int ((z7_18_l5_1 x0 x1 x2) + (1 : Int32)))] 34 (hb hby d7_32) rfl rfl ?_
        show Go p e below s _ _ _ (T0.setTop (mkF m 34 #[.val (.int x0), .val (.int x1), .val (.int x2), .val (.int x3), .val (.int x4), .val (.int ((z7_18_l5_1 x0 x1 x2) + (1 : Int32)))] []))
        have q2 := J2
        simp only [z7_34_l5_2, if_pos h6, if_pos h7] at q2
        exact q2
      · show Go p e below s _ _ _ (T0.setTop (mkF m 34 #[.val (.int x0), .val (.int x1), .val (.int x2), .val (.int x3), .val (.int x4), .val (.int (z7_18_l5_1 x0 x1 x2))] []))
        have q2 := J2
        simp only [z7_34_l5_2, if_pos h6, if_neg h7] at q2
        exact q2
    · show Go p e below s _ _ _ (T0.setTop (mkF m 34 #[.val (.int x0), .val (.int x1), .val (.int x2), .val (.int x3), .val (.int x4), .val (.int (z7_18_l5_1 x0 x1 x2))] []))
      have q2 := J2
      simp only [z7_34_l5_2, if_neg h6] at q2
      exact q2
  refine g_if0_le X0 hx 18 7 (hb hby d7_4) (by decide) rfl rfl (fun h8 => ?_) (fun h8 => ?_)
  · show Go p e below s _ _ _ (T0.setTop (mkF m 7 #[.val (.int x0), .val (.int x1), .val (.int x2), .val (.int x3), .val (.int x4), .val (.int (0 : Int32))] []))
    refine g_iloadN X0 hx 8 (hb hby d7_7) rfl rfl ?_
    show Go p e below s _ _ _ (T0.setTop (mkF m 8 #[.val (.int x0), .val (.int x1), .val (.int x2), .val (.int x3), .val (.int x4), .val (.int (0 : Int32))] [(.int x2)]))
    refine g_iloadN X0 hx 9 (hb hby d7_8) rfl rfl ?_
    show Go p e below s _ _ _ (T0.setTop (mkF m 9 #[.val (.int x0), .val (.int x1), .val (.int x2), .val (.int x3), .val (.int x4), .val (.int (0 : Int32))] [(.int x0), (.int x2)]))
    refine g_icmp_ne X0 hx 18 12 (hb hby d7_9) (by decide) rfl rfl (fun h9 => ?_) (fun h9 => ?_)
    · show Go p e below s _ _ _ (T0.setTop (mkF m 12 #[.val (.int x0), .val (.int x1), .val (.int x2), .val (.int x3), .val (.int x4), .val (.int (0 : Int32))] []))
      refine g_iload X0 hx 14 (hb hby d7_12) rfl rfl ?_
      show Go p e below s _ _ _ (T0.setTop (mkF m 14 #[.val (.int x0), .val (.int x1), .val (.int x2), .val (.int x3), .val (.int x4), .val (.int (0 : Int32))] [(.int (0 : Int32))]))
      refine g_iconst X0 hx (1 : Int32) 15 (hb hby d7_14) rfl rfl ?_
      show Go p e below s _ _ _ (T0.setTop (mkF m 15 #[.val (.int x0), .val (.int x1), .val (.int x2), .val (.int x3), .val (.int x4), .val (.int (0 : Int32))] [(.int (1 : Int32)), (.int (0 : Int32))]))
      refine g_iadd X0 hx 16 (hb hby d7_15) rfl ?_
      show Go p e below s _ _ _ (T0.setTop (mkF m 16 #[.val (.int x0), .val (.int x1), .val (.int x2), .val (.int x3), .val (.int x4), .val (.int (0 : Int32))] [(.int ((0 : Int32) + (1 : Int32)))]))
      refine g_istore X0 hx #[.val (.int x0), .val (.int x1), .val (.int x2), .val (.int x3), .val (.int x4), .val (.int ((0 : Int32) + (1 : Int32)))] 18 (hb hby d7_16) rfl rfl ?_
      show Go p e below s _ _ _ (T0.setTop (mkF m 18 #[.val (.int x0), .val (.int x1), .val (.int x2), .val (.int x3), .val (.int x4), .val (.int ((0 : Int32) + (1 : Int32)))] []))
      have q1 := J1
      simp only [z7_18_l5_1, if_pos h8, if_pos h9] at q1
      exact q1
    · show Go p e below s _ _ _ (T0.setTop (mkF m 18 #[.val (.int x0), .val (.int x1), .val (.int x2), .val (.int x3), .val (.int x4), .val (.int (0 : Int32))] []))
      have q1 := J1
      simp only [z7_18_l5_1, if_pos h8, if_neg h9] at q1
      exact q1
  · show Go p e below s _ _ _ (T0.setTop (mkF m 18 #[.val (.int x0), .val (.int x1), .val (.int x2), .val (.int x3), .val (.int x4), .val (.int (0 : Int32))] []))
    have q1 := J1
    simp only [z7_18_l5_1, if_neg h8] at q1
    exact q1
theorem pd__28IIIII_29I : parseMethodDescriptor "(IIIII)I" = some ⟨[.int, .int, .int, .int, .int], some .int⟩ := by decide +kernel
theorem pd__28I_29J : parseMethodDescriptor "(I)J" = some ⟨[.int], some .long⟩ := by decide +kernel
theorem pd__28I_29I : parseMethodDescriptor "(I)I" = some ⟨[.int], some .int⟩ := by decide +kernel
theorem d6_0 : decode method_5_code 0 = .ok (.iload_n 1, 1) := by decide +kernel
theorem d6_1 : decode method_5_code 1 = .ok (.iload_n 2, 1) := by decide +kernel
theorem d6_2 : decode method_5_code 2 = .ok (.iload_n 3, 1) := by decide +kernel
theorem d6_3 : decode method_5_code 3 = .ok (.iload 4, 2) := by decide +kernel
theorem d6_5 : decode method_5_code 5 = .ok (.iload 5, 2) := by decide +kernel
theorem d6_7 : decode method_5_code 7 = .ok (.invokestatic 29, 3) := by decide +kernel
theorem d6_10 : decode method_5_code 10 = .ok (.istore 7, 2) := by decide +kernel
theorem d6_12 : decode method_5_code 12 = .ok (.aload_n 0, 1) := by decide +kernel
theorem d6_13 : decode method_5_code 13 = .ok (.iload_n 1, 1) := by decide +kernel
theorem d6_14 : decode method_5_code 14 = .ok (.invokevirtual 33, 3) := by decide +kernel
theorem d6_17 : decode method_5_code 17 = .ok (.iload 6, 2) := by decide +kernel
theorem d6_19 : decode method_5_code 19 = .ok (.i2l, 1) := by decide +kernel
theorem d6_20 : decode method_5_code 20 = .ok (.iload 7, 2) := by decide +kernel
theorem d6_22 : decode method_5_code 22 = .ok (.i2l, 1) := by decide +kernel
theorem d6_23 : decode method_5_code 23 = .ok (.lmul, 1) := by decide +kernel
theorem d6_24 : decode method_5_code 24 = .ok (.lcmp, 1) := by decide +kernel
theorem d6_25 : decode method_5_code 25 = .ok (.ifCond .ne 17, 3) := by decide +kernel
theorem d6_28 : decode method_5_code 28 = .ok (.aload_n 0, 1) := by decide +kernel
theorem d6_29 : decode method_5_code 29 = .ok (.iload_n 1, 1) := by decide +kernel
theorem d6_30 : decode method_5_code 30 = .ok (.invokevirtual 37, 3) := by decide +kernel
theorem d6_33 : decode method_5_code 33 = .ok (.iload 7, 2) := by decide +kernel
theorem d6_35 : decode method_5_code 35 = .ok (.if_icmp .ne 7, 3) := by decide +kernel
theorem d6_38 : decode method_5_code 38 = .ok (.iconst 1, 1) := by decide +kernel
theorem d6_39 : decode method_5_code 39 = .ok (.goto 4, 3) := by decide +kernel
theorem d6_42 : decode method_5_code 42 = .ok (.iconst 0, 1) := by decide +kernel
theorem d6_43 : decode method_5_code 43 = .ok (.ireturn, 1) := by decide +kernel
theorem ef_6 (m : MethodId) (x0 : Addr) (x1 : Int32) (x2 : Int32) (x3 : Int32) (x4 : Int32) (x5 : Int32) (x6 : Int32) : entryFrame m #[(.ref x0), (.int x1), (.int x2), (.int x3), (.int x4), (.int x5), (.int x6)] 8 = mkF m 0 #[.val (.ref x0), .val (.int x1), .val (.int x2), .val (.int x3), .val (.int x4), .val (.int x5), .val (.int x6), .unset] [] := by first | (simp [entryFrame, mkF, argsToLocals, Value.category]; done) | rfl
def v6_c (x1 : Int32) (x2 : Int32) (x3 : Int32) (x4 : Int32) (x5 : Int32) : Int32 := (f7 x1 x2 x3 x4 x5)
def f6 (x1 : Int32) (x2 : Int32) (x3 : Int32) (x4 : Int32) (x5 : Int32) (x6 : Int32) (W : Nat → Int64) (P : Nat → Int32) (jn : Nat) : Int32 := if (W jn) = ((x6.toInt64) * ((v6_c x1 x2 x3 x4 x5).toInt64)) then (if (P jn) = (v6_c x1 x2 x3 x4 x5) then (1 : Int32) else (0 : Int32)) else (0 : Int32)
def Q6 (Z : State) (x0 : Addr) (x1 : Int32) (x2 : Int32) (x3 : Int32) (x4 : Int32) (x5 : Int32) (x6 : Int32) (a1 : Addr) (a2 : Addr) (mm : Nat) (W : Nat → Int64) (P : Nat → Int32) (jn : Nat) (h0 : Heap) (v : Option Value) (h : Heap) (L : List Loc) : Prop := v = some (.int (f6 x1 x2 x3 x4 x5 x6 W P jn)) ∧ L = [] ∧ h = h0
set_option maxRecDepth 65536 in
set_option maxHeartbeats 40000000 in
theorem rm6 (l : Launch) (Z : State) (a0 : Array Value) (hw : ∀ d ∈ tables_1, d.before a0 Z = true) (ws : List Jvm.Cond) (x0 : Addr) (x1 : Int32) (x2 : Int32) (x3 : Int32) (x4 : Int32) (x5 : Int32) (x6 : Int32) (a1 : Addr) (a2 : Addr) (mm : Nat) (W : Nat → Int64) (P : Nat → Int32) (jn : Nat) (h0 : Heap) (P0 : Exa Z h0 x0 "com/example/contiguity/contiguity/planning/FibreLoads") (P1 : Fld Z h0 x0 "com/example/contiguity/contiguity/planning/FibreLoads" "width" "[J" (.ref a1)) (P2 : Fld Z h0 x0 "com/example/contiguity/contiguity/planning/FibreLoads" "paths" "[I" (.ref a2)) (P3 : AJ Z h0 a1 mm W) (P4 : AI Z h0 a2 mm P) (hj : x1.toInt = jn) (hl : jn < mm) :
    MetFree l (⟨"com/example/contiguity/contiguity/planning/FibreLoadsRemovePinLaw", "holds", "(Lcom/example/contiguity/contiguity/planning/FibreLoads;IIIIII)Z"⟩ : MethodName) (head1 (Jvm.Cond.code (⟨"com/example/contiguity/contiguity/planning/FibreLoadsRemovePinLaw", "holds", "(Lcom/example/contiguity/contiguity/planning/FibreLoads;IIIIII)Z"⟩ : MethodName) method_5_code 8 (some .boolean) :: ws) ({ frames := 1, cells := 0, slots := 0, locals := 17 } : Room)) (fun a U => a = #[(.ref x0), (.int x1), (.int x2), (.int x3), (.int x4), (.int x5), (.int x6)] ∧ Z.Warmed39 U.vm ∧ U.heap = h0) (fun _ _ _ _ _ => True) (fun _ U o U' => ∃ v L, o = .returned v ∧ Q6 Z x0 x1 x2 x3 x4 x5 x6 a1 a2 mm W P jn h0 v U'.heap L ∧ FrameEnd U o U' L ({ frames := 1, cells := 0, slots := 0, locals := 17 } : Room).cells ({ frames := 1, cells := 0, slots := 0, locals := 17 } : Room).slots) := by
  refine g_body (plainFor_of_name pn_1) ?_
  intro p e s m below meth c T0 X0 hx hby hml hret hlk hown hnm hZ e0
  rw [ef_6]
  show Go p e below s _ _ _ (T0.setTop (mkF m 0 #[.val (.ref x0), .val (.int x1), .val (.int x2), .val (.int x3), .val (.int x4), .val (.int x5), .val (.int x6), .unset] []))
  refine g_iloadN X0 hx 1 (hb hby d6_0) rfl rfl ?_
  show Go p e below s _ _ _ (T0.setTop (mkF m 1 #[.val (.ref x0), .val (.int x1), .val (.int x2), .val (.int x3), .val (.int x4), .val (.int x5), .val (.int x6), .unset] [(.int x1)]))
  refine g_iloadN X0 hx 2 (hb hby d6_1) rfl rfl ?_
  show Go p e below s _ _ _ (T0.setTop (mkF m 2 #[.val (.ref x0), .val (.int x1), .val (.int x2), .val (.int x3), .val (.int x4), .val (.int x5), .val (.int x6), .unset] [(.int x2), (.int x1)]))
  refine g_iloadN X0 hx 3 (hb hby d6_2) rfl rfl ?_
  show Go p e below s _ _ _ (T0.setTop (mkF m 3 #[.val (.ref x0), .val (.int x1), .val (.int x2), .val (.int x3), .val (.int x4), .val (.int x5), .val (.int x6), .unset] [(.int x3), (.int x2), (.int x1)]))
  refine g_iload X0 hx 5 (hb hby d6_3) rfl rfl ?_
  show Go p e below s _ _ _ (T0.setTop (mkF m 5 #[.val (.ref x0), .val (.int x1), .val (.int x2), .val (.int x3), .val (.int x4), .val (.int x5), .val (.int x6), .unset] [(.int x4), (.int x3), (.int x2), (.int x1)]))
  refine g_iload X0 hx 7 (hb hby d6_5) rfl rfl ?_
  show Go p e below s _ _ _ (T0.setTop (mkF m 7 #[.val (.ref x0), .val (.int x1), .val (.int x2), .val (.int x3), .val (.int x4), .val (.int x5), .val (.int x6), .unset] [(.int x5), (.int x4), (.int x3), (.int x2), (.int x1)]))
  refine g_callS X0 hx hZ hown (hw _ (List.mem_of_getElem? (i := 32) rfl)) (hw _ (List.mem_of_getElem? (i := 33) rfl)) (hw _ (List.mem_of_getElem? (i := 2) rfl)) (hw _ (List.mem_of_getElem? (i := 34) rfl)) (by decide) e0 (rm7 l Z a0 hw [] x1 x2 x3 x4 x5 h0) [(.int x1), (.int x2), (.int x3), (.int x4), (.int x5)] [] 0 rfl (lenOf pd__28IIIII_29I rfl) rfl (Nat.le_of_eq rfl) (by decide) (by decide) (by decide) (by decide) (by rw [hml]; rfl) (hb hby d6_7) ?_
  intro T1 L1 v1 X1 q1
  obtain ⟨rfl, rfl, e1⟩ := q1
  show Go p e below s _ _ _ (T1.setTop (mkF m 10 #[.val (.ref x0), .val (.int x1), .val (.int x2), .val (.int x3), .val (.int x4), .val (.int x5), .val (.int x6), .unset] [(.int (f7 x1 x2 x3 x4 x5))]))
  refine g_istore X1 hx #[.val (.ref x0), .val (.int x1), .val (.int x2), .val (.int x3), .val (.int x4), .val (.int x5), .val (.int x6), .val (.int (v6_c x1 x2 x3 x4 x5))] 12 (hb hby d6_10) rfl rfl ?_
  show Go p e below s _ _ _ (T1.setTop (mkF m 12 #[.val (.ref x0), .val (.int x1), .val (.int x2), .val (.int x3), .val (.int x4), .val (.int x5), .val (.int x6), .val (.int (v6_c x1 x2 x3 x4 x5))] []))
  refine g_aloadN X1 hx 13 (hb hby d6_12) rfl rfl rfl ?_
  show Go p e below s _ _ _ (T1.setTop (mkF m 13 #[.val (.ref x0), .val (.int x1), .val (.int x2), .val (.int x3), .val (.int x4), .val (.int x5), .val (.int x6), .val (.int (v6_c x1 x2 x3 x4 x5))] [(.ref x0)]))
  refine g_iloadN X1 hx 14 (hb hby d6_13) rfl rfl ?_
  show Go p e below s _ _ _ (T1.setTop (mkF m 14 #[.val (.ref x0), .val (.int x1), .val (.int x2), .val (.int x3), .val (.int x4), .val (.int x5), .val (.int x6), .val (.int (v6_c x1 x2 x3 x4 x5))] [(.int x1), (.ref x0)]))
  refine g_callV X1 hx hZ hown (hw _ (List.mem_of_getElem? (i := 35) rfl)) (hw _ (List.mem_of_getElem? (i := 36) rfl)) (hw _ (List.mem_of_getElem? (i := 38) rfl)) (hw _ (List.mem_of_getElem? (i := 37) rfl)) (hw _ (List.mem_of_getElem? (i := 7) rfl)) (hw _ (List.mem_of_getElem? (i := 39) rfl)) (by decide) e1 x0 P0 (rm8 l Z a0 hw [] x0 x1 a1 mm W jn h0 P1 P3 (hj : x1.toInt = jn) (hl : jn < mm)) [(.int x1)] [] 0 rfl (lenOf pd__28I_29J rfl) rfl (Nat.le_of_eq rfl) (by decide) (by decide) (by decide) (by decide) (by rw [hml]; rfl) (hb hby d6_14) ?_
  intro T2 L2 v2 X2 q2
  obtain ⟨rfl, rfl, e2⟩ := q2
  show Go p e below s _ _ _ (T2.setTop (mkF m 17 #[.val (.ref x0), .val (.int x1), .val (.int x2), .val (.int x3), .val (.int x4), .val (.int x5), .val (.int x6), .val (.int (v6_c x1 x2 x3 x4 x5))] [(.long (W jn))]))
  refine g_iload X2 hx 19 (hb hby d6_17) rfl rfl ?_
  show Go p e below s _ _ _ (T2.setTop (mkF m 19 #[.val (.ref x0), .val (.int x1), .val (.int x2), .val (.int x3), .val (.int x4), .val (.int x5), .val (.int x6), .val (.int (v6_c x1 x2 x3 x4 x5))] [(.int x6), (.long (W jn))]))
  refine g_i2l X2 hx 20 (hb hby d6_19) rfl ?_
  show Go p e below s _ _ _ (T2.setTop (mkF m 20 #[.val (.ref x0), .val (.int x1), .val (.int x2), .val (.int x3), .val (.int x4), .val (.int x5), .val (.int x6), .val (.int (v6_c x1 x2 x3 x4 x5))] [(.long (x6.toInt64)), (.long (W jn))]))
  refine g_iload X2 hx 22 (hb hby d6_20) rfl rfl ?_
  show Go p e below s _ _ _ (T2.setTop (mkF m 22 #[.val (.ref x0), .val (.int x1), .val (.int x2), .val (.int x3), .val (.int x4), .val (.int x5), .val (.int x6), .val (.int (v6_c x1 x2 x3 x4 x5))] [(.int (v6_c x1 x2 x3 x4 x5)), (.long (x6.toInt64)), (.long (W jn))]))
  refine g_i2l X2 hx 23 (hb hby d6_22) rfl ?_
  show Go p e below s _ _ _ (T2.setTop (mkF m 23 #[.val (.ref x0), .val (.int x1), .val (.int x2), .val (.int x3), .val (.int x4), .val (.int x5), .val (.int x6), .val (.int (v6_c x1 x2 x3 x4 x5))] [(.long ((v6_c x1 x2 x3 x4 x5).toInt64)), (.long (x6.toInt64)), (.long (W jn))]))
  refine g_lmul X2 hx 24 (hb hby d6_23) rfl ?_
  show Go p e below s _ _ _ (T2.setTop (mkF m 24 #[.val (.ref x0), .val (.int x1), .val (.int x2), .val (.int x3), .val (.int x4), .val (.int x5), .val (.int x6), .val (.int (v6_c x1 x2 x3 x4 x5))] [(.long ((x6.toInt64) * ((v6_c x1 x2 x3 x4 x5).toInt64))), (.long (W jn))]))
  refine g_lcmp X2 hx 25 (hb hby d6_24) rfl ?_
  show Go p e below s _ _ _ (T2.setTop (mkF m 25 #[.val (.ref x0), .val (.int x1), .val (.int x2), .val (.int x3), .val (.int x4), .val (.int x5), .val (.int x6), .val (.int (v6_c x1 x2 x3 x4 x5))] [(.int (lcmpW (W jn) ((x6.toInt64) * ((v6_c x1 x2 x3 x4 x5).toInt64))))]))
  refine g_lc_ne X2 hx 42 28 (hb hby d6_25) (by decide) rfl rfl (fun h3 => ?_) (fun h3 => ?_)
  · show Go p e below s _ _ _ (T2.setTop (mkF m 28 #[.val (.ref x0), .val (.int x1), .val (.int x2), .val (.int x3), .val (.int x4), .val (.int x5), .val (.int x6), .val (.int (v6_c x1 x2 x3 x4 x5))] []))
    refine g_aloadN X2 hx 29 (hb hby d6_28) rfl rfl rfl ?_
    show Go p e below s _ _ _ (T2.setTop (mkF m 29 #[.val (.ref x0), .val (.int x1), .val (.int x2), .val (.int x3), .val (.int x4), .val (.int x5), .val (.int x6), .val (.int (v6_c x1 x2 x3 x4 x5))] [(.ref x0)]))
    refine g_iloadN X2 hx 30 (hb hby d6_29) rfl rfl ?_
    show Go p e below s _ _ _ (T2.setTop (mkF m 30 #[.val (.ref x0), .val (.int x1), .val (.int x2), .val (.int x3), .val (.int x4), .val (.int x5), .val (.int x6), .val (.int (v6_c x1 x2 x3 x4 x5))] [(.int x1), (.ref x0)]))
    refine g_callV X2 hx hZ hown (hw _ (List.mem_of_getElem? (i := 40) rfl)) (hw _ (List.mem_of_getElem? (i := 41) rfl)) (hw _ (List.mem_of_getElem? (i := 43) rfl)) (hw _ (List.mem_of_getElem? (i := 42) rfl)) (hw _ (List.mem_of_getElem? (i := 7) rfl)) (hw _ (List.mem_of_getElem? (i := 44) rfl)) (by decide) e2 x0 P0 (rm9 l Z a0 hw [] x0 x1 a2 mm P jn h0 P2 P4 (hj : x1.toInt = jn) (hl : jn < mm)) [(.int x1)] [] 0 rfl (lenOf pd__28I_29I rfl) rfl (Nat.le_of_eq rfl) (by decide) (by decide) (by decide) (by decide) (by rw [hml]; rfl) (hb hby d6_30) ?_
    intro T4 L4 v4 X4 q4
    obtain ⟨rfl, rfl, e4⟩ := q4
    show Go p e below s _ _ _ (T4.setTop (mkF m 33 #[.val (.ref x0), .val (.int x1), .val (.int x2), .val (.int x3), .val (.int x4), .val (.int x5), .val (.int x6), .val (.int (v6_c x1 x2 x3 x4 x5))] [(.int (P jn))]))
    refine g_iload X4 hx 35 (hb hby d6_33) rfl rfl ?_
    show Go p e below s _ _ _ (T4.setTop (mkF m 35 #[.val (.ref x0), .val (.int x1), .val (.int x2), .val (.int x3), .val (.int x4), .val (.int x5), .val (.int x6), .val (.int (v6_c x1 x2 x3 x4 x5))] [(.int (v6_c x1 x2 x3 x4 x5)), (.int (P jn))]))
    refine g_icmp_ne X4 hx 42 38 (hb hby d6_35) (by decide) rfl rfl (fun h5 => ?_) (fun h5 => ?_)
    · show Go p e below s _ _ _ (T4.setTop (mkF m 38 #[.val (.ref x0), .val (.int x1), .val (.int x2), .val (.int x3), .val (.int x4), .val (.int x5), .val (.int x6), .val (.int (v6_c x1 x2 x3 x4 x5))] []))
      refine g_iconst X4 hx (1 : Int32) 39 (hb hby d6_38) rfl rfl ?_
      show Go p e below s _ _ _ (T4.setTop (mkF m 39 #[.val (.ref x0), .val (.int x1), .val (.int x2), .val (.int x3), .val (.int x4), .val (.int x5), .val (.int x6), .val (.int (v6_c x1 x2 x3 x4 x5))] [(.int (1 : Int32))]))
      refine g_goto X4 hx 43 (hb hby d6_39) (by decide) rfl ?_
      show Go p e below s _ _ _ (T4.setTop (mkF m 43 #[.val (.ref x0), .val (.int x1), .val (.int x2), .val (.int x3), .val (.int x4), .val (.int x5), .val (.int x6), .val (.int (v6_c x1 x2 x3 x4 x5))] [(.int (1 : Int32))]))
      exact g_retN X4 hx hret (by simp) hlk (hb hby d6_43) (by decide) (by decide) ⟨congrArg (fun z => some (Value.int z)) (show (1 : Int32) = (f6 x1 x2 x3 x4 x5 x6 W P jn) from by rw [f6, if_pos h3, if_pos h5]), rfl, e4⟩
    · show Go p e below s _ _ _ (T4.setTop (mkF m 42 #[.val (.ref x0), .val (.int x1), .val (.int x2), .val (.int x3), .val (.int x4), .val (.int x5), .val (.int x6), .val (.int (v6_c x1 x2 x3 x4 x5))] []))
      refine g_iconst X4 hx (0 : Int32) 43 (hb hby d6_42) rfl rfl ?_
      show Go p e below s _ _ _ (T4.setTop (mkF m 43 #[.val (.ref x0), .val (.int x1), .val (.int x2), .val (.int x3), .val (.int x4), .val (.int x5), .val (.int x6), .val (.int (v6_c x1 x2 x3 x4 x5))] [(.int (0 : Int32))]))
      exact g_retN X4 hx hret (by simp) hlk (hb hby d6_43) (by decide) (by decide) ⟨congrArg (fun z => some (Value.int z)) (show (0 : Int32) = (f6 x1 x2 x3 x4 x5 x6 W P jn) from by rw [f6, if_pos h3, if_neg h5]), rfl, e4⟩
  · show Go p e below s _ _ _ (T2.setTop (mkF m 42 #[.val (.ref x0), .val (.int x1), .val (.int x2), .val (.int x3), .val (.int x4), .val (.int x5), .val (.int x6), .val (.int (v6_c x1 x2 x3 x4 x5))] []))
    refine g_iconst X2 hx (0 : Int32) 43 (hb hby d6_42) rfl rfl ?_
    show Go p e below s _ _ _ (T2.setTop (mkF m 43 #[.val (.ref x0), .val (.int x1), .val (.int x2), .val (.int x3), .val (.int x4), .val (.int x5), .val (.int x6), .val (.int (v6_c x1 x2 x3 x4 x5))] [(.int (0 : Int32))]))
    exact g_retN X2 hx hret (by simp) hlk (hb hby d6_43) (by decide) (by decide) ⟨congrArg (fun z => some (Value.int z)) (show (0 : Int32) = (f6 x1 x2 x3 x4 x5 x6 W P jn) from by rw [f6, if_neg h3]), rfl, e2⟩
/-- how many of the k places from i on are q -/
def own_cn (fn : Nat → Nat) (q : Nat) : Nat → Nat → Nat
  | 0, _ => 0
  | k + 1, i => own_cn fn q k (i + 1) + (if fn i = q then 1 else 0)
theorem own_aw_at (fn : Nat → Nat) (w : Int64) (q : Nat) : ∀ (k i : Nat) (W : Nat → Int64), own_aw fn w k i W q = W q + Int64.ofNat (own_cn fn q k i) * w
  | 0, i, W => by show W q = W q + Int64.ofNat 0 * w; rw [show Int64.ofNat 0 = 0 from rfl, Int64.zero_mul, Int64.add_zero]
  | k + 1, i, W => by
    show own_aw fn w k (i + 1) (upd W (fn i) (W (fn i) + w)) q = W q + Int64.ofNat (own_cn fn q k (i + 1) + (if fn i = q then 1 else 0)) * w
    rw [own_aw_at fn w q k (i + 1), Int64.ofNat_add, Int64.add_mul]
    by_cases h : fn i = q
    · subst h
      simp only [upd, if_true, show Int64.ofNat 1 = 1 from rfl, Int64.one_mul]
      rw [Int64.add_assoc, Int64.add_comm w]
    · simp only [upd, if_neg h, if_neg (Ne.symm h), show Int64.ofNat 0 = 0 from rfl, Int64.zero_mul, Int64.add_zero]
theorem own_ap_at (fn : Nat → Nat) (d : Int32) (q : Nat) : ∀ (k i : Nat) (P : Nat → Int32), own_ap fn d k i P q = P q + Int32.ofNat (own_cn fn q k i) * d
  | 0, i, P => by show P q = P q + Int32.ofNat 0 * d; rw [show Int32.ofNat 0 = 0 from rfl, Int32.zero_mul, Int32.add_zero]
  | k + 1, i, P => by
    show own_ap fn d k (i + 1) (upd P (fn i) (P (fn i) + d)) q = P q + Int32.ofNat (own_cn fn q k (i + 1) + (if fn i = q then 1 else 0)) * d
    rw [own_ap_at fn d q k (i + 1), Int32.ofNat_add, Int32.add_mul]
    by_cases h : fn i = q
    · subst h
      simp only [upd, if_true, show Int32.ofNat 1 = 1 from rfl, Int32.one_mul]
      rw [Int32.add_assoc, Int32.add_comm d]
    · simp only [upd, if_neg h, if_neg (Ne.symm h), show Int32.ofNat 0 = 0 from rfl, Int32.zero_mul, Int32.add_zero]
/-- the places of the path that path() makes, as numbers -/
def own_fn (n fa fb fc : Int32) : Nat → Nat := fun j => (g1_bb n fa fb fc j).toInt.toNat
def own_3 (x : Int32) : Prop := 0 ≤ x.toInt ∧ x.toInt < 3
def own_4 (x : Int32) : Prop := x = 0 ∨ x = 1 ∨ x = 2 ∨ x = 3
theorem own_hf {n fa fb fc : Int32} (hn : own_4 n) (ha : own_3 fa) (hb : own_3 fb) (hc : own_3 fc) : ∀ j, j < n1_bb n → (g1_bb n fa fb fc j).toInt = own_fn n fa fb fc j ∧ own_fn n fa fb fc j < 3 := by
  intro j hj
  have key : 0 ≤ (g1_bb n fa fb fc j).toInt ∧ (g1_bb n fa fb fc j).toInt < 3 := by
    rcases hn with rfl | rfl | rfl | rfl
    · exact absurd hj (Nat.not_lt_zero j)
    · obtain rfl : j = 0 := by have : j < 1 := hj; omega
      exact ha
    · have : j < 2 := hj
      rcases (by omega : j = 0 ∨ j = 1) with rfl | rfl
      · exact ha
      · exact hb
    · have : j < 3 := hj
      rcases (by omega : j = 0 ∨ j = 1 ∨ j = 2) with rfl | rfl | rfl
      · exact ha
      · exact hb
      · exact hc
  show _ = ((g1_bb n fa fb fc j).toInt.toNat : Int) ∧ (g1_bb n fa fb fc j).toInt.toNat < 3
  omega
theorem own_is {x q : Int32} {qn : Nat} (hx : own_3 x) (hq : q.toInt = qn) : (x.toInt.toNat = qn) ↔ x = q := by
  obtain ⟨h1, h2⟩ := hx
  constructor
  · intro h; exact Int32.toInt_inj.mp (by omega)
  · intro h; rw [h, hq]; rfl

theorem own_sw_eq (fn : Nat → Nat) (w : Int64) : ∀ (k i : Nat) (W : Nat → Int64), own_sw fn w k i W = own_aw fn (-w) k i W
  | 0, i, W => rfl
  | k + 1, i, W => by
    show own_sw fn w k (i + 1) (upd W (fn i) (W (fn i) - w)) = own_aw fn (-w) k (i + 1) (upd W (fn i) (W (fn i) + -w))
    rw [own_sw_eq fn w k (i + 1), Int64.sub_eq_add_neg]
theorem own_sp_eq (fn : Nat → Nat) (d : Int32) : ∀ (k i : Nat) (P : Nat → Int32), own_sp fn d k i P = own_ap fn (-d) k i P
  | 0, i, P => rfl
  | k + 1, i, P => by
    show own_sp fn d k (i + 1) (upd P (fn i) (P (fn i) - d)) = own_ap fn (-d) k (i + 1) (upd P (fn i) (P (fn i) + -d))
    rw [own_sp_eq fn d k (i + 1), Int32.sub_eq_add_neg]
theorem own_count {n fa fb fc q : Int32} {qn : Nat} (hn : own_4 n) (ha : own_3 fa) (hb : own_3 fb) (hc : own_3 fc) (hq : q.toInt = qn) : f7 q n fa fb fc = Int32.ofNat (own_cn (own_fn n fa fb fc) qn (n1_bb n) 0) ∧ own_cn (own_fn n fa fb fc) qn (n1_bb n) 0 < 4 := by
  have ia := own_is ha hq
  have ib := own_is hb hq
  have ic := own_is hc hq
  unfold f7 z7_51_l5_3 z7_34_l5_2 z7_18_l5_1
  rcases hn with rfl | rfl | rfl | rfl
  · exact ⟨rfl, (show (0 : Nat) < 4 from by decide)⟩
  · have e : own_cn (own_fn 1 fa fb fc) qn (n1_bb 1) 0 = 0 + (if fa.toInt.toNat = qn then 1 else 0) := rfl
    rw [e]; simp only [ia]
    by_cases p : fa = q <;> simp [p] <;> decide
  · have e : own_cn (own_fn 2 fa fb fc) qn (n1_bb 2) 0 = 0 + (if fb.toInt.toNat = qn then 1 else 0) + (if fa.toInt.toNat = qn then 1 else 0) := rfl
    rw [e]; simp only [ia, ib]
    by_cases p : fa = q <;> by_cases p2 : fb = q <;> simp [p, p2] <;> decide
  · have e : own_cn (own_fn 3 fa fb fc) qn (n1_bb 3) 0 = 0 + (if fc.toInt.toNat = qn then 1 else 0) + (if fb.toInt.toNat = qn then 1 else 0) + (if fa.toInt.toNat = qn then 1 else 0) := rfl
    rw [e]; simp only [ia, ib, ic]
    by_cases p : fa = q <;> by_cases p2 : fb = q <;> by_cases p3 : fc = q <;> simp [p, p2, p3] <;> decide
/-- the loads at the end: the other path added; the path added, then taken away -/
def own_W (ff fg : Nat → Nat) (nf ng : Nat) (a w : Int32) : Nat → Int64 := own_sw ff w.toInt64 nf 0 (own_aw ff w.toInt64 nf 0 (own_aw fg a.toInt64 ng 0 (fun _ => (0 : Int64))))
def own_P (ff fg : Nat → Nat) (nf ng : Nat) : Nat → Int32 := own_sp ff (1 : Int32) nf 0 (own_ap ff (1 : Int32) nf 0 (own_ap fg (1 : Int32) ng 0 (fun _ => (0 : Int32))))
theorem own_chk (q : Int32) (qn : Nat) (hq : q.toInt = qn) (h3 : qn < 3) (ff : Nat → Nat) (a w : Int32) (nf : Nat) (n fa fb fc : Int32) (hn : own_4 n) (ha : own_3 fa) (hb : own_3 fb) (hc : own_3 fc) : ¬ f6 q n fa fb fc a (own_W ff (own_fn n fa fb fc) nf (n1_bb n) a w) (own_P ff (own_fn n fa fb fc) nf (n1_bb n)) qn = 0 := by
  obtain ⟨hk, hk4⟩ := own_count hn ha hb hc hq
  have kw : (v6_c q n fa fb fc).toInt64 = Int64.ofNat (own_cn (own_fn n fa fb fc) qn (n1_bb n) 0) := by
    unfold v6_c; rw [hk]
    generalize own_cn (own_fn n fa fb fc) qn (n1_bb n) 0 = t at *
    rcases (by omega : t = 0 ∨ t = 1 ∨ t = 2 ∨ t = 3) with rfl | rfl | rfl | rfl <;> rfl
  have eW : own_W ff (own_fn n fa fb fc) nf (n1_bb n) a w qn = a.toInt64 * (v6_c q n fa fb fc).toInt64 := by
    unfold own_W
    rw [own_sw_eq, own_aw_at, own_aw_at, own_aw_at, kw, Int64.zero_add, Int64.mul_neg, Int64.add_assoc, Int64.add_right_neg, Int64.add_zero, Int64.mul_comm]
  have eP : own_P ff (own_fn n fa fb fc) nf (n1_bb n) qn = v6_c q n fa fb fc := by
    unfold own_P
    rw [own_sp_eq, own_ap_at, own_ap_at, own_ap_at, Int32.zero_add, Int32.mul_neg, Int32.add_assoc, Int32.add_right_neg, Int32.add_zero, Int32.mul_one]
    unfold v6_c; rw [hk]
  unfold f6
  rw [if_pos eW, if_pos eP]
  decide
theorem own_n4 (x : Int32) : own_4 (x &&& 3) := by
  have h : (x &&& 3).toInt = x.toInt % 4 := c_mask x 3 2 (by decide) (by decide)
  have e : ∀ n : Nat, n < 4 → (x &&& 3).toInt = n → x &&& 3 = Int32.ofNat n := fun n hn q => Int32.toInt_inj.mp (by rw [q, Int32.toInt_ofNat_of_lt (by omega)])
  rcases (by omega : (x &&& 3).toInt = 0 ∨ (x &&& 3).toInt = 1 ∨ (x &&& 3).toInt = 2 ∨ (x &&& 3).toInt = 3) with z | z | z | z
  · exact Or.inl (e 0 (by decide) z)
  · exact Or.inr (Or.inl (e 1 (by decide) z))
  · exact Or.inr (Or.inr (Or.inl (e 2 (by decide) z)))
  · exact Or.inr (Or.inr (Or.inr (e 3 (by decide) z)))
theorem own_m3 (x : Int32) : own_3 ((x &&& 255) % 3) := by
  have h : (x &&& 255).toInt = x.toInt % 256 := c_mask x 255 8 (by decide) (by decide)
  have r := (c_irem (x &&& 255) 3 3 rfl).1 (by omega)
  unfold own_3
  omega

theorem pd__28IIII_29_5bI : parseMethodDescriptor "(IIII)[I" = some ⟨[.int, .int, .int, .int], some (.array .int)⟩ := by decide +kernel
theorem pd__28I_29V : parseMethodDescriptor "(I)V" = some ⟨[.int], none⟩ := by decide +kernel
theorem pd__28_5bII_29V : parseMethodDescriptor "([II)V" = some ⟨[(.array .int), .int], none⟩ := by decide +kernel
theorem pd__28Lcom_2fexample_2fcontiguity_2fcontiguity_2fplanning_2fFibreLoads_3bIIIIII_29Z : parseMethodDescriptor "(Lcom/example/contiguity/contiguity/planning/FibreLoads;IIIIII)Z" = some ⟨[(.object "com/example/contiguity/contiguity/planning/FibreLoads"), .int, .int, .int, .int, .int, .int], some .boolean⟩ := by decide +kernel
theorem ef_0 (m : MethodId) (x0 : Int32) (x1 : Int32) (x2 : Int32) (x3 : Int32) : entryFrame m #[(.int x0), (.int x1), (.int x2), (.int x3)] maxLocals = mkF m 0 #[.val (.int x0), .val (.int x1), .val (.int x2), .val (.int x3), .unset, .unset, .unset, .unset, .unset, .unset, .unset, .unset, .unset, .unset, .unset] [] := by first | (simp [entryFrame, mkF, argsToLocals, Value.category, maxLocals]; done) | rfl
def v0_lf (x0 : Int32) : Int32 := (x0 &&& (3 : Int32))
def v0_f0 (x0 : Int32) : Int32 := (((ushrI x0 (2 : Int32)) &&& (255 : Int32)) % (3 : Int32))
def v0_f1 (x0 : Int32) : Int32 := (((ushrI x0 (10 : Int32)) &&& (255 : Int32)) % (3 : Int32))
def v0_f2 (x0 : Int32) : Int32 := (((ushrI x0 (18 : Int32)) &&& (255 : Int32)) % (3 : Int32))
def v0_lg (x1 : Int32) : Int32 := (x1 &&& (3 : Int32))
def v0_g0 (x1 : Int32) : Int32 := (((ushrI x1 (2 : Int32)) &&& (255 : Int32)) % (3 : Int32))
def v0_g1 (x1 : Int32) : Int32 := (((ushrI x1 (10 : Int32)) &&& (255 : Int32)) % (3 : Int32))
def v0_g2 (x1 : Int32) : Int32 := (((ushrI x1 (18 : Int32)) &&& (255 : Int32)) % (3 : Int32))
def Q0 (Z : State) (x0 : Int32) (x1 : Int32) (x2 : Int32) (x3 : Int32) (h0 : Heap) (n0 : Nat) (v : Option Value) (h : Heap) (L : List Loc) : Prop := v = some (.int (1 : Int32)) ∧ Fr n0 L
set_option maxRecDepth 65536 in
set_option maxHeartbeats 40000000 in
theorem rm0 (l : Launch) (Z : State) (a0 : Array Value) (hw : ∀ d ∈ tables_1, d.before a0 Z = true) (ws : List Jvm.Cond) (x0 : Int32) (x1 : Int32) (x2 : Int32) (x3 : Int32) (h0 : Heap) (n0 : Nat) (Z0 : n0 ≤ h0.size) :
    MetFree l x (head1 (Jvm.Cond.code x code maxLocals ret :: ws) room_1) (fun a U => a = #[(.int x0), (.int x1), (.int x2), (.int x3)] ∧ Z.Warmed39 U.vm ∧ U.heap = h0) (fun _ _ _ _ _ => True) (fun _ U o U' => ∃ v L, o = .returned v ∧ Q0 Z x0 x1 x2 x3 h0 n0 v U'.heap L ∧ FrameEnd U o U' L room_1.cells room_1.slots) := by
  refine g_body (plainFor_of_name pn_1) ?_
  intro p e s m below meth c T0 X0 hx hby hml hret hlk hown hnm hZ e0
  rw [ef_0]
  have N0 := Fr.nil n0
  show Go p e below s _ _ _ (T0.setTop (mkF m 0 #[.val (.int x0), .val (.int x1), .val (.int x2), .val (.int x3), .unset, .unset, .unset, .unset, .unset, .unset, .unset, .unset, .unset, .unset, .unset] []))
  refine g_iloadN X0 hx 1 (hb hby at_0) rfl rfl ?_
  show Go p e below s _ _ _ (T0.setTop (mkF m 1 #[.val (.int x0), .val (.int x1), .val (.int x2), .val (.int x3), .unset, .unset, .unset, .unset, .unset, .unset, .unset, .unset, .unset, .unset, .unset] [(.int x0)]))
  refine g_iconst X0 hx (3 : Int32) 2 (hb hby at_1) rfl rfl ?_
  show Go p e below s _ _ _ (T0.setTop (mkF m 2 #[.val (.int x0), .val (.int x1), .val (.int x2), .val (.int x3), .unset, .unset, .unset, .unset, .unset, .unset, .unset, .unset, .unset, .unset, .unset] [(.int (3 : Int32)), (.int x0)]))
  refine g_iand X0 hx 3 (hb hby at_2) rfl ?_
  show Go p e below s _ _ _ (T0.setTop (mkF m 3 #[.val (.int x0), .val (.int x1), .val (.int x2), .val (.int x3), .unset, .unset, .unset, .unset, .unset, .unset, .unset, .unset, .unset, .unset, .unset] [(.int (x0 &&& (3 : Int32)))]))
  refine g_istore X0 hx #[.val (.int x0), .val (.int x1), .val (.int x2), .val (.int x3), .val (.int (v0_lf x0)), .unset, .unset, .unset, .unset, .unset, .unset, .unset, .unset, .unset, .unset] 5 (hb hby at_3) rfl rfl ?_
  show Go p e below s _ _ _ (T0.setTop (mkF m 5 #[.val (.int x0), .val (.int x1), .val (.int x2), .val (.int x3), .val (.int (v0_lf x0)), .unset, .unset, .unset, .unset, .unset, .unset, .unset, .unset, .unset, .unset] []))
  refine g_iloadN X0 hx 6 (hb hby at_5) rfl rfl ?_
  show Go p e below s _ _ _ (T0.setTop (mkF m 6 #[.val (.int x0), .val (.int x1), .val (.int x2), .val (.int x3), .val (.int (v0_lf x0)), .unset, .unset, .unset, .unset, .unset, .unset, .unset, .unset, .unset, .unset] [(.int x0)]))
  refine g_iconst X0 hx (2 : Int32) 7 (hb hby at_6) rfl rfl ?_
  show Go p e below s _ _ _ (T0.setTop (mkF m 7 #[.val (.int x0), .val (.int x1), .val (.int x2), .val (.int x3), .val (.int (v0_lf x0)), .unset, .unset, .unset, .unset, .unset, .unset, .unset, .unset, .unset, .unset] [(.int (2 : Int32)), (.int x0)]))
  refine g_iushr X0 hx 8 (hb hby at_7) rfl ?_
  show Go p e below s _ _ _ (T0.setTop (mkF m 8 #[.val (.int x0), .val (.int x1), .val (.int x2), .val (.int x3), .val (.int (v0_lf x0)), .unset, .unset, .unset, .unset, .unset, .unset, .unset, .unset, .unset, .unset] [(.int (ushrI x0 (2 : Int32)))]))
  refine g_sipush X0 hx (255 : Int32) 11 (hb hby at_8) rfl rfl ?_
  show Go p e below s _ _ _ (T0.setTop (mkF m 11 #[.val (.int x0), .val (.int x1), .val (.int x2), .val (.int x3), .val (.int (v0_lf x0)), .unset, .unset, .unset, .unset, .unset, .unset, .unset, .unset, .unset, .unset] [(.int (255 : Int32)), (.int (ushrI x0 (2 : Int32)))]))
  refine g_iand X0 hx 12 (hb hby at_11) rfl ?_
  show Go p e below s _ _ _ (T0.setTop (mkF m 12 #[.val (.int x0), .val (.int x1), .val (.int x2), .val (.int x3), .val (.int (v0_lf x0)), .unset, .unset, .unset, .unset, .unset, .unset, .unset, .unset, .unset, .unset] [(.int ((ushrI x0 (2 : Int32)) &&& (255 : Int32)))]))
  refine g_iconst X0 hx (3 : Int32) 13 (hb hby at_12) rfl rfl ?_
  show Go p e below s _ _ _ (T0.setTop (mkF m 13 #[.val (.int x0), .val (.int x1), .val (.int x2), .val (.int x3), .val (.int (v0_lf x0)), .unset, .unset, .unset, .unset, .unset, .unset, .unset, .unset, .unset, .unset] [(.int (3 : Int32)), (.int ((ushrI x0 (2 : Int32)) &&& (255 : Int32)))]))
  refine g_irem X0 hx 14 (hb hby at_13) (by decide) rfl ?_
  show Go p e below s _ _ _ (T0.setTop (mkF m 14 #[.val (.int x0), .val (.int x1), .val (.int x2), .val (.int x3), .val (.int (v0_lf x0)), .unset, .unset, .unset, .unset, .unset, .unset, .unset, .unset, .unset, .unset] [(.int (((ushrI x0 (2 : Int32)) &&& (255 : Int32)) % (3 : Int32)))]))
  refine g_istore X0 hx #[.val (.int x0), .val (.int x1), .val (.int x2), .val (.int x3), .val (.int (v0_lf x0)), .val (.int (v0_f0 x0)), .unset, .unset, .unset, .unset, .unset, .unset, .unset, .unset, .unset] 16 (hb hby at_14) rfl rfl ?_
  show Go p e below s _ _ _ (T0.setTop (mkF m 16 #[.val (.int x0), .val (.int x1), .val (.int x2), .val (.int x3), .val (.int (v0_lf x0)), .val (.int (v0_f0 x0)), .unset, .unset, .unset, .unset, .unset, .unset, .unset, .unset, .unset] []))
  refine g_iloadN X0 hx 17 (hb hby at_16) rfl rfl ?_
  show Go p e below s _ _ _ (T0.setTop (mkF m 17 #[.val (.int x0), .val (.int x1), .val (.int x2), .val (.int x3), .val (.int (v0_lf x0)), .val (.int (v0_f0 x0)), .unset, .unset, .unset, .unset, .unset, .unset, .unset, .unset, .unset] [(.int x0)]))
  refine g_bipush X0 hx (10 : Int32) 19 (hb hby at_17) rfl rfl ?_
  show Go p e below s _ _ _ (T0.setTop (mkF m 19 #[.val (.int x0), .val (.int x1), .val (.int x2), .val (.int x3), .val (.int (v0_lf x0)), .val (.int (v0_f0 x0)), .unset, .unset, .unset, .unset, .unset, .unset, .unset, .unset, .unset] [(.int (10 : Int32)), (.int x0)]))
  refine g_iushr X0 hx 20 (hb hby at_19) rfl ?_
  show Go p e below s _ _ _ (T0.setTop (mkF m 20 #[.val (.int x0), .val (.int x1), .val (.int x2), .val (.int x3), .val (.int (v0_lf x0)), .val (.int (v0_f0 x0)), .unset, .unset, .unset, .unset, .unset, .unset, .unset, .unset, .unset] [(.int (ushrI x0 (10 : Int32)))]))
  refine g_sipush X0 hx (255 : Int32) 23 (hb hby at_20) rfl rfl ?_
  show Go p e below s _ _ _ (T0.setTop (mkF m 23 #[.val (.int x0), .val (.int x1), .val (.int x2), .val (.int x3), .val (.int (v0_lf x0)), .val (.int (v0_f0 x0)), .unset, .unset, .unset, .unset, .unset, .unset, .unset, .unset, .unset] [(.int (255 : Int32)), (.int (ushrI x0 (10 : Int32)))]))
  refine g_iand X0 hx 24 (hb hby at_23) rfl ?_
  show Go p e below s _ _ _ (T0.setTop (mkF m 24 #[.val (.int x0), .val (.int x1), .val (.int x2), .val (.int x3), .val (.int (v0_lf x0)), .val (.int (v0_f0 x0)), .unset, .unset, .unset, .unset, .unset, .unset, .unset, .unset, .unset] [(.int ((ushrI x0 (10 : Int32)) &&& (255 : Int32)))]))
  refine g_iconst X0 hx (3 : Int32) 25 (hb hby at_24) rfl rfl ?_
  show Go p e below s _ _ _ (T0.setTop (mkF m 25 #[.val (.int x0), .val (.int x1), .val (.int x2), .val (.int x3), .val (.int (v0_lf x0)), .val (.int (v0_f0 x0)), .unset, .unset, .unset, .unset, .unset, .unset, .unset, .unset, .unset] [(.int (3 : Int32)), (.int ((ushrI x0 (10 : Int32)) &&& (255 : Int32)))]))
  refine g_irem X0 hx 26 (hb hby at_25) (by decide) rfl ?_
  show Go p e below s _ _ _ (T0.setTop (mkF m 26 #[.val (.int x0), .val (.int x1), .val (.int x2), .val (.int x3), .val (.int (v0_lf x0)), .val (.int (v0_f0 x0)), .unset, .unset, .unset, .unset, .unset, .unset, .unset, .unset, .unset] [(.int (((ushrI x0 (10 : Int32)) &&& (255 : Int32)) % (3 : Int32)))]))
  refine g_istore X0 hx #[.val (.int x0), .val (.int x1), .val (.int x2), .val (.int x3), .val (.int (v0_lf x0)), .val (.int (v0_f0 x0)), .val (.int (v0_f1 x0)), .unset, .unset, .unset, .unset, .unset, .unset, .unset, .unset] 28 (hb hby at_26) rfl rfl ?_
  show Go p e below s _ _ _ (T0.setTop (mkF m 28 #[.val (.int x0), .val (.int x1), .val (.int x2), .val (.int x3), .val (.int (v0_lf x0)), .val (.int (v0_f0 x0)), .val (.int (v0_f1 x0)), .unset, .unset, .unset, .unset, .unset, .unset, .unset, .unset] []))
  refine g_iloadN X0 hx 29 (hb hby at_28) rfl rfl ?_
  show Go p e below s _ _ _ (T0.setTop (mkF m 29 #[.val (.int x0), .val (.int x1), .val (.int x2), .val (.int x3), .val (.int (v0_lf x0)), .val (.int (v0_f0 x0)), .val (.int (v0_f1 x0)), .unset, .unset, .unset, .unset, .unset, .unset, .unset, .unset] [(.int x0)]))
  refine g_bipush X0 hx (18 : Int32) 31 (hb hby at_29) rfl rfl ?_
  show Go p e below s _ _ _ (T0.setTop (mkF m 31 #[.val (.int x0), .val (.int x1), .val (.int x2), .val (.int x3), .val (.int (v0_lf x0)), .val (.int (v0_f0 x0)), .val (.int (v0_f1 x0)), .unset, .unset, .unset, .unset, .unset, .unset, .unset, .unset] [(.int (18 : Int32)), (.int x0)]))
  refine g_iushr X0 hx 32 (hb hby at_31) rfl ?_
  show Go p e below s _ _ _ (T0.setTop (mkF m 32 #[.val (.int x0), .val (.int x1), .val (.int x2), .val (.int x3), .val (.int (v0_lf x0)), .val (.int (v0_f0 x0)), .val (.int (v0_f1 x0)), .unset, .unset, .unset, .unset, .unset, .unset, .unset, .unset] [(.int (ushrI x0 (18 : Int32)))]))
  refine g_sipush X0 hx (255 : Int32) 35 (hb hby at_32) rfl rfl ?_
  show Go p e below s _ _ _ (T0.setTop (mkF m 35 #[.val (.int x0), .val (.int x1), .val (.int x2), .val (.int x3), .val (.int (v0_lf x0)), .val (.int (v0_f0 x0)), .val (.int (v0_f1 x0)), .unset, .unset, .unset, .unset, .unset, .unset, .unset, .unset] [(.int (255 : Int32)), (.int (ushrI x0 (18 : Int32)))]))
  refine g_iand X0 hx 36 (hb hby at_35) rfl ?_
  show Go p e below s _ _ _ (T0.setTop (mkF m 36 #[.val (.int x0), .val (.int x1), .val (.int x2), .val (.int x3), .val (.int (v0_lf x0)), .val (.int (v0_f0 x0)), .val (.int (v0_f1 x0)), .unset, .unset, .unset, .unset, .unset, .unset, .unset, .unset] [(.int ((ushrI x0 (18 : Int32)) &&& (255 : Int32)))]))
  refine g_iconst X0 hx (3 : Int32) 37 (hb hby at_36) rfl rfl ?_
  show Go p e below s _ _ _ (T0.setTop (mkF m 37 #[.val (.int x0), .val (.int x1), .val (.int x2), .val (.int x3), .val (.int (v0_lf x0)), .val (.int (v0_f0 x0)), .val (.int (v0_f1 x0)), .unset, .unset, .unset, .unset, .unset, .unset, .unset, .unset] [(.int (3 : Int32)), (.int ((ushrI x0 (18 : Int32)) &&& (255 : Int32)))]))
  refine g_irem X0 hx 38 (hb hby at_37) (by decide) rfl ?_
  show Go p e below s _ _ _ (T0.setTop (mkF m 38 #[.val (.int x0), .val (.int x1), .val (.int x2), .val (.int x3), .val (.int (v0_lf x0)), .val (.int (v0_f0 x0)), .val (.int (v0_f1 x0)), .unset, .unset, .unset, .unset, .unset, .unset, .unset, .unset] [(.int (((ushrI x0 (18 : Int32)) &&& (255 : Int32)) % (3 : Int32)))]))
  refine g_istore X0 hx #[.val (.int x0), .val (.int x1), .val (.int x2), .val (.int x3), .val (.int (v0_lf x0)), .val (.int (v0_f0 x0)), .val (.int (v0_f1 x0)), .val (.int (v0_f2 x0)), .unset, .unset, .unset, .unset, .unset, .unset, .unset] 40 (hb hby at_38) rfl rfl ?_
  show Go p e below s _ _ _ (T0.setTop (mkF m 40 #[.val (.int x0), .val (.int x1), .val (.int x2), .val (.int x3), .val (.int (v0_lf x0)), .val (.int (v0_f0 x0)), .val (.int (v0_f1 x0)), .val (.int (v0_f2 x0)), .unset, .unset, .unset, .unset, .unset, .unset, .unset] []))
  refine g_iloadN X0 hx 41 (hb hby at_40) rfl rfl ?_
  show Go p e below s _ _ _ (T0.setTop (mkF m 41 #[.val (.int x0), .val (.int x1), .val (.int x2), .val (.int x3), .val (.int (v0_lf x0)), .val (.int (v0_f0 x0)), .val (.int (v0_f1 x0)), .val (.int (v0_f2 x0)), .unset, .unset, .unset, .unset, .unset, .unset, .unset] [(.int x1)]))
  refine g_iconst X0 hx (3 : Int32) 42 (hb hby at_41) rfl rfl ?_
  show Go p e below s _ _ _ (T0.setTop (mkF m 42 #[.val (.int x0), .val (.int x1), .val (.int x2), .val (.int x3), .val (.int (v0_lf x0)), .val (.int (v0_f0 x0)), .val (.int (v0_f1 x0)), .val (.int (v0_f2 x0)), .unset, .unset, .unset, .unset, .unset, .unset, .unset] [(.int (3 : Int32)), (.int x1)]))
  refine g_iand X0 hx 43 (hb hby at_42) rfl ?_
  show Go p e below s _ _ _ (T0.setTop (mkF m 43 #[.val (.int x0), .val (.int x1), .val (.int x2), .val (.int x3), .val (.int (v0_lf x0)), .val (.int (v0_f0 x0)), .val (.int (v0_f1 x0)), .val (.int (v0_f2 x0)), .unset, .unset, .unset, .unset, .unset, .unset, .unset] [(.int (x1 &&& (3 : Int32)))]))
  refine g_istore X0 hx #[.val (.int x0), .val (.int x1), .val (.int x2), .val (.int x3), .val (.int (v0_lf x0)), .val (.int (v0_f0 x0)), .val (.int (v0_f1 x0)), .val (.int (v0_f2 x0)), .val (.int (v0_lg x1)), .unset, .unset, .unset, .unset, .unset, .unset] 45 (hb hby at_43) rfl rfl ?_
  show Go p e below s _ _ _ (T0.setTop (mkF m 45 #[.val (.int x0), .val (.int x1), .val (.int x2), .val (.int x3), .val (.int (v0_lf x0)), .val (.int (v0_f0 x0)), .val (.int (v0_f1 x0)), .val (.int (v0_f2 x0)), .val (.int (v0_lg x1)), .unset, .unset, .unset, .unset, .unset, .unset] []))
  refine g_iloadN X0 hx 46 (hb hby at_45) rfl rfl ?_
  show Go p e below s _ _ _ (T0.setTop (mkF m 46 #[.val (.int x0), .val (.int x1), .val (.int x2), .val (.int x3), .val (.int (v0_lf x0)), .val (.int (v0_f0 x0)), .val (.int (v0_f1 x0)), .val (.int (v0_f2 x0)), .val (.int (v0_lg x1)), .unset, .unset, .unset, .unset, .unset, .unset] [(.int x1)]))
  refine g_iconst X0 hx (2 : Int32) 47 (hb hby at_46) rfl rfl ?_
  show Go p e below s _ _ _ (T0.setTop (mkF m 47 #[.val (.int x0), .val (.int x1), .val (.int x2), .val (.int x3), .val (.int (v0_lf x0)), .val (.int (v0_f0 x0)), .val (.int (v0_f1 x0)), .val (.int (v0_f2 x0)), .val (.int (v0_lg x1)), .unset, .unset, .unset, .unset, .unset, .unset] [(.int (2 : Int32)), (.int x1)]))
  refine g_iushr X0 hx 48 (hb hby at_47) rfl ?_
  show Go p e below s _ _ _ (T0.setTop (mkF m 48 #[.val (.int x0), .val (.int x1), .val (.int x2), .val (.int x3), .val (.int (v0_lf x0)), .val (.int (v0_f0 x0)), .val (.int (v0_f1 x0)), .val (.int (v0_f2 x0)), .val (.int (v0_lg x1)), .unset, .unset, .unset, .unset, .unset, .unset] [(.int (ushrI x1 (2 : Int32)))]))
  refine g_sipush X0 hx (255 : Int32) 51 (hb hby at_48) rfl rfl ?_
  show Go p e below s _ _ _ (T0.setTop (mkF m 51 #[.val (.int x0), .val (.int x1), .val (.int x2), .val (.int x3), .val (.int (v0_lf x0)), .val (.int (v0_f0 x0)), .val (.int (v0_f1 x0)), .val (.int (v0_f2 x0)), .val (.int (v0_lg x1)), .unset, .unset, .unset, .unset, .unset, .unset] [(.int (255 : Int32)), (.int (ushrI x1 (2 : Int32)))]))
  refine g_iand X0 hx 52 (hb hby at_51) rfl ?_
  show Go p e below s _ _ _ (T0.setTop (mkF m 52 #[.val (.int x0), .val (.int x1), .val (.int x2), .val (.int x3), .val (.int (v0_lf x0)), .val (.int (v0_f0 x0)), .val (.int (v0_f1 x0)), .val (.int (v0_f2 x0)), .val (.int (v0_lg x1)), .unset, .unset, .unset, .unset, .unset, .unset] [(.int ((ushrI x1 (2 : Int32)) &&& (255 : Int32)))]))
  refine g_iconst X0 hx (3 : Int32) 53 (hb hby at_52) rfl rfl ?_
  show Go p e below s _ _ _ (T0.setTop (mkF m 53 #[.val (.int x0), .val (.int x1), .val (.int x2), .val (.int x3), .val (.int (v0_lf x0)), .val (.int (v0_f0 x0)), .val (.int (v0_f1 x0)), .val (.int (v0_f2 x0)), .val (.int (v0_lg x1)), .unset, .unset, .unset, .unset, .unset, .unset] [(.int (3 : Int32)), (.int ((ushrI x1 (2 : Int32)) &&& (255 : Int32)))]))
  refine g_irem X0 hx 54 (hb hby at_53) (by decide) rfl ?_
  show Go p e below s _ _ _ (T0.setTop (mkF m 54 #[.val (.int x0), .val (.int x1), .val (.int x2), .val (.int x3), .val (.int (v0_lf x0)), .val (.int (v0_f0 x0)), .val (.int (v0_f1 x0)), .val (.int (v0_f2 x0)), .val (.int (v0_lg x1)), .unset, .unset, .unset, .unset, .unset, .unset] [(.int (((ushrI x1 (2 : Int32)) &&& (255 : Int32)) % (3 : Int32)))]))
  refine g_istore X0 hx #[.val (.int x0), .val (.int x1), .val (.int x2), .val (.int x3), .val (.int (v0_lf x0)), .val (.int (v0_f0 x0)), .val (.int (v0_f1 x0)), .val (.int (v0_f2 x0)), .val (.int (v0_lg x1)), .val (.int (v0_g0 x1)), .unset, .unset, .unset, .unset, .unset] 56 (hb hby at_54) rfl rfl ?_
  show Go p e below s _ _ _ (T0.setTop (mkF m 56 #[.val (.int x0), .val (.int x1), .val (.int x2), .val (.int x3), .val (.int (v0_lf x0)), .val (.int (v0_f0 x0)), .val (.int (v0_f1 x0)), .val (.int (v0_f2 x0)), .val (.int (v0_lg x1)), .val (.int (v0_g0 x1)), .unset, .unset, .unset, .unset, .unset] []))
  refine g_iloadN X0 hx 57 (hb hby at_56) rfl rfl ?_
  show Go p e below s _ _ _ (T0.setTop (mkF m 57 #[.val (.int x0), .val (.int x1), .val (.int x2), .val (.int x3), .val (.int (v0_lf x0)), .val (.int (v0_f0 x0)), .val (.int (v0_f1 x0)), .val (.int (v0_f2 x0)), .val (.int (v0_lg x1)), .val (.int (v0_g0 x1)), .unset, .unset, .unset, .unset, .unset] [(.int x1)]))
  refine g_bipush X0 hx (10 : Int32) 59 (hb hby at_57) rfl rfl ?_
  show Go p e below s _ _ _ (T0.setTop (mkF m 59 #[.val (.int x0), .val (.int x1), .val (.int x2), .val (.int x3), .val (.int (v0_lf x0)), .val (.int (v0_f0 x0)), .val (.int (v0_f1 x0)), .val (.int (v0_f2 x0)), .val (.int (v0_lg x1)), .val (.int (v0_g0 x1)), .unset, .unset, .unset, .unset, .unset] [(.int (10 : Int32)), (.int x1)]))
  refine g_iushr X0 hx 60 (hb hby at_59) rfl ?_
  show Go p e below s _ _ _ (T0.setTop (mkF m 60 #[.val (.int x0), .val (.int x1), .val (.int x2), .val (.int x3), .val (.int (v0_lf x0)), .val (.int (v0_f0 x0)), .val (.int (v0_f1 x0)), .val (.int (v0_f2 x0)), .val (.int (v0_lg x1)), .val (.int (v0_g0 x1)), .unset, .unset, .unset, .unset, .unset] [(.int (ushrI x1 (10 : Int32)))]))
  refine g_sipush X0 hx (255 : Int32) 63 (hb hby at_60) rfl rfl ?_
  show Go p e below s _ _ _ (T0.setTop (mkF m 63 #[.val (.int x0), .val (.int x1), .val (.int x2), .val (.int x3), .val (.int (v0_lf x0)), .val (.int (v0_f0 x0)), .val (.int (v0_f1 x0)), .val (.int (v0_f2 x0)), .val (.int (v0_lg x1)), .val (.int (v0_g0 x1)), .unset, .unset, .unset, .unset, .unset] [(.int (255 : Int32)), (.int (ushrI x1 (10 : Int32)))]))
  refine g_iand X0 hx 64 (hb hby at_63) rfl ?_
  show Go p e below s _ _ _ (T0.setTop (mkF m 64 #[.val (.int x0), .val (.int x1), .val (.int x2), .val (.int x3), .val (.int (v0_lf x0)), .val (.int (v0_f0 x0)), .val (.int (v0_f1 x0)), .val (.int (v0_f2 x0)), .val (.int (v0_lg x1)), .val (.int (v0_g0 x1)), .unset, .unset, .unset, .unset, .unset] [(.int ((ushrI x1 (10 : Int32)) &&& (255 : Int32)))]))
  refine g_iconst X0 hx (3 : Int32) 65 (hb hby at_64) rfl rfl ?_
  show Go p e below s _ _ _ (T0.setTop (mkF m 65 #[.val (.int x0), .val (.int x1), .val (.int x2), .val (.int x3), .val (.int (v0_lf x0)), .val (.int (v0_f0 x0)), .val (.int (v0_f1 x0)), .val (.int (v0_f2 x0)), .val (.int (v0_lg x1)), .val (.int (v0_g0 x1)), .unset, .unset, .unset, .unset, .unset] [(.int (3 : Int32)), (.int ((ushrI x1 (10 : Int32)) &&& (255 : Int32)))]))
  refine g_irem X0 hx 66 (hb hby at_65) (by decide) rfl ?_
  show Go p e below s _ _ _ (T0.setTop (mkF m 66 #[.val (.int x0), .val (.int x1), .val (.int x2), .val (.int x3), .val (.int (v0_lf x0)), .val (.int (v0_f0 x0)), .val (.int (v0_f1 x0)), .val (.int (v0_f2 x0)), .val (.int (v0_lg x1)), .val (.int (v0_g0 x1)), .unset, .unset, .unset, .unset, .unset] [(.int (((ushrI x1 (10 : Int32)) &&& (255 : Int32)) % (3 : Int32)))]))
  refine g_istore X0 hx #[.val (.int x0), .val (.int x1), .val (.int x2), .val (.int x3), .val (.int (v0_lf x0)), .val (.int (v0_f0 x0)), .val (.int (v0_f1 x0)), .val (.int (v0_f2 x0)), .val (.int (v0_lg x1)), .val (.int (v0_g0 x1)), .val (.int (v0_g1 x1)), .unset, .unset, .unset, .unset] 68 (hb hby at_66) rfl rfl ?_
  show Go p e below s _ _ _ (T0.setTop (mkF m 68 #[.val (.int x0), .val (.int x1), .val (.int x2), .val (.int x3), .val (.int (v0_lf x0)), .val (.int (v0_f0 x0)), .val (.int (v0_f1 x0)), .val (.int (v0_f2 x0)), .val (.int (v0_lg x1)), .val (.int (v0_g0 x1)), .val (.int (v0_g1 x1)), .unset, .unset, .unset, .unset] []))
  refine g_iloadN X0 hx 69 (hb hby at_68) rfl rfl ?_
  show Go p e below s _ _ _ (T0.setTop (mkF m 69 #[.val (.int x0), .val (.int x1), .val (.int x2), .val (.int x3), .val (.int (v0_lf x0)), .val (.int (v0_f0 x0)), .val (.int (v0_f1 x0)), .val (.int (v0_f2 x0)), .val (.int (v0_lg x1)), .val (.int (v0_g0 x1)), .val (.int (v0_g1 x1)), .unset, .unset, .unset, .unset] [(.int x1)]))
  refine g_bipush X0 hx (18 : Int32) 71 (hb hby at_69) rfl rfl ?_
  show Go p e below s _ _ _ (T0.setTop (mkF m 71 #[.val (.int x0), .val (.int x1), .val (.int x2), .val (.int x3), .val (.int (v0_lf x0)), .val (.int (v0_f0 x0)), .val (.int (v0_f1 x0)), .val (.int (v0_f2 x0)), .val (.int (v0_lg x1)), .val (.int (v0_g0 x1)), .val (.int (v0_g1 x1)), .unset, .unset, .unset, .unset] [(.int (18 : Int32)), (.int x1)]))
  refine g_iushr X0 hx 72 (hb hby at_71) rfl ?_
  show Go p e below s _ _ _ (T0.setTop (mkF m 72 #[.val (.int x0), .val (.int x1), .val (.int x2), .val (.int x3), .val (.int (v0_lf x0)), .val (.int (v0_f0 x0)), .val (.int (v0_f1 x0)), .val (.int (v0_f2 x0)), .val (.int (v0_lg x1)), .val (.int (v0_g0 x1)), .val (.int (v0_g1 x1)), .unset, .unset, .unset, .unset] [(.int (ushrI x1 (18 : Int32)))]))
  refine g_sipush X0 hx (255 : Int32) 75 (hb hby at_72) rfl rfl ?_
  show Go p e below s _ _ _ (T0.setTop (mkF m 75 #[.val (.int x0), .val (.int x1), .val (.int x2), .val (.int x3), .val (.int (v0_lf x0)), .val (.int (v0_f0 x0)), .val (.int (v0_f1 x0)), .val (.int (v0_f2 x0)), .val (.int (v0_lg x1)), .val (.int (v0_g0 x1)), .val (.int (v0_g1 x1)), .unset, .unset, .unset, .unset] [(.int (255 : Int32)), (.int (ushrI x1 (18 : Int32)))]))
  refine g_iand X0 hx 76 (hb hby at_75) rfl ?_
  show Go p e below s _ _ _ (T0.setTop (mkF m 76 #[.val (.int x0), .val (.int x1), .val (.int x2), .val (.int x3), .val (.int (v0_lf x0)), .val (.int (v0_f0 x0)), .val (.int (v0_f1 x0)), .val (.int (v0_f2 x0)), .val (.int (v0_lg x1)), .val (.int (v0_g0 x1)), .val (.int (v0_g1 x1)), .unset, .unset, .unset, .unset] [(.int ((ushrI x1 (18 : Int32)) &&& (255 : Int32)))]))
  refine g_iconst X0 hx (3 : Int32) 77 (hb hby at_76) rfl rfl ?_
  show Go p e below s _ _ _ (T0.setTop (mkF m 77 #[.val (.int x0), .val (.int x1), .val (.int x2), .val (.int x3), .val (.int (v0_lf x0)), .val (.int (v0_f0 x0)), .val (.int (v0_f1 x0)), .val (.int (v0_f2 x0)), .val (.int (v0_lg x1)), .val (.int (v0_g0 x1)), .val (.int (v0_g1 x1)), .unset, .unset, .unset, .unset] [(.int (3 : Int32)), (.int ((ushrI x1 (18 : Int32)) &&& (255 : Int32)))]))
  refine g_irem X0 hx 78 (hb hby at_77) (by decide) rfl ?_
  show Go p e below s _ _ _ (T0.setTop (mkF m 78 #[.val (.int x0), .val (.int x1), .val (.int x2), .val (.int x3), .val (.int (v0_lf x0)), .val (.int (v0_f0 x0)), .val (.int (v0_f1 x0)), .val (.int (v0_f2 x0)), .val (.int (v0_lg x1)), .val (.int (v0_g0 x1)), .val (.int (v0_g1 x1)), .unset, .unset, .unset, .unset] [(.int (((ushrI x1 (18 : Int32)) &&& (255 : Int32)) % (3 : Int32)))]))
  refine g_istore X0 hx #[.val (.int x0), .val (.int x1), .val (.int x2), .val (.int x3), .val (.int (v0_lf x0)), .val (.int (v0_f0 x0)), .val (.int (v0_f1 x0)), .val (.int (v0_f2 x0)), .val (.int (v0_lg x1)), .val (.int (v0_g0 x1)), .val (.int (v0_g1 x1)), .val (.int (v0_g2 x1)), .unset, .unset, .unset] 80 (hb hby at_78) rfl rfl ?_
  show Go p e below s _ _ _ (T0.setTop (mkF m 80 #[.val (.int x0), .val (.int x1), .val (.int x2), .val (.int x3), .val (.int (v0_lf x0)), .val (.int (v0_f0 x0)), .val (.int (v0_f1 x0)), .val (.int (v0_f2 x0)), .val (.int (v0_lg x1)), .val (.int (v0_g0 x1)), .val (.int (v0_g1 x1)), .val (.int (v0_g2 x1)), .unset, .unset, .unset] []))
  refine g_iload X0 hx 82 (hb hby at_80) rfl rfl ?_
  show Go p e below s _ _ _ (T0.setTop (mkF m 82 #[.val (.int x0), .val (.int x1), .val (.int x2), .val (.int x3), .val (.int (v0_lf x0)), .val (.int (v0_f0 x0)), .val (.int (v0_f1 x0)), .val (.int (v0_f2 x0)), .val (.int (v0_lg x1)), .val (.int (v0_g0 x1)), .val (.int (v0_g1 x1)), .val (.int (v0_g2 x1)), .unset, .unset, .unset] [(.int (v0_lf x0))]))
  refine g_iload X0 hx 84 (hb hby at_82) rfl rfl ?_
  show Go p e below s _ _ _ (T0.setTop (mkF m 84 #[.val (.int x0), .val (.int x1), .val (.int x2), .val (.int x3), .val (.int (v0_lf x0)), .val (.int (v0_f0 x0)), .val (.int (v0_f1 x0)), .val (.int (v0_f2 x0)), .val (.int (v0_lg x1)), .val (.int (v0_g0 x1)), .val (.int (v0_g1 x1)), .val (.int (v0_g2 x1)), .unset, .unset, .unset] [(.int (v0_f0 x0)), (.int (v0_lf x0))]))
  refine g_iload X0 hx 86 (hb hby at_84) rfl rfl ?_
  show Go p e below s _ _ _ (T0.setTop (mkF m 86 #[.val (.int x0), .val (.int x1), .val (.int x2), .val (.int x3), .val (.int (v0_lf x0)), .val (.int (v0_f0 x0)), .val (.int (v0_f1 x0)), .val (.int (v0_f2 x0)), .val (.int (v0_lg x1)), .val (.int (v0_g0 x1)), .val (.int (v0_g1 x1)), .val (.int (v0_g2 x1)), .unset, .unset, .unset] [(.int (v0_f1 x0)), (.int (v0_f0 x0)), (.int (v0_lf x0))]))
  refine g_iload X0 hx 88 (hb hby at_86) rfl rfl ?_
  show Go p e below s _ _ _ (T0.setTop (mkF m 88 #[.val (.int x0), .val (.int x1), .val (.int x2), .val (.int x3), .val (.int (v0_lf x0)), .val (.int (v0_f0 x0)), .val (.int (v0_f1 x0)), .val (.int (v0_f2 x0)), .val (.int (v0_lg x1)), .val (.int (v0_g0 x1)), .val (.int (v0_g1 x1)), .val (.int (v0_g2 x1)), .unset, .unset, .unset] [(.int (v0_f2 x0)), (.int (v0_f1 x0)), (.int (v0_f0 x0)), (.int (v0_lf x0))]))
  refine g_callS X0 hx hZ hown (hw _ (List.mem_of_getElem? (i := 0) rfl)) (hw _ (List.mem_of_getElem? (i := 1) rfl)) (hw _ (List.mem_of_getElem? (i := 2) rfl)) (hw _ (List.mem_of_getElem? (i := 3) rfl)) (by decide) e0 (rm1 l Z a0 hw [] (v0_lf x0) (v0_f0 x0) (v0_f1 x0) (v0_f2 x0) h0 n0 Z0) [(.int (v0_lf x0)), (.int (v0_f0 x0)), (.int (v0_f1 x0)), (.int (v0_f2 x0))] [] 0 rfl (lenOf pd__28IIII_29_5bI rfl) rfl (Nat.le_of_eq rfl) (by decide) (by decide) (by decide) (by decide) (by rw [hml]; rfl) (hb hby at_88) ?_
  intro T1 L1 v1 X1 q1
  obtain ⟨b1_0, rfl, N1, K1, sz1_0, p1_0⟩ := q1
  have NN1 := Fr.app N0 N1
  have N_b1_0 : n0 ≤ b1_0 := Nat.le_trans Z0 sz1_0
  have Z1 : n0 ≤ T1.heap.size := Nat.le_trans Z0 K1.1
  show Go p e below s _ _ _ (T1.setTop (mkF m 91 #[.val (.int x0), .val (.int x1), .val (.int x2), .val (.int x3), .val (.int (v0_lf x0)), .val (.int (v0_f0 x0)), .val (.int (v0_f1 x0)), .val (.int (v0_f2 x0)), .val (.int (v0_lg x1)), .val (.int (v0_g0 x1)), .val (.int (v0_g1 x1)), .val (.int (v0_g2 x1)), .unset, .unset, .unset] [(.ref b1_0)]))
  refine g_astore X1 hx #[.val (.int x0), .val (.int x1), .val (.int x2), .val (.int x3), .val (.int (v0_lf x0)), .val (.int (v0_f0 x0)), .val (.int (v0_f1 x0)), .val (.int (v0_f2 x0)), .val (.int (v0_lg x1)), .val (.int (v0_g0 x1)), .val (.int (v0_g1 x1)), .val (.int (v0_g2 x1)), .val (.ref b1_0), .unset, .unset] 93 (hb hby at_91) rfl rfl rfl ?_
  show Go p e below s _ _ _ (T1.setTop (mkF m 93 #[.val (.int x0), .val (.int x1), .val (.int x2), .val (.int x3), .val (.int (v0_lf x0)), .val (.int (v0_f0 x0)), .val (.int (v0_f1 x0)), .val (.int (v0_f2 x0)), .val (.int (v0_lg x1)), .val (.int (v0_g0 x1)), .val (.int (v0_g1 x1)), .val (.int (v0_g2 x1)), .val (.ref b1_0), .unset, .unset] []))
  refine g_iload X1 hx 95 (hb hby at_93) rfl rfl ?_
  show Go p e below s _ _ _ (T1.setTop (mkF m 95 #[.val (.int x0), .val (.int x1), .val (.int x2), .val (.int x3), .val (.int (v0_lf x0)), .val (.int (v0_f0 x0)), .val (.int (v0_f1 x0)), .val (.int (v0_f2 x0)), .val (.int (v0_lg x1)), .val (.int (v0_g0 x1)), .val (.int (v0_g1 x1)), .val (.int (v0_g2 x1)), .val (.ref b1_0), .unset, .unset] [(.int (v0_lg x1))]))
  refine g_iload X1 hx 97 (hb hby at_95) rfl rfl ?_
  show Go p e below s _ _ _ (T1.setTop (mkF m 97 #[.val (.int x0), .val (.int x1), .val (.int x2), .val (.int x3), .val (.int (v0_lf x0)), .val (.int (v0_f0 x0)), .val (.int (v0_f1 x0)), .val (.int (v0_f2 x0)), .val (.int (v0_lg x1)), .val (.int (v0_g0 x1)), .val (.int (v0_g1 x1)), .val (.int (v0_g2 x1)), .val (.ref b1_0), .unset, .unset] [(.int (v0_g0 x1)), (.int (v0_lg x1))]))
  refine g_iload X1 hx 99 (hb hby at_97) rfl rfl ?_
  show Go p e below s _ _ _ (T1.setTop (mkF m 99 #[.val (.int x0), .val (.int x1), .val (.int x2), .val (.int x3), .val (.int (v0_lf x0)), .val (.int (v0_f0 x0)), .val (.int (v0_f1 x0)), .val (.int (v0_f2 x0)), .val (.int (v0_lg x1)), .val (.int (v0_g0 x1)), .val (.int (v0_g1 x1)), .val (.int (v0_g2 x1)), .val (.ref b1_0), .unset, .unset] [(.int (v0_g1 x1)), (.int (v0_g0 x1)), (.int (v0_lg x1))]))
  refine g_iload X1 hx 101 (hb hby at_99) rfl rfl ?_
  show Go p e below s _ _ _ (T1.setTop (mkF m 101 #[.val (.int x0), .val (.int x1), .val (.int x2), .val (.int x3), .val (.int (v0_lf x0)), .val (.int (v0_f0 x0)), .val (.int (v0_f1 x0)), .val (.int (v0_f2 x0)), .val (.int (v0_lg x1)), .val (.int (v0_g0 x1)), .val (.int (v0_g1 x1)), .val (.int (v0_g2 x1)), .val (.ref b1_0), .unset, .unset] [(.int (v0_g2 x1)), (.int (v0_g1 x1)), (.int (v0_g0 x1)), (.int (v0_lg x1))]))
  refine g_callS X1 hx hZ hown (hw _ (List.mem_of_getElem? (i := 0) rfl)) (hw _ (List.mem_of_getElem? (i := 1) rfl)) (hw _ (List.mem_of_getElem? (i := 2) rfl)) (hw _ (List.mem_of_getElem? (i := 3) rfl)) (by decide) rfl (rm1 l Z a0 hw [] (v0_lg x1) (v0_g0 x1) (v0_g1 x1) (v0_g2 x1) T1.heap n0 Z1) [(.int (v0_lg x1)), (.int (v0_g0 x1)), (.int (v0_g1 x1)), (.int (v0_g2 x1))] [] 0 rfl (lenOf pd__28IIII_29_5bI rfl) rfl (Nat.le_of_eq rfl) (by decide) (by decide) (by decide) (by decide) (by rw [hml]; rfl) (hb hby at_101) ?_
  intro T2 L2 v2 X2 q2
  obtain ⟨b2_0, rfl, N2, K2, sz2_0, p2_0⟩ := q2
  have NN2 := Fr.app NN1 N2
  have N_b2_0 : n0 ≤ b2_0 := Nat.le_trans Z1 sz2_0
  have ne_b1_0_b2_0 : b1_0 ≠ b2_0 := Nat.ne_of_lt (Nat.lt_of_lt_of_le p1_0.lt sz2_0)
  have k2_1 := p1_0.keep K2 nm0
  have Z2 : n0 ≤ T2.heap.size := Nat.le_trans Z1 K2.1
  show Go p e below s _ _ _ (T2.setTop (mkF m 104 #[.val (.int x0), .val (.int x1), .val (.int x2), .val (.int x3), .val (.int (v0_lf x0)), .val (.int (v0_f0 x0)), .val (.int (v0_f1 x0)), .val (.int (v0_f2 x0)), .val (.int (v0_lg x1)), .val (.int (v0_g0 x1)), .val (.int (v0_g1 x1)), .val (.int (v0_g2 x1)), .val (.ref b1_0), .unset, .unset] [(.ref b2_0)]))
  refine g_astore X2 hx #[.val (.int x0), .val (.int x1), .val (.int x2), .val (.int x3), .val (.int (v0_lf x0)), .val (.int (v0_f0 x0)), .val (.int (v0_f1 x0)), .val (.int (v0_f2 x0)), .val (.int (v0_lg x1)), .val (.int (v0_g0 x1)), .val (.int (v0_g1 x1)), .val (.int (v0_g2 x1)), .val (.ref b1_0), .val (.ref b2_0), .unset] 106 (hb hby at_104) rfl rfl rfl ?_
  show Go p e below s _ _ _ (T2.setTop (mkF m 106 #[.val (.int x0), .val (.int x1), .val (.int x2), .val (.int x3), .val (.int (v0_lf x0)), .val (.int (v0_f0 x0)), .val (.int (v0_f1 x0)), .val (.int (v0_f2 x0)), .val (.int (v0_lg x1)), .val (.int (v0_g0 x1)), .val (.int (v0_g1 x1)), .val (.int (v0_g2 x1)), .val (.ref b1_0), .val (.ref b2_0), .unset] []))
  refine g_new X2 hx hZ hown (hw _ (List.mem_of_getElem? (i := 5) rfl)) (hw _ (List.mem_of_getElem? (i := 6) rfl)) (hw _ (List.mem_of_getElem? (i := 7) rfl)) rfl 109 (hb hby at_106) (by decide) (by decide) rfl ?_
  intro T3 h3 b3 g3 X3 e3 E3 A3 D3
  have N_b3 : n0 ≤ b3 := Nat.le_trans Z2 (Nat.le_of_eq g3.symm)
  have ne_b1_0_b3 : b1_0 ≠ b3 := Nat.ne_of_lt (Nat.lt_of_lt_of_le k2_1.lt (Nat.le_of_eq g3.symm))
  have ne_b2_0_b3 : b2_0 ≠ b3 := Nat.ne_of_lt (Nat.lt_of_lt_of_le p2_0.lt (Nat.le_of_eq g3.symm))
  have k3_1 := k2_1.ext E3
  have k3_4 := p2_0.ext E3
  have Z3 : n0 ≤ h3.size := Nat.le_trans Z2 E3.1
  have F3_width : Fld Z h3 b3 "com/example/contiguity/contiguity/planning/FibreLoads" "width" "[J" .null := D3 (Or.inr (hw _ (List.mem_of_getElem? (i := 16) rfl))) (ty := (.array .long)) (by decide)
  have F3_paths : Fld Z h3 b3 "com/example/contiguity/contiguity/planning/FibreLoads" "paths" "[I" .null := D3 (Or.inr (hw _ (List.mem_of_getElem? (i := 18) rfl))) (ty := (.array .int)) (by decide)
  show Go p e below s _ _ _ (T3.setTop (mkF m 109 #[.val (.int x0), .val (.int x1), .val (.int x2), .val (.int x3), .val (.int (v0_lf x0)), .val (.int (v0_f0 x0)), .val (.int (v0_f1 x0)), .val (.int (v0_f2 x0)), .val (.int (v0_lg x1)), .val (.int (v0_g0 x1)), .val (.int (v0_g1 x1)), .val (.int (v0_g2 x1)), .val (.ref b1_0), .val (.ref b2_0), .unset] [(.ref b3)]))
  refine g_dup X3 hx 110 (hb hby at_109) rfl rfl ?_
  show Go p e below s _ _ _ (T3.setTop (mkF m 110 #[.val (.int x0), .val (.int x1), .val (.int x2), .val (.int x3), .val (.int (v0_lf x0)), .val (.int (v0_f0 x0)), .val (.int (v0_f1 x0)), .val (.int (v0_f2 x0)), .val (.int (v0_lg x1)), .val (.int (v0_g0 x1)), .val (.int (v0_g1 x1)), .val (.int (v0_g2 x1)), .val (.ref b1_0), .val (.ref b2_0), .unset] [(.ref b3), (.ref b3)]))
  refine g_iconst X3 hx (3 : Int32) 111 (hb hby at_110) rfl rfl ?_
  show Go p e below s _ _ _ (T3.setTop (mkF m 111 #[.val (.int x0), .val (.int x1), .val (.int x2), .val (.int x3), .val (.int (v0_lf x0)), .val (.int (v0_f0 x0)), .val (.int (v0_f1 x0)), .val (.int (v0_f2 x0)), .val (.int (v0_lg x1)), .val (.int (v0_g0 x1)), .val (.int (v0_g1 x1)), .val (.int (v0_g2 x1)), .val (.ref b1_0), .val (.ref b2_0), .unset] [(.int (3 : Int32)), (.ref b3), (.ref b3)]))
  refine g_callI X3 hx hZ rfl hown (hw _ (List.mem_of_getElem? (i := 8) rfl)) (hw _ (List.mem_of_getElem? (i := 9) rfl)) (hw _ (List.mem_of_getElem? (i := 7) rfl)) (hw _ (List.mem_of_getElem? (i := 10) rfl)) (by decide) e3 (rm2 l Z a0 hw [] b3 (3 : Int32) h3 n0 Z3 A3 F3_width F3_paths N_b3 (rfl : (3 : Int32) = (3 : Int32))) b3 [(.int (3 : Int32))] [(.ref b3)] 1 rfl (lenOf pd__28I_29V rfl) rfl (Nat.le_of_eq rfl) (by decide) (by decide) (by decide) (by decide) (by rw [hml]; rfl) (hb hby at_111) ?_
  intro T4 L4 v4 X4 q4
  obtain ⟨rfl, N4, K4, b4_0, b4_1, sz4_0, sz4_1, ne4_0_1, p4_0, p4_1, p4_2, p4_3⟩ := q4
  have NN4 := Fr.app NN2 N4
  have N_b4_0 : n0 ≤ b4_0 := Nat.le_trans Z3 sz4_0
  have ne_b1_0_b4_0 : b1_0 ≠ b4_0 := Nat.ne_of_lt (Nat.lt_of_lt_of_le k3_1.lt sz4_0)
  have ne_b2_0_b4_0 : b2_0 ≠ b4_0 := Nat.ne_of_lt (Nat.lt_of_lt_of_le k3_4.lt sz4_0)
  have ne_b3_b4_0 : b3 ≠ b4_0 := Nat.ne_of_lt (Nat.lt_of_lt_of_le A3.lt sz4_0)
  have N_b4_1 : n0 ≤ b4_1 := Nat.le_trans Z3 sz4_1
  have ne_b1_0_b4_1 : b1_0 ≠ b4_1 := Nat.ne_of_lt (Nat.lt_of_lt_of_le k3_1.lt sz4_1)
  have ne_b2_0_b4_1 : b2_0 ≠ b4_1 := Nat.ne_of_lt (Nat.lt_of_lt_of_le k3_4.lt sz4_1)
  have ne_b3_b4_1 : b3 ≠ b4_1 := Nat.ne_of_lt (Nat.lt_of_lt_of_le A3.lt sz4_1)
  have k4_1 := k3_1.keep K4 (nm1 ne_b1_0_b3 nm0)
  have k4_4 := k3_4.keep K4 (nm1 ne_b2_0_b3 nm0)
  have k4_8 := A3.keep K4
  have Z4 : n0 ≤ T4.heap.size := Nat.le_trans Z3 K4.1
  show Go p e below s _ _ _ (T4.setTop (mkF m 114 #[.val (.int x0), .val (.int x1), .val (.int x2), .val (.int x3), .val (.int (v0_lf x0)), .val (.int (v0_f0 x0)), .val (.int (v0_f1 x0)), .val (.int (v0_f2 x0)), .val (.int (v0_lg x1)), .val (.int (v0_g0 x1)), .val (.int (v0_g1 x1)), .val (.int (v0_g2 x1)), .val (.ref b1_0), .val (.ref b2_0), .unset] [(.ref b3)]))
  refine g_astore X4 hx #[.val (.int x0), .val (.int x1), .val (.int x2), .val (.int x3), .val (.int (v0_lf x0)), .val (.int (v0_f0 x0)), .val (.int (v0_f1 x0)), .val (.int (v0_f2 x0)), .val (.int (v0_lg x1)), .val (.int (v0_g0 x1)), .val (.int (v0_g1 x1)), .val (.int (v0_g2 x1)), .val (.ref b1_0), .val (.ref b2_0), .val (.ref b3)] 116 (hb hby at_114) rfl rfl rfl ?_
  show Go p e below s _ _ _ (T4.setTop (mkF m 116 #[.val (.int x0), .val (.int x1), .val (.int x2), .val (.int x3), .val (.int (v0_lf x0)), .val (.int (v0_f0 x0)), .val (.int (v0_f1 x0)), .val (.int (v0_f2 x0)), .val (.int (v0_lg x1)), .val (.int (v0_g0 x1)), .val (.int (v0_g1 x1)), .val (.int (v0_g2 x1)), .val (.ref b1_0), .val (.ref b2_0), .val (.ref b3)] []))
  refine g_aload X4 hx 118 (hb hby at_116) rfl rfl rfl ?_
  show Go p e below s _ _ _ (T4.setTop (mkF m 118 #[.val (.int x0), .val (.int x1), .val (.int x2), .val (.int x3), .val (.int (v0_lf x0)), .val (.int (v0_f0 x0)), .val (.int (v0_f1 x0)), .val (.int (v0_f2 x0)), .val (.int (v0_lg x1)), .val (.int (v0_g0 x1)), .val (.int (v0_g1 x1)), .val (.int (v0_g2 x1)), .val (.ref b1_0), .val (.ref b2_0), .val (.ref b3)] [(.ref b3)]))
  refine g_aload X4 hx 120 (hb hby at_118) rfl rfl rfl ?_
  show Go p e below s _ _ _ (T4.setTop (mkF m 120 #[.val (.int x0), .val (.int x1), .val (.int x2), .val (.int x3), .val (.int (v0_lf x0)), .val (.int (v0_f0 x0)), .val (.int (v0_f1 x0)), .val (.int (v0_f2 x0)), .val (.int (v0_lg x1)), .val (.int (v0_g0 x1)), .val (.int (v0_g1 x1)), .val (.int (v0_g2 x1)), .val (.ref b1_0), .val (.ref b2_0), .val (.ref b3)] [(.ref b2_0), (.ref b3)]))
  refine g_iloadN X4 hx 121 (hb hby at_120) rfl rfl ?_
  show Go p e below s _ _ _ (T4.setTop (mkF m 121 #[.val (.int x0), .val (.int x1), .val (.int x2), .val (.int x3), .val (.int (v0_lf x0)), .val (.int (v0_f0 x0)), .val (.int (v0_f1 x0)), .val (.int (v0_f2 x0)), .val (.int (v0_lg x1)), .val (.int (v0_g0 x1)), .val (.int (v0_g1 x1)), .val (.int (v0_g2 x1)), .val (.ref b1_0), .val (.ref b2_0), .val (.ref b3)] [(.int x2), (.ref b2_0), (.ref b3)]))
  refine g_callV X4 hx hZ hown (hw _ (List.mem_of_getElem? (i := 19) rfl)) (hw _ (List.mem_of_getElem? (i := 20) rfl)) (hw _ (List.mem_of_getElem? (i := 22) rfl)) (hw _ (List.mem_of_getElem? (i := 21) rfl)) (hw _ (List.mem_of_getElem? (i := 7) rfl)) (hw _ (List.mem_of_getElem? (i := 23) rfl)) (by decide) rfl b3 k4_8 (rm4 l Z a0 hw [] b3 b2_0 x2 b4_0 b4_1 (n1_bb (v0_lg x1)) (g1_bb (v0_lg x1) (v0_g0 x1) (v0_g1 x1) (v0_g2 x1)) 3 (fun _ => (0 : Int64)) (fun _ => (0 : Int32)) (own_fn (v0_lg x1) (v0_g0 x1) (v0_g1 x1) (v0_g2 x1)) T4.heap n0 Z4 k4_8 p4_0 p4_1 k4_4 p4_2 p4_3 N_b4_0 N_b4_1 ne_b3_b4_0 ne_b3_b4_1 ne_b2_0_b4_0 ne_b2_0_b4_1 ne4_0_1 (own_hf (own_n4 x1) (own_m3 (ushrI x1 2)) (own_m3 (ushrI x1 10)) (own_m3 (ushrI x1 18)) : ∀ j, j < (n1_bb (v0_lg x1)) → ((g1_bb (v0_lg x1) (v0_g0 x1) (v0_g1 x1) (v0_g2 x1)) j).toInt = (own_fn (v0_lg x1) (v0_g0 x1) (v0_g1 x1) (v0_g2 x1)) j ∧ (own_fn (v0_lg x1) (v0_g0 x1) (v0_g1 x1) (v0_g2 x1)) j < 3)) [(.ref b2_0), (.int x2)] [] 0 rfl (lenOf pd__28_5bII_29V rfl) rfl (Nat.le_of_eq rfl) (by decide) (by decide) (by decide) (by decide) (by rw [hml]; rfl) (hb hby at_121) ?_
  intro T5 L5 v5 X5 q5
  obtain ⟨rfl, N5, K5, p5_0, p5_1⟩ := q5
  have NN5 := Fr.app NN4 N5
  have k5_1 := k4_1.keep K5 (nm1 ne_b1_0_b4_0 (nm1 ne_b1_0_b4_1 nm0))
  have k5_4 := k4_4.keep K5 (nm1 ne_b2_0_b4_0 (nm1 ne_b2_0_b4_1 nm0))
  have k5_8 := k4_8.keep K5
  have k5_18 := p4_0.keep K5 (nm1 ne_b3_b4_0 (nm1 ne_b3_b4_1 nm0))
  have k5_19 := p4_1.keep K5 (nm1 ne_b3_b4_0 (nm1 ne_b3_b4_1 nm0))
  have Z5 : n0 ≤ T5.heap.size := Nat.le_trans Z4 K5.1
  show Go p e below s _ _ _ (T5.setTop (mkF m 124 #[.val (.int x0), .val (.int x1), .val (.int x2), .val (.int x3), .val (.int (v0_lf x0)), .val (.int (v0_f0 x0)), .val (.int (v0_f1 x0)), .val (.int (v0_f2 x0)), .val (.int (v0_lg x1)), .val (.int (v0_g0 x1)), .val (.int (v0_g1 x1)), .val (.int (v0_g2 x1)), .val (.ref b1_0), .val (.ref b2_0), .val (.ref b3)] []))
  refine g_aload X5 hx 126 (hb hby at_124) rfl rfl rfl ?_
  show Go p e below s _ _ _ (T5.setTop (mkF m 126 #[.val (.int x0), .val (.int x1), .val (.int x2), .val (.int x3), .val (.int (v0_lf x0)), .val (.int (v0_f0 x0)), .val (.int (v0_f1 x0)), .val (.int (v0_f2 x0)), .val (.int (v0_lg x1)), .val (.int (v0_g0 x1)), .val (.int (v0_g1 x1)), .val (.int (v0_g2 x1)), .val (.ref b1_0), .val (.ref b2_0), .val (.ref b3)] [(.ref b3)]))
  refine g_aload X5 hx 128 (hb hby at_126) rfl rfl rfl ?_
  show Go p e below s _ _ _ (T5.setTop (mkF m 128 #[.val (.int x0), .val (.int x1), .val (.int x2), .val (.int x3), .val (.int (v0_lf x0)), .val (.int (v0_f0 x0)), .val (.int (v0_f1 x0)), .val (.int (v0_f2 x0)), .val (.int (v0_lg x1)), .val (.int (v0_g0 x1)), .val (.int (v0_g1 x1)), .val (.int (v0_g2 x1)), .val (.ref b1_0), .val (.ref b2_0), .val (.ref b3)] [(.ref b1_0), (.ref b3)]))
  refine g_iloadN X5 hx 129 (hb hby at_128) rfl rfl ?_
  show Go p e below s _ _ _ (T5.setTop (mkF m 129 #[.val (.int x0), .val (.int x1), .val (.int x2), .val (.int x3), .val (.int (v0_lf x0)), .val (.int (v0_f0 x0)), .val (.int (v0_f1 x0)), .val (.int (v0_f2 x0)), .val (.int (v0_lg x1)), .val (.int (v0_g0 x1)), .val (.int (v0_g1 x1)), .val (.int (v0_g2 x1)), .val (.ref b1_0), .val (.ref b2_0), .val (.ref b3)] [(.int x3), (.ref b1_0), (.ref b3)]))
  refine g_callV X5 hx hZ hown (hw _ (List.mem_of_getElem? (i := 19) rfl)) (hw _ (List.mem_of_getElem? (i := 20) rfl)) (hw _ (List.mem_of_getElem? (i := 22) rfl)) (hw _ (List.mem_of_getElem? (i := 21) rfl)) (hw _ (List.mem_of_getElem? (i := 7) rfl)) (hw _ (List.mem_of_getElem? (i := 23) rfl)) (by decide) rfl b3 k5_8 (rm4 l Z a0 hw [] b3 b1_0 x3 b4_0 b4_1 (n1_bb (v0_lf x0)) (g1_bb (v0_lf x0) (v0_f0 x0) (v0_f1 x0) (v0_f2 x0)) 3 (own_aw (own_fn (v0_lg x1) (v0_g0 x1) (v0_g1 x1) (v0_g2 x1)) x2.toInt64 (n1_bb (v0_lg x1)) 0 (fun _ => (0 : Int64))) (own_ap (own_fn (v0_lg x1) (v0_g0 x1) (v0_g1 x1) (v0_g2 x1)) (1 : Int32) (n1_bb (v0_lg x1)) 0 (fun _ => (0 : Int32))) (own_fn (v0_lf x0) (v0_f0 x0) (v0_f1 x0) (v0_f2 x0)) T5.heap n0 Z5 k5_8 k5_18 k5_19 k5_1 p5_0 p5_1 N_b4_0 N_b4_1 ne_b3_b4_0 ne_b3_b4_1 ne_b1_0_b4_0 ne_b1_0_b4_1 ne4_0_1 (own_hf (own_n4 x0) (own_m3 (ushrI x0 2)) (own_m3 (ushrI x0 10)) (own_m3 (ushrI x0 18)) : ∀ j, j < (n1_bb (v0_lf x0)) → ((g1_bb (v0_lf x0) (v0_f0 x0) (v0_f1 x0) (v0_f2 x0)) j).toInt = (own_fn (v0_lf x0) (v0_f0 x0) (v0_f1 x0) (v0_f2 x0)) j ∧ (own_fn (v0_lf x0) (v0_f0 x0) (v0_f1 x0) (v0_f2 x0)) j < 3)) [(.ref b1_0), (.int x3)] [] 0 rfl (lenOf pd__28_5bII_29V rfl) rfl (Nat.le_of_eq rfl) (by decide) (by decide) (by decide) (by decide) (by rw [hml]; rfl) (hb hby at_129) ?_
  intro T6 L6 v6 X6 q6
  obtain ⟨rfl, N6, K6, p6_0, p6_1⟩ := q6
  have NN6 := Fr.app NN5 N6
  have k6_1 := k5_1.keep K6 (nm1 ne_b1_0_b4_0 (nm1 ne_b1_0_b4_1 nm0))
  have k6_4 := k5_4.keep K6 (nm1 ne_b2_0_b4_0 (nm1 ne_b2_0_b4_1 nm0))
  have k6_8 := k5_8.keep K6
  have k6_18 := k5_18.keep K6 (nm1 ne_b3_b4_0 (nm1 ne_b3_b4_1 nm0))
  have k6_19 := k5_19.keep K6 (nm1 ne_b3_b4_0 (nm1 ne_b3_b4_1 nm0))
  have Z6 : n0 ≤ T6.heap.size := Nat.le_trans Z5 K6.1
  show Go p e below s _ _ _ (T6.setTop (mkF m 132 #[.val (.int x0), .val (.int x1), .val (.int x2), .val (.int x3), .val (.int (v0_lf x0)), .val (.int (v0_f0 x0)), .val (.int (v0_f1 x0)), .val (.int (v0_f2 x0)), .val (.int (v0_lg x1)), .val (.int (v0_g0 x1)), .val (.int (v0_g1 x1)), .val (.int (v0_g2 x1)), .val (.ref b1_0), .val (.ref b2_0), .val (.ref b3)] []))
  refine g_aload X6 hx 134 (hb hby at_132) rfl rfl rfl ?_
  show Go p e below s _ _ _ (T6.setTop (mkF m 134 #[.val (.int x0), .val (.int x1), .val (.int x2), .val (.int x3), .val (.int (v0_lf x0)), .val (.int (v0_f0 x0)), .val (.int (v0_f1 x0)), .val (.int (v0_f2 x0)), .val (.int (v0_lg x1)), .val (.int (v0_g0 x1)), .val (.int (v0_g1 x1)), .val (.int (v0_g2 x1)), .val (.ref b1_0), .val (.ref b2_0), .val (.ref b3)] [(.ref b3)]))
  refine g_aload X6 hx 136 (hb hby at_134) rfl rfl rfl ?_
  show Go p e below s _ _ _ (T6.setTop (mkF m 136 #[.val (.int x0), .val (.int x1), .val (.int x2), .val (.int x3), .val (.int (v0_lf x0)), .val (.int (v0_f0 x0)), .val (.int (v0_f1 x0)), .val (.int (v0_f2 x0)), .val (.int (v0_lg x1)), .val (.int (v0_g0 x1)), .val (.int (v0_g1 x1)), .val (.int (v0_g2 x1)), .val (.ref b1_0), .val (.ref b2_0), .val (.ref b3)] [(.ref b1_0), (.ref b3)]))
  refine g_iloadN X6 hx 137 (hb hby at_136) rfl rfl ?_
  show Go p e below s _ _ _ (T6.setTop (mkF m 137 #[.val (.int x0), .val (.int x1), .val (.int x2), .val (.int x3), .val (.int (v0_lf x0)), .val (.int (v0_f0 x0)), .val (.int (v0_f1 x0)), .val (.int (v0_f2 x0)), .val (.int (v0_lg x1)), .val (.int (v0_g0 x1)), .val (.int (v0_g1 x1)), .val (.int (v0_g2 x1)), .val (.ref b1_0), .val (.ref b2_0), .val (.ref b3)] [(.int x3), (.ref b1_0), (.ref b3)]))
  refine g_callV X6 hx hZ hown (hw _ (List.mem_of_getElem? (i := 24) rfl)) (hw _ (List.mem_of_getElem? (i := 25) rfl)) (hw _ (List.mem_of_getElem? (i := 27) rfl)) (hw _ (List.mem_of_getElem? (i := 26) rfl)) (hw _ (List.mem_of_getElem? (i := 7) rfl)) (hw _ (List.mem_of_getElem? (i := 28) rfl)) (by decide) rfl b3 k6_8 (rm5 l Z a0 hw [] b3 b1_0 x3 b4_0 b4_1 (n1_bb (v0_lf x0)) (g1_bb (v0_lf x0) (v0_f0 x0) (v0_f1 x0) (v0_f2 x0)) 3 (own_aw (own_fn (v0_lf x0) (v0_f0 x0) (v0_f1 x0) (v0_f2 x0)) x3.toInt64 (n1_bb (v0_lf x0)) 0 (own_aw (own_fn (v0_lg x1) (v0_g0 x1) (v0_g1 x1) (v0_g2 x1)) x2.toInt64 (n1_bb (v0_lg x1)) 0 (fun _ => (0 : Int64)))) (own_ap (own_fn (v0_lf x0) (v0_f0 x0) (v0_f1 x0) (v0_f2 x0)) (1 : Int32) (n1_bb (v0_lf x0)) 0 (own_ap (own_fn (v0_lg x1) (v0_g0 x1) (v0_g1 x1) (v0_g2 x1)) (1 : Int32) (n1_bb (v0_lg x1)) 0 (fun _ => (0 : Int32)))) (own_fn (v0_lf x0) (v0_f0 x0) (v0_f1 x0) (v0_f2 x0)) T6.heap n0 Z6 k6_8 k6_18 k6_19 k6_1 p6_0 p6_1 N_b4_0 N_b4_1 ne_b3_b4_0 ne_b3_b4_1 ne_b1_0_b4_0 ne_b1_0_b4_1 ne4_0_1 (own_hf (own_n4 x0) (own_m3 (ushrI x0 2)) (own_m3 (ushrI x0 10)) (own_m3 (ushrI x0 18)) : ∀ j, j < (n1_bb (v0_lf x0)) → ((g1_bb (v0_lf x0) (v0_f0 x0) (v0_f1 x0) (v0_f2 x0)) j).toInt = (own_fn (v0_lf x0) (v0_f0 x0) (v0_f1 x0) (v0_f2 x0)) j ∧ (own_fn (v0_lf x0) (v0_f0 x0) (v0_f1 x0) (v0_f2 x0)) j < 3)) [(.ref b1_0), (.int x3)] [] 0 rfl (lenOf pd__28_5bII_29V rfl) rfl (Nat.le_of_eq rfl) (by decide) (by decide) (by decide) (by decide) (by rw [hml]; rfl) (hb hby at_137) ?_
  intro T7 L7 v7 X7 q7
  obtain ⟨rfl, N7, K7, p7_0, p7_1⟩ := q7
  have NN7 := Fr.app NN6 N7
  have k7_1 := k6_1.keep K7 (nm1 ne_b1_0_b4_0 (nm1 ne_b1_0_b4_1 nm0))
  have k7_4 := k6_4.keep K7 (nm1 ne_b2_0_b4_0 (nm1 ne_b2_0_b4_1 nm0))
  have k7_8 := k6_8.keep K7
  have k7_18 := k6_18.keep K7 (nm1 ne_b3_b4_0 (nm1 ne_b3_b4_1 nm0))
  have k7_19 := k6_19.keep K7 (nm1 ne_b3_b4_0 (nm1 ne_b3_b4_1 nm0))
  have Z7 : n0 ≤ T7.heap.size := Nat.le_trans Z6 K7.1
  show Go p e below s _ _ _ (T7.setTop (mkF m 140 #[.val (.int x0), .val (.int x1), .val (.int x2), .val (.int x3), .val (.int (v0_lf x0)), .val (.int (v0_f0 x0)), .val (.int (v0_f1 x0)), .val (.int (v0_f2 x0)), .val (.int (v0_lg x1)), .val (.int (v0_g0 x1)), .val (.int (v0_g1 x1)), .val (.int (v0_g2 x1)), .val (.ref b1_0), .val (.ref b2_0), .val (.ref b3)] []))
  refine g_aload X7 hx 142 (hb hby at_140) rfl rfl rfl ?_
  show Go p e below s _ _ _ (T7.setTop (mkF m 142 #[.val (.int x0), .val (.int x1), .val (.int x2), .val (.int x3), .val (.int (v0_lf x0)), .val (.int (v0_f0 x0)), .val (.int (v0_f1 x0)), .val (.int (v0_f2 x0)), .val (.int (v0_lg x1)), .val (.int (v0_g0 x1)), .val (.int (v0_g1 x1)), .val (.int (v0_g2 x1)), .val (.ref b1_0), .val (.ref b2_0), .val (.ref b3)] [(.ref b3)]))
  refine g_iconst X7 hx (0 : Int32) 143 (hb hby at_142) rfl rfl ?_
  show Go p e below s _ _ _ (T7.setTop (mkF m 143 #[.val (.int x0), .val (.int x1), .val (.int x2), .val (.int x3), .val (.int (v0_lf x0)), .val (.int (v0_f0 x0)), .val (.int (v0_f1 x0)), .val (.int (v0_f2 x0)), .val (.int (v0_lg x1)), .val (.int (v0_g0 x1)), .val (.int (v0_g1 x1)), .val (.int (v0_g2 x1)), .val (.ref b1_0), .val (.ref b2_0), .val (.ref b3)] [(.int (0 : Int32)), (.ref b3)]))
  refine g_iload X7 hx 145 (hb hby at_143) rfl rfl ?_
  show Go p e below s _ _ _ (T7.setTop (mkF m 145 #[.val (.int x0), .val (.int x1), .val (.int x2), .val (.int x3), .val (.int (v0_lf x0)), .val (.int (v0_f0 x0)), .val (.int (v0_f1 x0)), .val (.int (v0_f2 x0)), .val (.int (v0_lg x1)), .val (.int (v0_g0 x1)), .val (.int (v0_g1 x1)), .val (.int (v0_g2 x1)), .val (.ref b1_0), .val (.ref b2_0), .val (.ref b3)] [(.int (v0_lg x1)), (.int (0 : Int32)), (.ref b3)]))
  refine g_iload X7 hx 147 (hb hby at_145) rfl rfl ?_
  show Go p e below s _ _ _ (T7.setTop (mkF m 147 #[.val (.int x0), .val (.int x1), .val (.int x2), .val (.int x3), .val (.int (v0_lf x0)), .val (.int (v0_f0 x0)), .val (.int (v0_f1 x0)), .val (.int (v0_f2 x0)), .val (.int (v0_lg x1)), .val (.int (v0_g0 x1)), .val (.int (v0_g1 x1)), .val (.int (v0_g2 x1)), .val (.ref b1_0), .val (.ref b2_0), .val (.ref b3)] [(.int (v0_g0 x1)), (.int (v0_lg x1)), (.int (0 : Int32)), (.ref b3)]))
  refine g_iload X7 hx 149 (hb hby at_147) rfl rfl ?_
  show Go p e below s _ _ _ (T7.setTop (mkF m 149 #[.val (.int x0), .val (.int x1), .val (.int x2), .val (.int x3), .val (.int (v0_lf x0)), .val (.int (v0_f0 x0)), .val (.int (v0_f1 x0)), .val (.int (v0_f2 x0)), .val (.int (v0_lg x1)), .val (.int (v0_g0 x1)), .val (.int (v0_g1 x1)), .val (.int (v0_g2 x1)), .val (.ref b1_0), .val (.ref b2_0), .val (.ref b3)] [(.int (v0_g1 x1)), (.int (v0_g0 x1)), (.int (v0_lg x1)), (.int (0 : Int32)), (.ref b3)]))
  refine g_iload X7 hx 151 (hb hby at_149) rfl rfl ?_
  show Go p e below s _ _ _ (T7.setTop (mkF m 151 #[.val (.int x0), .val (.int x1), .val (.int x2), .val (.int x3), .val (.int (v0_lf x0)), .val (.int (v0_f0 x0)), .val (.int (v0_f1 x0)), .val (.int (v0_f2 x0)), .val (.int (v0_lg x1)), .val (.int (v0_g0 x1)), .val (.int (v0_g1 x1)), .val (.int (v0_g2 x1)), .val (.ref b1_0), .val (.ref b2_0), .val (.ref b3)] [(.int (v0_g2 x1)), (.int (v0_g1 x1)), (.int (v0_g0 x1)), (.int (v0_lg x1)), (.int (0 : Int32)), (.ref b3)]))
  refine g_iloadN X7 hx 152 (hb hby at_151) rfl rfl ?_
  show Go p e below s _ _ _ (T7.setTop (mkF m 152 #[.val (.int x0), .val (.int x1), .val (.int x2), .val (.int x3), .val (.int (v0_lf x0)), .val (.int (v0_f0 x0)), .val (.int (v0_f1 x0)), .val (.int (v0_f2 x0)), .val (.int (v0_lg x1)), .val (.int (v0_g0 x1)), .val (.int (v0_g1 x1)), .val (.int (v0_g2 x1)), .val (.ref b1_0), .val (.ref b2_0), .val (.ref b3)] [(.int x2), (.int (v0_g2 x1)), (.int (v0_g1 x1)), (.int (v0_g0 x1)), (.int (v0_lg x1)), (.int (0 : Int32)), (.ref b3)]))
  refine g_callS X7 hx hZ hown (hw _ (List.mem_of_getElem? (i := 29) rfl)) (hw _ (List.mem_of_getElem? (i := 30) rfl)) (hw _ (List.mem_of_getElem? (i := 2) rfl)) (hw _ (List.mem_of_getElem? (i := 31) rfl)) (by decide) rfl (rm6 l Z a0 hw [] b3 (0 : Int32) (v0_lg x1) (v0_g0 x1) (v0_g1 x1) (v0_g2 x1) x2 b4_0 b4_1 3 (own_sw (own_fn (v0_lf x0) (v0_f0 x0) (v0_f1 x0) (v0_f2 x0)) x3.toInt64 (n1_bb (v0_lf x0)) 0 (own_aw (own_fn (v0_lf x0) (v0_f0 x0) (v0_f1 x0) (v0_f2 x0)) x3.toInt64 (n1_bb (v0_lf x0)) 0 (own_aw (own_fn (v0_lg x1) (v0_g0 x1) (v0_g1 x1) (v0_g2 x1)) x2.toInt64 (n1_bb (v0_lg x1)) 0 (fun _ => (0 : Int64))))) (own_sp (own_fn (v0_lf x0) (v0_f0 x0) (v0_f1 x0) (v0_f2 x0)) (1 : Int32) (n1_bb (v0_lf x0)) 0 (own_ap (own_fn (v0_lf x0) (v0_f0 x0) (v0_f1 x0) (v0_f2 x0)) (1 : Int32) (n1_bb (v0_lf x0)) 0 (own_ap (own_fn (v0_lg x1) (v0_g0 x1) (v0_g1 x1) (v0_g2 x1)) (1 : Int32) (n1_bb (v0_lg x1)) 0 (fun _ => (0 : Int32))))) 0 T7.heap k7_8 k7_18 k7_19 p7_0 p7_1 (rfl : (0 : Int32).toInt = 0) (by decide : 0 < 3)) [(.ref b3), (.int (0 : Int32)), (.int (v0_lg x1)), (.int (v0_g0 x1)), (.int (v0_g1 x1)), (.int (v0_g2 x1)), (.int x2)] [] 0 rfl (lenOf pd__28Lcom_2fexample_2fcontiguity_2fcontiguity_2fplanning_2fFibreLoads_3bIIIIII_29Z rfl) rfl (Nat.le_of_eq rfl) (by decide) (by decide) (by decide) (by decide) (by rw [hml]; rfl) (hb hby at_152) ?_
  intro T8 L8 v8 X8 q8
  obtain ⟨rfl, rfl, e8⟩ := q8
  have NS8 := Fr.app NN7 (Fr.nil n0)
  show Go p e below s _ _ _ (T8.setTop (mkF m 155 #[.val (.int x0), .val (.int x1), .val (.int x2), .val (.int x3), .val (.int (v0_lf x0)), .val (.int (v0_f0 x0)), .val (.int (v0_f1 x0)), .val (.int (v0_f2 x0)), .val (.int (v0_lg x1)), .val (.int (v0_g0 x1)), .val (.int (v0_g1 x1)), .val (.int (v0_g2 x1)), .val (.ref b1_0), .val (.ref b2_0), .val (.ref b3)] [(.int (f6 (0 : Int32) (v0_lg x1) (v0_g0 x1) (v0_g1 x1) (v0_g2 x1) x2 (own_sw (own_fn (v0_lf x0) (v0_f0 x0) (v0_f1 x0) (v0_f2 x0)) x3.toInt64 (n1_bb (v0_lf x0)) 0 (own_aw (own_fn (v0_lf x0) (v0_f0 x0) (v0_f1 x0) (v0_f2 x0)) x3.toInt64 (n1_bb (v0_lf x0)) 0 (own_aw (own_fn (v0_lg x1) (v0_g0 x1) (v0_g1 x1) (v0_g2 x1)) x2.toInt64 (n1_bb (v0_lg x1)) 0 (fun _ => (0 : Int64))))) (own_sp (own_fn (v0_lf x0) (v0_f0 x0) (v0_f1 x0) (v0_f2 x0)) (1 : Int32) (n1_bb (v0_lf x0)) 0 (own_ap (own_fn (v0_lf x0) (v0_f0 x0) (v0_f1 x0) (v0_f2 x0)) (1 : Int32) (n1_bb (v0_lf x0)) 0 (own_ap (own_fn (v0_lg x1) (v0_g0 x1) (v0_g1 x1) (v0_g2 x1)) (1 : Int32) (n1_bb (v0_lg x1)) 0 (fun _ => (0 : Int32))))) 0))]))
  have h9 : ¬ ((f6 (0 : Int32) (v0_lg x1) (v0_g0 x1) (v0_g1 x1) (v0_g2 x1) x2 (own_sw (own_fn (v0_lf x0) (v0_f0 x0) (v0_f1 x0) (v0_f2 x0)) x3.toInt64 (n1_bb (v0_lf x0)) 0 (own_aw (own_fn (v0_lf x0) (v0_f0 x0) (v0_f1 x0) (v0_f2 x0)) x3.toInt64 (n1_bb (v0_lf x0)) 0 (own_aw (own_fn (v0_lg x1) (v0_g0 x1) (v0_g1 x1) (v0_g2 x1)) x2.toInt64 (n1_bb (v0_lg x1)) 0 (fun _ => (0 : Int64))))) (own_sp (own_fn (v0_lf x0) (v0_f0 x0) (v0_f1 x0) (v0_f2 x0)) (1 : Int32) (n1_bb (v0_lf x0)) 0 (own_ap (own_fn (v0_lf x0) (v0_f0 x0) (v0_f1 x0) (v0_f2 x0)) (1 : Int32) (n1_bb (v0_lf x0)) 0 (own_ap (own_fn (v0_lg x1) (v0_g0 x1) (v0_g1 x1) (v0_g2 x1)) (1 : Int32) (n1_bb (v0_lg x1)) 0 (fun _ => (0 : Int32))))) 0) = (0 : Int32)) := own_chk (0 : Int32) 0 rfl (by decide) _ x2 x3 _ _ _ _ _ (own_n4 x1) (own_m3 (ushrI x1 2)) (own_m3 (ushrI x1 10)) (own_m3 (ushrI x1 18))
  refine g_if0_eq X8 hx 198 158 (hb hby at_155) (by decide) rfl rfl (fun q => absurd q h9) (fun _ => ?_)
  show Go p e below s _ _ _ (T8.setTop (mkF m 158 #[.val (.int x0), .val (.int x1), .val (.int x2), .val (.int x3), .val (.int (v0_lf x0)), .val (.int (v0_f0 x0)), .val (.int (v0_f1 x0)), .val (.int (v0_f2 x0)), .val (.int (v0_lg x1)), .val (.int (v0_g0 x1)), .val (.int (v0_g1 x1)), .val (.int (v0_g2 x1)), .val (.ref b1_0), .val (.ref b2_0), .val (.ref b3)] []))
  refine g_aload X8 hx 160 (hb hby at_158) rfl rfl rfl ?_
  show Go p e below s _ _ _ (T8.setTop (mkF m 160 #[.val (.int x0), .val (.int x1), .val (.int x2), .val (.int x3), .val (.int (v0_lf x0)), .val (.int (v0_f0 x0)), .val (.int (v0_f1 x0)), .val (.int (v0_f2 x0)), .val (.int (v0_lg x1)), .val (.int (v0_g0 x1)), .val (.int (v0_g1 x1)), .val (.int (v0_g2 x1)), .val (.ref b1_0), .val (.ref b2_0), .val (.ref b3)] [(.ref b3)]))
  refine g_iconst X8 hx (1 : Int32) 161 (hb hby at_160) rfl rfl ?_
  show Go p e below s _ _ _ (T8.setTop (mkF m 161 #[.val (.int x0), .val (.int x1), .val (.int x2), .val (.int x3), .val (.int (v0_lf x0)), .val (.int (v0_f0 x0)), .val (.int (v0_f1 x0)), .val (.int (v0_f2 x0)), .val (.int (v0_lg x1)), .val (.int (v0_g0 x1)), .val (.int (v0_g1 x1)), .val (.int (v0_g2 x1)), .val (.ref b1_0), .val (.ref b2_0), .val (.ref b3)] [(.int (1 : Int32)), (.ref b3)]))
  refine g_iload X8 hx 163 (hb hby at_161) rfl rfl ?_
  show Go p e below s _ _ _ (T8.setTop (mkF m 163 #[.val (.int x0), .val (.int x1), .val (.int x2), .val (.int x3), .val (.int (v0_lf x0)), .val (.int (v0_f0 x0)), .val (.int (v0_f1 x0)), .val (.int (v0_f2 x0)), .val (.int (v0_lg x1)), .val (.int (v0_g0 x1)), .val (.int (v0_g1 x1)), .val (.int (v0_g2 x1)), .val (.ref b1_0), .val (.ref b2_0), .val (.ref b3)] [(.int (v0_lg x1)), (.int (1 : Int32)), (.ref b3)]))
  refine g_iload X8 hx 165 (hb hby at_163) rfl rfl ?_
  show Go p e below s _ _ _ (T8.setTop (mkF m 165 #[.val (.int x0), .val (.int x1), .val (.int x2), .val (.int x3), .val (.int (v0_lf x0)), .val (.int (v0_f0 x0)), .val (.int (v0_f1 x0)), .val (.int (v0_f2 x0)), .val (.int (v0_lg x1)), .val (.int (v0_g0 x1)), .val (.int (v0_g1 x1)), .val (.int (v0_g2 x1)), .val (.ref b1_0), .val (.ref b2_0), .val (.ref b3)] [(.int (v0_g0 x1)), (.int (v0_lg x1)), (.int (1 : Int32)), (.ref b3)]))
  refine g_iload X8 hx 167 (hb hby at_165) rfl rfl ?_
  show Go p e below s _ _ _ (T8.setTop (mkF m 167 #[.val (.int x0), .val (.int x1), .val (.int x2), .val (.int x3), .val (.int (v0_lf x0)), .val (.int (v0_f0 x0)), .val (.int (v0_f1 x0)), .val (.int (v0_f2 x0)), .val (.int (v0_lg x1)), .val (.int (v0_g0 x1)), .val (.int (v0_g1 x1)), .val (.int (v0_g2 x1)), .val (.ref b1_0), .val (.ref b2_0), .val (.ref b3)] [(.int (v0_g1 x1)), (.int (v0_g0 x1)), (.int (v0_lg x1)), (.int (1 : Int32)), (.ref b3)]))
  refine g_iload X8 hx 169 (hb hby at_167) rfl rfl ?_
  show Go p e below s _ _ _ (T8.setTop (mkF m 169 #[.val (.int x0), .val (.int x1), .val (.int x2), .val (.int x3), .val (.int (v0_lf x0)), .val (.int (v0_f0 x0)), .val (.int (v0_f1 x0)), .val (.int (v0_f2 x0)), .val (.int (v0_lg x1)), .val (.int (v0_g0 x1)), .val (.int (v0_g1 x1)), .val (.int (v0_g2 x1)), .val (.ref b1_0), .val (.ref b2_0), .val (.ref b3)] [(.int (v0_g2 x1)), (.int (v0_g1 x1)), (.int (v0_g0 x1)), (.int (v0_lg x1)), (.int (1 : Int32)), (.ref b3)]))
  refine g_iloadN X8 hx 170 (hb hby at_169) rfl rfl ?_
  show Go p e below s _ _ _ (T8.setTop (mkF m 170 #[.val (.int x0), .val (.int x1), .val (.int x2), .val (.int x3), .val (.int (v0_lf x0)), .val (.int (v0_f0 x0)), .val (.int (v0_f1 x0)), .val (.int (v0_f2 x0)), .val (.int (v0_lg x1)), .val (.int (v0_g0 x1)), .val (.int (v0_g1 x1)), .val (.int (v0_g2 x1)), .val (.ref b1_0), .val (.ref b2_0), .val (.ref b3)] [(.int x2), (.int (v0_g2 x1)), (.int (v0_g1 x1)), (.int (v0_g0 x1)), (.int (v0_lg x1)), (.int (1 : Int32)), (.ref b3)]))
  refine g_callS X8 hx hZ hown (hw _ (List.mem_of_getElem? (i := 29) rfl)) (hw _ (List.mem_of_getElem? (i := 30) rfl)) (hw _ (List.mem_of_getElem? (i := 2) rfl)) (hw _ (List.mem_of_getElem? (i := 31) rfl)) (by decide) e8 (rm6 l Z a0 hw [] b3 (1 : Int32) (v0_lg x1) (v0_g0 x1) (v0_g1 x1) (v0_g2 x1) x2 b4_0 b4_1 3 (own_sw (own_fn (v0_lf x0) (v0_f0 x0) (v0_f1 x0) (v0_f2 x0)) x3.toInt64 (n1_bb (v0_lf x0)) 0 (own_aw (own_fn (v0_lf x0) (v0_f0 x0) (v0_f1 x0) (v0_f2 x0)) x3.toInt64 (n1_bb (v0_lf x0)) 0 (own_aw (own_fn (v0_lg x1) (v0_g0 x1) (v0_g1 x1) (v0_g2 x1)) x2.toInt64 (n1_bb (v0_lg x1)) 0 (fun _ => (0 : Int64))))) (own_sp (own_fn (v0_lf x0) (v0_f0 x0) (v0_f1 x0) (v0_f2 x0)) (1 : Int32) (n1_bb (v0_lf x0)) 0 (own_ap (own_fn (v0_lf x0) (v0_f0 x0) (v0_f1 x0) (v0_f2 x0)) (1 : Int32) (n1_bb (v0_lf x0)) 0 (own_ap (own_fn (v0_lg x1) (v0_g0 x1) (v0_g1 x1) (v0_g2 x1)) (1 : Int32) (n1_bb (v0_lg x1)) 0 (fun _ => (0 : Int32))))) 1 T7.heap k7_8 k7_18 k7_19 p7_0 p7_1 (rfl : (1 : Int32).toInt = 1) (by decide : 1 < 3)) [(.ref b3), (.int (1 : Int32)), (.int (v0_lg x1)), (.int (v0_g0 x1)), (.int (v0_g1 x1)), (.int (v0_g2 x1)), (.int x2)] [] 0 rfl (lenOf pd__28Lcom_2fexample_2fcontiguity_2fcontiguity_2fplanning_2fFibreLoads_3bIIIIII_29Z rfl) rfl (Nat.le_of_eq rfl) (by decide) (by decide) (by decide) (by decide) (by rw [hml]; rfl) (hb hby at_170) ?_
  intro T10 L10 v10 X10 q10
  obtain ⟨rfl, rfl, e10⟩ := q10
  have NS10 := Fr.app NS8 (Fr.nil n0)
  show Go p e below s _ _ _ (T10.setTop (mkF m 173 #[.val (.int x0), .val (.int x1), .val (.int x2), .val (.int x3), .val (.int (v0_lf x0)), .val (.int (v0_f0 x0)), .val (.int (v0_f1 x0)), .val (.int (v0_f2 x0)), .val (.int (v0_lg x1)), .val (.int (v0_g0 x1)), .val (.int (v0_g1 x1)), .val (.int (v0_g2 x1)), .val (.ref b1_0), .val (.ref b2_0), .val (.ref b3)] [(.int (f6 (1 : Int32) (v0_lg x1) (v0_g0 x1) (v0_g1 x1) (v0_g2 x1) x2 (own_sw (own_fn (v0_lf x0) (v0_f0 x0) (v0_f1 x0) (v0_f2 x0)) x3.toInt64 (n1_bb (v0_lf x0)) 0 (own_aw (own_fn (v0_lf x0) (v0_f0 x0) (v0_f1 x0) (v0_f2 x0)) x3.toInt64 (n1_bb (v0_lf x0)) 0 (own_aw (own_fn (v0_lg x1) (v0_g0 x1) (v0_g1 x1) (v0_g2 x1)) x2.toInt64 (n1_bb (v0_lg x1)) 0 (fun _ => (0 : Int64))))) (own_sp (own_fn (v0_lf x0) (v0_f0 x0) (v0_f1 x0) (v0_f2 x0)) (1 : Int32) (n1_bb (v0_lf x0)) 0 (own_ap (own_fn (v0_lf x0) (v0_f0 x0) (v0_f1 x0) (v0_f2 x0)) (1 : Int32) (n1_bb (v0_lf x0)) 0 (own_ap (own_fn (v0_lg x1) (v0_g0 x1) (v0_g1 x1) (v0_g2 x1)) (1 : Int32) (n1_bb (v0_lg x1)) 0 (fun _ => (0 : Int32))))) 1))]))
  have h11 : ¬ ((f6 (1 : Int32) (v0_lg x1) (v0_g0 x1) (v0_g1 x1) (v0_g2 x1) x2 (own_sw (own_fn (v0_lf x0) (v0_f0 x0) (v0_f1 x0) (v0_f2 x0)) x3.toInt64 (n1_bb (v0_lf x0)) 0 (own_aw (own_fn (v0_lf x0) (v0_f0 x0) (v0_f1 x0) (v0_f2 x0)) x3.toInt64 (n1_bb (v0_lf x0)) 0 (own_aw (own_fn (v0_lg x1) (v0_g0 x1) (v0_g1 x1) (v0_g2 x1)) x2.toInt64 (n1_bb (v0_lg x1)) 0 (fun _ => (0 : Int64))))) (own_sp (own_fn (v0_lf x0) (v0_f0 x0) (v0_f1 x0) (v0_f2 x0)) (1 : Int32) (n1_bb (v0_lf x0)) 0 (own_ap (own_fn (v0_lf x0) (v0_f0 x0) (v0_f1 x0) (v0_f2 x0)) (1 : Int32) (n1_bb (v0_lf x0)) 0 (own_ap (own_fn (v0_lg x1) (v0_g0 x1) (v0_g1 x1) (v0_g2 x1)) (1 : Int32) (n1_bb (v0_lg x1)) 0 (fun _ => (0 : Int32))))) 1) = (0 : Int32)) := own_chk (1 : Int32) 1 rfl (by decide) _ x2 x3 _ _ _ _ _ (own_n4 x1) (own_m3 (ushrI x1 2)) (own_m3 (ushrI x1 10)) (own_m3 (ushrI x1 18))
  refine g_if0_eq X10 hx 198 176 (hb hby at_173) (by decide) rfl rfl (fun q => absurd q h11) (fun _ => ?_)
  show Go p e below s _ _ _ (T10.setTop (mkF m 176 #[.val (.int x0), .val (.int x1), .val (.int x2), .val (.int x3), .val (.int (v0_lf x0)), .val (.int (v0_f0 x0)), .val (.int (v0_f1 x0)), .val (.int (v0_f2 x0)), .val (.int (v0_lg x1)), .val (.int (v0_g0 x1)), .val (.int (v0_g1 x1)), .val (.int (v0_g2 x1)), .val (.ref b1_0), .val (.ref b2_0), .val (.ref b3)] []))
  refine g_aload X10 hx 178 (hb hby at_176) rfl rfl rfl ?_
  show Go p e below s _ _ _ (T10.setTop (mkF m 178 #[.val (.int x0), .val (.int x1), .val (.int x2), .val (.int x3), .val (.int (v0_lf x0)), .val (.int (v0_f0 x0)), .val (.int (v0_f1 x0)), .val (.int (v0_f2 x0)), .val (.int (v0_lg x1)), .val (.int (v0_g0 x1)), .val (.int (v0_g1 x1)), .val (.int (v0_g2 x1)), .val (.ref b1_0), .val (.ref b2_0), .val (.ref b3)] [(.ref b3)]))
  refine g_iconst X10 hx (2 : Int32) 179 (hb hby at_178) rfl rfl ?_
  show Go p e below s _ _ _ (T10.setTop (mkF m 179 #[.val (.int x0), .val (.int x1), .val (.int x2), .val (.int x3), .val (.int (v0_lf x0)), .val (.int (v0_f0 x0)), .val (.int (v0_f1 x0)), .val (.int (v0_f2 x0)), .val (.int (v0_lg x1)), .val (.int (v0_g0 x1)), .val (.int (v0_g1 x1)), .val (.int (v0_g2 x1)), .val (.ref b1_0), .val (.ref b2_0), .val (.ref b3)] [(.int (2 : Int32)), (.ref b3)]))
  refine g_iload X10 hx 181 (hb hby at_179) rfl rfl ?_
  show Go p e below s _ _ _ (T10.setTop (mkF m 181 #[.val (.int x0), .val (.int x1), .val (.int x2), .val (.int x3), .val (.int (v0_lf x0)), .val (.int (v0_f0 x0)), .val (.int (v0_f1 x0)), .val (.int (v0_f2 x0)), .val (.int (v0_lg x1)), .val (.int (v0_g0 x1)), .val (.int (v0_g1 x1)), .val (.int (v0_g2 x1)), .val (.ref b1_0), .val (.ref b2_0), .val (.ref b3)] [(.int (v0_lg x1)), (.int (2 : Int32)), (.ref b3)]))
  refine g_iload X10 hx 183 (hb hby at_181) rfl rfl ?_
  show Go p e below s _ _ _ (T10.setTop (mkF m 183 #[.val (.int x0), .val (.int x1), .val (.int x2), .val (.int x3), .val (.int (v0_lf x0)), .val (.int (v0_f0 x0)), .val (.int (v0_f1 x0)), .val (.int (v0_f2 x0)), .val (.int (v0_lg x1)), .val (.int (v0_g0 x1)), .val (.int (v0_g1 x1)), .val (.int (v0_g2 x1)), .val (.ref b1_0), .val (.ref b2_0), .val (.ref b3)] [(.int (v0_g0 x1)), (.int (v0_lg x1)), (.int (2 : Int32)), (.ref b3)]))
  refine g_iload X10 hx 185 (hb hby at_183) rfl rfl ?_
  show Go p e below s _ _ _ (T10.setTop (mkF m 185 #[.val (.int x0), .val (.int x1), .val (.int x2), .val (.int x3), .val (.int (v0_lf x0)), .val (.int (v0_f0 x0)), .val (.int (v0_f1 x0)), .val (.int (v0_f2 x0)), .val (.int (v0_lg x1)), .val (.int (v0_g0 x1)), .val (.int (v0_g1 x1)), .val (.int (v0_g2 x1)), .val (.ref b1_0), .val (.ref b2_0), .val (.ref b3)] [(.int (v0_g1 x1)), (.int (v0_g0 x1)), (.int (v0_lg x1)), (.int (2 : Int32)), (.ref b3)]))
  refine g_iload X10 hx 187 (hb hby at_185) rfl rfl ?_
  show Go p e below s _ _ _ (T10.setTop (mkF m 187 #[.val (.int x0), .val (.int x1), .val (.int x2), .val (.int x3), .val (.int (v0_lf x0)), .val (.int (v0_f0 x0)), .val (.int (v0_f1 x0)), .val (.int (v0_f2 x0)), .val (.int (v0_lg x1)), .val (.int (v0_g0 x1)), .val (.int (v0_g1 x1)), .val (.int (v0_g2 x1)), .val (.ref b1_0), .val (.ref b2_0), .val (.ref b3)] [(.int (v0_g2 x1)), (.int (v0_g1 x1)), (.int (v0_g0 x1)), (.int (v0_lg x1)), (.int (2 : Int32)), (.ref b3)]))
  refine g_iloadN X10 hx 188 (hb hby at_187) rfl rfl ?_
  show Go p e below s _ _ _ (T10.setTop (mkF m 188 #[.val (.int x0), .val (.int x1), .val (.int x2), .val (.int x3), .val (.int (v0_lf x0)), .val (.int (v0_f0 x0)), .val (.int (v0_f1 x0)), .val (.int (v0_f2 x0)), .val (.int (v0_lg x1)), .val (.int (v0_g0 x1)), .val (.int (v0_g1 x1)), .val (.int (v0_g2 x1)), .val (.ref b1_0), .val (.ref b2_0), .val (.ref b3)] [(.int x2), (.int (v0_g2 x1)), (.int (v0_g1 x1)), (.int (v0_g0 x1)), (.int (v0_lg x1)), (.int (2 : Int32)), (.ref b3)]))
  refine g_callS X10 hx hZ hown (hw _ (List.mem_of_getElem? (i := 29) rfl)) (hw _ (List.mem_of_getElem? (i := 30) rfl)) (hw _ (List.mem_of_getElem? (i := 2) rfl)) (hw _ (List.mem_of_getElem? (i := 31) rfl)) (by decide) e10 (rm6 l Z a0 hw [] b3 (2 : Int32) (v0_lg x1) (v0_g0 x1) (v0_g1 x1) (v0_g2 x1) x2 b4_0 b4_1 3 (own_sw (own_fn (v0_lf x0) (v0_f0 x0) (v0_f1 x0) (v0_f2 x0)) x3.toInt64 (n1_bb (v0_lf x0)) 0 (own_aw (own_fn (v0_lf x0) (v0_f0 x0) (v0_f1 x0) (v0_f2 x0)) x3.toInt64 (n1_bb (v0_lf x0)) 0 (own_aw (own_fn (v0_lg x1) (v0_g0 x1) (v0_g1 x1) (v0_g2 x1)) x2.toInt64 (n1_bb (v0_lg x1)) 0 (fun _ => (0 : Int64))))) (own_sp (own_fn (v0_lf x0) (v0_f0 x0) (v0_f1 x0) (v0_f2 x0)) (1 : Int32) (n1_bb (v0_lf x0)) 0 (own_ap (own_fn (v0_lf x0) (v0_f0 x0) (v0_f1 x0) (v0_f2 x0)) (1 : Int32) (n1_bb (v0_lf x0)) 0 (own_ap (own_fn (v0_lg x1) (v0_g0 x1) (v0_g1 x1) (v0_g2 x1)) (1 : Int32) (n1_bb (v0_lg x1)) 0 (fun _ => (0 : Int32))))) 2 T7.heap k7_8 k7_18 k7_19 p7_0 p7_1 (rfl : (2 : Int32).toInt = 2) (by decide : 2 < 3)) [(.ref b3), (.int (2 : Int32)), (.int (v0_lg x1)), (.int (v0_g0 x1)), (.int (v0_g1 x1)), (.int (v0_g2 x1)), (.int x2)] [] 0 rfl (lenOf pd__28Lcom_2fexample_2fcontiguity_2fcontiguity_2fplanning_2fFibreLoads_3bIIIIII_29Z rfl) rfl (Nat.le_of_eq rfl) (by decide) (by decide) (by decide) (by decide) (by rw [hml]; rfl) (hb hby at_188) ?_
  intro T12 L12 v12 X12 q12
  obtain ⟨rfl, rfl, e12⟩ := q12
  have NS12 := Fr.app NS10 (Fr.nil n0)
  show Go p e below s _ _ _ (T12.setTop (mkF m 191 #[.val (.int x0), .val (.int x1), .val (.int x2), .val (.int x3), .val (.int (v0_lf x0)), .val (.int (v0_f0 x0)), .val (.int (v0_f1 x0)), .val (.int (v0_f2 x0)), .val (.int (v0_lg x1)), .val (.int (v0_g0 x1)), .val (.int (v0_g1 x1)), .val (.int (v0_g2 x1)), .val (.ref b1_0), .val (.ref b2_0), .val (.ref b3)] [(.int (f6 (2 : Int32) (v0_lg x1) (v0_g0 x1) (v0_g1 x1) (v0_g2 x1) x2 (own_sw (own_fn (v0_lf x0) (v0_f0 x0) (v0_f1 x0) (v0_f2 x0)) x3.toInt64 (n1_bb (v0_lf x0)) 0 (own_aw (own_fn (v0_lf x0) (v0_f0 x0) (v0_f1 x0) (v0_f2 x0)) x3.toInt64 (n1_bb (v0_lf x0)) 0 (own_aw (own_fn (v0_lg x1) (v0_g0 x1) (v0_g1 x1) (v0_g2 x1)) x2.toInt64 (n1_bb (v0_lg x1)) 0 (fun _ => (0 : Int64))))) (own_sp (own_fn (v0_lf x0) (v0_f0 x0) (v0_f1 x0) (v0_f2 x0)) (1 : Int32) (n1_bb (v0_lf x0)) 0 (own_ap (own_fn (v0_lf x0) (v0_f0 x0) (v0_f1 x0) (v0_f2 x0)) (1 : Int32) (n1_bb (v0_lf x0)) 0 (own_ap (own_fn (v0_lg x1) (v0_g0 x1) (v0_g1 x1) (v0_g2 x1)) (1 : Int32) (n1_bb (v0_lg x1)) 0 (fun _ => (0 : Int32))))) 2))]))
  have h13 : ¬ ((f6 (2 : Int32) (v0_lg x1) (v0_g0 x1) (v0_g1 x1) (v0_g2 x1) x2 (own_sw (own_fn (v0_lf x0) (v0_f0 x0) (v0_f1 x0) (v0_f2 x0)) x3.toInt64 (n1_bb (v0_lf x0)) 0 (own_aw (own_fn (v0_lf x0) (v0_f0 x0) (v0_f1 x0) (v0_f2 x0)) x3.toInt64 (n1_bb (v0_lf x0)) 0 (own_aw (own_fn (v0_lg x1) (v0_g0 x1) (v0_g1 x1) (v0_g2 x1)) x2.toInt64 (n1_bb (v0_lg x1)) 0 (fun _ => (0 : Int64))))) (own_sp (own_fn (v0_lf x0) (v0_f0 x0) (v0_f1 x0) (v0_f2 x0)) (1 : Int32) (n1_bb (v0_lf x0)) 0 (own_ap (own_fn (v0_lf x0) (v0_f0 x0) (v0_f1 x0) (v0_f2 x0)) (1 : Int32) (n1_bb (v0_lf x0)) 0 (own_ap (own_fn (v0_lg x1) (v0_g0 x1) (v0_g1 x1) (v0_g2 x1)) (1 : Int32) (n1_bb (v0_lg x1)) 0 (fun _ => (0 : Int32))))) 2) = (0 : Int32)) := own_chk (2 : Int32) 2 rfl (by decide) _ x2 x3 _ _ _ _ _ (own_n4 x1) (own_m3 (ushrI x1 2)) (own_m3 (ushrI x1 10)) (own_m3 (ushrI x1 18))
  refine g_if0_eq X12 hx 198 194 (hb hby at_191) (by decide) rfl rfl (fun q => absurd q h13) (fun _ => ?_)
  show Go p e below s _ _ _ (T12.setTop (mkF m 194 #[.val (.int x0), .val (.int x1), .val (.int x2), .val (.int x3), .val (.int (v0_lf x0)), .val (.int (v0_f0 x0)), .val (.int (v0_f1 x0)), .val (.int (v0_f2 x0)), .val (.int (v0_lg x1)), .val (.int (v0_g0 x1)), .val (.int (v0_g1 x1)), .val (.int (v0_g2 x1)), .val (.ref b1_0), .val (.ref b2_0), .val (.ref b3)] []))
  refine g_iconst X12 hx (1 : Int32) 195 (hb hby at_194) rfl rfl ?_
  show Go p e below s _ _ _ (T12.setTop (mkF m 195 #[.val (.int x0), .val (.int x1), .val (.int x2), .val (.int x3), .val (.int (v0_lf x0)), .val (.int (v0_f0 x0)), .val (.int (v0_f1 x0)), .val (.int (v0_f2 x0)), .val (.int (v0_lg x1)), .val (.int (v0_g0 x1)), .val (.int (v0_g1 x1)), .val (.int (v0_g2 x1)), .val (.ref b1_0), .val (.ref b2_0), .val (.ref b3)] [(.int (1 : Int32))]))
  refine g_goto X12 hx 199 (hb hby at_195) (by decide) rfl ?_
  show Go p e below s _ _ _ (T12.setTop (mkF m 199 #[.val (.int x0), .val (.int x1), .val (.int x2), .val (.int x3), .val (.int (v0_lf x0)), .val (.int (v0_f0 x0)), .val (.int (v0_f1 x0)), .val (.int (v0_f2 x0)), .val (.int (v0_lg x1)), .val (.int (v0_g0 x1)), .val (.int (v0_g1 x1)), .val (.int (v0_g2 x1)), .val (.ref b1_0), .val (.ref b2_0), .val (.ref b3)] [(.int (1 : Int32))]))
  exact g_retN X12 hx hret (by simp) hlk (hb hby at_199) (by decide) (by decide) ⟨rfl, NS12⟩
set_option maxRecDepth 65536 in
set_option maxHeartbeats 40000000 in
theorem comes_1 {Post : Tables → Env → Array Value → State → Outcome → State → Prop} (hpost : ∀ tb e args s v u, (limb_1_1.after args s (.returned v) u = true ∧ limb_1_2.after args s (.returned v) u = true ∧ True) → FrameEnd s (.returned v) u (Jvm.fieldLocs frame_1_writes args s ++ Jvm.arrayLocs frame_1_arrays args s ++ Jvm.staticLocs frame_1_statics s) 24 128 → Post tb e args s (.returned v) u) :
    ArmFor flags0 classFile x code maxLocals ret World_1 tables_1 room_1 Calls_1 rest_1 Pre_1 Post := by
  intro l hfl _ _ p e ha hc hk s m args below hf hA hF happ hP
  obtain ⟨hcalls, hrest, hpre⟩ := hP
  obtain ⟨-, -, -, hnamed, -, -, -, hat⟩ := (Spec.applies_iff hf).mp happ
  obtain ⟨hg, hn⟩ := and_e (Cond.before_iff.mp (show (Jvm.Cond.and given_1 narrow_1).before args s = true from hpre))
  obtain ⟨g1, g2⟩ := and_e hg
  obtain ⟨g3, g4⟩ := and_e g2
  obtain ⟨g5, g6⟩ := and_e g4
  obtain ⟨g7, g8⟩ := and_e g6
  obtain ⟨w0, w1, w2, w3, rfl⟩ : ∃ w0 w1 w2 w3 : Value, args = #[w0, w1, w2, w3] := by
    have hs : args.size = 4 := by simpa [Cond.value, given_1] using g1
    obtain ⟨L⟩ := args
    match L, hs with
    | [w0, w1, w2, w3], _ => exact ⟨w0, w1, w2, w3, rfl⟩
  have hw := fun d (hd : d ∈ tables_1) => atoms_spec (ws := Jvm.Cond.code x code maxLocals ret :: tables_1) hat d (List.mem_cons_of_mem _ hd)
  obtain ⟨i0, ei0⟩ := is_v g3
  obtain rfl : w0 = (.int i0) := Option.some.inj ei0
  obtain ⟨i1, ei1⟩ := is_v g5
  obtain rfl : w1 = (.int i1) := Option.some.inj ei1
  obtain ⟨i2, ei2⟩ := is_v g7
  obtain rfl : w2 = (.int i2) := Option.some.inj ei2
  obtain ⟨i3, ei3⟩ := is_v g8
  obtain rfl : w3 = (.int i3) := Option.some.inj ei3
  obtain ⟨n, o, h1, h2, h3, _, L, rfl, ⟨rfl, N⟩, hq⟩ := rm0 l s _ hw tables_1 i0 i1 i2 i3 s.heap s.heap.size (Nat.le_refl _) p e ha hc hk s m _ below hf ((Spec.applies_iff_loose hf).mp happ).1 ⟨rfl, State.Warmed39.refl s, rfl⟩ trivial
  refine ⟨n, _, h1, h2, h3, hpost _ _ _ _ _ _ ⟨Cond.after_iff.mpr rfl, Cond.after_iff.mpr (eq_i res_at (Term.int_eval (1)) rfl), trivial⟩ ⟨hq.1, hq.2.1, (hq.2.2.sift fun y hy => Or.inr (N y hy)).mono (by decide) (by decide)⟩⟩
theorem main_1_1 : Claimed_1_1 := comes_1 fun _ _ _ _ _ _ h hF => ⟨h.1, hF⟩
theorem main_1_2 : Claimed_1_2 := comes_1 fun _ _ _ _ _ _ h hF => ⟨h.2.1, hF⟩
end Jvm.Pilot.@@N@@
namespace Jvm.Pilot.@@N@@
open Jvm Jvm.ClassFile Sem Op Lib Jvm.Free Jvm.Stand Jvm.Pilot.@@N@@.Jvm.D
/-! MADE BY PROGRAM (witnessworld.py) out of the Statement's table words and the real class files: 11 classes; the members and pool entries that the words name. The judged class is class 1, her method 1. -/
namespace start1
open Jvm.ClassFile
def u (s : String) : CpInfo := .utf8 (stringToUtf16 s)
/-- a pool by its gaps: so many unusable entries, then the entry; so many at the end -/
def gap : Nat → List CpInfo → List CpInfo
  | 0, r => r
  | n + 1, r => .unusable :: gap n r
def poolList (es : List (Nat × CpInfo)) (last : Nat) : List CpInfo := es.foldr (fun e r => gap e.1 (e.2 :: r)) (gap last [])
def pool (es : List (Nat × CpInfo)) (last : Nat) : Array CpInfo := ⟨poolList es last⟩
def fileOf (pool : Array CpInfo) (this : Nat) (attrs : Array Attribute := #[]) (ms : Array MethodInfo := #[]) (fl : Nat := 33) (sup : Nat := 0) (ifs : Array Nat := #[]) (fds : Array FieldInfo := #[]) : ClassFile where
  minorVersion := 0
  majorVersion := 65
  constantPool := pool
  accessFlags := fl
  thisClass := this
  superClass := sup
  interfaces := ifs
  fields := fds
  methods := ms
  attributes := attrs
def plain (name : String) (sup : Option ClassId) : Class where
  name := name
  kind := .ordinary
  loader := none
  accessFlags := 33
  super := sup
  interfaces := #[]
  cf := none
  fields := #[]
  methods := #[]
  instanceTypes := #[]
  staticTypes := #[]
  resolved := #[]
  callSites := []
  init := .initialized
  statics := none
  mirror := none

def pool0 : Array CpInfo := pool [(5, u "<init>"), (0, u "()V"), (1, .class_ 10), (1, u "java/lang/Object")] 113

def k0c0 : Code := { maxStack := 0, maxLocals := 1, code := object_method_1_code, exceptionTable := #[], attributes := #[] }
def k0m0 : Method := { name := "<init>", desc := "()V", sig := { parameters := [], returnType := none }, accessFlags := 1, code := some k0c0 }
/-- java/lang/Object -/
def k0 : Class := { plain "java/lang/Object" none with
  accessFlags := 33
  interfaces := #[]
  cf := some (fileOf pool0 8 #[] #[{ accessFlags := 1, nameIndex := 5, descriptorIndex := 6, attributes := #[] }] 33 0 #[] #[])
  fields := #[]
  methods := #[k0m0]
  instanceTypes := #[]
  staticTypes := #[]
  resolved := Array.replicate 124 none
  statics := none }

def pool1 : Array CpInfo := pool [(2, .class_ 4), (1, u "java/lang/Object"), (0, u "<init>"), (0, u "()V"), (0, .methodref 8 9), (0, .class_ 10), (0, .nameAndType 11 12), (0, u "com/example/contiguity/contiguity/planning/FibreLoadsRemovePinLaw"), (0, u "path"), (0, u "(IIII)[I"), (0, .class_ 14), (0, u "com/example/contiguity/contiguity/planning/FibreLoads"), (0, .methodref 13 16), (0, .nameAndType 5 17), (0, u "(I)V"), (0, .methodref 13 19), (0, .nameAndType 20 21), (0, u "add"), (0, u "([II)V"), (0, .methodref 13 23), (0, .nameAndType 24 21), (0, u "remove"), (0, .methodref 8 26), (0, .nameAndType 27 28), (0, u "holds"), (0, u "(Lcom/example/contiguity/contiguity/planning/FibreLoads;IIIIII)Z"), (0, .methodref 8 30), (0, .nameAndType 31 32), (0, u "count"), (0, u "(IIIII)I"), (0, .methodref 13 34), (0, .nameAndType 35 36), (0, u "width"), (0, u "(I)J"), (0, .methodref 13 38), (0, .nameAndType 39 40), (0, u "paths"), (0, u "(I)I"), (2, u "law"), (0, u "(IIII)Z")] 5

def k1m0 : Method := { name := "<init>", desc := "()V", sig := { parameters := [], returnType := none }, accessFlags := 1, code := none }
def k1c1 : Code := { maxStack := 7, maxLocals := 15, code := code, exceptionTable := #[], attributes := #[] }
def k1m1 : Method := { name := "law", desc := "(IIII)Z", sig := { parameters := [.int, .int, .int, .int], returnType := some .boolean }, accessFlags := 9, code := some k1c1 }
def k1c2 : Code := { maxStack := 4, maxLocals := 4, code := method_3_code, exceptionTable := #[], attributes := #[] }
def k1m2 : Method := { name := "path", desc := "(IIII)[I", sig := { parameters := [.int, .int, .int, .int], returnType := some (.array .int) }, accessFlags := 10, code := some k1c2 }
def k1c3 : Code := { maxStack := 2, maxLocals := 6, code := method_4_code, exceptionTable := #[], attributes := #[] }
def k1m3 : Method := { name := "count", desc := "(IIIII)I", sig := { parameters := [.int, .int, .int, .int, .int], returnType := some .int }, accessFlags := 10, code := some k1c3 }
def k1c4 : Code := { maxStack := 6, maxLocals := 8, code := method_5_code, exceptionTable := #[], attributes := #[] }
def k1m4 : Method := { name := "holds", desc := "(Lcom/example/contiguity/contiguity/planning/FibreLoads;IIIIII)Z", sig := { parameters := [(.object "com/example/contiguity/contiguity/planning/FibreLoads"), .int, .int, .int, .int, .int, .int], returnType := some .boolean }, accessFlags := 10, code := some k1c4 }
/-- com/example/contiguity/contiguity/planning/FibreLoadsRemovePinLaw -/
def k1 : Class := { plain "com/example/contiguity/contiguity/planning/FibreLoadsRemovePinLaw" (some 0) with
  accessFlags := 49
  interfaces := #[]
  cf := some (fileOf pool1 8 #[] #[{ accessFlags := 1, nameIndex := 5, descriptorIndex := 6, attributes := #[] }, { accessFlags := 9, nameIndex := 43, descriptorIndex := 44, attributes := #[] }, { accessFlags := 10, nameIndex := 11, descriptorIndex := 12, attributes := #[] }, { accessFlags := 10, nameIndex := 31, descriptorIndex := 32, attributes := #[] }, { accessFlags := 10, nameIndex := 27, descriptorIndex := 28, attributes := #[] }] 49 2 #[] #[])
  fields := #[]
  methods := #[k1m0, k1m1, k1m2, k1m3, k1m4]
  instanceTypes := #[]
  staticTypes := #[]
  resolved := Array.replicate 50 none
  statics := none }

def pool2 : Array CpInfo := pool [(1, .methodref 2 3), (0, .class_ 4), (0, .nameAndType 5 6), (0, u "java/lang/Object"), (0, u "<init>"), (0, u "()V"), (0, .fieldref 8 9), (0, .class_ 10), (0, .nameAndType 11 12), (0, u "com/example/contiguity/contiguity/planning/FibreLoads"), (0, u "width"), (0, u "[J"), (0, .fieldref 8 14), (0, .nameAndType 15 16), (0, u "paths"), (0, u "[I"), (8, u "(I)V"), (32, u "add"), (0, u "([II)V"), (14, u "remove"), (0, u "(I)J"), (0, u "(I)I")] 3

def k2c0 : Code := { maxStack := 2, maxLocals := 2, code := prog_36_method_1_code, exceptionTable := #[], attributes := #[] }
def k2m0 : Method := { name := "<init>", desc := "(I)V", sig := { parameters := [.int], returnType := none }, accessFlags := 0, code := some k2c0 }
def k2c1 : Code := { maxStack := 6, maxLocals := 7, code := prog_36_method_3_code, exceptionTable := #[], attributes := #[] }
def k2m1 : Method := { name := "add", desc := "([II)V", sig := { parameters := [(.array .int), .int], returnType := none }, accessFlags := 0, code := some k2c1 }
def k2c2 : Code := { maxStack := 6, maxLocals := 7, code := prog_36_method_4_code, exceptionTable := #[], attributes := #[] }
def k2m2 : Method := { name := "remove", desc := "([II)V", sig := { parameters := [(.array .int), .int], returnType := none }, accessFlags := 0, code := some k2c2 }
def k2c3 : Code := { maxStack := 2, maxLocals := 2, code := prog_36_method_5_code, exceptionTable := #[], attributes := #[] }
def k2m3 : Method := { name := "width", desc := "(I)J", sig := { parameters := [.int], returnType := some .long }, accessFlags := 0, code := some k2c3 }
def k2c4 : Code := { maxStack := 2, maxLocals := 2, code := prog_36_method_6_code, exceptionTable := #[], attributes := #[] }
def k2m4 : Method := { name := "paths", desc := "(I)I", sig := { parameters := [.int], returnType := some .int }, accessFlags := 0, code := some k2c4 }
/-- com/example/contiguity/contiguity/planning/FibreLoads -/
def k2 : Class := { plain "com/example/contiguity/contiguity/planning/FibreLoads" (some 0) with
  accessFlags := 48
  interfaces := #[]
  cf := some (fileOf pool2 8 #[] #[{ accessFlags := 0, nameIndex := 5, descriptorIndex := 25, attributes := #[] }, { accessFlags := 0, nameIndex := 58, descriptorIndex := 59, attributes := #[] }, { accessFlags := 0, nameIndex := 74, descriptorIndex := 59, attributes := #[] }, { accessFlags := 0, nameIndex := 11, descriptorIndex := 75, attributes := #[] }, { accessFlags := 0, nameIndex := 15, descriptorIndex := 76, attributes := #[] }] 48 2 #[] #[{ accessFlags := 18, nameIndex := 11, descriptorIndex := 12, attributes := #[] }, { accessFlags := 18, nameIndex := 15, descriptorIndex := 16, attributes := #[] }])
  fields := #[{ name := "width", type := (.array .long), accessFlags := 18, slot := 0, constantValue := 0 }, { name := "paths", type := (.array .int), accessFlags := 18, slot := 1, constantValue := 0 }]
  methods := #[k2m0, k2m1, k2m2, k2m3, k2m4]
  instanceTypes := #[(.array .long), (.array .int)]
  staticTypes := #[]
  resolved := Array.replicate 80 none
  statics := none }

def pool3 : Array CpInfo := pool [(1, u "java/lang/Cloneable"), (0, .class_ 1), (0, u "java/lang/Object"), (0, .class_ 3)] 3

/-- java/lang/Cloneable -/
def k3 : Class := { plain "java/lang/Cloneable" (some 0) with
  accessFlags := 1537
  interfaces := #[]
  cf := some (fileOf pool3 2 #[] #[] 1537 4 #[] #[])
  fields := #[]
  methods := #[]
  instanceTypes := #[]
  staticTypes := #[]
  resolved := Array.replicate 8 none
  statics := none }

def pool4 : Array CpInfo := pool [(1, u "java/io/Serializable"), (0, .class_ 1), (0, u "java/lang/Object"), (0, .class_ 3)] 3

/-- java/io/Serializable -/
def k4 : Class := { plain "java/io/Serializable" (some 0) with
  accessFlags := 1537
  interfaces := #[]
  cf := some (fileOf pool4 2 #[] #[] 1537 4 #[] #[])
  fields := #[]
  methods := #[]
  instanceTypes := #[]
  staticTypes := #[]
  resolved := Array.replicate 8 none
  statics := none }

/-- the primitive byte -/
def k5 : Class := { plain "byte" none with kind := .primitive 'B', accessFlags := 0x411 }
/-- [B -/
def k6 : Class := { plain "[B" (some 0) with kind := .array 5 .byte, interfaces := #[3, 4], accessFlags := 1041 }

/-- the primitive int -/
def k7 : Class := { plain "int" none with kind := .primitive 'I', accessFlags := 0x411 }
/-- [I -/
def k8 : Class := { plain "[I" (some 0) with kind := .array 7 .int, interfaces := #[3, 4], accessFlags := 1041 }

/-- the primitive long -/
def k9 : Class := { plain "long" none with kind := .primitive 'J', accessFlags := 0x411 }
/-- [J -/
def k10 : Class := { plain "[J" (some 0) with kind := .array 9 .long, interfaces := #[3, 4], accessFlags := 1041 }

def heap : Heap := #[]
def classes : Array Class := #[k0, k1, k2, k3, k4, k5, k6, k7, k8, k9, k10]
def interned : List (Array UInt16 × Addr) := []
def slotsUsed : Nat := 0
def theMethod : MethodId := ⟨1, 1⟩
def args0 : Array Value := #[.int 5, .int 6, .int 7, .int 8]
def aboutOver (below : List Frame) : State where
  vm := { classes := classes, interned := interned.toArray }
  heap := heap
  slotsUsed := slotsUsed
  threads := #[{ frames := .invoking theMethod args0 :: below }]
def below0 : List Frame := [.native { method := ⟨0, 0⟩, args := #[] }]
def about1 : State := aboutOver below0
def p0 : Program := .bare "" "" ""
def e0 : Env := launch0.env 0 0 0
theorem w_frames : about1.frames = Frame.invoking theMethod args0 :: below0 := rfl
set_option maxRecDepth 65536 in
theorem w_args : argsFit about1.vm theMethod args0 = true := by decide +kernel
set_option maxRecDepth 65536 in
theorem w_heap : heapFits about1 = true := by decide +kernel
set_option maxRecDepth 65536 in
theorem w_runnable : about1.curStatus? = some .runnable := by decide +kernel
set_option maxRecDepth 65536 in
theorem w_alone : about1.alone = true := by decide +kernel
set_option maxRecDepth 65536 in
theorem w_named : about1.methodNamed? x = some theMethod := by decide +kernel
set_option maxRecDepth 65536 in
theorem w_hears : about1.hears theMethod below0 = true := by decide +kernel
set_option maxRecDepth 65536 in
theorem w_ripe : about1.ripe theMethod args0 below0 = true := by decide +kernel
theorem w_running : about1.status = .running := rfl
set_option maxRecDepth 65536 in
theorem w_room : about1.hasRoom e0.platform room_1 = true :=
  launch0.hasRoom_least _ room_1 (by decide +kernel) (by decide +kernel) (by decide +kernel) (by decide +kernel) (by decide +kernel) (by decide +kernel)
theorem allAtoms_all (ts : List Jvm.Cond) (a : Array Jvm.Value) (st : Jvm.State) : (allAtoms ts).before a st = ts.all (fun c => c.before a st) := by
  induction ts with
  | nil => rfl
  | cons c t ih =>
    show (Jvm.Cond.and c (allAtoms t)).before a st = _
    rw [Jvm.Cond.before_and, ih, List.all_cons]
def words1 : List Jvm.Cond := Jvm.Cond.code x code maxLocals ret :: tables_1
/-- a 'code' word, met by the world's own term for the bytes: nothing is compared byte by byte -/
theorem code_word {y : MethodName} {bytes : ByteArray} {mx : Nat} {rt : Option FieldType} {a : Array Value} {s : State} {m : MethodId} {meth : Method} {c : Code} (h1 : s.methodNamed? y = some m) (h2 : s.vm.method? m = some meth) (h3 : meth.code = some c) (h4 : c.code = bytes)
    (h5 : (c.maxLocals == mx && c.exceptionTable.isEmpty && decide (c.maxStack ≤ mostOperands) && decide (meth.sig.returnType = rt) && !meth.locks && decide (parseMethodDescriptor y.desc = some meth.sig)) = true) : (Jvm.Cond.code y bytes mx rt).before a s = true := by
  simp only [Bool.and_eq_true, beq_iff_eq, Bool.not_eq_true', decide_eq_true_eq] at h5
  obtain ⟨⟨⟨⟨⟨g1, g2⟩, g3⟩, g4⟩, g5⟩, g6⟩ := h5
  simp [Cond.before, Cond.holds, Cond.value, h1, h2, h3, h4, g1, g2, g3, g4, g5, g6]
def isCode : Jvm.Cond → Bool
  | .code _ _ _ _ => true
  | _ => false
theorem all_split {L : List Jvm.Cond} {P : Jvm.Cond → Bool} (h1 : L.all (fun c => isCode c || P c) = true) (h2 : ∀ c ∈ L.filter isCode, P c = true) : L.all P = true := by
  refine List.all_eq_true.mpr fun c hc => ?_
  have h := List.all_eq_true.mp h1 c hc
  rcases Bool.eq_false_or_eq_true (isCode c) with hi | hi
  · exact h2 c (List.mem_filter.mpr ⟨hc, hi⟩)
  · simpa [hi] using h
set_option maxRecDepth 65536 in
theorem w_c0 : (Jvm.Cond.code x code maxLocals ret).before args0 about1 = true := code_word (m := ⟨1, 1⟩) (meth := k1m1) (c := k1c1) (by decide +kernel) rfl rfl rfl (by decide +kernel)
set_option maxRecDepth 65536 in
theorem w_c1 : (Jvm.Cond.code ({ cls := "com/example/contiguity/contiguity/planning/FibreLoadsRemovePinLaw", name := "path", desc := "(IIII)[I" } : Jvm.MethodName) method_3_code (4 : Nat) (Option.some (Jvm.ClassFile.FieldType.array Jvm.ClassFile.FieldType.int))).before args0 about1 = true := code_word (m := ⟨1, 2⟩) (meth := k1m2) (c := k1c2) (by decide +kernel) rfl rfl rfl (by decide +kernel)
set_option maxRecDepth 65536 in
theorem w_c2 : (Jvm.Cond.code ({ cls := "com/example/contiguity/contiguity/planning/FibreLoads", name := "<init>", desc := "(I)V" } : Jvm.MethodName) prog_36_method_1_code (2 : Nat) (Option.none : Option Jvm.ClassFile.FieldType)).before args0 about1 = true := code_word (m := ⟨2, 0⟩) (meth := k2m0) (c := k2c0) (by decide +kernel) rfl rfl rfl (by decide +kernel)
set_option maxRecDepth 65536 in
theorem w_c3 : (Jvm.Cond.code ({ cls := "java/lang/Object", name := "<init>", desc := "()V" } : Jvm.MethodName) object_method_1_code (1 : Nat) (Option.none : Option Jvm.ClassFile.FieldType)).before args0 about1 = true := code_word (m := ⟨0, 0⟩) (meth := k0m0) (c := k0c0) (by decide +kernel) rfl rfl rfl (by decide +kernel)
set_option maxRecDepth 65536 in
theorem w_c4 : (Jvm.Cond.code ({ cls := "com/example/contiguity/contiguity/planning/FibreLoads", name := "add", desc := "([II)V" } : Jvm.MethodName) prog_36_method_3_code (7 : Nat) (Option.none : Option Jvm.ClassFile.FieldType)).before args0 about1 = true := code_word (m := ⟨2, 1⟩) (meth := k2m1) (c := k2c1) (by decide +kernel) rfl rfl rfl (by decide +kernel)
set_option maxRecDepth 65536 in
theorem w_c5 : (Jvm.Cond.code ({ cls := "com/example/contiguity/contiguity/planning/FibreLoads", name := "remove", desc := "([II)V" } : Jvm.MethodName) prog_36_method_4_code (7 : Nat) (Option.none : Option Jvm.ClassFile.FieldType)).before args0 about1 = true := code_word (m := ⟨2, 2⟩) (meth := k2m2) (c := k2c2) (by decide +kernel) rfl rfl rfl (by decide +kernel)
set_option maxRecDepth 65536 in
theorem w_c6 : (Jvm.Cond.code ({ cls := "com/example/contiguity/contiguity/planning/FibreLoadsRemovePinLaw", name := "holds", desc := "(Lcom/example/contiguity/contiguity/planning/FibreLoads;IIIIII)Z" } : Jvm.MethodName) method_5_code (8 : Nat) (Option.some Jvm.ClassFile.FieldType.boolean)).before args0 about1 = true := code_word (m := ⟨1, 4⟩) (meth := k1m4) (c := k1c4) (by decide +kernel) rfl rfl rfl (by decide +kernel)
set_option maxRecDepth 65536 in
theorem w_c7 : (Jvm.Cond.code ({ cls := "com/example/contiguity/contiguity/planning/FibreLoadsRemovePinLaw", name := "count", desc := "(IIIII)I" } : Jvm.MethodName) method_4_code (6 : Nat) (Option.some Jvm.ClassFile.FieldType.int)).before args0 about1 = true := code_word (m := ⟨1, 3⟩) (meth := k1m3) (c := k1c3) (by decide +kernel) rfl rfl rfl (by decide +kernel)
set_option maxRecDepth 65536 in
theorem w_c8 : (Jvm.Cond.code ({ cls := "com/example/contiguity/contiguity/planning/FibreLoads", name := "width", desc := "(I)J" } : Jvm.MethodName) prog_36_method_5_code (2 : Nat) (Option.some Jvm.ClassFile.FieldType.long)).before args0 about1 = true := code_word (m := ⟨2, 3⟩) (meth := k2m3) (c := k2c3) (by decide +kernel) rfl rfl rfl (by decide +kernel)
set_option maxRecDepth 65536 in
theorem w_c9 : (Jvm.Cond.code ({ cls := "com/example/contiguity/contiguity/planning/FibreLoads", name := "paths", desc := "(I)I" } : Jvm.MethodName) prog_36_method_6_code (2 : Nat) (Option.some Jvm.ClassFile.FieldType.int)).before args0 about1 = true := code_word (m := ⟨2, 4⟩) (meth := k2m4) (c := k2c4) (by decide +kernel) rfl rfl rfl (by decide +kernel)
def codes1 : List Jvm.Cond := [Jvm.Cond.code x code maxLocals ret, Jvm.Cond.code ({ cls := "com/example/contiguity/contiguity/planning/FibreLoadsRemovePinLaw", name := "path", desc := "(IIII)[I" } : Jvm.MethodName) method_3_code (4 : Nat) (Option.some (Jvm.ClassFile.FieldType.array Jvm.ClassFile.FieldType.int)), Jvm.Cond.code ({ cls := "com/example/contiguity/contiguity/planning/FibreLoads", name := "<init>", desc := "(I)V" } : Jvm.MethodName) prog_36_method_1_code (2 : Nat) (Option.none : Option Jvm.ClassFile.FieldType), Jvm.Cond.code ({ cls := "java/lang/Object", name := "<init>", desc := "()V" } : Jvm.MethodName) object_method_1_code (1 : Nat) (Option.none : Option Jvm.ClassFile.FieldType), Jvm.Cond.code ({ cls := "com/example/contiguity/contiguity/planning/FibreLoads", name := "add", desc := "([II)V" } : Jvm.MethodName) prog_36_method_3_code (7 : Nat) (Option.none : Option Jvm.ClassFile.FieldType), Jvm.Cond.code ({ cls := "com/example/contiguity/contiguity/planning/FibreLoads", name := "remove", desc := "([II)V" } : Jvm.MethodName) prog_36_method_4_code (7 : Nat) (Option.none : Option Jvm.ClassFile.FieldType), Jvm.Cond.code ({ cls := "com/example/contiguity/contiguity/planning/FibreLoadsRemovePinLaw", name := "holds", desc := "(Lcom/example/contiguity/contiguity/planning/FibreLoads;IIIIII)Z" } : Jvm.MethodName) method_5_code (8 : Nat) (Option.some Jvm.ClassFile.FieldType.boolean), Jvm.Cond.code ({ cls := "com/example/contiguity/contiguity/planning/FibreLoadsRemovePinLaw", name := "count", desc := "(IIIII)I" } : Jvm.MethodName) method_4_code (6 : Nat) (Option.some Jvm.ClassFile.FieldType.int), Jvm.Cond.code ({ cls := "com/example/contiguity/contiguity/planning/FibreLoads", name := "width", desc := "(I)J" } : Jvm.MethodName) prog_36_method_5_code (2 : Nat) (Option.some Jvm.ClassFile.FieldType.long), Jvm.Cond.code ({ cls := "com/example/contiguity/contiguity/planning/FibreLoads", name := "paths", desc := "(I)I" } : Jvm.MethodName) prog_36_method_6_code (2 : Nat) (Option.some Jvm.ClassFile.FieldType.int)]
set_option maxRecDepth 65536 in
theorem codes_eq : words1.filter isCode = codes1 := rfl
theorem w_codes : ∀ c ∈ words1.filter isCode, c.before args0 about1 = true := by
  rw [codes_eq]
  intro c hc
  simp only [codes1, List.mem_cons, List.not_mem_nil, or_false] at hc
  rcases hc with rfl | rfl | rfl | rfl | rfl | rfl | rfl | rfl | rfl | rfl
  · exact w_c0
  · exact w_c1
  · exact w_c2
  · exact w_c3
  · exact w_c4
  · exact w_c5
  · exact w_c6
  · exact w_c7
  · exact w_c8
  · exact w_c9
set_option maxRecDepth 65536 in
theorem w_t1 : (words1.take 24).all (fun c => isCode c || c.before args0 about1) = true := by decide +kernel
set_option maxRecDepth 65536 in
theorem w_t2 : (words1.drop 24).all (fun c => isCode c || c.before args0 about1) = true := by decide +kernel
theorem w_tables : (allAtoms (Jvm.Cond.code x code maxLocals ret :: tables_1)).before args0 about1 = true := by
  rw [allAtoms_all]
  show words1.all (fun c => c.before args0 about1) = true
  refine all_split ?_ w_codes
  rw [← List.take_append_drop 24 words1, List.all_append, w_t1, w_t2]
  rfl
set_option maxRecDepth 65536 in
theorem w_case : (Jvm.Cond.and given_1 narrow_1).before args0 about1 = true := by decide +kernel
theorem w_applies : (headSpec (Jvm.Cond.code x code maxLocals ret :: tables_1) room_1).applies x e0.platform about1 = true :=
  (Spec.applies_iff w_frames).mpr ⟨w_running, w_runnable, w_alone, w_named, w_hears, w_ripe, w_room, w_tables⟩
theorem atStart : AtStart classFile x code maxLocals ret World_1 tables_1 room_1 Calls_1 rest_1 Pre_1 launch0 p0 e0 about1 theMethod args0 below0 :=
  ⟨lists_1, trivial, launch0.admits_env _ _ _, launch0.least_env, fairChoices_fair.cas, fairChoices_fair.clock, w_frames, w_args, w_heap, w_applies, trivial, trivial, w_case⟩
end start1
theorem witness_1 : WitnessClaimed_1 := ⟨start1.p0, start1.e0, start1.about1, start1.theMethod, start1.args0, start1.below0, start1.atStart⟩
end Jvm.Pilot.@@N@@
