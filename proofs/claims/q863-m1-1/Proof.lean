import JvmDerived
import JvmDerived.Pilot.@@N@@Statement
import JvmDerived.Pilot.@@N@@Code
set_option linter.unusedVariables false
set_option linter.unusedSimpArgs false
namespace Jvm.RoadKit
open Sem ClassFile Op Lib Jvm.Stand Jvm.Free Jvm.LawKit
section New
variable {p : Program} {l : Launch} {e : Env} {R : Room} {s : State} {m : MethodId} {args : Array Value} {below : List Frame} {meth : Method} {c : Code} {T : State} {locs : List Loc} {cells slots : Nat}
theorem retI (X : Stand p l e R s m args below meth c T locs cells slots) (hx : p.tables.exec = Jvm.exec) {pc : Nat} {Ls : Array Slot} {z : Int32} {rest : List Value} (hret : meth.sig.returnType = some .int) (hd : decode c.code pc = .ok (.ireturn, 1)) {fs : List Frame}
    (hl : ∀ (f : JFrame) (acts : List Action), f.method = m → f.locked = none → f.entered = [] → (doReturn e (T.setTop f) acts (some (.int z))).1 = T.setFrames fs) : Steps p.tables e below (T.setTop (mkF m pc Ls (.int z :: rest))) (T.setFrames fs) := by
  have hm' : T.vm.method? m = some meth := X.method'
  have hn : narrow .int (.int z) = .int z := rfl
  show Steps p.tables e below (T.setTop { method := m, pc := pc, locals := Ls, stack := _ :: rest, locked := none }) _
  jvm_step X.here [X.here.top, hx, hd, hm', hret, hn]
  first | (intro acts; rw [hl _ acts rfl rfl rfl]) | rw [hl _ _ rfl rfl rfl]
  exact Steps.refl _
end New
end Jvm.RoadKit
namespace Jvm.Pilot.@@N@@
open Jvm Jvm.ClassFile Sem Op Lib Jvm.Free Jvm.Stand Jvm.LawKit Jvm.RoadKit Bundle Jvm.Pilot.@@N@@.Jvm.D
section OwnKit
variable {p : Program} {l : Launch} {e : Env} {R : Room} {s : State} {m : MethodId} {args : Array Value} {below : List Frame} {meth : Method} {c : Code} {T : State} {locs : List Loc} {cells slots : Nat} {Z : State} {a0 : Array Value} {h : Heap}
variable {Q : Option Value → Heap → List Loc → Prop} {rc rs pc : Nat} {Ls : Array Slot} {st : List Value}
def Go (p : Program) (e : Env) (below : List Frame) (s : State) (Q : Option Value → Heap → List Loc → Prop) (rc rs : Nat) (F : State) : Prop :=
  ∃ s₂ o, Steps p.tables e below F s₂ ∧ s₂.status = .running ∧ Ended s₂ below o ∧ ∃ v L, o = .returned v ∧ Q v s₂.heap L ∧ FrameEnd s o s₂ L rc rs
theorem Go.by {F F' : State} (g : Go p e below s Q rc rs F') (h : ∀ t, Steps p.tables e below F' t → Steps p.tables e below F t) : Go p e below s Q rc rs F := by
  obtain ⟨s2, o, h1, r⟩ := g
  exact ⟨s2, o, h _ h1, r⟩
def shlI (x y : Int32) : Int32 := x <<< (y &&& 31)
def shrI (x y : Int32) : Int32 := x >>> (y &&& 31)
def ushrI (x y : Int32) : Int32 := (x.toUInt32 >>> (y &&& 31).toUInt32).toInt32
def shlJ (x : Int64) (y : Int32) : Int64 := x <<< (y &&& 0x3f).toInt64
def shrJ (x : Int64) (y : Int32) : Int64 := x >>> (y &&& 0x3f).toInt64
def ushrJ (x : Int64) (y : Int32) : Int64 := (x.toUInt64 >>> (y &&& 0x3f).toInt64.toUInt64).toInt64
def i2bI (x : Int32) : Int32 := x.toInt8.toInt32
def i2cI (x : Int32) : Int32 := x.toUInt32.toUInt16.toUInt32.toInt32
def i2sI (x : Int32) : Int32 := x.toInt16.toInt32
theorem g_iload (X : Stand p l e R s m args below meth c T locs cells slots) (hx : p.tables.exec = Jvm.exec) {k : Nat} {v : Int32} (pc' : Nat) (hd : decode c.code pc = .ok (.iload k, 2)) (hl : Ls[k]? = some (.val (.int v))) (hp : pc + 2 = pc') (g : Go p e below s Q rc rs (T.setTop (mkF m pc' Ls (.int v :: st)))) : Go p e below s Q rc rs (T.setTop (mkF m pc Ls st)) := by
  subst hp; exact g.by fun t k => XS.iload X.here hx rfl hd hl k
theorem g_iloadN (X : Stand p l e R s m args below meth c T locs cells slots) (hx : p.tables.exec = Jvm.exec) {k : Fin 4} {v : Int32} (pc' : Nat) (hd : decode c.code pc = .ok (.iload_n k, 1)) (hl : Ls[k.val]? = some (.val (.int v))) (hp : pc + 1 = pc') (g : Go p e below s Q rc rs (T.setTop (mkF m pc' Ls (.int v :: st)))) : Go p e below s Q rc rs (T.setTop (mkF m pc Ls st)) := by
  subst hp; exact g.by fun t k => XS.iloadN X.here hx rfl hd hl k
theorem g_istore (X : Stand p l e R s m args below meth c T locs cells slots) (hx : p.tables.exec = Jvm.exec) {k : Nat} {v : Int32} (l' : Array Slot) (pc' : Nat) (hd : decode c.code pc = .ok (.istore k, 2)) (hl : storeLocals Ls k (.int v) = some l') (hp : pc + 2 = pc') (g : Go p e below s Q rc rs (T.setTop (mkF m pc' l' st))) : Go p e below s Q rc rs (T.setTop (mkF m pc Ls (.int v :: st))) := by
  subst hp; exact g.by fun t k => XS.istore X.here hx rfl hd rfl hl k
theorem g_istoreN (X : Stand p l e R s m args below meth c T locs cells slots) (hx : p.tables.exec = Jvm.exec) {k : Fin 4} {v : Int32} (l' : Array Slot) (pc' : Nat) (hd : decode c.code pc = .ok (.istore_n k, 1)) (hl : storeLocals Ls k.val (.int v) = some l') (hp : pc + 1 = pc') (g : Go p e below s Q rc rs (T.setTop (mkF m pc' l' st))) : Go p e below s Q rc rs (T.setTop (mkF m pc Ls (.int v :: st))) := by
  subst hp; exact g.by fun t k => XS.istoreN X.here hx rfl hd rfl hl k
theorem g_lload (X : Stand p l e R s m args below meth c T locs cells slots) (hx : p.tables.exec = Jvm.exec) {k : Nat} {v : Int64} (pc' : Nat) (hd : decode c.code pc = .ok (.lload k, 2)) (hl : Ls[k]? = some (.val (.long v))) (hp : pc + 2 = pc') (g : Go p e below s Q rc rs (T.setTop (mkF m pc' Ls (.long v :: st)))) : Go p e below s Q rc rs (T.setTop (mkF m pc Ls st)) := by
  subst hp; exact g.by fun t k => XS.lload X.here hx rfl hd hl k
theorem g_lloadN (X : Stand p l e R s m args below meth c T locs cells slots) (hx : p.tables.exec = Jvm.exec) {k : Fin 4} {v : Int64} (pc' : Nat) (hd : decode c.code pc = .ok (.lload_n k, 1)) (hl : Ls[k.val]? = some (.val (.long v))) (hp : pc + 1 = pc') (g : Go p e below s Q rc rs (T.setTop (mkF m pc' Ls (.long v :: st)))) : Go p e below s Q rc rs (T.setTop (mkF m pc Ls st)) := by
  subst hp; exact g.by fun t k => XS.lloadN X.here hx rfl hd hl k
theorem g_lstore (X : Stand p l e R s m args below meth c T locs cells slots) (hx : p.tables.exec = Jvm.exec) {k : Nat} {v : Int64} (l' : Array Slot) (pc' : Nat) (hd : decode c.code pc = .ok (.lstore k, 2)) (hl : storeLocals Ls k (.long v) = some l') (hp : pc + 2 = pc') (g : Go p e below s Q rc rs (T.setTop (mkF m pc' l' st))) : Go p e below s Q rc rs (T.setTop (mkF m pc Ls (.long v :: st))) := by
  subst hp; exact g.by fun t k => XS.lstore X.here hx rfl hd rfl hl k
theorem g_lstoreN (X : Stand p l e R s m args below meth c T locs cells slots) (hx : p.tables.exec = Jvm.exec) {k : Fin 4} {v : Int64} (l' : Array Slot) (pc' : Nat) (hd : decode c.code pc = .ok (.lstore_n k, 1)) (hl : storeLocals Ls k.val (.long v) = some l') (hp : pc + 1 = pc') (g : Go p e below s Q rc rs (T.setTop (mkF m pc' l' st))) : Go p e below s Q rc rs (T.setTop (mkF m pc Ls (.long v :: st))) := by
  subst hp; exact g.by fun t k => XS.lstoreN X.here hx rfl hd rfl hl k
theorem g_aload (X : Stand p l e R s m args below meth c T locs cells slots) (hx : p.tables.exec = Jvm.exec) {k : Nat} {v : Value} (pc' : Nat) (hd : decode c.code pc = .ok (.aload k, 2)) (hl : Ls[k]? = some (.val v)) (hv : v.isRef = true) (hp : pc + 2 = pc') (g : Go p e below s Q rc rs (T.setTop (mkF m pc' Ls (v :: st)))) : Go p e below s Q rc rs (T.setTop (mkF m pc Ls st)) := by
  subst hp; exact g.by fun t k => XS.aload X.here hx rfl hd hl hv k
theorem g_aloadN (X : Stand p l e R s m args below meth c T locs cells slots) (hx : p.tables.exec = Jvm.exec) {k : Fin 4} {v : Value} (pc' : Nat) (hd : decode c.code pc = .ok (.aload_n k, 1)) (hl : Ls[k.val]? = some (.val v)) (hv : v.isRef = true) (hp : pc + 1 = pc') (g : Go p e below s Q rc rs (T.setTop (mkF m pc' Ls (v :: st)))) : Go p e below s Q rc rs (T.setTop (mkF m pc Ls st)) := by
  subst hp; exact g.by fun t k => XS.aloadN X.here hx rfl hd hl hv k
theorem g_astore (X : Stand p l e R s m args below meth c T locs cells slots) (hx : p.tables.exec = Jvm.exec) {k : Nat} {v : Value} (l' : Array Slot) (pc' : Nat) (hd : decode c.code pc = .ok (.astore k, 2)) (hl : storeLocals Ls k v = some l') (hv : v.isRef = true) (hp : pc + 2 = pc') (g : Go p e below s Q rc rs (T.setTop (mkF m pc' l' st))) : Go p e below s Q rc rs (T.setTop (mkF m pc Ls (v :: st))) := by
  subst hp; exact g.by fun t k => XS.astore X.here hx rfl hd rfl hv hl k
theorem g_astoreN (X : Stand p l e R s m args below meth c T locs cells slots) (hx : p.tables.exec = Jvm.exec) {k : Fin 4} {v : Value} (l' : Array Slot) (pc' : Nat) (hd : decode c.code pc = .ok (.astore_n k, 1)) (hl : storeLocals Ls k.val v = some l') (hv : v.isRef = true) (hp : pc + 1 = pc') (g : Go p e below s Q rc rs (T.setTop (mkF m pc' l' st))) : Go p e below s Q rc rs (T.setTop (mkF m pc Ls (v :: st))) := by
  subst hp; exact g.by fun t k => XS.astoreN X.here hx rfl hd rfl hv hl k
theorem g_istoreS (X : Stand p l e R s m args below meth c T locs cells slots) (hx : p.tables.exec = Jvm.exec) {k : Nat} {v : Int32} {os : Slot} (l' : Array Slot) (pc' : Nat) (hd : decode c.code pc = .ok (.istore k, 2)) (hold : Ls[k]? = some os) (ho : One os) (hl : Ls.setIfInBounds k (.val (.int v)) = l') (hp : pc + 2 = pc') (g : Go p e below s Q rc rs (T.setTop (mkF m pc' l' st))) : Go p e below s Q rc rs (T.setTop (mkF m pc Ls ((.int v) :: st))) := by
  subst hp; exact g.by fun t k => XS.istore X.here hx rfl hd rfl (hl ▸ XS.store1 hold ho rfl) k
theorem g_istoreNS (X : Stand p l e R s m args below meth c T locs cells slots) (hx : p.tables.exec = Jvm.exec) {k : Fin 4} {v : Int32} {os : Slot} (l' : Array Slot) (pc' : Nat) (hd : decode c.code pc = .ok (.istore_n k, 1)) (hold : Ls[k.val]? = some os) (ho : One os) (hl : Ls.setIfInBounds k.val (.val (.int v)) = l') (hp : pc + 1 = pc') (g : Go p e below s Q rc rs (T.setTop (mkF m pc' l' st))) : Go p e below s Q rc rs (T.setTop (mkF m pc Ls ((.int v) :: st))) := by
  subst hp; exact g.by fun t k => XS.istoreN X.here hx rfl hd rfl (hl ▸ XS.store1 hold ho rfl) k
theorem g_astoreS (X : Stand p l e R s m args below meth c T locs cells slots) (hx : p.tables.exec = Jvm.exec) {k : Nat} {v : Value} {os : Slot} (l' : Array Slot) (pc' : Nat) (hd : decode c.code pc = .ok (.astore k, 2)) (hold : Ls[k]? = some os) (ho : One os) (hl : Ls.setIfInBounds k (.val v) = l') (hv : v.isRef = true) (hp : pc + 2 = pc') (g : Go p e below s Q rc rs (T.setTop (mkF m pc' l' st))) : Go p e below s Q rc rs (T.setTop (mkF m pc Ls (v :: st))) := by
  subst hp; exact g.by fun t k => XS.astore X.here hx rfl hd rfl hv (hl ▸ XS.store1 hold ho (by cases v <;> first | rfl | simp_all [Value.isRef])) k
theorem g_astoreNS (X : Stand p l e R s m args below meth c T locs cells slots) (hx : p.tables.exec = Jvm.exec) {k : Fin 4} {v : Value} {os : Slot} (l' : Array Slot) (pc' : Nat) (hd : decode c.code pc = .ok (.astore_n k, 1)) (hold : Ls[k.val]? = some os) (ho : One os) (hl : Ls.setIfInBounds k.val (.val v) = l') (hv : v.isRef = true) (hp : pc + 1 = pc') (g : Go p e below s Q rc rs (T.setTop (mkF m pc' l' st))) : Go p e below s Q rc rs (T.setTop (mkF m pc Ls (v :: st))) := by
  subst hp; exact g.by fun t k => XS.astoreN X.here hx rfl hd rfl hv (hl ▸ XS.store1 hold ho (by cases v <;> first | rfl | simp_all [Value.isRef])) k
theorem g_iconst (X : Stand p l e R s m args below meth c T locs cells slots) (hx : p.tables.exec = Jvm.exec) {i : Int} (v : Int32) (pc' : Nat) (hd : decode c.code pc = .ok (.iconst i, 1)) (hv : Int32.ofInt i = v) (hp : pc + 1 = pc') (g : Go p e below s Q rc rs (T.setTop (mkF m pc' Ls (.int v :: st)))) : Go p e below s Q rc rs (T.setTop (mkF m pc Ls st)) := by
  subst hp hv; exact g.by fun t k => XS.iconst X.here hx rfl hd k
theorem g_bipush (X : Stand p l e R s m args below meth c T locs cells slots) (hx : p.tables.exec = Jvm.exec) {i : Int} (v : Int32) (pc' : Nat) (hd : decode c.code pc = .ok (.bipush i, 2)) (hv : (Int8.ofInt i).toInt32 = v) (hp : pc + 2 = pc') (g : Go p e below s Q rc rs (T.setTop (mkF m pc' Ls (.int v :: st)))) : Go p e below s Q rc rs (T.setTop (mkF m pc Ls st)) := by
  subst hp hv; exact g.by fun t k => XS.bipush X.here hx rfl hd k
theorem g_sipush (X : Stand p l e R s m args below meth c T locs cells slots) (hx : p.tables.exec = Jvm.exec) {i : Int} (v : Int32) (pc' : Nat) (hd : decode c.code pc = .ok (.sipush i, 3)) (hv : (Int16.ofInt i).toInt32 = v) (hp : pc + 3 = pc') (g : Go p e below s Q rc rs (T.setTop (mkF m pc' Ls (.int v :: st)))) : Go p e below s Q rc rs (T.setTop (mkF m pc Ls st)) := by
  subst hp hv; exact g.by fun t k => XS.sipush X.here hx rfl hd k
theorem g_lconst (X : Stand p l e R s m args below meth c T locs cells slots) (hx : p.tables.exec = Jvm.exec) {i : Fin 2} (v : Int64) (pc' : Nat) (hd : decode c.code pc = .ok (.lconst i, 1)) (hv : Int64.ofNat i = v) (hp : pc + 1 = pc') (g : Go p e below s Q rc rs (T.setTop (mkF m pc' Ls (.long v :: st)))) : Go p e below s Q rc rs (T.setTop (mkF m pc Ls st)) := by
  subst hp hv; exact g.by fun t k => XS.lconst X.here hx rfl hd k
theorem g_aconst_null (X : Stand p l e R s m args below meth c T locs cells slots) (hx : p.tables.exec = Jvm.exec) (pc' : Nat) (hd : decode c.code pc = .ok (.aconst_null, 1)) (hp : pc + 1 = pc') (g : Go p e below s Q rc rs (T.setTop (mkF m pc' Ls (.null :: st)))) : Go p e below s Q rc rs (T.setTop (mkF m pc Ls st)) := by
  subst hp; exact g.by fun t k => XS.aconstNull X.here hx rfl hd k
theorem g_ldc (X : Stand p l e R s m args below meth c T locs cells slots) (hx : p.tables.exec = Jvm.exec) (hZ : Z.Warmed39 s.vm) {own : String} {i : Nat} {v : Int32} (hown : s.vm.findClass own = some m.cls) (w : (Cond.constant own i v).before a0 Z = true) (pc' : Nat) (hd : decode c.code pc = .ok (.ldc i, 2)) (hp : pc + 2 = pc') (g : Go p e below s Q rc rs (T.setTop (mkF m pc' Ls (.int v :: st)))) : Go p e below s Q rc rs (T.setTop (mkF m pc Ls st)) := by
  subst hp; exact g.by fun t k => X.ldcInt hx hown (mvT hZ w) (g := mkF m pc Ls st) rfl hd t k
theorem g_ldc_w (X : Stand p l e R s m args below meth c T locs cells slots) (hx : p.tables.exec = Jvm.exec) (hZ : Z.Warmed39 s.vm) {own : String} {i : Nat} {v : Int32} (hown : s.vm.findClass own = some m.cls) (w : (Cond.constant own i v).before a0 Z = true) (pc' : Nat) (hd : decode c.code pc = .ok (.ldc_w i, 3)) (hp : pc + 3 = pc') (g : Go p e below s Q rc rs (T.setTop (mkF m pc' Ls (.int v :: st)))) : Go p e below s Q rc rs (T.setTop (mkF m pc Ls st)) := by
  subst hp; exact g.by fun t k => X.ldcwInt hx hown (mvT hZ w) (g := mkF m pc Ls st) rfl hd t k
theorem g_ldc2_w (X : Stand p l e R s m args below meth c T locs cells slots) (hx : p.tables.exec = Jvm.exec) (hZ : Z.Warmed39 s.vm) {own : String} {i : Nat} {v : Int64} (hown : s.vm.findClass own = some m.cls) (w : (Cond.constantLong own i v).before a0 Z = true) (pc' : Nat) (hd : decode c.code pc = .ok (.ldc2_w i, 3)) (hp : pc + 3 = pc') (g : Go p e below s Q rc rs (T.setTop (mkF m pc' Ls (.long v :: st)))) : Go p e below s Q rc rs (T.setTop (mkF m pc Ls st)) := by
  subst hp; exact g.by fun t k => X.ldc2Long hx hown (mvT hZ w) (g := mkF m pc Ls st) rfl hd t k
theorem g_iadd (X : Stand p l e R s m args below meth c T locs cells slots) (hx : p.tables.exec = Jvm.exec) {x y : Int32} (pc' : Nat) (hd : decode c.code pc = .ok (.iadd, 1)) (hp : pc + 1 = pc') (g : Go p e below s Q rc rs (T.setTop (mkF m pc' Ls (.int (x + y) :: st)))) : Go p e below s Q rc rs (T.setTop (mkF m pc Ls (.int y :: .int x :: st))) := by
  subst hp; exact g.by fun t k => XS.iadd X.here hx rfl hd rfl k
theorem g_isub (X : Stand p l e R s m args below meth c T locs cells slots) (hx : p.tables.exec = Jvm.exec) {x y : Int32} (pc' : Nat) (hd : decode c.code pc = .ok (.isub, 1)) (hp : pc + 1 = pc') (g : Go p e below s Q rc rs (T.setTop (mkF m pc' Ls (.int (x - y) :: st)))) : Go p e below s Q rc rs (T.setTop (mkF m pc Ls (.int y :: .int x :: st))) := by
  subst hp; exact g.by fun t k => XS.isub X.here hx rfl hd rfl k
theorem g_imul (X : Stand p l e R s m args below meth c T locs cells slots) (hx : p.tables.exec = Jvm.exec) {x y : Int32} (pc' : Nat) (hd : decode c.code pc = .ok (.imul, 1)) (hp : pc + 1 = pc') (g : Go p e below s Q rc rs (T.setTop (mkF m pc' Ls (.int (x * y) :: st)))) : Go p e below s Q rc rs (T.setTop (mkF m pc Ls (.int y :: .int x :: st))) := by
  subst hp; exact g.by fun t k => XS.imul X.here hx rfl hd rfl k
theorem g_iand (X : Stand p l e R s m args below meth c T locs cells slots) (hx : p.tables.exec = Jvm.exec) {x y : Int32} (pc' : Nat) (hd : decode c.code pc = .ok (.iand, 1)) (hp : pc + 1 = pc') (g : Go p e below s Q rc rs (T.setTop (mkF m pc' Ls (.int (x &&& y) :: st)))) : Go p e below s Q rc rs (T.setTop (mkF m pc Ls (.int y :: .int x :: st))) := by
  subst hp; exact g.by fun t k => XS.iand X.here hx rfl hd rfl k
theorem g_ior (X : Stand p l e R s m args below meth c T locs cells slots) (hx : p.tables.exec = Jvm.exec) {x y : Int32} (pc' : Nat) (hd : decode c.code pc = .ok (.ior, 1)) (hp : pc + 1 = pc') (g : Go p e below s Q rc rs (T.setTop (mkF m pc' Ls (.int (x ||| y) :: st)))) : Go p e below s Q rc rs (T.setTop (mkF m pc Ls (.int y :: .int x :: st))) := by
  subst hp; exact g.by fun t k => XS.ior X.here hx rfl hd rfl k
theorem g_ixor (X : Stand p l e R s m args below meth c T locs cells slots) (hx : p.tables.exec = Jvm.exec) {x y : Int32} (pc' : Nat) (hd : decode c.code pc = .ok (.ixor, 1)) (hp : pc + 1 = pc') (g : Go p e below s Q rc rs (T.setTop (mkF m pc' Ls (.int (x ^^^ y) :: st)))) : Go p e below s Q rc rs (T.setTop (mkF m pc Ls (.int y :: .int x :: st))) := by
  subst hp; exact g.by fun t k => XS.ixor X.here hx rfl hd rfl k
theorem g_ineg (X : Stand p l e R s m args below meth c T locs cells slots) (hx : p.tables.exec = Jvm.exec) {x : Int32} (pc' : Nat) (hd : decode c.code pc = .ok (.ineg, 1)) (hp : pc + 1 = pc') (g : Go p e below s Q rc rs (T.setTop (mkF m pc' Ls (.int (-x) :: st)))) : Go p e below s Q rc rs (T.setTop (mkF m pc Ls (.int x :: st))) := by
  subst hp; exact g.by fun t k => XS.ineg X.here hx rfl hd rfl k
theorem g_idiv (X : Stand p l e R s m args below meth c T locs cells slots) (hx : p.tables.exec = Jvm.exec) {x y : Int32} (pc' : Nat) (hd : decode c.code pc = .ok (.idiv, 1)) (hy : y ≠ 0) (hp : pc + 1 = pc') (g : Go p e below s Q rc rs (T.setTop (mkF m pc' Ls (.int (x / y) :: st)))) : Go p e below s Q rc rs (T.setTop (mkF m pc Ls (.int y :: .int x :: st))) := by
  subst hp; exact g.by fun t k => XS.idiv X.here hx rfl hd rfl hy k
theorem g_ladd (X : Stand p l e R s m args below meth c T locs cells slots) (hx : p.tables.exec = Jvm.exec) {x y : Int64} (pc' : Nat) (hd : decode c.code pc = .ok (.ladd, 1)) (hp : pc + 1 = pc') (g : Go p e below s Q rc rs (T.setTop (mkF m pc' Ls (.long (x + y) :: st)))) : Go p e below s Q rc rs (T.setTop (mkF m pc Ls (.long y :: .long x :: st))) := by
  subst hp; exact g.by fun t k => XS.ladd X.here hx rfl hd rfl k
theorem g_lsub (X : Stand p l e R s m args below meth c T locs cells slots) (hx : p.tables.exec = Jvm.exec) {x y : Int64} (pc' : Nat) (hd : decode c.code pc = .ok (.lsub, 1)) (hp : pc + 1 = pc') (g : Go p e below s Q rc rs (T.setTop (mkF m pc' Ls (.long (x - y) :: st)))) : Go p e below s Q rc rs (T.setTop (mkF m pc Ls (.long y :: .long x :: st))) := by
  subst hp; exact g.by fun t k => XS.lsub X.here hx rfl hd rfl k
theorem g_lmul (X : Stand p l e R s m args below meth c T locs cells slots) (hx : p.tables.exec = Jvm.exec) {x y : Int64} (pc' : Nat) (hd : decode c.code pc = .ok (.lmul, 1)) (hp : pc + 1 = pc') (g : Go p e below s Q rc rs (T.setTop (mkF m pc' Ls (.long (x * y) :: st)))) : Go p e below s Q rc rs (T.setTop (mkF m pc Ls (.long y :: .long x :: st))) := by
  subst hp; exact g.by fun t k => XS.lmul X.here hx rfl hd rfl k
theorem g_land (X : Stand p l e R s m args below meth c T locs cells slots) (hx : p.tables.exec = Jvm.exec) {x y : Int64} (pc' : Nat) (hd : decode c.code pc = .ok (.land, 1)) (hp : pc + 1 = pc') (g : Go p e below s Q rc rs (T.setTop (mkF m pc' Ls (.long (x &&& y) :: st)))) : Go p e below s Q rc rs (T.setTop (mkF m pc Ls (.long y :: .long x :: st))) := by
  subst hp; exact g.by fun t k => XS.land X.here hx rfl hd rfl k
theorem g_lor (X : Stand p l e R s m args below meth c T locs cells slots) (hx : p.tables.exec = Jvm.exec) {x y : Int64} (pc' : Nat) (hd : decode c.code pc = .ok (.lor, 1)) (hp : pc + 1 = pc') (g : Go p e below s Q rc rs (T.setTop (mkF m pc' Ls (.long (x ||| y) :: st)))) : Go p e below s Q rc rs (T.setTop (mkF m pc Ls (.long y :: .long x :: st))) := by
  subst hp; exact g.by fun t k => XS.lor X.here hx rfl hd rfl k
theorem g_lxor (X : Stand p l e R s m args below meth c T locs cells slots) (hx : p.tables.exec = Jvm.exec) {x y : Int64} (pc' : Nat) (hd : decode c.code pc = .ok (.lxor, 1)) (hp : pc + 1 = pc') (g : Go p e below s Q rc rs (T.setTop (mkF m pc' Ls (.long (x ^^^ y) :: st)))) : Go p e below s Q rc rs (T.setTop (mkF m pc Ls (.long y :: .long x :: st))) := by
  subst hp; exact g.by fun t k => XS.lxor X.here hx rfl hd rfl k
theorem g_lneg (X : Stand p l e R s m args below meth c T locs cells slots) (hx : p.tables.exec = Jvm.exec) {x : Int64} (pc' : Nat) (hd : decode c.code pc = .ok (.lneg, 1)) (hp : pc + 1 = pc') (g : Go p e below s Q rc rs (T.setTop (mkF m pc' Ls (.long (-x) :: st)))) : Go p e below s Q rc rs (T.setTop (mkF m pc Ls (.long x :: st))) := by
  subst hp; exact g.by fun t k => XS.lneg X.here hx rfl hd rfl k
theorem g_ldiv (X : Stand p l e R s m args below meth c T locs cells slots) (hx : p.tables.exec = Jvm.exec) {x y : Int64} (pc' : Nat) (hd : decode c.code pc = .ok (.ldiv, 1)) (hy : y ≠ 0) (hp : pc + 1 = pc') (g : Go p e below s Q rc rs (T.setTop (mkF m pc' Ls (.long (x / y) :: st)))) : Go p e below s Q rc rs (T.setTop (mkF m pc Ls (.long y :: .long x :: st))) := by
  subst hp; exact g.by fun t k => XS.ldiv X.here hx rfl hd rfl hy k
theorem g_irem (X : Stand p l e R s m args below meth c T locs cells slots) (hx : p.tables.exec = Jvm.exec) {x y : Int32} (pc' : Nat) (hd : decode c.code pc = .ok (.irem, 1)) (hy : y ≠ 0) (hp : pc + 1 = pc') (g : Go p e below s Q rc rs (T.setTop (mkF m pc' Ls (.int (x % y) :: st)))) : Go p e below s Q rc rs (T.setTop (mkF m pc Ls (.int y :: .int x :: st))) := by
  subst hp; exact g.by fun t k => iremM X hx rfl hd rfl hy k
theorem g_lrem (X : Stand p l e R s m args below meth c T locs cells slots) (hx : p.tables.exec = Jvm.exec) {x y : Int64} (pc' : Nat) (hd : decode c.code pc = .ok (.lrem, 1)) (hy : y ≠ 0) (hp : pc + 1 = pc') (g : Go p e below s Q rc rs (T.setTop (mkF m pc' Ls (.long (x % y) :: st)))) : Go p e below s Q rc rs (T.setTop (mkF m pc Ls (.long y :: .long x :: st))) := by
  subst hp; exact g.by fun t k => XS.lrem X.here hx rfl hd rfl hy (by rw [lrem_mod]; exact k)
theorem g_ishl (X : Stand p l e R s m args below meth c T locs cells slots) (hx : p.tables.exec = Jvm.exec) {x : Int32} {y : Int32} (pc' : Nat) (hd : decode c.code pc = .ok (.ishl, 1)) (hp : pc + 1 = pc') (g : Go p e below s Q rc rs (T.setTop (mkF m pc' Ls (.int (shlI x y) :: st)))) : Go p e below s Q rc rs (T.setTop (mkF m pc Ls (.int y :: .int x :: st))) := by
  subst hp; exact g.by fun t k => XS.ishl X.here hx rfl hd rfl k
theorem g_ishr (X : Stand p l e R s m args below meth c T locs cells slots) (hx : p.tables.exec = Jvm.exec) {x : Int32} {y : Int32} (pc' : Nat) (hd : decode c.code pc = .ok (.ishr, 1)) (hp : pc + 1 = pc') (g : Go p e below s Q rc rs (T.setTop (mkF m pc' Ls (.int (shrI x y) :: st)))) : Go p e below s Q rc rs (T.setTop (mkF m pc Ls (.int y :: .int x :: st))) := by
  subst hp; exact g.by fun t k => XS.ishr X.here hx rfl hd rfl k
theorem g_iushr (X : Stand p l e R s m args below meth c T locs cells slots) (hx : p.tables.exec = Jvm.exec) {x : Int32} {y : Int32} (pc' : Nat) (hd : decode c.code pc = .ok (.iushr, 1)) (hp : pc + 1 = pc') (g : Go p e below s Q rc rs (T.setTop (mkF m pc' Ls (.int (ushrI x y) :: st)))) : Go p e below s Q rc rs (T.setTop (mkF m pc Ls (.int y :: .int x :: st))) := by
  subst hp; exact g.by fun t k => XS.iushr X.here hx rfl hd rfl k
theorem g_lshl (X : Stand p l e R s m args below meth c T locs cells slots) (hx : p.tables.exec = Jvm.exec) {x : Int64} {y : Int32} (pc' : Nat) (hd : decode c.code pc = .ok (.lshl, 1)) (hp : pc + 1 = pc') (g : Go p e below s Q rc rs (T.setTop (mkF m pc' Ls (.long (shlJ x y) :: st)))) : Go p e below s Q rc rs (T.setTop (mkF m pc Ls (.int y :: .long x :: st))) := by
  subst hp; exact g.by fun t k => XS.lshl X.here hx rfl hd rfl k
theorem g_lshr (X : Stand p l e R s m args below meth c T locs cells slots) (hx : p.tables.exec = Jvm.exec) {x : Int64} {y : Int32} (pc' : Nat) (hd : decode c.code pc = .ok (.lshr, 1)) (hp : pc + 1 = pc') (g : Go p e below s Q rc rs (T.setTop (mkF m pc' Ls (.long (shrJ x y) :: st)))) : Go p e below s Q rc rs (T.setTop (mkF m pc Ls (.int y :: .long x :: st))) := by
  subst hp; exact g.by fun t k => XS.lshr X.here hx rfl hd rfl k
theorem g_lushr (X : Stand p l e R s m args below meth c T locs cells slots) (hx : p.tables.exec = Jvm.exec) {x : Int64} {y : Int32} (pc' : Nat) (hd : decode c.code pc = .ok (.lushr, 1)) (hp : pc + 1 = pc') (g : Go p e below s Q rc rs (T.setTop (mkF m pc' Ls (.long (ushrJ x y) :: st)))) : Go p e below s Q rc rs (T.setTop (mkF m pc Ls (.int y :: .long x :: st))) := by
  subst hp; exact g.by fun t k => XS.lushr X.here hx rfl hd rfl k
theorem g_i2l (X : Stand p l e R s m args below meth c T locs cells slots) (hx : p.tables.exec = Jvm.exec) {x : Int32} (pc' : Nat) (hd : decode c.code pc = .ok (.i2l, 1)) (hp : pc + 1 = pc') (g : Go p e below s Q rc rs (T.setTop (mkF m pc' Ls (.long (x.toInt64) :: st)))) : Go p e below s Q rc rs (T.setTop (mkF m pc Ls (.int x :: st))) := by
  subst hp; exact g.by fun t k => XS.i2l X.here hx rfl hd rfl k
theorem g_l2i (X : Stand p l e R s m args below meth c T locs cells slots) (hx : p.tables.exec = Jvm.exec) {x : Int64} (pc' : Nat) (hd : decode c.code pc = .ok (.l2i, 1)) (hp : pc + 1 = pc') (g : Go p e below s Q rc rs (T.setTop (mkF m pc' Ls (.int (x.toInt32) :: st)))) : Go p e below s Q rc rs (T.setTop (mkF m pc Ls (.long x :: st))) := by
  subst hp; exact g.by fun t k => XS.l2i X.here hx rfl hd rfl k
theorem g_i2b (X : Stand p l e R s m args below meth c T locs cells slots) (hx : p.tables.exec = Jvm.exec) {x : Int32} (pc' : Nat) (hd : decode c.code pc = .ok (.i2b, 1)) (hp : pc + 1 = pc') (g : Go p e below s Q rc rs (T.setTop (mkF m pc' Ls (.int (i2bI x) :: st)))) : Go p e below s Q rc rs (T.setTop (mkF m pc Ls (.int x :: st))) := by
  subst hp; exact g.by fun t k => XS.i2b X.here hx rfl hd rfl k
theorem g_i2c (X : Stand p l e R s m args below meth c T locs cells slots) (hx : p.tables.exec = Jvm.exec) {x : Int32} (pc' : Nat) (hd : decode c.code pc = .ok (.i2c, 1)) (hp : pc + 1 = pc') (g : Go p e below s Q rc rs (T.setTop (mkF m pc' Ls (.int (i2cI x) :: st)))) : Go p e below s Q rc rs (T.setTop (mkF m pc Ls (.int x :: st))) := by
  subst hp; exact g.by fun t k => XS.i2c X.here hx rfl hd rfl k
theorem g_i2s (X : Stand p l e R s m args below meth c T locs cells slots) (hx : p.tables.exec = Jvm.exec) {x : Int32} (pc' : Nat) (hd : decode c.code pc = .ok (.i2s, 1)) (hp : pc + 1 = pc') (g : Go p e below s Q rc rs (T.setTop (mkF m pc' Ls (.int (i2sI x) :: st)))) : Go p e below s Q rc rs (T.setTop (mkF m pc Ls (.int x :: st))) := by
  subst hp; exact g.by fun t k => XS.i2s X.here hx rfl hd rfl k
theorem g_lcmp (X : Stand p l e R s m args below meth c T locs cells slots) (hx : p.tables.exec = Jvm.exec) {x y : Int64} (pc' : Nat) (hd : decode c.code pc = .ok (.lcmp, 1)) (hp : pc + 1 = pc') (g : Go p e below s Q rc rs (T.setTop (mkF m pc' Ls (.int (lcmpW x y) :: st)))) : Go p e below s Q rc rs (T.setTop (mkF m pc Ls (.long y :: .long x :: st))) := by
  subst hp; exact g.by fun t k => XS.lcmp X.here hx rfl hd rfl k
theorem g_iinc (X : Stand p l e R s m args below meth c T locs cells slots) (hx : p.tables.exec = Jvm.exec) {k : Nat} {i : Int} {x : Int32} (v : Int32) (l' : Array Slot) (pc' : Nat) (hd : decode c.code pc = .ok (.iinc k i, 3)) (hv : Int32.ofInt i = v) (hl : Ls[k]? = some (.val (.int x))) (hl' : storeLocals Ls k (.int (x + v)) = some l') (hp : pc + 3 = pc') (g : Go p e below s Q rc rs (T.setTop (mkF m pc' l' st))) : Go p e below s Q rc rs (T.setTop (mkF m pc Ls st)) := by
  subst hp hv; exact g.by fun t k => XS.iinc X.here hx rfl hd hl hl' k
theorem g_dup (X : Stand p l e R s m args below meth c T locs cells slots) (hx : p.tables.exec = Jvm.exec) {x : Value} (pc' : Nat) (hd : decode c.code pc = .ok (.dup, 1)) (hc : x.category = 1) (hp : pc + 1 = pc') (g : Go p e below s Q rc rs (T.setTop (mkF m pc' Ls (x :: x :: st)))) : Go p e below s Q rc rs (T.setTop (mkF m pc Ls (x :: st))) := by
  subst hp; exact g.by fun t k => XS.dup X.here hx rfl hd rfl hc k
theorem g_pop (X : Stand p l e R s m args below meth c T locs cells slots) (hx : p.tables.exec = Jvm.exec) {x : Value} (pc' : Nat) (hd : decode c.code pc = .ok (.pop, 1)) (hc : x.category = 1) (hp : pc + 1 = pc') (g : Go p e below s Q rc rs (T.setTop (mkF m pc' Ls st))) : Go p e below s Q rc rs (T.setTop (mkF m pc Ls (x :: st))) := by
  subst hp; exact g.by fun t k => XS.pop X.here hx rfl hd rfl hc k
theorem g_dup_x1 (X : Stand p l e R s m args below meth c T locs cells slots) (hx : p.tables.exec = Jvm.exec) {x y : Value} (pc' : Nat) (hd : decode c.code pc = .ok (.dup_x1, 1)) (hc : x.category = 1) (hc2 : y.category = 1) (hp : pc + 1 = pc') (g : Go p e below s Q rc rs (T.setTop (mkF m pc' Ls (x :: y :: x :: st)))) : Go p e below s Q rc rs (T.setTop (mkF m pc Ls (x :: y :: st))) := by
  subst hp; exact g.by fun t k => XS.dupX1 X.here hx rfl hd rfl hc hc2 k
theorem g_dup2 (X : Stand p l e R s m args below meth c T locs cells slots) (hx : p.tables.exec = Jvm.exec) {x y : Value} (pc' : Nat) (hd : decode c.code pc = .ok (.dup2, 1)) (hc : x.category = 1) (hc2 : y.category = 1) (hp : pc + 1 = pc') (g : Go p e below s Q rc rs (T.setTop (mkF m pc' Ls (x :: y :: x :: y :: st)))) : Go p e below s Q rc rs (T.setTop (mkF m pc Ls (x :: y :: st))) := by
  subst hp; exact g.by fun t k => XT.dup2 X.here hx rfl hd rfl hc hc2 k
theorem g_dup2L (X : Stand p l e R s m args below meth c T locs cells slots) (hx : p.tables.exec = Jvm.exec) {x : Int64} (pc' : Nat) (hd : decode c.code pc = .ok (.dup2, 1)) (hp : pc + 1 = pc') (g : Go p e below s Q rc rs (T.setTop (mkF m pc' Ls (.long x :: .long x :: st)))) : Go p e below s Q rc rs (T.setTop (mkF m pc Ls (.long x :: st))) := by
  subst hp; exact g.by fun t k => XT.dup2L X.here hx rfl hd rfl k
theorem g_pop2L (X : Stand p l e R s m args below meth c T locs cells slots) (hx : p.tables.exec = Jvm.exec) {x : Int64} (pc' : Nat) (hd : decode c.code pc = .ok (.pop2, 1)) (hp : pc + 1 = pc') (g : Go p e below s Q rc rs (T.setTop (mkF m pc' Ls st))) : Go p e below s Q rc rs (T.setTop (mkF m pc Ls (.long x :: st))) := by
  subst hp; refine g.by fun t k => ?_
  jvm_step X.here [X.here.top, hx, hd, Value.category]
  exact k
theorem g_goto (X : Stand p l e R s m args below meth c T locs cells slots) (hx : p.tables.exec = Jvm.exec) {o : Int} (pc' : Nat) (hd : decode c.code pc = .ok (.goto o, 3)) (ho : 0 ≤ (pc : Int) + o) (hp : ((pc : Int) + o).toNat = pc') (g : Go p e below s Q rc rs (T.setTop (mkF m pc' Ls st))) : Go p e below s Q rc rs (T.setTop (mkF m pc Ls st)) := by
  subst hp; exact g.by fun t k => XS.goto X.here hx rfl rfl hd ho rfl k
theorem g_icmp_lt (X : Stand p l e R s m args below meth c T locs cells slots) (hx : p.tables.exec = Jvm.exec) {x y : Int32} {o : Int} (pcY pcN : Nat) (hd : decode c.code pc = .ok (.if_icmp .lt o, 3)) (ho : 0 ≤ (pc : Int) + o) (hY : ((pc : Int) + o).toNat = pcY) (hN : pc + 3 = pcN) (gp : x < y → Go p e below s Q rc rs (T.setTop (mkF m pcY Ls st))) (gn : ¬ x < y → Go p e below s Q rc rs (T.setTop (mkF m pcN Ls st))) : Go p e below s Q rc rs (T.setTop (mkF m pc Ls (.int y :: .int x :: st))) := by
  subst hY hN
  by_cases q : x < y
  · exact (gp q).by fun t k => XS.icmpYes X.here hx rfl rfl hd rfl (tlt q).1 ho rfl k
  · exact (gn q).by fun t k => XS.icmpNo X.here hx rfl hd rfl (flt q).1 k
theorem g_if0_lt (X : Stand p l e R s m args below meth c T locs cells slots) (hx : p.tables.exec = Jvm.exec) {x : Int32} {o : Int} (pcY pcN : Nat) (hd : decode c.code pc = .ok (.ifCond .lt o, 3)) (ho : 0 ≤ (pc : Int) + o) (hY : ((pc : Int) + o).toNat = pcY) (hN : pc + 3 = pcN) (gp : x < 0 → Go p e below s Q rc rs (T.setTop (mkF m pcY Ls st))) (gn : ¬ x < 0 → Go p e below s Q rc rs (T.setTop (mkF m pcN Ls st))) : Go p e below s Q rc rs (T.setTop (mkF m pc Ls (.int x :: st))) := by
  subst hY hN
  by_cases q : x < 0
  · exact (gp q).by fun t k => XS.ifYes X.here hx rfl rfl hd rfl ((if0 _ _).trans (tlt q).1) ho rfl k
  · exact (gn q).by fun t k => XS.ifNo X.here hx rfl hd rfl ((if0 _ _).trans (flt q).1) k
theorem g_lc_lt (X : Stand p l e R s m args below meth c T locs cells slots) (hx : p.tables.exec = Jvm.exec) {x y : Int64} {o : Int} (pcY pcN : Nat) (hd : decode c.code pc = .ok (.ifCond .lt o, 3)) (ho : 0 ≤ (pc : Int) + o) (hY : ((pc : Int) + o).toNat = pcY) (hN : pc + 3 = pcN) (gp : x < y → Go p e below s Q rc rs (T.setTop (mkF m pcY Ls st))) (gn : ¬ x < y → Go p e below s Q rc rs (T.setTop (mkF m pcN Ls st))) : Go p e below s Q rc rs (T.setTop (mkF m pc Ls (.int (lcmpW x y) :: st))) :=
  g_if0_lt X hx pcY pcN hd ho hY hN (fun q => gp ((lw_lt x y).1 q)) (fun q => gn fun r => q ((lw_lt x y).2 r))
theorem g_icmp_ge (X : Stand p l e R s m args below meth c T locs cells slots) (hx : p.tables.exec = Jvm.exec) {x y : Int32} {o : Int} (pcY pcN : Nat) (hd : decode c.code pc = .ok (.if_icmp .ge o, 3)) (ho : 0 ≤ (pc : Int) + o) (hY : ((pc : Int) + o).toNat = pcY) (hN : pc + 3 = pcN) (gp : x < y → Go p e below s Q rc rs (T.setTop (mkF m pcN Ls st))) (gn : ¬ x < y → Go p e below s Q rc rs (T.setTop (mkF m pcY Ls st))) : Go p e below s Q rc rs (T.setTop (mkF m pc Ls (.int y :: .int x :: st))) := by
  subst hY hN
  by_cases q : x < y
  · exact (gp q).by fun t k => XS.icmpNo X.here hx rfl hd rfl (tlt q).2.1 k
  · exact (gn q).by fun t k => XS.icmpYes X.here hx rfl rfl hd rfl (flt q).2.1 ho rfl k
theorem g_if0_ge (X : Stand p l e R s m args below meth c T locs cells slots) (hx : p.tables.exec = Jvm.exec) {x : Int32} {o : Int} (pcY pcN : Nat) (hd : decode c.code pc = .ok (.ifCond .ge o, 3)) (ho : 0 ≤ (pc : Int) + o) (hY : ((pc : Int) + o).toNat = pcY) (hN : pc + 3 = pcN) (gp : x < 0 → Go p e below s Q rc rs (T.setTop (mkF m pcN Ls st))) (gn : ¬ x < 0 → Go p e below s Q rc rs (T.setTop (mkF m pcY Ls st))) : Go p e below s Q rc rs (T.setTop (mkF m pc Ls (.int x :: st))) := by
  subst hY hN
  by_cases q : x < 0
  · exact (gp q).by fun t k => XS.ifNo X.here hx rfl hd rfl ((if0 _ _).trans (tlt q).2.1) k
  · exact (gn q).by fun t k => XS.ifYes X.here hx rfl rfl hd rfl ((if0 _ _).trans (flt q).2.1) ho rfl k
theorem g_lc_ge (X : Stand p l e R s m args below meth c T locs cells slots) (hx : p.tables.exec = Jvm.exec) {x y : Int64} {o : Int} (pcY pcN : Nat) (hd : decode c.code pc = .ok (.ifCond .ge o, 3)) (ho : 0 ≤ (pc : Int) + o) (hY : ((pc : Int) + o).toNat = pcY) (hN : pc + 3 = pcN) (gp : x < y → Go p e below s Q rc rs (T.setTop (mkF m pcN Ls st))) (gn : ¬ x < y → Go p e below s Q rc rs (T.setTop (mkF m pcY Ls st))) : Go p e below s Q rc rs (T.setTop (mkF m pc Ls (.int (lcmpW x y) :: st))) :=
  g_if0_ge X hx pcY pcN hd ho hY hN (fun q => gp ((lw_lt x y).1 q)) (fun q => gn fun r => q ((lw_lt x y).2 r))
theorem g_icmp_gt (X : Stand p l e R s m args below meth c T locs cells slots) (hx : p.tables.exec = Jvm.exec) {x y : Int32} {o : Int} (pcY pcN : Nat) (hd : decode c.code pc = .ok (.if_icmp .gt o, 3)) (ho : 0 ≤ (pc : Int) + o) (hY : ((pc : Int) + o).toNat = pcY) (hN : pc + 3 = pcN) (gp : y < x → Go p e below s Q rc rs (T.setTop (mkF m pcY Ls st))) (gn : ¬ y < x → Go p e below s Q rc rs (T.setTop (mkF m pcN Ls st))) : Go p e below s Q rc rs (T.setTop (mkF m pc Ls (.int y :: .int x :: st))) := by
  subst hY hN
  by_cases q : y < x
  · exact (gp q).by fun t k => XS.icmpYes X.here hx rfl rfl hd rfl (tlt q).2.2.1 ho rfl k
  · exact (gn q).by fun t k => XS.icmpNo X.here hx rfl hd rfl (flt q).2.2.1 k
theorem g_if0_gt (X : Stand p l e R s m args below meth c T locs cells slots) (hx : p.tables.exec = Jvm.exec) {x : Int32} {o : Int} (pcY pcN : Nat) (hd : decode c.code pc = .ok (.ifCond .gt o, 3)) (ho : 0 ≤ (pc : Int) + o) (hY : ((pc : Int) + o).toNat = pcY) (hN : pc + 3 = pcN) (gp : 0 < x → Go p e below s Q rc rs (T.setTop (mkF m pcY Ls st))) (gn : ¬ 0 < x → Go p e below s Q rc rs (T.setTop (mkF m pcN Ls st))) : Go p e below s Q rc rs (T.setTop (mkF m pc Ls (.int x :: st))) := by
  subst hY hN
  by_cases q : 0 < x
  · exact (gp q).by fun t k => XS.ifYes X.here hx rfl rfl hd rfl ((if0 _ _).trans (tlt q).2.2.1) ho rfl k
  · exact (gn q).by fun t k => XS.ifNo X.here hx rfl hd rfl ((if0 _ _).trans (flt q).2.2.1) k
theorem g_lc_gt (X : Stand p l e R s m args below meth c T locs cells slots) (hx : p.tables.exec = Jvm.exec) {x y : Int64} {o : Int} (pcY pcN : Nat) (hd : decode c.code pc = .ok (.ifCond .gt o, 3)) (ho : 0 ≤ (pc : Int) + o) (hY : ((pc : Int) + o).toNat = pcY) (hN : pc + 3 = pcN) (gp : y < x → Go p e below s Q rc rs (T.setTop (mkF m pcY Ls st))) (gn : ¬ y < x → Go p e below s Q rc rs (T.setTop (mkF m pcN Ls st))) : Go p e below s Q rc rs (T.setTop (mkF m pc Ls (.int (lcmpW x y) :: st))) :=
  g_if0_gt X hx pcY pcN hd ho hY hN (fun q => gp ((lw_gt x y).1 q)) (fun q => gn fun r => q ((lw_gt x y).2 r))
theorem g_icmp_le (X : Stand p l e R s m args below meth c T locs cells slots) (hx : p.tables.exec = Jvm.exec) {x y : Int32} {o : Int} (pcY pcN : Nat) (hd : decode c.code pc = .ok (.if_icmp .le o, 3)) (ho : 0 ≤ (pc : Int) + o) (hY : ((pc : Int) + o).toNat = pcY) (hN : pc + 3 = pcN) (gp : y < x → Go p e below s Q rc rs (T.setTop (mkF m pcN Ls st))) (gn : ¬ y < x → Go p e below s Q rc rs (T.setTop (mkF m pcY Ls st))) : Go p e below s Q rc rs (T.setTop (mkF m pc Ls (.int y :: .int x :: st))) := by
  subst hY hN
  by_cases q : y < x
  · exact (gp q).by fun t k => XS.icmpNo X.here hx rfl hd rfl (tlt q).2.2.2 k
  · exact (gn q).by fun t k => XS.icmpYes X.here hx rfl rfl hd rfl (flt q).2.2.2 ho rfl k
theorem g_if0_le (X : Stand p l e R s m args below meth c T locs cells slots) (hx : p.tables.exec = Jvm.exec) {x : Int32} {o : Int} (pcY pcN : Nat) (hd : decode c.code pc = .ok (.ifCond .le o, 3)) (ho : 0 ≤ (pc : Int) + o) (hY : ((pc : Int) + o).toNat = pcY) (hN : pc + 3 = pcN) (gp : 0 < x → Go p e below s Q rc rs (T.setTop (mkF m pcN Ls st))) (gn : ¬ 0 < x → Go p e below s Q rc rs (T.setTop (mkF m pcY Ls st))) : Go p e below s Q rc rs (T.setTop (mkF m pc Ls (.int x :: st))) := by
  subst hY hN
  by_cases q : 0 < x
  · exact (gp q).by fun t k => XS.ifNo X.here hx rfl hd rfl ((if0 _ _).trans (tlt q).2.2.2) k
  · exact (gn q).by fun t k => XS.ifYes X.here hx rfl rfl hd rfl ((if0 _ _).trans (flt q).2.2.2) ho rfl k
theorem g_lc_le (X : Stand p l e R s m args below meth c T locs cells slots) (hx : p.tables.exec = Jvm.exec) {x y : Int64} {o : Int} (pcY pcN : Nat) (hd : decode c.code pc = .ok (.ifCond .le o, 3)) (ho : 0 ≤ (pc : Int) + o) (hY : ((pc : Int) + o).toNat = pcY) (hN : pc + 3 = pcN) (gp : y < x → Go p e below s Q rc rs (T.setTop (mkF m pcN Ls st))) (gn : ¬ y < x → Go p e below s Q rc rs (T.setTop (mkF m pcY Ls st))) : Go p e below s Q rc rs (T.setTop (mkF m pc Ls (.int (lcmpW x y) :: st))) :=
  g_if0_le X hx pcY pcN hd ho hY hN (fun q => gp ((lw_gt x y).1 q)) (fun q => gn fun r => q ((lw_gt x y).2 r))
theorem g_icmp_eq (X : Stand p l e R s m args below meth c T locs cells slots) (hx : p.tables.exec = Jvm.exec) {x y : Int32} {o : Int} (pcY pcN : Nat) (hd : decode c.code pc = .ok (.if_icmp .eq o, 3)) (ho : 0 ≤ (pc : Int) + o) (hY : ((pc : Int) + o).toNat = pcY) (hN : pc + 3 = pcN) (gp : x = y → Go p e below s Q rc rs (T.setTop (mkF m pcY Ls st))) (gn : ¬ x = y → Go p e below s Q rc rs (T.setTop (mkF m pcN Ls st))) : Go p e below s Q rc rs (T.setTop (mkF m pc Ls (.int y :: .int x :: st))) := by
  subst hY hN
  by_cases q : x = y
  · exact (gp q).by fun t k => XS.icmpYes X.here hx rfl rfl hd rfl (teq q).1 ho rfl k
  · exact (gn q).by fun t k => XS.icmpNo X.here hx rfl hd rfl (feq q).1 k
theorem g_if0_eq (X : Stand p l e R s m args below meth c T locs cells slots) (hx : p.tables.exec = Jvm.exec) {x : Int32} {o : Int} (pcY pcN : Nat) (hd : decode c.code pc = .ok (.ifCond .eq o, 3)) (ho : 0 ≤ (pc : Int) + o) (hY : ((pc : Int) + o).toNat = pcY) (hN : pc + 3 = pcN) (gp : x = 0 → Go p e below s Q rc rs (T.setTop (mkF m pcY Ls st))) (gn : ¬ x = 0 → Go p e below s Q rc rs (T.setTop (mkF m pcN Ls st))) : Go p e below s Q rc rs (T.setTop (mkF m pc Ls (.int x :: st))) := by
  subst hY hN
  by_cases q : x = 0
  · exact (gp q).by fun t k => XS.ifYes X.here hx rfl rfl hd rfl ((if0 _ _).trans (teq q).1) ho rfl k
  · exact (gn q).by fun t k => XS.ifNo X.here hx rfl hd rfl ((if0 _ _).trans (feq q).1) k
theorem g_lc_eq (X : Stand p l e R s m args below meth c T locs cells slots) (hx : p.tables.exec = Jvm.exec) {x y : Int64} {o : Int} (pcY pcN : Nat) (hd : decode c.code pc = .ok (.ifCond .eq o, 3)) (ho : 0 ≤ (pc : Int) + o) (hY : ((pc : Int) + o).toNat = pcY) (hN : pc + 3 = pcN) (gp : x = y → Go p e below s Q rc rs (T.setTop (mkF m pcY Ls st))) (gn : ¬ x = y → Go p e below s Q rc rs (T.setTop (mkF m pcN Ls st))) : Go p e below s Q rc rs (T.setTop (mkF m pc Ls (.int (lcmpW x y) :: st))) :=
  g_if0_eq X hx pcY pcN hd ho hY hN (fun q => gp ((lw_eq x y).1 q)) (fun q => gn fun r => q ((lw_eq x y).2 r))
theorem g_icmp_ne (X : Stand p l e R s m args below meth c T locs cells slots) (hx : p.tables.exec = Jvm.exec) {x y : Int32} {o : Int} (pcY pcN : Nat) (hd : decode c.code pc = .ok (.if_icmp .ne o, 3)) (ho : 0 ≤ (pc : Int) + o) (hY : ((pc : Int) + o).toNat = pcY) (hN : pc + 3 = pcN) (gp : x = y → Go p e below s Q rc rs (T.setTop (mkF m pcN Ls st))) (gn : ¬ x = y → Go p e below s Q rc rs (T.setTop (mkF m pcY Ls st))) : Go p e below s Q rc rs (T.setTop (mkF m pc Ls (.int y :: .int x :: st))) := by
  subst hY hN
  by_cases q : x = y
  · exact (gp q).by fun t k => XS.icmpNo X.here hx rfl hd rfl (teq q).2 k
  · exact (gn q).by fun t k => XS.icmpYes X.here hx rfl rfl hd rfl (feq q).2 ho rfl k
theorem g_if0_ne (X : Stand p l e R s m args below meth c T locs cells slots) (hx : p.tables.exec = Jvm.exec) {x : Int32} {o : Int} (pcY pcN : Nat) (hd : decode c.code pc = .ok (.ifCond .ne o, 3)) (ho : 0 ≤ (pc : Int) + o) (hY : ((pc : Int) + o).toNat = pcY) (hN : pc + 3 = pcN) (gp : x = 0 → Go p e below s Q rc rs (T.setTop (mkF m pcN Ls st))) (gn : ¬ x = 0 → Go p e below s Q rc rs (T.setTop (mkF m pcY Ls st))) : Go p e below s Q rc rs (T.setTop (mkF m pc Ls (.int x :: st))) := by
  subst hY hN
  by_cases q : x = 0
  · exact (gp q).by fun t k => XS.ifNo X.here hx rfl hd rfl ((if0 _ _).trans (teq q).2) k
  · exact (gn q).by fun t k => XS.ifYes X.here hx rfl rfl hd rfl ((if0 _ _).trans (feq q).2) ho rfl k
theorem g_lc_ne (X : Stand p l e R s m args below meth c T locs cells slots) (hx : p.tables.exec = Jvm.exec) {x y : Int64} {o : Int} (pcY pcN : Nat) (hd : decode c.code pc = .ok (.ifCond .ne o, 3)) (ho : 0 ≤ (pc : Int) + o) (hY : ((pc : Int) + o).toNat = pcY) (hN : pc + 3 = pcN) (gp : x = y → Go p e below s Q rc rs (T.setTop (mkF m pcN Ls st))) (gn : ¬ x = y → Go p e below s Q rc rs (T.setTop (mkF m pcY Ls st))) : Go p e below s Q rc rs (T.setTop (mkF m pc Ls (.int (lcmpW x y) :: st))) :=
  g_if0_ne X hx pcY pcN hd ho hY hN (fun q => gp ((lw_eq x y).1 q)) (fun q => gn fun r => q ((lw_eq x y).2 r))
theorem g_ifnull_no (X : Stand p l e R s m args below meth c T locs cells slots) (hx : p.tables.exec = Jvm.exec) {b : Addr} {o : Int} (pc' : Nat) (hd : decode c.code pc = .ok (.ifnull o, 3)) (hp : pc + 3 = pc') (g : Go p e below s Q rc rs (T.setTop (mkF m pc' Ls st))) : Go p e below s Q rc rs (T.setTop (mkF m pc Ls (.ref b :: st))) := by
  subst hp; exact g.by fun t k => XS.ifnullNo X.here hx rfl hd rfl k
theorem g_ifnonnull_yes (X : Stand p l e R s m args below meth c T locs cells slots) (hx : p.tables.exec = Jvm.exec) {b : Addr} {o : Int} (pc' : Nat) (hd : decode c.code pc = .ok (.ifnonnull o, 3)) (ho : 0 ≤ (pc : Int) + o) (hp : ((pc : Int) + o).toNat = pc') (g : Go p e below s Q rc rs (T.setTop (mkF m pc' Ls st))) : Go p e below s Q rc rs (T.setTop (mkF m pc Ls (.ref b :: st))) := by
  subst hp; exact g.by fun t k => XS.ifnonnullYes X.here hx rfl rfl hd rfl ho rfl k
theorem g_retI (X : Stand p l e R s m args below meth c T locs cells slots) (hx : p.tables.exec = Jvm.exec) (hret : meth.sig.returnType = some .int) (hlk : meth.locks = false) {z : Int32} (hd : decode c.code pc = .ok (.ireturn, 1)) (hc : cells ≤ rc) (hs : slots ≤ rs) (hQ : Q (some (.int z)) T.heap locs) : Go p e below s Q rc rs (T.setTop (mkF m pc Ls (.int z :: st))) := by
  obtain ⟨fs, hr, hrun, hended, hW, hsame⟩ := X.leave (v := some (.int z)) (fun q => by rw [hret] at q; cases q) hlk
  exact ⟨_, _, retI X hx hret hd hr, hrun, hended, _, _, rfl, hQ, ⟨_, rfl⟩, hW, hsame.mono hc hs⟩
theorem g_retN (X : Stand p l e R s m args below meth c T locs cells slots) (hx : p.tables.exec = Jvm.exec) {ty : FieldType} (hret : meth.sig.returnType = some ty) (ht : ty = .boolean ∨ ty = .byte ∨ ty = .char ∨ ty = .short) (hlk : meth.locks = false) {z : Int32} (hd : decode c.code pc = .ok (.ireturn, 1)) (hc : cells ≤ rc) (hs : slots ≤ rs) (hQ : Q (some (.int (nar ty z))) T.heap locs) : Go p e below s Q rc rs (T.setTop (mkF m pc Ls (.int z :: st))) := by
  obtain ⟨fs, hr, hrun, hended, hW, hsame⟩ := X.leave (v := some (.int (nar ty z))) (fun q => by rw [hret] at q; cases q) hlk
  exact ⟨_, _, retN X hx hret ht hd hr, hrun, hended, _, _, rfl, hQ, ⟨_, rfl⟩, hW, hsame.mono hc hs⟩
theorem g_retJ (X : Stand p l e R s m args below meth c T locs cells slots) (hx : p.tables.exec = Jvm.exec) (hret : meth.sig.returnType = some .long) (hlk : meth.locks = false) {z : Int64} (hd : decode c.code pc = .ok (.lreturn, 1)) (hc : cells ≤ rc) (hs : slots ≤ rs) (hQ : Q (some (.long z)) T.heap locs) : Go p e below s Q rc rs (T.setTop (mkF m pc Ls (.long z :: st))) := by
  obtain ⟨fs, hr, hrun, hended, hW, hsame⟩ := X.leave (v := some (.long z)) (fun q => by rw [hret] at q; cases q) hlk
  exact ⟨_, _, retOut X hx hret rfl (Or.inr (Or.inl ⟨rfl, rfl, z, rfl⟩)) hd hr, hrun, hended, _, _, rfl, hQ, ⟨_, rfl⟩, hW, hsame.mono hc hs⟩
theorem g_retA (X : Stand p l e R s m args below meth c T locs cells slots) (hx : p.tables.exec = Jvm.exec) {ty : FieldType} (hret : meth.sig.returnType = some ty) (ht : ty.isReference = true) (hlk : meth.locks = false) {b : Addr} (hd : decode c.code pc = .ok (.areturn, 1)) (hc : cells ≤ rc) (hs : slots ≤ rs) (hQ : Q (some (.ref b)) T.heap locs) : Go p e below s Q rc rs (T.setTop (mkF m pc Ls [.ref b])) := by
  obtain ⟨fs, hr, hrun, hended, hW, hsame⟩ := X.leave (v := some (.ref b)) (fun q => by rw [hret] at q; cases q) hlk
  exact ⟨_, _, X.areturnOut hx rfl hret ht hd hr, hrun, hended, _, _, rfl, hQ, ⟨_, rfl⟩, hW, hsame.mono hc hs⟩
theorem g_retV (X : Stand p l e R s m args below meth c T locs cells slots) (hx : p.tables.exec = Jvm.exec) (hret : meth.sig.returnType = none) (hlk : meth.locks = false) (hd : decode c.code pc = .ok (.return_, 1)) (hc : cells ≤ rc) (hs : slots ≤ rs) (hQ : Q none T.heap locs) : Go p e below s Q rc rs (T.setTop (mkF m pc Ls [])) := by
  obtain ⟨fs, hr, hrun, hended, hW, hsame⟩ := X.leave (v := none) (fun _ => rfl) hlk
  exact ⟨_, _, X.returnOut hx hret hd hr, hrun, hended, _, _, rfl, hQ, ⟨_, rfl⟩, hW, hsame.mono hc hs⟩
theorem g_body {y : MethodName} {bytes : ByteArray} {maxL : Nat} {ret : Option FieldType} {ws : List Jvm.Cond} {rm : Room} {as : Array Value} (hpn : plainFor y = true)
    (body : ∀ p e s m below meth c T, Stand p l e rm s m as below meth c T [] 0 0 → p.tables.exec = Jvm.exec → c.code = bytes → c.maxLocals = maxL → meth.sig.returnType = ret → meth.locks = false → s.vm.findClass y.cls = some m.cls → meth.name = y.name → Z.Warmed39 s.vm → T.heap = h → Go p e below s Q rc rs (T.setTop (entryFrame m as maxL))) :
    MetFree l y (head1 (Jvm.Cond.code y bytes maxL ret :: ws) rm) (fun a U => a = as ∧ Z.Warmed39 U.vm ∧ U.heap = h) (fun _ _ _ _ _ => True) (fun _ U o U' => ∃ v L, o = .returned v ∧ Q v U'.heap L ∧ FrameEnd U o U' L rc rs) := by
  refine MetFree.of_bodySF hpn hisR ?_
  intro p e s m args below meth c s₁ Bd hml hP hK
  obtain ⟨rfl, hZ, hh⟩ := hP
  exact body p e s m below meth c s₁ (Stand.of_body Bd) Bd.exec Bd.bytes hml Bd.returns Bd.notSynchronized (findClass_of_methodNamed Bd.named) (name_of_methodNamed Bd.named Bd.method).1 hZ (by rw [← hh, Bd.state]; rfl)
theorem g_callS (X : Stand p l e R s m args below meth c T locs cells slots) (hx : p.tables.exec = Jvm.exec) (hZ : Z.Warmed39 s.vm) {own : String} {i : Nat} {y : MethodName} {bytes : ByteArray} {maxL : Nat} {ret : Option FieldType} {rm : Room} {as : Array Value} {Q' : Option Value → Heap → List Loc → Prop} (hown : s.vm.findClass own = some m.cls) (w1 : (Jvm.Cond.methodLink own i y).before a0 Z = true) (w2 : (Jvm.Cond.static y).before a0 Z = true) (w3 : (Jvm.Cond.initialized y.cls).before a0 Z = true) (w4 : (Jvm.Cond.code y bytes maxL ret).before a0 Z = true) (hy : y.cls ≠ "java/lang/invoke/MethodHandle" ∧ y.cls ≠ "java/lang/invoke/VarHandle") (eT : T.heap = h) (hM : MetFree l y (head1 [Jvm.Cond.code y bytes maxL ret] rm) (fun a U => a = as ∧ Z.Warmed39 U.vm ∧ U.heap = h) (fun _ _ _ _ _ => True) (fun _ U o U' => ∃ v L, o = .returned v ∧ Q' v U'.heap L ∧ FrameEnd U o U' L rm.cells rm.slots)) (argsL rest : List Value) (W : Nat) (has : argsL.toArray = as) (hlen : ∀ sig, parseMethodDescriptor y.desc = some sig → argsL.length = sig.parameters.length) (hst : st = argsL.reverse ++ rest) (hW : (rest.map fun v => v.category).sum ≤ W) (hf : rm.frames + 1 ≤ R.frames) (hlo : W + (maxL + 11) + rm.locals ≤ R.locals) (hcl : cells + rm.cells ≤ R.cells) (hsl : slots + rm.slots ≤ R.slots) (hsz : Ls.size = c.maxLocals) (hd : decode c.code pc = .ok (.invokestatic i, 3)) (k : ∀ T' L v, Stand p l e R s m args below meth c T' (locs ++ L) (cells + rm.cells) (slots + rm.slots) → Q' v T'.heap L → Go p e below s Q rc rs (T'.setTop (mkF m (pc + 3) Ls (v.toList ++ rest)))) : Go p e below s Q rc rs (T.setTop (mkF m pc Ls st)) := by
  subst hst has
  obtain ⟨_, _, ⟨T', L', k', n'⟩, -, X', ⟨Lc, hQ, e1, e2, e3⟩, stp⟩ := Jvm.LawKit.callS X hx (y := y) hown (mvT hZ w1) (mvT hZ w2) (mvT hZ w3) (mvT hZ w4) hy (backOf (W := W) hM hZ w4 w3 hf hlo) (g := mkF m pc Ls (argsL.reverse ++ rest)) rfl hsz (argsL := argsL) (rest := rest) hlen rfl (by show 2 * 0 + _ ≤ _; omega) hd (fun _ _ => ⟨rfl, eT, hcl, hsl⟩)
  dsimp only [Pt.U, Pt.locs, Pt.cells, Pt.slots] at X' e1 e2 e3 stp hQ
  subst e1 e2 e3
  exact (k _ _ _ X' hQ).by stp
theorem g_callI (X : Stand p l e R s m args below meth c T locs cells slots) (hx : p.tables.exec = Jvm.exec) (hZ : Z.Warmed39 s.vm) {own : String} {i : Nat} {y : MethodName} {bytes : ByteArray} {maxL : Nat} {rm : Room} {as : Array Value} {Q' : Option Value → Heap → List Loc → Prop} (hy1 : y.name = "<init>") (hown : s.vm.findClass own = some m.cls) (w1 : (Jvm.Cond.methodLink own i y).before a0 Z = true) (w2 : (Jvm.Cond.instanceMethod y).before a0 Z = true) (w3 : (Jvm.Cond.initialized y.cls).before a0 Z = true) (w4 : (Jvm.Cond.code y bytes maxL none).before a0 Z = true) (hy : y.cls ≠ "java/lang/invoke/MethodHandle" ∧ y.cls ≠ "java/lang/invoke/VarHandle") (eT : T.heap = h) (hM : MetFree l y (head1 [Jvm.Cond.code y bytes maxL none] rm) (fun a U => a = as ∧ Z.Warmed39 U.vm ∧ U.heap = h) (fun _ _ _ _ _ => True) (fun _ U o U' => ∃ v L, o = .returned v ∧ Q' v U'.heap L ∧ FrameEnd U o U' L rm.cells rm.slots)) (b : Addr) (argsL rest : List Value) (W : Nat) (has : (.ref b :: argsL : List Value).toArray = as) (hlen : ∀ sig, parseMethodDescriptor y.desc = some sig → argsL.length = sig.parameters.length) (hst : st = argsL.reverse ++ .ref b :: rest) (hW : (rest.map fun v => v.category).sum ≤ W) (hf : rm.frames + 1 ≤ R.frames) (hlo : W + (maxL + 11) + rm.locals ≤ R.locals) (hcl : cells + rm.cells ≤ R.cells) (hsl : slots + rm.slots ≤ R.slots) (hsz : Ls.size = c.maxLocals) (hd : decode c.code pc = .ok (.invokespecial i, 3)) (k : ∀ T' L v, Stand p l e R s m args below meth c T' (locs ++ L) (cells + rm.cells) (slots + rm.slots) → Q' v T'.heap L → Go p e below s Q rc rs (T'.setTop (mkF m (pc + 3) Ls (v.toList ++ rest)))) : Go p e below s Q rc rs (T.setTop (mkF m pc Ls st)) := by
  subst hst has
  obtain ⟨_, _, ⟨T', L', k', n'⟩, -, X', ⟨Lc, hQ, e1, e2, e3⟩, stp⟩ := X.specialBack hx (y := y) hy1 hown (mvT hZ w1) (mvT hZ w2) (mvT hZ w4) hy (backOf (W := W) hM hZ w4 w3 hf hlo) (g := mkF m pc Ls (argsL.reverse ++ .ref b :: rest)) rfl hsz (Steps.refl _) (a := b) (argsL := argsL) (rest := rest) hlen rfl (by show 2 * 0 + _ ≤ _; omega) hd (fun _ _ => ⟨rfl, eT, hcl, hsl⟩)
  dsimp only [Pt.U, Pt.locs, Pt.cells, Pt.slots] at X' e1 e2 e3 stp hQ
  subst e1 e2 e3
  exact (k _ _ _ X' hQ).by fun t k => stp.trans k
theorem g_callV (X : Stand p l e R s m args below meth c T locs cells slots) (hx : p.tables.exec = Jvm.exec) (hZ : Z.Warmed39 s.vm) {own C : String} {i : Nat} {y : MethodName} {bytes : ByteArray} {maxL : Nat} {ret : Option FieldType} {rm : Room} {as : Array Value} {Q' : Option Value → Heap → List Loc → Prop} (hown : s.vm.findClass own = some m.cls) (w1 : (Jvm.Cond.methodLink own i y).before a0 Z = true) (w2 : (Jvm.Cond.declares y).before a0 Z = true) (w5 : (Jvm.Cond.selects C y y).before a0 Z = true) (w6 : (Jvm.Cond.instanceMethod y).before a0 Z = true) (w3 : (Jvm.Cond.initialized y.cls).before a0 Z = true) (w4 : (Jvm.Cond.code y bytes maxL ret).before a0 Z = true) (hy : y.cls ≠ "java/lang/invoke/MethodHandle" ∧ y.cls ≠ "java/lang/invoke/VarHandle") (eT : T.heap = h) (b : Addr) (E : Exa Z h b C) (hM : MetFree l y (head1 [Jvm.Cond.code y bytes maxL ret] rm) (fun a U => a = as ∧ Z.Warmed39 U.vm ∧ U.heap = h) (fun _ _ _ _ _ => True) (fun _ U o U' => ∃ v L, o = .returned v ∧ Q' v U'.heap L ∧ FrameEnd U o U' L rm.cells rm.slots)) (argsL rest : List Value) (W : Nat) (has : (.ref b :: argsL : List Value).toArray = as) (hlen : ∀ sig, parseMethodDescriptor y.desc = some sig → argsL.length = sig.parameters.length) (hst : st = argsL.reverse ++ .ref b :: rest) (hW : (rest.map fun v => v.category).sum ≤ W) (hf : rm.frames + 1 ≤ R.frames) (hlo : W + (maxL + 11) + rm.locals ≤ R.locals) (hcl : cells + rm.cells ≤ R.cells) (hsl : slots + rm.slots ≤ R.slots) (hsz : Ls.size = c.maxLocals) (hd : decode c.code pc = .ok (.invokevirtual i, 3)) (k : ∀ T' L v, Stand p l e R s m args below meth c T' (locs ++ L) (cells + rm.cells) (slots + rm.slots) → Q' v T'.heap L → Go p e below s Q rc rs (T'.setTop (mkF m (pc + 3) Ls (v.toList ++ rest)))) : Go p e below s Q rc rs (T.setTop (mkF m pc Ls st)) := by
  subst hst has
  obtain ⟨cq, kq, qa, qb, qc⟩ := isOf hZ eT E
  obtain ⟨_, _, ⟨T', L', k', n'⟩, -, X', ⟨Lc, hQ, e1, e2, e3⟩, stp⟩ := X.virtualBack hx (y := y) (z := y) hown (mvT hZ w1) (mvT hZ w2) (notFace_of_selects (args := #[]) (mvT hZ w5)) (mvT hZ w5) (mvT hZ w6) hy (backOf (W := W) hM hZ w4 w3 hf hlo) qa qc (g := mkF m pc Ls (argsL.reverse ++ .ref b :: rest)) rfl hsz (Steps.refl _) (argsL := argsL) (rest := rest) hlen rfl (by show 2 * 0 + _ ≤ _; omega) hd (fun _ _ => ⟨rfl, eT, hcl, hsl⟩)
  dsimp only [Pt.U, Pt.locs, Pt.cells, Pt.slots] at X' e1 e2 e3 stp hQ
  subst e1 e2 e3
  exact (k _ _ _ X' hQ).by fun t k => stp.trans k
theorem g_callP (X : Stand p l e R s m args below meth c T locs cells slots) (hx : p.tables.exec = Jvm.exec) (hZ : Z.Warmed39 s.vm) {own C : String} {i : Nat} {y : MethodName} {bytes : ByteArray} {maxL : Nat} {ret : Option FieldType} {rm : Room} {as : Array Value} {Q' : Option Value → Heap → List Loc → Prop} (hown : s.vm.findClass own = some m.cls) (w1 : (Jvm.Cond.methodLink own i y).before a0 Z = true) (w2 : (Jvm.Cond.instanceMethod y).before a0 Z = true) {kk : Nat} (w5 : (Jvm.Cond.instantiable y.cls kk).before a0 Z = true) (w6 : (Jvm.Cond.privateMethod y).before a0 Z = true) (w3 : (Jvm.Cond.initialized y.cls).before a0 Z = true) (w4 : (Jvm.Cond.code y bytes maxL ret).before a0 Z = true) (hy : y.cls ≠ "java/lang/invoke/MethodHandle" ∧ y.cls ≠ "java/lang/invoke/VarHandle") (eT : T.heap = h) (b : Addr) (E : Exa Z h b C) (hM : MetFree l y (head1 [Jvm.Cond.code y bytes maxL ret] rm) (fun a U => a = as ∧ Z.Warmed39 U.vm ∧ U.heap = h) (fun _ _ _ _ _ => True) (fun _ U o U' => ∃ v L, o = .returned v ∧ Q' v U'.heap L ∧ FrameEnd U o U' L rm.cells rm.slots)) (argsL rest : List Value) (W : Nat) (has : (.ref b :: argsL : List Value).toArray = as) (hlen : ∀ sig, parseMethodDescriptor y.desc = some sig → argsL.length = sig.parameters.length) (hst : st = argsL.reverse ++ .ref b :: rest) (hW : (rest.map fun v => v.category).sum ≤ W) (hf : rm.frames + 1 ≤ R.frames) (hlo : W + (maxL + 11) + rm.locals ≤ R.locals) (hcl : cells + rm.cells ≤ R.cells) (hsl : slots + rm.slots ≤ R.slots) (hsz : Ls.size = c.maxLocals) (hd : decode c.code pc = .ok (.invokevirtual i, 3)) (k : ∀ T' L v, Stand p l e R s m args below meth c T' (locs ++ L) (cells + rm.cells) (slots + rm.slots) → Q' v T'.heap L → Go p e below s Q rc rs (T'.setTop (mkF m (pc + 3) Ls (v.toList ++ rest)))) : Go p e below s Q rc rs (T.setTop (mkF m pc Ls st)) := by
  subst hst has
  obtain ⟨cq, q, q'⟩ := E.cell
  have hpv := Cond.privateMethod_at (mvP hZ w6 (args := #[]))
  obtain ⟨c1, k1, r1, r2, -, r4, -⟩ := Cond.instantiable_spec (mvT hZ w5 (args := args))
  have hsel : (Jvm.Cond.selects y.cls y y).before args s = true := selects_self_of_private r1 r2 (Bool.or_eq_false_iff.mp r4).1 hpv (mvT hZ w2) hy
  obtain ⟨_, _, ⟨T', L', k', n'⟩, -, X', ⟨Lc, hQ, e1, e2, e3⟩, stp⟩ := X.privateBack hx (y := y) hown (mvT hZ w1) (mvT hZ w2) hsel hpv (mvT hZ w4) hy (backOf (W := W) hM hZ w4 w3 hf hlo) (g := mkF m pc Ls (argsL.reverse ++ .ref b :: rest)) rfl hsz (Steps.refl _) (a := b) (by rw [eT]; exact q) q' (argsL := argsL) (rest := rest) hlen rfl (by show 2 * 0 + _ ≤ _; omega) hd (fun _ _ => ⟨rfl, eT, hcl, hsl⟩)
  dsimp only [Pt.U, Pt.locs, Pt.cells, Pt.slots] at X' e1 e2 e3 stp hQ
  subst e1 e2 e3
  exact (k _ _ _ X' hQ).by fun t k => stp.trans k
theorem g_initO (X : Stand p l e R s m args below meth c T locs cells slots) (hx : p.tables.exec = Jvm.exec) (hZ : Z.Warmed39 s.vm) {own : String} {i : Nat} (hown : s.vm.findClass own = some m.cls) (w1 : (Jvm.Cond.methodLink own i Lib.objectInit).before a0 Z = true) (w2 : (Jvm.Cond.instanceMethod Lib.objectInit).before a0 Z = true) (w3 : (Jvm.Cond.code Lib.objectInit ⟨#[0xb1]⟩ 1 none).before a0 Z = true) (eT : T.heap = h) {b : Addr} (pc' : Nat) (hsz : Ls.size = c.maxLocals) (hd : decode c.code pc = .ok (.invokespecial i, 3)) (hf : 1 ≤ R.frames) (W : Nat) (hW : (st.map fun v => v.category).sum ≤ W) (hlo : W + 12 ≤ R.locals) (hp : pc + 3 = pc') (k : ∀ T', Stand p l e R s m args below meth c T' locs cells slots → T'.heap = h → Go p e below s Q rc rs (T'.setTop (mkF m pc' Ls st))) : Go p e below s Q rc rs (T.setTop (mkF m pc Ls (.ref b :: st))) := by
  subst hp
  obtain ⟨T', X', e', stp⟩ := initO X hx hZ hown w1 w2 w3 eT (g := mkF m pc Ls (.ref b :: st)) rfl hsz rfl hd hf (W := W) (by show 2 * 0 + _ ≤ _; omega) hlo
  exact (k _ X' e').by stp
theorem g_getF (X : Stand p l e R s m args below meth c T locs cells slots) (hx : p.tables.exec = Jvm.exec) (hZ : Z.Warmed39 s.vm) {own R0 O n d : String} {i : Nat} (hown : s.vm.findClass own = some m.cls) (w : (Jvm.Cond.fieldLink own i R0 n d).before a0 Z = true) (via : Via Z R0 O n d) (eT : T.heap = h) {b : Addr} {v : Value} (F : Fld Z h b O n d v) (pc' : Nat) (hd : decode c.code pc = .ok (.getfield i, 3)) (hp : pc + 3 = pc') (k : ∀ T', Stand p l e R s m args below meth c T' locs cells slots → T'.heap = h → Go p e below s Q rc rs (T'.setTop (mkF m pc' Ls (v :: st)))) : Go p e below s Q rc rs (T.setTop (mkF m pc Ls (.ref b :: st))) := by
  subst hp
  obtain ⟨T', X', e', stp⟩ := getF X hx hZ hown (host := "") (Or.inl w) via eT F (g := mkF m pc Ls (.ref b :: st)) rfl rfl hd
  exact (k _ X' e').by stp
theorem g_putF (X : Stand p l e R s m args below meth c T locs cells slots) (hx : p.tables.exec = Jvm.exec) (hZ : Z.Warmed39 s.vm) {own R0 O n d C : String} {i kk : Nat} {ty : FieldType} (hown : s.vm.findClass own = some m.cls) (w : (Jvm.Cond.fieldLink own i R0 n d).before a0 Z = true) (via : Via Z R0 O n d) (eT : T.heap = h) {b : Addr} {v old : Value} (F : Fld Z h b O n d old) (E : Exa Z h b C) (L : (Jvm.Cond.lays C O n d).before a0 Z = true ∨ ((Jvm.Cond.laysFinal C O n d).before a0 Z = true ∧ own = O ∧ meth.name = "<init>")) (wi : (Jvm.Cond.instantiable C kk).before a0 Z = true) (hty : parseFieldDescriptor d = some ty) (hn : narrow ty v = v) (hf : fits ty v = true) (pc' : Nat) (hd : decode c.code pc = .ok (.putfield i, 3)) (hp : pc + 3 = pc') (k : ∀ T' h', Stand p l e R s m args below meth c T' (locs ++ [⟨b, Jvm.RoadKit.slotOf Z O n d⟩]) cells slots → T'.heap = h' → Wr h h' b (Jvm.RoadKit.slotOf Z O n d) v → Go p e below s Q rc rs (T'.setTop (mkF m pc' Ls st))) : Go p e below s Q rc rs (T.setTop (mkF m pc Ls (v :: .ref b :: st))) := by
  subst hp
  obtain ⟨T', h', X', e', W', stp⟩ := putF X hx hZ hown (host := "") (Or.inl w) via eT F E L wi hty hn hf (g := mkF m pc Ls (v :: .ref b :: st)) rfl rfl hd
  exact (k _ _ X' e' W').by stp
theorem g_new (X : Stand p l e R s m args below meth c T locs cells slots) (hx : p.tables.exec = Jvm.exec) (hZ : Z.Warmed39 s.vm) {own C : String} {i n : Nat} (hown : s.vm.findClass own = some m.cls) (w : (Jvm.Cond.classLink own i C).before a0 Z = true) (wi : (Jvm.Cond.instantiable C n).before a0 Z = true) (wz : (Jvm.Cond.initialized C).before a0 Z = true) (eT : T.heap = h) (pc' : Nat) (hd : decode c.code pc = .ok (.new i, 3)) (hcl : cells + 1 ≤ R.cells) (hsl : slots + n ≤ R.slots) (hp : pc + 3 = pc') (k : ∀ T' h' b, b = h.size → Stand p l e R s m args below meth c T' locs (cells + 1) (slots + n) → T'.heap = h' → Ext h h' → Exa Z h' b C → (∀ {O nm d : String} {ty : FieldType}, Laid Z a0 C O nm d → parseFieldDescriptor d = some ty → Fld Z h' b O nm d (defaultValue ty)) → Go p e below s Q rc rs (T'.setTop (mkF m pc' Ls (.ref b :: st)))) : Go p e below s Q rc rs (T.setTop (mkF m pc Ls st)) := by
  subst hp
  obtain ⟨T', h', X', e', E', A', D', -, stp⟩ := newO X hx hZ hown w wi wz eT (g := mkF m pc Ls st) rfl hd hcl hsl
  exact (k _ _ _ rfl X' e' E' A' D').by stp
/-- an array of n places whose j-th holds f j -/
def AV (Z : State) (h : Heap) (a : Addr) (ty : FieldType) (n : Nat) (f : Nat → Value) : Prop := ∃ c : Cell, Arr Z h a c ty ∧ c.slots.size = n ∧ n < 2 ^ 31 ∧ ∀ j, j < n → c.slots[j]? = some (f j)
theorem AV.ext {h' : Heap} {a : Addr} {ty : FieldType} {n : Nat} {f : Nat → Value} (F : AV Z h a ty n f) (E : Ext h h') : AV Z h' a ty n f := by obtain ⟨c, A, r⟩ := F; exact ⟨c, A.ext E, r⟩
theorem AV.other {h' : Heap} {a b : Addr} {ty : FieldType} {n sl : Nat} {f : Nat → Value} {v : Value} (F : AV Z h a ty n f) (W : Wr h h' b sl v) (q : a ≠ b) : AV Z h' a ty n f := by obtain ⟨c, A, r⟩ := F; exact ⟨c, A.other W q, r⟩
theorem AV.keep {h' : Heap} {a : Addr} {ws : List Addr} {ty : FieldType} {n : Nat} {f : Nat → Value} (F : AV Z h a ty n f) (K : Keep h h' ws) (q : a ∉ ws) : AV Z h' a ty n f := by obtain ⟨c, A, r⟩ := F; exact ⟨c, ⟨K.2.1 a c A.1 q, A.2⟩, r⟩
theorem AV.lt {a : Addr} {ty : FieldType} {n : Nat} {f : Nat → Value} (F : AV Z h a ty n f) : a < h.size := by obtain ⟨c, A, -⟩ := F; exact A.lt
theorem AV.small {a : Addr} {ty : FieldType} {n : Nat} {f : Nat → Value} (F : AV Z h a ty n f) : n < 2 ^ 31 := by obtain ⟨c, -, -, q, -⟩ := F; exact q
theorem AV.congr {a : Addr} {ty : FieldType} {n : Nat} {f g : Nat → Value} (F : AV Z h a ty n f) (q : ∀ j, j < n → f j = g j) : AV Z h a ty n g := by obtain ⟨c, A, r1, r2, r3⟩ := F; exact ⟨c, A, r1, r2, fun j hj => by rw [r3 j hj, q j hj]⟩
theorem own_idx {j : Int32} {i : Nat} (q : j.toInt = i) : ¬ j < 0 ∧ j.toNatClampNeg = i := by
  refine ⟨?_, ?_⟩
  · rw [Int32.lt_iff_toInt_lt, q]; simp
  · show j.toInt.toNat = i; omega
theorem own_in {j : Int32} {i : Nat} {cl : Cell} (q : j.toInt = i) (hi : i < cl.slots.size) : ¬ (j < 0 ∨ cl.slots.size ≤ j.toNatClampNeg) := by
  obtain ⟨q1, q2⟩ := own_idx q
  rintro (z | z)
  · exact q1 z
  · omega
def upd {α : Type} (g : Nat → α) (j : Nat) (x : α) : Nat → α := fun q => if q = j then x else g q
def AI (Z : State) (h : Heap) (a : Addr) (n : Nat) (g : Nat → Int32) : Prop := AV Z h a .int n (fun j => .int (g j))
def AJ (Z : State) (h : Heap) (a : Addr) (n : Nat) (g : Nat → Int64) : Prop := AV Z h a .long n (fun j => .long (g j))
def AB (Z : State) (h : Heap) (a : Addr) (n : Nat) (g : Nat → Int32) : Prop := AV Z h a .byte n (fun j => .int (g j))
theorem nm0 {a : Addr} : a ∉ ([] : List Addr) := nofun
theorem nm1 {a b : Addr} {ws : List Addr} (q : a ≠ b) (r : a ∉ ws) : a ∉ b :: ws := fun z => by
  rcases List.mem_cons.mp z with z | z
  · exact q z
  · exact r z
theorem AI.ext {h' : Heap} {a : Addr} {n : Nat} {g : Nat → Int32} (F : AI Z h a n g) (E : Ext h h') : AI Z h' a n g := AV.ext F E
theorem AI.other {h' : Heap} {a b : Addr} {n sl : Nat} {g : Nat → Int32} {v : Value} (F : AI Z h a n g) (W : Wr h h' b sl v) (q : a ≠ b) : AI Z h' a n g := AV.other F W q
theorem AI.keep {h' : Heap} {a : Addr} {ws : List Addr} {n : Nat} {g : Nat → Int32} (F : AI Z h a n g) (K : Keep h h' ws) (q : a ∉ ws) : AI Z h' a n g := AV.keep F K q
theorem AI.lt {a : Addr} {n : Nat} {g : Nat → Int32} (F : AI Z h a n g) : a < h.size := AV.lt F
theorem AI.small {a : Addr} {n : Nat} {g : Nat → Int32} (F : AI Z h a n g) : n < 2 ^ 31 := AV.small F
theorem AI.congr {a : Addr} {n : Nat} {g g' : Nat → Int32} (F : AI Z h a n g) (q : ∀ j, j < n → g j = g' j) : AI Z h a n g' := AV.congr F fun j hj => by rw [q j hj]
theorem AJ.ext {h' : Heap} {a : Addr} {n : Nat} {g : Nat → Int64} (F : AJ Z h a n g) (E : Ext h h') : AJ Z h' a n g := AV.ext F E
theorem AJ.other {h' : Heap} {a b : Addr} {n sl : Nat} {g : Nat → Int64} {v : Value} (F : AJ Z h a n g) (W : Wr h h' b sl v) (q : a ≠ b) : AJ Z h' a n g := AV.other F W q
theorem AJ.keep {h' : Heap} {a : Addr} {ws : List Addr} {n : Nat} {g : Nat → Int64} (F : AJ Z h a n g) (K : Keep h h' ws) (q : a ∉ ws) : AJ Z h' a n g := AV.keep F K q
theorem AJ.lt {a : Addr} {n : Nat} {g : Nat → Int64} (F : AJ Z h a n g) : a < h.size := AV.lt F
theorem AJ.small {a : Addr} {n : Nat} {g : Nat → Int64} (F : AJ Z h a n g) : n < 2 ^ 31 := AV.small F
theorem AJ.congr {a : Addr} {n : Nat} {g g' : Nat → Int64} (F : AJ Z h a n g) (q : ∀ j, j < n → g j = g' j) : AJ Z h a n g' := AV.congr F fun j hj => by rw [q j hj]
theorem AB.ext {h' : Heap} {a : Addr} {n : Nat} {g : Nat → Int32} (F : AB Z h a n g) (E : Ext h h') : AB Z h' a n g := AV.ext F E
theorem AB.other {h' : Heap} {a b : Addr} {n sl : Nat} {g : Nat → Int32} {v : Value} (F : AB Z h a n g) (W : Wr h h' b sl v) (q : a ≠ b) : AB Z h' a n g := AV.other F W q
theorem AB.keep {h' : Heap} {a : Addr} {ws : List Addr} {n : Nat} {g : Nat → Int32} (F : AB Z h a n g) (K : Keep h h' ws) (q : a ∉ ws) : AB Z h' a n g := AV.keep F K q
theorem AB.lt {a : Addr} {n : Nat} {g : Nat → Int32} (F : AB Z h a n g) : a < h.size := AV.lt F
theorem AB.small {a : Addr} {n : Nat} {g : Nat → Int32} (F : AB Z h a n g) : n < 2 ^ 31 := AV.small F
theorem AB.congr {a : Addr} {n : Nat} {g g' : Nat → Int32} (F : AB Z h a n g) (q : ∀ j, j < n → g j = g' j) : AB Z h a n g' := AV.congr F fun j hj => by rw [q j hj]
theorem g_iaload (X : Stand p l e R s m args below meth c T locs cells slots) (hx : p.tables.exec = Jvm.exec) (hZ : Z.Warmed39 s.vm) (eT : T.heap = h) {b : Addr} {n : Nat} {g : Nat → Int32} (A : AI Z h b n g) {j : Int32} (jn : Nat) (hj : j.toInt = jn) (hlt : jn < n) (pc' : Nat) (hd : decode c.code pc = .ok (.iaload, 1)) (hp : pc + 1 = pc') (k : Go p e below s Q rc rs (T.setTop (mkF m pc' Ls (.int (g jn) :: st)))) : Go p e below s Q rc rs (T.setTop (mkF m pc Ls (.int j :: .ref b :: st))) := by
  subst hp
  obtain ⟨cl, A1, A2, A3, A4⟩ := A
  exact k.by fun t k => X.iaload hx (j := j) (by rw [eT]; exact A1.1) (State.isArrayOf_alike hZ.alike A1.2.1) A1.2.2 (own_in hj (by omega)) (by rw [(own_idx hj).2]; exact A4 _ hlt) (g := mkF m pc Ls (.int j :: .ref b :: st)) rfl rfl hd t k
theorem g_laload (X : Stand p l e R s m args below meth c T locs cells slots) (hx : p.tables.exec = Jvm.exec) (hZ : Z.Warmed39 s.vm) (eT : T.heap = h) {b : Addr} {n : Nat} {g : Nat → Int64} (A : AJ Z h b n g) {j : Int32} (jn : Nat) (hj : j.toInt = jn) (hlt : jn < n) (pc' : Nat) (hd : decode c.code pc = .ok (.laload, 1)) (hp : pc + 1 = pc') (k : Go p e below s Q rc rs (T.setTop (mkF m pc' Ls (.long (g jn) :: st)))) : Go p e below s Q rc rs (T.setTop (mkF m pc Ls (.int j :: .ref b :: st))) := by
  subst hp
  obtain ⟨cl, A1, A2, A3, A4⟩ := A
  exact k.by fun t k => X.laload hx (j := j) (by rw [eT]; exact A1.1) (State.isArrayOf_alike hZ.alike A1.2.1) A1.2.2 (own_in hj (by omega)) (by rw [(own_idx hj).2]; exact A4 _ hlt) (g := mkF m pc Ls (.int j :: .ref b :: st)) rfl rfl hd t k
theorem g_baload (X : Stand p l e R s m args below meth c T locs cells slots) (hx : p.tables.exec = Jvm.exec) (hZ : Z.Warmed39 s.vm) (eT : T.heap = h) {b : Addr} {n : Nat} {g : Nat → Int32} (A : AB Z h b n g) {j : Int32} (jn : Nat) (hj : j.toInt = jn) (hlt : jn < n) (pc' : Nat) (hd : decode c.code pc = .ok (.baload, 1)) (hp : pc + 1 = pc') (k : Go p e below s Q rc rs (T.setTop (mkF m pc' Ls (.int (g jn) :: st)))) : Go p e below s Q rc rs (T.setTop (mkF m pc Ls (.int j :: .ref b :: st))) := by
  subst hp
  obtain ⟨cl, A1, A2, A3, A4⟩ := A
  exact k.by fun t k => X.baloadBytes hx (j := j) (by rw [eT]; exact A1.1) (State.isArrayOf_alike hZ.alike A1.2.1) A1.2.2 (own_in hj (by omega)) (by rw [(own_idx hj).2]; exact A4 _ hlt) (g := mkF m pc Ls (.int j :: .ref b :: st)) rfl rfl hd t k
theorem g_iastore (X : Stand p l e R s m args below meth c T locs cells slots) (hx : p.tables.exec = Jvm.exec) (hZ : Z.Warmed39 s.vm) (eT : T.heap = h) {b : Addr} {n : Nat} {g : Nat → Int32} (A : AI Z h b n g) {j : Int32} {x : Int32} (jn : Nat) (hj : j.toInt = jn) (hlt : jn < n) (pc' : Nat) (hd : decode c.code pc = .ok (.iastore, 1)) (hp : pc + 1 = pc') (k : ∀ T' h', Stand p l e R s m args below meth c T' (locs ++ [⟨b, jn⟩]) cells slots → T'.heap = h' → Wr h h' b jn (.int x) → AI Z h' b n (upd g jn x) → Go p e below s Q rc rs (T'.setTop (mkF m pc' Ls st))) : Go p e below s Q rc rs (T.setTop (mkF m pc Ls (.int x :: .int j :: .ref b :: st))) := by
  subst hp
  obtain ⟨cl, A1, A2, A3, A4⟩ := A
  obtain ⟨T', h', X', e', W', stp⟩ := stI X hx hZ eT A1 (j := j) (x := x) (own_in hj (by omega)) (g := mkF m pc Ls (.int x :: .int j :: .ref b :: st)) rfl rfl hd
  rw [(own_idx hj).2] at X' W'
  refine (k _ _ X' e' W' ⟨_, A1.same W', by rw [sz_set]; exact A2, A3, fun q hq => ?_⟩).by stp
  by_cases z : q = jn
  · subst z; simp [Cell.setSlot, A2, hq, upd]; try rfl
  · simp only [upd, z, if_false]; rw [← A4 q hq]; simp only [Cell.setSlot]; rw [Array.getElem?_setIfInBounds_ne (Ne.symm z)]
theorem g_lastore (X : Stand p l e R s m args below meth c T locs cells slots) (hx : p.tables.exec = Jvm.exec) (hZ : Z.Warmed39 s.vm) (eT : T.heap = h) {b : Addr} {n : Nat} {g : Nat → Int64} (A : AJ Z h b n g) {j : Int32} {x : Int64} (jn : Nat) (hj : j.toInt = jn) (hlt : jn < n) (pc' : Nat) (hd : decode c.code pc = .ok (.lastore, 1)) (hp : pc + 1 = pc') (k : ∀ T' h', Stand p l e R s m args below meth c T' (locs ++ [⟨b, jn⟩]) cells slots → T'.heap = h' → Wr h h' b jn (.long x) → AJ Z h' b n (upd g jn x) → Go p e below s Q rc rs (T'.setTop (mkF m pc' Ls st))) : Go p e below s Q rc rs (T.setTop (mkF m pc Ls (.long x :: .int j :: .ref b :: st))) := by
  subst hp
  obtain ⟨cl, A1, A2, A3, A4⟩ := A
  obtain ⟨T', h', X', e', W', stp⟩ := stJ X hx hZ eT A1 (j := j) (x := x) (own_in hj (by omega)) (g := mkF m pc Ls (.long x :: .int j :: .ref b :: st)) rfl rfl hd
  rw [(own_idx hj).2] at X' W'
  refine (k _ _ X' e' W' ⟨_, A1.same W', by rw [sz_set]; exact A2, A3, fun q hq => ?_⟩).by stp
  by_cases z : q = jn
  · subst z; simp [Cell.setSlot, A2, hq, upd]; try rfl
  · simp only [upd, z, if_false]; rw [← A4 q hq]; simp only [Cell.setSlot]; rw [Array.getElem?_setIfInBounds_ne (Ne.symm z)]
theorem g_bastore (X : Stand p l e R s m args below meth c T locs cells slots) (hx : p.tables.exec = Jvm.exec) (hZ : Z.Warmed39 s.vm) (eT : T.heap = h) {b : Addr} {n : Nat} {g : Nat → Int32} (A : AB Z h b n g) {j : Int32} {x : Int32} (jn : Nat) (hj : j.toInt = jn) (hlt : jn < n) (pc' : Nat) (hd : decode c.code pc = .ok (.bastore, 1)) (hp : pc + 1 = pc') (k : ∀ T' h', Stand p l e R s m args below meth c T' (locs ++ [⟨b, jn⟩]) cells slots → T'.heap = h' → Wr h h' b jn (.int (nar .byte x)) → AB Z h' b n (upd g jn (i2bI x)) → Go p e below s Q rc rs (T'.setTop (mkF m pc' Ls st))) : Go p e below s Q rc rs (T.setTop (mkF m pc Ls (.int x :: .int j :: .ref b :: st))) := by
  subst hp
  obtain ⟨cl, A1, A2, A3, A4⟩ := A
  obtain ⟨T', h', X', e', W', stp⟩ := stB X hx hZ eT A1 (j := j) (x := x) (own_in hj (by omega)) (g := mkF m pc Ls (.int x :: .int j :: .ref b :: st)) rfl rfl hd
  rw [(own_idx hj).2] at X' W'
  refine (k _ _ X' e' W' ⟨_, A1.same W', by rw [sz_set]; exact A2, A3, fun q hq => ?_⟩).by stp
  by_cases z : q = jn
  · subst z; simp [Cell.setSlot, A2, hq, upd]; try rfl
  · simp only [upd, z, if_false]; rw [← A4 q hq]; simp only [Cell.setSlot]; rw [Array.getElem?_setIfInBounds_ne (Ne.symm z)]
theorem g_arraylengthI (X : Stand p l e R s m args below meth c T locs cells slots) (hx : p.tables.exec = Jvm.exec) (hZ : Z.Warmed39 s.vm) (eT : T.heap = h) {b : Addr} {n : Nat} {g : Nat → Int32} (A : AI Z h b n g) (v : Int32) (hv : n.toInt32 = v) (pc' : Nat) (hd : decode c.code pc = .ok (.arraylength, 1)) (hp : pc + 1 = pc') (k : Go p e below s Q rc rs (T.setTop (mkF m pc' Ls (.int v :: st)))) : Go p e below s Q rc rs (T.setTop (mkF m pc Ls (.ref b :: st))) := by
  subst hp hv
  obtain ⟨cl, A1, A2, A3, A4⟩ := A
  subst A2
  exact k.by fun t k => X.arraylength hx (by rw [eT]; exact A1.1) (State.isArrayOf_alike hZ.alike A1.2.1) (g := mkF m pc Ls (.ref b :: st)) rfl rfl hd t k
theorem g_arraylengthJ (X : Stand p l e R s m args below meth c T locs cells slots) (hx : p.tables.exec = Jvm.exec) (hZ : Z.Warmed39 s.vm) (eT : T.heap = h) {b : Addr} {n : Nat} {g : Nat → Int64} (A : AJ Z h b n g) (v : Int32) (hv : n.toInt32 = v) (pc' : Nat) (hd : decode c.code pc = .ok (.arraylength, 1)) (hp : pc + 1 = pc') (k : Go p e below s Q rc rs (T.setTop (mkF m pc' Ls (.int v :: st)))) : Go p e below s Q rc rs (T.setTop (mkF m pc Ls (.ref b :: st))) := by
  subst hp hv
  obtain ⟨cl, A1, A2, A3, A4⟩ := A
  subst A2
  exact k.by fun t k => X.arraylength hx (by rw [eT]; exact A1.1) (State.isArrayOf_alike hZ.alike A1.2.1) (g := mkF m pc Ls (.ref b :: st)) rfl rfl hd t k
theorem g_arraylengthB (X : Stand p l e R s m args below meth c T locs cells slots) (hx : p.tables.exec = Jvm.exec) (hZ : Z.Warmed39 s.vm) (eT : T.heap = h) {b : Addr} {n : Nat} {g : Nat → Int32} (A : AB Z h b n g) (v : Int32) (hv : n.toInt32 = v) (pc' : Nat) (hd : decode c.code pc = .ok (.arraylength, 1)) (hp : pc + 1 = pc') (k : Go p e below s Q rc rs (T.setTop (mkF m pc' Ls (.int v :: st)))) : Go p e below s Q rc rs (T.setTop (mkF m pc Ls (.ref b :: st))) := by
  subst hp hv
  obtain ⟨cl, A1, A2, A3, A4⟩ := A
  subst A2
  exact k.by fun t k => X.arraylength hx (by rw [eT]; exact A1.1) (State.isArrayOf_alike hZ.alike A1.2.1) (g := mkF m pc Ls (.ref b :: st)) rfl rfl hd t k
theorem g_newarr (X : Stand p l e R s m args below meth c T locs cells slots) (hx : p.tables.exec = Jvm.exec) (hZ : Z.Warmed39 s.vm) {aty : ArrayType} (w : (Jvm.Cond.arrayClass (newarray.typeOf aty)).before a0 Z = true) (eT : T.heap = h) {n : Int32} (N cap : Nat) (hn : n.toInt = N) (hcap : N ≤ cap) (hb : cap * 8 ≤ 536870912) (pc' : Nat) (hd : decode c.code pc = .ok (.newarray aty, 2)) (hcl : cells + 1 ≤ R.cells) (hsl : slots + cap ≤ R.slots) (hp : pc + 2 = pc') (k : ∀ T' h' b, b = h.size → Stand p l e R s m args below meth c T' locs (cells + 1) (slots + cap) → T'.heap = h' → Ext h h' → AV Z h' b (newarray.typeOf aty) N (fun _ => defaultValue (newarray.typeOf aty)) → Go p e below s Q rc rs (T'.setTop (mkF m pc' Ls (.ref b :: st)))) : Go p e below s Q rc rs (T.setTop (mkF m pc Ls (.int n :: st))) := by
  subst hp
  obtain ⟨q1, q2⟩ := own_idx hn
  obtain ⟨T', h', kA, X', e', E', A', stp⟩ := newP X hx hZ w eT (g := mkF m pc Ls (.int n :: st)) rfl hd rfl q1 (cap := cap) (by rw [q2]; exact hcap) hb hcl hsl
  have hN : N < 2 ^ 31 := by have := n.toInt_lt; omega
  refine (k _ _ _ rfl X' e' E' ⟨_, A', by rw [sz_new, q2], hN, fun j hj => ?_⟩).by stp
  simp [newA, q2, hj]
theorem g_newarrayI (X : Stand p l e R s m args below meth c T locs cells slots) (hx : p.tables.exec = Jvm.exec) (hZ : Z.Warmed39 s.vm) (w : (Jvm.Cond.arrayClass .int).before a0 Z = true) (eT : T.heap = h) {n : Int32} (N cap : Nat) (hn : n.toInt = N) (hcap : N ≤ cap) (hb : cap * 8 ≤ 536870912) (pc' : Nat) (hd : decode c.code pc = .ok (.newarray .int, 2)) (hcl : cells + 1 ≤ R.cells) (hsl : slots + cap ≤ R.slots) (hp : pc + 2 = pc') (k : ∀ T' h' b, b = h.size → Stand p l e R s m args below meth c T' locs (cells + 1) (slots + cap) → T'.heap = h' → Ext h h' → AI Z h' b N (fun _ => (0 : Int32)) → Go p e below s Q rc rs (T'.setTop (mkF m pc' Ls (.ref b :: st)))) : Go p e below s Q rc rs (T.setTop (mkF m pc Ls (.int n :: st))) :=
  g_newarr X hx hZ (aty := .int) w eT N cap hn hcap hb pc' hd hcl hsl hp fun T' h' b q1 q2 q3 q4 q5 => k T' h' b q1 q2 q3 q4 q5
theorem g_newarrayJ (X : Stand p l e R s m args below meth c T locs cells slots) (hx : p.tables.exec = Jvm.exec) (hZ : Z.Warmed39 s.vm) (w : (Jvm.Cond.arrayClass .long).before a0 Z = true) (eT : T.heap = h) {n : Int32} (N cap : Nat) (hn : n.toInt = N) (hcap : N ≤ cap) (hb : cap * 8 ≤ 536870912) (pc' : Nat) (hd : decode c.code pc = .ok (.newarray .long, 2)) (hcl : cells + 1 ≤ R.cells) (hsl : slots + cap ≤ R.slots) (hp : pc + 2 = pc') (k : ∀ T' h' b, b = h.size → Stand p l e R s m args below meth c T' locs (cells + 1) (slots + cap) → T'.heap = h' → Ext h h' → AJ Z h' b N (fun _ => (0 : Int64)) → Go p e below s Q rc rs (T'.setTop (mkF m pc' Ls (.ref b :: st)))) : Go p e below s Q rc rs (T.setTop (mkF m pc Ls (.int n :: st))) :=
  g_newarr X hx hZ (aty := .long) w eT N cap hn hcap hb pc' hd hcl hsl hp fun T' h' b q1 q2 q3 q4 q5 => k T' h' b q1 q2 q3 q4 q5
theorem g_newarrayB (X : Stand p l e R s m args below meth c T locs cells slots) (hx : p.tables.exec = Jvm.exec) (hZ : Z.Warmed39 s.vm) (w : (Jvm.Cond.arrayClass .byte).before a0 Z = true) (eT : T.heap = h) {n : Int32} (N cap : Nat) (hn : n.toInt = N) (hcap : N ≤ cap) (hb : cap * 8 ≤ 536870912) (pc' : Nat) (hd : decode c.code pc = .ok (.newarray .byte, 2)) (hcl : cells + 1 ≤ R.cells) (hsl : slots + cap ≤ R.slots) (hp : pc + 2 = pc') (k : ∀ T' h' b, b = h.size → Stand p l e R s m args below meth c T' locs (cells + 1) (slots + cap) → T'.heap = h' → Ext h h' → AB Z h' b N (fun _ => (0 : Int32)) → Go p e below s Q rc rs (T'.setTop (mkF m pc' Ls (.ref b :: st)))) : Go p e below s Q rc rs (T.setTop (mkF m pc Ls (.int n :: st))) :=
  g_newarr X hx hZ (aty := .byte) w eT N cap hn hcap hb pc' hd hcl hsl hp fun T' h' b q1 q2 q3 q4 q5 => k T' h' b q1 q2 q3 q4 q5
end OwnKit
def own_nx (N j : Nat) : Nat := if j + 1 = N then 0 else j + 1
def own_find (hi lo : Nat → Int64) (N : Nat) (qh ql : Int64) : Nat → Nat → Int32
  | 0, j => if hi j = qh ∧ lo j = ql then 1 else 0
  | k + 1, j => if hi j = qh ∧ lo j = ql then 1 else if hi j = 0 ∧ lo j = 0 then 0 else own_find hi lo N qh ql k (own_nx N j)
def own_ends (hi lo : Nat → Int64) (N : Nat) : Nat → Nat → Prop
  | 0, j => hi j = 0 ∧ lo j = 0
  | k + 1, j => (hi j = 0 ∧ lo j = 0) ∨ own_ends hi lo N k (own_nx N j)
def own_slot (hi lo : Nat → Int64) (N : Nat) : Nat → Nat → Nat
  | 0, j => j
  | k + 1, j => if hi j = 0 ∧ lo j = 0 then j else own_slot hi lo N k (own_nx N j)
def own_mk (mk : Int32) (N : Nat) : Prop := 2 ≤ N ∧ N ≤ 16 ∧ (∀ x : Int32, 0 ≤ (x &&& mk).toInt ∧ (x &&& mk).toInt < N) ∧ (∀ x : Int32, 0 ≤ x.toInt → x.toInt < N → (x &&& mk).toInt = x.toInt) ∧ (∀ x : Int32, x.toInt = N → (x &&& mk).toInt = 0)
def own_start (mk : Int32) (l : Int64) : Nat := (l.toInt32 &&& mk).toInt.toNat
theorem own_sta {mk : Int32} {N : Nat} (h : own_mk mk N) (l : Int64) : (l.toInt32 &&& mk).toInt = own_start mk l ∧ own_start mk l < N := by
  have q := h.2.2.1 l.toInt32; unfold own_start; omega
theorem own_next {mk : Int32} {N : Nat} (h : own_mk mk N) {x : Int32} {j : Nat} (hj : x.toInt = j) (hl : j < N) : ((x + 1) &&& mk).toInt = own_nx N j ∧ own_nx N j < N := by
  have e : (1 : Int32).toInt = 1 := rfl
  have a := c_iadd x 1; have r := rng32 (x + 1)
  have hN := h.2.1
  have s : (x + 1).toInt = j + 1 := by omega
  unfold own_nx
  split
  · have := h.2.2.2.2 (x + 1) (by omega); omega
  · have := h.2.2.2.1 (x + 1) (by omega) (by omega); omega
theorem own_e1 {hi lo : Nat → Int64} {N k j : Nat} (h : own_ends hi lo N (k + 1) j) (n : ¬ (hi j = 0 ∧ lo j = 0)) : own_ends hi lo N k (own_nx N j) := by
  rcases h with q | q
  · exact absurd q n
  · exact q
theorem own_fs {hi lo : Nat → Int64} {N k j : Nat} {qh ql : Int64} {r : Int32} (h : own_find hi lo N qh ql (k + 1) j = r) (m : ¬ (hi j = qh ∧ lo j = ql)) (n : ¬ (hi j = 0 ∧ lo j = 0)) : own_find hi lo N qh ql k (own_nx N j) = r := by
  rw [own_find, if_neg m, if_neg n] at h; exact h
theorem own_ss {hi lo : Nat → Int64} {N k j r : Nat} (h : own_slot hi lo N (k + 1) j = r) (n : ¬ (hi j = 0 ∧ lo j = 0)) : own_slot hi lo N k (own_nx N j) = r := by
  rw [own_slot, if_neg n] at h; exact h
def own_c4 (x : Int32) : Prop := x = 1 ∨ x = 2 ∨ x = 4 ∨ x = 8
theorem own_ca {x : Int32} (h : own_c4 x) : ¬ x < 1 := by rcases h with rfl | rfl | rfl | rfl <;> decide
theorem own_cb {x : Int32} (h : own_c4 x) : ¬ (536870912 : Int32) < x := by rcases h with rfl | rfl | rfl | rfl <;> decide

theorem d1_0 : decode jdk_29_method_69_code 0 = .ok (.iload_n 0, 1) := by decide +kernel
theorem d1_1 : decode jdk_29_method_69_code 1 = .ok (.iload_n 1, 1) := by decide +kernel
theorem d1_2 : decode jdk_29_method_69_code 2 = .ok (.if_icmp .gt 7, 3) := by decide +kernel
theorem d1_5 : decode jdk_29_method_69_code 5 = .ok (.iload_n 0, 1) := by decide +kernel
theorem d1_6 : decode jdk_29_method_69_code 6 = .ok (.goto 4, 3) := by decide +kernel
theorem d1_9 : decode jdk_29_method_69_code 9 = .ok (.iload_n 1, 1) := by decide +kernel
theorem d1_10 : decode jdk_29_method_69_code 10 = .ok (.ireturn, 1) := by decide +kernel
theorem ef_1 (m : MethodId) (x0 : Int32) (x1 : Int32) : entryFrame m #[(.int x0), (.int x1)] 2 = mkF m 0 #[.val (.int x0), .val (.int x1)] [] := by first | (simp [entryFrame, mkF, argsToLocals, Value.category]; done) | rfl
def f1 (x0 : Int32) (x1 : Int32) : Int32 := if x1 < x0 then x1 else x0
def Q1 (x0 : Int32) (x1 : Int32) (h0 : Heap) (v : Option Value) (h : Heap) (L : List Loc) : Prop := v = some (.int (f1 x0 x1)) ∧ L = [] ∧ h = h0
set_option maxRecDepth 65536 in
set_option maxHeartbeats 40000000 in
theorem rm1 (l : Launch) (Z : State) (a0 : Array Value) (hw : ∀ d ∈ tables_1, d.before a0 Z = true) (ws : List Jvm.Cond) (x0 : Int32) (x1 : Int32) (h0 : Heap) :
    MetFree l (⟨"java/lang/Math", "min", "(II)I"⟩ : MethodName) (head1 (Jvm.Cond.code (⟨"java/lang/Math", "min", "(II)I"⟩ : MethodName) jdk_29_method_69_code 2 (some .int) :: ws) ({ frames := 0, cells := 0, slots := 0, locals := 0 } : Room)) (fun a U => a = #[(.int x0), (.int x1)] ∧ Z.Warmed39 U.vm ∧ U.heap = h0) (fun _ _ _ _ _ => True) (fun _ U o U' => ∃ v L, o = .returned v ∧ Q1 x0 x1 h0 v U'.heap L ∧ FrameEnd U o U' L ({ frames := 0, cells := 0, slots := 0, locals := 0 } : Room).cells ({ frames := 0, cells := 0, slots := 0, locals := 0 } : Room).slots) := by
  refine g_body (Jvm.Free.JP.mathPlain rfl (by decide +kernel)) ?_
  intro p e s m below meth c T0 X0 hx hby hml hret hlk hown hnm hZ e0
  rw [ef_1]
  show Go p e below s _ _ _ (T0.setTop (mkF m 0 #[.val (.int x0), .val (.int x1)] []))
  refine g_iloadN X0 hx 1 (hb hby d1_0) rfl rfl ?_
  show Go p e below s _ _ _ (T0.setTop (mkF m 1 #[.val (.int x0), .val (.int x1)] [(.int x0)]))
  refine g_iloadN X0 hx 2 (hb hby d1_1) rfl rfl ?_
  show Go p e below s _ _ _ (T0.setTop (mkF m 2 #[.val (.int x0), .val (.int x1)] [(.int x1), (.int x0)]))
  refine g_icmp_gt X0 hx 9 5 (hb hby d1_2) (by decide) rfl rfl (fun h1 => ?_) (fun h1 => ?_)
  · show Go p e below s _ _ _ (T0.setTop (mkF m 9 #[.val (.int x0), .val (.int x1)] []))
    refine g_iloadN X0 hx 10 (hb hby d1_9) rfl rfl ?_
    show Go p e below s _ _ _ (T0.setTop (mkF m 10 #[.val (.int x0), .val (.int x1)] [(.int x1)]))
    exact g_retI X0 hx hret hlk (hb hby d1_10) (by decide) (by decide) ⟨congrArg (fun z => some (Value.int z)) (show x1 = (f1 x0 x1) from by rw [f1, if_pos h1]), rfl, e0⟩
  · show Go p e below s _ _ _ (T0.setTop (mkF m 5 #[.val (.int x0), .val (.int x1)] []))
    refine g_iloadN X0 hx 6 (hb hby d1_5) rfl rfl ?_
    show Go p e below s _ _ _ (T0.setTop (mkF m 6 #[.val (.int x0), .val (.int x1)] [(.int x0)]))
    refine g_goto X0 hx 10 (hb hby d1_6) (by decide) rfl ?_
    show Go p e below s _ _ _ (T0.setTop (mkF m 10 #[.val (.int x0), .val (.int x1)] [(.int x0)]))
    exact g_retI X0 hx hret hlk (hb hby d1_10) (by decide) (by decide) ⟨congrArg (fun z => some (Value.int z)) (show x0 = (f1 x0 x1) from by rw [f1, if_neg h1]), rfl, e0⟩
theorem d4_0 : decode jdk_33_method_49_code 0 = .ok (.iload_n 0, 1) := by decide +kernel
theorem d4_1 : decode jdk_33_method_49_code 1 = .ok (.iload_n 0, 1) := by decide +kernel
theorem d4_2 : decode jdk_33_method_49_code 2 = .ok (.iconst 1, 1) := by decide +kernel
theorem d4_3 : decode jdk_33_method_49_code 3 = .ok (.iushr, 1) := by decide +kernel
theorem d4_4 : decode jdk_33_method_49_code 4 = .ok (.ldc_w 265, 3) := by decide +kernel
theorem d4_7 : decode jdk_33_method_49_code 7 = .ok (.iand, 1) := by decide +kernel
theorem d4_8 : decode jdk_33_method_49_code 8 = .ok (.isub, 1) := by decide +kernel
theorem d4_9 : decode jdk_33_method_49_code 9 = .ok (.istore_n 0, 1) := by decide +kernel
theorem d4_10 : decode jdk_33_method_49_code 10 = .ok (.iload_n 0, 1) := by decide +kernel
theorem d4_11 : decode jdk_33_method_49_code 11 = .ok (.ldc_w 266, 3) := by decide +kernel
theorem d4_14 : decode jdk_33_method_49_code 14 = .ok (.iand, 1) := by decide +kernel
theorem d4_15 : decode jdk_33_method_49_code 15 = .ok (.iload_n 0, 1) := by decide +kernel
theorem d4_16 : decode jdk_33_method_49_code 16 = .ok (.iconst 2, 1) := by decide +kernel
theorem d4_17 : decode jdk_33_method_49_code 17 = .ok (.iushr, 1) := by decide +kernel
theorem d4_18 : decode jdk_33_method_49_code 18 = .ok (.ldc_w 266, 3) := by decide +kernel
theorem d4_21 : decode jdk_33_method_49_code 21 = .ok (.iand, 1) := by decide +kernel
theorem d4_22 : decode jdk_33_method_49_code 22 = .ok (.iadd, 1) := by decide +kernel
theorem d4_23 : decode jdk_33_method_49_code 23 = .ok (.istore_n 0, 1) := by decide +kernel
theorem d4_24 : decode jdk_33_method_49_code 24 = .ok (.iload_n 0, 1) := by decide +kernel
theorem d4_25 : decode jdk_33_method_49_code 25 = .ok (.iload_n 0, 1) := by decide +kernel
theorem d4_26 : decode jdk_33_method_49_code 26 = .ok (.iconst 4, 1) := by decide +kernel
theorem d4_27 : decode jdk_33_method_49_code 27 = .ok (.iushr, 1) := by decide +kernel
theorem d4_28 : decode jdk_33_method_49_code 28 = .ok (.iadd, 1) := by decide +kernel
theorem d4_29 : decode jdk_33_method_49_code 29 = .ok (.ldc_w 267, 3) := by decide +kernel
theorem d4_32 : decode jdk_33_method_49_code 32 = .ok (.iand, 1) := by decide +kernel
theorem d4_33 : decode jdk_33_method_49_code 33 = .ok (.istore_n 0, 1) := by decide +kernel
theorem d4_34 : decode jdk_33_method_49_code 34 = .ok (.iload_n 0, 1) := by decide +kernel
theorem d4_35 : decode jdk_33_method_49_code 35 = .ok (.iload_n 0, 1) := by decide +kernel
theorem d4_36 : decode jdk_33_method_49_code 36 = .ok (.bipush 8, 2) := by decide +kernel
theorem d4_38 : decode jdk_33_method_49_code 38 = .ok (.iushr, 1) := by decide +kernel
theorem d4_39 : decode jdk_33_method_49_code 39 = .ok (.iadd, 1) := by decide +kernel
theorem d4_40 : decode jdk_33_method_49_code 40 = .ok (.istore_n 0, 1) := by decide +kernel
theorem d4_41 : decode jdk_33_method_49_code 41 = .ok (.iload_n 0, 1) := by decide +kernel
theorem d4_42 : decode jdk_33_method_49_code 42 = .ok (.iload_n 0, 1) := by decide +kernel
theorem d4_43 : decode jdk_33_method_49_code 43 = .ok (.bipush 16, 2) := by decide +kernel
theorem d4_45 : decode jdk_33_method_49_code 45 = .ok (.iushr, 1) := by decide +kernel
theorem d4_46 : decode jdk_33_method_49_code 46 = .ok (.iadd, 1) := by decide +kernel
theorem d4_47 : decode jdk_33_method_49_code 47 = .ok (.istore_n 0, 1) := by decide +kernel
theorem d4_48 : decode jdk_33_method_49_code 48 = .ok (.iload_n 0, 1) := by decide +kernel
theorem d4_49 : decode jdk_33_method_49_code 49 = .ok (.bipush 63, 2) := by decide +kernel
theorem d4_51 : decode jdk_33_method_49_code 51 = .ok (.iand, 1) := by decide +kernel
theorem d4_52 : decode jdk_33_method_49_code 52 = .ok (.ireturn, 1) := by decide +kernel
theorem pn_4 : plainName "java/lang/Integer" = true := by first | (simp [plainName, overriddenIn]; done) | decide +kernel
theorem ef_4 (m : MethodId) (x0 : Int32) : entryFrame m #[(.int x0)] 1 = mkF m 0 #[.val (.int x0)] [] := by first | (simp [entryFrame, mkF, argsToLocals, Value.category]; done) | rfl
def f4 (x0 : Int32) : Int32 := ((((((((x0 - ((ushrI x0 (1 : Int32)) &&& (1431655765 : Int32))) &&& (858993459 : Int32)) + ((ushrI (x0 - ((ushrI x0 (1 : Int32)) &&& (1431655765 : Int32))) (2 : Int32)) &&& (858993459 : Int32))) + (ushrI (((x0 - ((ushrI x0 (1 : Int32)) &&& (1431655765 : Int32))) &&& (858993459 : Int32)) + ((ushrI (x0 - ((ushrI x0 (1 : Int32)) &&& (1431655765 : Int32))) (2 : Int32)) &&& (858993459 : Int32))) (4 : Int32))) &&& (252645135 : Int32)) + (ushrI (((((x0 - ((ushrI x0 (1 : Int32)) &&& (1431655765 : Int32))) &&& (858993459 : Int32)) + ((ushrI (x0 - ((ushrI x0 (1 : Int32)) &&& (1431655765 : Int32))) (2 : Int32)) &&& (858993459 : Int32))) + (ushrI (((x0 - ((ushrI x0 (1 : Int32)) &&& (1431655765 : Int32))) &&& (858993459 : Int32)) + ((ushrI (x0 - ((ushrI x0 (1 : Int32)) &&& (1431655765 : Int32))) (2 : Int32)) &&& (858993459 : Int32))) (4 : Int32))) &&& (252645135 : Int32)) (8 : Int32))) + (ushrI ((((((x0 - ((ushrI x0 (1 : Int32)) &&& (1431655765 : Int32))) &&& (858993459 : Int32)) + ((ushrI (x0 - ((ushrI x0 (1 : Int32)) &&& (1431655765 : Int32))) (2 : Int32)) &&& (858993459 : Int32))) + (ushrI (((x0 - ((ushrI x0 (1 : Int32)) &&& (1431655765 : Int32))) &&& (858993459 : Int32)) + ((ushrI (x0 - ((ushrI x0 (1 : Int32)) &&& (1431655765 : Int32))) (2 : Int32)) &&& (858993459 : Int32))) (4 : Int32))) &&& (252645135 : Int32)) + (ushrI (((((x0 - ((ushrI x0 (1 : Int32)) &&& (1431655765 : Int32))) &&& (858993459 : Int32)) + ((ushrI (x0 - ((ushrI x0 (1 : Int32)) &&& (1431655765 : Int32))) (2 : Int32)) &&& (858993459 : Int32))) + (ushrI (((x0 - ((ushrI x0 (1 : Int32)) &&& (1431655765 : Int32))) &&& (858993459 : Int32)) + ((ushrI (x0 - ((ushrI x0 (1 : Int32)) &&& (1431655765 : Int32))) (2 : Int32)) &&& (858993459 : Int32))) (4 : Int32))) &&& (252645135 : Int32)) (8 : Int32))) (16 : Int32))) &&& (63 : Int32))
def Q4 (x0 : Int32) (h0 : Heap) (v : Option Value) (h : Heap) (L : List Loc) : Prop := v = some (.int (f4 x0)) ∧ L = [] ∧ h = h0
set_option maxRecDepth 65536 in
set_option maxHeartbeats 40000000 in
theorem rm4 (l : Launch) (Z : State) (a0 : Array Value) (hw : ∀ d ∈ tables_1, d.before a0 Z = true) (ws : List Jvm.Cond) (x0 : Int32) (h0 : Heap) :
    MetFree l (⟨"java/lang/Integer", "bitCount", "(I)I"⟩ : MethodName) (head1 (Jvm.Cond.code (⟨"java/lang/Integer", "bitCount", "(I)I"⟩ : MethodName) jdk_33_method_49_code 1 (some .int) :: ws) ({ frames := 0, cells := 0, slots := 0, locals := 0 } : Room)) (fun a U => a = #[(.int x0)] ∧ Z.Warmed39 U.vm ∧ U.heap = h0) (fun _ _ _ _ _ => True) (fun _ U o U' => ∃ v L, o = .returned v ∧ Q4 x0 h0 v U'.heap L ∧ FrameEnd U o U' L ({ frames := 0, cells := 0, slots := 0, locals := 0 } : Room).cells ({ frames := 0, cells := 0, slots := 0, locals := 0 } : Room).slots) := by
  refine g_body (plainFor_of_name pn_4) ?_
  intro p e s m below meth c T0 X0 hx hby hml hret hlk hown hnm hZ e0
  rw [ef_4]
  show Go p e below s _ _ _ (T0.setTop (mkF m 0 #[.val (.int x0)] []))
  refine g_iloadN X0 hx 1 (hb hby d4_0) rfl rfl ?_
  show Go p e below s _ _ _ (T0.setTop (mkF m 1 #[.val (.int x0)] [(.int x0)]))
  refine g_iloadN X0 hx 2 (hb hby d4_1) rfl rfl ?_
  show Go p e below s _ _ _ (T0.setTop (mkF m 2 #[.val (.int x0)] [(.int x0), (.int x0)]))
  refine g_iconst X0 hx (1 : Int32) 3 (hb hby d4_2) rfl rfl ?_
  show Go p e below s _ _ _ (T0.setTop (mkF m 3 #[.val (.int x0)] [(.int (1 : Int32)), (.int x0), (.int x0)]))
  refine g_iushr X0 hx 4 (hb hby d4_3) rfl ?_
  show Go p e below s _ _ _ (T0.setTop (mkF m 4 #[.val (.int x0)] [(.int (ushrI x0 (1 : Int32))), (.int x0)]))
  refine g_ldc_w X0 hx hZ hown (hw _ (List.mem_of_getElem? (i := 18) rfl)) 7 (hb hby d4_4) rfl ?_
  show Go p e below s _ _ _ (T0.setTop (mkF m 7 #[.val (.int x0)] [(.int (1431655765 : Int32)), (.int (ushrI x0 (1 : Int32))), (.int x0)]))
  refine g_iand X0 hx 8 (hb hby d4_7) rfl ?_
  show Go p e below s _ _ _ (T0.setTop (mkF m 8 #[.val (.int x0)] [(.int ((ushrI x0 (1 : Int32)) &&& (1431655765 : Int32))), (.int x0)]))
  refine g_isub X0 hx 9 (hb hby d4_8) rfl ?_
  show Go p e below s _ _ _ (T0.setTop (mkF m 9 #[.val (.int x0)] [(.int (x0 - ((ushrI x0 (1 : Int32)) &&& (1431655765 : Int32))))]))
  refine g_istoreN X0 hx #[.val (.int (x0 - ((ushrI x0 (1 : Int32)) &&& (1431655765 : Int32))))] 10 (hb hby d4_9) rfl rfl ?_
  show Go p e below s _ _ _ (T0.setTop (mkF m 10 #[.val (.int (x0 - ((ushrI x0 (1 : Int32)) &&& (1431655765 : Int32))))] []))
  refine g_iloadN X0 hx 11 (hb hby d4_10) rfl rfl ?_
  show Go p e below s _ _ _ (T0.setTop (mkF m 11 #[.val (.int (x0 - ((ushrI x0 (1 : Int32)) &&& (1431655765 : Int32))))] [(.int (x0 - ((ushrI x0 (1 : Int32)) &&& (1431655765 : Int32))))]))
  refine g_ldc_w X0 hx hZ hown (hw _ (List.mem_of_getElem? (i := 19) rfl)) 14 (hb hby d4_11) rfl ?_
  show Go p e below s _ _ _ (T0.setTop (mkF m 14 #[.val (.int (x0 - ((ushrI x0 (1 : Int32)) &&& (1431655765 : Int32))))] [(.int (858993459 : Int32)), (.int (x0 - ((ushrI x0 (1 : Int32)) &&& (1431655765 : Int32))))]))
  refine g_iand X0 hx 15 (hb hby d4_14) rfl ?_
  show Go p e below s _ _ _ (T0.setTop (mkF m 15 #[.val (.int (x0 - ((ushrI x0 (1 : Int32)) &&& (1431655765 : Int32))))] [(.int ((x0 - ((ushrI x0 (1 : Int32)) &&& (1431655765 : Int32))) &&& (858993459 : Int32)))]))
  refine g_iloadN X0 hx 16 (hb hby d4_15) rfl rfl ?_
  show Go p e below s _ _ _ (T0.setTop (mkF m 16 #[.val (.int (x0 - ((ushrI x0 (1 : Int32)) &&& (1431655765 : Int32))))] [(.int (x0 - ((ushrI x0 (1 : Int32)) &&& (1431655765 : Int32)))), (.int ((x0 - ((ushrI x0 (1 : Int32)) &&& (1431655765 : Int32))) &&& (858993459 : Int32)))]))
  refine g_iconst X0 hx (2 : Int32) 17 (hb hby d4_16) rfl rfl ?_
  show Go p e below s _ _ _ (T0.setTop (mkF m 17 #[.val (.int (x0 - ((ushrI x0 (1 : Int32)) &&& (1431655765 : Int32))))] [(.int (2 : Int32)), (.int (x0 - ((ushrI x0 (1 : Int32)) &&& (1431655765 : Int32)))), (.int ((x0 - ((ushrI x0 (1 : Int32)) &&& (1431655765 : Int32))) &&& (858993459 : Int32)))]))
  refine g_iushr X0 hx 18 (hb hby d4_17) rfl ?_
  show Go p e below s _ _ _ (T0.setTop (mkF m 18 #[.val (.int (x0 - ((ushrI x0 (1 : Int32)) &&& (1431655765 : Int32))))] [(.int (ushrI (x0 - ((ushrI x0 (1 : Int32)) &&& (1431655765 : Int32))) (2 : Int32))), (.int ((x0 - ((ushrI x0 (1 : Int32)) &&& (1431655765 : Int32))) &&& (858993459 : Int32)))]))
  refine g_ldc_w X0 hx hZ hown (hw _ (List.mem_of_getElem? (i := 19) rfl)) 21 (hb hby d4_18) rfl ?_
  show Go p e below s _ _ _ (T0.setTop (mkF m 21 #[.val (.int (x0 - ((ushrI x0 (1 : Int32)) &&& (1431655765 : Int32))))] [(.int (858993459 : Int32)), (.int (ushrI (x0 - ((ushrI x0 (1 : Int32)) &&& (1431655765 : Int32))) (2 : Int32))), (.int ((x0 - ((ushrI x0 (1 : Int32)) &&& (1431655765 : Int32))) &&& (858993459 : Int32)))]))
  refine g_iand X0 hx 22 (hb hby d4_21) rfl ?_
  show Go p e below s _ _ _ (T0.setTop (mkF m 22 #[.val (.int (x0 - ((ushrI x0 (1 : Int32)) &&& (1431655765 : Int32))))] [(.int ((ushrI (x0 - ((ushrI x0 (1 : Int32)) &&& (1431655765 : Int32))) (2 : Int32)) &&& (858993459 : Int32))), (.int ((x0 - ((ushrI x0 (1 : Int32)) &&& (1431655765 : Int32))) &&& (858993459 : Int32)))]))
  refine g_iadd X0 hx 23 (hb hby d4_22) rfl ?_
  show Go p e below s _ _ _ (T0.setTop (mkF m 23 #[.val (.int (x0 - ((ushrI x0 (1 : Int32)) &&& (1431655765 : Int32))))] [(.int (((x0 - ((ushrI x0 (1 : Int32)) &&& (1431655765 : Int32))) &&& (858993459 : Int32)) + ((ushrI (x0 - ((ushrI x0 (1 : Int32)) &&& (1431655765 : Int32))) (2 : Int32)) &&& (858993459 : Int32))))]))
  refine g_istoreN X0 hx #[.val (.int (((x0 - ((ushrI x0 (1 : Int32)) &&& (1431655765 : Int32))) &&& (858993459 : Int32)) + ((ushrI (x0 - ((ushrI x0 (1 : Int32)) &&& (1431655765 : Int32))) (2 : Int32)) &&& (858993459 : Int32))))] 24 (hb hby d4_23) rfl rfl ?_
  show Go p e below s _ _ _ (T0.setTop (mkF m 24 #[.val (.int (((x0 - ((ushrI x0 (1 : Int32)) &&& (1431655765 : Int32))) &&& (858993459 : Int32)) + ((ushrI (x0 - ((ushrI x0 (1 : Int32)) &&& (1431655765 : Int32))) (2 : Int32)) &&& (858993459 : Int32))))] []))
  refine g_iloadN X0 hx 25 (hb hby d4_24) rfl rfl ?_
  show Go p e below s _ _ _ (T0.setTop (mkF m 25 #[.val (.int (((x0 - ((ushrI x0 (1 : Int32)) &&& (1431655765 : Int32))) &&& (858993459 : Int32)) + ((ushrI (x0 - ((ushrI x0 (1 : Int32)) &&& (1431655765 : Int32))) (2 : Int32)) &&& (858993459 : Int32))))] [(.int (((x0 - ((ushrI x0 (1 : Int32)) &&& (1431655765 : Int32))) &&& (858993459 : Int32)) + ((ushrI (x0 - ((ushrI x0 (1 : Int32)) &&& (1431655765 : Int32))) (2 : Int32)) &&& (858993459 : Int32))))]))
  refine g_iloadN X0 hx 26 (hb hby d4_25) rfl rfl ?_
  show Go p e below s _ _ _ (T0.setTop (mkF m 26 #[.val (.int (((x0 - ((ushrI x0 (1 : Int32)) &&& (1431655765 : Int32))) &&& (858993459 : Int32)) + ((ushrI (x0 - ((ushrI x0 (1 : Int32)) &&& (1431655765 : Int32))) (2 : Int32)) &&& (858993459 : Int32))))] [(.int (((x0 - ((ushrI x0 (1 : Int32)) &&& (1431655765 : Int32))) &&& (858993459 : Int32)) + ((ushrI (x0 - ((ushrI x0 (1 : Int32)) &&& (1431655765 : Int32))) (2 : Int32)) &&& (858993459 : Int32)))), (.int (((x0 - ((ushrI x0 (1 : Int32)) &&& (1431655765 : Int32))) &&& (858993459 : Int32)) + ((ushrI (x0 - ((ushrI x0 (1 : Int32)) &&& (1431655765 : Int32))) (2 : Int32)) &&& (858993459 : Int32))))]))
  refine g_iconst X0 hx (4 : Int32) 27 (hb hby d4_26) rfl rfl ?_
  show Go p e below s _ _ _ (T0.setTop (mkF m 27 #[.val (.int (((x0 - ((ushrI x0 (1 : Int32)) &&& (1431655765 : Int32))) &&& (858993459 : Int32)) + ((ushrI (x0 - ((ushrI x0 (1 : Int32)) &&& (1431655765 : Int32))) (2 : Int32)) &&& (858993459 : Int32))))] [(.int (4 : Int32)), (.int (((x0 - ((ushrI x0 (1 : Int32)) &&& (1431655765 : Int32))) &&& (858993459 : Int32)) + ((ushrI (x0 - ((ushrI x0 (1 : Int32)) &&& (1431655765 : Int32))) (2 : Int32)) &&& (858993459 : Int32)))), (.int (((x0 - ((ushrI x0 (1 : Int32)) &&& (1431655765 : Int32))) &&& (858993459 : Int32)) + ((ushrI (x0 - ((ushrI x0 (1 : Int32)) &&& (1431655765 : Int32))) (2 : Int32)) &&& (858993459 : Int32))))]))
  refine g_iushr X0 hx 28 (hb hby d4_27) rfl ?_
  show Go p e below s _ _ _ (T0.setTop (mkF m 28 #[.val (.int (((x0 - ((ushrI x0 (1 : Int32)) &&& (1431655765 : Int32))) &&& (858993459 : Int32)) + ((ushrI (x0 - ((ushrI x0 (1 : Int32)) &&& (1431655765 : Int32))) (2 : Int32)) &&& (858993459 : Int32))))] [(.int (ushrI (((x0 - ((ushrI x0 (1 : Int32)) &&& (1431655765 : Int32))) &&& (858993459 : Int32)) + ((ushrI (x0 - ((ushrI x0 (1 : Int32)) &&& (1431655765 : Int32))) (2 : Int32)) &&& (858993459 : Int32))) (4 : Int32))), (.int (((x0 - ((ushrI x0 (1 : Int32)) &&& (1431655765 : Int32))) &&& (858993459 : Int32)) + ((ushrI (x0 - ((ushrI x0 (1 : Int32)) &&& (1431655765 : Int32))) (2 : Int32)) &&& (858993459 : Int32))))]))
  refine g_iadd X0 hx 29 (hb hby d4_28) rfl ?_
  show Go p e below s _ _ _ (T0.setTop (mkF m 29 #[.val (.int (((x0 - ((ushrI x0 (1 : Int32)) &&& (1431655765 : Int32))) &&& (858993459 : Int32)) + ((ushrI (x0 - ((ushrI x0 (1 : Int32)) &&& (1431655765 : Int32))) (2 : Int32)) &&& (858993459 : Int32))))] [(.int ((((x0 - ((ushrI x0 (1 : Int32)) &&& (1431655765 : Int32))) &&& (858993459 : Int32)) + ((ushrI (x0 - ((ushrI x0 (1 : Int32)) &&& (1431655765 : Int32))) (2 : Int32)) &&& (858993459 : Int32))) + (ushrI (((x0 - ((ushrI x0 (1 : Int32)) &&& (1431655765 : Int32))) &&& (858993459 : Int32)) + ((ushrI (x0 - ((ushrI x0 (1 : Int32)) &&& (1431655765 : Int32))) (2 : Int32)) &&& (858993459 : Int32))) (4 : Int32))))]))
  refine g_ldc_w X0 hx hZ hown (hw _ (List.mem_of_getElem? (i := 20) rfl)) 32 (hb hby d4_29) rfl ?_
  show Go p e below s _ _ _ (T0.setTop (mkF m 32 #[.val (.int (((x0 - ((ushrI x0 (1 : Int32)) &&& (1431655765 : Int32))) &&& (858993459 : Int32)) + ((ushrI (x0 - ((ushrI x0 (1 : Int32)) &&& (1431655765 : Int32))) (2 : Int32)) &&& (858993459 : Int32))))] [(.int (252645135 : Int32)), (.int ((((x0 - ((ushrI x0 (1 : Int32)) &&& (1431655765 : Int32))) &&& (858993459 : Int32)) + ((ushrI (x0 - ((ushrI x0 (1 : Int32)) &&& (1431655765 : Int32))) (2 : Int32)) &&& (858993459 : Int32))) + (ushrI (((x0 - ((ushrI x0 (1 : Int32)) &&& (1431655765 : Int32))) &&& (858993459 : Int32)) + ((ushrI (x0 - ((ushrI x0 (1 : Int32)) &&& (1431655765 : Int32))) (2 : Int32)) &&& (858993459 : Int32))) (4 : Int32))))]))
  refine g_iand X0 hx 33 (hb hby d4_32) rfl ?_
  show Go p e below s _ _ _ (T0.setTop (mkF m 33 #[.val (.int (((x0 - ((ushrI x0 (1 : Int32)) &&& (1431655765 : Int32))) &&& (858993459 : Int32)) + ((ushrI (x0 - ((ushrI x0 (1 : Int32)) &&& (1431655765 : Int32))) (2 : Int32)) &&& (858993459 : Int32))))] [(.int (((((x0 - ((ushrI x0 (1 : Int32)) &&& (1431655765 : Int32))) &&& (858993459 : Int32)) + ((ushrI (x0 - ((ushrI x0 (1 : Int32)) &&& (1431655765 : Int32))) (2 : Int32)) &&& (858993459 : Int32))) + (ushrI (((x0 - ((ushrI x0 (1 : Int32)) &&& (1431655765 : Int32))) &&& (858993459 : Int32)) + ((ushrI (x0 - ((ushrI x0 (1 : Int32)) &&& (1431655765 : Int32))) (2 : Int32)) &&& (858993459 : Int32))) (4 : Int32))) &&& (252645135 : Int32)))]))
  refine g_istoreN X0 hx #[.val (.int (((((x0 - ((ushrI x0 (1 : Int32)) &&& (1431655765 : Int32))) &&& (858993459 : Int32)) + ((ushrI (x0 - ((ushrI x0 (1 : Int32)) &&& (1431655765 : Int32))) (2 : Int32)) &&& (858993459 : Int32))) + (ushrI (((x0 - ((ushrI x0 (1 : Int32)) &&& (1431655765 : Int32))) &&& (858993459 : Int32)) + ((ushrI (x0 - ((ushrI x0 (1 : Int32)) &&& (1431655765 : Int32))) (2 : Int32)) &&& (858993459 : Int32))) (4 : Int32))) &&& (252645135 : Int32)))] 34 (hb hby d4_33) rfl rfl ?_
  show Go p e below s _ _ _ (T0.setTop (mkF m 34 #[.val (.int (((((x0 - ((ushrI x0 (1 : Int32)) &&& (1431655765 : Int32))) &&& (858993459 : Int32)) + ((ushrI (x0 - ((ushrI x0 (1 : Int32)) &&& (1431655765 : Int32))) (2 : Int32)) &&& (858993459 : Int32))) + (ushrI (((x0 - ((ushrI x0 (1 : Int32)) &&& (1431655765 : Int32))) &&& (858993459 : Int32)) + ((ushrI (x0 - ((ushrI x0 (1 : Int32)) &&& (1431655765 : Int32))) (2 : Int32)) &&& (858993459 : Int32))) (4 : Int32))) &&& (252645135 : Int32)))] []))
  refine g_iloadN X0 hx 35 (hb hby d4_34) rfl rfl ?_
  show Go p e below s _ _ _ (T0.setTop (mkF m 35 #[.val (.int (((((x0 - ((ushrI x0 (1 : Int32)) &&& (1431655765 : Int32))) &&& (858993459 : Int32)) + ((ushrI (x0 - ((ushrI x0 (1 : Int32)) &&& (1431655765 : Int32))) (2 : Int32)) &&& (858993459 : Int32))) + (ushrI (((x0 - ((ushrI x0 (1 : Int32)) &&& (1431655765 : Int32))) &&& (858993459 : Int32)) + ((ushrI (x0 - ((ushrI x0 (1 : Int32)) &&& (1431655765 : Int32))) (2 : Int32)) &&& (858993459 : Int32))) (4 : Int32))) &&& (252645135 : Int32)))] [(.int (((((x0 - ((ushrI x0 (1 : Int32)) &&& (1431655765 : Int32))) &&& (858993459 : Int32)) + ((ushrI (x0 - ((ushrI x0 (1 : Int32)) &&& (1431655765 : Int32))) (2 : Int32)) &&& (858993459 : Int32))) + (ushrI (((x0 - ((ushrI x0 (1 : Int32)) &&& (1431655765 : Int32))) &&& (858993459 : Int32)) + ((ushrI (x0 - ((ushrI x0 (1 : Int32)) &&& (1431655765 : Int32))) (2 : Int32)) &&& (858993459 : Int32))) (4 : Int32))) &&& (252645135 : Int32)))]))
  refine g_iloadN X0 hx 36 (hb hby d4_35) rfl rfl ?_
  show Go p e below s _ _ _ (T0.setTop (mkF m 36 #[.val (.int (((((x0 - ((ushrI x0 (1 : Int32)) &&& (1431655765 : Int32))) &&& (858993459 : Int32)) + ((ushrI (x0 - ((ushrI x0 (1 : Int32)) &&& (1431655765 : Int32))) (2 : Int32)) &&& (858993459 : Int32))) + (ushrI (((x0 - ((ushrI x0 (1 : Int32)) &&& (1431655765 : Int32))) &&& (858993459 : Int32)) + ((ushrI (x0 - ((ushrI x0 (1 : Int32)) &&& (1431655765 : Int32))) (2 : Int32)) &&& (858993459 : Int32))) (4 : Int32))) &&& (252645135 : Int32)))] [(.int (((((x0 - ((ushrI x0 (1 : Int32)) &&& (1431655765 : Int32))) &&& (858993459 : Int32)) + ((ushrI (x0 - ((ushrI x0 (1 : Int32)) &&& (1431655765 : Int32))) (2 : Int32)) &&& (858993459 : Int32))) + (ushrI (((x0 - ((ushrI x0 (1 : Int32)) &&& (1431655765 : Int32))) &&& (858993459 : Int32)) + ((ushrI (x0 - ((ushrI x0 (1 : Int32)) &&& (1431655765 : Int32))) (2 : Int32)) &&& (858993459 : Int32))) (4 : Int32))) &&& (252645135 : Int32))), (.int (((((x0 - ((ushrI x0 (1 : Int32)) &&& (1431655765 : Int32))) &&& (858993459 : Int32)) + ((ushrI (x0 - ((ushrI x0 (1 : Int32)) &&& (1431655765 : Int32))) (2 : Int32)) &&& (858993459 : Int32))) + (ushrI (((x0 - ((ushrI x0 (1 : Int32)) &&& (1431655765 : Int32))) &&& (858993459 : Int32)) + ((ushrI (x0 - ((ushrI x0 (1 : Int32)) &&& (1431655765 : Int32))) (2 : Int32)) &&& (858993459 : Int32))) (4 : Int32))) &&& (252645135 : Int32)))]))
  refine g_bipush X0 hx (8 : Int32) 38 (hb hby d4_36) rfl rfl ?_
  show Go p e below s _ _ _ (T0.setTop (mkF m 38 #[.val (.int (((((x0 - ((ushrI x0 (1 : Int32)) &&& (1431655765 : Int32))) &&& (858993459 : Int32)) + ((ushrI (x0 - ((ushrI x0 (1 : Int32)) &&& (1431655765 : Int32))) (2 : Int32)) &&& (858993459 : Int32))) + (ushrI (((x0 - ((ushrI x0 (1 : Int32)) &&& (1431655765 : Int32))) &&& (858993459 : Int32)) + ((ushrI (x0 - ((ushrI x0 (1 : Int32)) &&& (1431655765 : Int32))) (2 : Int32)) &&& (858993459 : Int32))) (4 : Int32))) &&& (252645135 : Int32)))] [(.int (8 : Int32)), (.int (((((x0 - ((ushrI x0 (1 : Int32)) &&& (1431655765 : Int32))) &&& (858993459 : Int32)) + ((ushrI (x0 - ((ushrI x0 (1 : Int32)) &&& (1431655765 : Int32))) (2 : Int32)) &&& (858993459 : Int32))) + (ushrI (((x0 - ((ushrI x0 (1 : Int32)) &&& (1431655765 : Int32))) &&& (858993459 : Int32)) + ((ushrI (x0 - ((ushrI x0 (1 : Int32)) &&& (1431655765 : Int32))) (2 : Int32)) &&& (858993459 : Int32))) (4 : Int32))) &&& (252645135 : Int32))), (.int (((((x0 - ((ushrI x0 (1 : Int32)) &&& (1431655765 : Int32))) &&& (858993459 : Int32)) + ((ushrI (x0 - ((ushrI x0 (1 : Int32)) &&& (1431655765 : Int32))) (2 : Int32)) &&& (858993459 : Int32))) + (ushrI (((x0 - ((ushrI x0 (1 : Int32)) &&& (1431655765 : Int32))) &&& (858993459 : Int32)) + ((ushrI (x0 - ((ushrI x0 (1 : Int32)) &&& (1431655765 : Int32))) (2 : Int32)) &&& (858993459 : Int32))) (4 : Int32))) &&& (252645135 : Int32)))]))
  refine g_iushr X0 hx 39 (hb hby d4_38) rfl ?_
  show Go p e below s _ _ _ (T0.setTop (mkF m 39 #[.val (.int (((((x0 - ((ushrI x0 (1 : Int32)) &&& (1431655765 : Int32))) &&& (858993459 : Int32)) + ((ushrI (x0 - ((ushrI x0 (1 : Int32)) &&& (1431655765 : Int32))) (2 : Int32)) &&& (858993459 : Int32))) + (ushrI (((x0 - ((ushrI x0 (1 : Int32)) &&& (1431655765 : Int32))) &&& (858993459 : Int32)) + ((ushrI (x0 - ((ushrI x0 (1 : Int32)) &&& (1431655765 : Int32))) (2 : Int32)) &&& (858993459 : Int32))) (4 : Int32))) &&& (252645135 : Int32)))] [(.int (ushrI (((((x0 - ((ushrI x0 (1 : Int32)) &&& (1431655765 : Int32))) &&& (858993459 : Int32)) + ((ushrI (x0 - ((ushrI x0 (1 : Int32)) &&& (1431655765 : Int32))) (2 : Int32)) &&& (858993459 : Int32))) + (ushrI (((x0 - ((ushrI x0 (1 : Int32)) &&& (1431655765 : Int32))) &&& (858993459 : Int32)) + ((ushrI (x0 - ((ushrI x0 (1 : Int32)) &&& (1431655765 : Int32))) (2 : Int32)) &&& (858993459 : Int32))) (4 : Int32))) &&& (252645135 : Int32)) (8 : Int32))), (.int (((((x0 - ((ushrI x0 (1 : Int32)) &&& (1431655765 : Int32))) &&& (858993459 : Int32)) + ((ushrI (x0 - ((ushrI x0 (1 : Int32)) &&& (1431655765 : Int32))) (2 : Int32)) &&& (858993459 : Int32))) + (ushrI (((x0 - ((ushrI x0 (1 : Int32)) &&& (1431655765 : Int32))) &&& (858993459 : Int32)) + ((ushrI (x0 - ((ushrI x0 (1 : Int32)) &&& (1431655765 : Int32))) (2 : Int32)) &&& (858993459 : Int32))) (4 : Int32))) &&& (252645135 : Int32)))]))
  refine g_iadd X0 hx 40 (hb hby d4_39) rfl ?_
  show Go p e below s _ _ _ (T0.setTop (mkF m 40 #[.val (.int (((((x0 - ((ushrI x0 (1 : Int32)) &&& (1431655765 : Int32))) &&& (858993459 : Int32)) + ((ushrI (x0 - ((ushrI x0 (1 : Int32)) &&& (1431655765 : Int32))) (2 : Int32)) &&& (858993459 : Int32))) + (ushrI (((x0 - ((ushrI x0 (1 : Int32)) &&& (1431655765 : Int32))) &&& (858993459 : Int32)) + ((ushrI (x0 - ((ushrI x0 (1 : Int32)) &&& (1431655765 : Int32))) (2 : Int32)) &&& (858993459 : Int32))) (4 : Int32))) &&& (252645135 : Int32)))] [(.int ((((((x0 - ((ushrI x0 (1 : Int32)) &&& (1431655765 : Int32))) &&& (858993459 : Int32)) + ((ushrI (x0 - ((ushrI x0 (1 : Int32)) &&& (1431655765 : Int32))) (2 : Int32)) &&& (858993459 : Int32))) + (ushrI (((x0 - ((ushrI x0 (1 : Int32)) &&& (1431655765 : Int32))) &&& (858993459 : Int32)) + ((ushrI (x0 - ((ushrI x0 (1 : Int32)) &&& (1431655765 : Int32))) (2 : Int32)) &&& (858993459 : Int32))) (4 : Int32))) &&& (252645135 : Int32)) + (ushrI (((((x0 - ((ushrI x0 (1 : Int32)) &&& (1431655765 : Int32))) &&& (858993459 : Int32)) + ((ushrI (x0 - ((ushrI x0 (1 : Int32)) &&& (1431655765 : Int32))) (2 : Int32)) &&& (858993459 : Int32))) + (ushrI (((x0 - ((ushrI x0 (1 : Int32)) &&& (1431655765 : Int32))) &&& (858993459 : Int32)) + ((ushrI (x0 - ((ushrI x0 (1 : Int32)) &&& (1431655765 : Int32))) (2 : Int32)) &&& (858993459 : Int32))) (4 : Int32))) &&& (252645135 : Int32)) (8 : Int32))))]))
  refine g_istoreN X0 hx #[.val (.int ((((((x0 - ((ushrI x0 (1 : Int32)) &&& (1431655765 : Int32))) &&& (858993459 : Int32)) + ((ushrI (x0 - ((ushrI x0 (1 : Int32)) &&& (1431655765 : Int32))) (2 : Int32)) &&& (858993459 : Int32))) + (ushrI (((x0 - ((ushrI x0 (1 : Int32)) &&& (1431655765 : Int32))) &&& (858993459 : Int32)) + ((ushrI (x0 - ((ushrI x0 (1 : Int32)) &&& (1431655765 : Int32))) (2 : Int32)) &&& (858993459 : Int32))) (4 : Int32))) &&& (252645135 : Int32)) + (ushrI (((((x0 - ((ushrI x0 (1 : Int32)) &&& (1431655765 : Int32))) &&& (858993459 : Int32)) + ((ushrI (x0 - ((ushrI x0 (1 : Int32)) &&& (1431655765 : Int32))) (2 : Int32)) &&& (858993459 : Int32))) + (ushrI (((x0 - ((ushrI x0 (1 : Int32)) &&& (1431655765 : Int32))) &&& (858993459 : Int32)) + ((ushrI (x0 - ((ushrI x0 (1 : Int32)) &&& (1431655765 : Int32))) (2 : Int32)) &&& (858993459 : Int32))) (4 : Int32))) &&& (252645135 : Int32)) (8 : Int32))))] 41 (hb hby d4_40) rfl rfl ?_
  show Go p e below s _ _ _ (T0.setTop (mkF m 41 #[.val (.int ((((((x0 - ((ushrI x0 (1 : Int32)) &&& (1431655765 : Int32))) &&& (858993459 : Int32)) + ((ushrI (x0 - ((ushrI x0 (1 : Int32)) &&& (1431655765 : Int32))) (2 : Int32)) &&& (858993459 : Int32))) + (ushrI (((x0 - ((ushrI x0 (1 : Int32)) &&& (1431655765 : Int32))) &&& (858993459 : Int32)) + ((ushrI (x0 - ((ushrI x0 (1 : Int32)) &&& (1431655765 : Int32))) (2 : Int32)) &&& (858993459 : Int32))) (4 : Int32))) &&& (252645135 : Int32)) + (ushrI (((((x0 - ((ushrI x0 (1 : Int32)) &&& (1431655765 : Int32))) &&& (858993459 : Int32)) + ((ushrI (x0 - ((ushrI x0 (1 : Int32)) &&& (1431655765 : Int32))) (2 : Int32)) &&& (858993459 : Int32))) + (ushrI (((x0 - ((ushrI x0 (1 : Int32)) &&& (1431655765 : Int32))) &&& (858993459 : Int32)) + ((ushrI (x0 - ((ushrI x0 (1 : Int32)) &&& (1431655765 : Int32))) (2 : Int32)) &&& (858993459 : Int32))) (4 : Int32))) &&& (252645135 : Int32)) (8 : Int32))))] []))
  refine g_iloadN X0 hx 42 (hb hby d4_41) rfl rfl ?_
  show Go p e below s _ _ _ (T0.setTop (mkF m 42 #[.val (.int ((((((x0 - ((ushrI x0 (1 : Int32)) &&& (1431655765 : Int32))) &&& (858993459 : Int32)) + ((ushrI (x0 - ((ushrI x0 (1 : Int32)) &&& (1431655765 : Int32))) (2 : Int32)) &&& (858993459 : Int32))) + (ushrI (((x0 - ((ushrI x0 (1 : Int32)) &&& (1431655765 : Int32))) &&& (858993459 : Int32)) + ((ushrI (x0 - ((ushrI x0 (1 : Int32)) &&& (1431655765 : Int32))) (2 : Int32)) &&& (858993459 : Int32))) (4 : Int32))) &&& (252645135 : Int32)) + (ushrI (((((x0 - ((ushrI x0 (1 : Int32)) &&& (1431655765 : Int32))) &&& (858993459 : Int32)) + ((ushrI (x0 - ((ushrI x0 (1 : Int32)) &&& (1431655765 : Int32))) (2 : Int32)) &&& (858993459 : Int32))) + (ushrI (((x0 - ((ushrI x0 (1 : Int32)) &&& (1431655765 : Int32))) &&& (858993459 : Int32)) + ((ushrI (x0 - ((ushrI x0 (1 : Int32)) &&& (1431655765 : Int32))) (2 : Int32)) &&& (858993459 : Int32))) (4 : Int32))) &&& (252645135 : Int32)) (8 : Int32))))] [(.int ((((((x0 - ((ushrI x0 (1 : Int32)) &&& (1431655765 : Int32))) &&& (858993459 : Int32)) + ((ushrI (x0 - ((ushrI x0 (1 : Int32)) &&& (1431655765 : Int32))) (2 : Int32)) &&& (858993459 : Int32))) + (ushrI (((x0 - ((ushrI x0 (1 : Int32)) &&& (1431655765 : Int32))) &&& (858993459 : Int32)) + ((ushrI (x0 - ((ushrI x0 (1 : Int32)) &&& (1431655765 : Int32))) (2 : Int32)) &&& (858993459 : Int32))) (4 : Int32))) &&& (252645135 : Int32)) + (ushrI (((((x0 - ((ushrI x0 (1 : Int32)) &&& (1431655765 : Int32))) &&& (858993459 : Int32)) + ((ushrI (x0 - ((ushrI x0 (1 : Int32)) &&& (1431655765 : Int32))) (2 : Int32)) &&& (858993459 : Int32))) + (ushrI (((x0 - ((ushrI x0 (1 : Int32)) &&& (1431655765 : Int32))) &&& (858993459 : Int32)) + ((ushrI (x0 - ((ushrI x0 (1 : Int32)) &&& (1431655765 : Int32))) (2 : Int32)) &&& (858993459 : Int32))) (4 : Int32))) &&& (252645135 : Int32)) (8 : Int32))))]))
  refine g_iloadN X0 hx 43 (hb hby d4_42) rfl rfl ?_
  show Go p e below s _ _ _ (T0.setTop (mkF m 43 #[.val (.int ((((((x0 - ((ushrI x0 (1 : Int32)) &&& (1431655765 : Int32))) &&& (858993459 : Int32)) + ((ushrI (x0 - ((ushrI x0 (1 : Int32)) &&& (1431655765 : Int32))) (2 : Int32)) &&& (858993459 : Int32))) + (ushrI (((x0 - ((ushrI x0 (1 : Int32)) &&& (1431655765 : Int32))) &&& (858993459 : Int32)) + ((ushrI (x0 - ((ushrI x0 (1 : Int32)) &&& (1431655765 : Int32))) (2 : Int32)) &&& (858993459 : Int32))) (4 : Int32))) &&& (252645135 : Int32)) + (ushrI (((((x0 - ((ushrI x0 (1 : Int32)) &&& (1431655765 : Int32))) &&& (858993459 : Int32)) + ((ushrI (x0 - ((ushrI x0 (1 : Int32)) &&& (1431655765 : Int32))) (2 : Int32)) &&& (858993459 : Int32))) + (ushrI (((x0 - ((ushrI x0 (1 : Int32)) &&& (1431655765 : Int32))) &&& (858993459 : Int32)) + ((ushrI (x0 - ((ushrI x0 (1 : Int32)) &&& (1431655765 : Int32))) (2 : Int32)) &&& (858993459 : Int32))) (4 : Int32))) &&& (252645135 : Int32)) (8 : Int32))))] [(.int ((((((x0 - ((ushrI x0 (1 : Int32)) &&& (1431655765 : Int32))) &&& (858993459 : Int32)) + ((ushrI (x0 - ((ushrI x0 (1 : Int32)) &&& (1431655765 : Int32))) (2 : Int32)) &&& (858993459 : Int32))) + (ushrI (((x0 - ((ushrI x0 (1 : Int32)) &&& (1431655765 : Int32))) &&& (858993459 : Int32)) + ((ushrI (x0 - ((ushrI x0 (1 : Int32)) &&& (1431655765 : Int32))) (2 : Int32)) &&& (858993459 : Int32))) (4 : Int32))) &&& (252645135 : Int32)) + (ushrI (((((x0 - ((ushrI x0 (1 : Int32)) &&& (1431655765 : Int32))) &&& (858993459 : Int32)) + ((ushrI (x0 - ((ushrI x0 (1 : Int32)) &&& (1431655765 : Int32))) (2 : Int32)) &&& (858993459 : Int32))) + (ushrI (((x0 - ((ushrI x0 (1 : Int32)) &&& (1431655765 : Int32))) &&& (858993459 : Int32)) + ((ushrI (x0 - ((ushrI x0 (1 : Int32)) &&& (1431655765 : Int32))) (2 : Int32)) &&& (858993459 : Int32))) (4 : Int32))) &&& (252645135 : Int32)) (8 : Int32)))), (.int ((((((x0 - ((ushrI x0 (1 : Int32)) &&& (1431655765 : Int32))) &&& (858993459 : Int32)) + ((ushrI (x0 - ((ushrI x0 (1 : Int32)) &&& (1431655765 : Int32))) (2 : Int32)) &&& (858993459 : Int32))) + (ushrI (((x0 - ((ushrI x0 (1 : Int32)) &&& (1431655765 : Int32))) &&& (858993459 : Int32)) + ((ushrI (x0 - ((ushrI x0 (1 : Int32)) &&& (1431655765 : Int32))) (2 : Int32)) &&& (858993459 : Int32))) (4 : Int32))) &&& (252645135 : Int32)) + (ushrI (((((x0 - ((ushrI x0 (1 : Int32)) &&& (1431655765 : Int32))) &&& (858993459 : Int32)) + ((ushrI (x0 - ((ushrI x0 (1 : Int32)) &&& (1431655765 : Int32))) (2 : Int32)) &&& (858993459 : Int32))) + (ushrI (((x0 - ((ushrI x0 (1 : Int32)) &&& (1431655765 : Int32))) &&& (858993459 : Int32)) + ((ushrI (x0 - ((ushrI x0 (1 : Int32)) &&& (1431655765 : Int32))) (2 : Int32)) &&& (858993459 : Int32))) (4 : Int32))) &&& (252645135 : Int32)) (8 : Int32))))]))
  refine g_bipush X0 hx (16 : Int32) 45 (hb hby d4_43) rfl rfl ?_
  show Go p e below s _ _ _ (T0.setTop (mkF m 45 #[.val (.int ((((((x0 - ((ushrI x0 (1 : Int32)) &&& (1431655765 : Int32))) &&& (858993459 : Int32)) + ((ushrI (x0 - ((ushrI x0 (1 : Int32)) &&& (1431655765 : Int32))) (2 : Int32)) &&& (858993459 : Int32))) + (ushrI (((x0 - ((ushrI x0 (1 : Int32)) &&& (1431655765 : Int32))) &&& (858993459 : Int32)) + ((ushrI (x0 - ((ushrI x0 (1 : Int32)) &&& (1431655765 : Int32))) (2 : Int32)) &&& (858993459 : Int32))) (4 : Int32))) &&& (252645135 : Int32)) + (ushrI (((((x0 - ((ushrI x0 (1 : Int32)) &&& (1431655765 : Int32))) &&& (858993459 : Int32)) + ((ushrI (x0 - ((ushrI x0 (1 : Int32)) &&& (1431655765 : Int32))) (2 : Int32)) &&& (858993459 : Int32))) + (ushrI (((x0 - ((ushrI x0 (1 : Int32)) &&& (1431655765 : Int32))) &&& (858993459 : Int32)) + ((ushrI (x0 - ((ushrI x0 (1 : Int32)) &&& (1431655765 : Int32))) (2 : Int32)) &&& (858993459 : Int32))) (4 : Int32))) &&& (252645135 : Int32)) (8 : Int32))))] [(.int (16 : Int32)), (.int ((((((x0 - ((ushrI x0 (1 : Int32)) &&& (1431655765 : Int32))) &&& (858993459 : Int32)) + ((ushrI (x0 - ((ushrI x0 (1 : Int32)) &&& (1431655765 : Int32))) (2 : Int32)) &&& (858993459 : Int32))) + (ushrI (((x0 - ((ushrI x0 (1 : Int32)) &&& (1431655765 : Int32))) &&& (858993459 : Int32)) + ((ushrI (x0 - ((ushrI x0 (1 : Int32)) &&& (1431655765 : Int32))) (2 : Int32)) &&& (858993459 : Int32))) (4 : Int32))) &&& (252645135 : Int32)) + (ushrI (((((x0 - ((ushrI x0 (1 : Int32)) &&& (1431655765 : Int32))) &&& (858993459 : Int32)) + ((ushrI (x0 - ((ushrI x0 (1 : Int32)) &&& (1431655765 : Int32))) (2 : Int32)) &&& (858993459 : Int32))) + (ushrI (((x0 - ((ushrI x0 (1 : Int32)) &&& (1431655765 : Int32))) &&& (858993459 : Int32)) + ((ushrI (x0 - ((ushrI x0 (1 : Int32)) &&& (1431655765 : Int32))) (2 : Int32)) &&& (858993459 : Int32))) (4 : Int32))) &&& (252645135 : Int32)) (8 : Int32)))), (.int ((((((x0 - ((ushrI x0 (1 : Int32)) &&& (1431655765 : Int32))) &&& (858993459 : Int32)) + ((ushrI (x0 - ((ushrI x0 (1 : Int32)) &&& (1431655765 : Int32))) (2 : Int32)) &&& (858993459 : Int32))) + (ushrI (((x0 - ((ushrI x0 (1 : Int32)) &&& (1431655765 : Int32))) &&& (858993459 : Int32)) + ((ushrI (x0 - ((ushrI x0 (1 : Int32)) &&& (1431655765 : Int32))) (2 : Int32)) &&& (858993459 : Int32))) (4 : Int32))) &&& (252645135 : Int32)) + (ushrI (((((x0 - ((ushrI x0 (1 : Int32)) &&& (1431655765 : Int32))) &&& (858993459 : Int32)) + ((ushrI (x0 - ((ushrI x0 (1 : Int32)) &&& (1431655765 : Int32))) (2 : Int32)) &&& (858993459 : Int32))) + (ushrI (((x0 - ((ushrI x0 (1 : Int32)) &&& (1431655765 : Int32))) &&& (858993459 : Int32)) + ((ushrI (x0 - ((ushrI x0 (1 : Int32)) &&& (1431655765 : Int32))) (2 : Int32)) &&& (858993459 : Int32))) (4 : Int32))) &&& (252645135 : Int32)) (8 : Int32))))]))
  refine g_iushr X0 hx 46 (hb hby d4_45) rfl ?_
  show Go p e below s _ _ _ (T0.setTop (mkF m 46 #[.val (.int ((((((x0 - ((ushrI x0 (1 : Int32)) &&& (1431655765 : Int32))) &&& (858993459 : Int32)) + ((ushrI (x0 - ((ushrI x0 (1 : Int32)) &&& (1431655765 : Int32))) (2 : Int32)) &&& (858993459 : Int32))) + (ushrI (((x0 - ((ushrI x0 (1 : Int32)) &&& (1431655765 : Int32))) &&& (858993459 : Int32)) + ((ushrI (x0 - ((ushrI x0 (1 : Int32)) &&& (1431655765 : Int32))) (2 : Int32)) &&& (858993459 : Int32))) (4 : Int32))) &&& (252645135 : Int32)) + (ushrI (((((x0 - ((ushrI x0 (1 : Int32)) &&& (1431655765 : Int32))) &&& (858993459 : Int32)) + ((ushrI (x0 - ((ushrI x0 (1 : Int32)) &&& (1431655765 : Int32))) (2 : Int32)) &&& (858993459 : Int32))) + (ushrI (((x0 - ((ushrI x0 (1 : Int32)) &&& (1431655765 : Int32))) &&& (858993459 : Int32)) + ((ushrI (x0 - ((ushrI x0 (1 : Int32)) &&& (1431655765 : Int32))) (2 : Int32)) &&& (858993459 : Int32))) (4 : Int32))) &&& (252645135 : Int32)) (8 : Int32))))] [(.int (ushrI ((((((x0 - ((ushrI x0 (1 : Int32)) &&& (1431655765 : Int32))) &&& (858993459 : Int32)) + ((ushrI (x0 - ((ushrI x0 (1 : Int32)) &&& (1431655765 : Int32))) (2 : Int32)) &&& (858993459 : Int32))) + (ushrI (((x0 - ((ushrI x0 (1 : Int32)) &&& (1431655765 : Int32))) &&& (858993459 : Int32)) + ((ushrI (x0 - ((ushrI x0 (1 : Int32)) &&& (1431655765 : Int32))) (2 : Int32)) &&& (858993459 : Int32))) (4 : Int32))) &&& (252645135 : Int32)) + (ushrI (((((x0 - ((ushrI x0 (1 : Int32)) &&& (1431655765 : Int32))) &&& (858993459 : Int32)) + ((ushrI (x0 - ((ushrI x0 (1 : Int32)) &&& (1431655765 : Int32))) (2 : Int32)) &&& (858993459 : Int32))) + (ushrI (((x0 - ((ushrI x0 (1 : Int32)) &&& (1431655765 : Int32))) &&& (858993459 : Int32)) + ((ushrI (x0 - ((ushrI x0 (1 : Int32)) &&& (1431655765 : Int32))) (2 : Int32)) &&& (858993459 : Int32))) (4 : Int32))) &&& (252645135 : Int32)) (8 : Int32))) (16 : Int32))), (.int ((((((x0 - ((ushrI x0 (1 : Int32)) &&& (1431655765 : Int32))) &&& (858993459 : Int32)) + ((ushrI (x0 - ((ushrI x0 (1 : Int32)) &&& (1431655765 : Int32))) (2 : Int32)) &&& (858993459 : Int32))) + (ushrI (((x0 - ((ushrI x0 (1 : Int32)) &&& (1431655765 : Int32))) &&& (858993459 : Int32)) + ((ushrI (x0 - ((ushrI x0 (1 : Int32)) &&& (1431655765 : Int32))) (2 : Int32)) &&& (858993459 : Int32))) (4 : Int32))) &&& (252645135 : Int32)) + (ushrI (((((x0 - ((ushrI x0 (1 : Int32)) &&& (1431655765 : Int32))) &&& (858993459 : Int32)) + ((ushrI (x0 - ((ushrI x0 (1 : Int32)) &&& (1431655765 : Int32))) (2 : Int32)) &&& (858993459 : Int32))) + (ushrI (((x0 - ((ushrI x0 (1 : Int32)) &&& (1431655765 : Int32))) &&& (858993459 : Int32)) + ((ushrI (x0 - ((ushrI x0 (1 : Int32)) &&& (1431655765 : Int32))) (2 : Int32)) &&& (858993459 : Int32))) (4 : Int32))) &&& (252645135 : Int32)) (8 : Int32))))]))
  refine g_iadd X0 hx 47 (hb hby d4_46) rfl ?_
  show Go p e below s _ _ _ (T0.setTop (mkF m 47 #[.val (.int ((((((x0 - ((ushrI x0 (1 : Int32)) &&& (1431655765 : Int32))) &&& (858993459 : Int32)) + ((ushrI (x0 - ((ushrI x0 (1 : Int32)) &&& (1431655765 : Int32))) (2 : Int32)) &&& (858993459 : Int32))) + (ushrI (((x0 - ((ushrI x0 (1 : Int32)) &&& (1431655765 : Int32))) &&& (858993459 : Int32)) + ((ushrI (x0 - ((ushrI x0 (1 : Int32)) &&& (1431655765 : Int32))) (2 : Int32)) &&& (858993459 : Int32))) (4 : Int32))) &&& (252645135 : Int32)) + (ushrI (((((x0 - ((ushrI x0 (1 : Int32)) &&& (1431655765 : Int32))) &&& (858993459 : Int32)) + ((ushrI (x0 - ((ushrI x0 (1 : Int32)) &&& (1431655765 : Int32))) (2 : Int32)) &&& (858993459 : Int32))) + (ushrI (((x0 - ((ushrI x0 (1 : Int32)) &&& (1431655765 : Int32))) &&& (858993459 : Int32)) + ((ushrI (x0 - ((ushrI x0 (1 : Int32)) &&& (1431655765 : Int32))) (2 : Int32)) &&& (858993459 : Int32))) (4 : Int32))) &&& (252645135 : Int32)) (8 : Int32))))] [(.int (((((((x0 - ((ushrI x0 (1 : Int32)) &&& (1431655765 : Int32))) &&& (858993459 : Int32)) + ((ushrI (x0 - ((ushrI x0 (1 : Int32)) &&& (1431655765 : Int32))) (2 : Int32)) &&& (858993459 : Int32))) + (ushrI (((x0 - ((ushrI x0 (1 : Int32)) &&& (1431655765 : Int32))) &&& (858993459 : Int32)) + ((ushrI (x0 - ((ushrI x0 (1 : Int32)) &&& (1431655765 : Int32))) (2 : Int32)) &&& (858993459 : Int32))) (4 : Int32))) &&& (252645135 : Int32)) + (ushrI (((((x0 - ((ushrI x0 (1 : Int32)) &&& (1431655765 : Int32))) &&& (858993459 : Int32)) + ((ushrI (x0 - ((ushrI x0 (1 : Int32)) &&& (1431655765 : Int32))) (2 : Int32)) &&& (858993459 : Int32))) + (ushrI (((x0 - ((ushrI x0 (1 : Int32)) &&& (1431655765 : Int32))) &&& (858993459 : Int32)) + ((ushrI (x0 - ((ushrI x0 (1 : Int32)) &&& (1431655765 : Int32))) (2 : Int32)) &&& (858993459 : Int32))) (4 : Int32))) &&& (252645135 : Int32)) (8 : Int32))) + (ushrI ((((((x0 - ((ushrI x0 (1 : Int32)) &&& (1431655765 : Int32))) &&& (858993459 : Int32)) + ((ushrI (x0 - ((ushrI x0 (1 : Int32)) &&& (1431655765 : Int32))) (2 : Int32)) &&& (858993459 : Int32))) + (ushrI (((x0 - ((ushrI x0 (1 : Int32)) &&& (1431655765 : Int32))) &&& (858993459 : Int32)) + ((ushrI (x0 - ((ushrI x0 (1 : Int32)) &&& (1431655765 : Int32))) (2 : Int32)) &&& (858993459 : Int32))) (4 : Int32))) &&& (252645135 : Int32)) + (ushrI (((((x0 - ((ushrI x0 (1 : Int32)) &&& (1431655765 : Int32))) &&& (858993459 : Int32)) + ((ushrI (x0 - ((ushrI x0 (1 : Int32)) &&& (1431655765 : Int32))) (2 : Int32)) &&& (858993459 : Int32))) + (ushrI (((x0 - ((ushrI x0 (1 : Int32)) &&& (1431655765 : Int32))) &&& (858993459 : Int32)) + ((ushrI (x0 - ((ushrI x0 (1 : Int32)) &&& (1431655765 : Int32))) (2 : Int32)) &&& (858993459 : Int32))) (4 : Int32))) &&& (252645135 : Int32)) (8 : Int32))) (16 : Int32))))]))
  refine g_istoreN X0 hx #[.val (.int (((((((x0 - ((ushrI x0 (1 : Int32)) &&& (1431655765 : Int32))) &&& (858993459 : Int32)) + ((ushrI (x0 - ((ushrI x0 (1 : Int32)) &&& (1431655765 : Int32))) (2 : Int32)) &&& (858993459 : Int32))) + (ushrI (((x0 - ((ushrI x0 (1 : Int32)) &&& (1431655765 : Int32))) &&& (858993459 : Int32)) + ((ushrI (x0 - ((ushrI x0 (1 : Int32)) &&& (1431655765 : Int32))) (2 : Int32)) &&& (858993459 : Int32))) (4 : Int32))) &&& (252645135 : Int32)) + (ushrI (((((x0 - ((ushrI x0 (1 : Int32)) &&& (1431655765 : Int32))) &&& (858993459 : Int32)) + ((ushrI (x0 - ((ushrI x0 (1 : Int32)) &&& (1431655765 : Int32))) (2 : Int32)) &&& (858993459 : Int32))) + (ushrI (((x0 - ((ushrI x0 (1 : Int32)) &&& (1431655765 : Int32))) &&& (858993459 : Int32)) + ((ushrI (x0 - ((ushrI x0 (1 : Int32)) &&& (1431655765 : Int32))) (2 : Int32)) &&& (858993459 : Int32))) (4 : Int32))) &&& (252645135 : Int32)) (8 : Int32))) + (ushrI ((((((x0 - ((ushrI x0 (1 : Int32)) &&& (1431655765 : Int32))) &&& (858993459 : Int32)) + ((ushrI (x0 - ((ushrI x0 (1 : Int32)) &&& (1431655765 : Int32))) (2 : Int32)) &&& (858993459 : Int32))) + (ushrI (((x0 - ((ushrI x0 (1 : Int32)) &&& (1431655765 : Int32))) &&& (858993459 : Int32)) + ((ushrI (x0 - ((ushrI x0 (1 : Int32)) &&& (1431655765 : Int32))) (2 : Int32)) &&& (858993459 : Int32))) (4 : Int32))) &&& (252645135 : Int32)) + (ushrI (((((x0 - ((ushrI x0 (1 : Int32)) &&& (1431655765 : Int32))) &&& (858993459 : Int32)) + ((ushrI (x0 - ((ushrI x0 (1 : Int32)) &&& (1431655765 : Int32))) (2 : Int32)) &&& (858993459 : Int32))) + (ushrI (((x0 - ((ushrI x0 (1 : Int32)) &&& (1431655765 : Int32))) &&& (858993459 : Int32)) + ((ushrI (x0 - ((ushrI x0 (1 : Int32)) &&& (1431655765 : Int32))) (2 : Int32)) &&& (858993459 : Int32))) (4 : Int32))) &&& (252645135 : Int32)) (8 : Int32))) (16 : Int32))))] 48 (hb hby d4_47) rfl rfl ?_
  show Go p e below s _ _ _ (T0.setTop (mkF m 48 #[.val (.int (((((((x0 - ((ushrI x0 (1 : Int32)) &&& (1431655765 : Int32))) &&& (858993459 : Int32)) + ((ushrI (x0 - ((ushrI x0 (1 : Int32)) &&& (1431655765 : Int32))) (2 : Int32)) &&& (858993459 : Int32))) + (ushrI (((x0 - ((ushrI x0 (1 : Int32)) &&& (1431655765 : Int32))) &&& (858993459 : Int32)) + ((ushrI (x0 - ((ushrI x0 (1 : Int32)) &&& (1431655765 : Int32))) (2 : Int32)) &&& (858993459 : Int32))) (4 : Int32))) &&& (252645135 : Int32)) + (ushrI (((((x0 - ((ushrI x0 (1 : Int32)) &&& (1431655765 : Int32))) &&& (858993459 : Int32)) + ((ushrI (x0 - ((ushrI x0 (1 : Int32)) &&& (1431655765 : Int32))) (2 : Int32)) &&& (858993459 : Int32))) + (ushrI (((x0 - ((ushrI x0 (1 : Int32)) &&& (1431655765 : Int32))) &&& (858993459 : Int32)) + ((ushrI (x0 - ((ushrI x0 (1 : Int32)) &&& (1431655765 : Int32))) (2 : Int32)) &&& (858993459 : Int32))) (4 : Int32))) &&& (252645135 : Int32)) (8 : Int32))) + (ushrI ((((((x0 - ((ushrI x0 (1 : Int32)) &&& (1431655765 : Int32))) &&& (858993459 : Int32)) + ((ushrI (x0 - ((ushrI x0 (1 : Int32)) &&& (1431655765 : Int32))) (2 : Int32)) &&& (858993459 : Int32))) + (ushrI (((x0 - ((ushrI x0 (1 : Int32)) &&& (1431655765 : Int32))) &&& (858993459 : Int32)) + ((ushrI (x0 - ((ushrI x0 (1 : Int32)) &&& (1431655765 : Int32))) (2 : Int32)) &&& (858993459 : Int32))) (4 : Int32))) &&& (252645135 : Int32)) + (ushrI (((((x0 - ((ushrI x0 (1 : Int32)) &&& (1431655765 : Int32))) &&& (858993459 : Int32)) + ((ushrI (x0 - ((ushrI x0 (1 : Int32)) &&& (1431655765 : Int32))) (2 : Int32)) &&& (858993459 : Int32))) + (ushrI (((x0 - ((ushrI x0 (1 : Int32)) &&& (1431655765 : Int32))) &&& (858993459 : Int32)) + ((ushrI (x0 - ((ushrI x0 (1 : Int32)) &&& (1431655765 : Int32))) (2 : Int32)) &&& (858993459 : Int32))) (4 : Int32))) &&& (252645135 : Int32)) (8 : Int32))) (16 : Int32))))] []))
  refine g_iloadN X0 hx 49 (hb hby d4_48) rfl rfl ?_
  show Go p e below s _ _ _ (T0.setTop (mkF m 49 #[.val (.int (((((((x0 - ((ushrI x0 (1 : Int32)) &&& (1431655765 : Int32))) &&& (858993459 : Int32)) + ((ushrI (x0 - ((ushrI x0 (1 : Int32)) &&& (1431655765 : Int32))) (2 : Int32)) &&& (858993459 : Int32))) + (ushrI (((x0 - ((ushrI x0 (1 : Int32)) &&& (1431655765 : Int32))) &&& (858993459 : Int32)) + ((ushrI (x0 - ((ushrI x0 (1 : Int32)) &&& (1431655765 : Int32))) (2 : Int32)) &&& (858993459 : Int32))) (4 : Int32))) &&& (252645135 : Int32)) + (ushrI (((((x0 - ((ushrI x0 (1 : Int32)) &&& (1431655765 : Int32))) &&& (858993459 : Int32)) + ((ushrI (x0 - ((ushrI x0 (1 : Int32)) &&& (1431655765 : Int32))) (2 : Int32)) &&& (858993459 : Int32))) + (ushrI (((x0 - ((ushrI x0 (1 : Int32)) &&& (1431655765 : Int32))) &&& (858993459 : Int32)) + ((ushrI (x0 - ((ushrI x0 (1 : Int32)) &&& (1431655765 : Int32))) (2 : Int32)) &&& (858993459 : Int32))) (4 : Int32))) &&& (252645135 : Int32)) (8 : Int32))) + (ushrI ((((((x0 - ((ushrI x0 (1 : Int32)) &&& (1431655765 : Int32))) &&& (858993459 : Int32)) + ((ushrI (x0 - ((ushrI x0 (1 : Int32)) &&& (1431655765 : Int32))) (2 : Int32)) &&& (858993459 : Int32))) + (ushrI (((x0 - ((ushrI x0 (1 : Int32)) &&& (1431655765 : Int32))) &&& (858993459 : Int32)) + ((ushrI (x0 - ((ushrI x0 (1 : Int32)) &&& (1431655765 : Int32))) (2 : Int32)) &&& (858993459 : Int32))) (4 : Int32))) &&& (252645135 : Int32)) + (ushrI (((((x0 - ((ushrI x0 (1 : Int32)) &&& (1431655765 : Int32))) &&& (858993459 : Int32)) + ((ushrI (x0 - ((ushrI x0 (1 : Int32)) &&& (1431655765 : Int32))) (2 : Int32)) &&& (858993459 : Int32))) + (ushrI (((x0 - ((ushrI x0 (1 : Int32)) &&& (1431655765 : Int32))) &&& (858993459 : Int32)) + ((ushrI (x0 - ((ushrI x0 (1 : Int32)) &&& (1431655765 : Int32))) (2 : Int32)) &&& (858993459 : Int32))) (4 : Int32))) &&& (252645135 : Int32)) (8 : Int32))) (16 : Int32))))] [(.int (((((((x0 - ((ushrI x0 (1 : Int32)) &&& (1431655765 : Int32))) &&& (858993459 : Int32)) + ((ushrI (x0 - ((ushrI x0 (1 : Int32)) &&& (1431655765 : Int32))) (2 : Int32)) &&& (858993459 : Int32))) + (ushrI (((x0 - ((ushrI x0 (1 : Int32)) &&& (1431655765 : Int32))) &&& (858993459 : Int32)) + ((ushrI (x0 - ((ushrI x0 (1 : Int32)) &&& (1431655765 : Int32))) (2 : Int32)) &&& (858993459 : Int32))) (4 : Int32))) &&& (252645135 : Int32)) + (ushrI (((((x0 - ((ushrI x0 (1 : Int32)) &&& (1431655765 : Int32))) &&& (858993459 : Int32)) + ((ushrI (x0 - ((ushrI x0 (1 : Int32)) &&& (1431655765 : Int32))) (2 : Int32)) &&& (858993459 : Int32))) + (ushrI (((x0 - ((ushrI x0 (1 : Int32)) &&& (1431655765 : Int32))) &&& (858993459 : Int32)) + ((ushrI (x0 - ((ushrI x0 (1 : Int32)) &&& (1431655765 : Int32))) (2 : Int32)) &&& (858993459 : Int32))) (4 : Int32))) &&& (252645135 : Int32)) (8 : Int32))) + (ushrI ((((((x0 - ((ushrI x0 (1 : Int32)) &&& (1431655765 : Int32))) &&& (858993459 : Int32)) + ((ushrI (x0 - ((ushrI x0 (1 : Int32)) &&& (1431655765 : Int32))) (2 : Int32)) &&& (858993459 : Int32))) + (ushrI (((x0 - ((ushrI x0 (1 : Int32)) &&& (1431655765 : Int32))) &&& (858993459 : Int32)) + ((ushrI (x0 - ((ushrI x0 (1 : Int32)) &&& (1431655765 : Int32))) (2 : Int32)) &&& (858993459 : Int32))) (4 : Int32))) &&& (252645135 : Int32)) + (ushrI (((((x0 - ((ushrI x0 (1 : Int32)) &&& (1431655765 : Int32))) &&& (858993459 : Int32)) + ((ushrI (x0 - ((ushrI x0 (1 : Int32)) &&& (1431655765 : Int32))) (2 : Int32)) &&& (858993459 : Int32))) + (ushrI (((x0 - ((ushrI x0 (1 : Int32)) &&& (1431655765 : Int32))) &&& (858993459 : Int32)) + ((ushrI (x0 - ((ushrI x0 (1 : Int32)) &&& (1431655765 : Int32))) (2 : Int32)) &&& (858993459 : Int32))) (4 : Int32))) &&& (252645135 : Int32)) (8 : Int32))) (16 : Int32))))]))
  refine g_bipush X0 hx (63 : Int32) 51 (hb hby d4_49) rfl rfl ?_
  show Go p e below s _ _ _ (T0.setTop (mkF m 51 #[.val (.int (((((((x0 - ((ushrI x0 (1 : Int32)) &&& (1431655765 : Int32))) &&& (858993459 : Int32)) + ((ushrI (x0 - ((ushrI x0 (1 : Int32)) &&& (1431655765 : Int32))) (2 : Int32)) &&& (858993459 : Int32))) + (ushrI (((x0 - ((ushrI x0 (1 : Int32)) &&& (1431655765 : Int32))) &&& (858993459 : Int32)) + ((ushrI (x0 - ((ushrI x0 (1 : Int32)) &&& (1431655765 : Int32))) (2 : Int32)) &&& (858993459 : Int32))) (4 : Int32))) &&& (252645135 : Int32)) + (ushrI (((((x0 - ((ushrI x0 (1 : Int32)) &&& (1431655765 : Int32))) &&& (858993459 : Int32)) + ((ushrI (x0 - ((ushrI x0 (1 : Int32)) &&& (1431655765 : Int32))) (2 : Int32)) &&& (858993459 : Int32))) + (ushrI (((x0 - ((ushrI x0 (1 : Int32)) &&& (1431655765 : Int32))) &&& (858993459 : Int32)) + ((ushrI (x0 - ((ushrI x0 (1 : Int32)) &&& (1431655765 : Int32))) (2 : Int32)) &&& (858993459 : Int32))) (4 : Int32))) &&& (252645135 : Int32)) (8 : Int32))) + (ushrI ((((((x0 - ((ushrI x0 (1 : Int32)) &&& (1431655765 : Int32))) &&& (858993459 : Int32)) + ((ushrI (x0 - ((ushrI x0 (1 : Int32)) &&& (1431655765 : Int32))) (2 : Int32)) &&& (858993459 : Int32))) + (ushrI (((x0 - ((ushrI x0 (1 : Int32)) &&& (1431655765 : Int32))) &&& (858993459 : Int32)) + ((ushrI (x0 - ((ushrI x0 (1 : Int32)) &&& (1431655765 : Int32))) (2 : Int32)) &&& (858993459 : Int32))) (4 : Int32))) &&& (252645135 : Int32)) + (ushrI (((((x0 - ((ushrI x0 (1 : Int32)) &&& (1431655765 : Int32))) &&& (858993459 : Int32)) + ((ushrI (x0 - ((ushrI x0 (1 : Int32)) &&& (1431655765 : Int32))) (2 : Int32)) &&& (858993459 : Int32))) + (ushrI (((x0 - ((ushrI x0 (1 : Int32)) &&& (1431655765 : Int32))) &&& (858993459 : Int32)) + ((ushrI (x0 - ((ushrI x0 (1 : Int32)) &&& (1431655765 : Int32))) (2 : Int32)) &&& (858993459 : Int32))) (4 : Int32))) &&& (252645135 : Int32)) (8 : Int32))) (16 : Int32))))] [(.int (63 : Int32)), (.int (((((((x0 - ((ushrI x0 (1 : Int32)) &&& (1431655765 : Int32))) &&& (858993459 : Int32)) + ((ushrI (x0 - ((ushrI x0 (1 : Int32)) &&& (1431655765 : Int32))) (2 : Int32)) &&& (858993459 : Int32))) + (ushrI (((x0 - ((ushrI x0 (1 : Int32)) &&& (1431655765 : Int32))) &&& (858993459 : Int32)) + ((ushrI (x0 - ((ushrI x0 (1 : Int32)) &&& (1431655765 : Int32))) (2 : Int32)) &&& (858993459 : Int32))) (4 : Int32))) &&& (252645135 : Int32)) + (ushrI (((((x0 - ((ushrI x0 (1 : Int32)) &&& (1431655765 : Int32))) &&& (858993459 : Int32)) + ((ushrI (x0 - ((ushrI x0 (1 : Int32)) &&& (1431655765 : Int32))) (2 : Int32)) &&& (858993459 : Int32))) + (ushrI (((x0 - ((ushrI x0 (1 : Int32)) &&& (1431655765 : Int32))) &&& (858993459 : Int32)) + ((ushrI (x0 - ((ushrI x0 (1 : Int32)) &&& (1431655765 : Int32))) (2 : Int32)) &&& (858993459 : Int32))) (4 : Int32))) &&& (252645135 : Int32)) (8 : Int32))) + (ushrI ((((((x0 - ((ushrI x0 (1 : Int32)) &&& (1431655765 : Int32))) &&& (858993459 : Int32)) + ((ushrI (x0 - ((ushrI x0 (1 : Int32)) &&& (1431655765 : Int32))) (2 : Int32)) &&& (858993459 : Int32))) + (ushrI (((x0 - ((ushrI x0 (1 : Int32)) &&& (1431655765 : Int32))) &&& (858993459 : Int32)) + ((ushrI (x0 - ((ushrI x0 (1 : Int32)) &&& (1431655765 : Int32))) (2 : Int32)) &&& (858993459 : Int32))) (4 : Int32))) &&& (252645135 : Int32)) + (ushrI (((((x0 - ((ushrI x0 (1 : Int32)) &&& (1431655765 : Int32))) &&& (858993459 : Int32)) + ((ushrI (x0 - ((ushrI x0 (1 : Int32)) &&& (1431655765 : Int32))) (2 : Int32)) &&& (858993459 : Int32))) + (ushrI (((x0 - ((ushrI x0 (1 : Int32)) &&& (1431655765 : Int32))) &&& (858993459 : Int32)) + ((ushrI (x0 - ((ushrI x0 (1 : Int32)) &&& (1431655765 : Int32))) (2 : Int32)) &&& (858993459 : Int32))) (4 : Int32))) &&& (252645135 : Int32)) (8 : Int32))) (16 : Int32))))]))
  refine g_iand X0 hx 52 (hb hby d4_51) rfl ?_
  show Go p e below s _ _ _ (T0.setTop (mkF m 52 #[.val (.int (((((((x0 - ((ushrI x0 (1 : Int32)) &&& (1431655765 : Int32))) &&& (858993459 : Int32)) + ((ushrI (x0 - ((ushrI x0 (1 : Int32)) &&& (1431655765 : Int32))) (2 : Int32)) &&& (858993459 : Int32))) + (ushrI (((x0 - ((ushrI x0 (1 : Int32)) &&& (1431655765 : Int32))) &&& (858993459 : Int32)) + ((ushrI (x0 - ((ushrI x0 (1 : Int32)) &&& (1431655765 : Int32))) (2 : Int32)) &&& (858993459 : Int32))) (4 : Int32))) &&& (252645135 : Int32)) + (ushrI (((((x0 - ((ushrI x0 (1 : Int32)) &&& (1431655765 : Int32))) &&& (858993459 : Int32)) + ((ushrI (x0 - ((ushrI x0 (1 : Int32)) &&& (1431655765 : Int32))) (2 : Int32)) &&& (858993459 : Int32))) + (ushrI (((x0 - ((ushrI x0 (1 : Int32)) &&& (1431655765 : Int32))) &&& (858993459 : Int32)) + ((ushrI (x0 - ((ushrI x0 (1 : Int32)) &&& (1431655765 : Int32))) (2 : Int32)) &&& (858993459 : Int32))) (4 : Int32))) &&& (252645135 : Int32)) (8 : Int32))) + (ushrI ((((((x0 - ((ushrI x0 (1 : Int32)) &&& (1431655765 : Int32))) &&& (858993459 : Int32)) + ((ushrI (x0 - ((ushrI x0 (1 : Int32)) &&& (1431655765 : Int32))) (2 : Int32)) &&& (858993459 : Int32))) + (ushrI (((x0 - ((ushrI x0 (1 : Int32)) &&& (1431655765 : Int32))) &&& (858993459 : Int32)) + ((ushrI (x0 - ((ushrI x0 (1 : Int32)) &&& (1431655765 : Int32))) (2 : Int32)) &&& (858993459 : Int32))) (4 : Int32))) &&& (252645135 : Int32)) + (ushrI (((((x0 - ((ushrI x0 (1 : Int32)) &&& (1431655765 : Int32))) &&& (858993459 : Int32)) + ((ushrI (x0 - ((ushrI x0 (1 : Int32)) &&& (1431655765 : Int32))) (2 : Int32)) &&& (858993459 : Int32))) + (ushrI (((x0 - ((ushrI x0 (1 : Int32)) &&& (1431655765 : Int32))) &&& (858993459 : Int32)) + ((ushrI (x0 - ((ushrI x0 (1 : Int32)) &&& (1431655765 : Int32))) (2 : Int32)) &&& (858993459 : Int32))) (4 : Int32))) &&& (252645135 : Int32)) (8 : Int32))) (16 : Int32))))] [(.int ((((((((x0 - ((ushrI x0 (1 : Int32)) &&& (1431655765 : Int32))) &&& (858993459 : Int32)) + ((ushrI (x0 - ((ushrI x0 (1 : Int32)) &&& (1431655765 : Int32))) (2 : Int32)) &&& (858993459 : Int32))) + (ushrI (((x0 - ((ushrI x0 (1 : Int32)) &&& (1431655765 : Int32))) &&& (858993459 : Int32)) + ((ushrI (x0 - ((ushrI x0 (1 : Int32)) &&& (1431655765 : Int32))) (2 : Int32)) &&& (858993459 : Int32))) (4 : Int32))) &&& (252645135 : Int32)) + (ushrI (((((x0 - ((ushrI x0 (1 : Int32)) &&& (1431655765 : Int32))) &&& (858993459 : Int32)) + ((ushrI (x0 - ((ushrI x0 (1 : Int32)) &&& (1431655765 : Int32))) (2 : Int32)) &&& (858993459 : Int32))) + (ushrI (((x0 - ((ushrI x0 (1 : Int32)) &&& (1431655765 : Int32))) &&& (858993459 : Int32)) + ((ushrI (x0 - ((ushrI x0 (1 : Int32)) &&& (1431655765 : Int32))) (2 : Int32)) &&& (858993459 : Int32))) (4 : Int32))) &&& (252645135 : Int32)) (8 : Int32))) + (ushrI ((((((x0 - ((ushrI x0 (1 : Int32)) &&& (1431655765 : Int32))) &&& (858993459 : Int32)) + ((ushrI (x0 - ((ushrI x0 (1 : Int32)) &&& (1431655765 : Int32))) (2 : Int32)) &&& (858993459 : Int32))) + (ushrI (((x0 - ((ushrI x0 (1 : Int32)) &&& (1431655765 : Int32))) &&& (858993459 : Int32)) + ((ushrI (x0 - ((ushrI x0 (1 : Int32)) &&& (1431655765 : Int32))) (2 : Int32)) &&& (858993459 : Int32))) (4 : Int32))) &&& (252645135 : Int32)) + (ushrI (((((x0 - ((ushrI x0 (1 : Int32)) &&& (1431655765 : Int32))) &&& (858993459 : Int32)) + ((ushrI (x0 - ((ushrI x0 (1 : Int32)) &&& (1431655765 : Int32))) (2 : Int32)) &&& (858993459 : Int32))) + (ushrI (((x0 - ((ushrI x0 (1 : Int32)) &&& (1431655765 : Int32))) &&& (858993459 : Int32)) + ((ushrI (x0 - ((ushrI x0 (1 : Int32)) &&& (1431655765 : Int32))) (2 : Int32)) &&& (858993459 : Int32))) (4 : Int32))) &&& (252645135 : Int32)) (8 : Int32))) (16 : Int32))) &&& (63 : Int32)))]))
  exact g_retI X0 hx hret hlk (hb hby d4_52) (by decide) (by decide) ⟨congrArg (fun z => some (Value.int z)) (show ((((((((x0 - ((ushrI x0 (1 : Int32)) &&& (1431655765 : Int32))) &&& (858993459 : Int32)) + ((ushrI (x0 - ((ushrI x0 (1 : Int32)) &&& (1431655765 : Int32))) (2 : Int32)) &&& (858993459 : Int32))) + (ushrI (((x0 - ((ushrI x0 (1 : Int32)) &&& (1431655765 : Int32))) &&& (858993459 : Int32)) + ((ushrI (x0 - ((ushrI x0 (1 : Int32)) &&& (1431655765 : Int32))) (2 : Int32)) &&& (858993459 : Int32))) (4 : Int32))) &&& (252645135 : Int32)) + (ushrI (((((x0 - ((ushrI x0 (1 : Int32)) &&& (1431655765 : Int32))) &&& (858993459 : Int32)) + ((ushrI (x0 - ((ushrI x0 (1 : Int32)) &&& (1431655765 : Int32))) (2 : Int32)) &&& (858993459 : Int32))) + (ushrI (((x0 - ((ushrI x0 (1 : Int32)) &&& (1431655765 : Int32))) &&& (858993459 : Int32)) + ((ushrI (x0 - ((ushrI x0 (1 : Int32)) &&& (1431655765 : Int32))) (2 : Int32)) &&& (858993459 : Int32))) (4 : Int32))) &&& (252645135 : Int32)) (8 : Int32))) + (ushrI ((((((x0 - ((ushrI x0 (1 : Int32)) &&& (1431655765 : Int32))) &&& (858993459 : Int32)) + ((ushrI (x0 - ((ushrI x0 (1 : Int32)) &&& (1431655765 : Int32))) (2 : Int32)) &&& (858993459 : Int32))) + (ushrI (((x0 - ((ushrI x0 (1 : Int32)) &&& (1431655765 : Int32))) &&& (858993459 : Int32)) + ((ushrI (x0 - ((ushrI x0 (1 : Int32)) &&& (1431655765 : Int32))) (2 : Int32)) &&& (858993459 : Int32))) (4 : Int32))) &&& (252645135 : Int32)) + (ushrI (((((x0 - ((ushrI x0 (1 : Int32)) &&& (1431655765 : Int32))) &&& (858993459 : Int32)) + ((ushrI (x0 - ((ushrI x0 (1 : Int32)) &&& (1431655765 : Int32))) (2 : Int32)) &&& (858993459 : Int32))) + (ushrI (((x0 - ((ushrI x0 (1 : Int32)) &&& (1431655765 : Int32))) &&& (858993459 : Int32)) + ((ushrI (x0 - ((ushrI x0 (1 : Int32)) &&& (1431655765 : Int32))) (2 : Int32)) &&& (858993459 : Int32))) (4 : Int32))) &&& (252645135 : Int32)) (8 : Int32))) (16 : Int32))) &&& (63 : Int32)) = (f4 x0) from by rw [f4]), rfl, e0⟩
theorem own_bc {x : Int32} (h : own_c4 x) : f4 x = 1 := by rcases h with rfl | rfl | rfl | rfl <;> decide +kernel
theorem pd__28I_29I : parseMethodDescriptor "(I)I" = some ⟨[.int], some .int⟩ := by decide +kernel
theorem d2_0 : decode prog_24_method_1_code 0 = .ok (.aload_n 0, 1) := by decide +kernel
theorem d2_1 : decode prog_24_method_1_code 1 = .ok (.invokespecial 1, 3) := by decide +kernel
theorem d2_4 : decode prog_24_method_1_code 4 = .ok (.iload_n 1, 1) := by decide +kernel
theorem d2_5 : decode prog_24_method_1_code 5 = .ok (.iconst 1, 1) := by decide +kernel
theorem d2_6 : decode prog_24_method_1_code 6 = .ok (.if_icmp .lt 17, 3) := by decide +kernel
theorem d2_9 : decode prog_24_method_1_code 9 = .ok (.iload_n 1, 1) := by decide +kernel
theorem d2_10 : decode prog_24_method_1_code 10 = .ok (.invokestatic 7, 3) := by decide +kernel
theorem d2_13 : decode prog_24_method_1_code 13 = .ok (.iconst 1, 1) := by decide +kernel
theorem d2_14 : decode prog_24_method_1_code 14 = .ok (.if_icmp .ne 9, 3) := by decide +kernel
theorem d2_17 : decode prog_24_method_1_code 17 = .ok (.iload_n 1, 1) := by decide +kernel
theorem d2_18 : decode prog_24_method_1_code 18 = .ok (.ldc 13, 2) := by decide +kernel
theorem d2_20 : decode prog_24_method_1_code 20 = .ok (.if_icmp .le 17, 3) := by decide +kernel
theorem d2_37 : decode prog_24_method_1_code 37 = .ok (.aload_n 0, 1) := by decide +kernel
theorem d2_38 : decode prog_24_method_1_code 38 = .ok (.iload_n 1, 1) := by decide +kernel
theorem d2_39 : decode prog_24_method_1_code 39 = .ok (.putfield 23, 3) := by decide +kernel
theorem d2_42 : decode prog_24_method_1_code 42 = .ok (.aload_n 0, 1) := by decide +kernel
theorem d2_43 : decode prog_24_method_1_code 43 = .ok (.iconst 2, 1) := by decide +kernel
theorem d2_44 : decode prog_24_method_1_code 44 = .ok (.iload_n 1, 1) := by decide +kernel
theorem d2_45 : decode prog_24_method_1_code 45 = .ok (.imul, 1) := by decide +kernel
theorem d2_46 : decode prog_24_method_1_code 46 = .ok (.newarray .long, 2) := by decide +kernel
theorem d2_48 : decode prog_24_method_1_code 48 = .ok (.putfield 29, 3) := by decide +kernel
theorem d2_51 : decode prog_24_method_1_code 51 = .ok (.aload_n 0, 1) := by decide +kernel
theorem d2_52 : decode prog_24_method_1_code 52 = .ok (.iconst 2, 1) := by decide +kernel
theorem d2_53 : decode prog_24_method_1_code 53 = .ok (.iload_n 1, 1) := by decide +kernel
theorem d2_54 : decode prog_24_method_1_code 54 = .ok (.imul, 1) := by decide +kernel
theorem d2_55 : decode prog_24_method_1_code 55 = .ok (.newarray .long, 2) := by decide +kernel
theorem d2_57 : decode prog_24_method_1_code 57 = .ok (.putfield 33, 3) := by decide +kernel
theorem d2_60 : decode prog_24_method_1_code 60 = .ok (.aload_n 0, 1) := by decide +kernel
theorem d2_61 : decode prog_24_method_1_code 61 = .ok (.iconst 2, 1) := by decide +kernel
theorem d2_62 : decode prog_24_method_1_code 62 = .ok (.iload_n 1, 1) := by decide +kernel
theorem d2_63 : decode prog_24_method_1_code 63 = .ok (.imul, 1) := by decide +kernel
theorem d2_64 : decode prog_24_method_1_code 64 = .ok (.iconst 1, 1) := by decide +kernel
theorem d2_65 : decode prog_24_method_1_code 65 = .ok (.isub, 1) := by decide +kernel
theorem d2_66 : decode prog_24_method_1_code 66 = .ok (.putfield 36, 3) := by decide +kernel
theorem d2_69 : decode prog_24_method_1_code 69 = .ok (.return_, 1) := by decide +kernel
theorem pn_2 : plainName "com/example/itinerant_spider/itinerantspider/frontier/FingerprintTable" = true := by first | (simp [plainName, overriddenIn]; done) | decide +kernel
theorem ef_2 (m : MethodId) (x0 : Addr) (x1 : Int32) : entryFrame m #[(.ref x0), (.int x1)] 2 = mkF m 0 #[.val (.ref x0), .val (.int x1)] [] := by first | (simp [entryFrame, mkF, argsToLocals, Value.category]; done) | rfl
def Q2 (Z : State) (x0 : Addr) (x1 : Int32) (nn : Nat) (h0 : Heap) (n0 : Nat) (v : Option Value) (h : Heap) (L : List Loc) : Prop := v = none ∧ Fr n0 L ∧ Keep h0 h [x0] ∧ ∃ b1 b2 : Addr, h0.size ≤ b1 ∧ h0.size ≤ b2 ∧ b1 ≠ b2 ∧ Fld Z h x0 "com/example/itinerant_spider/itinerantspider/frontier/FingerprintTable" "capacity" "I" (.int x1) ∧ Fld Z h x0 "com/example/itinerant_spider/itinerantspider/frontier/FingerprintTable" "highs" "[J" (.ref b1) ∧ Fld Z h x0 "com/example/itinerant_spider/itinerantspider/frontier/FingerprintTable" "lows" "[J" (.ref b2) ∧ Fld Z h x0 "com/example/itinerant_spider/itinerantspider/frontier/FingerprintTable" "mask" "I" (.int (((2 : Int32) * x1) - (1 : Int32))) ∧ Fld Z h x0 "com/example/itinerant_spider/itinerantspider/frontier/FingerprintTable" "size" "I" (.int (0 : Int32)) ∧ AJ Z h b1 nn (fun _ => (0 : Int64)) ∧ AJ Z h b2 nn (fun _ => (0 : Int64))
set_option maxRecDepth 65536 in
set_option maxHeartbeats 40000000 in
theorem rm2 (l : Launch) (Z : State) (a0 : Array Value) (hw : ∀ d ∈ tables_1, d.before a0 Z = true) (ws : List Jvm.Cond) (x0 : Addr) (x1 : Int32) (nn : Nat) (h0 : Heap) (n0 : Nat) (Z0 : n0 ≤ h0.size) (P0 : Exa Z h0 x0 "com/example/itinerant_spider/itinerantspider/frontier/FingerprintTable") (P1 : Fld Z h0 x0 "com/example/itinerant_spider/itinerantspider/frontier/FingerprintTable" "capacity" "I" (.int (0 : Int32))) (P2 : Fld Z h0 x0 "com/example/itinerant_spider/itinerantspider/frontier/FingerprintTable" "highs" "[J" .null) (P3 : Fld Z h0 x0 "com/example/itinerant_spider/itinerantspider/frontier/FingerprintTable" "lows" "[J" .null) (P4 : Fld Z h0 x0 "com/example/itinerant_spider/itinerantspider/frontier/FingerprintTable" "mask" "I" (.int (0 : Int32))) (P5 : Fld Z h0 x0 "com/example/itinerant_spider/itinerantspider/frontier/FingerprintTable" "size" "I" (.int (0 : Int32))) (P6 : n0 ≤ x0) (hcap : own_c4 x1) (hlen : ((2 : Int32) * x1).toInt = nn) (hnn : nn ≤ 16) :
    MetFree l (⟨"com/example/itinerant_spider/itinerantspider/frontier/FingerprintTable", "<init>", "(I)V"⟩ : MethodName) (head1 (Jvm.Cond.code (⟨"com/example/itinerant_spider/itinerantspider/frontier/FingerprintTable", "<init>", "(I)V"⟩ : MethodName) prog_24_method_1_code 2 none :: ws) ({ frames := 1, cells := 2, slots := 32, locals := 12 } : Room)) (fun a U => a = #[(.ref x0), (.int x1)] ∧ Z.Warmed39 U.vm ∧ U.heap = h0) (fun _ _ _ _ _ => True) (fun _ U o U' => ∃ v L, o = .returned v ∧ Q2 Z x0 x1 nn h0 n0 v U'.heap L ∧ FrameEnd U o U' L ({ frames := 1, cells := 2, slots := 32, locals := 12 } : Room).cells ({ frames := 1, cells := 2, slots := 32, locals := 12 } : Room).slots) := by
  refine g_body (plainFor_of_name pn_2) ?_
  intro p e s m below meth c T0 X0 hx hby hml hret hlk hown hnm hZ e0
  rw [ef_2]
  have N0 := Fr.nil n0
  show Go p e below s _ _ _ (T0.setTop (mkF m 0 #[.val (.ref x0), .val (.int x1)] []))
  refine g_aloadN X0 hx 1 (hb hby d2_0) rfl rfl rfl ?_
  show Go p e below s _ _ _ (T0.setTop (mkF m 1 #[.val (.ref x0), .val (.int x1)] [(.ref x0)]))
  refine g_initO X0 hx hZ hown (hw _ (List.mem_of_getElem? (i := 11) rfl)) (hw _ (List.mem_of_getElem? (i := 12) rfl)) (hw _ (List.mem_of_getElem? (i := 13) rfl)) e0 4 (by rw [hml]; rfl) (hb hby d2_1) (by decide) 0 (Nat.le_of_eq rfl) (by decide) rfl ?_
  intro T1 X1 e1
  show Go p e below s _ _ _ (T1.setTop (mkF m 4 #[.val (.ref x0), .val (.int x1)] []))
  refine g_iloadN X1 hx 5 (hb hby d2_4) rfl rfl ?_
  show Go p e below s _ _ _ (T1.setTop (mkF m 5 #[.val (.ref x0), .val (.int x1)] [(.int x1)]))
  refine g_iconst X1 hx (1 : Int32) 6 (hb hby d2_5) rfl rfl ?_
  show Go p e below s _ _ _ (T1.setTop (mkF m 6 #[.val (.ref x0), .val (.int x1)] [(.int (1 : Int32)), (.int x1)]))
  have h2 : ¬ (x1 < (1 : Int32)) := own_ca hcap
  refine g_icmp_lt X1 hx 23 9 (hb hby d2_6) (by decide) rfl rfl (fun q => absurd q h2) (fun _ => ?_)
  show Go p e below s _ _ _ (T1.setTop (mkF m 9 #[.val (.ref x0), .val (.int x1)] []))
  refine g_iloadN X1 hx 10 (hb hby d2_9) rfl rfl ?_
  show Go p e below s _ _ _ (T1.setTop (mkF m 10 #[.val (.ref x0), .val (.int x1)] [(.int x1)]))
  refine g_callS X1 hx hZ hown (hw _ (List.mem_of_getElem? (i := 14) rfl)) (hw _ (List.mem_of_getElem? (i := 15) rfl)) (hw _ (List.mem_of_getElem? (i := 16) rfl)) (hw _ (List.mem_of_getElem? (i := 17) rfl)) (by decide) e1 (rm4 l Z a0 hw [] x1 h0) [(.int x1)] [] 0 rfl (lenOf pd__28I_29I rfl) rfl (Nat.le_of_eq rfl) (by decide) (by decide) (by decide) (by decide) (by rw [hml]; rfl) (hb hby d2_10) ?_
  intro T3 L3 v3 X3 q3
  obtain ⟨rfl, rfl, e3⟩ := q3
  have NS3 := Fr.app N0 (Fr.nil n0)
  show Go p e below s _ _ _ (T3.setTop (mkF m 13 #[.val (.ref x0), .val (.int x1)] [(.int (f4 x1))]))
  refine g_iconst X3 hx (1 : Int32) 14 (hb hby d2_13) rfl rfl ?_
  show Go p e below s _ _ _ (T3.setTop (mkF m 14 #[.val (.ref x0), .val (.int x1)] [(.int (1 : Int32)), (.int (f4 x1))]))
  have h4 : (f4 x1) = (1 : Int32) := own_bc hcap
  refine g_icmp_ne X3 hx 23 17 (hb hby d2_14) (by decide) rfl rfl (fun _ => ?_) (fun q => absurd h4 q)
  show Go p e below s _ _ _ (T3.setTop (mkF m 17 #[.val (.ref x0), .val (.int x1)] []))
  refine g_iloadN X3 hx 18 (hb hby d2_17) rfl rfl ?_
  show Go p e below s _ _ _ (T3.setTop (mkF m 18 #[.val (.ref x0), .val (.int x1)] [(.int x1)]))
  refine g_ldc X3 hx hZ hown (hw _ (List.mem_of_getElem? (i := 21) rfl)) 20 (hb hby d2_18) rfl ?_
  show Go p e below s _ _ _ (T3.setTop (mkF m 20 #[.val (.ref x0), .val (.int x1)] [(.int (536870912 : Int32)), (.int x1)]))
  have h5 : ¬ ((536870912 : Int32) < x1) := own_cb hcap
  refine g_icmp_le X3 hx 37 23 (hb hby d2_20) (by decide) rfl rfl (fun q => absurd q h5) (fun _ => ?_)
  show Go p e below s _ _ _ (T3.setTop (mkF m 37 #[.val (.ref x0), .val (.int x1)] []))
  refine g_aloadN X3 hx 38 (hb hby d2_37) rfl rfl rfl ?_
  show Go p e below s _ _ _ (T3.setTop (mkF m 38 #[.val (.ref x0), .val (.int x1)] [(.ref x0)]))
  refine g_iloadN X3 hx 39 (hb hby d2_38) rfl rfl ?_
  show Go p e below s _ _ _ (T3.setTop (mkF m 39 #[.val (.ref x0), .val (.int x1)] [(.int x1), (.ref x0)]))
  refine g_putF X3 hx hZ hown (hw _ (List.mem_of_getElem? (i := 22) rfl)) Via.refl e3 P1 P0 (Or.inr ⟨(hw _ (List.mem_of_getElem? (i := 23) rfl)), rfl, hnm⟩) (hw _ (List.mem_of_getElem? (i := 6) rfl)) (ty := .int) (by decide) rfl rfl 42 (hb hby d2_39) rfl ?_
  intro T6 h6 X6 e6 W6
  have K6 := (Keep.refl h0 [x0]).wr W6 (Or.inl (List.mem_of_getElem? (i := 0) rfl))
  have N6 := Fr.snoc X6 NS3 P6
  have k6_0 := P0.wr W6
  have k6_2 := P2.other W6 (Or.inr (slot_ne (Or.inr (hw _ (List.mem_of_getElem? (i := 26) rfl))) (Or.inr (hw _ (List.mem_of_getElem? (i := 23) rfl))) (by decide) (t := (.array .long)) (t' := .int) (by decide) (by decide)))
  have k6_3 := P3.other W6 (Or.inr (slot_ne (Or.inr (hw _ (List.mem_of_getElem? (i := 28) rfl))) (Or.inr (hw _ (List.mem_of_getElem? (i := 23) rfl))) (by decide) (t := (.array .long)) (t' := .int) (by decide) (by decide)))
  have k6_4 := P4.other W6 (Or.inr (slot_ne (Or.inr (hw _ (List.mem_of_getElem? (i := 30) rfl))) (Or.inr (hw _ (List.mem_of_getElem? (i := 23) rfl))) (by decide) (t := .int) (t' := .int) (by decide) (by decide)))
  have k6_5 := P5.other W6 (Or.inr (slot_ne (Or.inl (hw _ (List.mem_of_getElem? (i := 49) rfl))) (Or.inr (hw _ (List.mem_of_getElem? (i := 23) rfl))) (by decide) (t := .int) (t' := .int) (by decide) (by decide)))
  have Z6 : n0 ≤ h6.size := by rw [W6.size]; exact Z0
  have F6 := P1.same W6
  show Go p e below s _ _ _ (T6.setTop (mkF m 42 #[.val (.ref x0), .val (.int x1)] []))
  refine g_aloadN X6 hx 43 (hb hby d2_42) rfl rfl rfl ?_
  show Go p e below s _ _ _ (T6.setTop (mkF m 43 #[.val (.ref x0), .val (.int x1)] [(.ref x0)]))
  refine g_iconst X6 hx (2 : Int32) 44 (hb hby d2_43) rfl rfl ?_
  show Go p e below s _ _ _ (T6.setTop (mkF m 44 #[.val (.ref x0), .val (.int x1)] [(.int (2 : Int32)), (.ref x0)]))
  refine g_iloadN X6 hx 45 (hb hby d2_44) rfl rfl ?_
  show Go p e below s _ _ _ (T6.setTop (mkF m 45 #[.val (.ref x0), .val (.int x1)] [(.int x1), (.int (2 : Int32)), (.ref x0)]))
  refine g_imul X6 hx 46 (hb hby d2_45) rfl ?_
  show Go p e below s _ _ _ (T6.setTop (mkF m 46 #[.val (.ref x0), .val (.int x1)] [(.int ((2 : Int32) * x1)), (.ref x0)]))
  refine g_newarrayJ X6 hx hZ (hw _ (List.mem_of_getElem? (i := 24) rfl)) e6 nn 16 hlen hnn (by decide) 48 (hb hby d2_46) (by decide) (by decide) rfl ?_
  intro T7 h7 b7 g7 X7 e7 E7 A7
  have N_b7 : n0 ≤ b7 := Nat.le_trans Z6 (Nat.le_of_eq g7.symm)
  have sz_b7 := Nat.le_trans K6.1 (Nat.le_of_eq g7.symm)
  have ne_x0_b7 : x0 ≠ b7 := Nat.ne_of_lt (Nat.lt_of_lt_of_le k6_0.lt (Nat.le_of_eq g7.symm))
  have k7_0 := k6_0.ext E7
  have k7_1 := k6_2.ext E7
  have k7_2 := k6_3.ext E7
  have k7_3 := k6_4.ext E7
  have k7_4 := k6_5.ext E7
  have k7_6 := F6.ext E7
  have Z7 : n0 ≤ h7.size := Nat.le_trans Z6 E7.1
  have K7 := K6.ext E7
  show Go p e below s _ _ _ (T7.setTop (mkF m 48 #[.val (.ref x0), .val (.int x1)] [(.ref b7), (.ref x0)]))
  refine g_putF X7 hx hZ hown (hw _ (List.mem_of_getElem? (i := 25) rfl)) Via.refl e7 k7_1 k7_0 (Or.inr ⟨(hw _ (List.mem_of_getElem? (i := 26) rfl)), rfl, hnm⟩) (hw _ (List.mem_of_getElem? (i := 6) rfl)) (ty := (.array .long)) (by decide) rfl rfl 51 (hb hby d2_48) rfl ?_
  intro T8 h8 X8 e8 W8
  have K8 := K7.wr W8 (Or.inl (List.mem_of_getElem? (i := 0) rfl))
  have N8 := Fr.snoc X8 N6 P6
  have k8_0 := k7_0.wr W8
  have k8_2 := k7_2.other W8 (Or.inr (slot_ne (Or.inr (hw _ (List.mem_of_getElem? (i := 28) rfl))) (Or.inr (hw _ (List.mem_of_getElem? (i := 26) rfl))) (by decide) (t := (.array .long)) (t' := (.array .long)) (by decide) (by decide)))
  have k8_3 := k7_3.other W8 (Or.inr (slot_ne (Or.inr (hw _ (List.mem_of_getElem? (i := 30) rfl))) (Or.inr (hw _ (List.mem_of_getElem? (i := 26) rfl))) (by decide) (t := .int) (t' := (.array .long)) (by decide) (by decide)))
  have k8_4 := k7_4.other W8 (Or.inr (slot_ne (Or.inl (hw _ (List.mem_of_getElem? (i := 49) rfl))) (Or.inr (hw _ (List.mem_of_getElem? (i := 26) rfl))) (by decide) (t := .int) (t' := (.array .long)) (by decide) (by decide)))
  have k8_6 := k7_6.other W8 (Or.inr (slot_ne (Or.inr (hw _ (List.mem_of_getElem? (i := 23) rfl))) (Or.inr (hw _ (List.mem_of_getElem? (i := 26) rfl))) (by decide) (t := .int) (t' := (.array .long)) (by decide) (by decide)))
  have k8_9 := A7.other W8 (Ne.symm ne_x0_b7)
  have Z8 : n0 ≤ h8.size := by rw [W8.size]; exact Z7
  have F8 := k7_1.same W8
  show Go p e below s _ _ _ (T8.setTop (mkF m 51 #[.val (.ref x0), .val (.int x1)] []))
  refine g_aloadN X8 hx 52 (hb hby d2_51) rfl rfl rfl ?_
  show Go p e below s _ _ _ (T8.setTop (mkF m 52 #[.val (.ref x0), .val (.int x1)] [(.ref x0)]))
  refine g_iconst X8 hx (2 : Int32) 53 (hb hby d2_52) rfl rfl ?_
  show Go p e below s _ _ _ (T8.setTop (mkF m 53 #[.val (.ref x0), .val (.int x1)] [(.int (2 : Int32)), (.ref x0)]))
  refine g_iloadN X8 hx 54 (hb hby d2_53) rfl rfl ?_
  show Go p e below s _ _ _ (T8.setTop (mkF m 54 #[.val (.ref x0), .val (.int x1)] [(.int x1), (.int (2 : Int32)), (.ref x0)]))
  refine g_imul X8 hx 55 (hb hby d2_54) rfl ?_
  show Go p e below s _ _ _ (T8.setTop (mkF m 55 #[.val (.ref x0), .val (.int x1)] [(.int ((2 : Int32) * x1)), (.ref x0)]))
  refine g_newarrayJ X8 hx hZ (hw _ (List.mem_of_getElem? (i := 24) rfl)) e8 nn 16 hlen hnn (by decide) 57 (hb hby d2_55) (by decide) (by decide) rfl ?_
  intro T9 h9 b9 g9 X9 e9 E9 A9
  have N_b9 : n0 ≤ b9 := Nat.le_trans Z8 (Nat.le_of_eq g9.symm)
  have sz_b9 := Nat.le_trans K8.1 (Nat.le_of_eq g9.symm)
  have ne_x0_b9 : x0 ≠ b9 := Nat.ne_of_lt (Nat.lt_of_lt_of_le k8_0.lt (Nat.le_of_eq g9.symm))
  have ne_b7_b9 : b7 ≠ b9 := Nat.ne_of_lt (Nat.lt_of_lt_of_le k8_9.lt (Nat.le_of_eq g9.symm))
  have k9_0 := k8_0.ext E9
  have k9_1 := k8_2.ext E9
  have k9_2 := k8_3.ext E9
  have k9_3 := k8_4.ext E9
  have k9_5 := k8_6.ext E9
  have k9_8 := k8_9.ext E9
  have k9_9 := F8.ext E9
  have Z9 : n0 ≤ h9.size := Nat.le_trans Z8 E9.1
  have K9 := K8.ext E9
  show Go p e below s _ _ _ (T9.setTop (mkF m 57 #[.val (.ref x0), .val (.int x1)] [(.ref b9), (.ref x0)]))
  refine g_putF X9 hx hZ hown (hw _ (List.mem_of_getElem? (i := 27) rfl)) Via.refl e9 k9_1 k9_0 (Or.inr ⟨(hw _ (List.mem_of_getElem? (i := 28) rfl)), rfl, hnm⟩) (hw _ (List.mem_of_getElem? (i := 6) rfl)) (ty := (.array .long)) (by decide) rfl rfl 60 (hb hby d2_57) rfl ?_
  intro T10 h10 X10 e10 W10
  have K10 := K9.wr W10 (Or.inl (List.mem_of_getElem? (i := 0) rfl))
  have N10 := Fr.snoc X10 N8 P6
  have k10_0 := k9_0.wr W10
  have k10_2 := k9_2.other W10 (Or.inr (slot_ne (Or.inr (hw _ (List.mem_of_getElem? (i := 30) rfl))) (Or.inr (hw _ (List.mem_of_getElem? (i := 28) rfl))) (by decide) (t := .int) (t' := (.array .long)) (by decide) (by decide)))
  have k10_3 := k9_3.other W10 (Or.inr (slot_ne (Or.inl (hw _ (List.mem_of_getElem? (i := 49) rfl))) (Or.inr (hw _ (List.mem_of_getElem? (i := 28) rfl))) (by decide) (t := .int) (t' := (.array .long)) (by decide) (by decide)))
  have k10_5 := k9_5.other W10 (Or.inr (slot_ne (Or.inr (hw _ (List.mem_of_getElem? (i := 23) rfl))) (Or.inr (hw _ (List.mem_of_getElem? (i := 28) rfl))) (by decide) (t := .int) (t' := (.array .long)) (by decide) (by decide)))
  have k10_8 := k9_8.other W10 (Ne.symm ne_x0_b7)
  have k10_9 := k9_9.other W10 (Or.inr (slot_ne (Or.inr (hw _ (List.mem_of_getElem? (i := 26) rfl))) (Or.inr (hw _ (List.mem_of_getElem? (i := 28) rfl))) (by decide) (t := (.array .long)) (t' := (.array .long)) (by decide) (by decide)))
  have k10_13 := A9.other W10 (Ne.symm ne_x0_b9)
  have Z10 : n0 ≤ h10.size := by rw [W10.size]; exact Z9
  have F10 := k9_1.same W10
  show Go p e below s _ _ _ (T10.setTop (mkF m 60 #[.val (.ref x0), .val (.int x1)] []))
  refine g_aloadN X10 hx 61 (hb hby d2_60) rfl rfl rfl ?_
  show Go p e below s _ _ _ (T10.setTop (mkF m 61 #[.val (.ref x0), .val (.int x1)] [(.ref x0)]))
  refine g_iconst X10 hx (2 : Int32) 62 (hb hby d2_61) rfl rfl ?_
  show Go p e below s _ _ _ (T10.setTop (mkF m 62 #[.val (.ref x0), .val (.int x1)] [(.int (2 : Int32)), (.ref x0)]))
  refine g_iloadN X10 hx 63 (hb hby d2_62) rfl rfl ?_
  show Go p e below s _ _ _ (T10.setTop (mkF m 63 #[.val (.ref x0), .val (.int x1)] [(.int x1), (.int (2 : Int32)), (.ref x0)]))
  refine g_imul X10 hx 64 (hb hby d2_63) rfl ?_
  show Go p e below s _ _ _ (T10.setTop (mkF m 64 #[.val (.ref x0), .val (.int x1)] [(.int ((2 : Int32) * x1)), (.ref x0)]))
  refine g_iconst X10 hx (1 : Int32) 65 (hb hby d2_64) rfl rfl ?_
  show Go p e below s _ _ _ (T10.setTop (mkF m 65 #[.val (.ref x0), .val (.int x1)] [(.int (1 : Int32)), (.int ((2 : Int32) * x1)), (.ref x0)]))
  refine g_isub X10 hx 66 (hb hby d2_65) rfl ?_
  show Go p e below s _ _ _ (T10.setTop (mkF m 66 #[.val (.ref x0), .val (.int x1)] [(.int (((2 : Int32) * x1) - (1 : Int32))), (.ref x0)]))
  refine g_putF X10 hx hZ hown (hw _ (List.mem_of_getElem? (i := 29) rfl)) Via.refl e10 k10_2 k10_0 (Or.inr ⟨(hw _ (List.mem_of_getElem? (i := 30) rfl)), rfl, hnm⟩) (hw _ (List.mem_of_getElem? (i := 6) rfl)) (ty := .int) (by decide) rfl rfl 69 (hb hby d2_66) rfl ?_
  intro T11 h11 X11 e11 W11
  have K11 := K10.wr W11 (Or.inl (List.mem_of_getElem? (i := 0) rfl))
  have N11 := Fr.snoc X11 N10 P6
  have k11_0 := k10_0.wr W11
  have k11_2 := k10_3.other W11 (Or.inr (slot_ne (Or.inl (hw _ (List.mem_of_getElem? (i := 49) rfl))) (Or.inr (hw _ (List.mem_of_getElem? (i := 30) rfl))) (by decide) (t := .int) (t' := .int) (by decide) (by decide)))
  have k11_4 := k10_5.other W11 (Or.inr (slot_ne (Or.inr (hw _ (List.mem_of_getElem? (i := 23) rfl))) (Or.inr (hw _ (List.mem_of_getElem? (i := 30) rfl))) (by decide) (t := .int) (t' := .int) (by decide) (by decide)))
  have k11_7 := k10_8.other W11 (Ne.symm ne_x0_b7)
  have k11_8 := k10_9.other W11 (Or.inr (slot_ne (Or.inr (hw _ (List.mem_of_getElem? (i := 26) rfl))) (Or.inr (hw _ (List.mem_of_getElem? (i := 30) rfl))) (by decide) (t := (.array .long)) (t' := .int) (by decide) (by decide)))
  have k11_12 := k10_13.other W11 (Ne.symm ne_x0_b9)
  have k11_13 := F10.other W11 (Or.inr (slot_ne (Or.inr (hw _ (List.mem_of_getElem? (i := 28) rfl))) (Or.inr (hw _ (List.mem_of_getElem? (i := 30) rfl))) (by decide) (t := (.array .long)) (t' := .int) (by decide) (by decide)))
  have Z11 : n0 ≤ h11.size := by rw [W11.size]; exact Z10
  have F11 := k10_2.same W11
  show Go p e below s _ _ _ (T11.setTop (mkF m 69 #[.val (.ref x0), .val (.int x1)] []))
  exact g_retV X11 hx hret hlk (hb hby d2_69) (by decide) (by decide) (by rw [e11]; exact ⟨rfl, N11, K11, b7, b9, sz_b7, sz_b9, ne_b7_b9, k11_4, k11_8, k11_13, F11, k11_2, k11_7, k11_12⟩)
theorem d7_0 : decode prog_24_method_3_code 0 = .ok (.aload_n 0, 1) := by decide +kernel
theorem d7_1 : decode prog_24_method_3_code 1 = .ok (.getfield 39, 3) := by decide +kernel
theorem d7_4 : decode prog_24_method_3_code 4 = .ok (.aload_n 0, 1) := by decide +kernel
theorem d7_5 : decode prog_24_method_3_code 5 = .ok (.getfield 23, 3) := by decide +kernel
theorem d7_8 : decode prog_24_method_3_code 8 = .ok (.if_icmp .ne 7, 3) := by decide +kernel
theorem d7_11 : decode prog_24_method_3_code 11 = .ok (.iconst 1, 1) := by decide +kernel
theorem d7_12 : decode prog_24_method_3_code 12 = .ok (.goto 4, 3) := by decide +kernel
theorem d7_15 : decode prog_24_method_3_code 15 = .ok (.iconst 0, 1) := by decide +kernel
theorem d7_16 : decode prog_24_method_3_code 16 = .ok (.ireturn, 1) := by decide +kernel
theorem ef_7 (m : MethodId) (x0 : Addr) : entryFrame m #[(.ref x0)] 1 = mkF m 0 #[.val (.ref x0)] [] := by first | (simp [entryFrame, mkF, argsToLocals, Value.category]; done) | rfl
def f7 (sz : Int32) (cp : Int32) : Int32 := if sz = cp then (1 : Int32) else (0 : Int32)
def Q7 (Z : State) (x0 : Addr) (sz : Int32) (cp : Int32) (h0 : Heap) (v : Option Value) (h : Heap) (L : List Loc) : Prop := v = some (.int (f7 sz cp)) ∧ L = [] ∧ h = h0
set_option maxRecDepth 65536 in
set_option maxHeartbeats 40000000 in
theorem rm7 (l : Launch) (Z : State) (a0 : Array Value) (hw : ∀ d ∈ tables_1, d.before a0 Z = true) (ws : List Jvm.Cond) (x0 : Addr) (sz : Int32) (cp : Int32) (h0 : Heap) (P0 : Fld Z h0 x0 "com/example/itinerant_spider/itinerantspider/frontier/FingerprintTable" "size" "I" (.int sz)) (P1 : Fld Z h0 x0 "com/example/itinerant_spider/itinerantspider/frontier/FingerprintTable" "capacity" "I" (.int cp)) :
    MetFree l (⟨"com/example/itinerant_spider/itinerantspider/frontier/FingerprintTable", "isFull", "()Z"⟩ : MethodName) (head1 (Jvm.Cond.code (⟨"com/example/itinerant_spider/itinerantspider/frontier/FingerprintTable", "isFull", "()Z"⟩ : MethodName) prog_24_method_3_code 1 (some .boolean) :: ws) ({ frames := 0, cells := 0, slots := 0, locals := 0 } : Room)) (fun a U => a = #[(.ref x0)] ∧ Z.Warmed39 U.vm ∧ U.heap = h0) (fun _ _ _ _ _ => True) (fun _ U o U' => ∃ v L, o = .returned v ∧ Q7 Z x0 sz cp h0 v U'.heap L ∧ FrameEnd U o U' L ({ frames := 0, cells := 0, slots := 0, locals := 0 } : Room).cells ({ frames := 0, cells := 0, slots := 0, locals := 0 } : Room).slots) := by
  refine g_body (plainFor_of_name pn_2) ?_
  intro p e s m below meth c T0 X0 hx hby hml hret hlk hown hnm hZ e0
  rw [ef_7]
  show Go p e below s _ _ _ (T0.setTop (mkF m 0 #[.val (.ref x0)] []))
  refine g_aloadN X0 hx 1 (hb hby d7_0) rfl rfl rfl ?_
  show Go p e below s _ _ _ (T0.setTop (mkF m 1 #[.val (.ref x0)] [(.ref x0)]))
  refine g_getF X0 hx hZ hown (hw _ (List.mem_of_getElem? (i := 48) rfl)) Via.refl e0 P0 4 (hb hby d7_1) rfl ?_
  intro T1 X1 e1
  show Go p e below s _ _ _ (T1.setTop (mkF m 4 #[.val (.ref x0)] [(.int sz)]))
  refine g_aloadN X1 hx 5 (hb hby d7_4) rfl rfl rfl ?_
  show Go p e below s _ _ _ (T1.setTop (mkF m 5 #[.val (.ref x0)] [(.ref x0), (.int sz)]))
  refine g_getF X1 hx hZ hown (hw _ (List.mem_of_getElem? (i := 22) rfl)) Via.refl e1 P1 8 (hb hby d7_5) rfl ?_
  intro T2 X2 e2
  show Go p e below s _ _ _ (T2.setTop (mkF m 8 #[.val (.ref x0)] [(.int cp), (.int sz)]))
  refine g_icmp_ne X2 hx 15 11 (hb hby d7_8) (by decide) rfl rfl (fun h3 => ?_) (fun h3 => ?_)
  · show Go p e below s _ _ _ (T2.setTop (mkF m 11 #[.val (.ref x0)] []))
    refine g_iconst X2 hx (1 : Int32) 12 (hb hby d7_11) rfl rfl ?_
    show Go p e below s _ _ _ (T2.setTop (mkF m 12 #[.val (.ref x0)] [(.int (1 : Int32))]))
    refine g_goto X2 hx 16 (hb hby d7_12) (by decide) rfl ?_
    show Go p e below s _ _ _ (T2.setTop (mkF m 16 #[.val (.ref x0)] [(.int (1 : Int32))]))
    exact g_retN X2 hx hret (by simp) hlk (hb hby d7_16) (by decide) (by decide) ⟨congrArg (fun z => some (Value.int z)) (show (1 : Int32) = (f7 sz cp) from by rw [f7, if_pos h3]), rfl, e2⟩
  · show Go p e below s _ _ _ (T2.setTop (mkF m 15 #[.val (.ref x0)] []))
    refine g_iconst X2 hx (0 : Int32) 16 (hb hby d7_15) rfl rfl ?_
    show Go p e below s _ _ _ (T2.setTop (mkF m 16 #[.val (.ref x0)] [(.int (0 : Int32))]))
    exact g_retN X2 hx hret (by simp) hlk (hb hby d7_16) (by decide) (by decide) ⟨congrArg (fun z => some (Value.int z)) (show (0 : Int32) = (f7 sz cp) from by rw [f7, if_neg h3]), rfl, e2⟩
def Q5 (Z : State) (x0 : Addr) (x1 : Int64) (x2 : Int64) (a1 : Addr) (a2 : Addr) (mk : Int32) (nn : Nat) (hi : Nat → Int64) (lo : Nat → Int64) (h0 : Heap) (v : Option Value) (h : Heap) (L : List Loc) : Prop := v = some (.int (own_find hi lo nn x1 x2 3 (own_start mk x2))) ∧ L = [] ∧ h = h0
theorem d5_9 : decode prog_24_method_4_code 9 = .ok (.aload_n 0, 1) := by decide +kernel
theorem d5_10 : decode prog_24_method_4_code 10 = .ok (.getfield 29, 3) := by decide +kernel
theorem d5_13 : decode prog_24_method_4_code 13 = .ok (.iload 5, 2) := by decide +kernel
theorem d5_15 : decode prog_24_method_4_code 15 = .ok (.laload, 1) := by decide +kernel
theorem d5_16 : decode prog_24_method_4_code 16 = .ok (.lload_n 1, 1) := by decide +kernel
theorem d5_17 : decode prog_24_method_4_code 17 = .ok (.lcmp, 1) := by decide +kernel
theorem d5_18 : decode prog_24_method_4_code 18 = .ok (.ifCond .ne 17, 3) := by decide +kernel
theorem d5_21 : decode prog_24_method_4_code 21 = .ok (.aload_n 0, 1) := by decide +kernel
theorem d5_22 : decode prog_24_method_4_code 22 = .ok (.getfield 33, 3) := by decide +kernel
theorem d5_25 : decode prog_24_method_4_code 25 = .ok (.iload 5, 2) := by decide +kernel
theorem d5_27 : decode prog_24_method_4_code 27 = .ok (.laload, 1) := by decide +kernel
theorem d5_28 : decode prog_24_method_4_code 28 = .ok (.lload_n 3, 1) := by decide +kernel
theorem d5_29 : decode prog_24_method_4_code 29 = .ok (.lcmp, 1) := by decide +kernel
theorem d5_30 : decode prog_24_method_4_code 30 = .ok (.ifCond .ne 5, 3) := by decide +kernel
theorem d5_33 : decode prog_24_method_4_code 33 = .ok (.iconst 1, 1) := by decide +kernel
theorem d5_34 : decode prog_24_method_4_code 34 = .ok (.ireturn, 1) := by decide +kernel
theorem d5_35 : decode prog_24_method_4_code 35 = .ok (.aload_n 0, 1) := by decide +kernel
theorem d5_36 : decode prog_24_method_4_code 36 = .ok (.getfield 29, 3) := by decide +kernel
theorem d5_39 : decode prog_24_method_4_code 39 = .ok (.iload 5, 2) := by decide +kernel
theorem d5_41 : decode prog_24_method_4_code 41 = .ok (.laload, 1) := by decide +kernel
theorem d5_42 : decode prog_24_method_4_code 42 = .ok (.lconst 0, 1) := by decide +kernel
theorem d5_43 : decode prog_24_method_4_code 43 = .ok (.lcmp, 1) := by decide +kernel
theorem d5_44 : decode prog_24_method_4_code 44 = .ok (.ifCond .ne 17, 3) := by decide +kernel
theorem d5_47 : decode prog_24_method_4_code 47 = .ok (.aload_n 0, 1) := by decide +kernel
theorem d5_48 : decode prog_24_method_4_code 48 = .ok (.getfield 33, 3) := by decide +kernel
theorem d5_51 : decode prog_24_method_4_code 51 = .ok (.iload 5, 2) := by decide +kernel
theorem d5_53 : decode prog_24_method_4_code 53 = .ok (.laload, 1) := by decide +kernel
theorem d5_54 : decode prog_24_method_4_code 54 = .ok (.lconst 0, 1) := by decide +kernel
theorem d5_55 : decode prog_24_method_4_code 55 = .ok (.lcmp, 1) := by decide +kernel
theorem d5_56 : decode prog_24_method_4_code 56 = .ok (.ifCond .ne 5, 3) := by decide +kernel
theorem d5_59 : decode prog_24_method_4_code 59 = .ok (.iconst 0, 1) := by decide +kernel
theorem d5_60 : decode prog_24_method_4_code 60 = .ok (.ireturn, 1) := by decide +kernel
theorem d5_61 : decode prog_24_method_4_code 61 = .ok (.iload 5, 2) := by decide +kernel
theorem d5_63 : decode prog_24_method_4_code 63 = .ok (.iconst 1, 1) := by decide +kernel
theorem d5_64 : decode prog_24_method_4_code 64 = .ok (.iadd, 1) := by decide +kernel
theorem d5_65 : decode prog_24_method_4_code 65 = .ok (.aload_n 0, 1) := by decide +kernel
theorem d5_66 : decode prog_24_method_4_code 66 = .ok (.getfield 36, 3) := by decide +kernel
theorem d5_69 : decode prog_24_method_4_code 69 = .ok (.iand, 1) := by decide +kernel
theorem d5_70 : decode prog_24_method_4_code 70 = .ok (.istore 5, 2) := by decide +kernel
theorem d5_72 : decode prog_24_method_4_code 72 = .ok (.goto (-63), 3) := by decide +kernel
set_option maxRecDepth 65536 in
set_option maxHeartbeats 40000000 in
theorem sg5 (l : Launch) (Z : State) (a0 : Array Value) (hw : ∀ d ∈ tables_1, d.before a0 Z = true) {p : Program} {e : Env} {s : State} {m : MethodId} {args : Array Value} {below : List Frame} {meth : Method} {c : Code} (hx : p.tables.exec = Jvm.exec) (hby : c.code = prog_24_method_4_code) (hml : c.maxLocals = 6) (hret : meth.sig.returnType = some .boolean) (hlk : meth.locks = false) (hown : s.vm.findClass "com/example/itinerant_spider/itinerantspider/frontier/FingerprintTable" = some m.cls) (hnm : meth.name = "contains") (hZ : Z.Warmed39 s.vm) (x0 : Addr) (x1 : Int64) (x2 : Int64) (a1 : Addr) (a2 : Addr) (mk : Int32) (nn : Nat) (hi : Nat → Int64) (lo : Nat → Int64) (h0 : Heap) (hmk : own_mk mk nn) (hends : own_ends hi lo nn 3 (own_start mk x2)) : ∀ (k : Nat) (iv : Int32) (j : Nat) (T0 : State), Stand p l e ({ frames := 0, cells := 0, slots := 0, locals := 0 } : Room) s m args below meth c T0 [] 0 0 → T0.heap = h0 → Fld Z h0 x0 "com/example/itinerant_spider/itinerantspider/frontier/FingerprintTable" "highs" "[J" (.ref a1) → Fld Z h0 x0 "com/example/itinerant_spider/itinerantspider/frontier/FingerprintTable" "lows" "[J" (.ref a2) → Fld Z h0 x0 "com/example/itinerant_spider/itinerantspider/frontier/FingerprintTable" "mask" "I" (.int mk) → AJ Z h0 a1 nn hi → AJ Z h0 a2 nn lo → (iv.toInt = j) → (j < nn) → (own_ends hi lo nn k j) → (own_find hi lo nn x1 x2 k j = (own_find hi lo nn x1 x2 3 (own_start mk x2))) → Go p e below s (Q5 Z x0 x1 x2 a1 a2 mk nn hi lo h0) ({ frames := 0, cells := 0, slots := 0, locals := 0 } : Room).cells ({ frames := 0, cells := 0, slots := 0, locals := 0 } : Room).slots (T0.setTop (mkF m 9 #[.val (.ref x0), .val (.long x1), .second, .val (.long x2), .second, .val (.int iv)] [])) := by
  intro k
  induction k with
  | zero =>
    intro iv j T0 X0 e0 P0 P1 P2 P3 P4 hj hlt hen hv
    refine g_aloadN X0 hx 10 (hb hby d5_9) rfl rfl rfl ?_
    show Go p e below s _ _ _ (T0.setTop (mkF m 10 #[.val (.ref x0), .val (.long x1), .second, .val (.long x2), .second, .val (.int iv)] [(.ref x0)]))
    refine g_getF X0 hx hZ hown (hw _ (List.mem_of_getElem? (i := 25) rfl)) Via.refl e0 P0 13 (hb hby d5_10) rfl ?_
    intro T1 X1 e1
    show Go p e below s _ _ _ (T1.setTop (mkF m 13 #[.val (.ref x0), .val (.long x1), .second, .val (.long x2), .second, .val (.int iv)] [(.ref a1)]))
    refine g_iload X1 hx 15 (hb hby d5_13) rfl rfl ?_
    show Go p e below s _ _ _ (T1.setTop (mkF m 15 #[.val (.ref x0), .val (.long x1), .second, .val (.long x2), .second, .val (.int iv)] [(.int iv), (.ref a1)]))
    refine g_laload X1 hx hZ e1 P3 j hj hlt 16 (hb hby d5_15) rfl ?_
    show Go p e below s _ _ _ (T1.setTop (mkF m 16 #[.val (.ref x0), .val (.long x1), .second, .val (.long x2), .second, .val (.int iv)] [(.long (hi j))]))
    refine g_lloadN X1 hx 17 (hb hby d5_16) rfl rfl ?_
    show Go p e below s _ _ _ (T1.setTop (mkF m 17 #[.val (.ref x0), .val (.long x1), .second, .val (.long x2), .second, .val (.int iv)] [(.long x1), (.long (hi j))]))
    refine g_lcmp X1 hx 18 (hb hby d5_17) rfl ?_
    show Go p e below s _ _ _ (T1.setTop (mkF m 18 #[.val (.ref x0), .val (.long x1), .second, .val (.long x2), .second, .val (.int iv)] [(.int (lcmpW (hi j) x1))]))
    refine g_lc_ne X1 hx 35 21 (hb hby d5_18) (by decide) rfl rfl (fun h3 => ?_) (fun h3 => ?_)
    · show Go p e below s _ _ _ (T1.setTop (mkF m 21 #[.val (.ref x0), .val (.long x1), .second, .val (.long x2), .second, .val (.int iv)] []))
      refine g_aloadN X1 hx 22 (hb hby d5_21) rfl rfl rfl ?_
      show Go p e below s _ _ _ (T1.setTop (mkF m 22 #[.val (.ref x0), .val (.long x1), .second, .val (.long x2), .second, .val (.int iv)] [(.ref x0)]))
      refine g_getF X1 hx hZ hown (hw _ (List.mem_of_getElem? (i := 27) rfl)) Via.refl e1 P1 25 (hb hby d5_22) rfl ?_
      intro T4 X4 e4
      show Go p e below s _ _ _ (T4.setTop (mkF m 25 #[.val (.ref x0), .val (.long x1), .second, .val (.long x2), .second, .val (.int iv)] [(.ref a2)]))
      refine g_iload X4 hx 27 (hb hby d5_25) rfl rfl ?_
      show Go p e below s _ _ _ (T4.setTop (mkF m 27 #[.val (.ref x0), .val (.long x1), .second, .val (.long x2), .second, .val (.int iv)] [(.int iv), (.ref a2)]))
      refine g_laload X4 hx hZ e4 P4 j hj hlt 28 (hb hby d5_27) rfl ?_
      show Go p e below s _ _ _ (T4.setTop (mkF m 28 #[.val (.ref x0), .val (.long x1), .second, .val (.long x2), .second, .val (.int iv)] [(.long (lo j))]))
      refine g_lloadN X4 hx 29 (hb hby d5_28) rfl rfl ?_
      show Go p e below s _ _ _ (T4.setTop (mkF m 29 #[.val (.ref x0), .val (.long x1), .second, .val (.long x2), .second, .val (.int iv)] [(.long x2), (.long (lo j))]))
      refine g_lcmp X4 hx 30 (hb hby d5_29) rfl ?_
      show Go p e below s _ _ _ (T4.setTop (mkF m 30 #[.val (.ref x0), .val (.long x1), .second, .val (.long x2), .second, .val (.int iv)] [(.int (lcmpW (lo j) x2))]))
      refine g_lc_ne X4 hx 35 33 (hb hby d5_30) (by decide) rfl rfl (fun h6 => ?_) (fun h6 => ?_)
      · show Go p e below s _ _ _ (T4.setTop (mkF m 33 #[.val (.ref x0), .val (.long x1), .second, .val (.long x2), .second, .val (.int iv)] []))
        refine g_iconst X4 hx (1 : Int32) 34 (hb hby d5_33) rfl rfl ?_
        show Go p e below s _ _ _ (T4.setTop (mkF m 34 #[.val (.ref x0), .val (.long x1), .second, .val (.long x2), .second, .val (.int iv)] [(.int (1 : Int32))]))
        exact g_retN X4 hx hret (by simp) hlk (hb hby d5_34) (by decide) (by decide) ⟨congrArg (fun z => some (Value.int z)) (show (1 : Int32) = _ from by rw [← hv, own_find, if_pos ⟨h3, h6⟩]), rfl, e4⟩
      · show Go p e below s _ _ _ (T4.setTop (mkF m 35 #[.val (.ref x0), .val (.long x1), .second, .val (.long x2), .second, .val (.int iv)] []))
        refine g_aloadN X4 hx 36 (hb hby d5_35) rfl rfl rfl ?_
        show Go p e below s _ _ _ (T4.setTop (mkF m 36 #[.val (.ref x0), .val (.long x1), .second, .val (.long x2), .second, .val (.int iv)] [(.ref x0)]))
        refine g_getF X4 hx hZ hown (hw _ (List.mem_of_getElem? (i := 25) rfl)) Via.refl e4 P0 39 (hb hby d5_36) rfl ?_
        intro T7 X7 e7
        show Go p e below s _ _ _ (T7.setTop (mkF m 39 #[.val (.ref x0), .val (.long x1), .second, .val (.long x2), .second, .val (.int iv)] [(.ref a1)]))
        refine g_iload X7 hx 41 (hb hby d5_39) rfl rfl ?_
        show Go p e below s _ _ _ (T7.setTop (mkF m 41 #[.val (.ref x0), .val (.long x1), .second, .val (.long x2), .second, .val (.int iv)] [(.int iv), (.ref a1)]))
        refine g_laload X7 hx hZ e7 P3 j hj hlt 42 (hb hby d5_41) rfl ?_
        show Go p e below s _ _ _ (T7.setTop (mkF m 42 #[.val (.ref x0), .val (.long x1), .second, .val (.long x2), .second, .val (.int iv)] [(.long (hi j))]))
        refine g_lconst X7 hx (0 : Int64) 43 (hb hby d5_42) rfl rfl ?_
        show Go p e below s _ _ _ (T7.setTop (mkF m 43 #[.val (.ref x0), .val (.long x1), .second, .val (.long x2), .second, .val (.int iv)] [(.long (0 : Int64)), (.long (hi j))]))
        refine g_lcmp X7 hx 44 (hb hby d5_43) rfl ?_
        show Go p e below s _ _ _ (T7.setTop (mkF m 44 #[.val (.ref x0), .val (.long x1), .second, .val (.long x2), .second, .val (.int iv)] [(.int (lcmpW (hi j) (0 : Int64)))]))
        have h9 : (hi j) = (0 : Int64) := hen.1
        refine g_lc_ne X7 hx 61 47 (hb hby d5_44) (by decide) rfl rfl (fun _ => ?_) (fun q => absurd h9 q)
        show Go p e below s _ _ _ (T7.setTop (mkF m 47 #[.val (.ref x0), .val (.long x1), .second, .val (.long x2), .second, .val (.int iv)] []))
        refine g_aloadN X7 hx 48 (hb hby d5_47) rfl rfl rfl ?_
        show Go p e below s _ _ _ (T7.setTop (mkF m 48 #[.val (.ref x0), .val (.long x1), .second, .val (.long x2), .second, .val (.int iv)] [(.ref x0)]))
        refine g_getF X7 hx hZ hown (hw _ (List.mem_of_getElem? (i := 27) rfl)) Via.refl e7 P1 51 (hb hby d5_48) rfl ?_
        intro T10 X10 e10
        show Go p e below s _ _ _ (T10.setTop (mkF m 51 #[.val (.ref x0), .val (.long x1), .second, .val (.long x2), .second, .val (.int iv)] [(.ref a2)]))
        refine g_iload X10 hx 53 (hb hby d5_51) rfl rfl ?_
        show Go p e below s _ _ _ (T10.setTop (mkF m 53 #[.val (.ref x0), .val (.long x1), .second, .val (.long x2), .second, .val (.int iv)] [(.int iv), (.ref a2)]))
        refine g_laload X10 hx hZ e10 P4 j hj hlt 54 (hb hby d5_53) rfl ?_
        show Go p e below s _ _ _ (T10.setTop (mkF m 54 #[.val (.ref x0), .val (.long x1), .second, .val (.long x2), .second, .val (.int iv)] [(.long (lo j))]))
        refine g_lconst X10 hx (0 : Int64) 55 (hb hby d5_54) rfl rfl ?_
        show Go p e below s _ _ _ (T10.setTop (mkF m 55 #[.val (.ref x0), .val (.long x1), .second, .val (.long x2), .second, .val (.int iv)] [(.long (0 : Int64)), (.long (lo j))]))
        refine g_lcmp X10 hx 56 (hb hby d5_55) rfl ?_
        show Go p e below s _ _ _ (T10.setTop (mkF m 56 #[.val (.ref x0), .val (.long x1), .second, .val (.long x2), .second, .val (.int iv)] [(.int (lcmpW (lo j) (0 : Int64)))]))
        have h12 : (lo j) = (0 : Int64) := hen.2
        refine g_lc_ne X10 hx 61 59 (hb hby d5_56) (by decide) rfl rfl (fun _ => ?_) (fun q => absurd h12 q)
        show Go p e below s _ _ _ (T10.setTop (mkF m 59 #[.val (.ref x0), .val (.long x1), .second, .val (.long x2), .second, .val (.int iv)] []))
        refine g_iconst X10 hx (0 : Int32) 60 (hb hby d5_59) rfl rfl ?_
        show Go p e below s _ _ _ (T10.setTop (mkF m 60 #[.val (.ref x0), .val (.long x1), .second, .val (.long x2), .second, .val (.int iv)] [(.int (0 : Int32))]))
        exact g_retN X10 hx hret (by simp) hlk (hb hby d5_60) (by decide) (by decide) ⟨congrArg (fun z => some (Value.int z)) (show (0 : Int32) = _ from by rw [← hv, own_find, if_neg (fun q => h6 q.2)]), rfl, e10⟩
    · show Go p e below s _ _ _ (T1.setTop (mkF m 35 #[.val (.ref x0), .val (.long x1), .second, .val (.long x2), .second, .val (.int iv)] []))
      refine g_aloadN X1 hx 36 (hb hby d5_35) rfl rfl rfl ?_
      show Go p e below s _ _ _ (T1.setTop (mkF m 36 #[.val (.ref x0), .val (.long x1), .second, .val (.long x2), .second, .val (.int iv)] [(.ref x0)]))
      refine g_getF X1 hx hZ hown (hw _ (List.mem_of_getElem? (i := 25) rfl)) Via.refl e1 P0 39 (hb hby d5_36) rfl ?_
      intro T13 X13 e13
      show Go p e below s _ _ _ (T13.setTop (mkF m 39 #[.val (.ref x0), .val (.long x1), .second, .val (.long x2), .second, .val (.int iv)] [(.ref a1)]))
      refine g_iload X13 hx 41 (hb hby d5_39) rfl rfl ?_
      show Go p e below s _ _ _ (T13.setTop (mkF m 41 #[.val (.ref x0), .val (.long x1), .second, .val (.long x2), .second, .val (.int iv)] [(.int iv), (.ref a1)]))
      refine g_laload X13 hx hZ e13 P3 j hj hlt 42 (hb hby d5_41) rfl ?_
      show Go p e below s _ _ _ (T13.setTop (mkF m 42 #[.val (.ref x0), .val (.long x1), .second, .val (.long x2), .second, .val (.int iv)] [(.long (hi j))]))
      refine g_lconst X13 hx (0 : Int64) 43 (hb hby d5_42) rfl rfl ?_
      show Go p e below s _ _ _ (T13.setTop (mkF m 43 #[.val (.ref x0), .val (.long x1), .second, .val (.long x2), .second, .val (.int iv)] [(.long (0 : Int64)), (.long (hi j))]))
      refine g_lcmp X13 hx 44 (hb hby d5_43) rfl ?_
      show Go p e below s _ _ _ (T13.setTop (mkF m 44 #[.val (.ref x0), .val (.long x1), .second, .val (.long x2), .second, .val (.int iv)] [(.int (lcmpW (hi j) (0 : Int64)))]))
      have h15 : (hi j) = (0 : Int64) := hen.1
      refine g_lc_ne X13 hx 61 47 (hb hby d5_44) (by decide) rfl rfl (fun _ => ?_) (fun q => absurd h15 q)
      show Go p e below s _ _ _ (T13.setTop (mkF m 47 #[.val (.ref x0), .val (.long x1), .second, .val (.long x2), .second, .val (.int iv)] []))
      refine g_aloadN X13 hx 48 (hb hby d5_47) rfl rfl rfl ?_
      show Go p e below s _ _ _ (T13.setTop (mkF m 48 #[.val (.ref x0), .val (.long x1), .second, .val (.long x2), .second, .val (.int iv)] [(.ref x0)]))
      refine g_getF X13 hx hZ hown (hw _ (List.mem_of_getElem? (i := 27) rfl)) Via.refl e13 P1 51 (hb hby d5_48) rfl ?_
      intro T16 X16 e16
      show Go p e below s _ _ _ (T16.setTop (mkF m 51 #[.val (.ref x0), .val (.long x1), .second, .val (.long x2), .second, .val (.int iv)] [(.ref a2)]))
      refine g_iload X16 hx 53 (hb hby d5_51) rfl rfl ?_
      show Go p e below s _ _ _ (T16.setTop (mkF m 53 #[.val (.ref x0), .val (.long x1), .second, .val (.long x2), .second, .val (.int iv)] [(.int iv), (.ref a2)]))
      refine g_laload X16 hx hZ e16 P4 j hj hlt 54 (hb hby d5_53) rfl ?_
      show Go p e below s _ _ _ (T16.setTop (mkF m 54 #[.val (.ref x0), .val (.long x1), .second, .val (.long x2), .second, .val (.int iv)] [(.long (lo j))]))
      refine g_lconst X16 hx (0 : Int64) 55 (hb hby d5_54) rfl rfl ?_
      show Go p e below s _ _ _ (T16.setTop (mkF m 55 #[.val (.ref x0), .val (.long x1), .second, .val (.long x2), .second, .val (.int iv)] [(.long (0 : Int64)), (.long (lo j))]))
      refine g_lcmp X16 hx 56 (hb hby d5_55) rfl ?_
      show Go p e below s _ _ _ (T16.setTop (mkF m 56 #[.val (.ref x0), .val (.long x1), .second, .val (.long x2), .second, .val (.int iv)] [(.int (lcmpW (lo j) (0 : Int64)))]))
      have h18 : (lo j) = (0 : Int64) := hen.2
      refine g_lc_ne X16 hx 61 59 (hb hby d5_56) (by decide) rfl rfl (fun _ => ?_) (fun q => absurd h18 q)
      show Go p e below s _ _ _ (T16.setTop (mkF m 59 #[.val (.ref x0), .val (.long x1), .second, .val (.long x2), .second, .val (.int iv)] []))
      refine g_iconst X16 hx (0 : Int32) 60 (hb hby d5_59) rfl rfl ?_
      show Go p e below s _ _ _ (T16.setTop (mkF m 60 #[.val (.ref x0), .val (.long x1), .second, .val (.long x2), .second, .val (.int iv)] [(.int (0 : Int32))]))
      exact g_retN X16 hx hret (by simp) hlk (hb hby d5_60) (by decide) (by decide) ⟨congrArg (fun z => some (Value.int z)) (show (0 : Int32) = _ from by rw [← hv, own_find, if_neg (fun q => h3 q.1)]), rfl, e16⟩
  | succ k ih =>
    intro iv j T0 X0 e0 P0 P1 P2 P3 P4 hj hlt hen hv
    refine g_aloadN X0 hx 10 (hb hby d5_9) rfl rfl rfl ?_
    show Go p e below s _ _ _ (T0.setTop (mkF m 10 #[.val (.ref x0), .val (.long x1), .second, .val (.long x2), .second, .val (.int iv)] [(.ref x0)]))
    refine g_getF X0 hx hZ hown (hw _ (List.mem_of_getElem? (i := 25) rfl)) Via.refl e0 P0 13 (hb hby d5_10) rfl ?_
    intro T19 X19 e19
    show Go p e below s _ _ _ (T19.setTop (mkF m 13 #[.val (.ref x0), .val (.long x1), .second, .val (.long x2), .second, .val (.int iv)] [(.ref a1)]))
    refine g_iload X19 hx 15 (hb hby d5_13) rfl rfl ?_
    show Go p e below s _ _ _ (T19.setTop (mkF m 15 #[.val (.ref x0), .val (.long x1), .second, .val (.long x2), .second, .val (.int iv)] [(.int iv), (.ref a1)]))
    refine g_laload X19 hx hZ e19 P3 j hj hlt 16 (hb hby d5_15) rfl ?_
    show Go p e below s _ _ _ (T19.setTop (mkF m 16 #[.val (.ref x0), .val (.long x1), .second, .val (.long x2), .second, .val (.int iv)] [(.long (hi j))]))
    refine g_lloadN X19 hx 17 (hb hby d5_16) rfl rfl ?_
    show Go p e below s _ _ _ (T19.setTop (mkF m 17 #[.val (.ref x0), .val (.long x1), .second, .val (.long x2), .second, .val (.int iv)] [(.long x1), (.long (hi j))]))
    refine g_lcmp X19 hx 18 (hb hby d5_17) rfl ?_
    show Go p e below s _ _ _ (T19.setTop (mkF m 18 #[.val (.ref x0), .val (.long x1), .second, .val (.long x2), .second, .val (.int iv)] [(.int (lcmpW (hi j) x1))]))
    refine g_lc_ne X19 hx 35 21 (hb hby d5_18) (by decide) rfl rfl (fun h21 => ?_) (fun h21 => ?_)
    · show Go p e below s _ _ _ (T19.setTop (mkF m 21 #[.val (.ref x0), .val (.long x1), .second, .val (.long x2), .second, .val (.int iv)] []))
      refine g_aloadN X19 hx 22 (hb hby d5_21) rfl rfl rfl ?_
      show Go p e below s _ _ _ (T19.setTop (mkF m 22 #[.val (.ref x0), .val (.long x1), .second, .val (.long x2), .second, .val (.int iv)] [(.ref x0)]))
      refine g_getF X19 hx hZ hown (hw _ (List.mem_of_getElem? (i := 27) rfl)) Via.refl e19 P1 25 (hb hby d5_22) rfl ?_
      intro T22 X22 e22
      show Go p e below s _ _ _ (T22.setTop (mkF m 25 #[.val (.ref x0), .val (.long x1), .second, .val (.long x2), .second, .val (.int iv)] [(.ref a2)]))
      refine g_iload X22 hx 27 (hb hby d5_25) rfl rfl ?_
      show Go p e below s _ _ _ (T22.setTop (mkF m 27 #[.val (.ref x0), .val (.long x1), .second, .val (.long x2), .second, .val (.int iv)] [(.int iv), (.ref a2)]))
      refine g_laload X22 hx hZ e22 P4 j hj hlt 28 (hb hby d5_27) rfl ?_
      show Go p e below s _ _ _ (T22.setTop (mkF m 28 #[.val (.ref x0), .val (.long x1), .second, .val (.long x2), .second, .val (.int iv)] [(.long (lo j))]))
      refine g_lloadN X22 hx 29 (hb hby d5_28) rfl rfl ?_
      show Go p e below s _ _ _ (T22.setTop (mkF m 29 #[.val (.ref x0), .val (.long x1), .second, .val (.long x2), .second, .val (.int iv)] [(.long x2), (.long (lo j))]))
      refine g_lcmp X22 hx 30 (hb hby d5_29) rfl ?_
      show Go p e below s _ _ _ (T22.setTop (mkF m 30 #[.val (.ref x0), .val (.long x1), .second, .val (.long x2), .second, .val (.int iv)] [(.int (lcmpW (lo j) x2))]))
      refine g_lc_ne X22 hx 35 33 (hb hby d5_30) (by decide) rfl rfl (fun h24 => ?_) (fun h24 => ?_)
      · show Go p e below s _ _ _ (T22.setTop (mkF m 33 #[.val (.ref x0), .val (.long x1), .second, .val (.long x2), .second, .val (.int iv)] []))
        refine g_iconst X22 hx (1 : Int32) 34 (hb hby d5_33) rfl rfl ?_
        show Go p e below s _ _ _ (T22.setTop (mkF m 34 #[.val (.ref x0), .val (.long x1), .second, .val (.long x2), .second, .val (.int iv)] [(.int (1 : Int32))]))
        exact g_retN X22 hx hret (by simp) hlk (hb hby d5_34) (by decide) (by decide) ⟨congrArg (fun z => some (Value.int z)) (show (1 : Int32) = _ from by rw [← hv, own_find, if_pos ⟨h21, h24⟩]), rfl, e22⟩
      · show Go p e below s _ _ _ (T22.setTop (mkF m 35 #[.val (.ref x0), .val (.long x1), .second, .val (.long x2), .second, .val (.int iv)] []))
        refine g_aloadN X22 hx 36 (hb hby d5_35) rfl rfl rfl ?_
        show Go p e below s _ _ _ (T22.setTop (mkF m 36 #[.val (.ref x0), .val (.long x1), .second, .val (.long x2), .second, .val (.int iv)] [(.ref x0)]))
        refine g_getF X22 hx hZ hown (hw _ (List.mem_of_getElem? (i := 25) rfl)) Via.refl e22 P0 39 (hb hby d5_36) rfl ?_
        intro T25 X25 e25
        show Go p e below s _ _ _ (T25.setTop (mkF m 39 #[.val (.ref x0), .val (.long x1), .second, .val (.long x2), .second, .val (.int iv)] [(.ref a1)]))
        refine g_iload X25 hx 41 (hb hby d5_39) rfl rfl ?_
        show Go p e below s _ _ _ (T25.setTop (mkF m 41 #[.val (.ref x0), .val (.long x1), .second, .val (.long x2), .second, .val (.int iv)] [(.int iv), (.ref a1)]))
        refine g_laload X25 hx hZ e25 P3 j hj hlt 42 (hb hby d5_41) rfl ?_
        show Go p e below s _ _ _ (T25.setTop (mkF m 42 #[.val (.ref x0), .val (.long x1), .second, .val (.long x2), .second, .val (.int iv)] [(.long (hi j))]))
        refine g_lconst X25 hx (0 : Int64) 43 (hb hby d5_42) rfl rfl ?_
        show Go p e below s _ _ _ (T25.setTop (mkF m 43 #[.val (.ref x0), .val (.long x1), .second, .val (.long x2), .second, .val (.int iv)] [(.long (0 : Int64)), (.long (hi j))]))
        refine g_lcmp X25 hx 44 (hb hby d5_43) rfl ?_
        show Go p e below s _ _ _ (T25.setTop (mkF m 44 #[.val (.ref x0), .val (.long x1), .second, .val (.long x2), .second, .val (.int iv)] [(.int (lcmpW (hi j) (0 : Int64)))]))
        refine g_lc_ne X25 hx 61 47 (hb hby d5_44) (by decide) rfl rfl (fun h27 => ?_) (fun h27 => ?_)
        · show Go p e below s _ _ _ (T25.setTop (mkF m 47 #[.val (.ref x0), .val (.long x1), .second, .val (.long x2), .second, .val (.int iv)] []))
          refine g_aloadN X25 hx 48 (hb hby d5_47) rfl rfl rfl ?_
          show Go p e below s _ _ _ (T25.setTop (mkF m 48 #[.val (.ref x0), .val (.long x1), .second, .val (.long x2), .second, .val (.int iv)] [(.ref x0)]))
          refine g_getF X25 hx hZ hown (hw _ (List.mem_of_getElem? (i := 27) rfl)) Via.refl e25 P1 51 (hb hby d5_48) rfl ?_
          intro T28 X28 e28
          show Go p e below s _ _ _ (T28.setTop (mkF m 51 #[.val (.ref x0), .val (.long x1), .second, .val (.long x2), .second, .val (.int iv)] [(.ref a2)]))
          refine g_iload X28 hx 53 (hb hby d5_51) rfl rfl ?_
          show Go p e below s _ _ _ (T28.setTop (mkF m 53 #[.val (.ref x0), .val (.long x1), .second, .val (.long x2), .second, .val (.int iv)] [(.int iv), (.ref a2)]))
          refine g_laload X28 hx hZ e28 P4 j hj hlt 54 (hb hby d5_53) rfl ?_
          show Go p e below s _ _ _ (T28.setTop (mkF m 54 #[.val (.ref x0), .val (.long x1), .second, .val (.long x2), .second, .val (.int iv)] [(.long (lo j))]))
          refine g_lconst X28 hx (0 : Int64) 55 (hb hby d5_54) rfl rfl ?_
          show Go p e below s _ _ _ (T28.setTop (mkF m 55 #[.val (.ref x0), .val (.long x1), .second, .val (.long x2), .second, .val (.int iv)] [(.long (0 : Int64)), (.long (lo j))]))
          refine g_lcmp X28 hx 56 (hb hby d5_55) rfl ?_
          show Go p e below s _ _ _ (T28.setTop (mkF m 56 #[.val (.ref x0), .val (.long x1), .second, .val (.long x2), .second, .val (.int iv)] [(.int (lcmpW (lo j) (0 : Int64)))]))
          refine g_lc_ne X28 hx 61 59 (hb hby d5_56) (by decide) rfl rfl (fun h30 => ?_) (fun h30 => ?_)
          · show Go p e below s _ _ _ (T28.setTop (mkF m 59 #[.val (.ref x0), .val (.long x1), .second, .val (.long x2), .second, .val (.int iv)] []))
            refine g_iconst X28 hx (0 : Int32) 60 (hb hby d5_59) rfl rfl ?_
            show Go p e below s _ _ _ (T28.setTop (mkF m 60 #[.val (.ref x0), .val (.long x1), .second, .val (.long x2), .second, .val (.int iv)] [(.int (0 : Int32))]))
            exact g_retN X28 hx hret (by simp) hlk (hb hby d5_60) (by decide) (by decide) ⟨congrArg (fun z => some (Value.int z)) (show (0 : Int32) = _ from by rw [← hv, own_find, if_neg (fun q => h24 q.2), if_pos ⟨h27, h30⟩]), rfl, e28⟩
          · show Go p e below s _ _ _ (T28.setTop (mkF m 61 #[.val (.ref x0), .val (.long x1), .second, .val (.long x2), .second, .val (.int iv)] []))
            refine g_iload X28 hx 63 (hb hby d5_61) rfl rfl ?_
            show Go p e below s _ _ _ (T28.setTop (mkF m 63 #[.val (.ref x0), .val (.long x1), .second, .val (.long x2), .second, .val (.int iv)] [(.int iv)]))
            refine g_iconst X28 hx (1 : Int32) 64 (hb hby d5_63) rfl rfl ?_
            show Go p e below s _ _ _ (T28.setTop (mkF m 64 #[.val (.ref x0), .val (.long x1), .second, .val (.long x2), .second, .val (.int iv)] [(.int (1 : Int32)), (.int iv)]))
            refine g_iadd X28 hx 65 (hb hby d5_64) rfl ?_
            show Go p e below s _ _ _ (T28.setTop (mkF m 65 #[.val (.ref x0), .val (.long x1), .second, .val (.long x2), .second, .val (.int iv)] [(.int (iv + (1 : Int32)))]))
            refine g_aloadN X28 hx 66 (hb hby d5_65) rfl rfl rfl ?_
            show Go p e below s _ _ _ (T28.setTop (mkF m 66 #[.val (.ref x0), .val (.long x1), .second, .val (.long x2), .second, .val (.int iv)] [(.ref x0), (.int (iv + (1 : Int32)))]))
            refine g_getF X28 hx hZ hown (hw _ (List.mem_of_getElem? (i := 29) rfl)) Via.refl e28 P2 69 (hb hby d5_66) rfl ?_
            intro T31 X31 e31
            show Go p e below s _ _ _ (T31.setTop (mkF m 69 #[.val (.ref x0), .val (.long x1), .second, .val (.long x2), .second, .val (.int iv)] [(.int mk), (.int (iv + (1 : Int32)))]))
            refine g_iand X31 hx 70 (hb hby d5_69) rfl ?_
            show Go p e below s _ _ _ (T31.setTop (mkF m 70 #[.val (.ref x0), .val (.long x1), .second, .val (.long x2), .second, .val (.int iv)] [(.int ((iv + (1 : Int32)) &&& mk))]))
            refine g_istore X31 hx #[.val (.ref x0), .val (.long x1), .second, .val (.long x2), .second, .val (.int ((iv + (1 : Int32)) &&& mk))] 72 (hb hby d5_70) rfl rfl ?_
            show Go p e below s _ _ _ (T31.setTop (mkF m 72 #[.val (.ref x0), .val (.long x1), .second, .val (.long x2), .second, .val (.int ((iv + (1 : Int32)) &&& mk))] []))
            refine g_goto X31 hx 9 (hb hby d5_72) (by decide) rfl ?_
            show Go p e below s _ _ _ (T31.setTop (mkF m 9 #[.val (.ref x0), .val (.long x1), .second, .val (.long x2), .second, .val (.int ((iv + (1 : Int32)) &&& mk))] []))
            exact ih ((iv + (1 : Int32)) &&& mk) (own_nx nn j) _ X31 e31 P0 P1 P2 P3 P4 (own_next hmk hj hlt).1 (own_next hmk hj hlt).2 (own_e1 hen (fun q => h30 q.2)) (own_fs hv (fun q => h24 q.2) (fun q => h30 q.2))
        · show Go p e below s _ _ _ (T25.setTop (mkF m 61 #[.val (.ref x0), .val (.long x1), .second, .val (.long x2), .second, .val (.int iv)] []))
          refine g_iload X25 hx 63 (hb hby d5_61) rfl rfl ?_
          show Go p e below s _ _ _ (T25.setTop (mkF m 63 #[.val (.ref x0), .val (.long x1), .second, .val (.long x2), .second, .val (.int iv)] [(.int iv)]))
          refine g_iconst X25 hx (1 : Int32) 64 (hb hby d5_63) rfl rfl ?_
          show Go p e below s _ _ _ (T25.setTop (mkF m 64 #[.val (.ref x0), .val (.long x1), .second, .val (.long x2), .second, .val (.int iv)] [(.int (1 : Int32)), (.int iv)]))
          refine g_iadd X25 hx 65 (hb hby d5_64) rfl ?_
          show Go p e below s _ _ _ (T25.setTop (mkF m 65 #[.val (.ref x0), .val (.long x1), .second, .val (.long x2), .second, .val (.int iv)] [(.int (iv + (1 : Int32)))]))
          refine g_aloadN X25 hx 66 (hb hby d5_65) rfl rfl rfl ?_
          show Go p e below s _ _ _ (T25.setTop (mkF m 66 #[.val (.ref x0), .val (.long x1), .second, .val (.long x2), .second, .val (.int iv)] [(.ref x0), (.int (iv + (1 : Int32)))]))
          refine g_getF X25 hx hZ hown (hw _ (List.mem_of_getElem? (i := 29) rfl)) Via.refl e25 P2 69 (hb hby d5_66) rfl ?_
          intro T32 X32 e32
          show Go p e below s _ _ _ (T32.setTop (mkF m 69 #[.val (.ref x0), .val (.long x1), .second, .val (.long x2), .second, .val (.int iv)] [(.int mk), (.int (iv + (1 : Int32)))]))
          refine g_iand X32 hx 70 (hb hby d5_69) rfl ?_
          show Go p e below s _ _ _ (T32.setTop (mkF m 70 #[.val (.ref x0), .val (.long x1), .second, .val (.long x2), .second, .val (.int iv)] [(.int ((iv + (1 : Int32)) &&& mk))]))
          refine g_istore X32 hx #[.val (.ref x0), .val (.long x1), .second, .val (.long x2), .second, .val (.int ((iv + (1 : Int32)) &&& mk))] 72 (hb hby d5_70) rfl rfl ?_
          show Go p e below s _ _ _ (T32.setTop (mkF m 72 #[.val (.ref x0), .val (.long x1), .second, .val (.long x2), .second, .val (.int ((iv + (1 : Int32)) &&& mk))] []))
          refine g_goto X32 hx 9 (hb hby d5_72) (by decide) rfl ?_
          show Go p e below s _ _ _ (T32.setTop (mkF m 9 #[.val (.ref x0), .val (.long x1), .second, .val (.long x2), .second, .val (.int ((iv + (1 : Int32)) &&& mk))] []))
          exact ih ((iv + (1 : Int32)) &&& mk) (own_nx nn j) _ X32 e32 P0 P1 P2 P3 P4 (own_next hmk hj hlt).1 (own_next hmk hj hlt).2 (own_e1 hen (fun q => h27 q.1)) (own_fs hv (fun q => h24 q.2) (fun q => h27 q.1))
    · show Go p e below s _ _ _ (T19.setTop (mkF m 35 #[.val (.ref x0), .val (.long x1), .second, .val (.long x2), .second, .val (.int iv)] []))
      refine g_aloadN X19 hx 36 (hb hby d5_35) rfl rfl rfl ?_
      show Go p e below s _ _ _ (T19.setTop (mkF m 36 #[.val (.ref x0), .val (.long x1), .second, .val (.long x2), .second, .val (.int iv)] [(.ref x0)]))
      refine g_getF X19 hx hZ hown (hw _ (List.mem_of_getElem? (i := 25) rfl)) Via.refl e19 P0 39 (hb hby d5_36) rfl ?_
      intro T33 X33 e33
      show Go p e below s _ _ _ (T33.setTop (mkF m 39 #[.val (.ref x0), .val (.long x1), .second, .val (.long x2), .second, .val (.int iv)] [(.ref a1)]))
      refine g_iload X33 hx 41 (hb hby d5_39) rfl rfl ?_
      show Go p e below s _ _ _ (T33.setTop (mkF m 41 #[.val (.ref x0), .val (.long x1), .second, .val (.long x2), .second, .val (.int iv)] [(.int iv), (.ref a1)]))
      refine g_laload X33 hx hZ e33 P3 j hj hlt 42 (hb hby d5_41) rfl ?_
      show Go p e below s _ _ _ (T33.setTop (mkF m 42 #[.val (.ref x0), .val (.long x1), .second, .val (.long x2), .second, .val (.int iv)] [(.long (hi j))]))
      refine g_lconst X33 hx (0 : Int64) 43 (hb hby d5_42) rfl rfl ?_
      show Go p e below s _ _ _ (T33.setTop (mkF m 43 #[.val (.ref x0), .val (.long x1), .second, .val (.long x2), .second, .val (.int iv)] [(.long (0 : Int64)), (.long (hi j))]))
      refine g_lcmp X33 hx 44 (hb hby d5_43) rfl ?_
      show Go p e below s _ _ _ (T33.setTop (mkF m 44 #[.val (.ref x0), .val (.long x1), .second, .val (.long x2), .second, .val (.int iv)] [(.int (lcmpW (hi j) (0 : Int64)))]))
      refine g_lc_ne X33 hx 61 47 (hb hby d5_44) (by decide) rfl rfl (fun h35 => ?_) (fun h35 => ?_)
      · show Go p e below s _ _ _ (T33.setTop (mkF m 47 #[.val (.ref x0), .val (.long x1), .second, .val (.long x2), .second, .val (.int iv)] []))
        refine g_aloadN X33 hx 48 (hb hby d5_47) rfl rfl rfl ?_
        show Go p e below s _ _ _ (T33.setTop (mkF m 48 #[.val (.ref x0), .val (.long x1), .second, .val (.long x2), .second, .val (.int iv)] [(.ref x0)]))
        refine g_getF X33 hx hZ hown (hw _ (List.mem_of_getElem? (i := 27) rfl)) Via.refl e33 P1 51 (hb hby d5_48) rfl ?_
        intro T36 X36 e36
        show Go p e below s _ _ _ (T36.setTop (mkF m 51 #[.val (.ref x0), .val (.long x1), .second, .val (.long x2), .second, .val (.int iv)] [(.ref a2)]))
        refine g_iload X36 hx 53 (hb hby d5_51) rfl rfl ?_
        show Go p e below s _ _ _ (T36.setTop (mkF m 53 #[.val (.ref x0), .val (.long x1), .second, .val (.long x2), .second, .val (.int iv)] [(.int iv), (.ref a2)]))
        refine g_laload X36 hx hZ e36 P4 j hj hlt 54 (hb hby d5_53) rfl ?_
        show Go p e below s _ _ _ (T36.setTop (mkF m 54 #[.val (.ref x0), .val (.long x1), .second, .val (.long x2), .second, .val (.int iv)] [(.long (lo j))]))
        refine g_lconst X36 hx (0 : Int64) 55 (hb hby d5_54) rfl rfl ?_
        show Go p e below s _ _ _ (T36.setTop (mkF m 55 #[.val (.ref x0), .val (.long x1), .second, .val (.long x2), .second, .val (.int iv)] [(.long (0 : Int64)), (.long (lo j))]))
        refine g_lcmp X36 hx 56 (hb hby d5_55) rfl ?_
        show Go p e below s _ _ _ (T36.setTop (mkF m 56 #[.val (.ref x0), .val (.long x1), .second, .val (.long x2), .second, .val (.int iv)] [(.int (lcmpW (lo j) (0 : Int64)))]))
        refine g_lc_ne X36 hx 61 59 (hb hby d5_56) (by decide) rfl rfl (fun h38 => ?_) (fun h38 => ?_)
        · show Go p e below s _ _ _ (T36.setTop (mkF m 59 #[.val (.ref x0), .val (.long x1), .second, .val (.long x2), .second, .val (.int iv)] []))
          refine g_iconst X36 hx (0 : Int32) 60 (hb hby d5_59) rfl rfl ?_
          show Go p e below s _ _ _ (T36.setTop (mkF m 60 #[.val (.ref x0), .val (.long x1), .second, .val (.long x2), .second, .val (.int iv)] [(.int (0 : Int32))]))
          exact g_retN X36 hx hret (by simp) hlk (hb hby d5_60) (by decide) (by decide) ⟨congrArg (fun z => some (Value.int z)) (show (0 : Int32) = _ from by rw [← hv, own_find, if_neg (fun q => h21 q.1), if_pos ⟨h35, h38⟩]), rfl, e36⟩
        · show Go p e below s _ _ _ (T36.setTop (mkF m 61 #[.val (.ref x0), .val (.long x1), .second, .val (.long x2), .second, .val (.int iv)] []))
          refine g_iload X36 hx 63 (hb hby d5_61) rfl rfl ?_
          show Go p e below s _ _ _ (T36.setTop (mkF m 63 #[.val (.ref x0), .val (.long x1), .second, .val (.long x2), .second, .val (.int iv)] [(.int iv)]))
          refine g_iconst X36 hx (1 : Int32) 64 (hb hby d5_63) rfl rfl ?_
          show Go p e below s _ _ _ (T36.setTop (mkF m 64 #[.val (.ref x0), .val (.long x1), .second, .val (.long x2), .second, .val (.int iv)] [(.int (1 : Int32)), (.int iv)]))
          refine g_iadd X36 hx 65 (hb hby d5_64) rfl ?_
          show Go p e below s _ _ _ (T36.setTop (mkF m 65 #[.val (.ref x0), .val (.long x1), .second, .val (.long x2), .second, .val (.int iv)] [(.int (iv + (1 : Int32)))]))
          refine g_aloadN X36 hx 66 (hb hby d5_65) rfl rfl rfl ?_
          show Go p e below s _ _ _ (T36.setTop (mkF m 66 #[.val (.ref x0), .val (.long x1), .second, .val (.long x2), .second, .val (.int iv)] [(.ref x0), (.int (iv + (1 : Int32)))]))
          refine g_getF X36 hx hZ hown (hw _ (List.mem_of_getElem? (i := 29) rfl)) Via.refl e36 P2 69 (hb hby d5_66) rfl ?_
          intro T39 X39 e39
          show Go p e below s _ _ _ (T39.setTop (mkF m 69 #[.val (.ref x0), .val (.long x1), .second, .val (.long x2), .second, .val (.int iv)] [(.int mk), (.int (iv + (1 : Int32)))]))
          refine g_iand X39 hx 70 (hb hby d5_69) rfl ?_
          show Go p e below s _ _ _ (T39.setTop (mkF m 70 #[.val (.ref x0), .val (.long x1), .second, .val (.long x2), .second, .val (.int iv)] [(.int ((iv + (1 : Int32)) &&& mk))]))
          refine g_istore X39 hx #[.val (.ref x0), .val (.long x1), .second, .val (.long x2), .second, .val (.int ((iv + (1 : Int32)) &&& mk))] 72 (hb hby d5_70) rfl rfl ?_
          show Go p e below s _ _ _ (T39.setTop (mkF m 72 #[.val (.ref x0), .val (.long x1), .second, .val (.long x2), .second, .val (.int ((iv + (1 : Int32)) &&& mk))] []))
          refine g_goto X39 hx 9 (hb hby d5_72) (by decide) rfl ?_
          show Go p e below s _ _ _ (T39.setTop (mkF m 9 #[.val (.ref x0), .val (.long x1), .second, .val (.long x2), .second, .val (.int ((iv + (1 : Int32)) &&& mk))] []))
          exact ih ((iv + (1 : Int32)) &&& mk) (own_nx nn j) _ X39 e39 P0 P1 P2 P3 P4 (own_next hmk hj hlt).1 (own_next hmk hj hlt).2 (own_e1 hen (fun q => h38 q.2)) (own_fs hv (fun q => h21 q.1) (fun q => h38 q.2))
      · show Go p e below s _ _ _ (T33.setTop (mkF m 61 #[.val (.ref x0), .val (.long x1), .second, .val (.long x2), .second, .val (.int iv)] []))
        refine g_iload X33 hx 63 (hb hby d5_61) rfl rfl ?_
        show Go p e below s _ _ _ (T33.setTop (mkF m 63 #[.val (.ref x0), .val (.long x1), .second, .val (.long x2), .second, .val (.int iv)] [(.int iv)]))
        refine g_iconst X33 hx (1 : Int32) 64 (hb hby d5_63) rfl rfl ?_
        show Go p e below s _ _ _ (T33.setTop (mkF m 64 #[.val (.ref x0), .val (.long x1), .second, .val (.long x2), .second, .val (.int iv)] [(.int (1 : Int32)), (.int iv)]))
        refine g_iadd X33 hx 65 (hb hby d5_64) rfl ?_
        show Go p e below s _ _ _ (T33.setTop (mkF m 65 #[.val (.ref x0), .val (.long x1), .second, .val (.long x2), .second, .val (.int iv)] [(.int (iv + (1 : Int32)))]))
        refine g_aloadN X33 hx 66 (hb hby d5_65) rfl rfl rfl ?_
        show Go p e below s _ _ _ (T33.setTop (mkF m 66 #[.val (.ref x0), .val (.long x1), .second, .val (.long x2), .second, .val (.int iv)] [(.ref x0), (.int (iv + (1 : Int32)))]))
        refine g_getF X33 hx hZ hown (hw _ (List.mem_of_getElem? (i := 29) rfl)) Via.refl e33 P2 69 (hb hby d5_66) rfl ?_
        intro T40 X40 e40
        show Go p e below s _ _ _ (T40.setTop (mkF m 69 #[.val (.ref x0), .val (.long x1), .second, .val (.long x2), .second, .val (.int iv)] [(.int mk), (.int (iv + (1 : Int32)))]))
        refine g_iand X40 hx 70 (hb hby d5_69) rfl ?_
        show Go p e below s _ _ _ (T40.setTop (mkF m 70 #[.val (.ref x0), .val (.long x1), .second, .val (.long x2), .second, .val (.int iv)] [(.int ((iv + (1 : Int32)) &&& mk))]))
        refine g_istore X40 hx #[.val (.ref x0), .val (.long x1), .second, .val (.long x2), .second, .val (.int ((iv + (1 : Int32)) &&& mk))] 72 (hb hby d5_70) rfl rfl ?_
        show Go p e below s _ _ _ (T40.setTop (mkF m 72 #[.val (.ref x0), .val (.long x1), .second, .val (.long x2), .second, .val (.int ((iv + (1 : Int32)) &&& mk))] []))
        refine g_goto X40 hx 9 (hb hby d5_72) (by decide) rfl ?_
        show Go p e below s _ _ _ (T40.setTop (mkF m 9 #[.val (.ref x0), .val (.long x1), .second, .val (.long x2), .second, .val (.int ((iv + (1 : Int32)) &&& mk))] []))
        exact ih ((iv + (1 : Int32)) &&& mk) (own_nx nn j) _ X40 e40 P0 P1 P2 P3 P4 (own_next hmk hj hlt).1 (own_next hmk hj hlt).2 (own_e1 hen (fun q => h35 q.1)) (own_fs hv (fun q => h21 q.1) (fun q => h35 q.1))
theorem d5_0 : decode prog_24_method_4_code 0 = .ok (.lload_n 3, 1) := by decide +kernel
theorem d5_1 : decode prog_24_method_4_code 1 = .ok (.l2i, 1) := by decide +kernel
theorem d5_2 : decode prog_24_method_4_code 2 = .ok (.aload_n 0, 1) := by decide +kernel
theorem d5_3 : decode prog_24_method_4_code 3 = .ok (.getfield 36, 3) := by decide +kernel
theorem d5_6 : decode prog_24_method_4_code 6 = .ok (.iand, 1) := by decide +kernel
theorem d5_7 : decode prog_24_method_4_code 7 = .ok (.istore 5, 2) := by decide +kernel
theorem ef_5 (m : MethodId) (x0 : Addr) (x1 : Int64) (x2 : Int64) : entryFrame m #[(.ref x0), (.long x1), (.long x2)] 6 = mkF m 0 #[.val (.ref x0), .val (.long x1), .second, .val (.long x2), .second, .unset] [] := by first | (simp [entryFrame, mkF, argsToLocals, Value.category]; done) | rfl
set_option maxRecDepth 65536 in
set_option maxHeartbeats 40000000 in
theorem rm5 (l : Launch) (Z : State) (a0 : Array Value) (hw : ∀ d ∈ tables_1, d.before a0 Z = true) (ws : List Jvm.Cond) (x0 : Addr) (x1 : Int64) (x2 : Int64) (a1 : Addr) (a2 : Addr) (mk : Int32) (nn : Nat) (hi : Nat → Int64) (lo : Nat → Int64) (h0 : Heap) (P0 : Fld Z h0 x0 "com/example/itinerant_spider/itinerantspider/frontier/FingerprintTable" "highs" "[J" (.ref a1)) (P1 : Fld Z h0 x0 "com/example/itinerant_spider/itinerantspider/frontier/FingerprintTable" "lows" "[J" (.ref a2)) (P2 : Fld Z h0 x0 "com/example/itinerant_spider/itinerantspider/frontier/FingerprintTable" "mask" "I" (.int mk)) (P3 : AJ Z h0 a1 nn hi) (P4 : AJ Z h0 a2 nn lo) (hmk : own_mk mk nn) (hends : own_ends hi lo nn 3 (own_start mk x2)) :
    MetFree l (⟨"com/example/itinerant_spider/itinerantspider/frontier/FingerprintTable", "contains", "(JJ)Z"⟩ : MethodName) (head1 (Jvm.Cond.code (⟨"com/example/itinerant_spider/itinerantspider/frontier/FingerprintTable", "contains", "(JJ)Z"⟩ : MethodName) prog_24_method_4_code 6 (some .boolean) :: ws) ({ frames := 0, cells := 0, slots := 0, locals := 0 } : Room)) (fun a U => a = #[(.ref x0), (.long x1), (.long x2)] ∧ Z.Warmed39 U.vm ∧ U.heap = h0) (fun _ _ _ _ _ => True) (fun _ U o U' => ∃ v L, o = .returned v ∧ Q5 Z x0 x1 x2 a1 a2 mk nn hi lo h0 v U'.heap L ∧ FrameEnd U o U' L ({ frames := 0, cells := 0, slots := 0, locals := 0 } : Room).cells ({ frames := 0, cells := 0, slots := 0, locals := 0 } : Room).slots) := by
  refine g_body (plainFor_of_name pn_2) ?_
  intro p e s m below meth c T0 X0 hx hby hml hret hlk hown hnm hZ e0
  rw [ef_5]
  show Go p e below s _ _ _ (T0.setTop (mkF m 0 #[.val (.ref x0), .val (.long x1), .second, .val (.long x2), .second, .unset] []))
  refine g_lloadN X0 hx 1 (hb hby d5_0) rfl rfl ?_
  show Go p e below s _ _ _ (T0.setTop (mkF m 1 #[.val (.ref x0), .val (.long x1), .second, .val (.long x2), .second, .unset] [(.long x2)]))
  refine g_l2i X0 hx 2 (hb hby d5_1) rfl ?_
  show Go p e below s _ _ _ (T0.setTop (mkF m 2 #[.val (.ref x0), .val (.long x1), .second, .val (.long x2), .second, .unset] [(.int (x2.toInt32))]))
  refine g_aloadN X0 hx 3 (hb hby d5_2) rfl rfl rfl ?_
  show Go p e below s _ _ _ (T0.setTop (mkF m 3 #[.val (.ref x0), .val (.long x1), .second, .val (.long x2), .second, .unset] [(.ref x0), (.int (x2.toInt32))]))
  refine g_getF X0 hx hZ hown (hw _ (List.mem_of_getElem? (i := 29) rfl)) Via.refl e0 P2 6 (hb hby d5_3) rfl ?_
  intro T41 X41 e41
  show Go p e below s _ _ _ (T41.setTop (mkF m 6 #[.val (.ref x0), .val (.long x1), .second, .val (.long x2), .second, .unset] [(.int mk), (.int (x2.toInt32))]))
  refine g_iand X41 hx 7 (hb hby d5_6) rfl ?_
  show Go p e below s _ _ _ (T41.setTop (mkF m 7 #[.val (.ref x0), .val (.long x1), .second, .val (.long x2), .second, .unset] [(.int ((x2.toInt32) &&& mk))]))
  refine g_istore X41 hx #[.val (.ref x0), .val (.long x1), .second, .val (.long x2), .second, .val (.int ((x2.toInt32) &&& mk))] 9 (hb hby d5_7) rfl rfl ?_
  show Go p e below s _ _ _ (T41.setTop (mkF m 9 #[.val (.ref x0), .val (.long x1), .second, .val (.long x2), .second, .val (.int ((x2.toInt32) &&& mk))] []))
  exact sg5 l Z a0 hw hx hby hml hret hlk hown hnm hZ x0 x1 x2 a1 a2 mk nn hi lo h0 hmk hends 3 ((x2.toInt32) &&& mk) (own_start mk x2) _ X41 e41 P0 P1 P2 P3 P4 (own_sta hmk x2).1 (own_sta hmk x2).2 hends rfl
def Q6 (Z : State) (x0 : Addr) (x1 : Int64) (x2 : Int64) (a1 : Addr) (a2 : Addr) (mk : Int32) (nn : Nat) (hi : Nat → Int64) (lo : Nat → Int64) (sz : Int32) (cp : Int32) (h0 : Heap) (n0 : Nat) (v : Option Value) (h : Heap) (L : List Loc) : Prop := v = none ∧ Fr n0 L ∧ Keep h0 h [a1, a2, x0] ∧ Fld Z h x0 "com/example/itinerant_spider/itinerantspider/frontier/FingerprintTable" "capacity" "I" (.int cp) ∧ Fld Z h x0 "com/example/itinerant_spider/itinerantspider/frontier/FingerprintTable" "highs" "[J" (.ref a1) ∧ Fld Z h x0 "com/example/itinerant_spider/itinerantspider/frontier/FingerprintTable" "lows" "[J" (.ref a2) ∧ Fld Z h x0 "com/example/itinerant_spider/itinerantspider/frontier/FingerprintTable" "mask" "I" (.int mk) ∧ Fld Z h x0 "com/example/itinerant_spider/itinerantspider/frontier/FingerprintTable" "size" "I" (.int (sz + (1 : Int32))) ∧ AJ Z h a1 nn (upd hi (own_slot hi lo nn 3 (own_start mk x2)) x1) ∧ AJ Z h a2 nn (upd lo (own_slot hi lo nn 3 (own_start mk x2)) x2)
theorem d6_33 : decode prog_24_method_5_code 33 = .ok (.aload_n 0, 1) := by decide +kernel
theorem d6_34 : decode prog_24_method_5_code 34 = .ok (.getfield 29, 3) := by decide +kernel
theorem d6_37 : decode prog_24_method_5_code 37 = .ok (.iload 5, 2) := by decide +kernel
theorem d6_39 : decode prog_24_method_5_code 39 = .ok (.laload, 1) := by decide +kernel
theorem d6_40 : decode prog_24_method_5_code 40 = .ok (.lconst 0, 1) := by decide +kernel
theorem d6_41 : decode prog_24_method_5_code 41 = .ok (.lcmp, 1) := by decide +kernel
theorem d6_42 : decode prog_24_method_5_code 42 = .ok (.ifCond .ne 15, 3) := by decide +kernel
theorem d6_45 : decode prog_24_method_5_code 45 = .ok (.aload_n 0, 1) := by decide +kernel
theorem d6_46 : decode prog_24_method_5_code 46 = .ok (.getfield 33, 3) := by decide +kernel
theorem d6_49 : decode prog_24_method_5_code 49 = .ok (.iload 5, 2) := by decide +kernel
theorem d6_51 : decode prog_24_method_5_code 51 = .ok (.laload, 1) := by decide +kernel
theorem d6_52 : decode prog_24_method_5_code 52 = .ok (.lconst 0, 1) := by decide +kernel
theorem d6_53 : decode prog_24_method_5_code 53 = .ok (.lcmp, 1) := by decide +kernel
theorem d6_54 : decode prog_24_method_5_code 54 = .ok (.ifCond .eq 17, 3) := by decide +kernel
theorem d6_57 : decode prog_24_method_5_code 57 = .ok (.iload 5, 2) := by decide +kernel
theorem d6_59 : decode prog_24_method_5_code 59 = .ok (.iconst 1, 1) := by decide +kernel
theorem d6_60 : decode prog_24_method_5_code 60 = .ok (.iadd, 1) := by decide +kernel
theorem d6_61 : decode prog_24_method_5_code 61 = .ok (.aload_n 0, 1) := by decide +kernel
theorem d6_62 : decode prog_24_method_5_code 62 = .ok (.getfield 36, 3) := by decide +kernel
theorem d6_65 : decode prog_24_method_5_code 65 = .ok (.iand, 1) := by decide +kernel
theorem d6_66 : decode prog_24_method_5_code 66 = .ok (.istore 5, 2) := by decide +kernel
theorem d6_68 : decode prog_24_method_5_code 68 = .ok (.goto (-35), 3) := by decide +kernel
theorem d6_71 : decode prog_24_method_5_code 71 = .ok (.aload_n 0, 1) := by decide +kernel
theorem d6_72 : decode prog_24_method_5_code 72 = .ok (.getfield 29, 3) := by decide +kernel
theorem d6_75 : decode prog_24_method_5_code 75 = .ok (.iload 5, 2) := by decide +kernel
theorem d6_77 : decode prog_24_method_5_code 77 = .ok (.lload_n 1, 1) := by decide +kernel
theorem d6_78 : decode prog_24_method_5_code 78 = .ok (.lastore, 1) := by decide +kernel
theorem d6_79 : decode prog_24_method_5_code 79 = .ok (.aload_n 0, 1) := by decide +kernel
theorem d6_80 : decode prog_24_method_5_code 80 = .ok (.getfield 33, 3) := by decide +kernel
theorem d6_83 : decode prog_24_method_5_code 83 = .ok (.iload 5, 2) := by decide +kernel
theorem d6_85 : decode prog_24_method_5_code 85 = .ok (.lload_n 3, 1) := by decide +kernel
theorem d6_86 : decode prog_24_method_5_code 86 = .ok (.lastore, 1) := by decide +kernel
theorem d6_87 : decode prog_24_method_5_code 87 = .ok (.aload_n 0, 1) := by decide +kernel
theorem d6_88 : decode prog_24_method_5_code 88 = .ok (.dup, 1) := by decide +kernel
theorem d6_89 : decode prog_24_method_5_code 89 = .ok (.getfield 39, 3) := by decide +kernel
theorem d6_92 : decode prog_24_method_5_code 92 = .ok (.iconst 1, 1) := by decide +kernel
theorem d6_93 : decode prog_24_method_5_code 93 = .ok (.iadd, 1) := by decide +kernel
theorem d6_94 : decode prog_24_method_5_code 94 = .ok (.putfield 39, 3) := by decide +kernel
theorem d6_97 : decode prog_24_method_5_code 97 = .ok (.return_, 1) := by decide +kernel
set_option maxRecDepth 65536 in
set_option maxHeartbeats 40000000 in
theorem sg6 (l : Launch) (Z : State) (a0 : Array Value) (hw : ∀ d ∈ tables_1, d.before a0 Z = true) {p : Program} {e : Env} {s : State} {m : MethodId} {args : Array Value} {below : List Frame} {meth : Method} {c : Code} (hx : p.tables.exec = Jvm.exec) (hby : c.code = prog_24_method_5_code) (hml : c.maxLocals = 6) (hret : meth.sig.returnType = none) (hlk : meth.locks = false) (hown : s.vm.findClass "com/example/itinerant_spider/itinerantspider/frontier/FingerprintTable" = some m.cls) (hnm : meth.name = "add") (hZ : Z.Warmed39 s.vm) (x0 : Addr) (x1 : Int64) (x2 : Int64) (a1 : Addr) (a2 : Addr) (mk : Int32) (nn : Nat) (hi : Nat → Int64) (lo : Nat → Int64) (sz : Int32) (cp : Int32) (h0 : Heap) (n0 : Nat) (hmk : own_mk mk nn) (hends : own_ends hi lo nn 3 (own_start mk x2)) (hfull : ¬ sz = cp) : ∀ (k : Nat) (iv : Int32) (j : Nat) (T0 : State) (locs : List Loc) (hS : Heap), Stand p l e ({ frames := 1, cells := 0, slots := 0, locals := 13 } : Room) s m args below meth c T0 locs 0 0 → T0.heap = hS → n0 ≤ hS.size → Fr n0 locs → Keep h0 hS [a1, a2, x0] → Exa Z hS x0 "com/example/itinerant_spider/itinerantspider/frontier/FingerprintTable" → Fld Z hS x0 "com/example/itinerant_spider/itinerantspider/frontier/FingerprintTable" "capacity" "I" (.int cp) → Fld Z hS x0 "com/example/itinerant_spider/itinerantspider/frontier/FingerprintTable" "highs" "[J" (.ref a1) → Fld Z hS x0 "com/example/itinerant_spider/itinerantspider/frontier/FingerprintTable" "lows" "[J" (.ref a2) → Fld Z hS x0 "com/example/itinerant_spider/itinerantspider/frontier/FingerprintTable" "mask" "I" (.int mk) → Fld Z hS x0 "com/example/itinerant_spider/itinerantspider/frontier/FingerprintTable" "size" "I" (.int sz) → AJ Z hS a1 nn hi → AJ Z hS a2 nn lo → n0 ≤ x0 → n0 ≤ a1 → n0 ≤ a2 → x0 ≠ a1 → x0 ≠ a2 → a1 ≠ a2 → (iv.toInt = j) → (j < nn) → (own_ends hi lo nn k j) → (own_slot hi lo nn k j = (own_slot hi lo nn 3 (own_start mk x2))) → Go p e below s (Q6 Z x0 x1 x2 a1 a2 mk nn hi lo sz cp h0 n0) ({ frames := 1, cells := 0, slots := 0, locals := 13 } : Room).cells ({ frames := 1, cells := 0, slots := 0, locals := 13 } : Room).slots (T0.setTop (mkF m 33 #[.val (.ref x0), .val (.long x1), .second, .val (.long x2), .second, .val (.int iv)] [])) := by
  intro k
  induction k with
  | zero =>
    intro iv j T0 locs hS X0 e0 Z0 N0 K0 P0 P1 P2 P3 P4 P5 P6 P7 P8 P9 P10 P11 P12 P13 hj hlt hen hv
    refine g_aloadN X0 hx 34 (hb hby d6_33) rfl rfl rfl ?_
    show Go p e below s _ _ _ (T0.setTop (mkF m 34 #[.val (.ref x0), .val (.long x1), .second, .val (.long x2), .second, .val (.int iv)] [(.ref x0)]))
    refine g_getF X0 hx hZ hown (hw _ (List.mem_of_getElem? (i := 25) rfl)) Via.refl e0 P2 37 (hb hby d6_34) rfl ?_
    intro T1 X1 e1
    show Go p e below s _ _ _ (T1.setTop (mkF m 37 #[.val (.ref x0), .val (.long x1), .second, .val (.long x2), .second, .val (.int iv)] [(.ref a1)]))
    refine g_iload X1 hx 39 (hb hby d6_37) rfl rfl ?_
    show Go p e below s _ _ _ (T1.setTop (mkF m 39 #[.val (.ref x0), .val (.long x1), .second, .val (.long x2), .second, .val (.int iv)] [(.int iv), (.ref a1)]))
    refine g_laload X1 hx hZ e1 P6 j hj hlt 40 (hb hby d6_39) rfl ?_
    show Go p e below s _ _ _ (T1.setTop (mkF m 40 #[.val (.ref x0), .val (.long x1), .second, .val (.long x2), .second, .val (.int iv)] [(.long (hi j))]))
    refine g_lconst X1 hx (0 : Int64) 41 (hb hby d6_40) rfl rfl ?_
    show Go p e below s _ _ _ (T1.setTop (mkF m 41 #[.val (.ref x0), .val (.long x1), .second, .val (.long x2), .second, .val (.int iv)] [(.long (0 : Int64)), (.long (hi j))]))
    refine g_lcmp X1 hx 42 (hb hby d6_41) rfl ?_
    show Go p e below s _ _ _ (T1.setTop (mkF m 42 #[.val (.ref x0), .val (.long x1), .second, .val (.long x2), .second, .val (.int iv)] [(.int (lcmpW (hi j) (0 : Int64)))]))
    have h3 : (hi j) = (0 : Int64) := hen.1
    refine g_lc_ne X1 hx 57 45 (hb hby d6_42) (by decide) rfl rfl (fun _ => ?_) (fun q => absurd h3 q)
    show Go p e below s _ _ _ (T1.setTop (mkF m 45 #[.val (.ref x0), .val (.long x1), .second, .val (.long x2), .second, .val (.int iv)] []))
    refine g_aloadN X1 hx 46 (hb hby d6_45) rfl rfl rfl ?_
    show Go p e below s _ _ _ (T1.setTop (mkF m 46 #[.val (.ref x0), .val (.long x1), .second, .val (.long x2), .second, .val (.int iv)] [(.ref x0)]))
    refine g_getF X1 hx hZ hown (hw _ (List.mem_of_getElem? (i := 27) rfl)) Via.refl e1 P3 49 (hb hby d6_46) rfl ?_
    intro T4 X4 e4
    show Go p e below s _ _ _ (T4.setTop (mkF m 49 #[.val (.ref x0), .val (.long x1), .second, .val (.long x2), .second, .val (.int iv)] [(.ref a2)]))
    refine g_iload X4 hx 51 (hb hby d6_49) rfl rfl ?_
    show Go p e below s _ _ _ (T4.setTop (mkF m 51 #[.val (.ref x0), .val (.long x1), .second, .val (.long x2), .second, .val (.int iv)] [(.int iv), (.ref a2)]))
    refine g_laload X4 hx hZ e4 P7 j hj hlt 52 (hb hby d6_51) rfl ?_
    show Go p e below s _ _ _ (T4.setTop (mkF m 52 #[.val (.ref x0), .val (.long x1), .second, .val (.long x2), .second, .val (.int iv)] [(.long (lo j))]))
    refine g_lconst X4 hx (0 : Int64) 53 (hb hby d6_52) rfl rfl ?_
    show Go p e below s _ _ _ (T4.setTop (mkF m 53 #[.val (.ref x0), .val (.long x1), .second, .val (.long x2), .second, .val (.int iv)] [(.long (0 : Int64)), (.long (lo j))]))
    refine g_lcmp X4 hx 54 (hb hby d6_53) rfl ?_
    show Go p e below s _ _ _ (T4.setTop (mkF m 54 #[.val (.ref x0), .val (.long x1), .second, .val (.long x2), .second, .val (.int iv)] [(.int (lcmpW (lo j) (0 : Int64)))]))
    have h6 : (lo j) = (0 : Int64) := hen.2
    refine g_lc_eq X4 hx 71 57 (hb hby d6_54) (by decide) rfl rfl (fun _ => ?_) (fun q => absurd h6 q)
    show Go p e below s _ _ _ (T4.setTop (mkF m 71 #[.val (.ref x0), .val (.long x1), .second, .val (.long x2), .second, .val (.int iv)] []))
    refine g_aloadN X4 hx 72 (hb hby d6_71) rfl rfl rfl ?_
    show Go p e below s _ _ _ (T4.setTop (mkF m 72 #[.val (.ref x0), .val (.long x1), .second, .val (.long x2), .second, .val (.int iv)] [(.ref x0)]))
    refine g_getF X4 hx hZ hown (hw _ (List.mem_of_getElem? (i := 25) rfl)) Via.refl e4 P2 75 (hb hby d6_72) rfl ?_
    intro T7 X7 e7
    show Go p e below s _ _ _ (T7.setTop (mkF m 75 #[.val (.ref x0), .val (.long x1), .second, .val (.long x2), .second, .val (.int iv)] [(.ref a1)]))
    refine g_iload X7 hx 77 (hb hby d6_75) rfl rfl ?_
    show Go p e below s _ _ _ (T7.setTop (mkF m 77 #[.val (.ref x0), .val (.long x1), .second, .val (.long x2), .second, .val (.int iv)] [(.int iv), (.ref a1)]))
    refine g_lloadN X7 hx 78 (hb hby d6_77) rfl rfl ?_
    show Go p e below s _ _ _ (T7.setTop (mkF m 78 #[.val (.ref x0), .val (.long x1), .second, .val (.long x2), .second, .val (.int iv)] [(.long x1), (.int iv), (.ref a1)]))
    refine g_lastore X7 hx hZ e7 P6 j hj hlt 79 (hb hby d6_78) rfl ?_
    intro T8 h8 X8 e8 W8 A8
    have K8 := K0.wr W8 (Or.inl (List.mem_of_getElem? (i := 0) rfl))
    have N8 := Fr.snoc X8 N0 P9
    have k8_0 := P0.wr W8
    have k8_1 := P1.other W8 (Or.inl P11)
    have k8_2 := P2.other W8 (Or.inl P11)
    have k8_3 := P3.other W8 (Or.inl P11)
    have k8_4 := P4.other W8 (Or.inl P11)
    have k8_5 := P5.other W8 (Or.inl P11)
    have k8_7 := P7.other W8 (Ne.symm P13)
    have Z8 : n0 ≤ h8.size := by rw [W8.size]; exact Z0
    show Go p e below s _ _ _ (T8.setTop (mkF m 79 #[.val (.ref x0), .val (.long x1), .second, .val (.long x2), .second, .val (.int iv)] []))
    refine g_aloadN X8 hx 80 (hb hby d6_79) rfl rfl rfl ?_
    show Go p e below s _ _ _ (T8.setTop (mkF m 80 #[.val (.ref x0), .val (.long x1), .second, .val (.long x2), .second, .val (.int iv)] [(.ref x0)]))
    refine g_getF X8 hx hZ hown (hw _ (List.mem_of_getElem? (i := 27) rfl)) Via.refl e8 k8_3 83 (hb hby d6_80) rfl ?_
    intro T9 X9 e9
    show Go p e below s _ _ _ (T9.setTop (mkF m 83 #[.val (.ref x0), .val (.long x1), .second, .val (.long x2), .second, .val (.int iv)] [(.ref a2)]))
    refine g_iload X9 hx 85 (hb hby d6_83) rfl rfl ?_
    show Go p e below s _ _ _ (T9.setTop (mkF m 85 #[.val (.ref x0), .val (.long x1), .second, .val (.long x2), .second, .val (.int iv)] [(.int iv), (.ref a2)]))
    refine g_lloadN X9 hx 86 (hb hby d6_85) rfl rfl ?_
    show Go p e below s _ _ _ (T9.setTop (mkF m 86 #[.val (.ref x0), .val (.long x1), .second, .val (.long x2), .second, .val (.int iv)] [(.long x2), (.int iv), (.ref a2)]))
    refine g_lastore X9 hx hZ e9 k8_7 j hj hlt 87 (hb hby d6_86) rfl ?_
    intro T10 h10 X10 e10 W10 A10
    have K10 := K8.wr W10 (Or.inl (List.mem_of_getElem? (i := 1) rfl))
    have N10 := Fr.snoc X10 N8 P10
    have k10_0 := k8_0.wr W10
    have k10_1 := k8_1.other W10 (Or.inl P12)
    have k10_2 := k8_2.other W10 (Or.inl P12)
    have k10_3 := k8_3.other W10 (Or.inl P12)
    have k10_4 := k8_4.other W10 (Or.inl P12)
    have k10_5 := k8_5.other W10 (Or.inl P12)
    have k10_13 := A8.other W10 P13
    have Z10 : n0 ≤ h10.size := by rw [W10.size]; exact Z8
    show Go p e below s _ _ _ (T10.setTop (mkF m 87 #[.val (.ref x0), .val (.long x1), .second, .val (.long x2), .second, .val (.int iv)] []))
    refine g_aloadN X10 hx 88 (hb hby d6_87) rfl rfl rfl ?_
    show Go p e below s _ _ _ (T10.setTop (mkF m 88 #[.val (.ref x0), .val (.long x1), .second, .val (.long x2), .second, .val (.int iv)] [(.ref x0)]))
    refine g_dup X10 hx 89 (hb hby d6_88) rfl rfl ?_
    show Go p e below s _ _ _ (T10.setTop (mkF m 89 #[.val (.ref x0), .val (.long x1), .second, .val (.long x2), .second, .val (.int iv)] [(.ref x0), (.ref x0)]))
    refine g_getF X10 hx hZ hown (hw _ (List.mem_of_getElem? (i := 48) rfl)) Via.refl e10 k10_5 92 (hb hby d6_89) rfl ?_
    intro T11 X11 e11
    show Go p e below s _ _ _ (T11.setTop (mkF m 92 #[.val (.ref x0), .val (.long x1), .second, .val (.long x2), .second, .val (.int iv)] [(.int sz), (.ref x0)]))
    refine g_iconst X11 hx (1 : Int32) 93 (hb hby d6_92) rfl rfl ?_
    show Go p e below s _ _ _ (T11.setTop (mkF m 93 #[.val (.ref x0), .val (.long x1), .second, .val (.long x2), .second, .val (.int iv)] [(.int (1 : Int32)), (.int sz), (.ref x0)]))
    refine g_iadd X11 hx 94 (hb hby d6_93) rfl ?_
    show Go p e below s _ _ _ (T11.setTop (mkF m 94 #[.val (.ref x0), .val (.long x1), .second, .val (.long x2), .second, .val (.int iv)] [(.int (sz + (1 : Int32))), (.ref x0)]))
    refine g_putF X11 hx hZ hown (hw _ (List.mem_of_getElem? (i := 48) rfl)) Via.refl e11 k10_5 k10_0 (Or.inl (hw _ (List.mem_of_getElem? (i := 49) rfl))) (hw _ (List.mem_of_getElem? (i := 6) rfl)) (ty := .int) (by decide) rfl rfl 97 (hb hby d6_94) rfl ?_
    intro T12 h12 X12 e12 W12
    have K12 := K10.wr W12 (Or.inl (List.mem_of_getElem? (i := 2) rfl))
    have N12 := Fr.snoc X12 N10 P8
    have k12_0 := k10_0.wr W12
    have k12_1 := k10_1.other W12 (Or.inr (slot_ne (Or.inr (hw _ (List.mem_of_getElem? (i := 23) rfl))) (Or.inl (hw _ (List.mem_of_getElem? (i := 49) rfl))) (by decide) (t := .int) (t' := .int) (by decide) (by decide)))
    have k12_2 := k10_2.other W12 (Or.inr (slot_ne (Or.inr (hw _ (List.mem_of_getElem? (i := 26) rfl))) (Or.inl (hw _ (List.mem_of_getElem? (i := 49) rfl))) (by decide) (t := (.array .long)) (t' := .int) (by decide) (by decide)))
    have k12_3 := k10_3.other W12 (Or.inr (slot_ne (Or.inr (hw _ (List.mem_of_getElem? (i := 28) rfl))) (Or.inl (hw _ (List.mem_of_getElem? (i := 49) rfl))) (by decide) (t := (.array .long)) (t' := .int) (by decide) (by decide)))
    have k12_4 := k10_4.other W12 (Or.inr (slot_ne (Or.inr (hw _ (List.mem_of_getElem? (i := 30) rfl))) (Or.inl (hw _ (List.mem_of_getElem? (i := 49) rfl))) (by decide) (t := .int) (t' := .int) (by decide) (by decide)))
    have k12_12 := k10_13.other W12 (Ne.symm P11)
    have k12_13 := A10.other W12 (Ne.symm P12)
    have Z12 : n0 ≤ h12.size := by rw [W12.size]; exact Z10
    have F12 := k10_5.same W12
    show Go p e below s _ _ _ (T12.setTop (mkF m 97 #[.val (.ref x0), .val (.long x1), .second, .val (.long x2), .second, .val (.int iv)] []))
    exact g_retV X12 hx hret hlk (hb hby d6_97) (by decide) (by decide) (by rw [e12]; exact ⟨rfl, N12, K12, k12_1, k12_2, k12_3, k12_4, F12, (by rw [← hv, own_slot]; exact k12_12), (by rw [← hv, own_slot]; exact k12_13)⟩)
  | succ k ih =>
    intro iv j T0 locs hS X0 e0 Z0 N0 K0 P0 P1 P2 P3 P4 P5 P6 P7 P8 P9 P10 P11 P12 P13 hj hlt hen hv
    refine g_aloadN X0 hx 34 (hb hby d6_33) rfl rfl rfl ?_
    show Go p e below s _ _ _ (T0.setTop (mkF m 34 #[.val (.ref x0), .val (.long x1), .second, .val (.long x2), .second, .val (.int iv)] [(.ref x0)]))
    refine g_getF X0 hx hZ hown (hw _ (List.mem_of_getElem? (i := 25) rfl)) Via.refl e0 P2 37 (hb hby d6_34) rfl ?_
    intro T13 X13 e13
    show Go p e below s _ _ _ (T13.setTop (mkF m 37 #[.val (.ref x0), .val (.long x1), .second, .val (.long x2), .second, .val (.int iv)] [(.ref a1)]))
    refine g_iload X13 hx 39 (hb hby d6_37) rfl rfl ?_
    show Go p e below s _ _ _ (T13.setTop (mkF m 39 #[.val (.ref x0), .val (.long x1), .second, .val (.long x2), .second, .val (.int iv)] [(.int iv), (.ref a1)]))
    refine g_laload X13 hx hZ e13 P6 j hj hlt 40 (hb hby d6_39) rfl ?_
    show Go p e below s _ _ _ (T13.setTop (mkF m 40 #[.val (.ref x0), .val (.long x1), .second, .val (.long x2), .second, .val (.int iv)] [(.long (hi j))]))
    refine g_lconst X13 hx (0 : Int64) 41 (hb hby d6_40) rfl rfl ?_
    show Go p e below s _ _ _ (T13.setTop (mkF m 41 #[.val (.ref x0), .val (.long x1), .second, .val (.long x2), .second, .val (.int iv)] [(.long (0 : Int64)), (.long (hi j))]))
    refine g_lcmp X13 hx 42 (hb hby d6_41) rfl ?_
    show Go p e below s _ _ _ (T13.setTop (mkF m 42 #[.val (.ref x0), .val (.long x1), .second, .val (.long x2), .second, .val (.int iv)] [(.int (lcmpW (hi j) (0 : Int64)))]))
    refine g_lc_ne X13 hx 57 45 (hb hby d6_42) (by decide) rfl rfl (fun h15 => ?_) (fun h15 => ?_)
    · show Go p e below s _ _ _ (T13.setTop (mkF m 45 #[.val (.ref x0), .val (.long x1), .second, .val (.long x2), .second, .val (.int iv)] []))
      refine g_aloadN X13 hx 46 (hb hby d6_45) rfl rfl rfl ?_
      show Go p e below s _ _ _ (T13.setTop (mkF m 46 #[.val (.ref x0), .val (.long x1), .second, .val (.long x2), .second, .val (.int iv)] [(.ref x0)]))
      refine g_getF X13 hx hZ hown (hw _ (List.mem_of_getElem? (i := 27) rfl)) Via.refl e13 P3 49 (hb hby d6_46) rfl ?_
      intro T16 X16 e16
      show Go p e below s _ _ _ (T16.setTop (mkF m 49 #[.val (.ref x0), .val (.long x1), .second, .val (.long x2), .second, .val (.int iv)] [(.ref a2)]))
      refine g_iload X16 hx 51 (hb hby d6_49) rfl rfl ?_
      show Go p e below s _ _ _ (T16.setTop (mkF m 51 #[.val (.ref x0), .val (.long x1), .second, .val (.long x2), .second, .val (.int iv)] [(.int iv), (.ref a2)]))
      refine g_laload X16 hx hZ e16 P7 j hj hlt 52 (hb hby d6_51) rfl ?_
      show Go p e below s _ _ _ (T16.setTop (mkF m 52 #[.val (.ref x0), .val (.long x1), .second, .val (.long x2), .second, .val (.int iv)] [(.long (lo j))]))
      refine g_lconst X16 hx (0 : Int64) 53 (hb hby d6_52) rfl rfl ?_
      show Go p e below s _ _ _ (T16.setTop (mkF m 53 #[.val (.ref x0), .val (.long x1), .second, .val (.long x2), .second, .val (.int iv)] [(.long (0 : Int64)), (.long (lo j))]))
      refine g_lcmp X16 hx 54 (hb hby d6_53) rfl ?_
      show Go p e below s _ _ _ (T16.setTop (mkF m 54 #[.val (.ref x0), .val (.long x1), .second, .val (.long x2), .second, .val (.int iv)] [(.int (lcmpW (lo j) (0 : Int64)))]))
      refine g_lc_eq X16 hx 71 57 (hb hby d6_54) (by decide) rfl rfl (fun h18 => ?_) (fun h18 => ?_)
      · show Go p e below s _ _ _ (T16.setTop (mkF m 71 #[.val (.ref x0), .val (.long x1), .second, .val (.long x2), .second, .val (.int iv)] []))
        refine g_aloadN X16 hx 72 (hb hby d6_71) rfl rfl rfl ?_
        show Go p e below s _ _ _ (T16.setTop (mkF m 72 #[.val (.ref x0), .val (.long x1), .second, .val (.long x2), .second, .val (.int iv)] [(.ref x0)]))
        refine g_getF X16 hx hZ hown (hw _ (List.mem_of_getElem? (i := 25) rfl)) Via.refl e16 P2 75 (hb hby d6_72) rfl ?_
        intro T19 X19 e19
        show Go p e below s _ _ _ (T19.setTop (mkF m 75 #[.val (.ref x0), .val (.long x1), .second, .val (.long x2), .second, .val (.int iv)] [(.ref a1)]))
        refine g_iload X19 hx 77 (hb hby d6_75) rfl rfl ?_
        show Go p e below s _ _ _ (T19.setTop (mkF m 77 #[.val (.ref x0), .val (.long x1), .second, .val (.long x2), .second, .val (.int iv)] [(.int iv), (.ref a1)]))
        refine g_lloadN X19 hx 78 (hb hby d6_77) rfl rfl ?_
        show Go p e below s _ _ _ (T19.setTop (mkF m 78 #[.val (.ref x0), .val (.long x1), .second, .val (.long x2), .second, .val (.int iv)] [(.long x1), (.int iv), (.ref a1)]))
        refine g_lastore X19 hx hZ e19 P6 j hj hlt 79 (hb hby d6_78) rfl ?_
        intro T20 h20 X20 e20 W20 A20
        have K20 := K0.wr W20 (Or.inl (List.mem_of_getElem? (i := 0) rfl))
        have N20 := Fr.snoc X20 N0 P9
        have k20_0 := P0.wr W20
        have k20_1 := P1.other W20 (Or.inl P11)
        have k20_2 := P2.other W20 (Or.inl P11)
        have k20_3 := P3.other W20 (Or.inl P11)
        have k20_4 := P4.other W20 (Or.inl P11)
        have k20_5 := P5.other W20 (Or.inl P11)
        have k20_7 := P7.other W20 (Ne.symm P13)
        have Z20 : n0 ≤ h20.size := by rw [W20.size]; exact Z0
        show Go p e below s _ _ _ (T20.setTop (mkF m 79 #[.val (.ref x0), .val (.long x1), .second, .val (.long x2), .second, .val (.int iv)] []))
        refine g_aloadN X20 hx 80 (hb hby d6_79) rfl rfl rfl ?_
        show Go p e below s _ _ _ (T20.setTop (mkF m 80 #[.val (.ref x0), .val (.long x1), .second, .val (.long x2), .second, .val (.int iv)] [(.ref x0)]))
        refine g_getF X20 hx hZ hown (hw _ (List.mem_of_getElem? (i := 27) rfl)) Via.refl e20 k20_3 83 (hb hby d6_80) rfl ?_
        intro T21 X21 e21
        show Go p e below s _ _ _ (T21.setTop (mkF m 83 #[.val (.ref x0), .val (.long x1), .second, .val (.long x2), .second, .val (.int iv)] [(.ref a2)]))
        refine g_iload X21 hx 85 (hb hby d6_83) rfl rfl ?_
        show Go p e below s _ _ _ (T21.setTop (mkF m 85 #[.val (.ref x0), .val (.long x1), .second, .val (.long x2), .second, .val (.int iv)] [(.int iv), (.ref a2)]))
        refine g_lloadN X21 hx 86 (hb hby d6_85) rfl rfl ?_
        show Go p e below s _ _ _ (T21.setTop (mkF m 86 #[.val (.ref x0), .val (.long x1), .second, .val (.long x2), .second, .val (.int iv)] [(.long x2), (.int iv), (.ref a2)]))
        refine g_lastore X21 hx hZ e21 k20_7 j hj hlt 87 (hb hby d6_86) rfl ?_
        intro T22 h22 X22 e22 W22 A22
        have K22 := K20.wr W22 (Or.inl (List.mem_of_getElem? (i := 1) rfl))
        have N22 := Fr.snoc X22 N20 P10
        have k22_0 := k20_0.wr W22
        have k22_1 := k20_1.other W22 (Or.inl P12)
        have k22_2 := k20_2.other W22 (Or.inl P12)
        have k22_3 := k20_3.other W22 (Or.inl P12)
        have k22_4 := k20_4.other W22 (Or.inl P12)
        have k22_5 := k20_5.other W22 (Or.inl P12)
        have k22_13 := A20.other W22 P13
        have Z22 : n0 ≤ h22.size := by rw [W22.size]; exact Z20
        show Go p e below s _ _ _ (T22.setTop (mkF m 87 #[.val (.ref x0), .val (.long x1), .second, .val (.long x2), .second, .val (.int iv)] []))
        refine g_aloadN X22 hx 88 (hb hby d6_87) rfl rfl rfl ?_
        show Go p e below s _ _ _ (T22.setTop (mkF m 88 #[.val (.ref x0), .val (.long x1), .second, .val (.long x2), .second, .val (.int iv)] [(.ref x0)]))
        refine g_dup X22 hx 89 (hb hby d6_88) rfl rfl ?_
        show Go p e below s _ _ _ (T22.setTop (mkF m 89 #[.val (.ref x0), .val (.long x1), .second, .val (.long x2), .second, .val (.int iv)] [(.ref x0), (.ref x0)]))
        refine g_getF X22 hx hZ hown (hw _ (List.mem_of_getElem? (i := 48) rfl)) Via.refl e22 k22_5 92 (hb hby d6_89) rfl ?_
        intro T23 X23 e23
        show Go p e below s _ _ _ (T23.setTop (mkF m 92 #[.val (.ref x0), .val (.long x1), .second, .val (.long x2), .second, .val (.int iv)] [(.int sz), (.ref x0)]))
        refine g_iconst X23 hx (1 : Int32) 93 (hb hby d6_92) rfl rfl ?_
        show Go p e below s _ _ _ (T23.setTop (mkF m 93 #[.val (.ref x0), .val (.long x1), .second, .val (.long x2), .second, .val (.int iv)] [(.int (1 : Int32)), (.int sz), (.ref x0)]))
        refine g_iadd X23 hx 94 (hb hby d6_93) rfl ?_
        show Go p e below s _ _ _ (T23.setTop (mkF m 94 #[.val (.ref x0), .val (.long x1), .second, .val (.long x2), .second, .val (.int iv)] [(.int (sz + (1 : Int32))), (.ref x0)]))
        refine g_putF X23 hx hZ hown (hw _ (List.mem_of_getElem? (i := 48) rfl)) Via.refl e23 k22_5 k22_0 (Or.inl (hw _ (List.mem_of_getElem? (i := 49) rfl))) (hw _ (List.mem_of_getElem? (i := 6) rfl)) (ty := .int) (by decide) rfl rfl 97 (hb hby d6_94) rfl ?_
        intro T24 h24 X24 e24 W24
        have K24 := K22.wr W24 (Or.inl (List.mem_of_getElem? (i := 2) rfl))
        have N24 := Fr.snoc X24 N22 P8
        have k24_0 := k22_0.wr W24
        have k24_1 := k22_1.other W24 (Or.inr (slot_ne (Or.inr (hw _ (List.mem_of_getElem? (i := 23) rfl))) (Or.inl (hw _ (List.mem_of_getElem? (i := 49) rfl))) (by decide) (t := .int) (t' := .int) (by decide) (by decide)))
        have k24_2 := k22_2.other W24 (Or.inr (slot_ne (Or.inr (hw _ (List.mem_of_getElem? (i := 26) rfl))) (Or.inl (hw _ (List.mem_of_getElem? (i := 49) rfl))) (by decide) (t := (.array .long)) (t' := .int) (by decide) (by decide)))
        have k24_3 := k22_3.other W24 (Or.inr (slot_ne (Or.inr (hw _ (List.mem_of_getElem? (i := 28) rfl))) (Or.inl (hw _ (List.mem_of_getElem? (i := 49) rfl))) (by decide) (t := (.array .long)) (t' := .int) (by decide) (by decide)))
        have k24_4 := k22_4.other W24 (Or.inr (slot_ne (Or.inr (hw _ (List.mem_of_getElem? (i := 30) rfl))) (Or.inl (hw _ (List.mem_of_getElem? (i := 49) rfl))) (by decide) (t := .int) (t' := .int) (by decide) (by decide)))
        have k24_12 := k22_13.other W24 (Ne.symm P11)
        have k24_13 := A22.other W24 (Ne.symm P12)
        have Z24 : n0 ≤ h24.size := by rw [W24.size]; exact Z22
        have F24 := k22_5.same W24
        show Go p e below s _ _ _ (T24.setTop (mkF m 97 #[.val (.ref x0), .val (.long x1), .second, .val (.long x2), .second, .val (.int iv)] []))
        exact g_retV X24 hx hret hlk (hb hby d6_97) (by decide) (by decide) (by rw [e24]; exact ⟨rfl, N24, K24, k24_1, k24_2, k24_3, k24_4, F24, (by rw [← hv, own_slot, if_pos ⟨h15, h18⟩]; exact k24_12), (by rw [← hv, own_slot, if_pos ⟨h15, h18⟩]; exact k24_13)⟩)
      · show Go p e below s _ _ _ (T16.setTop (mkF m 57 #[.val (.ref x0), .val (.long x1), .second, .val (.long x2), .second, .val (.int iv)] []))
        refine g_iload X16 hx 59 (hb hby d6_57) rfl rfl ?_
        show Go p e below s _ _ _ (T16.setTop (mkF m 59 #[.val (.ref x0), .val (.long x1), .second, .val (.long x2), .second, .val (.int iv)] [(.int iv)]))
        refine g_iconst X16 hx (1 : Int32) 60 (hb hby d6_59) rfl rfl ?_
        show Go p e below s _ _ _ (T16.setTop (mkF m 60 #[.val (.ref x0), .val (.long x1), .second, .val (.long x2), .second, .val (.int iv)] [(.int (1 : Int32)), (.int iv)]))
        refine g_iadd X16 hx 61 (hb hby d6_60) rfl ?_
        show Go p e below s _ _ _ (T16.setTop (mkF m 61 #[.val (.ref x0), .val (.long x1), .second, .val (.long x2), .second, .val (.int iv)] [(.int (iv + (1 : Int32)))]))
        refine g_aloadN X16 hx 62 (hb hby d6_61) rfl rfl rfl ?_
        show Go p e below s _ _ _ (T16.setTop (mkF m 62 #[.val (.ref x0), .val (.long x1), .second, .val (.long x2), .second, .val (.int iv)] [(.ref x0), (.int (iv + (1 : Int32)))]))
        refine g_getF X16 hx hZ hown (hw _ (List.mem_of_getElem? (i := 29) rfl)) Via.refl e16 P4 65 (hb hby d6_62) rfl ?_
        intro T25 X25 e25
        show Go p e below s _ _ _ (T25.setTop (mkF m 65 #[.val (.ref x0), .val (.long x1), .second, .val (.long x2), .second, .val (.int iv)] [(.int mk), (.int (iv + (1 : Int32)))]))
        refine g_iand X25 hx 66 (hb hby d6_65) rfl ?_
        show Go p e below s _ _ _ (T25.setTop (mkF m 66 #[.val (.ref x0), .val (.long x1), .second, .val (.long x2), .second, .val (.int iv)] [(.int ((iv + (1 : Int32)) &&& mk))]))
        refine g_istore X25 hx #[.val (.ref x0), .val (.long x1), .second, .val (.long x2), .second, .val (.int ((iv + (1 : Int32)) &&& mk))] 68 (hb hby d6_66) rfl rfl ?_
        show Go p e below s _ _ _ (T25.setTop (mkF m 68 #[.val (.ref x0), .val (.long x1), .second, .val (.long x2), .second, .val (.int ((iv + (1 : Int32)) &&& mk))] []))
        refine g_goto X25 hx 33 (hb hby d6_68) (by decide) rfl ?_
        show Go p e below s _ _ _ (T25.setTop (mkF m 33 #[.val (.ref x0), .val (.long x1), .second, .val (.long x2), .second, .val (.int ((iv + (1 : Int32)) &&& mk))] []))
        exact ih ((iv + (1 : Int32)) &&& mk) (own_nx nn j) _ _ _ X25 e25 Z0 N0 K0 P0 P1 P2 P3 P4 P5 P6 P7 P8 P9 P10 P11 P12 P13 (own_next hmk hj hlt).1 (own_next hmk hj hlt).2 (own_e1 hen (fun q => h18 q.2)) (own_ss hv (fun q => h18 q.2))
    · show Go p e below s _ _ _ (T13.setTop (mkF m 57 #[.val (.ref x0), .val (.long x1), .second, .val (.long x2), .second, .val (.int iv)] []))
      refine g_iload X13 hx 59 (hb hby d6_57) rfl rfl ?_
      show Go p e below s _ _ _ (T13.setTop (mkF m 59 #[.val (.ref x0), .val (.long x1), .second, .val (.long x2), .second, .val (.int iv)] [(.int iv)]))
      refine g_iconst X13 hx (1 : Int32) 60 (hb hby d6_59) rfl rfl ?_
      show Go p e below s _ _ _ (T13.setTop (mkF m 60 #[.val (.ref x0), .val (.long x1), .second, .val (.long x2), .second, .val (.int iv)] [(.int (1 : Int32)), (.int iv)]))
      refine g_iadd X13 hx 61 (hb hby d6_60) rfl ?_
      show Go p e below s _ _ _ (T13.setTop (mkF m 61 #[.val (.ref x0), .val (.long x1), .second, .val (.long x2), .second, .val (.int iv)] [(.int (iv + (1 : Int32)))]))
      refine g_aloadN X13 hx 62 (hb hby d6_61) rfl rfl rfl ?_
      show Go p e below s _ _ _ (T13.setTop (mkF m 62 #[.val (.ref x0), .val (.long x1), .second, .val (.long x2), .second, .val (.int iv)] [(.ref x0), (.int (iv + (1 : Int32)))]))
      refine g_getF X13 hx hZ hown (hw _ (List.mem_of_getElem? (i := 29) rfl)) Via.refl e13 P4 65 (hb hby d6_62) rfl ?_
      intro T26 X26 e26
      show Go p e below s _ _ _ (T26.setTop (mkF m 65 #[.val (.ref x0), .val (.long x1), .second, .val (.long x2), .second, .val (.int iv)] [(.int mk), (.int (iv + (1 : Int32)))]))
      refine g_iand X26 hx 66 (hb hby d6_65) rfl ?_
      show Go p e below s _ _ _ (T26.setTop (mkF m 66 #[.val (.ref x0), .val (.long x1), .second, .val (.long x2), .second, .val (.int iv)] [(.int ((iv + (1 : Int32)) &&& mk))]))
      refine g_istore X26 hx #[.val (.ref x0), .val (.long x1), .second, .val (.long x2), .second, .val (.int ((iv + (1 : Int32)) &&& mk))] 68 (hb hby d6_66) rfl rfl ?_
      show Go p e below s _ _ _ (T26.setTop (mkF m 68 #[.val (.ref x0), .val (.long x1), .second, .val (.long x2), .second, .val (.int ((iv + (1 : Int32)) &&& mk))] []))
      refine g_goto X26 hx 33 (hb hby d6_68) (by decide) rfl ?_
      show Go p e below s _ _ _ (T26.setTop (mkF m 33 #[.val (.ref x0), .val (.long x1), .second, .val (.long x2), .second, .val (.int ((iv + (1 : Int32)) &&& mk))] []))
      exact ih ((iv + (1 : Int32)) &&& mk) (own_nx nn j) _ _ _ X26 e26 Z0 N0 K0 P0 P1 P2 P3 P4 P5 P6 P7 P8 P9 P10 P11 P12 P13 (own_next hmk hj hlt).1 (own_next hmk hj hlt).2 (own_e1 hen (fun q => h15 q.1)) (own_ss hv (fun q => h15 q.1))
theorem pd__28_29Z : parseMethodDescriptor "()Z" = some ⟨[], some .boolean⟩ := by decide +kernel
theorem d6_0 : decode prog_24_method_5_code 0 = .ok (.aload_n 0, 1) := by decide +kernel
theorem d6_1 : decode prog_24_method_5_code 1 = .ok (.invokevirtual 42, 3) := by decide +kernel
theorem d6_4 : decode prog_24_method_5_code 4 = .ok (.ifCond .eq 20, 3) := by decide +kernel
theorem d6_24 : decode prog_24_method_5_code 24 = .ok (.lload_n 3, 1) := by decide +kernel
theorem d6_25 : decode prog_24_method_5_code 25 = .ok (.l2i, 1) := by decide +kernel
theorem d6_26 : decode prog_24_method_5_code 26 = .ok (.aload_n 0, 1) := by decide +kernel
theorem d6_27 : decode prog_24_method_5_code 27 = .ok (.getfield 36, 3) := by decide +kernel
theorem d6_30 : decode prog_24_method_5_code 30 = .ok (.iand, 1) := by decide +kernel
theorem d6_31 : decode prog_24_method_5_code 31 = .ok (.istore 5, 2) := by decide +kernel
theorem ef_6 (m : MethodId) (x0 : Addr) (x1 : Int64) (x2 : Int64) : entryFrame m #[(.ref x0), (.long x1), (.long x2)] 6 = mkF m 0 #[.val (.ref x0), .val (.long x1), .second, .val (.long x2), .second, .unset] [] := by first | (simp [entryFrame, mkF, argsToLocals, Value.category]; done) | rfl
set_option maxRecDepth 65536 in
set_option maxHeartbeats 40000000 in
theorem rm6 (l : Launch) (Z : State) (a0 : Array Value) (hw : ∀ d ∈ tables_1, d.before a0 Z = true) (ws : List Jvm.Cond) (x0 : Addr) (x1 : Int64) (x2 : Int64) (a1 : Addr) (a2 : Addr) (mk : Int32) (nn : Nat) (hi : Nat → Int64) (lo : Nat → Int64) (sz : Int32) (cp : Int32) (h0 : Heap) (n0 : Nat) (Z0 : n0 ≤ h0.size) (P0 : Exa Z h0 x0 "com/example/itinerant_spider/itinerantspider/frontier/FingerprintTable") (P1 : Fld Z h0 x0 "com/example/itinerant_spider/itinerantspider/frontier/FingerprintTable" "capacity" "I" (.int cp)) (P2 : Fld Z h0 x0 "com/example/itinerant_spider/itinerantspider/frontier/FingerprintTable" "highs" "[J" (.ref a1)) (P3 : Fld Z h0 x0 "com/example/itinerant_spider/itinerantspider/frontier/FingerprintTable" "lows" "[J" (.ref a2)) (P4 : Fld Z h0 x0 "com/example/itinerant_spider/itinerantspider/frontier/FingerprintTable" "mask" "I" (.int mk)) (P5 : Fld Z h0 x0 "com/example/itinerant_spider/itinerantspider/frontier/FingerprintTable" "size" "I" (.int sz)) (P6 : AJ Z h0 a1 nn hi) (P7 : AJ Z h0 a2 nn lo) (P8 : n0 ≤ x0) (P9 : n0 ≤ a1) (P10 : n0 ≤ a2) (P11 : x0 ≠ a1) (P12 : x0 ≠ a2) (P13 : a1 ≠ a2) (hmk : own_mk mk nn) (hends : own_ends hi lo nn 3 (own_start mk x2)) (hfull : ¬ sz = cp) :
    MetFree l (⟨"com/example/itinerant_spider/itinerantspider/frontier/FingerprintTable", "add", "(JJ)V"⟩ : MethodName) (head1 (Jvm.Cond.code (⟨"com/example/itinerant_spider/itinerantspider/frontier/FingerprintTable", "add", "(JJ)V"⟩ : MethodName) prog_24_method_5_code 6 none :: ws) ({ frames := 1, cells := 0, slots := 0, locals := 13 } : Room)) (fun a U => a = #[(.ref x0), (.long x1), (.long x2)] ∧ Z.Warmed39 U.vm ∧ U.heap = h0) (fun _ _ _ _ _ => True) (fun _ U o U' => ∃ v L, o = .returned v ∧ Q6 Z x0 x1 x2 a1 a2 mk nn hi lo sz cp h0 n0 v U'.heap L ∧ FrameEnd U o U' L ({ frames := 1, cells := 0, slots := 0, locals := 13 } : Room).cells ({ frames := 1, cells := 0, slots := 0, locals := 13 } : Room).slots) := by
  refine g_body (plainFor_of_name pn_2) ?_
  intro p e s m below meth c T0 X0 hx hby hml hret hlk hown hnm hZ e0
  rw [ef_6]
  have N0 := Fr.nil n0
  show Go p e below s _ _ _ (T0.setTop (mkF m 0 #[.val (.ref x0), .val (.long x1), .second, .val (.long x2), .second, .unset] []))
  refine g_aloadN X0 hx 1 (hb hby d6_0) rfl rfl rfl ?_
  show Go p e below s _ _ _ (T0.setTop (mkF m 1 #[.val (.ref x0), .val (.long x1), .second, .val (.long x2), .second, .unset] [(.ref x0)]))
  refine g_callV X0 hx hZ hown (hw _ (List.mem_of_getElem? (i := 43) rfl)) (hw _ (List.mem_of_getElem? (i := 44) rfl)) (hw _ (List.mem_of_getElem? (i := 46) rfl)) (hw _ (List.mem_of_getElem? (i := 45) rfl)) (hw _ (List.mem_of_getElem? (i := 7) rfl)) (hw _ (List.mem_of_getElem? (i := 47) rfl)) (by decide) e0 x0 P0 (rm7 l Z a0 hw [] x0 sz cp h0 P5 P1) [] [] 0 rfl (lenOf pd__28_29Z rfl) rfl (Nat.le_of_eq rfl) (by decide) (by decide) (by decide) (by decide) (by rw [hml]; rfl) (hb hby d6_1) ?_
  intro T27 L27 v27 X27 q27
  obtain ⟨rfl, rfl, e27⟩ := q27
  have NS27 := Fr.app N0 (Fr.nil n0)
  show Go p e below s _ _ _ (T27.setTop (mkF m 4 #[.val (.ref x0), .val (.long x1), .second, .val (.long x2), .second, .unset] [(.int (f7 sz cp))]))
  have h28 : (f7 sz cp) = (0 : Int32) := by rw [f7, if_neg hfull]
  refine g_if0_eq X27 hx 24 7 (hb hby d6_4) (by decide) rfl rfl (fun _ => ?_) (fun q => absurd h28 q)
  show Go p e below s _ _ _ (T27.setTop (mkF m 24 #[.val (.ref x0), .val (.long x1), .second, .val (.long x2), .second, .unset] []))
  refine g_lloadN X27 hx 25 (hb hby d6_24) rfl rfl ?_
  show Go p e below s _ _ _ (T27.setTop (mkF m 25 #[.val (.ref x0), .val (.long x1), .second, .val (.long x2), .second, .unset] [(.long x2)]))
  refine g_l2i X27 hx 26 (hb hby d6_25) rfl ?_
  show Go p e below s _ _ _ (T27.setTop (mkF m 26 #[.val (.ref x0), .val (.long x1), .second, .val (.long x2), .second, .unset] [(.int (x2.toInt32))]))
  refine g_aloadN X27 hx 27 (hb hby d6_26) rfl rfl rfl ?_
  show Go p e below s _ _ _ (T27.setTop (mkF m 27 #[.val (.ref x0), .val (.long x1), .second, .val (.long x2), .second, .unset] [(.ref x0), (.int (x2.toInt32))]))
  refine g_getF X27 hx hZ hown (hw _ (List.mem_of_getElem? (i := 29) rfl)) Via.refl e27 P4 30 (hb hby d6_27) rfl ?_
  intro T29 X29 e29
  show Go p e below s _ _ _ (T29.setTop (mkF m 30 #[.val (.ref x0), .val (.long x1), .second, .val (.long x2), .second, .unset] [(.int mk), (.int (x2.toInt32))]))
  refine g_iand X29 hx 31 (hb hby d6_30) rfl ?_
  show Go p e below s _ _ _ (T29.setTop (mkF m 31 #[.val (.ref x0), .val (.long x1), .second, .val (.long x2), .second, .unset] [(.int ((x2.toInt32) &&& mk))]))
  refine g_istore X29 hx #[.val (.ref x0), .val (.long x1), .second, .val (.long x2), .second, .val (.int ((x2.toInt32) &&& mk))] 33 (hb hby d6_31) rfl rfl ?_
  show Go p e below s _ _ _ (T29.setTop (mkF m 33 #[.val (.ref x0), .val (.long x1), .second, .val (.long x2), .second, .val (.int ((x2.toInt32) &&& mk))] []))
  exact sg6 l Z a0 hw hx hby hml hret hlk hown hnm hZ x0 x1 x2 a1 a2 mk nn hi lo sz cp h0 n0 hmk hends hfull 3 ((x2.toInt32) &&& mk) (own_start mk x2) _ _ _ X29 e29 Z0 NS27 (Keep.refl h0 [a1, a2, x0]) P0 P1 P2 P3 P4 P5 P6 P7 P8 P9 P10 P11 P12 P13 (own_sta hmk x2).1 (own_sta hmk x2).2 hends rfl
theorem own_sh (y : Int32) (h : 0 ≤ y.toInt) (h3 : y.toInt ≤ 3) : own_c4 (shlI 1 y) := by
  have c : y = 0 ∨ y = 1 ∨ y = 2 ∨ y = 3 := by
    have i : y.toInt = 0 ∨ y.toInt = 1 ∨ y.toInt = 2 ∨ y.toInt = 3 := by omega
    rcases i with q | q | q | q
    · exact Or.inl (Int32.toInt_inj.mp q)
    · exact Or.inr (Or.inl (Int32.toInt_inj.mp q))
    · exact Or.inr (Or.inr (Or.inl (Int32.toInt_inj.mp q)))
    · exact Or.inr (Or.inr (Or.inr (Int32.toInt_inj.mp q)))
  unfold own_c4
  rcases c with rfl | rfl | rfl | rfl <;> decide
def v0_cap (x5 : Int32) : Int32 := (shlI (1 : Int32) ((ushrI x5 (6 : Int32)) &&& (3 : Int32)))
def v0_m (x5 : Int32) : Int64 := (((2 : Int64) * ((v0_cap x5).toInt64)) - (1 : Int64))
def v0_span (x5 : Int32) : Int64 := ((2 : Int64) * ((v0_cap x5).toInt64))
def v0_n (x5 : Int32) : Int32 := (f1 (f1 ((ushrI x5 (4 : Int32)) &&& (3 : Int32)) (2 : Int32)) (v0_cap x5))
def v0_k (x5 : Int32) : Int32 := (x5 &&& (7 : Int32))
theorem own_cap (x5 : Int32) : own_c4 (v0_cap x5) := by
  have a := c_and (ushrI x5 6) 3 (by decide)
  exact own_sh _ a.1 a.2
def own_N (x5 : Int32) : Nat := (2 * v0_cap x5).toInt.toNat
theorem own_capN (x5 : Int32) : (2 * v0_cap x5).toInt = own_N x5 ∧ own_N x5 ≤ 16 ∧ ((v0_cap x5).toInt * 2 = own_N x5) := by
  unfold own_N
  rcases own_cap x5 with h | h | h | h <;> rw [h] <;> decide
theorem own_mk0 {m : Int32} (N k : Nat) (hk : k ≤ 31) (hm : m.toBitVec.toNat = 2 ^ k - 1) (hN : ((2 ^ k : Nat) : Int) = (N : Int)) (h2 : 2 ≤ N) (h16 : N ≤ 16) : own_mk m N := by
  have q := fun x => c_mask x m k hk hm
  rw [hN] at q
  refine ⟨h2, h16, fun x => ?_, fun x h0 h1 => ?_, fun x h => ?_⟩
  · rw [q]; exact ⟨Int.emod_nonneg _ (by omega), Int.emod_lt_of_pos _ (by omega)⟩
  · rw [q]; exact Int.emod_eq_of_lt h0 h1
  · rw [q, h]; exact Int.emod_self
theorem own_mkof (x5 : Int32) : own_mk (((2 : Int32) * (v0_cap x5)) - (1 : Int32)) (own_N x5) := by
  unfold own_N
  rcases own_cap x5 with h | h | h | h <;> rw [h]
  · exact own_mk0 _ 1 (by decide) (by decide) (by decide) (by decide) (by decide)
  · exact own_mk0 _ 2 (by decide) (by decide) (by decide) (by decide) (by decide)
  · exact own_mk0 _ 3 (by decide) (by decide) (by decide) (by decide) (by decide)
  · exact own_mk0 _ 4 (by decide) (by decide) (by decide) (by decide) (by decide)
theorem own_n2 {x5 : Int32} (h : ¬ v0_n x5 < 2) : 4 ≤ own_N x5 := by
  have q := own_capN x5
  have e : (2 : Int32).toInt = 2 := rfl
  unfold v0_n at h
  generalize f1 ((ushrI x5 (4 : Int32)) &&& (3 : Int32)) (2 : Int32) = y at h
  rw [Int32.lt_iff_toInt_lt] at h
  unfold f1 at h
  split at h
  · omega
  · rename_i z; rw [Int32.lt_iff_toInt_lt] at z; omega
theorem own_fu1 {x5 : Int32} {sz : Int32} (h : sz.toInt = ((0 : Nat) : Int)) : ¬ sz = v0_cap x5 := by
  intro q; rw [q] at h
  rcases own_cap x5 with z | z | z | z <;> rw [z] at h <;> exact absurd h (by decide)
theorem own_fu2 {x5 : Int32} {sz : Int32} (h : sz.toInt = ((1 : Nat) : Int)) (hn : ¬ v0_n x5 < 2) : ¬ sz = v0_cap x5 := by
  intro q
  have a := own_n2 hn; have b := own_capN x5
  rw [q] at h; omega
def own_T (hi lo : Nat → Int64) (N s1 t2 : Nat) (h1 l1 h2 l2 : Int64) (c : Nat) : Prop :=
  (c = 0 ∧ ∀ j, j < N → hi j = 0 ∧ lo j = 0) ∨ (c = 1 ∧ (hi s1 = h1 ∧ lo s1 = l1) ∧ ∀ j, j < N → j ≠ s1 → hi j = 0 ∧ lo j = 0) ∨
  (c = 2 ∧ 4 ≤ N ∧ ∃ s2, s2 < N ∧ s2 ≠ s1 ∧ ((t2 ≠ s1 ∧ s2 = t2) ∨ (t2 = s1 ∧ s2 = own_nx N s1)) ∧ (hi s1 = h1 ∧ lo s1 = l1) ∧ (hi s2 = h2 ∧ lo s2 = l2) ∧ ∀ j, j < N → j ≠ s1 → j ≠ s2 → hi j = 0 ∧ lo j = 0)
theorem own_T0 {N s1 t2 : Nat} {h1 l1 h2 l2 : Int64} : own_T (fun _ => (0 : Int64)) (fun _ => (0 : Int64)) N s1 t2 h1 l1 h2 l2 0 := Or.inl ⟨rfl, fun _ _ => ⟨rfl, rfl⟩⟩
theorem own_nxl {N j : Nat} (h : j < N) : own_nx N j < N := by unfold own_nx; split <;> omega
theorem own_nxn {N j : Nat} (h2 : 2 ≤ N) : own_nx N j ≠ j := by unfold own_nx; split <;> omega
theorem own_nx2 {N j : Nat} (h : j < N) (h2 : 4 ≤ N) : own_nx N (own_nx N j) ≠ j := by unfold own_nx; split <;> split <;> omega
theorem own_sl1 {hi lo : Nat → Int64} {N k j : Nat} (h : hi j = 0 ∧ lo j = 0) : own_slot hi lo N (k + 1) j = j := by rw [own_slot, if_pos h]
theorem own_T1 {hi lo : Nat → Int64} {N s1 t2 : Nat} {h1 l1 h2 l2 : Int64} (hs : s1 < N) (T : own_T hi lo N s1 t2 h1 l1 h2 l2 0) : own_T (upd hi (own_slot hi lo N 3 s1) h1) (upd lo (own_slot hi lo N 3 s1) l1) N s1 t2 h1 l1 h2 l2 1 := by
  rcases T with ⟨-, z⟩ | ⟨q, -⟩ | ⟨q, -⟩
  · rw [own_sl1 (z s1 hs)]
    refine Or.inr (Or.inl ⟨rfl, ⟨if_pos rfl, if_pos rfl⟩, fun j hj hn => ?_⟩)
    have := z j hj
    exact ⟨(if_neg hn).trans this.1, (if_neg hn).trans this.2⟩
  · omega
  · omega
theorem own_T2 {hi lo : Nat → Int64} {N s1 t2 : Nat} {h1 l1 h2 l2 : Int64} (hs : s1 < N) (ht : t2 < N) (h4 : 4 ≤ N) (e1 : ¬ (h1 = 0 ∧ l1 = 0)) (T : own_T hi lo N s1 t2 h1 l1 h2 l2 1) : own_T (upd hi (own_slot hi lo N 3 t2) h2) (upd lo (own_slot hi lo N 3 t2) l2) N s1 t2 h1 l1 h2 l2 2 := by
  rcases T with ⟨q, -⟩ | ⟨-, a, z⟩ | ⟨q, -⟩
  · omega
  · have nn := own_nxn (N := N) (j := s1) (by omega)
    have key : ∃ s2, own_slot hi lo N 3 t2 = s2 ∧ s2 < N ∧ s2 ≠ s1 ∧ ((t2 ≠ s1 ∧ s2 = t2) ∨ (t2 = s1 ∧ s2 = own_nx N s1)) := by
      by_cases q : t2 = s1
      · subst q
        refine ⟨own_nx N t2, ?_, own_nxl hs, nn, Or.inr ⟨rfl, rfl⟩⟩
        rw [own_slot, if_neg (by rw [a.1, a.2]; exact e1)]
        exact own_sl1 (z _ (own_nxl hs) nn)
      · exact ⟨t2, own_sl1 (z _ ht q), ht, q, Or.inl ⟨q, rfl⟩⟩
    obtain ⟨s2, k1, k2, k3, k4⟩ := key
    rw [k1]
    refine Or.inr (Or.inr ⟨rfl, h4, s2, k2, k3, k4, ⟨(if_neg (Ne.symm k3)).trans a.1, (if_neg (Ne.symm k3)).trans a.2⟩, ⟨if_pos rfl, if_pos rfl⟩, fun j hj n1 n2 => ?_⟩)
    have := z j hj n1
    exact ⟨(if_neg n2).trans this.1, (if_neg n2).trans this.2⟩
  · omega
theorem own_end {hi lo : Nat → Int64} {N s1 t2 c : Nat} {h1 l1 h2 l2 : Int64} (h2N : 2 ≤ N) (T : own_T hi lo N s1 t2 h1 l1 h2 l2 c) {j : Nat} (hj : j < N) : own_ends hi lo N 3 j := by
  have b := own_nxl hj; have b2 := own_nxl b
  rcases T with ⟨-, z⟩ | ⟨-, a, z⟩ | ⟨-, h4, s2, k2, k3, k4, a, a', z⟩
  · exact Or.inl (z j hj)
  · by_cases q : j = s1
    · exact Or.inr (Or.inl (z _ b (by rw [← q]; exact own_nxn h2N)))
    · exact Or.inl (z j hj q)
  · have n1 := own_nxn (N := N) (j := j) h2N
    have n2 := own_nxn (N := N) (j := own_nx N j) h2N
    have n3 := own_nx2 hj h4
    by_cases q : j = s1 ∨ j = s2
    · by_cases q' : own_nx N j = s1 ∨ own_nx N j = s2
      · exact Or.inr (Or.inr (Or.inl (z _ b2 (by omega) (by omega))))
      · exact Or.inr (Or.inl (z _ b (by omega) (by omega)))
    · exact Or.inl (z j hj (by omega) (by omega))
theorem own_fz {hi lo : Nat → Int64} {N k j : Nat} {qh ql : Int64} (z : hi j = 0 ∧ lo j = 0) (hq : ¬ (qh = 0 ∧ ql = 0)) : own_find hi lo N qh ql (k + 1) j = 0 := by
  rw [own_find, if_neg (by rintro ⟨a, b⟩; exact hq ⟨a.symm.trans z.1, b.symm.trans z.2⟩), if_pos z]
theorem own_fh {hi lo : Nat → Int64} {N k j : Nat} {qh ql a b : Int64} (z : hi j = a ∧ lo j = b) (hq : qh = a ∧ ql = b) : own_find hi lo N qh ql (k + 1) j = 1 := by
  rw [own_find, if_pos ⟨z.1.trans hq.1.symm, z.2.trans hq.2.symm⟩]
theorem own_fn {hi lo : Nat → Int64} {N k j : Nat} {qh ql a b : Int64} (z : hi j = a ∧ lo j = b) (e : ¬ (a = 0 ∧ b = 0)) (hq : ¬ (qh = a ∧ ql = b)) : own_find hi lo N qh ql (k + 1) j = own_find hi lo N qh ql k (own_nx N j) := by
  rw [own_find, if_neg (by rw [z.1, z.2]; rintro ⟨a, b⟩; exact hq ⟨a.symm, b.symm⟩), if_neg (by rw [z.1, z.2]; exact e)]
theorem own_law {hi lo : Nat → Int64} {N c : Nat} {mk n ex : Int32} {h1 l1 h2 l2 qh ql : Int64} (hm : own_mk mk N) (T : own_T hi lo N (own_start mk l1) (own_start mk l2) h1 l1 h2 l2 c) (e1 : ¬ (h1 = 0 ∧ l1 = 0)) (e2 : ¬ (h2 = 0 ∧ l2 = 0)) (hq : ¬ (qh = 0 ∧ ql = 0))
    (hc : (n < 1 ∧ n < 2 ∧ c = 0) ∨ (¬ n < 1 ∧ n < 2 ∧ c = 1) ∨ (¬ n < 1 ∧ ¬ n < 2 ∧ c = 2))
    (hex : (ex = 1 ∧ ((¬ n < 1 ∧ qh = h1 ∧ ql = l1) ∨ (¬ n < 2 ∧ qh = h2 ∧ ql = l2))) ∨ (ex = 0 ∧ ¬ ((¬ n < 1 ∧ qh = h1 ∧ ql = l1) ∨ (¬ n < 2 ∧ qh = h2 ∧ ql = l2)))) : own_find hi lo N qh ql 3 (own_start mk ql) = ex := by
  have hs := (own_sta hm ql).2; have hs1 := (own_sta hm l1).2; have hs2 := (own_sta hm l2).2
  have b := own_nxl hs; have b2 := own_nxl b
  have m1 : qh = h1 ∧ ql = l1 → own_start mk ql = own_start mk l1 := fun q => by rw [q.2]
  have m2 : qh = h2 ∧ ql = l2 → own_start mk ql = own_start mk l2 := fun q => by rw [q.2]
  have n1 := own_nxn (N := N) (j := own_start mk ql) hm.1
  have n2 := own_nxn (N := N) (j := own_nx N (own_start mk ql)) hm.1
  revert m1 m2 hs hs1 hs2 b b2 n1 n2 T
  generalize own_start mk ql = j
  generalize own_start mk l1 = s1
  generalize own_start mk l2 = t2
  intro T hs hs1 hs2 b b2 m1 m2 n1 n2
  rcases T with ⟨c0, z⟩ | ⟨c0, a, z⟩ | ⟨c0, h4, s2, k2, k3, k4, a, a', z⟩
  · have x1 : n < 1 ∧ n < 2 := by
      rcases hc with q | q | q
      · exact ⟨q.1, q.2.1⟩
      · omega
      · omega
    rw [own_fz (z j hs) hq]
    rcases hex with ⟨-, q | q⟩ | ⟨q, -⟩
    · exact absurd x1.1 q.1
    · exact absurd x1.2 q.1
    · exact q.symm
  · have x1 : ¬ n < 1 ∧ n < 2 := by
      rcases hc with q | q | q
      · omega
      · exact ⟨q.1, q.2.1⟩
      · omega
    have r : own_find hi lo N qh ql 3 j = if qh = h1 ∧ ql = l1 then 1 else 0 := by
      by_cases q : j = s1
      · subst q
        split
        · rename_i q; exact own_fh a q
        · rename_i q; rw [own_fn a e1 q]; exact own_fz (z _ b n1) hq
      · rw [if_neg (fun w => q (m1 w))]
        exact own_fz (z _ hs q) hq
    rw [r]
    rcases hex with ⟨q, w | w⟩ | ⟨q, w⟩
    · rw [if_pos w.2]; exact q.symm
    · exact absurd x1.2 w.1
    · rw [if_neg (fun u => w (Or.inl ⟨x1.1, u⟩))]; exact q.symm
  · have x1 : ¬ n < 1 ∧ ¬ n < 2 := by
      rcases hc with q | q | q
      · omega
      · omega
      · exact ⟨q.1, q.2.1⟩
    have n3 := own_nx2 hs h4
    have r : own_find hi lo N qh ql 3 j = if (qh = h1 ∧ ql = l1) ∨ (qh = h2 ∧ ql = l2) then 1 else 0 := by
      by_cases p1 : qh = h1 ∧ ql = l1
      · rw [if_pos (Or.inl p1), m1 p1]; exact own_fh a p1
      · by_cases p2 : qh = h2 ∧ ql = l2
        · rw [if_pos (Or.inr p2)]
          have := m2 p2
          by_cases q : j = s1
          · have e : s2 = own_nx N j := by rcases k4 with ⟨q1, q2⟩ | ⟨q1, q2⟩ <;> rw [q] <;> omega
            rw [own_fn (q ▸ a) e1 p1, ← e]; exact own_fh a' p2
          · have e : s2 = j := by omega
            rw [← e]; exact own_fh a' p2
        · rw [if_neg (by rintro (w | w) <;> contradiction)]
          have st : ∀ (k i : Nat), i < N → (i = s1 ∨ i = s2) → own_find hi lo N qh ql (k + 1) i = own_find hi lo N qh ql k (own_nx N i) := by
            intro k i _ o
            rcases o with rfl | rfl
            · exact own_fn a e1 p1
            · exact own_fn a' e2 p2
          by_cases q : j = s1 ∨ j = s2
          · rw [st _ _ hs q]
            by_cases q' : own_nx N j = s1 ∨ own_nx N j = s2
            · rw [st _ _ b q']
              exact own_fz (z _ b2 (by omega) (by omega)) hq
            · exact own_fz (z _ b (by omega) (by omega)) hq
          · exact own_fz (z _ hs (by omega) (by omega)) hq
    rw [r]
    rcases hex with ⟨q, w | w⟩ | ⟨q, w⟩
    · rw [if_pos (Or.inl w.2)]; exact q.symm
    · rw [if_pos (Or.inr w.2)]; exact q.symm
    · rw [if_neg (fun u => u.elim (fun u => w (Or.inl ⟨x1.1, u⟩)) (fun u => w (Or.inr ⟨x1.2, u⟩)))]; exact q.symm

theorem own_c1 {n sz : Int32} {c : Nat} (hc : (n < 1 ∧ c = 0) ∨ (¬ n < 1 ∧ c = 1)) (hs : sz.toInt = c) (h : ¬ n < 2) : sz.toInt = ((1 : Nat) : Int) := by
  rcases hc with q | q
  · exact absurd (Int32.lt_trans q.1 (by decide)) h
  · rw [hs, q.2]
theorem own_c1' {n : Int32} {c : Nat} (hc : (n < 1 ∧ c = 0) ∨ (¬ n < 1 ∧ c = 1)) (h : ¬ n < 2) : c = 1 ∧ ¬ n < 1 := by
  rcases hc with q | q
  · exact absurd (Int32.lt_trans q.1 (by decide)) h
  · exact ⟨q.2, q.1⟩
theorem own_c2 {n : Int32} {c : Nat} (hc : (n < 1 ∧ c = 0) ∨ (¬ n < 1 ∧ c = 1)) (h : n < 2) : (n < 1 ∧ n < 2 ∧ c = 0) ∨ (¬ n < 1 ∧ n < 2 ∧ c = 1) ∨ (¬ n < 1 ∧ ¬ n < 2 ∧ c = 2) := by
  rcases hc with q | q
  · exact Or.inl ⟨q.1, h, q.2⟩
  · exact Or.inr (Or.inl ⟨q.1, h, q.2⟩)
def Q0 (Z : State) (x0 : Int64) (x1 : Int64) (x2 : Int64) (x3 : Int64) (x4 : Int64) (x5 : Int32) (h0 : Heap) (n0 : Nat) (v : Option Value) (h : Heap) (L : List Loc) : Prop := v = some (.int (1 : Int32)) ∧ Fr n0 L
theorem pd__28JJ_29Z : parseMethodDescriptor "(JJ)Z" = some ⟨[.long, .long], some .boolean⟩ := by decide +kernel
theorem pn_0 : plainName "com/example/itinerant_spider/itinerantspider/frontier/FingerprintTableContainsPinLaw" = true := by first | (simp [plainName, overriddenIn]; done) | decide +kernel
set_option maxRecDepth 65536 in
set_option maxHeartbeats 40000000 in
theorem sg0_372 (l : Launch) (Z : State) (a0 : Array Value) (hw : ∀ d ∈ tables_1, d.before a0 Z = true) {p : Program} {e : Env} {s : State} {m : MethodId} {args : Array Value} {below : List Frame} {meth : Method} {c : Code} (hx : p.tables.exec = Jvm.exec) (hby : c.code = code) (hml : c.maxLocals = maxLocals) (hret : meth.sig.returnType = ret) (hlk : meth.locks = false) (hown : s.vm.findClass "com/example/itinerant_spider/itinerantspider/frontier/FingerprintTableContainsPinLaw" = some m.cls) (hnm : meth.name = "law") (hZ : Z.Warmed39 s.vm) (x0 : Int64) (x1 : Int64) (x2 : Int64) (x3 : Int64) (x4 : Int64) (x5 : Int32) (h0 : Heap) (n0 : Nat) : ∀  (ua : Int64) (va : Int64) (ub : Int64) (vb : Int64) (dd : Addr) (a1 : Addr) (a2 : Addr) (sz : Int32) (hi : Nat → Int64) (lo : Nat → Int64) (cc : Nat) (qh : Int64) (ql : Int64) (ex : Int32) (T0 : State) (locs : List Loc) (hS : Heap), Stand p l e room_1 s m args below meth c T0 locs 3 37 → T0.heap = hS → n0 ≤ hS.size → Fr n0 locs → Exa Z hS dd "com/example/itinerant_spider/itinerantspider/frontier/FingerprintTable" → Fld Z hS dd "com/example/itinerant_spider/itinerantspider/frontier/FingerprintTable" "capacity" "I" (.int (v0_cap x5)) → Fld Z hS dd "com/example/itinerant_spider/itinerantspider/frontier/FingerprintTable" "highs" "[J" (.ref a1) → Fld Z hS dd "com/example/itinerant_spider/itinerantspider/frontier/FingerprintTable" "lows" "[J" (.ref a2) → Fld Z hS dd "com/example/itinerant_spider/itinerantspider/frontier/FingerprintTable" "mask" "I" (.int (((2 : Int32) * (v0_cap x5)) - (1 : Int32))) → Fld Z hS dd "com/example/itinerant_spider/itinerantspider/frontier/FingerprintTable" "size" "I" (.int sz) → AJ Z hS a1 (own_N x5) hi → AJ Z hS a2 (own_N x5) lo → n0 ≤ dd → n0 ≤ a1 → n0 ≤ a2 → dd ≠ a1 → dd ≠ a2 → a1 ≠ a2 → (¬ (ua = 0 ∧ va = 0)) → (¬ (ub = 0 ∧ vb = 0)) → (own_T hi lo (own_N x5) (own_start (((2 : Int32) * (v0_cap x5)) - (1 : Int32)) va) (own_start (((2 : Int32) * (v0_cap x5)) - (1 : Int32)) vb) ua va ub vb cc) → ((v0_n x5 < 1 ∧ v0_n x5 < 2 ∧ cc = 0) ∨ (¬ v0_n x5 < 1 ∧ v0_n x5 < 2 ∧ cc = 1) ∨ (¬ v0_n x5 < 1 ∧ ¬ v0_n x5 < 2 ∧ cc = 2)) → (¬ (qh = 0 ∧ ql = 0)) → ((ex = 1 ∧ ((¬ v0_n x5 < 1 ∧ qh = ua ∧ ql = va) ∨ (¬ v0_n x5 < 2 ∧ qh = ub ∧ ql = vb))) ∨ (ex = 0 ∧ ¬ ((¬ v0_n x5 < 1 ∧ qh = ua ∧ ql = va) ∨ (¬ v0_n x5 < 2 ∧ qh = ub ∧ ql = vb)))) → Go p e below s (Q0 Z x0 x1 x2 x3 x4 x5 h0 n0) room_1.cells room_1.slots (T0.setTop (mkF m 372 #[.val (.long ua), .second, .val (.long va), .second, .val (.long ub), .second, .val (.long vb), .second, .val (.long x4), .second, .val (.int x5), .val (.int (v0_cap x5)), .val (.long (v0_m x5)), .second, .val (.long (v0_span x5)), .second, .val (.int (v0_n x5)), .val (.ref dd), .val (.int (v0_k x5)), .val (.long qh), .second, .val (.long ql), .second, .val (.int ex)] [])) := by
  intro ua va ub vb dd a1 a2 sz hi lo cc qh ql ex T0 locs hS X0 e0 Z0 N0 P0 P1 P2 P3 P4 P5 P6 P7 P8 P9 P10 P11 P12 P13 he1 he2 hT hc hq hex
  refine g_aload X0 hx 374 (hb hby at_372) rfl rfl rfl ?_
  show Go p e below s _ _ _ (T0.setTop (mkF m 374 #[.val (.long ua), .second, .val (.long va), .second, .val (.long ub), .second, .val (.long vb), .second, .val (.long x4), .second, .val (.int x5), .val (.int (v0_cap x5)), .val (.long (v0_m x5)), .second, .val (.long (v0_span x5)), .second, .val (.int (v0_n x5)), .val (.ref dd), .val (.int (v0_k x5)), .val (.long qh), .second, .val (.long ql), .second, .val (.int ex)] [(.ref dd)]))
  refine g_lload X0 hx 376 (hb hby at_374) rfl rfl ?_
  show Go p e below s _ _ _ (T0.setTop (mkF m 376 #[.val (.long ua), .second, .val (.long va), .second, .val (.long ub), .second, .val (.long vb), .second, .val (.long x4), .second, .val (.int x5), .val (.int (v0_cap x5)), .val (.long (v0_m x5)), .second, .val (.long (v0_span x5)), .second, .val (.int (v0_n x5)), .val (.ref dd), .val (.int (v0_k x5)), .val (.long qh), .second, .val (.long ql), .second, .val (.int ex)] [(.long qh), (.ref dd)]))
  refine g_lload X0 hx 378 (hb hby at_376) rfl rfl ?_
  show Go p e below s _ _ _ (T0.setTop (mkF m 378 #[.val (.long ua), .second, .val (.long va), .second, .val (.long ub), .second, .val (.long vb), .second, .val (.long x4), .second, .val (.int x5), .val (.int (v0_cap x5)), .val (.long (v0_m x5)), .second, .val (.long (v0_span x5)), .second, .val (.int (v0_n x5)), .val (.ref dd), .val (.int (v0_k x5)), .val (.long qh), .second, .val (.long ql), .second, .val (.int ex)] [(.long ql), (.long qh), (.ref dd)]))
  refine g_callV X0 hx hZ hown (hw _ (List.mem_of_getElem? (i := 31) rfl)) (hw _ (List.mem_of_getElem? (i := 32) rfl)) (hw _ (List.mem_of_getElem? (i := 34) rfl)) (hw _ (List.mem_of_getElem? (i := 33) rfl)) (hw _ (List.mem_of_getElem? (i := 7) rfl)) (hw _ (List.mem_of_getElem? (i := 35) rfl)) (by decide) e0 dd P0 (rm5 l Z a0 hw [] dd qh ql a1 a2 (((2 : Int32) * (v0_cap x5)) - (1 : Int32)) (own_N x5) hi lo hS P2 P3 P4 P6 P7 (own_mkof x5 : own_mk (((2 : Int32) * (v0_cap x5)) - (1 : Int32)) (own_N x5)) (own_end (own_mkof x5).1 hT (own_sta (own_mkof x5) ql).2 : own_ends hi lo (own_N x5) 3 (own_start (((2 : Int32) * (v0_cap x5)) - (1 : Int32)) ql))) [(.long qh), (.long ql)] [] 0 rfl (lenOf pd__28JJ_29Z rfl) rfl (Nat.le_of_eq rfl) (by decide) (by decide) (by decide) (by decide) (by rw [hml]; rfl) (hb hby at_378) ?_
  intro T1 L1 v1 X1 q1
  obtain ⟨rfl, rfl, e1⟩ := q1
  have NS1 := Fr.app N0 (Fr.nil n0)
  show Go p e below s _ _ _ (T1.setTop (mkF m 381 #[.val (.long ua), .second, .val (.long va), .second, .val (.long ub), .second, .val (.long vb), .second, .val (.long x4), .second, .val (.int x5), .val (.int (v0_cap x5)), .val (.long (v0_m x5)), .second, .val (.long (v0_span x5)), .second, .val (.int (v0_n x5)), .val (.ref dd), .val (.int (v0_k x5)), .val (.long qh), .second, .val (.long ql), .second, .val (.int ex)] [(.int (own_find hi lo (own_N x5) qh ql 3 (own_start (((2 : Int32) * (v0_cap x5)) - (1 : Int32)) ql)))]))
  refine g_iload X1 hx 383 (hb hby at_381) rfl rfl ?_
  show Go p e below s _ _ _ (T1.setTop (mkF m 383 #[.val (.long ua), .second, .val (.long va), .second, .val (.long ub), .second, .val (.long vb), .second, .val (.long x4), .second, .val (.int x5), .val (.int (v0_cap x5)), .val (.long (v0_m x5)), .second, .val (.long (v0_span x5)), .second, .val (.int (v0_n x5)), .val (.ref dd), .val (.int (v0_k x5)), .val (.long qh), .second, .val (.long ql), .second, .val (.int ex)] [(.int ex), (.int (own_find hi lo (own_N x5) qh ql 3 (own_start (((2 : Int32) * (v0_cap x5)) - (1 : Int32)) ql)))]))
  have h2 : (own_find hi lo (own_N x5) qh ql 3 (own_start (((2 : Int32) * (v0_cap x5)) - (1 : Int32)) ql)) = ex := own_law (own_mkof x5) hT he1 he2 hq hc hex
  refine g_icmp_ne X1 hx 390 386 (hb hby at_383) (by decide) rfl rfl (fun _ => ?_) (fun q => absurd h2 q)
  show Go p e below s _ _ _ (T1.setTop (mkF m 386 #[.val (.long ua), .second, .val (.long va), .second, .val (.long ub), .second, .val (.long vb), .second, .val (.long x4), .second, .val (.int x5), .val (.int (v0_cap x5)), .val (.long (v0_m x5)), .second, .val (.long (v0_span x5)), .second, .val (.int (v0_n x5)), .val (.ref dd), .val (.int (v0_k x5)), .val (.long qh), .second, .val (.long ql), .second, .val (.int ex)] []))
  refine g_iconst X1 hx (1 : Int32) 387 (hb hby at_386) rfl rfl ?_
  show Go p e below s _ _ _ (T1.setTop (mkF m 387 #[.val (.long ua), .second, .val (.long va), .second, .val (.long ub), .second, .val (.long vb), .second, .val (.long x4), .second, .val (.int x5), .val (.int (v0_cap x5)), .val (.long (v0_m x5)), .second, .val (.long (v0_span x5)), .second, .val (.int (v0_n x5)), .val (.ref dd), .val (.int (v0_k x5)), .val (.long qh), .second, .val (.long ql), .second, .val (.int ex)] [(.int (1 : Int32))]))
  refine g_goto X1 hx 391 (hb hby at_387) (by decide) rfl ?_
  show Go p e below s _ _ _ (T1.setTop (mkF m 391 #[.val (.long ua), .second, .val (.long va), .second, .val (.long ub), .second, .val (.long vb), .second, .val (.long x4), .second, .val (.int x5), .val (.int (v0_cap x5)), .val (.long (v0_m x5)), .second, .val (.long (v0_span x5)), .second, .val (.int (v0_n x5)), .val (.ref dd), .val (.int (v0_k x5)), .val (.long qh), .second, .val (.long ql), .second, .val (.int ex)] [(.int (1 : Int32))]))
  exact g_retN X1 hx hret (by simp) hlk (hb hby at_391) (by decide) (by decide) ⟨rfl, NS1⟩
set_option maxRecDepth 65536 in
set_option maxHeartbeats 40000000 in
theorem sg0_323 (l : Launch) (Z : State) (a0 : Array Value) (hw : ∀ d ∈ tables_1, d.before a0 Z = true) {p : Program} {e : Env} {s : State} {m : MethodId} {args : Array Value} {below : List Frame} {meth : Method} {c : Code} (hx : p.tables.exec = Jvm.exec) (hby : c.code = code) (hml : c.maxLocals = maxLocals) (hret : meth.sig.returnType = ret) (hlk : meth.locks = false) (hown : s.vm.findClass "com/example/itinerant_spider/itinerantspider/frontier/FingerprintTableContainsPinLaw" = some m.cls) (hnm : meth.name = "law") (hZ : Z.Warmed39 s.vm) (x0 : Int64) (x1 : Int64) (x2 : Int64) (x3 : Int64) (x4 : Int64) (x5 : Int32) (h0 : Heap) (n0 : Nat) : ∀  (ua : Int64) (va : Int64) (ub : Int64) (vb : Int64) (dd : Addr) (a1 : Addr) (a2 : Addr) (sz : Int32) (hi : Nat → Int64) (lo : Nat → Int64) (cc : Nat) (qh : Int64) (ql : Int64) (T0 : State) (locs : List Loc) (hS : Heap), Stand p l e room_1 s m args below meth c T0 locs 3 37 → T0.heap = hS → n0 ≤ hS.size → Fr n0 locs → Exa Z hS dd "com/example/itinerant_spider/itinerantspider/frontier/FingerprintTable" → Fld Z hS dd "com/example/itinerant_spider/itinerantspider/frontier/FingerprintTable" "capacity" "I" (.int (v0_cap x5)) → Fld Z hS dd "com/example/itinerant_spider/itinerantspider/frontier/FingerprintTable" "highs" "[J" (.ref a1) → Fld Z hS dd "com/example/itinerant_spider/itinerantspider/frontier/FingerprintTable" "lows" "[J" (.ref a2) → Fld Z hS dd "com/example/itinerant_spider/itinerantspider/frontier/FingerprintTable" "mask" "I" (.int (((2 : Int32) * (v0_cap x5)) - (1 : Int32))) → Fld Z hS dd "com/example/itinerant_spider/itinerantspider/frontier/FingerprintTable" "size" "I" (.int sz) → AJ Z hS a1 (own_N x5) hi → AJ Z hS a2 (own_N x5) lo → n0 ≤ dd → n0 ≤ a1 → n0 ≤ a2 → dd ≠ a1 → dd ≠ a2 → a1 ≠ a2 → (¬ (ua = 0 ∧ va = 0)) → (¬ (ub = 0 ∧ vb = 0)) → (own_T hi lo (own_N x5) (own_start (((2 : Int32) * (v0_cap x5)) - (1 : Int32)) va) (own_start (((2 : Int32) * (v0_cap x5)) - (1 : Int32)) vb) ua va ub vb cc) → ((v0_n x5 < 1 ∧ v0_n x5 < 2 ∧ cc = 0) ∨ (¬ v0_n x5 < 1 ∧ v0_n x5 < 2 ∧ cc = 1) ∨ (¬ v0_n x5 < 1 ∧ ¬ v0_n x5 < 2 ∧ cc = 2)) → (¬ (qh = 0 ∧ ql = 0)) → Go p e below s (Q0 Z x0 x1 x2 x3 x4 x5 h0 n0) room_1.cells room_1.slots (T0.setTop (mkF m 323 #[.val (.long ua), .second, .val (.long va), .second, .val (.long ub), .second, .val (.long vb), .second, .val (.long x4), .second, .val (.int x5), .val (.int (v0_cap x5)), .val (.long (v0_m x5)), .second, .val (.long (v0_span x5)), .second, .val (.int (v0_n x5)), .val (.ref dd), .val (.int (v0_k x5)), .val (.long qh), .second, .val (.long ql), .second, .unset] [])) := by
  intro ua va ub vb dd a1 a2 sz hi lo cc qh ql T0 locs hS X0 e0 Z0 N0 P0 P1 P2 P3 P4 P5 P6 P7 P8 P9 P10 P11 P12 P13 he1 he2 hT hc hq
  refine g_iload X0 hx 325 (hb hby at_323) rfl rfl ?_
  show Go p e below s _ _ _ (T0.setTop (mkF m 325 #[.val (.long ua), .second, .val (.long va), .second, .val (.long ub), .second, .val (.long vb), .second, .val (.long x4), .second, .val (.int x5), .val (.int (v0_cap x5)), .val (.long (v0_m x5)), .second, .val (.long (v0_span x5)), .second, .val (.int (v0_n x5)), .val (.ref dd), .val (.int (v0_k x5)), .val (.long qh), .second, .val (.long ql), .second, .unset] [(.int (v0_n x5))]))
  refine g_iconst X0 hx (1 : Int32) 326 (hb hby at_325) rfl rfl ?_
  show Go p e below s _ _ _ (T0.setTop (mkF m 326 #[.val (.long ua), .second, .val (.long va), .second, .val (.long ub), .second, .val (.long vb), .second, .val (.long x4), .second, .val (.int x5), .val (.int (v0_cap x5)), .val (.long (v0_m x5)), .second, .val (.long (v0_span x5)), .second, .val (.int (v0_n x5)), .val (.ref dd), .val (.int (v0_k x5)), .val (.long qh), .second, .val (.long ql), .second, .unset] [(.int (1 : Int32)), (.int (v0_n x5))]))
  refine g_icmp_lt X0 hx 343 329 (hb hby at_326) (by decide) rfl rfl (fun h3 => ?_) (fun h3 => ?_)
  · show Go p e below s _ _ _ (T0.setTop (mkF m 343 #[.val (.long ua), .second, .val (.long va), .second, .val (.long ub), .second, .val (.long vb), .second, .val (.long x4), .second, .val (.int x5), .val (.int (v0_cap x5)), .val (.long (v0_m x5)), .second, .val (.long (v0_span x5)), .second, .val (.int (v0_n x5)), .val (.ref dd), .val (.int (v0_k x5)), .val (.long qh), .second, .val (.long ql), .second, .unset] []))
    refine g_iload X0 hx 345 (hb hby at_343) rfl rfl ?_
    show Go p e below s _ _ _ (T0.setTop (mkF m 345 #[.val (.long ua), .second, .val (.long va), .second, .val (.long ub), .second, .val (.long vb), .second, .val (.long x4), .second, .val (.int x5), .val (.int (v0_cap x5)), .val (.long (v0_m x5)), .second, .val (.long (v0_span x5)), .second, .val (.int (v0_n x5)), .val (.ref dd), .val (.int (v0_k x5)), .val (.long qh), .second, .val (.long ql), .second, .unset] [(.int (v0_n x5))]))
    refine g_iconst X0 hx (2 : Int32) 346 (hb hby at_345) rfl rfl ?_
    show Go p e below s _ _ _ (T0.setTop (mkF m 346 #[.val (.long ua), .second, .val (.long va), .second, .val (.long ub), .second, .val (.long vb), .second, .val (.long x4), .second, .val (.int x5), .val (.int (v0_cap x5)), .val (.long (v0_m x5)), .second, .val (.long (v0_span x5)), .second, .val (.int (v0_n x5)), .val (.ref dd), .val (.int (v0_k x5)), .val (.long qh), .second, .val (.long ql), .second, .unset] [(.int (2 : Int32)), (.int (v0_n x5))]))
    refine g_icmp_lt X0 hx 369 349 (hb hby at_346) (by decide) rfl rfl (fun h4 => ?_) (fun h4 => ?_)
    · show Go p e below s _ _ _ (T0.setTop (mkF m 369 #[.val (.long ua), .second, .val (.long va), .second, .val (.long ub), .second, .val (.long vb), .second, .val (.long x4), .second, .val (.int x5), .val (.int (v0_cap x5)), .val (.long (v0_m x5)), .second, .val (.long (v0_span x5)), .second, .val (.int (v0_n x5)), .val (.ref dd), .val (.int (v0_k x5)), .val (.long qh), .second, .val (.long ql), .second, .unset] []))
      refine g_iconst X0 hx (0 : Int32) 370 (hb hby at_369) rfl rfl ?_
      show Go p e below s _ _ _ (T0.setTop (mkF m 370 #[.val (.long ua), .second, .val (.long va), .second, .val (.long ub), .second, .val (.long vb), .second, .val (.long x4), .second, .val (.int x5), .val (.int (v0_cap x5)), .val (.long (v0_m x5)), .second, .val (.long (v0_span x5)), .second, .val (.int (v0_n x5)), .val (.ref dd), .val (.int (v0_k x5)), .val (.long qh), .second, .val (.long ql), .second, .unset] [(.int (0 : Int32))]))
      refine g_istore X0 hx #[.val (.long ua), .second, .val (.long va), .second, .val (.long ub), .second, .val (.long vb), .second, .val (.long x4), .second, .val (.int x5), .val (.int (v0_cap x5)), .val (.long (v0_m x5)), .second, .val (.long (v0_span x5)), .second, .val (.int (v0_n x5)), .val (.ref dd), .val (.int (v0_k x5)), .val (.long qh), .second, .val (.long ql), .second, .val (.int (0 : Int32))] 372 (hb hby at_370) rfl rfl ?_
      show Go p e below s _ _ _ (T0.setTop (mkF m 372 #[.val (.long ua), .second, .val (.long va), .second, .val (.long ub), .second, .val (.long vb), .second, .val (.long x4), .second, .val (.int x5), .val (.int (v0_cap x5)), .val (.long (v0_m x5)), .second, .val (.long (v0_span x5)), .second, .val (.int (v0_n x5)), .val (.ref dd), .val (.int (v0_k x5)), .val (.long qh), .second, .val (.long ql), .second, .val (.int (0 : Int32))] []))
      exact sg0_372 l Z a0 hw hx hby hml hret hlk hown hnm hZ x0 x1 x2 x3 x4 x5 h0 n0  ua va ub vb dd a1 a2 sz hi lo cc qh ql (0 : Int32) _ _ _ X0 e0 Z0 N0 P0 P1 P2 P3 P4 P5 P6 P7 P8 P9 P10 P11 P12 P13 he1 he2 hT hc hq (Or.inr ⟨rfl, fun o => by rcases o with ⟨oa, ob, oc⟩ | ⟨oa, ob, oc⟩ <;> contradiction⟩)
    · show Go p e below s _ _ _ (T0.setTop (mkF m 349 #[.val (.long ua), .second, .val (.long va), .second, .val (.long ub), .second, .val (.long vb), .second, .val (.long x4), .second, .val (.int x5), .val (.int (v0_cap x5)), .val (.long (v0_m x5)), .second, .val (.long (v0_span x5)), .second, .val (.int (v0_n x5)), .val (.ref dd), .val (.int (v0_k x5)), .val (.long qh), .second, .val (.long ql), .second, .unset] []))
      refine g_lload X0 hx 351 (hb hby at_349) rfl rfl ?_
      show Go p e below s _ _ _ (T0.setTop (mkF m 351 #[.val (.long ua), .second, .val (.long va), .second, .val (.long ub), .second, .val (.long vb), .second, .val (.long x4), .second, .val (.int x5), .val (.int (v0_cap x5)), .val (.long (v0_m x5)), .second, .val (.long (v0_span x5)), .second, .val (.int (v0_n x5)), .val (.ref dd), .val (.int (v0_k x5)), .val (.long qh), .second, .val (.long ql), .second, .unset] [(.long qh)]))
      refine g_lload X0 hx 353 (hb hby at_351) rfl rfl ?_
      show Go p e below s _ _ _ (T0.setTop (mkF m 353 #[.val (.long ua), .second, .val (.long va), .second, .val (.long ub), .second, .val (.long vb), .second, .val (.long x4), .second, .val (.int x5), .val (.int (v0_cap x5)), .val (.long (v0_m x5)), .second, .val (.long (v0_span x5)), .second, .val (.int (v0_n x5)), .val (.ref dd), .val (.int (v0_k x5)), .val (.long qh), .second, .val (.long ql), .second, .unset] [(.long ub), (.long qh)]))
      refine g_lcmp X0 hx 354 (hb hby at_353) rfl ?_
      show Go p e below s _ _ _ (T0.setTop (mkF m 354 #[.val (.long ua), .second, .val (.long va), .second, .val (.long ub), .second, .val (.long vb), .second, .val (.long x4), .second, .val (.int x5), .val (.int (v0_cap x5)), .val (.long (v0_m x5)), .second, .val (.long (v0_span x5)), .second, .val (.int (v0_n x5)), .val (.ref dd), .val (.int (v0_k x5)), .val (.long qh), .second, .val (.long ql), .second, .unset] [(.int (lcmpW qh ub))]))
      refine g_lc_ne X0 hx 369 357 (hb hby at_354) (by decide) rfl rfl (fun h5 => ?_) (fun h5 => ?_)
      · show Go p e below s _ _ _ (T0.setTop (mkF m 357 #[.val (.long ua), .second, .val (.long va), .second, .val (.long ub), .second, .val (.long vb), .second, .val (.long x4), .second, .val (.int x5), .val (.int (v0_cap x5)), .val (.long (v0_m x5)), .second, .val (.long (v0_span x5)), .second, .val (.int (v0_n x5)), .val (.ref dd), .val (.int (v0_k x5)), .val (.long qh), .second, .val (.long ql), .second, .unset] []))
        refine g_lload X0 hx 359 (hb hby at_357) rfl rfl ?_
        show Go p e below s _ _ _ (T0.setTop (mkF m 359 #[.val (.long ua), .second, .val (.long va), .second, .val (.long ub), .second, .val (.long vb), .second, .val (.long x4), .second, .val (.int x5), .val (.int (v0_cap x5)), .val (.long (v0_m x5)), .second, .val (.long (v0_span x5)), .second, .val (.int (v0_n x5)), .val (.ref dd), .val (.int (v0_k x5)), .val (.long qh), .second, .val (.long ql), .second, .unset] [(.long ql)]))
        refine g_lload X0 hx 361 (hb hby at_359) rfl rfl ?_
        show Go p e below s _ _ _ (T0.setTop (mkF m 361 #[.val (.long ua), .second, .val (.long va), .second, .val (.long ub), .second, .val (.long vb), .second, .val (.long x4), .second, .val (.int x5), .val (.int (v0_cap x5)), .val (.long (v0_m x5)), .second, .val (.long (v0_span x5)), .second, .val (.int (v0_n x5)), .val (.ref dd), .val (.int (v0_k x5)), .val (.long qh), .second, .val (.long ql), .second, .unset] [(.long vb), (.long ql)]))
        refine g_lcmp X0 hx 362 (hb hby at_361) rfl ?_
        show Go p e below s _ _ _ (T0.setTop (mkF m 362 #[.val (.long ua), .second, .val (.long va), .second, .val (.long ub), .second, .val (.long vb), .second, .val (.long x4), .second, .val (.int x5), .val (.int (v0_cap x5)), .val (.long (v0_m x5)), .second, .val (.long (v0_span x5)), .second, .val (.int (v0_n x5)), .val (.ref dd), .val (.int (v0_k x5)), .val (.long qh), .second, .val (.long ql), .second, .unset] [(.int (lcmpW ql vb))]))
        refine g_lc_ne X0 hx 369 365 (hb hby at_362) (by decide) rfl rfl (fun h6 => ?_) (fun h6 => ?_)
        · show Go p e below s _ _ _ (T0.setTop (mkF m 365 #[.val (.long ua), .second, .val (.long va), .second, .val (.long ub), .second, .val (.long vb), .second, .val (.long x4), .second, .val (.int x5), .val (.int (v0_cap x5)), .val (.long (v0_m x5)), .second, .val (.long (v0_span x5)), .second, .val (.int (v0_n x5)), .val (.ref dd), .val (.int (v0_k x5)), .val (.long qh), .second, .val (.long ql), .second, .unset] []))
          refine g_iconst X0 hx (1 : Int32) 366 (hb hby at_365) rfl rfl ?_
          show Go p e below s _ _ _ (T0.setTop (mkF m 366 #[.val (.long ua), .second, .val (.long va), .second, .val (.long ub), .second, .val (.long vb), .second, .val (.long x4), .second, .val (.int x5), .val (.int (v0_cap x5)), .val (.long (v0_m x5)), .second, .val (.long (v0_span x5)), .second, .val (.int (v0_n x5)), .val (.ref dd), .val (.int (v0_k x5)), .val (.long qh), .second, .val (.long ql), .second, .unset] [(.int (1 : Int32))]))
          refine g_goto X0 hx 370 (hb hby at_366) (by decide) rfl ?_
          show Go p e below s _ _ _ (T0.setTop (mkF m 370 #[.val (.long ua), .second, .val (.long va), .second, .val (.long ub), .second, .val (.long vb), .second, .val (.long x4), .second, .val (.int x5), .val (.int (v0_cap x5)), .val (.long (v0_m x5)), .second, .val (.long (v0_span x5)), .second, .val (.int (v0_n x5)), .val (.ref dd), .val (.int (v0_k x5)), .val (.long qh), .second, .val (.long ql), .second, .unset] [(.int (1 : Int32))]))
          refine g_istore X0 hx #[.val (.long ua), .second, .val (.long va), .second, .val (.long ub), .second, .val (.long vb), .second, .val (.long x4), .second, .val (.int x5), .val (.int (v0_cap x5)), .val (.long (v0_m x5)), .second, .val (.long (v0_span x5)), .second, .val (.int (v0_n x5)), .val (.ref dd), .val (.int (v0_k x5)), .val (.long qh), .second, .val (.long ql), .second, .val (.int (1 : Int32))] 372 (hb hby at_370) rfl rfl ?_
          show Go p e below s _ _ _ (T0.setTop (mkF m 372 #[.val (.long ua), .second, .val (.long va), .second, .val (.long ub), .second, .val (.long vb), .second, .val (.long x4), .second, .val (.int x5), .val (.int (v0_cap x5)), .val (.long (v0_m x5)), .second, .val (.long (v0_span x5)), .second, .val (.int (v0_n x5)), .val (.ref dd), .val (.int (v0_k x5)), .val (.long qh), .second, .val (.long ql), .second, .val (.int (1 : Int32))] []))
          exact sg0_372 l Z a0 hw hx hby hml hret hlk hown hnm hZ x0 x1 x2 x3 x4 x5 h0 n0  ua va ub vb dd a1 a2 sz hi lo cc qh ql (1 : Int32) _ _ _ X0 e0 Z0 N0 P0 P1 P2 P3 P4 P5 P6 P7 P8 P9 P10 P11 P12 P13 he1 he2 hT hc hq (Or.inl ⟨rfl, Or.inr ⟨h4, h5, h6⟩⟩)
        · show Go p e below s _ _ _ (T0.setTop (mkF m 369 #[.val (.long ua), .second, .val (.long va), .second, .val (.long ub), .second, .val (.long vb), .second, .val (.long x4), .second, .val (.int x5), .val (.int (v0_cap x5)), .val (.long (v0_m x5)), .second, .val (.long (v0_span x5)), .second, .val (.int (v0_n x5)), .val (.ref dd), .val (.int (v0_k x5)), .val (.long qh), .second, .val (.long ql), .second, .unset] []))
          refine g_iconst X0 hx (0 : Int32) 370 (hb hby at_369) rfl rfl ?_
          show Go p e below s _ _ _ (T0.setTop (mkF m 370 #[.val (.long ua), .second, .val (.long va), .second, .val (.long ub), .second, .val (.long vb), .second, .val (.long x4), .second, .val (.int x5), .val (.int (v0_cap x5)), .val (.long (v0_m x5)), .second, .val (.long (v0_span x5)), .second, .val (.int (v0_n x5)), .val (.ref dd), .val (.int (v0_k x5)), .val (.long qh), .second, .val (.long ql), .second, .unset] [(.int (0 : Int32))]))
          refine g_istore X0 hx #[.val (.long ua), .second, .val (.long va), .second, .val (.long ub), .second, .val (.long vb), .second, .val (.long x4), .second, .val (.int x5), .val (.int (v0_cap x5)), .val (.long (v0_m x5)), .second, .val (.long (v0_span x5)), .second, .val (.int (v0_n x5)), .val (.ref dd), .val (.int (v0_k x5)), .val (.long qh), .second, .val (.long ql), .second, .val (.int (0 : Int32))] 372 (hb hby at_370) rfl rfl ?_
          show Go p e below s _ _ _ (T0.setTop (mkF m 372 #[.val (.long ua), .second, .val (.long va), .second, .val (.long ub), .second, .val (.long vb), .second, .val (.long x4), .second, .val (.int x5), .val (.int (v0_cap x5)), .val (.long (v0_m x5)), .second, .val (.long (v0_span x5)), .second, .val (.int (v0_n x5)), .val (.ref dd), .val (.int (v0_k x5)), .val (.long qh), .second, .val (.long ql), .second, .val (.int (0 : Int32))] []))
          exact sg0_372 l Z a0 hw hx hby hml hret hlk hown hnm hZ x0 x1 x2 x3 x4 x5 h0 n0  ua va ub vb dd a1 a2 sz hi lo cc qh ql (0 : Int32) _ _ _ X0 e0 Z0 N0 P0 P1 P2 P3 P4 P5 P6 P7 P8 P9 P10 P11 P12 P13 he1 he2 hT hc hq (Or.inr ⟨rfl, fun o => by rcases o with ⟨oa, ob, oc⟩ | ⟨oa, ob, oc⟩ <;> contradiction⟩)
      · show Go p e below s _ _ _ (T0.setTop (mkF m 369 #[.val (.long ua), .second, .val (.long va), .second, .val (.long ub), .second, .val (.long vb), .second, .val (.long x4), .second, .val (.int x5), .val (.int (v0_cap x5)), .val (.long (v0_m x5)), .second, .val (.long (v0_span x5)), .second, .val (.int (v0_n x5)), .val (.ref dd), .val (.int (v0_k x5)), .val (.long qh), .second, .val (.long ql), .second, .unset] []))
        refine g_iconst X0 hx (0 : Int32) 370 (hb hby at_369) rfl rfl ?_
        show Go p e below s _ _ _ (T0.setTop (mkF m 370 #[.val (.long ua), .second, .val (.long va), .second, .val (.long ub), .second, .val (.long vb), .second, .val (.long x4), .second, .val (.int x5), .val (.int (v0_cap x5)), .val (.long (v0_m x5)), .second, .val (.long (v0_span x5)), .second, .val (.int (v0_n x5)), .val (.ref dd), .val (.int (v0_k x5)), .val (.long qh), .second, .val (.long ql), .second, .unset] [(.int (0 : Int32))]))
        refine g_istore X0 hx #[.val (.long ua), .second, .val (.long va), .second, .val (.long ub), .second, .val (.long vb), .second, .val (.long x4), .second, .val (.int x5), .val (.int (v0_cap x5)), .val (.long (v0_m x5)), .second, .val (.long (v0_span x5)), .second, .val (.int (v0_n x5)), .val (.ref dd), .val (.int (v0_k x5)), .val (.long qh), .second, .val (.long ql), .second, .val (.int (0 : Int32))] 372 (hb hby at_370) rfl rfl ?_
        show Go p e below s _ _ _ (T0.setTop (mkF m 372 #[.val (.long ua), .second, .val (.long va), .second, .val (.long ub), .second, .val (.long vb), .second, .val (.long x4), .second, .val (.int x5), .val (.int (v0_cap x5)), .val (.long (v0_m x5)), .second, .val (.long (v0_span x5)), .second, .val (.int (v0_n x5)), .val (.ref dd), .val (.int (v0_k x5)), .val (.long qh), .second, .val (.long ql), .second, .val (.int (0 : Int32))] []))
        exact sg0_372 l Z a0 hw hx hby hml hret hlk hown hnm hZ x0 x1 x2 x3 x4 x5 h0 n0  ua va ub vb dd a1 a2 sz hi lo cc qh ql (0 : Int32) _ _ _ X0 e0 Z0 N0 P0 P1 P2 P3 P4 P5 P6 P7 P8 P9 P10 P11 P12 P13 he1 he2 hT hc hq (Or.inr ⟨rfl, fun o => by rcases o with ⟨oa, ob, oc⟩ | ⟨oa, ob, oc⟩ <;> contradiction⟩)
  · show Go p e below s _ _ _ (T0.setTop (mkF m 329 #[.val (.long ua), .second, .val (.long va), .second, .val (.long ub), .second, .val (.long vb), .second, .val (.long x4), .second, .val (.int x5), .val (.int (v0_cap x5)), .val (.long (v0_m x5)), .second, .val (.long (v0_span x5)), .second, .val (.int (v0_n x5)), .val (.ref dd), .val (.int (v0_k x5)), .val (.long qh), .second, .val (.long ql), .second, .unset] []))
    refine g_lload X0 hx 331 (hb hby at_329) rfl rfl ?_
    show Go p e below s _ _ _ (T0.setTop (mkF m 331 #[.val (.long ua), .second, .val (.long va), .second, .val (.long ub), .second, .val (.long vb), .second, .val (.long x4), .second, .val (.int x5), .val (.int (v0_cap x5)), .val (.long (v0_m x5)), .second, .val (.long (v0_span x5)), .second, .val (.int (v0_n x5)), .val (.ref dd), .val (.int (v0_k x5)), .val (.long qh), .second, .val (.long ql), .second, .unset] [(.long qh)]))
    refine g_lloadN X0 hx 332 (hb hby at_331) rfl rfl ?_
    show Go p e below s _ _ _ (T0.setTop (mkF m 332 #[.val (.long ua), .second, .val (.long va), .second, .val (.long ub), .second, .val (.long vb), .second, .val (.long x4), .second, .val (.int x5), .val (.int (v0_cap x5)), .val (.long (v0_m x5)), .second, .val (.long (v0_span x5)), .second, .val (.int (v0_n x5)), .val (.ref dd), .val (.int (v0_k x5)), .val (.long qh), .second, .val (.long ql), .second, .unset] [(.long ua), (.long qh)]))
    refine g_lcmp X0 hx 333 (hb hby at_332) rfl ?_
    show Go p e below s _ _ _ (T0.setTop (mkF m 333 #[.val (.long ua), .second, .val (.long va), .second, .val (.long ub), .second, .val (.long vb), .second, .val (.long x4), .second, .val (.int x5), .val (.int (v0_cap x5)), .val (.long (v0_m x5)), .second, .val (.long (v0_span x5)), .second, .val (.int (v0_n x5)), .val (.ref dd), .val (.int (v0_k x5)), .val (.long qh), .second, .val (.long ql), .second, .unset] [(.int (lcmpW qh ua))]))
    refine g_lc_ne X0 hx 343 336 (hb hby at_333) (by decide) rfl rfl (fun h7 => ?_) (fun h7 => ?_)
    · show Go p e below s _ _ _ (T0.setTop (mkF m 336 #[.val (.long ua), .second, .val (.long va), .second, .val (.long ub), .second, .val (.long vb), .second, .val (.long x4), .second, .val (.int x5), .val (.int (v0_cap x5)), .val (.long (v0_m x5)), .second, .val (.long (v0_span x5)), .second, .val (.int (v0_n x5)), .val (.ref dd), .val (.int (v0_k x5)), .val (.long qh), .second, .val (.long ql), .second, .unset] []))
      refine g_lload X0 hx 338 (hb hby at_336) rfl rfl ?_
      show Go p e below s _ _ _ (T0.setTop (mkF m 338 #[.val (.long ua), .second, .val (.long va), .second, .val (.long ub), .second, .val (.long vb), .second, .val (.long x4), .second, .val (.int x5), .val (.int (v0_cap x5)), .val (.long (v0_m x5)), .second, .val (.long (v0_span x5)), .second, .val (.int (v0_n x5)), .val (.ref dd), .val (.int (v0_k x5)), .val (.long qh), .second, .val (.long ql), .second, .unset] [(.long ql)]))
      refine g_lloadN X0 hx 339 (hb hby at_338) rfl rfl ?_
      show Go p e below s _ _ _ (T0.setTop (mkF m 339 #[.val (.long ua), .second, .val (.long va), .second, .val (.long ub), .second, .val (.long vb), .second, .val (.long x4), .second, .val (.int x5), .val (.int (v0_cap x5)), .val (.long (v0_m x5)), .second, .val (.long (v0_span x5)), .second, .val (.int (v0_n x5)), .val (.ref dd), .val (.int (v0_k x5)), .val (.long qh), .second, .val (.long ql), .second, .unset] [(.long va), (.long ql)]))
      refine g_lcmp X0 hx 340 (hb hby at_339) rfl ?_
      show Go p e below s _ _ _ (T0.setTop (mkF m 340 #[.val (.long ua), .second, .val (.long va), .second, .val (.long ub), .second, .val (.long vb), .second, .val (.long x4), .second, .val (.int x5), .val (.int (v0_cap x5)), .val (.long (v0_m x5)), .second, .val (.long (v0_span x5)), .second, .val (.int (v0_n x5)), .val (.ref dd), .val (.int (v0_k x5)), .val (.long qh), .second, .val (.long ql), .second, .unset] [(.int (lcmpW ql va))]))
      refine g_lc_eq X0 hx 365 343 (hb hby at_340) (by decide) rfl rfl (fun h8 => ?_) (fun h8 => ?_)
      · show Go p e below s _ _ _ (T0.setTop (mkF m 365 #[.val (.long ua), .second, .val (.long va), .second, .val (.long ub), .second, .val (.long vb), .second, .val (.long x4), .second, .val (.int x5), .val (.int (v0_cap x5)), .val (.long (v0_m x5)), .second, .val (.long (v0_span x5)), .second, .val (.int (v0_n x5)), .val (.ref dd), .val (.int (v0_k x5)), .val (.long qh), .second, .val (.long ql), .second, .unset] []))
        refine g_iconst X0 hx (1 : Int32) 366 (hb hby at_365) rfl rfl ?_
        show Go p e below s _ _ _ (T0.setTop (mkF m 366 #[.val (.long ua), .second, .val (.long va), .second, .val (.long ub), .second, .val (.long vb), .second, .val (.long x4), .second, .val (.int x5), .val (.int (v0_cap x5)), .val (.long (v0_m x5)), .second, .val (.long (v0_span x5)), .second, .val (.int (v0_n x5)), .val (.ref dd), .val (.int (v0_k x5)), .val (.long qh), .second, .val (.long ql), .second, .unset] [(.int (1 : Int32))]))
        refine g_goto X0 hx 370 (hb hby at_366) (by decide) rfl ?_
        show Go p e below s _ _ _ (T0.setTop (mkF m 370 #[.val (.long ua), .second, .val (.long va), .second, .val (.long ub), .second, .val (.long vb), .second, .val (.long x4), .second, .val (.int x5), .val (.int (v0_cap x5)), .val (.long (v0_m x5)), .second, .val (.long (v0_span x5)), .second, .val (.int (v0_n x5)), .val (.ref dd), .val (.int (v0_k x5)), .val (.long qh), .second, .val (.long ql), .second, .unset] [(.int (1 : Int32))]))
        refine g_istore X0 hx #[.val (.long ua), .second, .val (.long va), .second, .val (.long ub), .second, .val (.long vb), .second, .val (.long x4), .second, .val (.int x5), .val (.int (v0_cap x5)), .val (.long (v0_m x5)), .second, .val (.long (v0_span x5)), .second, .val (.int (v0_n x5)), .val (.ref dd), .val (.int (v0_k x5)), .val (.long qh), .second, .val (.long ql), .second, .val (.int (1 : Int32))] 372 (hb hby at_370) rfl rfl ?_
        show Go p e below s _ _ _ (T0.setTop (mkF m 372 #[.val (.long ua), .second, .val (.long va), .second, .val (.long ub), .second, .val (.long vb), .second, .val (.long x4), .second, .val (.int x5), .val (.int (v0_cap x5)), .val (.long (v0_m x5)), .second, .val (.long (v0_span x5)), .second, .val (.int (v0_n x5)), .val (.ref dd), .val (.int (v0_k x5)), .val (.long qh), .second, .val (.long ql), .second, .val (.int (1 : Int32))] []))
        exact sg0_372 l Z a0 hw hx hby hml hret hlk hown hnm hZ x0 x1 x2 x3 x4 x5 h0 n0  ua va ub vb dd a1 a2 sz hi lo cc qh ql (1 : Int32) _ _ _ X0 e0 Z0 N0 P0 P1 P2 P3 P4 P5 P6 P7 P8 P9 P10 P11 P12 P13 he1 he2 hT hc hq (Or.inl ⟨rfl, Or.inl ⟨h3, h7, h8⟩⟩)
      · show Go p e below s _ _ _ (T0.setTop (mkF m 343 #[.val (.long ua), .second, .val (.long va), .second, .val (.long ub), .second, .val (.long vb), .second, .val (.long x4), .second, .val (.int x5), .val (.int (v0_cap x5)), .val (.long (v0_m x5)), .second, .val (.long (v0_span x5)), .second, .val (.int (v0_n x5)), .val (.ref dd), .val (.int (v0_k x5)), .val (.long qh), .second, .val (.long ql), .second, .unset] []))
        refine g_iload X0 hx 345 (hb hby at_343) rfl rfl ?_
        show Go p e below s _ _ _ (T0.setTop (mkF m 345 #[.val (.long ua), .second, .val (.long va), .second, .val (.long ub), .second, .val (.long vb), .second, .val (.long x4), .second, .val (.int x5), .val (.int (v0_cap x5)), .val (.long (v0_m x5)), .second, .val (.long (v0_span x5)), .second, .val (.int (v0_n x5)), .val (.ref dd), .val (.int (v0_k x5)), .val (.long qh), .second, .val (.long ql), .second, .unset] [(.int (v0_n x5))]))
        refine g_iconst X0 hx (2 : Int32) 346 (hb hby at_345) rfl rfl ?_
        show Go p e below s _ _ _ (T0.setTop (mkF m 346 #[.val (.long ua), .second, .val (.long va), .second, .val (.long ub), .second, .val (.long vb), .second, .val (.long x4), .second, .val (.int x5), .val (.int (v0_cap x5)), .val (.long (v0_m x5)), .second, .val (.long (v0_span x5)), .second, .val (.int (v0_n x5)), .val (.ref dd), .val (.int (v0_k x5)), .val (.long qh), .second, .val (.long ql), .second, .unset] [(.int (2 : Int32)), (.int (v0_n x5))]))
        refine g_icmp_lt X0 hx 369 349 (hb hby at_346) (by decide) rfl rfl (fun h9 => ?_) (fun h9 => ?_)
        · show Go p e below s _ _ _ (T0.setTop (mkF m 369 #[.val (.long ua), .second, .val (.long va), .second, .val (.long ub), .second, .val (.long vb), .second, .val (.long x4), .second, .val (.int x5), .val (.int (v0_cap x5)), .val (.long (v0_m x5)), .second, .val (.long (v0_span x5)), .second, .val (.int (v0_n x5)), .val (.ref dd), .val (.int (v0_k x5)), .val (.long qh), .second, .val (.long ql), .second, .unset] []))
          refine g_iconst X0 hx (0 : Int32) 370 (hb hby at_369) rfl rfl ?_
          show Go p e below s _ _ _ (T0.setTop (mkF m 370 #[.val (.long ua), .second, .val (.long va), .second, .val (.long ub), .second, .val (.long vb), .second, .val (.long x4), .second, .val (.int x5), .val (.int (v0_cap x5)), .val (.long (v0_m x5)), .second, .val (.long (v0_span x5)), .second, .val (.int (v0_n x5)), .val (.ref dd), .val (.int (v0_k x5)), .val (.long qh), .second, .val (.long ql), .second, .unset] [(.int (0 : Int32))]))
          refine g_istore X0 hx #[.val (.long ua), .second, .val (.long va), .second, .val (.long ub), .second, .val (.long vb), .second, .val (.long x4), .second, .val (.int x5), .val (.int (v0_cap x5)), .val (.long (v0_m x5)), .second, .val (.long (v0_span x5)), .second, .val (.int (v0_n x5)), .val (.ref dd), .val (.int (v0_k x5)), .val (.long qh), .second, .val (.long ql), .second, .val (.int (0 : Int32))] 372 (hb hby at_370) rfl rfl ?_
          show Go p e below s _ _ _ (T0.setTop (mkF m 372 #[.val (.long ua), .second, .val (.long va), .second, .val (.long ub), .second, .val (.long vb), .second, .val (.long x4), .second, .val (.int x5), .val (.int (v0_cap x5)), .val (.long (v0_m x5)), .second, .val (.long (v0_span x5)), .second, .val (.int (v0_n x5)), .val (.ref dd), .val (.int (v0_k x5)), .val (.long qh), .second, .val (.long ql), .second, .val (.int (0 : Int32))] []))
          exact sg0_372 l Z a0 hw hx hby hml hret hlk hown hnm hZ x0 x1 x2 x3 x4 x5 h0 n0  ua va ub vb dd a1 a2 sz hi lo cc qh ql (0 : Int32) _ _ _ X0 e0 Z0 N0 P0 P1 P2 P3 P4 P5 P6 P7 P8 P9 P10 P11 P12 P13 he1 he2 hT hc hq (Or.inr ⟨rfl, fun o => by rcases o with ⟨oa, ob, oc⟩ | ⟨oa, ob, oc⟩ <;> contradiction⟩)
        · show Go p e below s _ _ _ (T0.setTop (mkF m 349 #[.val (.long ua), .second, .val (.long va), .second, .val (.long ub), .second, .val (.long vb), .second, .val (.long x4), .second, .val (.int x5), .val (.int (v0_cap x5)), .val (.long (v0_m x5)), .second, .val (.long (v0_span x5)), .second, .val (.int (v0_n x5)), .val (.ref dd), .val (.int (v0_k x5)), .val (.long qh), .second, .val (.long ql), .second, .unset] []))
          refine g_lload X0 hx 351 (hb hby at_349) rfl rfl ?_
          show Go p e below s _ _ _ (T0.setTop (mkF m 351 #[.val (.long ua), .second, .val (.long va), .second, .val (.long ub), .second, .val (.long vb), .second, .val (.long x4), .second, .val (.int x5), .val (.int (v0_cap x5)), .val (.long (v0_m x5)), .second, .val (.long (v0_span x5)), .second, .val (.int (v0_n x5)), .val (.ref dd), .val (.int (v0_k x5)), .val (.long qh), .second, .val (.long ql), .second, .unset] [(.long qh)]))
          refine g_lload X0 hx 353 (hb hby at_351) rfl rfl ?_
          show Go p e below s _ _ _ (T0.setTop (mkF m 353 #[.val (.long ua), .second, .val (.long va), .second, .val (.long ub), .second, .val (.long vb), .second, .val (.long x4), .second, .val (.int x5), .val (.int (v0_cap x5)), .val (.long (v0_m x5)), .second, .val (.long (v0_span x5)), .second, .val (.int (v0_n x5)), .val (.ref dd), .val (.int (v0_k x5)), .val (.long qh), .second, .val (.long ql), .second, .unset] [(.long ub), (.long qh)]))
          refine g_lcmp X0 hx 354 (hb hby at_353) rfl ?_
          show Go p e below s _ _ _ (T0.setTop (mkF m 354 #[.val (.long ua), .second, .val (.long va), .second, .val (.long ub), .second, .val (.long vb), .second, .val (.long x4), .second, .val (.int x5), .val (.int (v0_cap x5)), .val (.long (v0_m x5)), .second, .val (.long (v0_span x5)), .second, .val (.int (v0_n x5)), .val (.ref dd), .val (.int (v0_k x5)), .val (.long qh), .second, .val (.long ql), .second, .unset] [(.int (lcmpW qh ub))]))
          refine g_lc_ne X0 hx 369 357 (hb hby at_354) (by decide) rfl rfl (fun h10 => ?_) (fun h10 => ?_)
          · show Go p e below s _ _ _ (T0.setTop (mkF m 357 #[.val (.long ua), .second, .val (.long va), .second, .val (.long ub), .second, .val (.long vb), .second, .val (.long x4), .second, .val (.int x5), .val (.int (v0_cap x5)), .val (.long (v0_m x5)), .second, .val (.long (v0_span x5)), .second, .val (.int (v0_n x5)), .val (.ref dd), .val (.int (v0_k x5)), .val (.long qh), .second, .val (.long ql), .second, .unset] []))
            refine g_lload X0 hx 359 (hb hby at_357) rfl rfl ?_
            show Go p e below s _ _ _ (T0.setTop (mkF m 359 #[.val (.long ua), .second, .val (.long va), .second, .val (.long ub), .second, .val (.long vb), .second, .val (.long x4), .second, .val (.int x5), .val (.int (v0_cap x5)), .val (.long (v0_m x5)), .second, .val (.long (v0_span x5)), .second, .val (.int (v0_n x5)), .val (.ref dd), .val (.int (v0_k x5)), .val (.long qh), .second, .val (.long ql), .second, .unset] [(.long ql)]))
            refine g_lload X0 hx 361 (hb hby at_359) rfl rfl ?_
            show Go p e below s _ _ _ (T0.setTop (mkF m 361 #[.val (.long ua), .second, .val (.long va), .second, .val (.long ub), .second, .val (.long vb), .second, .val (.long x4), .second, .val (.int x5), .val (.int (v0_cap x5)), .val (.long (v0_m x5)), .second, .val (.long (v0_span x5)), .second, .val (.int (v0_n x5)), .val (.ref dd), .val (.int (v0_k x5)), .val (.long qh), .second, .val (.long ql), .second, .unset] [(.long vb), (.long ql)]))
            refine g_lcmp X0 hx 362 (hb hby at_361) rfl ?_
            show Go p e below s _ _ _ (T0.setTop (mkF m 362 #[.val (.long ua), .second, .val (.long va), .second, .val (.long ub), .second, .val (.long vb), .second, .val (.long x4), .second, .val (.int x5), .val (.int (v0_cap x5)), .val (.long (v0_m x5)), .second, .val (.long (v0_span x5)), .second, .val (.int (v0_n x5)), .val (.ref dd), .val (.int (v0_k x5)), .val (.long qh), .second, .val (.long ql), .second, .unset] [(.int (lcmpW ql vb))]))
            refine g_lc_ne X0 hx 369 365 (hb hby at_362) (by decide) rfl rfl (fun h11 => ?_) (fun h11 => ?_)
            · show Go p e below s _ _ _ (T0.setTop (mkF m 365 #[.val (.long ua), .second, .val (.long va), .second, .val (.long ub), .second, .val (.long vb), .second, .val (.long x4), .second, .val (.int x5), .val (.int (v0_cap x5)), .val (.long (v0_m x5)), .second, .val (.long (v0_span x5)), .second, .val (.int (v0_n x5)), .val (.ref dd), .val (.int (v0_k x5)), .val (.long qh), .second, .val (.long ql), .second, .unset] []))
              refine g_iconst X0 hx (1 : Int32) 366 (hb hby at_365) rfl rfl ?_
              show Go p e below s _ _ _ (T0.setTop (mkF m 366 #[.val (.long ua), .second, .val (.long va), .second, .val (.long ub), .second, .val (.long vb), .second, .val (.long x4), .second, .val (.int x5), .val (.int (v0_cap x5)), .val (.long (v0_m x5)), .second, .val (.long (v0_span x5)), .second, .val (.int (v0_n x5)), .val (.ref dd), .val (.int (v0_k x5)), .val (.long qh), .second, .val (.long ql), .second, .unset] [(.int (1 : Int32))]))
              refine g_goto X0 hx 370 (hb hby at_366) (by decide) rfl ?_
              show Go p e below s _ _ _ (T0.setTop (mkF m 370 #[.val (.long ua), .second, .val (.long va), .second, .val (.long ub), .second, .val (.long vb), .second, .val (.long x4), .second, .val (.int x5), .val (.int (v0_cap x5)), .val (.long (v0_m x5)), .second, .val (.long (v0_span x5)), .second, .val (.int (v0_n x5)), .val (.ref dd), .val (.int (v0_k x5)), .val (.long qh), .second, .val (.long ql), .second, .unset] [(.int (1 : Int32))]))
              refine g_istore X0 hx #[.val (.long ua), .second, .val (.long va), .second, .val (.long ub), .second, .val (.long vb), .second, .val (.long x4), .second, .val (.int x5), .val (.int (v0_cap x5)), .val (.long (v0_m x5)), .second, .val (.long (v0_span x5)), .second, .val (.int (v0_n x5)), .val (.ref dd), .val (.int (v0_k x5)), .val (.long qh), .second, .val (.long ql), .second, .val (.int (1 : Int32))] 372 (hb hby at_370) rfl rfl ?_
              show Go p e below s _ _ _ (T0.setTop (mkF m 372 #[.val (.long ua), .second, .val (.long va), .second, .val (.long ub), .second, .val (.long vb), .second, .val (.long x4), .second, .val (.int x5), .val (.int (v0_cap x5)), .val (.long (v0_m x5)), .second, .val (.long (v0_span x5)), .second, .val (.int (v0_n x5)), .val (.ref dd), .val (.int (v0_k x5)), .val (.long qh), .second, .val (.long ql), .second, .val (.int (1 : Int32))] []))
              exact sg0_372 l Z a0 hw hx hby hml hret hlk hown hnm hZ x0 x1 x2 x3 x4 x5 h0 n0  ua va ub vb dd a1 a2 sz hi lo cc qh ql (1 : Int32) _ _ _ X0 e0 Z0 N0 P0 P1 P2 P3 P4 P5 P6 P7 P8 P9 P10 P11 P12 P13 he1 he2 hT hc hq (Or.inl ⟨rfl, Or.inr ⟨h9, h10, h11⟩⟩)
            · show Go p e below s _ _ _ (T0.setTop (mkF m 369 #[.val (.long ua), .second, .val (.long va), .second, .val (.long ub), .second, .val (.long vb), .second, .val (.long x4), .second, .val (.int x5), .val (.int (v0_cap x5)), .val (.long (v0_m x5)), .second, .val (.long (v0_span x5)), .second, .val (.int (v0_n x5)), .val (.ref dd), .val (.int (v0_k x5)), .val (.long qh), .second, .val (.long ql), .second, .unset] []))
              refine g_iconst X0 hx (0 : Int32) 370 (hb hby at_369) rfl rfl ?_
              show Go p e below s _ _ _ (T0.setTop (mkF m 370 #[.val (.long ua), .second, .val (.long va), .second, .val (.long ub), .second, .val (.long vb), .second, .val (.long x4), .second, .val (.int x5), .val (.int (v0_cap x5)), .val (.long (v0_m x5)), .second, .val (.long (v0_span x5)), .second, .val (.int (v0_n x5)), .val (.ref dd), .val (.int (v0_k x5)), .val (.long qh), .second, .val (.long ql), .second, .unset] [(.int (0 : Int32))]))
              refine g_istore X0 hx #[.val (.long ua), .second, .val (.long va), .second, .val (.long ub), .second, .val (.long vb), .second, .val (.long x4), .second, .val (.int x5), .val (.int (v0_cap x5)), .val (.long (v0_m x5)), .second, .val (.long (v0_span x5)), .second, .val (.int (v0_n x5)), .val (.ref dd), .val (.int (v0_k x5)), .val (.long qh), .second, .val (.long ql), .second, .val (.int (0 : Int32))] 372 (hb hby at_370) rfl rfl ?_
              show Go p e below s _ _ _ (T0.setTop (mkF m 372 #[.val (.long ua), .second, .val (.long va), .second, .val (.long ub), .second, .val (.long vb), .second, .val (.long x4), .second, .val (.int x5), .val (.int (v0_cap x5)), .val (.long (v0_m x5)), .second, .val (.long (v0_span x5)), .second, .val (.int (v0_n x5)), .val (.ref dd), .val (.int (v0_k x5)), .val (.long qh), .second, .val (.long ql), .second, .val (.int (0 : Int32))] []))
              exact sg0_372 l Z a0 hw hx hby hml hret hlk hown hnm hZ x0 x1 x2 x3 x4 x5 h0 n0  ua va ub vb dd a1 a2 sz hi lo cc qh ql (0 : Int32) _ _ _ X0 e0 Z0 N0 P0 P1 P2 P3 P4 P5 P6 P7 P8 P9 P10 P11 P12 P13 he1 he2 hT hc hq (Or.inr ⟨rfl, fun o => by rcases o with ⟨oa, ob, oc⟩ | ⟨oa, ob, oc⟩ <;> contradiction⟩)
          · show Go p e below s _ _ _ (T0.setTop (mkF m 369 #[.val (.long ua), .second, .val (.long va), .second, .val (.long ub), .second, .val (.long vb), .second, .val (.long x4), .second, .val (.int x5), .val (.int (v0_cap x5)), .val (.long (v0_m x5)), .second, .val (.long (v0_span x5)), .second, .val (.int (v0_n x5)), .val (.ref dd), .val (.int (v0_k x5)), .val (.long qh), .second, .val (.long ql), .second, .unset] []))
            refine g_iconst X0 hx (0 : Int32) 370 (hb hby at_369) rfl rfl ?_
            show Go p e below s _ _ _ (T0.setTop (mkF m 370 #[.val (.long ua), .second, .val (.long va), .second, .val (.long ub), .second, .val (.long vb), .second, .val (.long x4), .second, .val (.int x5), .val (.int (v0_cap x5)), .val (.long (v0_m x5)), .second, .val (.long (v0_span x5)), .second, .val (.int (v0_n x5)), .val (.ref dd), .val (.int (v0_k x5)), .val (.long qh), .second, .val (.long ql), .second, .unset] [(.int (0 : Int32))]))
            refine g_istore X0 hx #[.val (.long ua), .second, .val (.long va), .second, .val (.long ub), .second, .val (.long vb), .second, .val (.long x4), .second, .val (.int x5), .val (.int (v0_cap x5)), .val (.long (v0_m x5)), .second, .val (.long (v0_span x5)), .second, .val (.int (v0_n x5)), .val (.ref dd), .val (.int (v0_k x5)), .val (.long qh), .second, .val (.long ql), .second, .val (.int (0 : Int32))] 372 (hb hby at_370) rfl rfl ?_
            show Go p e below s _ _ _ (T0.setTop (mkF m 372 #[.val (.long ua), .second, .val (.long va), .second, .val (.long ub), .second, .val (.long vb), .second, .val (.long x4), .second, .val (.int x5), .val (.int (v0_cap x5)), .val (.long (v0_m x5)), .second, .val (.long (v0_span x5)), .second, .val (.int (v0_n x5)), .val (.ref dd), .val (.int (v0_k x5)), .val (.long qh), .second, .val (.long ql), .second, .val (.int (0 : Int32))] []))
            exact sg0_372 l Z a0 hw hx hby hml hret hlk hown hnm hZ x0 x1 x2 x3 x4 x5 h0 n0  ua va ub vb dd a1 a2 sz hi lo cc qh ql (0 : Int32) _ _ _ X0 e0 Z0 N0 P0 P1 P2 P3 P4 P5 P6 P7 P8 P9 P10 P11 P12 P13 he1 he2 hT hc hq (Or.inr ⟨rfl, fun o => by rcases o with ⟨oa, ob, oc⟩ | ⟨oa, ob, oc⟩ <;> contradiction⟩)
    · show Go p e below s _ _ _ (T0.setTop (mkF m 343 #[.val (.long ua), .second, .val (.long va), .second, .val (.long ub), .second, .val (.long vb), .second, .val (.long x4), .second, .val (.int x5), .val (.int (v0_cap x5)), .val (.long (v0_m x5)), .second, .val (.long (v0_span x5)), .second, .val (.int (v0_n x5)), .val (.ref dd), .val (.int (v0_k x5)), .val (.long qh), .second, .val (.long ql), .second, .unset] []))
      refine g_iload X0 hx 345 (hb hby at_343) rfl rfl ?_
      show Go p e below s _ _ _ (T0.setTop (mkF m 345 #[.val (.long ua), .second, .val (.long va), .second, .val (.long ub), .second, .val (.long vb), .second, .val (.long x4), .second, .val (.int x5), .val (.int (v0_cap x5)), .val (.long (v0_m x5)), .second, .val (.long (v0_span x5)), .second, .val (.int (v0_n x5)), .val (.ref dd), .val (.int (v0_k x5)), .val (.long qh), .second, .val (.long ql), .second, .unset] [(.int (v0_n x5))]))
      refine g_iconst X0 hx (2 : Int32) 346 (hb hby at_345) rfl rfl ?_
      show Go p e below s _ _ _ (T0.setTop (mkF m 346 #[.val (.long ua), .second, .val (.long va), .second, .val (.long ub), .second, .val (.long vb), .second, .val (.long x4), .second, .val (.int x5), .val (.int (v0_cap x5)), .val (.long (v0_m x5)), .second, .val (.long (v0_span x5)), .second, .val (.int (v0_n x5)), .val (.ref dd), .val (.int (v0_k x5)), .val (.long qh), .second, .val (.long ql), .second, .unset] [(.int (2 : Int32)), (.int (v0_n x5))]))
      refine g_icmp_lt X0 hx 369 349 (hb hby at_346) (by decide) rfl rfl (fun h12 => ?_) (fun h12 => ?_)
      · show Go p e below s _ _ _ (T0.setTop (mkF m 369 #[.val (.long ua), .second, .val (.long va), .second, .val (.long ub), .second, .val (.long vb), .second, .val (.long x4), .second, .val (.int x5), .val (.int (v0_cap x5)), .val (.long (v0_m x5)), .second, .val (.long (v0_span x5)), .second, .val (.int (v0_n x5)), .val (.ref dd), .val (.int (v0_k x5)), .val (.long qh), .second, .val (.long ql), .second, .unset] []))
        refine g_iconst X0 hx (0 : Int32) 370 (hb hby at_369) rfl rfl ?_
        show Go p e below s _ _ _ (T0.setTop (mkF m 370 #[.val (.long ua), .second, .val (.long va), .second, .val (.long ub), .second, .val (.long vb), .second, .val (.long x4), .second, .val (.int x5), .val (.int (v0_cap x5)), .val (.long (v0_m x5)), .second, .val (.long (v0_span x5)), .second, .val (.int (v0_n x5)), .val (.ref dd), .val (.int (v0_k x5)), .val (.long qh), .second, .val (.long ql), .second, .unset] [(.int (0 : Int32))]))
        refine g_istore X0 hx #[.val (.long ua), .second, .val (.long va), .second, .val (.long ub), .second, .val (.long vb), .second, .val (.long x4), .second, .val (.int x5), .val (.int (v0_cap x5)), .val (.long (v0_m x5)), .second, .val (.long (v0_span x5)), .second, .val (.int (v0_n x5)), .val (.ref dd), .val (.int (v0_k x5)), .val (.long qh), .second, .val (.long ql), .second, .val (.int (0 : Int32))] 372 (hb hby at_370) rfl rfl ?_
        show Go p e below s _ _ _ (T0.setTop (mkF m 372 #[.val (.long ua), .second, .val (.long va), .second, .val (.long ub), .second, .val (.long vb), .second, .val (.long x4), .second, .val (.int x5), .val (.int (v0_cap x5)), .val (.long (v0_m x5)), .second, .val (.long (v0_span x5)), .second, .val (.int (v0_n x5)), .val (.ref dd), .val (.int (v0_k x5)), .val (.long qh), .second, .val (.long ql), .second, .val (.int (0 : Int32))] []))
        exact sg0_372 l Z a0 hw hx hby hml hret hlk hown hnm hZ x0 x1 x2 x3 x4 x5 h0 n0  ua va ub vb dd a1 a2 sz hi lo cc qh ql (0 : Int32) _ _ _ X0 e0 Z0 N0 P0 P1 P2 P3 P4 P5 P6 P7 P8 P9 P10 P11 P12 P13 he1 he2 hT hc hq (Or.inr ⟨rfl, fun o => by rcases o with ⟨oa, ob, oc⟩ | ⟨oa, ob, oc⟩ <;> contradiction⟩)
      · show Go p e below s _ _ _ (T0.setTop (mkF m 349 #[.val (.long ua), .second, .val (.long va), .second, .val (.long ub), .second, .val (.long vb), .second, .val (.long x4), .second, .val (.int x5), .val (.int (v0_cap x5)), .val (.long (v0_m x5)), .second, .val (.long (v0_span x5)), .second, .val (.int (v0_n x5)), .val (.ref dd), .val (.int (v0_k x5)), .val (.long qh), .second, .val (.long ql), .second, .unset] []))
        refine g_lload X0 hx 351 (hb hby at_349) rfl rfl ?_
        show Go p e below s _ _ _ (T0.setTop (mkF m 351 #[.val (.long ua), .second, .val (.long va), .second, .val (.long ub), .second, .val (.long vb), .second, .val (.long x4), .second, .val (.int x5), .val (.int (v0_cap x5)), .val (.long (v0_m x5)), .second, .val (.long (v0_span x5)), .second, .val (.int (v0_n x5)), .val (.ref dd), .val (.int (v0_k x5)), .val (.long qh), .second, .val (.long ql), .second, .unset] [(.long qh)]))
        refine g_lload X0 hx 353 (hb hby at_351) rfl rfl ?_
        show Go p e below s _ _ _ (T0.setTop (mkF m 353 #[.val (.long ua), .second, .val (.long va), .second, .val (.long ub), .second, .val (.long vb), .second, .val (.long x4), .second, .val (.int x5), .val (.int (v0_cap x5)), .val (.long (v0_m x5)), .second, .val (.long (v0_span x5)), .second, .val (.int (v0_n x5)), .val (.ref dd), .val (.int (v0_k x5)), .val (.long qh), .second, .val (.long ql), .second, .unset] [(.long ub), (.long qh)]))
        refine g_lcmp X0 hx 354 (hb hby at_353) rfl ?_
        show Go p e below s _ _ _ (T0.setTop (mkF m 354 #[.val (.long ua), .second, .val (.long va), .second, .val (.long ub), .second, .val (.long vb), .second, .val (.long x4), .second, .val (.int x5), .val (.int (v0_cap x5)), .val (.long (v0_m x5)), .second, .val (.long (v0_span x5)), .second, .val (.int (v0_n x5)), .val (.ref dd), .val (.int (v0_k x5)), .val (.long qh), .second, .val (.long ql), .second, .unset] [(.int (lcmpW qh ub))]))
        refine g_lc_ne X0 hx 369 357 (hb hby at_354) (by decide) rfl rfl (fun h13 => ?_) (fun h13 => ?_)
        · show Go p e below s _ _ _ (T0.setTop (mkF m 357 #[.val (.long ua), .second, .val (.long va), .second, .val (.long ub), .second, .val (.long vb), .second, .val (.long x4), .second, .val (.int x5), .val (.int (v0_cap x5)), .val (.long (v0_m x5)), .second, .val (.long (v0_span x5)), .second, .val (.int (v0_n x5)), .val (.ref dd), .val (.int (v0_k x5)), .val (.long qh), .second, .val (.long ql), .second, .unset] []))
          refine g_lload X0 hx 359 (hb hby at_357) rfl rfl ?_
          show Go p e below s _ _ _ (T0.setTop (mkF m 359 #[.val (.long ua), .second, .val (.long va), .second, .val (.long ub), .second, .val (.long vb), .second, .val (.long x4), .second, .val (.int x5), .val (.int (v0_cap x5)), .val (.long (v0_m x5)), .second, .val (.long (v0_span x5)), .second, .val (.int (v0_n x5)), .val (.ref dd), .val (.int (v0_k x5)), .val (.long qh), .second, .val (.long ql), .second, .unset] [(.long ql)]))
          refine g_lload X0 hx 361 (hb hby at_359) rfl rfl ?_
          show Go p e below s _ _ _ (T0.setTop (mkF m 361 #[.val (.long ua), .second, .val (.long va), .second, .val (.long ub), .second, .val (.long vb), .second, .val (.long x4), .second, .val (.int x5), .val (.int (v0_cap x5)), .val (.long (v0_m x5)), .second, .val (.long (v0_span x5)), .second, .val (.int (v0_n x5)), .val (.ref dd), .val (.int (v0_k x5)), .val (.long qh), .second, .val (.long ql), .second, .unset] [(.long vb), (.long ql)]))
          refine g_lcmp X0 hx 362 (hb hby at_361) rfl ?_
          show Go p e below s _ _ _ (T0.setTop (mkF m 362 #[.val (.long ua), .second, .val (.long va), .second, .val (.long ub), .second, .val (.long vb), .second, .val (.long x4), .second, .val (.int x5), .val (.int (v0_cap x5)), .val (.long (v0_m x5)), .second, .val (.long (v0_span x5)), .second, .val (.int (v0_n x5)), .val (.ref dd), .val (.int (v0_k x5)), .val (.long qh), .second, .val (.long ql), .second, .unset] [(.int (lcmpW ql vb))]))
          refine g_lc_ne X0 hx 369 365 (hb hby at_362) (by decide) rfl rfl (fun h14 => ?_) (fun h14 => ?_)
          · show Go p e below s _ _ _ (T0.setTop (mkF m 365 #[.val (.long ua), .second, .val (.long va), .second, .val (.long ub), .second, .val (.long vb), .second, .val (.long x4), .second, .val (.int x5), .val (.int (v0_cap x5)), .val (.long (v0_m x5)), .second, .val (.long (v0_span x5)), .second, .val (.int (v0_n x5)), .val (.ref dd), .val (.int (v0_k x5)), .val (.long qh), .second, .val (.long ql), .second, .unset] []))
            refine g_iconst X0 hx (1 : Int32) 366 (hb hby at_365) rfl rfl ?_
            show Go p e below s _ _ _ (T0.setTop (mkF m 366 #[.val (.long ua), .second, .val (.long va), .second, .val (.long ub), .second, .val (.long vb), .second, .val (.long x4), .second, .val (.int x5), .val (.int (v0_cap x5)), .val (.long (v0_m x5)), .second, .val (.long (v0_span x5)), .second, .val (.int (v0_n x5)), .val (.ref dd), .val (.int (v0_k x5)), .val (.long qh), .second, .val (.long ql), .second, .unset] [(.int (1 : Int32))]))
            refine g_goto X0 hx 370 (hb hby at_366) (by decide) rfl ?_
            show Go p e below s _ _ _ (T0.setTop (mkF m 370 #[.val (.long ua), .second, .val (.long va), .second, .val (.long ub), .second, .val (.long vb), .second, .val (.long x4), .second, .val (.int x5), .val (.int (v0_cap x5)), .val (.long (v0_m x5)), .second, .val (.long (v0_span x5)), .second, .val (.int (v0_n x5)), .val (.ref dd), .val (.int (v0_k x5)), .val (.long qh), .second, .val (.long ql), .second, .unset] [(.int (1 : Int32))]))
            refine g_istore X0 hx #[.val (.long ua), .second, .val (.long va), .second, .val (.long ub), .second, .val (.long vb), .second, .val (.long x4), .second, .val (.int x5), .val (.int (v0_cap x5)), .val (.long (v0_m x5)), .second, .val (.long (v0_span x5)), .second, .val (.int (v0_n x5)), .val (.ref dd), .val (.int (v0_k x5)), .val (.long qh), .second, .val (.long ql), .second, .val (.int (1 : Int32))] 372 (hb hby at_370) rfl rfl ?_
            show Go p e below s _ _ _ (T0.setTop (mkF m 372 #[.val (.long ua), .second, .val (.long va), .second, .val (.long ub), .second, .val (.long vb), .second, .val (.long x4), .second, .val (.int x5), .val (.int (v0_cap x5)), .val (.long (v0_m x5)), .second, .val (.long (v0_span x5)), .second, .val (.int (v0_n x5)), .val (.ref dd), .val (.int (v0_k x5)), .val (.long qh), .second, .val (.long ql), .second, .val (.int (1 : Int32))] []))
            exact sg0_372 l Z a0 hw hx hby hml hret hlk hown hnm hZ x0 x1 x2 x3 x4 x5 h0 n0  ua va ub vb dd a1 a2 sz hi lo cc qh ql (1 : Int32) _ _ _ X0 e0 Z0 N0 P0 P1 P2 P3 P4 P5 P6 P7 P8 P9 P10 P11 P12 P13 he1 he2 hT hc hq (Or.inl ⟨rfl, Or.inr ⟨h12, h13, h14⟩⟩)
          · show Go p e below s _ _ _ (T0.setTop (mkF m 369 #[.val (.long ua), .second, .val (.long va), .second, .val (.long ub), .second, .val (.long vb), .second, .val (.long x4), .second, .val (.int x5), .val (.int (v0_cap x5)), .val (.long (v0_m x5)), .second, .val (.long (v0_span x5)), .second, .val (.int (v0_n x5)), .val (.ref dd), .val (.int (v0_k x5)), .val (.long qh), .second, .val (.long ql), .second, .unset] []))
            refine g_iconst X0 hx (0 : Int32) 370 (hb hby at_369) rfl rfl ?_
            show Go p e below s _ _ _ (T0.setTop (mkF m 370 #[.val (.long ua), .second, .val (.long va), .second, .val (.long ub), .second, .val (.long vb), .second, .val (.long x4), .second, .val (.int x5), .val (.int (v0_cap x5)), .val (.long (v0_m x5)), .second, .val (.long (v0_span x5)), .second, .val (.int (v0_n x5)), .val (.ref dd), .val (.int (v0_k x5)), .val (.long qh), .second, .val (.long ql), .second, .unset] [(.int (0 : Int32))]))
            refine g_istore X0 hx #[.val (.long ua), .second, .val (.long va), .second, .val (.long ub), .second, .val (.long vb), .second, .val (.long x4), .second, .val (.int x5), .val (.int (v0_cap x5)), .val (.long (v0_m x5)), .second, .val (.long (v0_span x5)), .second, .val (.int (v0_n x5)), .val (.ref dd), .val (.int (v0_k x5)), .val (.long qh), .second, .val (.long ql), .second, .val (.int (0 : Int32))] 372 (hb hby at_370) rfl rfl ?_
            show Go p e below s _ _ _ (T0.setTop (mkF m 372 #[.val (.long ua), .second, .val (.long va), .second, .val (.long ub), .second, .val (.long vb), .second, .val (.long x4), .second, .val (.int x5), .val (.int (v0_cap x5)), .val (.long (v0_m x5)), .second, .val (.long (v0_span x5)), .second, .val (.int (v0_n x5)), .val (.ref dd), .val (.int (v0_k x5)), .val (.long qh), .second, .val (.long ql), .second, .val (.int (0 : Int32))] []))
            exact sg0_372 l Z a0 hw hx hby hml hret hlk hown hnm hZ x0 x1 x2 x3 x4 x5 h0 n0  ua va ub vb dd a1 a2 sz hi lo cc qh ql (0 : Int32) _ _ _ X0 e0 Z0 N0 P0 P1 P2 P3 P4 P5 P6 P7 P8 P9 P10 P11 P12 P13 he1 he2 hT hc hq (Or.inr ⟨rfl, fun o => by rcases o with ⟨oa, ob, oc⟩ | ⟨oa, ob, oc⟩ <;> contradiction⟩)
        · show Go p e below s _ _ _ (T0.setTop (mkF m 369 #[.val (.long ua), .second, .val (.long va), .second, .val (.long ub), .second, .val (.long vb), .second, .val (.long x4), .second, .val (.int x5), .val (.int (v0_cap x5)), .val (.long (v0_m x5)), .second, .val (.long (v0_span x5)), .second, .val (.int (v0_n x5)), .val (.ref dd), .val (.int (v0_k x5)), .val (.long qh), .second, .val (.long ql), .second, .unset] []))
          refine g_iconst X0 hx (0 : Int32) 370 (hb hby at_369) rfl rfl ?_
          show Go p e below s _ _ _ (T0.setTop (mkF m 370 #[.val (.long ua), .second, .val (.long va), .second, .val (.long ub), .second, .val (.long vb), .second, .val (.long x4), .second, .val (.int x5), .val (.int (v0_cap x5)), .val (.long (v0_m x5)), .second, .val (.long (v0_span x5)), .second, .val (.int (v0_n x5)), .val (.ref dd), .val (.int (v0_k x5)), .val (.long qh), .second, .val (.long ql), .second, .unset] [(.int (0 : Int32))]))
          refine g_istore X0 hx #[.val (.long ua), .second, .val (.long va), .second, .val (.long ub), .second, .val (.long vb), .second, .val (.long x4), .second, .val (.int x5), .val (.int (v0_cap x5)), .val (.long (v0_m x5)), .second, .val (.long (v0_span x5)), .second, .val (.int (v0_n x5)), .val (.ref dd), .val (.int (v0_k x5)), .val (.long qh), .second, .val (.long ql), .second, .val (.int (0 : Int32))] 372 (hb hby at_370) rfl rfl ?_
          show Go p e below s _ _ _ (T0.setTop (mkF m 372 #[.val (.long ua), .second, .val (.long va), .second, .val (.long ub), .second, .val (.long vb), .second, .val (.long x4), .second, .val (.int x5), .val (.int (v0_cap x5)), .val (.long (v0_m x5)), .second, .val (.long (v0_span x5)), .second, .val (.int (v0_n x5)), .val (.ref dd), .val (.int (v0_k x5)), .val (.long qh), .second, .val (.long ql), .second, .val (.int (0 : Int32))] []))
          exact sg0_372 l Z a0 hw hx hby hml hret hlk hown hnm hZ x0 x1 x2 x3 x4 x5 h0 n0  ua va ub vb dd a1 a2 sz hi lo cc qh ql (0 : Int32) _ _ _ X0 e0 Z0 N0 P0 P1 P2 P3 P4 P5 P6 P7 P8 P9 P10 P11 P12 P13 he1 he2 hT hc hq (Or.inr ⟨rfl, fun o => by rcases o with ⟨oa, ob, oc⟩ | ⟨oa, ob, oc⟩ <;> contradiction⟩)
set_option maxRecDepth 65536 in
set_option maxHeartbeats 40000000 in
theorem sg0_306 (l : Launch) (Z : State) (a0 : Array Value) (hw : ∀ d ∈ tables_1, d.before a0 Z = true) {p : Program} {e : Env} {s : State} {m : MethodId} {args : Array Value} {below : List Frame} {meth : Method} {c : Code} (hx : p.tables.exec = Jvm.exec) (hby : c.code = code) (hml : c.maxLocals = maxLocals) (hret : meth.sig.returnType = ret) (hlk : meth.locks = false) (hown : s.vm.findClass "com/example/itinerant_spider/itinerantspider/frontier/FingerprintTableContainsPinLaw" = some m.cls) (hnm : meth.name = "law") (hZ : Z.Warmed39 s.vm) (x0 : Int64) (x1 : Int64) (x2 : Int64) (x3 : Int64) (x4 : Int64) (x5 : Int32) (h0 : Heap) (n0 : Nat) : ∀  (ua : Int64) (va : Int64) (ub : Int64) (vb : Int64) (dd : Addr) (a1 : Addr) (a2 : Addr) (sz : Int32) (hi : Nat → Int64) (lo : Nat → Int64) (cc : Nat) (qh : Int64) (ql : Int64) (T0 : State) (locs : List Loc) (hS : Heap), Stand p l e room_1 s m args below meth c T0 locs 3 37 → T0.heap = hS → n0 ≤ hS.size → Fr n0 locs → Exa Z hS dd "com/example/itinerant_spider/itinerantspider/frontier/FingerprintTable" → Fld Z hS dd "com/example/itinerant_spider/itinerantspider/frontier/FingerprintTable" "capacity" "I" (.int (v0_cap x5)) → Fld Z hS dd "com/example/itinerant_spider/itinerantspider/frontier/FingerprintTable" "highs" "[J" (.ref a1) → Fld Z hS dd "com/example/itinerant_spider/itinerantspider/frontier/FingerprintTable" "lows" "[J" (.ref a2) → Fld Z hS dd "com/example/itinerant_spider/itinerantspider/frontier/FingerprintTable" "mask" "I" (.int (((2 : Int32) * (v0_cap x5)) - (1 : Int32))) → Fld Z hS dd "com/example/itinerant_spider/itinerantspider/frontier/FingerprintTable" "size" "I" (.int sz) → AJ Z hS a1 (own_N x5) hi → AJ Z hS a2 (own_N x5) lo → n0 ≤ dd → n0 ≤ a1 → n0 ≤ a2 → dd ≠ a1 → dd ≠ a2 → a1 ≠ a2 → (¬ (ua = 0 ∧ va = 0)) → (¬ (ub = 0 ∧ vb = 0)) → (own_T hi lo (own_N x5) (own_start (((2 : Int32) * (v0_cap x5)) - (1 : Int32)) va) (own_start (((2 : Int32) * (v0_cap x5)) - (1 : Int32)) vb) ua va ub vb cc) → ((v0_n x5 < 1 ∧ v0_n x5 < 2 ∧ cc = 0) ∨ (¬ v0_n x5 < 1 ∧ v0_n x5 < 2 ∧ cc = 1) ∨ (¬ v0_n x5 < 1 ∧ ¬ v0_n x5 < 2 ∧ cc = 2)) → Go p e below s (Q0 Z x0 x1 x2 x3 x4 x5 h0 n0) room_1.cells room_1.slots (T0.setTop (mkF m 306 #[.val (.long ua), .second, .val (.long va), .second, .val (.long ub), .second, .val (.long vb), .second, .val (.long x4), .second, .val (.int x5), .val (.int (v0_cap x5)), .val (.long (v0_m x5)), .second, .val (.long (v0_span x5)), .second, .val (.int (v0_n x5)), .val (.ref dd), .val (.int (v0_k x5)), .val (.long qh), .second, .val (.long ql), .second, .unset] [])) := by
  intro ua va ub vb dd a1 a2 sz hi lo cc qh ql T0 locs hS X0 e0 Z0 N0 P0 P1 P2 P3 P4 P5 P6 P7 P8 P9 P10 P11 P12 P13 he1 he2 hT hc
  refine g_lload X0 hx 308 (hb hby at_306) rfl rfl ?_
  show Go p e below s _ _ _ (T0.setTop (mkF m 308 #[.val (.long ua), .second, .val (.long va), .second, .val (.long ub), .second, .val (.long vb), .second, .val (.long x4), .second, .val (.int x5), .val (.int (v0_cap x5)), .val (.long (v0_m x5)), .second, .val (.long (v0_span x5)), .second, .val (.int (v0_n x5)), .val (.ref dd), .val (.int (v0_k x5)), .val (.long qh), .second, .val (.long ql), .second, .unset] [(.long qh)]))
  refine g_lconst X0 hx (0 : Int64) 309 (hb hby at_308) rfl rfl ?_
  show Go p e below s _ _ _ (T0.setTop (mkF m 309 #[.val (.long ua), .second, .val (.long va), .second, .val (.long ub), .second, .val (.long vb), .second, .val (.long x4), .second, .val (.int x5), .val (.int (v0_cap x5)), .val (.long (v0_m x5)), .second, .val (.long (v0_span x5)), .second, .val (.int (v0_n x5)), .val (.ref dd), .val (.int (v0_k x5)), .val (.long qh), .second, .val (.long ql), .second, .unset] [(.long (0 : Int64)), (.long qh)]))
  refine g_lcmp X0 hx 310 (hb hby at_309) rfl ?_
  show Go p e below s _ _ _ (T0.setTop (mkF m 310 #[.val (.long ua), .second, .val (.long va), .second, .val (.long ub), .second, .val (.long vb), .second, .val (.long x4), .second, .val (.int x5), .val (.int (v0_cap x5)), .val (.long (v0_m x5)), .second, .val (.long (v0_span x5)), .second, .val (.int (v0_n x5)), .val (.ref dd), .val (.int (v0_k x5)), .val (.long qh), .second, .val (.long ql), .second, .unset] [(.int (lcmpW qh (0 : Int64)))]))
  refine g_lc_ne X0 hx 323 313 (hb hby at_310) (by decide) rfl rfl (fun h15 => ?_) (fun h15 => ?_)
  · show Go p e below s _ _ _ (T0.setTop (mkF m 313 #[.val (.long ua), .second, .val (.long va), .second, .val (.long ub), .second, .val (.long vb), .second, .val (.long x4), .second, .val (.int x5), .val (.int (v0_cap x5)), .val (.long (v0_m x5)), .second, .val (.long (v0_span x5)), .second, .val (.int (v0_n x5)), .val (.ref dd), .val (.int (v0_k x5)), .val (.long qh), .second, .val (.long ql), .second, .unset] []))
    refine g_lload X0 hx 315 (hb hby at_313) rfl rfl ?_
    show Go p e below s _ _ _ (T0.setTop (mkF m 315 #[.val (.long ua), .second, .val (.long va), .second, .val (.long ub), .second, .val (.long vb), .second, .val (.long x4), .second, .val (.int x5), .val (.int (v0_cap x5)), .val (.long (v0_m x5)), .second, .val (.long (v0_span x5)), .second, .val (.int (v0_n x5)), .val (.ref dd), .val (.int (v0_k x5)), .val (.long qh), .second, .val (.long ql), .second, .unset] [(.long ql)]))
    refine g_lconst X0 hx (0 : Int64) 316 (hb hby at_315) rfl rfl ?_
    show Go p e below s _ _ _ (T0.setTop (mkF m 316 #[.val (.long ua), .second, .val (.long va), .second, .val (.long ub), .second, .val (.long vb), .second, .val (.long x4), .second, .val (.int x5), .val (.int (v0_cap x5)), .val (.long (v0_m x5)), .second, .val (.long (v0_span x5)), .second, .val (.int (v0_n x5)), .val (.ref dd), .val (.int (v0_k x5)), .val (.long qh), .second, .val (.long ql), .second, .unset] [(.long (0 : Int64)), (.long ql)]))
    refine g_lcmp X0 hx 317 (hb hby at_316) rfl ?_
    show Go p e below s _ _ _ (T0.setTop (mkF m 317 #[.val (.long ua), .second, .val (.long va), .second, .val (.long ub), .second, .val (.long vb), .second, .val (.long x4), .second, .val (.int x5), .val (.int (v0_cap x5)), .val (.long (v0_m x5)), .second, .val (.long (v0_span x5)), .second, .val (.int (v0_n x5)), .val (.ref dd), .val (.int (v0_k x5)), .val (.long qh), .second, .val (.long ql), .second, .unset] [(.int (lcmpW ql (0 : Int64)))]))
    refine g_lc_ne X0 hx 323 320 (hb hby at_317) (by decide) rfl rfl (fun h16 => ?_) (fun h16 => ?_)
    · show Go p e below s _ _ _ (T0.setTop (mkF m 320 #[.val (.long ua), .second, .val (.long va), .second, .val (.long ub), .second, .val (.long vb), .second, .val (.long x4), .second, .val (.int x5), .val (.int (v0_cap x5)), .val (.long (v0_m x5)), .second, .val (.long (v0_span x5)), .second, .val (.int (v0_n x5)), .val (.ref dd), .val (.int (v0_k x5)), .val (.long qh), .second, .val (.long ql), .second, .unset] []))
      refine g_lconst X0 hx (1 : Int64) 321 (hb hby at_320) rfl rfl ?_
      show Go p e below s _ _ _ (T0.setTop (mkF m 321 #[.val (.long ua), .second, .val (.long va), .second, .val (.long ub), .second, .val (.long vb), .second, .val (.long x4), .second, .val (.int x5), .val (.int (v0_cap x5)), .val (.long (v0_m x5)), .second, .val (.long (v0_span x5)), .second, .val (.int (v0_n x5)), .val (.ref dd), .val (.int (v0_k x5)), .val (.long qh), .second, .val (.long ql), .second, .unset] [(.long (1 : Int64))]))
      refine g_lstore X0 hx #[.val (.long ua), .second, .val (.long va), .second, .val (.long ub), .second, .val (.long vb), .second, .val (.long x4), .second, .val (.int x5), .val (.int (v0_cap x5)), .val (.long (v0_m x5)), .second, .val (.long (v0_span x5)), .second, .val (.int (v0_n x5)), .val (.ref dd), .val (.int (v0_k x5)), .val (.long (1 : Int64)), .second, .val (.long ql), .second, .unset] 323 (hb hby at_321) rfl rfl ?_
      show Go p e below s _ _ _ (T0.setTop (mkF m 323 #[.val (.long ua), .second, .val (.long va), .second, .val (.long ub), .second, .val (.long vb), .second, .val (.long x4), .second, .val (.int x5), .val (.int (v0_cap x5)), .val (.long (v0_m x5)), .second, .val (.long (v0_span x5)), .second, .val (.int (v0_n x5)), .val (.ref dd), .val (.int (v0_k x5)), .val (.long (1 : Int64)), .second, .val (.long ql), .second, .unset] []))
      exact sg0_323 l Z a0 hw hx hby hml hret hlk hown hnm hZ x0 x1 x2 x3 x4 x5 h0 n0  ua va ub vb dd a1 a2 sz hi lo cc (1 : Int64) ql _ _ _ X0 e0 Z0 N0 P0 P1 P2 P3 P4 P5 P6 P7 P8 P9 P10 P11 P12 P13 he1 he2 hT hc (fun q => absurd q.1 (by decide))
    · show Go p e below s _ _ _ (T0.setTop (mkF m 323 #[.val (.long ua), .second, .val (.long va), .second, .val (.long ub), .second, .val (.long vb), .second, .val (.long x4), .second, .val (.int x5), .val (.int (v0_cap x5)), .val (.long (v0_m x5)), .second, .val (.long (v0_span x5)), .second, .val (.int (v0_n x5)), .val (.ref dd), .val (.int (v0_k x5)), .val (.long qh), .second, .val (.long ql), .second, .unset] []))
      exact sg0_323 l Z a0 hw hx hby hml hret hlk hown hnm hZ x0 x1 x2 x3 x4 x5 h0 n0  ua va ub vb dd a1 a2 sz hi lo cc qh ql _ _ _ X0 e0 Z0 N0 P0 P1 P2 P3 P4 P5 P6 P7 P8 P9 P10 P11 P12 P13 he1 he2 hT hc (fun q => h16 q.2)
  · show Go p e below s _ _ _ (T0.setTop (mkF m 323 #[.val (.long ua), .second, .val (.long va), .second, .val (.long ub), .second, .val (.long vb), .second, .val (.long x4), .second, .val (.int x5), .val (.int (v0_cap x5)), .val (.long (v0_m x5)), .second, .val (.long (v0_span x5)), .second, .val (.int (v0_n x5)), .val (.ref dd), .val (.int (v0_k x5)), .val (.long qh), .second, .val (.long ql), .second, .unset] []))
    exact sg0_323 l Z a0 hw hx hby hml hret hlk hown hnm hZ x0 x1 x2 x3 x4 x5 h0 n0  ua va ub vb dd a1 a2 sz hi lo cc qh ql _ _ _ X0 e0 Z0 N0 P0 P1 P2 P3 P4 P5 P6 P7 P8 P9 P10 P11 P12 P13 he1 he2 hT hc (fun q => h15 q.1)
set_option maxRecDepth 65536 in
set_option maxHeartbeats 40000000 in
theorem sg0_171 (l : Launch) (Z : State) (a0 : Array Value) (hw : ∀ d ∈ tables_1, d.before a0 Z = true) {p : Program} {e : Env} {s : State} {m : MethodId} {args : Array Value} {below : List Frame} {meth : Method} {c : Code} (hx : p.tables.exec = Jvm.exec) (hby : c.code = code) (hml : c.maxLocals = maxLocals) (hret : meth.sig.returnType = ret) (hlk : meth.locks = false) (hown : s.vm.findClass "com/example/itinerant_spider/itinerantspider/frontier/FingerprintTableContainsPinLaw" = some m.cls) (hnm : meth.name = "law") (hZ : Z.Warmed39 s.vm) (x0 : Int64) (x1 : Int64) (x2 : Int64) (x3 : Int64) (x4 : Int64) (x5 : Int32) (h0 : Heap) (n0 : Nat) : ∀  (ua : Int64) (va : Int64) (ub : Int64) (vb : Int64) (dd : Addr) (a1 : Addr) (a2 : Addr) (sz : Int32) (hi : Nat → Int64) (lo : Nat → Int64) (cc : Nat) (T0 : State) (locs : List Loc) (hS : Heap), Stand p l e room_1 s m args below meth c T0 locs 3 37 → T0.heap = hS → n0 ≤ hS.size → Fr n0 locs → Exa Z hS dd "com/example/itinerant_spider/itinerantspider/frontier/FingerprintTable" → Fld Z hS dd "com/example/itinerant_spider/itinerantspider/frontier/FingerprintTable" "capacity" "I" (.int (v0_cap x5)) → Fld Z hS dd "com/example/itinerant_spider/itinerantspider/frontier/FingerprintTable" "highs" "[J" (.ref a1) → Fld Z hS dd "com/example/itinerant_spider/itinerantspider/frontier/FingerprintTable" "lows" "[J" (.ref a2) → Fld Z hS dd "com/example/itinerant_spider/itinerantspider/frontier/FingerprintTable" "mask" "I" (.int (((2 : Int32) * (v0_cap x5)) - (1 : Int32))) → Fld Z hS dd "com/example/itinerant_spider/itinerantspider/frontier/FingerprintTable" "size" "I" (.int sz) → AJ Z hS a1 (own_N x5) hi → AJ Z hS a2 (own_N x5) lo → n0 ≤ dd → n0 ≤ a1 → n0 ≤ a2 → dd ≠ a1 → dd ≠ a2 → a1 ≠ a2 → (¬ (ua = 0 ∧ va = 0)) → (¬ (ub = 0 ∧ vb = 0)) → (own_T hi lo (own_N x5) (own_start (((2 : Int32) * (v0_cap x5)) - (1 : Int32)) va) (own_start (((2 : Int32) * (v0_cap x5)) - (1 : Int32)) vb) ua va ub vb cc) → ((v0_n x5 < 1 ∧ v0_n x5 < 2 ∧ cc = 0) ∨ (¬ v0_n x5 < 1 ∧ v0_n x5 < 2 ∧ cc = 1) ∨ (¬ v0_n x5 < 1 ∧ ¬ v0_n x5 < 2 ∧ cc = 2)) → Go p e below s (Q0 Z x0 x1 x2 x3 x4 x5 h0 n0) room_1.cells room_1.slots (T0.setTop (mkF m 171 #[.val (.long ua), .second, .val (.long va), .second, .val (.long ub), .second, .val (.long vb), .second, .val (.long x4), .second, .val (.int x5), .val (.int (v0_cap x5)), .val (.long (v0_m x5)), .second, .val (.long (v0_span x5)), .second, .val (.int (v0_n x5)), .val (.ref dd), .unset, .unset, .unset, .unset, .unset, .unset] [])) := by
  intro ua va ub vb dd a1 a2 sz hi lo cc T0 locs hS X0 e0 Z0 N0 P0 P1 P2 P3 P4 P5 P6 P7 P8 P9 P10 P11 P12 P13 he1 he2 hT hc
  refine g_iload X0 hx 173 (hb hby at_171) rfl rfl ?_
  show Go p e below s _ _ _ (T0.setTop (mkF m 173 #[.val (.long ua), .second, .val (.long va), .second, .val (.long ub), .second, .val (.long vb), .second, .val (.long x4), .second, .val (.int x5), .val (.int (v0_cap x5)), .val (.long (v0_m x5)), .second, .val (.long (v0_span x5)), .second, .val (.int (v0_n x5)), .val (.ref dd), .unset, .unset, .unset, .unset, .unset, .unset] [(.int x5)]))
  refine g_bipush X0 hx (7 : Int32) 175 (hb hby at_173) rfl rfl ?_
  show Go p e below s _ _ _ (T0.setTop (mkF m 175 #[.val (.long ua), .second, .val (.long va), .second, .val (.long ub), .second, .val (.long vb), .second, .val (.long x4), .second, .val (.int x5), .val (.int (v0_cap x5)), .val (.long (v0_m x5)), .second, .val (.long (v0_span x5)), .second, .val (.int (v0_n x5)), .val (.ref dd), .unset, .unset, .unset, .unset, .unset, .unset] [(.int (7 : Int32)), (.int x5)]))
  refine g_iand X0 hx 176 (hb hby at_175) rfl ?_
  show Go p e below s _ _ _ (T0.setTop (mkF m 176 #[.val (.long ua), .second, .val (.long va), .second, .val (.long ub), .second, .val (.long vb), .second, .val (.long x4), .second, .val (.int x5), .val (.int (v0_cap x5)), .val (.long (v0_m x5)), .second, .val (.long (v0_span x5)), .second, .val (.int (v0_n x5)), .val (.ref dd), .unset, .unset, .unset, .unset, .unset, .unset] [(.int (x5 &&& (7 : Int32)))]))
  refine g_istore X0 hx #[.val (.long ua), .second, .val (.long va), .second, .val (.long ub), .second, .val (.long vb), .second, .val (.long x4), .second, .val (.int x5), .val (.int (v0_cap x5)), .val (.long (v0_m x5)), .second, .val (.long (v0_span x5)), .second, .val (.int (v0_n x5)), .val (.ref dd), .val (.int (v0_k x5)), .unset, .unset, .unset, .unset, .unset] 178 (hb hby at_176) rfl rfl ?_
  show Go p e below s _ _ _ (T0.setTop (mkF m 178 #[.val (.long ua), .second, .val (.long va), .second, .val (.long ub), .second, .val (.long vb), .second, .val (.long x4), .second, .val (.int x5), .val (.int (v0_cap x5)), .val (.long (v0_m x5)), .second, .val (.long (v0_span x5)), .second, .val (.int (v0_n x5)), .val (.ref dd), .val (.int (v0_k x5)), .unset, .unset, .unset, .unset, .unset] []))
  refine g_iload X0 hx 180 (hb hby at_178) rfl rfl ?_
  show Go p e below s _ _ _ (T0.setTop (mkF m 180 #[.val (.long ua), .second, .val (.long va), .second, .val (.long ub), .second, .val (.long vb), .second, .val (.long x4), .second, .val (.int x5), .val (.int (v0_cap x5)), .val (.long (v0_m x5)), .second, .val (.long (v0_span x5)), .second, .val (.int (v0_n x5)), .val (.ref dd), .val (.int (v0_k x5)), .unset, .unset, .unset, .unset, .unset] [(.int (v0_k x5))]))
  refine g_if0_ne X0 hx 192 183 (hb hby at_180) (by decide) rfl rfl (fun h17 => ?_) (fun h17 => ?_)
  · show Go p e below s _ _ _ (T0.setTop (mkF m 183 #[.val (.long ua), .second, .val (.long va), .second, .val (.long ub), .second, .val (.long vb), .second, .val (.long x4), .second, .val (.int x5), .val (.int (v0_cap x5)), .val (.long (v0_m x5)), .second, .val (.long (v0_span x5)), .second, .val (.int (v0_n x5)), .val (.ref dd), .val (.int (v0_k x5)), .unset, .unset, .unset, .unset, .unset] []))
    refine g_lloadN X0 hx 184 (hb hby at_183) rfl rfl ?_
    show Go p e below s _ _ _ (T0.setTop (mkF m 184 #[.val (.long ua), .second, .val (.long va), .second, .val (.long ub), .second, .val (.long vb), .second, .val (.long x4), .second, .val (.int x5), .val (.int (v0_cap x5)), .val (.long (v0_m x5)), .second, .val (.long (v0_span x5)), .second, .val (.int (v0_n x5)), .val (.ref dd), .val (.int (v0_k x5)), .unset, .unset, .unset, .unset, .unset] [(.long ua)]))
    refine g_lstore X0 hx #[.val (.long ua), .second, .val (.long va), .second, .val (.long ub), .second, .val (.long vb), .second, .val (.long x4), .second, .val (.int x5), .val (.int (v0_cap x5)), .val (.long (v0_m x5)), .second, .val (.long (v0_span x5)), .second, .val (.int (v0_n x5)), .val (.ref dd), .val (.int (v0_k x5)), .val (.long ua), .second, .unset, .unset, .unset] 186 (hb hby at_184) rfl rfl ?_
    show Go p e below s _ _ _ (T0.setTop (mkF m 186 #[.val (.long ua), .second, .val (.long va), .second, .val (.long ub), .second, .val (.long vb), .second, .val (.long x4), .second, .val (.int x5), .val (.int (v0_cap x5)), .val (.long (v0_m x5)), .second, .val (.long (v0_span x5)), .second, .val (.int (v0_n x5)), .val (.ref dd), .val (.int (v0_k x5)), .val (.long ua), .second, .unset, .unset, .unset] []))
    refine g_lloadN X0 hx 187 (hb hby at_186) rfl rfl ?_
    show Go p e below s _ _ _ (T0.setTop (mkF m 187 #[.val (.long ua), .second, .val (.long va), .second, .val (.long ub), .second, .val (.long vb), .second, .val (.long x4), .second, .val (.int x5), .val (.int (v0_cap x5)), .val (.long (v0_m x5)), .second, .val (.long (v0_span x5)), .second, .val (.int (v0_n x5)), .val (.ref dd), .val (.int (v0_k x5)), .val (.long ua), .second, .unset, .unset, .unset] [(.long va)]))
    refine g_lstore X0 hx #[.val (.long ua), .second, .val (.long va), .second, .val (.long ub), .second, .val (.long vb), .second, .val (.long x4), .second, .val (.int x5), .val (.int (v0_cap x5)), .val (.long (v0_m x5)), .second, .val (.long (v0_span x5)), .second, .val (.int (v0_n x5)), .val (.ref dd), .val (.int (v0_k x5)), .val (.long ua), .second, .val (.long va), .second, .unset] 189 (hb hby at_187) rfl rfl ?_
    show Go p e below s _ _ _ (T0.setTop (mkF m 189 #[.val (.long ua), .second, .val (.long va), .second, .val (.long ub), .second, .val (.long vb), .second, .val (.long x4), .second, .val (.int x5), .val (.int (v0_cap x5)), .val (.long (v0_m x5)), .second, .val (.long (v0_span x5)), .second, .val (.int (v0_n x5)), .val (.ref dd), .val (.int (v0_k x5)), .val (.long ua), .second, .val (.long va), .second, .unset] []))
    refine g_goto X0 hx 306 (hb hby at_189) (by decide) rfl ?_
    show Go p e below s _ _ _ (T0.setTop (mkF m 306 #[.val (.long ua), .second, .val (.long va), .second, .val (.long ub), .second, .val (.long vb), .second, .val (.long x4), .second, .val (.int x5), .val (.int (v0_cap x5)), .val (.long (v0_m x5)), .second, .val (.long (v0_span x5)), .second, .val (.int (v0_n x5)), .val (.ref dd), .val (.int (v0_k x5)), .val (.long ua), .second, .val (.long va), .second, .unset] []))
    exact sg0_306 l Z a0 hw hx hby hml hret hlk hown hnm hZ x0 x1 x2 x3 x4 x5 h0 n0  ua va ub vb dd a1 a2 sz hi lo cc ua va _ _ _ X0 e0 Z0 N0 P0 P1 P2 P3 P4 P5 P6 P7 P8 P9 P10 P11 P12 P13 he1 he2 hT hc
  · show Go p e below s _ _ _ (T0.setTop (mkF m 192 #[.val (.long ua), .second, .val (.long va), .second, .val (.long ub), .second, .val (.long vb), .second, .val (.long x4), .second, .val (.int x5), .val (.int (v0_cap x5)), .val (.long (v0_m x5)), .second, .val (.long (v0_span x5)), .second, .val (.int (v0_n x5)), .val (.ref dd), .val (.int (v0_k x5)), .unset, .unset, .unset, .unset, .unset] []))
    refine g_iload X0 hx 194 (hb hby at_192) rfl rfl ?_
    show Go p e below s _ _ _ (T0.setTop (mkF m 194 #[.val (.long ua), .second, .val (.long va), .second, .val (.long ub), .second, .val (.long vb), .second, .val (.long x4), .second, .val (.int x5), .val (.int (v0_cap x5)), .val (.long (v0_m x5)), .second, .val (.long (v0_span x5)), .second, .val (.int (v0_n x5)), .val (.ref dd), .val (.int (v0_k x5)), .unset, .unset, .unset, .unset, .unset] [(.int (v0_k x5))]))
    refine g_iconst X0 hx (1 : Int32) 195 (hb hby at_194) rfl rfl ?_
    show Go p e below s _ _ _ (T0.setTop (mkF m 195 #[.val (.long ua), .second, .val (.long va), .second, .val (.long ub), .second, .val (.long vb), .second, .val (.long x4), .second, .val (.int x5), .val (.int (v0_cap x5)), .val (.long (v0_m x5)), .second, .val (.long (v0_span x5)), .second, .val (.int (v0_n x5)), .val (.ref dd), .val (.int (v0_k x5)), .unset, .unset, .unset, .unset, .unset] [(.int (1 : Int32)), (.int (v0_k x5))]))
    refine g_icmp_ne X0 hx 209 198 (hb hby at_195) (by decide) rfl rfl (fun h18 => ?_) (fun h18 => ?_)
    · show Go p e below s _ _ _ (T0.setTop (mkF m 198 #[.val (.long ua), .second, .val (.long va), .second, .val (.long ub), .second, .val (.long vb), .second, .val (.long x4), .second, .val (.int x5), .val (.int (v0_cap x5)), .val (.long (v0_m x5)), .second, .val (.long (v0_span x5)), .second, .val (.int (v0_n x5)), .val (.ref dd), .val (.int (v0_k x5)), .unset, .unset, .unset, .unset, .unset] []))
      refine g_lload X0 hx 200 (hb hby at_198) rfl rfl ?_
      show Go p e below s _ _ _ (T0.setTop (mkF m 200 #[.val (.long ua), .second, .val (.long va), .second, .val (.long ub), .second, .val (.long vb), .second, .val (.long x4), .second, .val (.int x5), .val (.int (v0_cap x5)), .val (.long (v0_m x5)), .second, .val (.long (v0_span x5)), .second, .val (.int (v0_n x5)), .val (.ref dd), .val (.int (v0_k x5)), .unset, .unset, .unset, .unset, .unset] [(.long ub)]))
      refine g_lstore X0 hx #[.val (.long ua), .second, .val (.long va), .second, .val (.long ub), .second, .val (.long vb), .second, .val (.long x4), .second, .val (.int x5), .val (.int (v0_cap x5)), .val (.long (v0_m x5)), .second, .val (.long (v0_span x5)), .second, .val (.int (v0_n x5)), .val (.ref dd), .val (.int (v0_k x5)), .val (.long ub), .second, .unset, .unset, .unset] 202 (hb hby at_200) rfl rfl ?_
      show Go p e below s _ _ _ (T0.setTop (mkF m 202 #[.val (.long ua), .second, .val (.long va), .second, .val (.long ub), .second, .val (.long vb), .second, .val (.long x4), .second, .val (.int x5), .val (.int (v0_cap x5)), .val (.long (v0_m x5)), .second, .val (.long (v0_span x5)), .second, .val (.int (v0_n x5)), .val (.ref dd), .val (.int (v0_k x5)), .val (.long ub), .second, .unset, .unset, .unset] []))
      refine g_lload X0 hx 204 (hb hby at_202) rfl rfl ?_
      show Go p e below s _ _ _ (T0.setTop (mkF m 204 #[.val (.long ua), .second, .val (.long va), .second, .val (.long ub), .second, .val (.long vb), .second, .val (.long x4), .second, .val (.int x5), .val (.int (v0_cap x5)), .val (.long (v0_m x5)), .second, .val (.long (v0_span x5)), .second, .val (.int (v0_n x5)), .val (.ref dd), .val (.int (v0_k x5)), .val (.long ub), .second, .unset, .unset, .unset] [(.long vb)]))
      refine g_lstore X0 hx #[.val (.long ua), .second, .val (.long va), .second, .val (.long ub), .second, .val (.long vb), .second, .val (.long x4), .second, .val (.int x5), .val (.int (v0_cap x5)), .val (.long (v0_m x5)), .second, .val (.long (v0_span x5)), .second, .val (.int (v0_n x5)), .val (.ref dd), .val (.int (v0_k x5)), .val (.long ub), .second, .val (.long vb), .second, .unset] 206 (hb hby at_204) rfl rfl ?_
      show Go p e below s _ _ _ (T0.setTop (mkF m 206 #[.val (.long ua), .second, .val (.long va), .second, .val (.long ub), .second, .val (.long vb), .second, .val (.long x4), .second, .val (.int x5), .val (.int (v0_cap x5)), .val (.long (v0_m x5)), .second, .val (.long (v0_span x5)), .second, .val (.int (v0_n x5)), .val (.ref dd), .val (.int (v0_k x5)), .val (.long ub), .second, .val (.long vb), .second, .unset] []))
      refine g_goto X0 hx 306 (hb hby at_206) (by decide) rfl ?_
      show Go p e below s _ _ _ (T0.setTop (mkF m 306 #[.val (.long ua), .second, .val (.long va), .second, .val (.long ub), .second, .val (.long vb), .second, .val (.long x4), .second, .val (.int x5), .val (.int (v0_cap x5)), .val (.long (v0_m x5)), .second, .val (.long (v0_span x5)), .second, .val (.int (v0_n x5)), .val (.ref dd), .val (.int (v0_k x5)), .val (.long ub), .second, .val (.long vb), .second, .unset] []))
      exact sg0_306 l Z a0 hw hx hby hml hret hlk hown hnm hZ x0 x1 x2 x3 x4 x5 h0 n0  ua va ub vb dd a1 a2 sz hi lo cc ub vb _ _ _ X0 e0 Z0 N0 P0 P1 P2 P3 P4 P5 P6 P7 P8 P9 P10 P11 P12 P13 he1 he2 hT hc
    · show Go p e below s _ _ _ (T0.setTop (mkF m 209 #[.val (.long ua), .second, .val (.long va), .second, .val (.long ub), .second, .val (.long vb), .second, .val (.long x4), .second, .val (.int x5), .val (.int (v0_cap x5)), .val (.long (v0_m x5)), .second, .val (.long (v0_span x5)), .second, .val (.int (v0_n x5)), .val (.ref dd), .val (.int (v0_k x5)), .unset, .unset, .unset, .unset, .unset] []))
      refine g_iload X0 hx 211 (hb hby at_209) rfl rfl ?_
      show Go p e below s _ _ _ (T0.setTop (mkF m 211 #[.val (.long ua), .second, .val (.long va), .second, .val (.long ub), .second, .val (.long vb), .second, .val (.long x4), .second, .val (.int x5), .val (.int (v0_cap x5)), .val (.long (v0_m x5)), .second, .val (.long (v0_span x5)), .second, .val (.int (v0_n x5)), .val (.ref dd), .val (.int (v0_k x5)), .unset, .unset, .unset, .unset, .unset] [(.int (v0_k x5))]))
      refine g_iconst X0 hx (2 : Int32) 212 (hb hby at_211) rfl rfl ?_
      show Go p e below s _ _ _ (T0.setTop (mkF m 212 #[.val (.long ua), .second, .val (.long va), .second, .val (.long ub), .second, .val (.long vb), .second, .val (.long x4), .second, .val (.int x5), .val (.int (v0_cap x5)), .val (.long (v0_m x5)), .second, .val (.long (v0_span x5)), .second, .val (.int (v0_n x5)), .val (.ref dd), .val (.int (v0_k x5)), .unset, .unset, .unset, .unset, .unset] [(.int (2 : Int32)), (.int (v0_k x5))]))
      refine g_icmp_ne X0 hx 225 215 (hb hby at_212) (by decide) rfl rfl (fun h19 => ?_) (fun h19 => ?_)
      · show Go p e below s _ _ _ (T0.setTop (mkF m 215 #[.val (.long ua), .second, .val (.long va), .second, .val (.long ub), .second, .val (.long vb), .second, .val (.long x4), .second, .val (.int x5), .val (.int (v0_cap x5)), .val (.long (v0_m x5)), .second, .val (.long (v0_span x5)), .second, .val (.int (v0_n x5)), .val (.ref dd), .val (.int (v0_k x5)), .unset, .unset, .unset, .unset, .unset] []))
        refine g_lloadN X0 hx 216 (hb hby at_215) rfl rfl ?_
        show Go p e below s _ _ _ (T0.setTop (mkF m 216 #[.val (.long ua), .second, .val (.long va), .second, .val (.long ub), .second, .val (.long vb), .second, .val (.long x4), .second, .val (.int x5), .val (.int (v0_cap x5)), .val (.long (v0_m x5)), .second, .val (.long (v0_span x5)), .second, .val (.int (v0_n x5)), .val (.ref dd), .val (.int (v0_k x5)), .unset, .unset, .unset, .unset, .unset] [(.long ua)]))
        refine g_lstore X0 hx #[.val (.long ua), .second, .val (.long va), .second, .val (.long ub), .second, .val (.long vb), .second, .val (.long x4), .second, .val (.int x5), .val (.int (v0_cap x5)), .val (.long (v0_m x5)), .second, .val (.long (v0_span x5)), .second, .val (.int (v0_n x5)), .val (.ref dd), .val (.int (v0_k x5)), .val (.long ua), .second, .unset, .unset, .unset] 218 (hb hby at_216) rfl rfl ?_
        show Go p e below s _ _ _ (T0.setTop (mkF m 218 #[.val (.long ua), .second, .val (.long va), .second, .val (.long ub), .second, .val (.long vb), .second, .val (.long x4), .second, .val (.int x5), .val (.int (v0_cap x5)), .val (.long (v0_m x5)), .second, .val (.long (v0_span x5)), .second, .val (.int (v0_n x5)), .val (.ref dd), .val (.int (v0_k x5)), .val (.long ua), .second, .unset, .unset, .unset] []))
        refine g_lload X0 hx 220 (hb hby at_218) rfl rfl ?_
        show Go p e below s _ _ _ (T0.setTop (mkF m 220 #[.val (.long ua), .second, .val (.long va), .second, .val (.long ub), .second, .val (.long vb), .second, .val (.long x4), .second, .val (.int x5), .val (.int (v0_cap x5)), .val (.long (v0_m x5)), .second, .val (.long (v0_span x5)), .second, .val (.int (v0_n x5)), .val (.ref dd), .val (.int (v0_k x5)), .val (.long ua), .second, .unset, .unset, .unset] [(.long vb)]))
        refine g_lstore X0 hx #[.val (.long ua), .second, .val (.long va), .second, .val (.long ub), .second, .val (.long vb), .second, .val (.long x4), .second, .val (.int x5), .val (.int (v0_cap x5)), .val (.long (v0_m x5)), .second, .val (.long (v0_span x5)), .second, .val (.int (v0_n x5)), .val (.ref dd), .val (.int (v0_k x5)), .val (.long ua), .second, .val (.long vb), .second, .unset] 222 (hb hby at_220) rfl rfl ?_
        show Go p e below s _ _ _ (T0.setTop (mkF m 222 #[.val (.long ua), .second, .val (.long va), .second, .val (.long ub), .second, .val (.long vb), .second, .val (.long x4), .second, .val (.int x5), .val (.int (v0_cap x5)), .val (.long (v0_m x5)), .second, .val (.long (v0_span x5)), .second, .val (.int (v0_n x5)), .val (.ref dd), .val (.int (v0_k x5)), .val (.long ua), .second, .val (.long vb), .second, .unset] []))
        refine g_goto X0 hx 306 (hb hby at_222) (by decide) rfl ?_
        show Go p e below s _ _ _ (T0.setTop (mkF m 306 #[.val (.long ua), .second, .val (.long va), .second, .val (.long ub), .second, .val (.long vb), .second, .val (.long x4), .second, .val (.int x5), .val (.int (v0_cap x5)), .val (.long (v0_m x5)), .second, .val (.long (v0_span x5)), .second, .val (.int (v0_n x5)), .val (.ref dd), .val (.int (v0_k x5)), .val (.long ua), .second, .val (.long vb), .second, .unset] []))
        exact sg0_306 l Z a0 hw hx hby hml hret hlk hown hnm hZ x0 x1 x2 x3 x4 x5 h0 n0  ua va ub vb dd a1 a2 sz hi lo cc ua vb _ _ _ X0 e0 Z0 N0 P0 P1 P2 P3 P4 P5 P6 P7 P8 P9 P10 P11 P12 P13 he1 he2 hT hc
      · show Go p e below s _ _ _ (T0.setTop (mkF m 225 #[.val (.long ua), .second, .val (.long va), .second, .val (.long ub), .second, .val (.long vb), .second, .val (.long x4), .second, .val (.int x5), .val (.int (v0_cap x5)), .val (.long (v0_m x5)), .second, .val (.long (v0_span x5)), .second, .val (.int (v0_n x5)), .val (.ref dd), .val (.int (v0_k x5)), .unset, .unset, .unset, .unset, .unset] []))
        refine g_iload X0 hx 227 (hb hby at_225) rfl rfl ?_
        show Go p e below s _ _ _ (T0.setTop (mkF m 227 #[.val (.long ua), .second, .val (.long va), .second, .val (.long ub), .second, .val (.long vb), .second, .val (.long x4), .second, .val (.int x5), .val (.int (v0_cap x5)), .val (.long (v0_m x5)), .second, .val (.long (v0_span x5)), .second, .val (.int (v0_n x5)), .val (.ref dd), .val (.int (v0_k x5)), .unset, .unset, .unset, .unset, .unset] [(.int (v0_k x5))]))
        refine g_iconst X0 hx (3 : Int32) 228 (hb hby at_227) rfl rfl ?_
        show Go p e below s _ _ _ (T0.setTop (mkF m 228 #[.val (.long ua), .second, .val (.long va), .second, .val (.long ub), .second, .val (.long vb), .second, .val (.long x4), .second, .val (.int x5), .val (.int (v0_cap x5)), .val (.long (v0_m x5)), .second, .val (.long (v0_span x5)), .second, .val (.int (v0_n x5)), .val (.ref dd), .val (.int (v0_k x5)), .unset, .unset, .unset, .unset, .unset] [(.int (3 : Int32)), (.int (v0_k x5))]))
        refine g_icmp_ne X0 hx 241 231 (hb hby at_228) (by decide) rfl rfl (fun h20 => ?_) (fun h20 => ?_)
        · show Go p e below s _ _ _ (T0.setTop (mkF m 231 #[.val (.long ua), .second, .val (.long va), .second, .val (.long ub), .second, .val (.long vb), .second, .val (.long x4), .second, .val (.int x5), .val (.int (v0_cap x5)), .val (.long (v0_m x5)), .second, .val (.long (v0_span x5)), .second, .val (.int (v0_n x5)), .val (.ref dd), .val (.int (v0_k x5)), .unset, .unset, .unset, .unset, .unset] []))
          refine g_lload X0 hx 233 (hb hby at_231) rfl rfl ?_
          show Go p e below s _ _ _ (T0.setTop (mkF m 233 #[.val (.long ua), .second, .val (.long va), .second, .val (.long ub), .second, .val (.long vb), .second, .val (.long x4), .second, .val (.int x5), .val (.int (v0_cap x5)), .val (.long (v0_m x5)), .second, .val (.long (v0_span x5)), .second, .val (.int (v0_n x5)), .val (.ref dd), .val (.int (v0_k x5)), .unset, .unset, .unset, .unset, .unset] [(.long ub)]))
          refine g_lstore X0 hx #[.val (.long ua), .second, .val (.long va), .second, .val (.long ub), .second, .val (.long vb), .second, .val (.long x4), .second, .val (.int x5), .val (.int (v0_cap x5)), .val (.long (v0_m x5)), .second, .val (.long (v0_span x5)), .second, .val (.int (v0_n x5)), .val (.ref dd), .val (.int (v0_k x5)), .val (.long ub), .second, .unset, .unset, .unset] 235 (hb hby at_233) rfl rfl ?_
          show Go p e below s _ _ _ (T0.setTop (mkF m 235 #[.val (.long ua), .second, .val (.long va), .second, .val (.long ub), .second, .val (.long vb), .second, .val (.long x4), .second, .val (.int x5), .val (.int (v0_cap x5)), .val (.long (v0_m x5)), .second, .val (.long (v0_span x5)), .second, .val (.int (v0_n x5)), .val (.ref dd), .val (.int (v0_k x5)), .val (.long ub), .second, .unset, .unset, .unset] []))
          refine g_lloadN X0 hx 236 (hb hby at_235) rfl rfl ?_
          show Go p e below s _ _ _ (T0.setTop (mkF m 236 #[.val (.long ua), .second, .val (.long va), .second, .val (.long ub), .second, .val (.long vb), .second, .val (.long x4), .second, .val (.int x5), .val (.int (v0_cap x5)), .val (.long (v0_m x5)), .second, .val (.long (v0_span x5)), .second, .val (.int (v0_n x5)), .val (.ref dd), .val (.int (v0_k x5)), .val (.long ub), .second, .unset, .unset, .unset] [(.long va)]))
          refine g_lstore X0 hx #[.val (.long ua), .second, .val (.long va), .second, .val (.long ub), .second, .val (.long vb), .second, .val (.long x4), .second, .val (.int x5), .val (.int (v0_cap x5)), .val (.long (v0_m x5)), .second, .val (.long (v0_span x5)), .second, .val (.int (v0_n x5)), .val (.ref dd), .val (.int (v0_k x5)), .val (.long ub), .second, .val (.long va), .second, .unset] 238 (hb hby at_236) rfl rfl ?_
          show Go p e below s _ _ _ (T0.setTop (mkF m 238 #[.val (.long ua), .second, .val (.long va), .second, .val (.long ub), .second, .val (.long vb), .second, .val (.long x4), .second, .val (.int x5), .val (.int (v0_cap x5)), .val (.long (v0_m x5)), .second, .val (.long (v0_span x5)), .second, .val (.int (v0_n x5)), .val (.ref dd), .val (.int (v0_k x5)), .val (.long ub), .second, .val (.long va), .second, .unset] []))
          refine g_goto X0 hx 306 (hb hby at_238) (by decide) rfl ?_
          show Go p e below s _ _ _ (T0.setTop (mkF m 306 #[.val (.long ua), .second, .val (.long va), .second, .val (.long ub), .second, .val (.long vb), .second, .val (.long x4), .second, .val (.int x5), .val (.int (v0_cap x5)), .val (.long (v0_m x5)), .second, .val (.long (v0_span x5)), .second, .val (.int (v0_n x5)), .val (.ref dd), .val (.int (v0_k x5)), .val (.long ub), .second, .val (.long va), .second, .unset] []))
          exact sg0_306 l Z a0 hw hx hby hml hret hlk hown hnm hZ x0 x1 x2 x3 x4 x5 h0 n0  ua va ub vb dd a1 a2 sz hi lo cc ub va _ _ _ X0 e0 Z0 N0 P0 P1 P2 P3 P4 P5 P6 P7 P8 P9 P10 P11 P12 P13 he1 he2 hT hc
        · show Go p e below s _ _ _ (T0.setTop (mkF m 241 #[.val (.long ua), .second, .val (.long va), .second, .val (.long ub), .second, .val (.long vb), .second, .val (.long x4), .second, .val (.int x5), .val (.int (v0_cap x5)), .val (.long (v0_m x5)), .second, .val (.long (v0_span x5)), .second, .val (.int (v0_n x5)), .val (.ref dd), .val (.int (v0_k x5)), .unset, .unset, .unset, .unset, .unset] []))
          refine g_iload X0 hx 243 (hb hby at_241) rfl rfl ?_
          show Go p e below s _ _ _ (T0.setTop (mkF m 243 #[.val (.long ua), .second, .val (.long va), .second, .val (.long ub), .second, .val (.long vb), .second, .val (.long x4), .second, .val (.int x5), .val (.int (v0_cap x5)), .val (.long (v0_m x5)), .second, .val (.long (v0_span x5)), .second, .val (.int (v0_n x5)), .val (.ref dd), .val (.int (v0_k x5)), .unset, .unset, .unset, .unset, .unset] [(.int (v0_k x5))]))
          refine g_iconst X0 hx (4 : Int32) 244 (hb hby at_243) rfl rfl ?_
          show Go p e below s _ _ _ (T0.setTop (mkF m 244 #[.val (.long ua), .second, .val (.long va), .second, .val (.long ub), .second, .val (.long vb), .second, .val (.long x4), .second, .val (.int x5), .val (.int (v0_cap x5)), .val (.long (v0_m x5)), .second, .val (.long (v0_span x5)), .second, .val (.int (v0_n x5)), .val (.ref dd), .val (.int (v0_k x5)), .unset, .unset, .unset, .unset, .unset] [(.int (4 : Int32)), (.int (v0_k x5))]))
          refine g_icmp_ne X0 hx 259 247 (hb hby at_244) (by decide) rfl rfl (fun h21 => ?_) (fun h21 => ?_)
          · show Go p e below s _ _ _ (T0.setTop (mkF m 247 #[.val (.long ua), .second, .val (.long va), .second, .val (.long ub), .second, .val (.long vb), .second, .val (.long x4), .second, .val (.int x5), .val (.int (v0_cap x5)), .val (.long (v0_m x5)), .second, .val (.long (v0_span x5)), .second, .val (.int (v0_n x5)), .val (.ref dd), .val (.int (v0_k x5)), .unset, .unset, .unset, .unset, .unset] []))
            refine g_lloadN X0 hx 248 (hb hby at_247) rfl rfl ?_
            show Go p e below s _ _ _ (T0.setTop (mkF m 248 #[.val (.long ua), .second, .val (.long va), .second, .val (.long ub), .second, .val (.long vb), .second, .val (.long x4), .second, .val (.int x5), .val (.int (v0_cap x5)), .val (.long (v0_m x5)), .second, .val (.long (v0_span x5)), .second, .val (.int (v0_n x5)), .val (.ref dd), .val (.int (v0_k x5)), .unset, .unset, .unset, .unset, .unset] [(.long ua)]))
            refine g_lstore X0 hx #[.val (.long ua), .second, .val (.long va), .second, .val (.long ub), .second, .val (.long vb), .second, .val (.long x4), .second, .val (.int x5), .val (.int (v0_cap x5)), .val (.long (v0_m x5)), .second, .val (.long (v0_span x5)), .second, .val (.int (v0_n x5)), .val (.ref dd), .val (.int (v0_k x5)), .val (.long ua), .second, .unset, .unset, .unset] 250 (hb hby at_248) rfl rfl ?_
            show Go p e below s _ _ _ (T0.setTop (mkF m 250 #[.val (.long ua), .second, .val (.long va), .second, .val (.long ub), .second, .val (.long vb), .second, .val (.long x4), .second, .val (.int x5), .val (.int (v0_cap x5)), .val (.long (v0_m x5)), .second, .val (.long (v0_span x5)), .second, .val (.int (v0_n x5)), .val (.ref dd), .val (.int (v0_k x5)), .val (.long ua), .second, .unset, .unset, .unset] []))
            refine g_lloadN X0 hx 251 (hb hby at_250) rfl rfl ?_
            show Go p e below s _ _ _ (T0.setTop (mkF m 251 #[.val (.long ua), .second, .val (.long va), .second, .val (.long ub), .second, .val (.long vb), .second, .val (.long x4), .second, .val (.int x5), .val (.int (v0_cap x5)), .val (.long (v0_m x5)), .second, .val (.long (v0_span x5)), .second, .val (.int (v0_n x5)), .val (.ref dd), .val (.int (v0_k x5)), .val (.long ua), .second, .unset, .unset, .unset] [(.long va)]))
            refine g_lload X0 hx 253 (hb hby at_251) rfl rfl ?_
            show Go p e below s _ _ _ (T0.setTop (mkF m 253 #[.val (.long ua), .second, .val (.long va), .second, .val (.long ub), .second, .val (.long vb), .second, .val (.long x4), .second, .val (.int x5), .val (.int (v0_cap x5)), .val (.long (v0_m x5)), .second, .val (.long (v0_span x5)), .second, .val (.int (v0_n x5)), .val (.ref dd), .val (.int (v0_k x5)), .val (.long ua), .second, .unset, .unset, .unset] [(.long (v0_span x5)), (.long va)]))
            refine g_lxor X0 hx 254 (hb hby at_253) rfl ?_
            show Go p e below s _ _ _ (T0.setTop (mkF m 254 #[.val (.long ua), .second, .val (.long va), .second, .val (.long ub), .second, .val (.long vb), .second, .val (.long x4), .second, .val (.int x5), .val (.int (v0_cap x5)), .val (.long (v0_m x5)), .second, .val (.long (v0_span x5)), .second, .val (.int (v0_n x5)), .val (.ref dd), .val (.int (v0_k x5)), .val (.long ua), .second, .unset, .unset, .unset] [(.long (va ^^^ (v0_span x5)))]))
            refine g_lstore X0 hx #[.val (.long ua), .second, .val (.long va), .second, .val (.long ub), .second, .val (.long vb), .second, .val (.long x4), .second, .val (.int x5), .val (.int (v0_cap x5)), .val (.long (v0_m x5)), .second, .val (.long (v0_span x5)), .second, .val (.int (v0_n x5)), .val (.ref dd), .val (.int (v0_k x5)), .val (.long ua), .second, .val (.long (va ^^^ (v0_span x5))), .second, .unset] 256 (hb hby at_254) rfl rfl ?_
            show Go p e below s _ _ _ (T0.setTop (mkF m 256 #[.val (.long ua), .second, .val (.long va), .second, .val (.long ub), .second, .val (.long vb), .second, .val (.long x4), .second, .val (.int x5), .val (.int (v0_cap x5)), .val (.long (v0_m x5)), .second, .val (.long (v0_span x5)), .second, .val (.int (v0_n x5)), .val (.ref dd), .val (.int (v0_k x5)), .val (.long ua), .second, .val (.long (va ^^^ (v0_span x5))), .second, .unset] []))
            refine g_goto X0 hx 306 (hb hby at_256) (by decide) rfl ?_
            show Go p e below s _ _ _ (T0.setTop (mkF m 306 #[.val (.long ua), .second, .val (.long va), .second, .val (.long ub), .second, .val (.long vb), .second, .val (.long x4), .second, .val (.int x5), .val (.int (v0_cap x5)), .val (.long (v0_m x5)), .second, .val (.long (v0_span x5)), .second, .val (.int (v0_n x5)), .val (.ref dd), .val (.int (v0_k x5)), .val (.long ua), .second, .val (.long (va ^^^ (v0_span x5))), .second, .unset] []))
            exact sg0_306 l Z a0 hw hx hby hml hret hlk hown hnm hZ x0 x1 x2 x3 x4 x5 h0 n0  ua va ub vb dd a1 a2 sz hi lo cc ua (va ^^^ (v0_span x5)) _ _ _ X0 e0 Z0 N0 P0 P1 P2 P3 P4 P5 P6 P7 P8 P9 P10 P11 P12 P13 he1 he2 hT hc
          · show Go p e below s _ _ _ (T0.setTop (mkF m 259 #[.val (.long ua), .second, .val (.long va), .second, .val (.long ub), .second, .val (.long vb), .second, .val (.long x4), .second, .val (.int x5), .val (.int (v0_cap x5)), .val (.long (v0_m x5)), .second, .val (.long (v0_span x5)), .second, .val (.int (v0_n x5)), .val (.ref dd), .val (.int (v0_k x5)), .unset, .unset, .unset, .unset, .unset] []))
            refine g_iload X0 hx 261 (hb hby at_259) rfl rfl ?_
            show Go p e below s _ _ _ (T0.setTop (mkF m 261 #[.val (.long ua), .second, .val (.long va), .second, .val (.long ub), .second, .val (.long vb), .second, .val (.long x4), .second, .val (.int x5), .val (.int (v0_cap x5)), .val (.long (v0_m x5)), .second, .val (.long (v0_span x5)), .second, .val (.int (v0_n x5)), .val (.ref dd), .val (.int (v0_k x5)), .unset, .unset, .unset, .unset, .unset] [(.int (v0_k x5))]))
            refine g_iconst X0 hx (5 : Int32) 262 (hb hby at_261) rfl rfl ?_
            show Go p e below s _ _ _ (T0.setTop (mkF m 262 #[.val (.long ua), .second, .val (.long va), .second, .val (.long ub), .second, .val (.long vb), .second, .val (.long x4), .second, .val (.int x5), .val (.int (v0_cap x5)), .val (.long (v0_m x5)), .second, .val (.long (v0_span x5)), .second, .val (.int (v0_n x5)), .val (.ref dd), .val (.int (v0_k x5)), .unset, .unset, .unset, .unset, .unset] [(.int (5 : Int32)), (.int (v0_k x5))]))
            refine g_icmp_ne X0 hx 278 265 (hb hby at_262) (by decide) rfl rfl (fun h22 => ?_) (fun h22 => ?_)
            · show Go p e below s _ _ _ (T0.setTop (mkF m 265 #[.val (.long ua), .second, .val (.long va), .second, .val (.long ub), .second, .val (.long vb), .second, .val (.long x4), .second, .val (.int x5), .val (.int (v0_cap x5)), .val (.long (v0_m x5)), .second, .val (.long (v0_span x5)), .second, .val (.int (v0_n x5)), .val (.ref dd), .val (.int (v0_k x5)), .unset, .unset, .unset, .unset, .unset] []))
              refine g_lloadN X0 hx 266 (hb hby at_265) rfl rfl ?_
              show Go p e below s _ _ _ (T0.setTop (mkF m 266 #[.val (.long ua), .second, .val (.long va), .second, .val (.long ub), .second, .val (.long vb), .second, .val (.long x4), .second, .val (.int x5), .val (.int (v0_cap x5)), .val (.long (v0_m x5)), .second, .val (.long (v0_span x5)), .second, .val (.int (v0_n x5)), .val (.ref dd), .val (.int (v0_k x5)), .unset, .unset, .unset, .unset, .unset] [(.long ua)]))
              refine g_ldc2_w X0 hx hZ hown (hw _ (List.mem_of_getElem? (i := 37) rfl)) 269 (hb hby at_266) rfl ?_
              show Go p e below s _ _ _ (T0.setTop (mkF m 269 #[.val (.long ua), .second, .val (.long va), .second, .val (.long ub), .second, .val (.long vb), .second, .val (.long x4), .second, .val (.int x5), .val (.int (v0_cap x5)), .val (.long (v0_m x5)), .second, .val (.long (v0_span x5)), .second, .val (.int (v0_n x5)), .val (.ref dd), .val (.int (v0_k x5)), .unset, .unset, .unset, .unset, .unset] [(.long (-9223372036854775808 : Int64)), (.long ua)]))
              refine g_lxor X0 hx 270 (hb hby at_269) rfl ?_
              show Go p e below s _ _ _ (T0.setTop (mkF m 270 #[.val (.long ua), .second, .val (.long va), .second, .val (.long ub), .second, .val (.long vb), .second, .val (.long x4), .second, .val (.int x5), .val (.int (v0_cap x5)), .val (.long (v0_m x5)), .second, .val (.long (v0_span x5)), .second, .val (.int (v0_n x5)), .val (.ref dd), .val (.int (v0_k x5)), .unset, .unset, .unset, .unset, .unset] [(.long (ua ^^^ (-9223372036854775808 : Int64)))]))
              refine g_lstore X0 hx #[.val (.long ua), .second, .val (.long va), .second, .val (.long ub), .second, .val (.long vb), .second, .val (.long x4), .second, .val (.int x5), .val (.int (v0_cap x5)), .val (.long (v0_m x5)), .second, .val (.long (v0_span x5)), .second, .val (.int (v0_n x5)), .val (.ref dd), .val (.int (v0_k x5)), .val (.long (ua ^^^ (-9223372036854775808 : Int64))), .second, .unset, .unset, .unset] 272 (hb hby at_270) rfl rfl ?_
              show Go p e below s _ _ _ (T0.setTop (mkF m 272 #[.val (.long ua), .second, .val (.long va), .second, .val (.long ub), .second, .val (.long vb), .second, .val (.long x4), .second, .val (.int x5), .val (.int (v0_cap x5)), .val (.long (v0_m x5)), .second, .val (.long (v0_span x5)), .second, .val (.int (v0_n x5)), .val (.ref dd), .val (.int (v0_k x5)), .val (.long (ua ^^^ (-9223372036854775808 : Int64))), .second, .unset, .unset, .unset] []))
              refine g_lloadN X0 hx 273 (hb hby at_272) rfl rfl ?_
              show Go p e below s _ _ _ (T0.setTop (mkF m 273 #[.val (.long ua), .second, .val (.long va), .second, .val (.long ub), .second, .val (.long vb), .second, .val (.long x4), .second, .val (.int x5), .val (.int (v0_cap x5)), .val (.long (v0_m x5)), .second, .val (.long (v0_span x5)), .second, .val (.int (v0_n x5)), .val (.ref dd), .val (.int (v0_k x5)), .val (.long (ua ^^^ (-9223372036854775808 : Int64))), .second, .unset, .unset, .unset] [(.long va)]))
              refine g_lstore X0 hx #[.val (.long ua), .second, .val (.long va), .second, .val (.long ub), .second, .val (.long vb), .second, .val (.long x4), .second, .val (.int x5), .val (.int (v0_cap x5)), .val (.long (v0_m x5)), .second, .val (.long (v0_span x5)), .second, .val (.int (v0_n x5)), .val (.ref dd), .val (.int (v0_k x5)), .val (.long (ua ^^^ (-9223372036854775808 : Int64))), .second, .val (.long va), .second, .unset] 275 (hb hby at_273) rfl rfl ?_
              show Go p e below s _ _ _ (T0.setTop (mkF m 275 #[.val (.long ua), .second, .val (.long va), .second, .val (.long ub), .second, .val (.long vb), .second, .val (.long x4), .second, .val (.int x5), .val (.int (v0_cap x5)), .val (.long (v0_m x5)), .second, .val (.long (v0_span x5)), .second, .val (.int (v0_n x5)), .val (.ref dd), .val (.int (v0_k x5)), .val (.long (ua ^^^ (-9223372036854775808 : Int64))), .second, .val (.long va), .second, .unset] []))
              refine g_goto X0 hx 306 (hb hby at_275) (by decide) rfl ?_
              show Go p e below s _ _ _ (T0.setTop (mkF m 306 #[.val (.long ua), .second, .val (.long va), .second, .val (.long ub), .second, .val (.long vb), .second, .val (.long x4), .second, .val (.int x5), .val (.int (v0_cap x5)), .val (.long (v0_m x5)), .second, .val (.long (v0_span x5)), .second, .val (.int (v0_n x5)), .val (.ref dd), .val (.int (v0_k x5)), .val (.long (ua ^^^ (-9223372036854775808 : Int64))), .second, .val (.long va), .second, .unset] []))
              exact sg0_306 l Z a0 hw hx hby hml hret hlk hown hnm hZ x0 x1 x2 x3 x4 x5 h0 n0  ua va ub vb dd a1 a2 sz hi lo cc (ua ^^^ (-9223372036854775808 : Int64)) va _ _ _ X0 e0 Z0 N0 P0 P1 P2 P3 P4 P5 P6 P7 P8 P9 P10 P11 P12 P13 he1 he2 hT hc
            · show Go p e below s _ _ _ (T0.setTop (mkF m 278 #[.val (.long ua), .second, .val (.long va), .second, .val (.long ub), .second, .val (.long vb), .second, .val (.long x4), .second, .val (.int x5), .val (.int (v0_cap x5)), .val (.long (v0_m x5)), .second, .val (.long (v0_span x5)), .second, .val (.int (v0_n x5)), .val (.ref dd), .val (.int (v0_k x5)), .unset, .unset, .unset, .unset, .unset] []))
              refine g_iload X0 hx 280 (hb hby at_278) rfl rfl ?_
              show Go p e below s _ _ _ (T0.setTop (mkF m 280 #[.val (.long ua), .second, .val (.long va), .second, .val (.long ub), .second, .val (.long vb), .second, .val (.long x4), .second, .val (.int x5), .val (.int (v0_cap x5)), .val (.long (v0_m x5)), .second, .val (.long (v0_span x5)), .second, .val (.int (v0_n x5)), .val (.ref dd), .val (.int (v0_k x5)), .unset, .unset, .unset, .unset, .unset] [(.int (v0_k x5))]))
              refine g_bipush X0 hx (6 : Int32) 282 (hb hby at_280) rfl rfl ?_
              show Go p e below s _ _ _ (T0.setTop (mkF m 282 #[.val (.long ua), .second, .val (.long va), .second, .val (.long ub), .second, .val (.long vb), .second, .val (.long x4), .second, .val (.int x5), .val (.int (v0_cap x5)), .val (.long (v0_m x5)), .second, .val (.long (v0_span x5)), .second, .val (.int (v0_n x5)), .val (.ref dd), .val (.int (v0_k x5)), .unset, .unset, .unset, .unset, .unset] [(.int (6 : Int32)), (.int (v0_k x5))]))
              refine g_icmp_ne X0 hx 298 285 (hb hby at_282) (by decide) rfl rfl (fun h23 => ?_) (fun h23 => ?_)
              · show Go p e below s _ _ _ (T0.setTop (mkF m 285 #[.val (.long ua), .second, .val (.long va), .second, .val (.long ub), .second, .val (.long vb), .second, .val (.long x4), .second, .val (.int x5), .val (.int (v0_cap x5)), .val (.long (v0_m x5)), .second, .val (.long (v0_span x5)), .second, .val (.int (v0_n x5)), .val (.ref dd), .val (.int (v0_k x5)), .unset, .unset, .unset, .unset, .unset] []))
                refine g_lloadN X0 hx 286 (hb hby at_285) rfl rfl ?_
                show Go p e below s _ _ _ (T0.setTop (mkF m 286 #[.val (.long ua), .second, .val (.long va), .second, .val (.long ub), .second, .val (.long vb), .second, .val (.long x4), .second, .val (.int x5), .val (.int (v0_cap x5)), .val (.long (v0_m x5)), .second, .val (.long (v0_span x5)), .second, .val (.int (v0_n x5)), .val (.ref dd), .val (.int (v0_k x5)), .unset, .unset, .unset, .unset, .unset] [(.long ua)]))
                refine g_lstore X0 hx #[.val (.long ua), .second, .val (.long va), .second, .val (.long ub), .second, .val (.long vb), .second, .val (.long x4), .second, .val (.int x5), .val (.int (v0_cap x5)), .val (.long (v0_m x5)), .second, .val (.long (v0_span x5)), .second, .val (.int (v0_n x5)), .val (.ref dd), .val (.int (v0_k x5)), .val (.long ua), .second, .unset, .unset, .unset] 288 (hb hby at_286) rfl rfl ?_
                show Go p e below s _ _ _ (T0.setTop (mkF m 288 #[.val (.long ua), .second, .val (.long va), .second, .val (.long ub), .second, .val (.long vb), .second, .val (.long x4), .second, .val (.int x5), .val (.int (v0_cap x5)), .val (.long (v0_m x5)), .second, .val (.long (v0_span x5)), .second, .val (.int (v0_n x5)), .val (.ref dd), .val (.int (v0_k x5)), .val (.long ua), .second, .unset, .unset, .unset] []))
                refine g_lloadN X0 hx 289 (hb hby at_288) rfl rfl ?_
                show Go p e below s _ _ _ (T0.setTop (mkF m 289 #[.val (.long ua), .second, .val (.long va), .second, .val (.long ub), .second, .val (.long vb), .second, .val (.long x4), .second, .val (.int x5), .val (.int (v0_cap x5)), .val (.long (v0_m x5)), .second, .val (.long (v0_span x5)), .second, .val (.int (v0_n x5)), .val (.ref dd), .val (.int (v0_k x5)), .val (.long ua), .second, .unset, .unset, .unset] [(.long va)]))
                refine g_ldc2_w X0 hx hZ hown (hw _ (List.mem_of_getElem? (i := 37) rfl)) 292 (hb hby at_289) rfl ?_
                show Go p e below s _ _ _ (T0.setTop (mkF m 292 #[.val (.long ua), .second, .val (.long va), .second, .val (.long ub), .second, .val (.long vb), .second, .val (.long x4), .second, .val (.int x5), .val (.int (v0_cap x5)), .val (.long (v0_m x5)), .second, .val (.long (v0_span x5)), .second, .val (.int (v0_n x5)), .val (.ref dd), .val (.int (v0_k x5)), .val (.long ua), .second, .unset, .unset, .unset] [(.long (-9223372036854775808 : Int64)), (.long va)]))
                refine g_lxor X0 hx 293 (hb hby at_292) rfl ?_
                show Go p e below s _ _ _ (T0.setTop (mkF m 293 #[.val (.long ua), .second, .val (.long va), .second, .val (.long ub), .second, .val (.long vb), .second, .val (.long x4), .second, .val (.int x5), .val (.int (v0_cap x5)), .val (.long (v0_m x5)), .second, .val (.long (v0_span x5)), .second, .val (.int (v0_n x5)), .val (.ref dd), .val (.int (v0_k x5)), .val (.long ua), .second, .unset, .unset, .unset] [(.long (va ^^^ (-9223372036854775808 : Int64)))]))
                refine g_lstore X0 hx #[.val (.long ua), .second, .val (.long va), .second, .val (.long ub), .second, .val (.long vb), .second, .val (.long x4), .second, .val (.int x5), .val (.int (v0_cap x5)), .val (.long (v0_m x5)), .second, .val (.long (v0_span x5)), .second, .val (.int (v0_n x5)), .val (.ref dd), .val (.int (v0_k x5)), .val (.long ua), .second, .val (.long (va ^^^ (-9223372036854775808 : Int64))), .second, .unset] 295 (hb hby at_293) rfl rfl ?_
                show Go p e below s _ _ _ (T0.setTop (mkF m 295 #[.val (.long ua), .second, .val (.long va), .second, .val (.long ub), .second, .val (.long vb), .second, .val (.long x4), .second, .val (.int x5), .val (.int (v0_cap x5)), .val (.long (v0_m x5)), .second, .val (.long (v0_span x5)), .second, .val (.int (v0_n x5)), .val (.ref dd), .val (.int (v0_k x5)), .val (.long ua), .second, .val (.long (va ^^^ (-9223372036854775808 : Int64))), .second, .unset] []))
                refine g_goto X0 hx 306 (hb hby at_295) (by decide) rfl ?_
                show Go p e below s _ _ _ (T0.setTop (mkF m 306 #[.val (.long ua), .second, .val (.long va), .second, .val (.long ub), .second, .val (.long vb), .second, .val (.long x4), .second, .val (.int x5), .val (.int (v0_cap x5)), .val (.long (v0_m x5)), .second, .val (.long (v0_span x5)), .second, .val (.int (v0_n x5)), .val (.ref dd), .val (.int (v0_k x5)), .val (.long ua), .second, .val (.long (va ^^^ (-9223372036854775808 : Int64))), .second, .unset] []))
                exact sg0_306 l Z a0 hw hx hby hml hret hlk hown hnm hZ x0 x1 x2 x3 x4 x5 h0 n0  ua va ub vb dd a1 a2 sz hi lo cc ua (va ^^^ (-9223372036854775808 : Int64)) _ _ _ X0 e0 Z0 N0 P0 P1 P2 P3 P4 P5 P6 P7 P8 P9 P10 P11 P12 P13 he1 he2 hT hc
              · show Go p e below s _ _ _ (T0.setTop (mkF m 298 #[.val (.long ua), .second, .val (.long va), .second, .val (.long ub), .second, .val (.long vb), .second, .val (.long x4), .second, .val (.int x5), .val (.int (v0_cap x5)), .val (.long (v0_m x5)), .second, .val (.long (v0_span x5)), .second, .val (.int (v0_n x5)), .val (.ref dd), .val (.int (v0_k x5)), .unset, .unset, .unset, .unset, .unset] []))
                refine g_lload X0 hx 300 (hb hby at_298) rfl rfl ?_
                show Go p e below s _ _ _ (T0.setTop (mkF m 300 #[.val (.long ua), .second, .val (.long va), .second, .val (.long ub), .second, .val (.long vb), .second, .val (.long x4), .second, .val (.int x5), .val (.int (v0_cap x5)), .val (.long (v0_m x5)), .second, .val (.long (v0_span x5)), .second, .val (.int (v0_n x5)), .val (.ref dd), .val (.int (v0_k x5)), .unset, .unset, .unset, .unset, .unset] [(.long ub)]))
                refine g_lstore X0 hx #[.val (.long ua), .second, .val (.long va), .second, .val (.long ub), .second, .val (.long vb), .second, .val (.long x4), .second, .val (.int x5), .val (.int (v0_cap x5)), .val (.long (v0_m x5)), .second, .val (.long (v0_span x5)), .second, .val (.int (v0_n x5)), .val (.ref dd), .val (.int (v0_k x5)), .val (.long ub), .second, .unset, .unset, .unset] 302 (hb hby at_300) rfl rfl ?_
                show Go p e below s _ _ _ (T0.setTop (mkF m 302 #[.val (.long ua), .second, .val (.long va), .second, .val (.long ub), .second, .val (.long vb), .second, .val (.long x4), .second, .val (.int x5), .val (.int (v0_cap x5)), .val (.long (v0_m x5)), .second, .val (.long (v0_span x5)), .second, .val (.int (v0_n x5)), .val (.ref dd), .val (.int (v0_k x5)), .val (.long ub), .second, .unset, .unset, .unset] []))
                refine g_lload X0 hx 304 (hb hby at_302) rfl rfl ?_
                show Go p e below s _ _ _ (T0.setTop (mkF m 304 #[.val (.long ua), .second, .val (.long va), .second, .val (.long ub), .second, .val (.long vb), .second, .val (.long x4), .second, .val (.int x5), .val (.int (v0_cap x5)), .val (.long (v0_m x5)), .second, .val (.long (v0_span x5)), .second, .val (.int (v0_n x5)), .val (.ref dd), .val (.int (v0_k x5)), .val (.long ub), .second, .unset, .unset, .unset] [(.long x4)]))
                refine g_lstore X0 hx #[.val (.long ua), .second, .val (.long va), .second, .val (.long ub), .second, .val (.long vb), .second, .val (.long x4), .second, .val (.int x5), .val (.int (v0_cap x5)), .val (.long (v0_m x5)), .second, .val (.long (v0_span x5)), .second, .val (.int (v0_n x5)), .val (.ref dd), .val (.int (v0_k x5)), .val (.long ub), .second, .val (.long x4), .second, .unset] 306 (hb hby at_304) rfl rfl ?_
                show Go p e below s _ _ _ (T0.setTop (mkF m 306 #[.val (.long ua), .second, .val (.long va), .second, .val (.long ub), .second, .val (.long vb), .second, .val (.long x4), .second, .val (.int x5), .val (.int (v0_cap x5)), .val (.long (v0_m x5)), .second, .val (.long (v0_span x5)), .second, .val (.int (v0_n x5)), .val (.ref dd), .val (.int (v0_k x5)), .val (.long ub), .second, .val (.long x4), .second, .unset] []))
                exact sg0_306 l Z a0 hw hx hby hml hret hlk hown hnm hZ x0 x1 x2 x3 x4 x5 h0 n0  ua va ub vb dd a1 a2 sz hi lo cc ub x4 _ _ _ X0 e0 Z0 N0 P0 P1 P2 P3 P4 P5 P6 P7 P8 P9 P10 P11 P12 P13 he1 he2 hT hc
theorem pd__28JJ_29V : parseMethodDescriptor "(JJ)V" = some ⟨[.long, .long], none⟩ := by decide +kernel
set_option maxRecDepth 65536 in
set_option maxHeartbeats 40000000 in
theorem sg0_156 (l : Launch) (Z : State) (a0 : Array Value) (hw : ∀ d ∈ tables_1, d.before a0 Z = true) {p : Program} {e : Env} {s : State} {m : MethodId} {args : Array Value} {below : List Frame} {meth : Method} {c : Code} (hx : p.tables.exec = Jvm.exec) (hby : c.code = code) (hml : c.maxLocals = maxLocals) (hret : meth.sig.returnType = ret) (hlk : meth.locks = false) (hown : s.vm.findClass "com/example/itinerant_spider/itinerantspider/frontier/FingerprintTableContainsPinLaw" = some m.cls) (hnm : meth.name = "law") (hZ : Z.Warmed39 s.vm) (x0 : Int64) (x1 : Int64) (x2 : Int64) (x3 : Int64) (x4 : Int64) (x5 : Int32) (h0 : Heap) (n0 : Nat) : ∀  (ua : Int64) (va : Int64) (ub : Int64) (vb : Int64) (dd : Addr) (a1 : Addr) (a2 : Addr) (sz : Int32) (hi : Nat → Int64) (lo : Nat → Int64) (cc : Nat) (T0 : State) (locs : List Loc) (hS : Heap), Stand p l e room_1 s m args below meth c T0 locs 3 37 → T0.heap = hS → n0 ≤ hS.size → Fr n0 locs → Exa Z hS dd "com/example/itinerant_spider/itinerantspider/frontier/FingerprintTable" → Fld Z hS dd "com/example/itinerant_spider/itinerantspider/frontier/FingerprintTable" "capacity" "I" (.int (v0_cap x5)) → Fld Z hS dd "com/example/itinerant_spider/itinerantspider/frontier/FingerprintTable" "highs" "[J" (.ref a1) → Fld Z hS dd "com/example/itinerant_spider/itinerantspider/frontier/FingerprintTable" "lows" "[J" (.ref a2) → Fld Z hS dd "com/example/itinerant_spider/itinerantspider/frontier/FingerprintTable" "mask" "I" (.int (((2 : Int32) * (v0_cap x5)) - (1 : Int32))) → Fld Z hS dd "com/example/itinerant_spider/itinerantspider/frontier/FingerprintTable" "size" "I" (.int sz) → AJ Z hS a1 (own_N x5) hi → AJ Z hS a2 (own_N x5) lo → n0 ≤ dd → n0 ≤ a1 → n0 ≤ a2 → dd ≠ a1 → dd ≠ a2 → a1 ≠ a2 → (¬ (ua = 0 ∧ va = 0)) → (¬ (ub = 0 ∧ vb = 0)) → (own_T hi lo (own_N x5) (own_start (((2 : Int32) * (v0_cap x5)) - (1 : Int32)) va) (own_start (((2 : Int32) * (v0_cap x5)) - (1 : Int32)) vb) ua va ub vb cc) → ((v0_n x5 < 1 ∧ cc = 0) ∨ (¬ v0_n x5 < 1 ∧ cc = 1)) → (sz.toInt = cc) → Go p e below s (Q0 Z x0 x1 x2 x3 x4 x5 h0 n0) room_1.cells room_1.slots (T0.setTop (mkF m 156 #[.val (.long ua), .second, .val (.long va), .second, .val (.long ub), .second, .val (.long vb), .second, .val (.long x4), .second, .val (.int x5), .val (.int (v0_cap x5)), .val (.long (v0_m x5)), .second, .val (.long (v0_span x5)), .second, .val (.int (v0_n x5)), .val (.ref dd), .unset, .unset, .unset, .unset, .unset, .unset] [])) := by
  intro ua va ub vb dd a1 a2 sz hi lo cc T0 locs hS X0 e0 Z0 N0 P0 P1 P2 P3 P4 P5 P6 P7 P8 P9 P10 P11 P12 P13 he1 he2 hT hc hsz
  refine g_iload X0 hx 158 (hb hby at_156) rfl rfl ?_
  show Go p e below s _ _ _ (T0.setTop (mkF m 158 #[.val (.long ua), .second, .val (.long va), .second, .val (.long ub), .second, .val (.long vb), .second, .val (.long x4), .second, .val (.int x5), .val (.int (v0_cap x5)), .val (.long (v0_m x5)), .second, .val (.long (v0_span x5)), .second, .val (.int (v0_n x5)), .val (.ref dd), .unset, .unset, .unset, .unset, .unset, .unset] [(.int (v0_n x5))]))
  refine g_iconst X0 hx (2 : Int32) 159 (hb hby at_158) rfl rfl ?_
  show Go p e below s _ _ _ (T0.setTop (mkF m 159 #[.val (.long ua), .second, .val (.long va), .second, .val (.long ub), .second, .val (.long vb), .second, .val (.long x4), .second, .val (.int x5), .val (.int (v0_cap x5)), .val (.long (v0_m x5)), .second, .val (.long (v0_span x5)), .second, .val (.int (v0_n x5)), .val (.ref dd), .unset, .unset, .unset, .unset, .unset, .unset] [(.int (2 : Int32)), (.int (v0_n x5))]))
  refine g_icmp_lt X0 hx 171 162 (hb hby at_159) (by decide) rfl rfl (fun h24 => ?_) (fun h24 => ?_)
  · show Go p e below s _ _ _ (T0.setTop (mkF m 171 #[.val (.long ua), .second, .val (.long va), .second, .val (.long ub), .second, .val (.long vb), .second, .val (.long x4), .second, .val (.int x5), .val (.int (v0_cap x5)), .val (.long (v0_m x5)), .second, .val (.long (v0_span x5)), .second, .val (.int (v0_n x5)), .val (.ref dd), .unset, .unset, .unset, .unset, .unset, .unset] []))
    exact sg0_171 l Z a0 hw hx hby hml hret hlk hown hnm hZ x0 x1 x2 x3 x4 x5 h0 n0  ua va ub vb dd a1 a2 sz hi lo cc _ _ _ X0 e0 Z0 N0 P0 P1 P2 P3 P4 P5 P6 P7 P8 P9 P10 P11 P12 P13 he1 he2 hT (own_c2 hc h24)
  · show Go p e below s _ _ _ (T0.setTop (mkF m 162 #[.val (.long ua), .second, .val (.long va), .second, .val (.long ub), .second, .val (.long vb), .second, .val (.long x4), .second, .val (.int x5), .val (.int (v0_cap x5)), .val (.long (v0_m x5)), .second, .val (.long (v0_span x5)), .second, .val (.int (v0_n x5)), .val (.ref dd), .unset, .unset, .unset, .unset, .unset, .unset] []))
    refine g_aload X0 hx 164 (hb hby at_162) rfl rfl rfl ?_
    show Go p e below s _ _ _ (T0.setTop (mkF m 164 #[.val (.long ua), .second, .val (.long va), .second, .val (.long ub), .second, .val (.long vb), .second, .val (.long x4), .second, .val (.int x5), .val (.int (v0_cap x5)), .val (.long (v0_m x5)), .second, .val (.long (v0_span x5)), .second, .val (.int (v0_n x5)), .val (.ref dd), .unset, .unset, .unset, .unset, .unset, .unset] [(.ref dd)]))
    refine g_lload X0 hx 166 (hb hby at_164) rfl rfl ?_
    show Go p e below s _ _ _ (T0.setTop (mkF m 166 #[.val (.long ua), .second, .val (.long va), .second, .val (.long ub), .second, .val (.long vb), .second, .val (.long x4), .second, .val (.int x5), .val (.int (v0_cap x5)), .val (.long (v0_m x5)), .second, .val (.long (v0_span x5)), .second, .val (.int (v0_n x5)), .val (.ref dd), .unset, .unset, .unset, .unset, .unset, .unset] [(.long ub), (.ref dd)]))
    refine g_lload X0 hx 168 (hb hby at_166) rfl rfl ?_
    show Go p e below s _ _ _ (T0.setTop (mkF m 168 #[.val (.long ua), .second, .val (.long va), .second, .val (.long ub), .second, .val (.long vb), .second, .val (.long x4), .second, .val (.int x5), .val (.int (v0_cap x5)), .val (.long (v0_m x5)), .second, .val (.long (v0_span x5)), .second, .val (.int (v0_n x5)), .val (.ref dd), .unset, .unset, .unset, .unset, .unset, .unset] [(.long vb), (.long ub), (.ref dd)]))
    refine g_callV X0 hx hZ hown (hw _ (List.mem_of_getElem? (i := 38) rfl)) (hw _ (List.mem_of_getElem? (i := 39) rfl)) (hw _ (List.mem_of_getElem? (i := 41) rfl)) (hw _ (List.mem_of_getElem? (i := 40) rfl)) (hw _ (List.mem_of_getElem? (i := 7) rfl)) (hw _ (List.mem_of_getElem? (i := 42) rfl)) (by decide) e0 dd P0 (rm6 l Z a0 hw [] dd ub vb a1 a2 (((2 : Int32) * (v0_cap x5)) - (1 : Int32)) (own_N x5) hi lo sz (v0_cap x5) hS n0 Z0 P0 P1 P2 P3 P4 P5 P6 P7 P8 P9 P10 P11 P12 P13 (own_mkof x5 : own_mk (((2 : Int32) * (v0_cap x5)) - (1 : Int32)) (own_N x5)) (own_end (own_mkof x5).1 hT (own_sta (own_mkof x5) vb).2 : own_ends hi lo (own_N x5) 3 (own_start (((2 : Int32) * (v0_cap x5)) - (1 : Int32)) vb)) (own_fu2 (own_c1 hc hsz h24) h24 : ¬ sz = (v0_cap x5))) [(.long ub), (.long vb)] [] 0 rfl (lenOf pd__28JJ_29V rfl) rfl (Nat.le_of_eq rfl) (by decide) (by decide) (by decide) (by decide) (by rw [hml]; rfl) (hb hby at_168) ?_
    intro T25 L25 v25 X25 q25
    obtain ⟨rfl, N25, K25, p25_0, p25_1, p25_2, p25_3, p25_4, p25_5, p25_6⟩ := q25
    have NN25 := Fr.app N0 N25
    have k25_0 := P0.keep K25
    have Z25 : n0 ≤ T25.heap.size := Nat.le_trans Z0 K25.1
    show Go p e below s _ _ _ (T25.setTop (mkF m 171 #[.val (.long ua), .second, .val (.long va), .second, .val (.long ub), .second, .val (.long vb), .second, .val (.long x4), .second, .val (.int x5), .val (.int (v0_cap x5)), .val (.long (v0_m x5)), .second, .val (.long (v0_span x5)), .second, .val (.int (v0_n x5)), .val (.ref dd), .unset, .unset, .unset, .unset, .unset, .unset] []))
    exact sg0_171 l Z a0 hw hx hby hml hret hlk hown hnm hZ x0 x1 x2 x3 x4 x5 h0 n0  ua va ub vb dd a1 a2 (sz + (1 : Int32)) (upd hi (own_slot hi lo (own_N x5) 3 (own_start (((2 : Int32) * (v0_cap x5)) - (1 : Int32)) vb)) ub) (upd lo (own_slot hi lo (own_N x5) 3 (own_start (((2 : Int32) * (v0_cap x5)) - (1 : Int32)) vb)) vb) 2 _ _ _ X25 rfl Z25 NN25 k25_0 p25_0 p25_1 p25_2 p25_3 p25_4 p25_5 p25_6 P8 P9 P10 P11 P12 P13 he1 he2 (own_T2 (own_sta (own_mkof x5) va).2 (own_sta (own_mkof x5) vb).2 (own_n2 h24) he1 ((own_c1' hc h24).1 ▸ hT)) (Or.inr (Or.inr ⟨(own_c1' hc h24).2, h24, rfl⟩))
theorem pd__28I_29V : parseMethodDescriptor "(I)V" = some ⟨[.int], none⟩ := by decide +kernel
set_option maxRecDepth 65536 in
set_option maxHeartbeats 40000000 in
theorem sg0_132 (l : Launch) (Z : State) (a0 : Array Value) (hw : ∀ d ∈ tables_1, d.before a0 Z = true) {p : Program} {e : Env} {s : State} {m : MethodId} {args : Array Value} {below : List Frame} {meth : Method} {c : Code} (hx : p.tables.exec = Jvm.exec) (hby : c.code = code) (hml : c.maxLocals = maxLocals) (hret : meth.sig.returnType = ret) (hlk : meth.locks = false) (hown : s.vm.findClass "com/example/itinerant_spider/itinerantspider/frontier/FingerprintTableContainsPinLaw" = some m.cls) (hnm : meth.name = "law") (hZ : Z.Warmed39 s.vm) (x0 : Int64) (x1 : Int64) (x2 : Int64) (x3 : Int64) (x4 : Int64) (x5 : Int32) (h0 : Heap) (n0 : Nat) : ∀  (ua : Int64) (va : Int64) (ub : Int64) (vb : Int64) (T0 : State) (locs : List Loc) (hS : Heap), Stand p l e room_1 s m args below meth c T0 locs 0 0 → T0.heap = hS → n0 ≤ hS.size → Fr n0 locs → (¬ (ua = 0 ∧ va = 0)) → (¬ (ub = 0 ∧ vb = 0)) → Go p e below s (Q0 Z x0 x1 x2 x3 x4 x5 h0 n0) room_1.cells room_1.slots (T0.setTop (mkF m 132 #[.val (.long ua), .second, .val (.long va), .second, .val (.long ub), .second, .val (.long vb), .second, .val (.long x4), .second, .val (.int x5), .val (.int (v0_cap x5)), .val (.long (v0_m x5)), .second, .val (.long (v0_span x5)), .second, .val (.int (v0_n x5)), .unset, .unset, .unset, .unset, .unset, .unset, .unset] [])) := by
  intro ua va ub vb T0 locs hS X0 e0 Z0 N0 he1 he2
  refine g_new X0 hx hZ hown (hw _ (List.mem_of_getElem? (i := 5) rfl)) (hw _ (List.mem_of_getElem? (i := 6) rfl)) (hw _ (List.mem_of_getElem? (i := 7) rfl)) e0 135 (hb hby at_132) (by decide) (by decide) rfl ?_
  intro T26 h26 b26 g26 X26 e26 E26 A26 D26
  have N_b26 : n0 ≤ b26 := Nat.le_trans Z0 (Nat.le_of_eq g26.symm)
  have Z26 : n0 ≤ h26.size := Nat.le_trans Z0 E26.1
  have F26_capacity : Fld Z h26 b26 "com/example/itinerant_spider/itinerantspider/frontier/FingerprintTable" "capacity" "I" (.int (0 : Int32)) := D26 (Or.inr (hw _ (List.mem_of_getElem? (i := 23) rfl))) (ty := .int) (by decide)
  have F26_highs : Fld Z h26 b26 "com/example/itinerant_spider/itinerantspider/frontier/FingerprintTable" "highs" "[J" .null := D26 (Or.inr (hw _ (List.mem_of_getElem? (i := 26) rfl))) (ty := (.array .long)) (by decide)
  have F26_lows : Fld Z h26 b26 "com/example/itinerant_spider/itinerantspider/frontier/FingerprintTable" "lows" "[J" .null := D26 (Or.inr (hw _ (List.mem_of_getElem? (i := 28) rfl))) (ty := (.array .long)) (by decide)
  have F26_mask : Fld Z h26 b26 "com/example/itinerant_spider/itinerantspider/frontier/FingerprintTable" "mask" "I" (.int (0 : Int32)) := D26 (Or.inr (hw _ (List.mem_of_getElem? (i := 30) rfl))) (ty := .int) (by decide)
  have F26_size : Fld Z h26 b26 "com/example/itinerant_spider/itinerantspider/frontier/FingerprintTable" "size" "I" (.int (0 : Int32)) := D26 (Or.inl (hw _ (List.mem_of_getElem? (i := 49) rfl))) (ty := .int) (by decide)
  show Go p e below s _ _ _ (T26.setTop (mkF m 135 #[.val (.long ua), .second, .val (.long va), .second, .val (.long ub), .second, .val (.long vb), .second, .val (.long x4), .second, .val (.int x5), .val (.int (v0_cap x5)), .val (.long (v0_m x5)), .second, .val (.long (v0_span x5)), .second, .val (.int (v0_n x5)), .unset, .unset, .unset, .unset, .unset, .unset, .unset] [(.ref b26)]))
  refine g_dup X26 hx 136 (hb hby at_135) rfl rfl ?_
  show Go p e below s _ _ _ (T26.setTop (mkF m 136 #[.val (.long ua), .second, .val (.long va), .second, .val (.long ub), .second, .val (.long vb), .second, .val (.long x4), .second, .val (.int x5), .val (.int (v0_cap x5)), .val (.long (v0_m x5)), .second, .val (.long (v0_span x5)), .second, .val (.int (v0_n x5)), .unset, .unset, .unset, .unset, .unset, .unset, .unset] [(.ref b26), (.ref b26)]))
  refine g_iload X26 hx 138 (hb hby at_136) rfl rfl ?_
  show Go p e below s _ _ _ (T26.setTop (mkF m 138 #[.val (.long ua), .second, .val (.long va), .second, .val (.long ub), .second, .val (.long vb), .second, .val (.long x4), .second, .val (.int x5), .val (.int (v0_cap x5)), .val (.long (v0_m x5)), .second, .val (.long (v0_span x5)), .second, .val (.int (v0_n x5)), .unset, .unset, .unset, .unset, .unset, .unset, .unset] [(.int (v0_cap x5)), (.ref b26), (.ref b26)]))
  refine g_callI X26 hx hZ rfl hown (hw _ (List.mem_of_getElem? (i := 8) rfl)) (hw _ (List.mem_of_getElem? (i := 9) rfl)) (hw _ (List.mem_of_getElem? (i := 7) rfl)) (hw _ (List.mem_of_getElem? (i := 10) rfl)) (by decide) e26 (rm2 l Z a0 hw [] b26 (v0_cap x5) (own_N x5) h26 n0 Z26 A26 F26_capacity F26_highs F26_lows F26_mask F26_size N_b26 (own_cap x5 : own_c4 (v0_cap x5)) ((own_capN x5).1 : ((2 : Int32) * (v0_cap x5)).toInt = (own_N x5)) ((own_capN x5).2.1 : (own_N x5) ≤ 16)) b26 [(.int (v0_cap x5))] [(.ref b26)] 1 rfl (lenOf pd__28I_29V rfl) rfl (Nat.le_of_eq rfl) (by decide) (by decide) (by decide) (by decide) (by rw [hml]; rfl) (hb hby at_138) ?_
  intro T27 L27 v27 X27 q27
  obtain ⟨rfl, N27, K27, b27_0, b27_1, sz27_0, sz27_1, ne27_0_1, p27_0, p27_1, p27_2, p27_3, p27_4, p27_5, p27_6⟩ := q27
  have NN27 := Fr.app N0 N27
  have N_b27_0 : n0 ≤ b27_0 := Nat.le_trans Z26 sz27_0
  have ne_b26_b27_0 : b26 ≠ b27_0 := Nat.ne_of_lt (Nat.lt_of_lt_of_le A26.lt sz27_0)
  have N_b27_1 : n0 ≤ b27_1 := Nat.le_trans Z26 sz27_1
  have ne_b26_b27_1 : b26 ≠ b27_1 := Nat.ne_of_lt (Nat.lt_of_lt_of_le A26.lt sz27_1)
  have k27_1 := A26.keep K27
  have Z27 : n0 ≤ T27.heap.size := Nat.le_trans Z26 K27.1
  show Go p e below s _ _ _ (T27.setTop (mkF m 141 #[.val (.long ua), .second, .val (.long va), .second, .val (.long ub), .second, .val (.long vb), .second, .val (.long x4), .second, .val (.int x5), .val (.int (v0_cap x5)), .val (.long (v0_m x5)), .second, .val (.long (v0_span x5)), .second, .val (.int (v0_n x5)), .unset, .unset, .unset, .unset, .unset, .unset, .unset] [(.ref b26)]))
  refine g_astore X27 hx #[.val (.long ua), .second, .val (.long va), .second, .val (.long ub), .second, .val (.long vb), .second, .val (.long x4), .second, .val (.int x5), .val (.int (v0_cap x5)), .val (.long (v0_m x5)), .second, .val (.long (v0_span x5)), .second, .val (.int (v0_n x5)), .val (.ref b26), .unset, .unset, .unset, .unset, .unset, .unset] 143 (hb hby at_141) rfl rfl rfl ?_
  show Go p e below s _ _ _ (T27.setTop (mkF m 143 #[.val (.long ua), .second, .val (.long va), .second, .val (.long ub), .second, .val (.long vb), .second, .val (.long x4), .second, .val (.int x5), .val (.int (v0_cap x5)), .val (.long (v0_m x5)), .second, .val (.long (v0_span x5)), .second, .val (.int (v0_n x5)), .val (.ref b26), .unset, .unset, .unset, .unset, .unset, .unset] []))
  refine g_iload X27 hx 145 (hb hby at_143) rfl rfl ?_
  show Go p e below s _ _ _ (T27.setTop (mkF m 145 #[.val (.long ua), .second, .val (.long va), .second, .val (.long ub), .second, .val (.long vb), .second, .val (.long x4), .second, .val (.int x5), .val (.int (v0_cap x5)), .val (.long (v0_m x5)), .second, .val (.long (v0_span x5)), .second, .val (.int (v0_n x5)), .val (.ref b26), .unset, .unset, .unset, .unset, .unset, .unset] [(.int (v0_n x5))]))
  refine g_iconst X27 hx (1 : Int32) 146 (hb hby at_145) rfl rfl ?_
  show Go p e below s _ _ _ (T27.setTop (mkF m 146 #[.val (.long ua), .second, .val (.long va), .second, .val (.long ub), .second, .val (.long vb), .second, .val (.long x4), .second, .val (.int x5), .val (.int (v0_cap x5)), .val (.long (v0_m x5)), .second, .val (.long (v0_span x5)), .second, .val (.int (v0_n x5)), .val (.ref b26), .unset, .unset, .unset, .unset, .unset, .unset] [(.int (1 : Int32)), (.int (v0_n x5))]))
  refine g_icmp_lt X27 hx 156 149 (hb hby at_146) (by decide) rfl rfl (fun h28 => ?_) (fun h28 => ?_)
  · show Go p e below s _ _ _ (T27.setTop (mkF m 156 #[.val (.long ua), .second, .val (.long va), .second, .val (.long ub), .second, .val (.long vb), .second, .val (.long x4), .second, .val (.int x5), .val (.int (v0_cap x5)), .val (.long (v0_m x5)), .second, .val (.long (v0_span x5)), .second, .val (.int (v0_n x5)), .val (.ref b26), .unset, .unset, .unset, .unset, .unset, .unset] []))
    exact sg0_156 l Z a0 hw hx hby hml hret hlk hown hnm hZ x0 x1 x2 x3 x4 x5 h0 n0  ua va ub vb b26 b27_0 b27_1 (0 : Int32) (fun _ => (0 : Int64)) (fun _ => (0 : Int64)) 0 _ _ _ X27 rfl Z27 NN27 k27_1 p27_0 p27_1 p27_2 p27_3 p27_4 p27_5 p27_6 N_b26 N_b27_0 N_b27_1 ne_b26_b27_0 ne_b26_b27_1 ne27_0_1 he1 he2 own_T0 (Or.inl ⟨h28, rfl⟩) rfl
  · show Go p e below s _ _ _ (T27.setTop (mkF m 149 #[.val (.long ua), .second, .val (.long va), .second, .val (.long ub), .second, .val (.long vb), .second, .val (.long x4), .second, .val (.int x5), .val (.int (v0_cap x5)), .val (.long (v0_m x5)), .second, .val (.long (v0_span x5)), .second, .val (.int (v0_n x5)), .val (.ref b26), .unset, .unset, .unset, .unset, .unset, .unset] []))
    refine g_aload X27 hx 151 (hb hby at_149) rfl rfl rfl ?_
    show Go p e below s _ _ _ (T27.setTop (mkF m 151 #[.val (.long ua), .second, .val (.long va), .second, .val (.long ub), .second, .val (.long vb), .second, .val (.long x4), .second, .val (.int x5), .val (.int (v0_cap x5)), .val (.long (v0_m x5)), .second, .val (.long (v0_span x5)), .second, .val (.int (v0_n x5)), .val (.ref b26), .unset, .unset, .unset, .unset, .unset, .unset] [(.ref b26)]))
    refine g_lloadN X27 hx 152 (hb hby at_151) rfl rfl ?_
    show Go p e below s _ _ _ (T27.setTop (mkF m 152 #[.val (.long ua), .second, .val (.long va), .second, .val (.long ub), .second, .val (.long vb), .second, .val (.long x4), .second, .val (.int x5), .val (.int (v0_cap x5)), .val (.long (v0_m x5)), .second, .val (.long (v0_span x5)), .second, .val (.int (v0_n x5)), .val (.ref b26), .unset, .unset, .unset, .unset, .unset, .unset] [(.long ua), (.ref b26)]))
    refine g_lloadN X27 hx 153 (hb hby at_152) rfl rfl ?_
    show Go p e below s _ _ _ (T27.setTop (mkF m 153 #[.val (.long ua), .second, .val (.long va), .second, .val (.long ub), .second, .val (.long vb), .second, .val (.long x4), .second, .val (.int x5), .val (.int (v0_cap x5)), .val (.long (v0_m x5)), .second, .val (.long (v0_span x5)), .second, .val (.int (v0_n x5)), .val (.ref b26), .unset, .unset, .unset, .unset, .unset, .unset] [(.long va), (.long ua), (.ref b26)]))
    refine g_callV X27 hx hZ hown (hw _ (List.mem_of_getElem? (i := 38) rfl)) (hw _ (List.mem_of_getElem? (i := 39) rfl)) (hw _ (List.mem_of_getElem? (i := 41) rfl)) (hw _ (List.mem_of_getElem? (i := 40) rfl)) (hw _ (List.mem_of_getElem? (i := 7) rfl)) (hw _ (List.mem_of_getElem? (i := 42) rfl)) (by decide) rfl b26 k27_1 (rm6 l Z a0 hw [] b26 ua va b27_0 b27_1 (((2 : Int32) * (v0_cap x5)) - (1 : Int32)) (own_N x5) (fun _ => (0 : Int64)) (fun _ => (0 : Int64)) (0 : Int32) (v0_cap x5) T27.heap n0 Z27 k27_1 p27_0 p27_1 p27_2 p27_3 p27_4 p27_5 p27_6 N_b26 N_b27_0 N_b27_1 ne_b26_b27_0 ne_b26_b27_1 ne27_0_1 (own_mkof x5 : own_mk (((2 : Int32) * (v0_cap x5)) - (1 : Int32)) (own_N x5)) (own_end (own_mkof x5).1 (own_T0 (s1 := 0) (t2 := 0) (h1 := ua) (l1 := va) (h2 := ub) (l2 := vb)) (own_sta (own_mkof x5) va).2 : own_ends (fun _ => (0 : Int64)) (fun _ => (0 : Int64)) (own_N x5) 3 (own_start (((2 : Int32) * (v0_cap x5)) - (1 : Int32)) va)) (own_fu1 rfl : ¬ (0 : Int32) = (v0_cap x5))) [(.long ua), (.long va)] [] 0 rfl (lenOf pd__28JJ_29V rfl) rfl (Nat.le_of_eq rfl) (by decide) (by decide) (by decide) (by decide) (by rw [hml]; rfl) (hb hby at_153) ?_
    intro T29 L29 v29 X29 q29
    obtain ⟨rfl, N29, K29, p29_0, p29_1, p29_2, p29_3, p29_4, p29_5, p29_6⟩ := q29
    have NN29 := Fr.app NN27 N29
    have k29_1 := k27_1.keep K29
    have Z29 : n0 ≤ T29.heap.size := Nat.le_trans Z27 K29.1
    show Go p e below s _ _ _ (T29.setTop (mkF m 156 #[.val (.long ua), .second, .val (.long va), .second, .val (.long ub), .second, .val (.long vb), .second, .val (.long x4), .second, .val (.int x5), .val (.int (v0_cap x5)), .val (.long (v0_m x5)), .second, .val (.long (v0_span x5)), .second, .val (.int (v0_n x5)), .val (.ref b26), .unset, .unset, .unset, .unset, .unset, .unset] []))
    exact sg0_156 l Z a0 hw hx hby hml hret hlk hown hnm hZ x0 x1 x2 x3 x4 x5 h0 n0  ua va ub vb b26 b27_0 b27_1 ((0 : Int32) + (1 : Int32)) (upd (fun _ => (0 : Int64)) (own_slot (fun _ => (0 : Int64)) (fun _ => (0 : Int64)) (own_N x5) 3 (own_start (((2 : Int32) * (v0_cap x5)) - (1 : Int32)) va)) ua) (upd (fun _ => (0 : Int64)) (own_slot (fun _ => (0 : Int64)) (fun _ => (0 : Int64)) (own_N x5) 3 (own_start (((2 : Int32) * (v0_cap x5)) - (1 : Int32)) va)) va) 1 _ _ _ X29 rfl Z29 NN29 k29_1 p29_0 p29_1 p29_2 p29_3 p29_4 p29_5 p29_6 N_b26 N_b27_0 N_b27_1 ne_b26_b27_0 ne_b26_b27_1 ne27_0_1 he1 he2 (own_T1 (own_sta (own_mkof x5) va).2 own_T0) (Or.inr ⟨h28, rfl⟩) rfl
set_option maxRecDepth 65536 in
set_option maxHeartbeats 40000000 in
theorem sg0_103 (l : Launch) (Z : State) (a0 : Array Value) (hw : ∀ d ∈ tables_1, d.before a0 Z = true) {p : Program} {e : Env} {s : State} {m : MethodId} {args : Array Value} {below : List Frame} {meth : Method} {c : Code} (hx : p.tables.exec = Jvm.exec) (hby : c.code = code) (hml : c.maxLocals = maxLocals) (hret : meth.sig.returnType = ret) (hlk : meth.locks = false) (hown : s.vm.findClass "com/example/itinerant_spider/itinerantspider/frontier/FingerprintTableContainsPinLaw" = some m.cls) (hnm : meth.name = "law") (hZ : Z.Warmed39 s.vm) (x0 : Int64) (x1 : Int64) (x2 : Int64) (x3 : Int64) (x4 : Int64) (x5 : Int32) (h0 : Heap) (n0 : Nat) : ∀  (ua : Int64) (va : Int64) (ub : Int64) (vb : Int64) (T0 : State) (locs : List Loc) (hS : Heap), Stand p l e room_1 s m args below meth c T0 locs 0 0 → T0.heap = hS → n0 ≤ hS.size → Fr n0 locs → (¬ (ua = 0 ∧ va = 0)) → (¬ (ub = 0 ∧ vb = 0)) → Go p e below s (Q0 Z x0 x1 x2 x3 x4 x5 h0 n0) room_1.cells room_1.slots (T0.setTop (mkF m 103 #[.val (.long ua), .second, .val (.long va), .second, .val (.long ub), .second, .val (.long vb), .second, .val (.long x4), .second, .val (.int x5), .val (.int (v0_cap x5)), .val (.long (v0_m x5)), .second, .val (.long (v0_span x5)), .second, .val (.int (v0_n x5)), .unset, .unset, .unset, .unset, .unset, .unset, .unset] [])) := by
  intro ua va ub vb T0 locs hS X0 e0 Z0 N0 he1 he2
  refine g_lload X0 hx 105 (hb hby at_103) rfl rfl ?_
  show Go p e below s _ _ _ (T0.setTop (mkF m 105 #[.val (.long ua), .second, .val (.long va), .second, .val (.long ub), .second, .val (.long vb), .second, .val (.long x4), .second, .val (.int x5), .val (.int (v0_cap x5)), .val (.long (v0_m x5)), .second, .val (.long (v0_span x5)), .second, .val (.int (v0_n x5)), .unset, .unset, .unset, .unset, .unset, .unset, .unset] [(.long ub)]))
  refine g_lloadN X0 hx 106 (hb hby at_105) rfl rfl ?_
  show Go p e below s _ _ _ (T0.setTop (mkF m 106 #[.val (.long ua), .second, .val (.long va), .second, .val (.long ub), .second, .val (.long vb), .second, .val (.long x4), .second, .val (.int x5), .val (.int (v0_cap x5)), .val (.long (v0_m x5)), .second, .val (.long (v0_span x5)), .second, .val (.int (v0_n x5)), .unset, .unset, .unset, .unset, .unset, .unset, .unset] [(.long ua), (.long ub)]))
  refine g_lcmp X0 hx 107 (hb hby at_106) rfl ?_
  show Go p e below s _ _ _ (T0.setTop (mkF m 107 #[.val (.long ua), .second, .val (.long va), .second, .val (.long ub), .second, .val (.long vb), .second, .val (.long x4), .second, .val (.int x5), .val (.int (v0_cap x5)), .val (.long (v0_m x5)), .second, .val (.long (v0_span x5)), .second, .val (.int (v0_n x5)), .unset, .unset, .unset, .unset, .unset, .unset, .unset] [(.int (lcmpW ub ua))]))
  refine g_lc_ne X0 hx 132 110 (hb hby at_107) (by decide) rfl rfl (fun h30 => ?_) (fun h30 => ?_)
  · show Go p e below s _ _ _ (T0.setTop (mkF m 110 #[.val (.long ua), .second, .val (.long va), .second, .val (.long ub), .second, .val (.long vb), .second, .val (.long x4), .second, .val (.int x5), .val (.int (v0_cap x5)), .val (.long (v0_m x5)), .second, .val (.long (v0_span x5)), .second, .val (.int (v0_n x5)), .unset, .unset, .unset, .unset, .unset, .unset, .unset] []))
    refine g_lload X0 hx 112 (hb hby at_110) rfl rfl ?_
    show Go p e below s _ _ _ (T0.setTop (mkF m 112 #[.val (.long ua), .second, .val (.long va), .second, .val (.long ub), .second, .val (.long vb), .second, .val (.long x4), .second, .val (.int x5), .val (.int (v0_cap x5)), .val (.long (v0_m x5)), .second, .val (.long (v0_span x5)), .second, .val (.int (v0_n x5)), .unset, .unset, .unset, .unset, .unset, .unset, .unset] [(.long vb)]))
    refine g_lloadN X0 hx 113 (hb hby at_112) rfl rfl ?_
    show Go p e below s _ _ _ (T0.setTop (mkF m 113 #[.val (.long ua), .second, .val (.long va), .second, .val (.long ub), .second, .val (.long vb), .second, .val (.long x4), .second, .val (.int x5), .val (.int (v0_cap x5)), .val (.long (v0_m x5)), .second, .val (.long (v0_span x5)), .second, .val (.int (v0_n x5)), .unset, .unset, .unset, .unset, .unset, .unset, .unset] [(.long va), (.long vb)]))
    refine g_lcmp X0 hx 114 (hb hby at_113) rfl ?_
    show Go p e below s _ _ _ (T0.setTop (mkF m 114 #[.val (.long ua), .second, .val (.long va), .second, .val (.long ub), .second, .val (.long vb), .second, .val (.long x4), .second, .val (.int x5), .val (.int (v0_cap x5)), .val (.long (v0_m x5)), .second, .val (.long (v0_span x5)), .second, .val (.int (v0_n x5)), .unset, .unset, .unset, .unset, .unset, .unset, .unset] [(.int (lcmpW vb va))]))
    refine g_lc_ne X0 hx 132 117 (hb hby at_114) (by decide) rfl rfl (fun h31 => ?_) (fun h31 => ?_)
    · show Go p e below s _ _ _ (T0.setTop (mkF m 117 #[.val (.long ua), .second, .val (.long va), .second, .val (.long ub), .second, .val (.long vb), .second, .val (.long x4), .second, .val (.int x5), .val (.int (v0_cap x5)), .val (.long (v0_m x5)), .second, .val (.long (v0_span x5)), .second, .val (.int (v0_n x5)), .unset, .unset, .unset, .unset, .unset, .unset, .unset] []))
      refine g_lloadN X0 hx 118 (hb hby at_117) rfl rfl ?_
      show Go p e below s _ _ _ (T0.setTop (mkF m 118 #[.val (.long ua), .second, .val (.long va), .second, .val (.long ub), .second, .val (.long vb), .second, .val (.long x4), .second, .val (.int x5), .val (.int (v0_cap x5)), .val (.long (v0_m x5)), .second, .val (.long (v0_span x5)), .second, .val (.int (v0_n x5)), .unset, .unset, .unset, .unset, .unset, .unset, .unset] [(.long ua)]))
      refine g_lconst X0 hx (1 : Int64) 119 (hb hby at_118) rfl rfl ?_
      show Go p e below s _ _ _ (T0.setTop (mkF m 119 #[.val (.long ua), .second, .val (.long va), .second, .val (.long ub), .second, .val (.long vb), .second, .val (.long x4), .second, .val (.int x5), .val (.int (v0_cap x5)), .val (.long (v0_m x5)), .second, .val (.long (v0_span x5)), .second, .val (.int (v0_n x5)), .unset, .unset, .unset, .unset, .unset, .unset, .unset] [(.long (1 : Int64)), (.long ua)]))
      refine g_lcmp X0 hx 120 (hb hby at_119) rfl ?_
      show Go p e below s _ _ _ (T0.setTop (mkF m 120 #[.val (.long ua), .second, .val (.long va), .second, .val (.long ub), .second, .val (.long vb), .second, .val (.long x4), .second, .val (.int x5), .val (.int (v0_cap x5)), .val (.long (v0_m x5)), .second, .val (.long (v0_span x5)), .second, .val (.int (v0_n x5)), .unset, .unset, .unset, .unset, .unset, .unset, .unset] [(.int (lcmpW ua (1 : Int64)))]))
      refine g_lc_ne X0 hx 129 123 (hb hby at_120) (by decide) rfl rfl (fun h32 => ?_) (fun h32 => ?_)
      · show Go p e below s _ _ _ (T0.setTop (mkF m 123 #[.val (.long ua), .second, .val (.long va), .second, .val (.long ub), .second, .val (.long vb), .second, .val (.long x4), .second, .val (.int x5), .val (.int (v0_cap x5)), .val (.long (v0_m x5)), .second, .val (.long (v0_span x5)), .second, .val (.int (v0_n x5)), .unset, .unset, .unset, .unset, .unset, .unset, .unset] []))
        refine g_ldc2_w X0 hx hZ hown (hw _ (List.mem_of_getElem? (i := 0) rfl)) 126 (hb hby at_123) rfl ?_
        show Go p e below s _ _ _ (T0.setTop (mkF m 126 #[.val (.long ua), .second, .val (.long va), .second, .val (.long ub), .second, .val (.long vb), .second, .val (.long x4), .second, .val (.int x5), .val (.int (v0_cap x5)), .val (.long (v0_m x5)), .second, .val (.long (v0_span x5)), .second, .val (.int (v0_n x5)), .unset, .unset, .unset, .unset, .unset, .unset, .unset] [(.long (2 : Int64))]))
        refine g_goto X0 hx 130 (hb hby at_126) (by decide) rfl ?_
        show Go p e below s _ _ _ (T0.setTop (mkF m 130 #[.val (.long ua), .second, .val (.long va), .second, .val (.long ub), .second, .val (.long vb), .second, .val (.long x4), .second, .val (.int x5), .val (.int (v0_cap x5)), .val (.long (v0_m x5)), .second, .val (.long (v0_span x5)), .second, .val (.int (v0_n x5)), .unset, .unset, .unset, .unset, .unset, .unset, .unset] [(.long (2 : Int64))]))
        refine g_lstore X0 hx #[.val (.long ua), .second, .val (.long va), .second, .val (.long (2 : Int64)), .second, .val (.long vb), .second, .val (.long x4), .second, .val (.int x5), .val (.int (v0_cap x5)), .val (.long (v0_m x5)), .second, .val (.long (v0_span x5)), .second, .val (.int (v0_n x5)), .unset, .unset, .unset, .unset, .unset, .unset, .unset] 132 (hb hby at_130) rfl rfl ?_
        show Go p e below s _ _ _ (T0.setTop (mkF m 132 #[.val (.long ua), .second, .val (.long va), .second, .val (.long (2 : Int64)), .second, .val (.long vb), .second, .val (.long x4), .second, .val (.int x5), .val (.int (v0_cap x5)), .val (.long (v0_m x5)), .second, .val (.long (v0_span x5)), .second, .val (.int (v0_n x5)), .unset, .unset, .unset, .unset, .unset, .unset, .unset] []))
        exact sg0_132 l Z a0 hw hx hby hml hret hlk hown hnm hZ x0 x1 x2 x3 x4 x5 h0 n0  ua va (2 : Int64) vb _ _ _ X0 e0 Z0 N0 he1 (fun q => absurd q.1 (by decide))
      · show Go p e below s _ _ _ (T0.setTop (mkF m 129 #[.val (.long ua), .second, .val (.long va), .second, .val (.long ub), .second, .val (.long vb), .second, .val (.long x4), .second, .val (.int x5), .val (.int (v0_cap x5)), .val (.long (v0_m x5)), .second, .val (.long (v0_span x5)), .second, .val (.int (v0_n x5)), .unset, .unset, .unset, .unset, .unset, .unset, .unset] []))
        refine g_lconst X0 hx (1 : Int64) 130 (hb hby at_129) rfl rfl ?_
        show Go p e below s _ _ _ (T0.setTop (mkF m 130 #[.val (.long ua), .second, .val (.long va), .second, .val (.long ub), .second, .val (.long vb), .second, .val (.long x4), .second, .val (.int x5), .val (.int (v0_cap x5)), .val (.long (v0_m x5)), .second, .val (.long (v0_span x5)), .second, .val (.int (v0_n x5)), .unset, .unset, .unset, .unset, .unset, .unset, .unset] [(.long (1 : Int64))]))
        refine g_lstore X0 hx #[.val (.long ua), .second, .val (.long va), .second, .val (.long (1 : Int64)), .second, .val (.long vb), .second, .val (.long x4), .second, .val (.int x5), .val (.int (v0_cap x5)), .val (.long (v0_m x5)), .second, .val (.long (v0_span x5)), .second, .val (.int (v0_n x5)), .unset, .unset, .unset, .unset, .unset, .unset, .unset] 132 (hb hby at_130) rfl rfl ?_
        show Go p e below s _ _ _ (T0.setTop (mkF m 132 #[.val (.long ua), .second, .val (.long va), .second, .val (.long (1 : Int64)), .second, .val (.long vb), .second, .val (.long x4), .second, .val (.int x5), .val (.int (v0_cap x5)), .val (.long (v0_m x5)), .second, .val (.long (v0_span x5)), .second, .val (.int (v0_n x5)), .unset, .unset, .unset, .unset, .unset, .unset, .unset] []))
        exact sg0_132 l Z a0 hw hx hby hml hret hlk hown hnm hZ x0 x1 x2 x3 x4 x5 h0 n0  ua va (1 : Int64) vb _ _ _ X0 e0 Z0 N0 he1 (fun q => absurd q.1 (by decide))
    · show Go p e below s _ _ _ (T0.setTop (mkF m 132 #[.val (.long ua), .second, .val (.long va), .second, .val (.long ub), .second, .val (.long vb), .second, .val (.long x4), .second, .val (.int x5), .val (.int (v0_cap x5)), .val (.long (v0_m x5)), .second, .val (.long (v0_span x5)), .second, .val (.int (v0_n x5)), .unset, .unset, .unset, .unset, .unset, .unset, .unset] []))
      exact sg0_132 l Z a0 hw hx hby hml hret hlk hown hnm hZ x0 x1 x2 x3 x4 x5 h0 n0  ua va ub vb _ _ _ X0 e0 Z0 N0 he1 he2
  · show Go p e below s _ _ _ (T0.setTop (mkF m 132 #[.val (.long ua), .second, .val (.long va), .second, .val (.long ub), .second, .val (.long vb), .second, .val (.long x4), .second, .val (.int x5), .val (.int (v0_cap x5)), .val (.long (v0_m x5)), .second, .val (.long (v0_span x5)), .second, .val (.int (v0_n x5)), .unset, .unset, .unset, .unset, .unset, .unset, .unset] []))
    exact sg0_132 l Z a0 hw hx hby hml hret hlk hown hnm hZ x0 x1 x2 x3 x4 x5 h0 n0  ua va ub vb _ _ _ X0 e0 Z0 N0 he1 he2
set_option maxRecDepth 65536 in
set_option maxHeartbeats 40000000 in
theorem sg0_86 (l : Launch) (Z : State) (a0 : Array Value) (hw : ∀ d ∈ tables_1, d.before a0 Z = true) {p : Program} {e : Env} {s : State} {m : MethodId} {args : Array Value} {below : List Frame} {meth : Method} {c : Code} (hx : p.tables.exec = Jvm.exec) (hby : c.code = code) (hml : c.maxLocals = maxLocals) (hret : meth.sig.returnType = ret) (hlk : meth.locks = false) (hown : s.vm.findClass "com/example/itinerant_spider/itinerantspider/frontier/FingerprintTableContainsPinLaw" = some m.cls) (hnm : meth.name = "law") (hZ : Z.Warmed39 s.vm) (x0 : Int64) (x1 : Int64) (x2 : Int64) (x3 : Int64) (x4 : Int64) (x5 : Int32) (h0 : Heap) (n0 : Nat) : ∀  (ua : Int64) (va : Int64) (ub : Int64) (vb : Int64) (T0 : State) (locs : List Loc) (hS : Heap), Stand p l e room_1 s m args below meth c T0 locs 0 0 → T0.heap = hS → n0 ≤ hS.size → Fr n0 locs → (¬ (ua = 0 ∧ va = 0)) → Go p e below s (Q0 Z x0 x1 x2 x3 x4 x5 h0 n0) room_1.cells room_1.slots (T0.setTop (mkF m 86 #[.val (.long ua), .second, .val (.long va), .second, .val (.long ub), .second, .val (.long vb), .second, .val (.long x4), .second, .val (.int x5), .val (.int (v0_cap x5)), .val (.long (v0_m x5)), .second, .val (.long (v0_span x5)), .second, .val (.int (v0_n x5)), .unset, .unset, .unset, .unset, .unset, .unset, .unset] [])) := by
  intro ua va ub vb T0 locs hS X0 e0 Z0 N0 he1
  refine g_lload X0 hx 88 (hb hby at_86) rfl rfl ?_
  show Go p e below s _ _ _ (T0.setTop (mkF m 88 #[.val (.long ua), .second, .val (.long va), .second, .val (.long ub), .second, .val (.long vb), .second, .val (.long x4), .second, .val (.int x5), .val (.int (v0_cap x5)), .val (.long (v0_m x5)), .second, .val (.long (v0_span x5)), .second, .val (.int (v0_n x5)), .unset, .unset, .unset, .unset, .unset, .unset, .unset] [(.long ub)]))
  refine g_lconst X0 hx (0 : Int64) 89 (hb hby at_88) rfl rfl ?_
  show Go p e below s _ _ _ (T0.setTop (mkF m 89 #[.val (.long ua), .second, .val (.long va), .second, .val (.long ub), .second, .val (.long vb), .second, .val (.long x4), .second, .val (.int x5), .val (.int (v0_cap x5)), .val (.long (v0_m x5)), .second, .val (.long (v0_span x5)), .second, .val (.int (v0_n x5)), .unset, .unset, .unset, .unset, .unset, .unset, .unset] [(.long (0 : Int64)), (.long ub)]))
  refine g_lcmp X0 hx 90 (hb hby at_89) rfl ?_
  show Go p e below s _ _ _ (T0.setTop (mkF m 90 #[.val (.long ua), .second, .val (.long va), .second, .val (.long ub), .second, .val (.long vb), .second, .val (.long x4), .second, .val (.int x5), .val (.int (v0_cap x5)), .val (.long (v0_m x5)), .second, .val (.long (v0_span x5)), .second, .val (.int (v0_n x5)), .unset, .unset, .unset, .unset, .unset, .unset, .unset] [(.int (lcmpW ub (0 : Int64)))]))
  refine g_lc_ne X0 hx 103 93 (hb hby at_90) (by decide) rfl rfl (fun h33 => ?_) (fun h33 => ?_)
  · show Go p e below s _ _ _ (T0.setTop (mkF m 93 #[.val (.long ua), .second, .val (.long va), .second, .val (.long ub), .second, .val (.long vb), .second, .val (.long x4), .second, .val (.int x5), .val (.int (v0_cap x5)), .val (.long (v0_m x5)), .second, .val (.long (v0_span x5)), .second, .val (.int (v0_n x5)), .unset, .unset, .unset, .unset, .unset, .unset, .unset] []))
    refine g_lload X0 hx 95 (hb hby at_93) rfl rfl ?_
    show Go p e below s _ _ _ (T0.setTop (mkF m 95 #[.val (.long ua), .second, .val (.long va), .second, .val (.long ub), .second, .val (.long vb), .second, .val (.long x4), .second, .val (.int x5), .val (.int (v0_cap x5)), .val (.long (v0_m x5)), .second, .val (.long (v0_span x5)), .second, .val (.int (v0_n x5)), .unset, .unset, .unset, .unset, .unset, .unset, .unset] [(.long vb)]))
    refine g_lconst X0 hx (0 : Int64) 96 (hb hby at_95) rfl rfl ?_
    show Go p e below s _ _ _ (T0.setTop (mkF m 96 #[.val (.long ua), .second, .val (.long va), .second, .val (.long ub), .second, .val (.long vb), .second, .val (.long x4), .second, .val (.int x5), .val (.int (v0_cap x5)), .val (.long (v0_m x5)), .second, .val (.long (v0_span x5)), .second, .val (.int (v0_n x5)), .unset, .unset, .unset, .unset, .unset, .unset, .unset] [(.long (0 : Int64)), (.long vb)]))
    refine g_lcmp X0 hx 97 (hb hby at_96) rfl ?_
    show Go p e below s _ _ _ (T0.setTop (mkF m 97 #[.val (.long ua), .second, .val (.long va), .second, .val (.long ub), .second, .val (.long vb), .second, .val (.long x4), .second, .val (.int x5), .val (.int (v0_cap x5)), .val (.long (v0_m x5)), .second, .val (.long (v0_span x5)), .second, .val (.int (v0_n x5)), .unset, .unset, .unset, .unset, .unset, .unset, .unset] [(.int (lcmpW vb (0 : Int64)))]))
    refine g_lc_ne X0 hx 103 100 (hb hby at_97) (by decide) rfl rfl (fun h34 => ?_) (fun h34 => ?_)
    · show Go p e below s _ _ _ (T0.setTop (mkF m 100 #[.val (.long ua), .second, .val (.long va), .second, .val (.long ub), .second, .val (.long vb), .second, .val (.long x4), .second, .val (.int x5), .val (.int (v0_cap x5)), .val (.long (v0_m x5)), .second, .val (.long (v0_span x5)), .second, .val (.int (v0_n x5)), .unset, .unset, .unset, .unset, .unset, .unset, .unset] []))
      refine g_lconst X0 hx (1 : Int64) 101 (hb hby at_100) rfl rfl ?_
      show Go p e below s _ _ _ (T0.setTop (mkF m 101 #[.val (.long ua), .second, .val (.long va), .second, .val (.long ub), .second, .val (.long vb), .second, .val (.long x4), .second, .val (.int x5), .val (.int (v0_cap x5)), .val (.long (v0_m x5)), .second, .val (.long (v0_span x5)), .second, .val (.int (v0_n x5)), .unset, .unset, .unset, .unset, .unset, .unset, .unset] [(.long (1 : Int64))]))
      refine g_lstore X0 hx #[.val (.long ua), .second, .val (.long va), .second, .val (.long (1 : Int64)), .second, .val (.long vb), .second, .val (.long x4), .second, .val (.int x5), .val (.int (v0_cap x5)), .val (.long (v0_m x5)), .second, .val (.long (v0_span x5)), .second, .val (.int (v0_n x5)), .unset, .unset, .unset, .unset, .unset, .unset, .unset] 103 (hb hby at_101) rfl rfl ?_
      show Go p e below s _ _ _ (T0.setTop (mkF m 103 #[.val (.long ua), .second, .val (.long va), .second, .val (.long (1 : Int64)), .second, .val (.long vb), .second, .val (.long x4), .second, .val (.int x5), .val (.int (v0_cap x5)), .val (.long (v0_m x5)), .second, .val (.long (v0_span x5)), .second, .val (.int (v0_n x5)), .unset, .unset, .unset, .unset, .unset, .unset, .unset] []))
      exact sg0_103 l Z a0 hw hx hby hml hret hlk hown hnm hZ x0 x1 x2 x3 x4 x5 h0 n0  ua va (1 : Int64) vb _ _ _ X0 e0 Z0 N0 he1 (fun q => absurd q.1 (by decide))
    · show Go p e below s _ _ _ (T0.setTop (mkF m 103 #[.val (.long ua), .second, .val (.long va), .second, .val (.long ub), .second, .val (.long vb), .second, .val (.long x4), .second, .val (.int x5), .val (.int (v0_cap x5)), .val (.long (v0_m x5)), .second, .val (.long (v0_span x5)), .second, .val (.int (v0_n x5)), .unset, .unset, .unset, .unset, .unset, .unset, .unset] []))
      exact sg0_103 l Z a0 hw hx hby hml hret hlk hown hnm hZ x0 x1 x2 x3 x4 x5 h0 n0  ua va ub vb _ _ _ X0 e0 Z0 N0 he1 (fun q => h34 q.2)
  · show Go p e below s _ _ _ (T0.setTop (mkF m 103 #[.val (.long ua), .second, .val (.long va), .second, .val (.long ub), .second, .val (.long vb), .second, .val (.long x4), .second, .val (.int x5), .val (.int (v0_cap x5)), .val (.long (v0_m x5)), .second, .val (.long (v0_span x5)), .second, .val (.int (v0_n x5)), .unset, .unset, .unset, .unset, .unset, .unset, .unset] []))
    exact sg0_103 l Z a0 hw hx hby hml hret hlk hown hnm hZ x0 x1 x2 x3 x4 x5 h0 n0  ua va ub vb _ _ _ X0 e0 Z0 N0 he1 (fun q => h33 q.1)
set_option maxRecDepth 65536 in
set_option maxHeartbeats 40000000 in
theorem sg0_72 (l : Launch) (Z : State) (a0 : Array Value) (hw : ∀ d ∈ tables_1, d.before a0 Z = true) {p : Program} {e : Env} {s : State} {m : MethodId} {args : Array Value} {below : List Frame} {meth : Method} {c : Code} (hx : p.tables.exec = Jvm.exec) (hby : c.code = code) (hml : c.maxLocals = maxLocals) (hret : meth.sig.returnType = ret) (hlk : meth.locks = false) (hown : s.vm.findClass "com/example/itinerant_spider/itinerantspider/frontier/FingerprintTableContainsPinLaw" = some m.cls) (hnm : meth.name = "law") (hZ : Z.Warmed39 s.vm) (x0 : Int64) (x1 : Int64) (x2 : Int64) (x3 : Int64) (x4 : Int64) (x5 : Int32) (h0 : Heap) (n0 : Nat) : ∀  (ua : Int64) (va : Int64) (ub : Int64) (vb : Int64) (T0 : State) (locs : List Loc) (hS : Heap), Stand p l e room_1 s m args below meth c T0 locs 0 0 → T0.heap = hS → n0 ≤ hS.size → Fr n0 locs → Go p e below s (Q0 Z x0 x1 x2 x3 x4 x5 h0 n0) room_1.cells room_1.slots (T0.setTop (mkF m 72 #[.val (.long ua), .second, .val (.long va), .second, .val (.long ub), .second, .val (.long vb), .second, .val (.long x4), .second, .val (.int x5), .val (.int (v0_cap x5)), .val (.long (v0_m x5)), .second, .val (.long (v0_span x5)), .second, .val (.int (v0_n x5)), .unset, .unset, .unset, .unset, .unset, .unset, .unset] [])) := by
  intro ua va ub vb T0 locs hS X0 e0 Z0 N0
  refine g_lloadN X0 hx 73 (hb hby at_72) rfl rfl ?_
  show Go p e below s _ _ _ (T0.setTop (mkF m 73 #[.val (.long ua), .second, .val (.long va), .second, .val (.long ub), .second, .val (.long vb), .second, .val (.long x4), .second, .val (.int x5), .val (.int (v0_cap x5)), .val (.long (v0_m x5)), .second, .val (.long (v0_span x5)), .second, .val (.int (v0_n x5)), .unset, .unset, .unset, .unset, .unset, .unset, .unset] [(.long ua)]))
  refine g_lconst X0 hx (0 : Int64) 74 (hb hby at_73) rfl rfl ?_
  show Go p e below s _ _ _ (T0.setTop (mkF m 74 #[.val (.long ua), .second, .val (.long va), .second, .val (.long ub), .second, .val (.long vb), .second, .val (.long x4), .second, .val (.int x5), .val (.int (v0_cap x5)), .val (.long (v0_m x5)), .second, .val (.long (v0_span x5)), .second, .val (.int (v0_n x5)), .unset, .unset, .unset, .unset, .unset, .unset, .unset] [(.long (0 : Int64)), (.long ua)]))
  refine g_lcmp X0 hx 75 (hb hby at_74) rfl ?_
  show Go p e below s _ _ _ (T0.setTop (mkF m 75 #[.val (.long ua), .second, .val (.long va), .second, .val (.long ub), .second, .val (.long vb), .second, .val (.long x4), .second, .val (.int x5), .val (.int (v0_cap x5)), .val (.long (v0_m x5)), .second, .val (.long (v0_span x5)), .second, .val (.int (v0_n x5)), .unset, .unset, .unset, .unset, .unset, .unset, .unset] [(.int (lcmpW ua (0 : Int64)))]))
  refine g_lc_ne X0 hx 86 78 (hb hby at_75) (by decide) rfl rfl (fun h35 => ?_) (fun h35 => ?_)
  · show Go p e below s _ _ _ (T0.setTop (mkF m 78 #[.val (.long ua), .second, .val (.long va), .second, .val (.long ub), .second, .val (.long vb), .second, .val (.long x4), .second, .val (.int x5), .val (.int (v0_cap x5)), .val (.long (v0_m x5)), .second, .val (.long (v0_span x5)), .second, .val (.int (v0_n x5)), .unset, .unset, .unset, .unset, .unset, .unset, .unset] []))
    refine g_lloadN X0 hx 79 (hb hby at_78) rfl rfl ?_
    show Go p e below s _ _ _ (T0.setTop (mkF m 79 #[.val (.long ua), .second, .val (.long va), .second, .val (.long ub), .second, .val (.long vb), .second, .val (.long x4), .second, .val (.int x5), .val (.int (v0_cap x5)), .val (.long (v0_m x5)), .second, .val (.long (v0_span x5)), .second, .val (.int (v0_n x5)), .unset, .unset, .unset, .unset, .unset, .unset, .unset] [(.long va)]))
    refine g_lconst X0 hx (0 : Int64) 80 (hb hby at_79) rfl rfl ?_
    show Go p e below s _ _ _ (T0.setTop (mkF m 80 #[.val (.long ua), .second, .val (.long va), .second, .val (.long ub), .second, .val (.long vb), .second, .val (.long x4), .second, .val (.int x5), .val (.int (v0_cap x5)), .val (.long (v0_m x5)), .second, .val (.long (v0_span x5)), .second, .val (.int (v0_n x5)), .unset, .unset, .unset, .unset, .unset, .unset, .unset] [(.long (0 : Int64)), (.long va)]))
    refine g_lcmp X0 hx 81 (hb hby at_80) rfl ?_
    show Go p e below s _ _ _ (T0.setTop (mkF m 81 #[.val (.long ua), .second, .val (.long va), .second, .val (.long ub), .second, .val (.long vb), .second, .val (.long x4), .second, .val (.int x5), .val (.int (v0_cap x5)), .val (.long (v0_m x5)), .second, .val (.long (v0_span x5)), .second, .val (.int (v0_n x5)), .unset, .unset, .unset, .unset, .unset, .unset, .unset] [(.int (lcmpW va (0 : Int64)))]))
    refine g_lc_ne X0 hx 86 84 (hb hby at_81) (by decide) rfl rfl (fun h36 => ?_) (fun h36 => ?_)
    · show Go p e below s _ _ _ (T0.setTop (mkF m 84 #[.val (.long ua), .second, .val (.long va), .second, .val (.long ub), .second, .val (.long vb), .second, .val (.long x4), .second, .val (.int x5), .val (.int (v0_cap x5)), .val (.long (v0_m x5)), .second, .val (.long (v0_span x5)), .second, .val (.int (v0_n x5)), .unset, .unset, .unset, .unset, .unset, .unset, .unset] []))
      refine g_lconst X0 hx (1 : Int64) 85 (hb hby at_84) rfl rfl ?_
      show Go p e below s _ _ _ (T0.setTop (mkF m 85 #[.val (.long ua), .second, .val (.long va), .second, .val (.long ub), .second, .val (.long vb), .second, .val (.long x4), .second, .val (.int x5), .val (.int (v0_cap x5)), .val (.long (v0_m x5)), .second, .val (.long (v0_span x5)), .second, .val (.int (v0_n x5)), .unset, .unset, .unset, .unset, .unset, .unset, .unset] [(.long (1 : Int64))]))
      refine g_lstoreN X0 hx #[.val (.long (1 : Int64)), .second, .val (.long va), .second, .val (.long ub), .second, .val (.long vb), .second, .val (.long x4), .second, .val (.int x5), .val (.int (v0_cap x5)), .val (.long (v0_m x5)), .second, .val (.long (v0_span x5)), .second, .val (.int (v0_n x5)), .unset, .unset, .unset, .unset, .unset, .unset, .unset] 86 (hb hby at_85) rfl rfl ?_
      show Go p e below s _ _ _ (T0.setTop (mkF m 86 #[.val (.long (1 : Int64)), .second, .val (.long va), .second, .val (.long ub), .second, .val (.long vb), .second, .val (.long x4), .second, .val (.int x5), .val (.int (v0_cap x5)), .val (.long (v0_m x5)), .second, .val (.long (v0_span x5)), .second, .val (.int (v0_n x5)), .unset, .unset, .unset, .unset, .unset, .unset, .unset] []))
      exact sg0_86 l Z a0 hw hx hby hml hret hlk hown hnm hZ x0 x1 x2 x3 x4 x5 h0 n0  (1 : Int64) va ub vb _ _ _ X0 e0 Z0 N0 (fun q => absurd q.1 (by decide))
    · show Go p e below s _ _ _ (T0.setTop (mkF m 86 #[.val (.long ua), .second, .val (.long va), .second, .val (.long ub), .second, .val (.long vb), .second, .val (.long x4), .second, .val (.int x5), .val (.int (v0_cap x5)), .val (.long (v0_m x5)), .second, .val (.long (v0_span x5)), .second, .val (.int (v0_n x5)), .unset, .unset, .unset, .unset, .unset, .unset, .unset] []))
      exact sg0_86 l Z a0 hw hx hby hml hret hlk hown hnm hZ x0 x1 x2 x3 x4 x5 h0 n0  ua va ub vb _ _ _ X0 e0 Z0 N0 (fun q => h36 q.2)
  · show Go p e below s _ _ _ (T0.setTop (mkF m 86 #[.val (.long ua), .second, .val (.long va), .second, .val (.long ub), .second, .val (.long vb), .second, .val (.long x4), .second, .val (.int x5), .val (.int (v0_cap x5)), .val (.long (v0_m x5)), .second, .val (.long (v0_span x5)), .second, .val (.int (v0_n x5)), .unset, .unset, .unset, .unset, .unset, .unset, .unset] []))
    exact sg0_86 l Z a0 hw hx hby hml hret hlk hown hnm hZ x0 x1 x2 x3 x4 x5 h0 n0  ua va ub vb _ _ _ X0 e0 Z0 N0 (fun q => h35 q.1)
theorem pd__28II_29I : parseMethodDescriptor "(II)I" = some ⟨[.int, .int], some .int⟩ := by decide +kernel
theorem ef_0 (m : MethodId) (x0 : Int64) (x1 : Int64) (x2 : Int64) (x3 : Int64) (x4 : Int64) (x5 : Int32) : entryFrame m #[(.long x0), (.long x1), (.long x2), (.long x3), (.long x4), (.int x5)] maxLocals = mkF m 0 #[.val (.long x0), .second, .val (.long x1), .second, .val (.long x2), .second, .val (.long x3), .second, .val (.long x4), .second, .val (.int x5), .unset, .unset, .unset, .unset, .unset, .unset, .unset, .unset, .unset, .unset, .unset, .unset, .unset] [] := by first | (simp [entryFrame, mkF, argsToLocals, Value.category, maxLocals]; done) | rfl
set_option maxRecDepth 65536 in
set_option maxHeartbeats 40000000 in
theorem rm0 (l : Launch) (Z : State) (a0 : Array Value) (hw : ∀ d ∈ tables_1, d.before a0 Z = true) (ws : List Jvm.Cond) (x0 : Int64) (x1 : Int64) (x2 : Int64) (x3 : Int64) (x4 : Int64) (x5 : Int32) (h0 : Heap) (n0 : Nat) (Z0 : n0 ≤ h0.size) :
    MetFree l x (head1 (Jvm.Cond.code x code maxLocals ret :: ws) room_1) (fun a U => a = #[(.long x0), (.long x1), (.long x2), (.long x3), (.long x4), (.int x5)] ∧ Z.Warmed39 U.vm ∧ U.heap = h0) (fun _ _ _ _ _ => True) (fun _ U o U' => ∃ v L, o = .returned v ∧ Q0 Z x0 x1 x2 x3 x4 x5 h0 n0 v U'.heap L ∧ FrameEnd U o U' L room_1.cells room_1.slots) := by
  refine g_body (plainFor_of_name pn_0) ?_
  intro p e s m below meth c T0 X0 hx hby hml hret hlk hown hnm hZ e0
  rw [ef_0]
  have N0 := Fr.nil n0
  show Go p e below s _ _ _ (T0.setTop (mkF m 0 #[.val (.long x0), .second, .val (.long x1), .second, .val (.long x2), .second, .val (.long x3), .second, .val (.long x4), .second, .val (.int x5), .unset, .unset, .unset, .unset, .unset, .unset, .unset, .unset, .unset, .unset, .unset, .unset, .unset] []))
  refine g_iconst X0 hx (1 : Int32) 1 (hb hby at_0) rfl rfl ?_
  show Go p e below s _ _ _ (T0.setTop (mkF m 1 #[.val (.long x0), .second, .val (.long x1), .second, .val (.long x2), .second, .val (.long x3), .second, .val (.long x4), .second, .val (.int x5), .unset, .unset, .unset, .unset, .unset, .unset, .unset, .unset, .unset, .unset, .unset, .unset, .unset] [(.int (1 : Int32))]))
  refine g_iload X0 hx 3 (hb hby at_1) rfl rfl ?_
  show Go p e below s _ _ _ (T0.setTop (mkF m 3 #[.val (.long x0), .second, .val (.long x1), .second, .val (.long x2), .second, .val (.long x3), .second, .val (.long x4), .second, .val (.int x5), .unset, .unset, .unset, .unset, .unset, .unset, .unset, .unset, .unset, .unset, .unset, .unset, .unset] [(.int x5), (.int (1 : Int32))]))
  refine g_bipush X0 hx (6 : Int32) 5 (hb hby at_3) rfl rfl ?_
  show Go p e below s _ _ _ (T0.setTop (mkF m 5 #[.val (.long x0), .second, .val (.long x1), .second, .val (.long x2), .second, .val (.long x3), .second, .val (.long x4), .second, .val (.int x5), .unset, .unset, .unset, .unset, .unset, .unset, .unset, .unset, .unset, .unset, .unset, .unset, .unset] [(.int (6 : Int32)), (.int x5), (.int (1 : Int32))]))
  refine g_iushr X0 hx 6 (hb hby at_5) rfl ?_
  show Go p e below s _ _ _ (T0.setTop (mkF m 6 #[.val (.long x0), .second, .val (.long x1), .second, .val (.long x2), .second, .val (.long x3), .second, .val (.long x4), .second, .val (.int x5), .unset, .unset, .unset, .unset, .unset, .unset, .unset, .unset, .unset, .unset, .unset, .unset, .unset] [(.int (ushrI x5 (6 : Int32))), (.int (1 : Int32))]))
  refine g_iconst X0 hx (3 : Int32) 7 (hb hby at_6) rfl rfl ?_
  show Go p e below s _ _ _ (T0.setTop (mkF m 7 #[.val (.long x0), .second, .val (.long x1), .second, .val (.long x2), .second, .val (.long x3), .second, .val (.long x4), .second, .val (.int x5), .unset, .unset, .unset, .unset, .unset, .unset, .unset, .unset, .unset, .unset, .unset, .unset, .unset] [(.int (3 : Int32)), (.int (ushrI x5 (6 : Int32))), (.int (1 : Int32))]))
  refine g_iand X0 hx 8 (hb hby at_7) rfl ?_
  show Go p e below s _ _ _ (T0.setTop (mkF m 8 #[.val (.long x0), .second, .val (.long x1), .second, .val (.long x2), .second, .val (.long x3), .second, .val (.long x4), .second, .val (.int x5), .unset, .unset, .unset, .unset, .unset, .unset, .unset, .unset, .unset, .unset, .unset, .unset, .unset] [(.int ((ushrI x5 (6 : Int32)) &&& (3 : Int32))), (.int (1 : Int32))]))
  refine g_ishl X0 hx 9 (hb hby at_8) rfl ?_
  show Go p e below s _ _ _ (T0.setTop (mkF m 9 #[.val (.long x0), .second, .val (.long x1), .second, .val (.long x2), .second, .val (.long x3), .second, .val (.long x4), .second, .val (.int x5), .unset, .unset, .unset, .unset, .unset, .unset, .unset, .unset, .unset, .unset, .unset, .unset, .unset] [(.int (shlI (1 : Int32) ((ushrI x5 (6 : Int32)) &&& (3 : Int32))))]))
  refine g_istore X0 hx #[.val (.long x0), .second, .val (.long x1), .second, .val (.long x2), .second, .val (.long x3), .second, .val (.long x4), .second, .val (.int x5), .val (.int (v0_cap x5)), .unset, .unset, .unset, .unset, .unset, .unset, .unset, .unset, .unset, .unset, .unset, .unset] 11 (hb hby at_9) rfl rfl ?_
  show Go p e below s _ _ _ (T0.setTop (mkF m 11 #[.val (.long x0), .second, .val (.long x1), .second, .val (.long x2), .second, .val (.long x3), .second, .val (.long x4), .second, .val (.int x5), .val (.int (v0_cap x5)), .unset, .unset, .unset, .unset, .unset, .unset, .unset, .unset, .unset, .unset, .unset, .unset] []))
  refine g_ldc2_w X0 hx hZ hown (hw _ (List.mem_of_getElem? (i := 0) rfl)) 14 (hb hby at_11) rfl ?_
  show Go p e below s _ _ _ (T0.setTop (mkF m 14 #[.val (.long x0), .second, .val (.long x1), .second, .val (.long x2), .second, .val (.long x3), .second, .val (.long x4), .second, .val (.int x5), .val (.int (v0_cap x5)), .unset, .unset, .unset, .unset, .unset, .unset, .unset, .unset, .unset, .unset, .unset, .unset] [(.long (2 : Int64))]))
  refine g_iload X0 hx 16 (hb hby at_14) rfl rfl ?_
  show Go p e below s _ _ _ (T0.setTop (mkF m 16 #[.val (.long x0), .second, .val (.long x1), .second, .val (.long x2), .second, .val (.long x3), .second, .val (.long x4), .second, .val (.int x5), .val (.int (v0_cap x5)), .unset, .unset, .unset, .unset, .unset, .unset, .unset, .unset, .unset, .unset, .unset, .unset] [(.int (v0_cap x5)), (.long (2 : Int64))]))
  refine g_i2l X0 hx 17 (hb hby at_16) rfl ?_
  show Go p e below s _ _ _ (T0.setTop (mkF m 17 #[.val (.long x0), .second, .val (.long x1), .second, .val (.long x2), .second, .val (.long x3), .second, .val (.long x4), .second, .val (.int x5), .val (.int (v0_cap x5)), .unset, .unset, .unset, .unset, .unset, .unset, .unset, .unset, .unset, .unset, .unset, .unset] [(.long ((v0_cap x5).toInt64)), (.long (2 : Int64))]))
  refine g_lmul X0 hx 18 (hb hby at_17) rfl ?_
  show Go p e below s _ _ _ (T0.setTop (mkF m 18 #[.val (.long x0), .second, .val (.long x1), .second, .val (.long x2), .second, .val (.long x3), .second, .val (.long x4), .second, .val (.int x5), .val (.int (v0_cap x5)), .unset, .unset, .unset, .unset, .unset, .unset, .unset, .unset, .unset, .unset, .unset, .unset] [(.long ((2 : Int64) * ((v0_cap x5).toInt64)))]))
  refine g_lconst X0 hx (1 : Int64) 19 (hb hby at_18) rfl rfl ?_
  show Go p e below s _ _ _ (T0.setTop (mkF m 19 #[.val (.long x0), .second, .val (.long x1), .second, .val (.long x2), .second, .val (.long x3), .second, .val (.long x4), .second, .val (.int x5), .val (.int (v0_cap x5)), .unset, .unset, .unset, .unset, .unset, .unset, .unset, .unset, .unset, .unset, .unset, .unset] [(.long (1 : Int64)), (.long ((2 : Int64) * ((v0_cap x5).toInt64)))]))
  refine g_lsub X0 hx 20 (hb hby at_19) rfl ?_
  show Go p e below s _ _ _ (T0.setTop (mkF m 20 #[.val (.long x0), .second, .val (.long x1), .second, .val (.long x2), .second, .val (.long x3), .second, .val (.long x4), .second, .val (.int x5), .val (.int (v0_cap x5)), .unset, .unset, .unset, .unset, .unset, .unset, .unset, .unset, .unset, .unset, .unset, .unset] [(.long (((2 : Int64) * ((v0_cap x5).toInt64)) - (1 : Int64)))]))
  refine g_lstore X0 hx #[.val (.long x0), .second, .val (.long x1), .second, .val (.long x2), .second, .val (.long x3), .second, .val (.long x4), .second, .val (.int x5), .val (.int (v0_cap x5)), .val (.long (v0_m x5)), .second, .unset, .unset, .unset, .unset, .unset, .unset, .unset, .unset, .unset, .unset] 22 (hb hby at_20) rfl rfl ?_
  show Go p e below s _ _ _ (T0.setTop (mkF m 22 #[.val (.long x0), .second, .val (.long x1), .second, .val (.long x2), .second, .val (.long x3), .second, .val (.long x4), .second, .val (.int x5), .val (.int (v0_cap x5)), .val (.long (v0_m x5)), .second, .unset, .unset, .unset, .unset, .unset, .unset, .unset, .unset, .unset, .unset] []))
  refine g_ldc2_w X0 hx hZ hown (hw _ (List.mem_of_getElem? (i := 0) rfl)) 25 (hb hby at_22) rfl ?_
  show Go p e below s _ _ _ (T0.setTop (mkF m 25 #[.val (.long x0), .second, .val (.long x1), .second, .val (.long x2), .second, .val (.long x3), .second, .val (.long x4), .second, .val (.int x5), .val (.int (v0_cap x5)), .val (.long (v0_m x5)), .second, .unset, .unset, .unset, .unset, .unset, .unset, .unset, .unset, .unset, .unset] [(.long (2 : Int64))]))
  refine g_iload X0 hx 27 (hb hby at_25) rfl rfl ?_
  show Go p e below s _ _ _ (T0.setTop (mkF m 27 #[.val (.long x0), .second, .val (.long x1), .second, .val (.long x2), .second, .val (.long x3), .second, .val (.long x4), .second, .val (.int x5), .val (.int (v0_cap x5)), .val (.long (v0_m x5)), .second, .unset, .unset, .unset, .unset, .unset, .unset, .unset, .unset, .unset, .unset] [(.int (v0_cap x5)), (.long (2 : Int64))]))
  refine g_i2l X0 hx 28 (hb hby at_27) rfl ?_
  show Go p e below s _ _ _ (T0.setTop (mkF m 28 #[.val (.long x0), .second, .val (.long x1), .second, .val (.long x2), .second, .val (.long x3), .second, .val (.long x4), .second, .val (.int x5), .val (.int (v0_cap x5)), .val (.long (v0_m x5)), .second, .unset, .unset, .unset, .unset, .unset, .unset, .unset, .unset, .unset, .unset] [(.long ((v0_cap x5).toInt64)), (.long (2 : Int64))]))
  refine g_lmul X0 hx 29 (hb hby at_28) rfl ?_
  show Go p e below s _ _ _ (T0.setTop (mkF m 29 #[.val (.long x0), .second, .val (.long x1), .second, .val (.long x2), .second, .val (.long x3), .second, .val (.long x4), .second, .val (.int x5), .val (.int (v0_cap x5)), .val (.long (v0_m x5)), .second, .unset, .unset, .unset, .unset, .unset, .unset, .unset, .unset, .unset, .unset] [(.long ((2 : Int64) * ((v0_cap x5).toInt64)))]))
  refine g_lstore X0 hx #[.val (.long x0), .second, .val (.long x1), .second, .val (.long x2), .second, .val (.long x3), .second, .val (.long x4), .second, .val (.int x5), .val (.int (v0_cap x5)), .val (.long (v0_m x5)), .second, .val (.long (v0_span x5)), .second, .unset, .unset, .unset, .unset, .unset, .unset, .unset, .unset] 31 (hb hby at_29) rfl rfl ?_
  show Go p e below s _ _ _ (T0.setTop (mkF m 31 #[.val (.long x0), .second, .val (.long x1), .second, .val (.long x2), .second, .val (.long x3), .second, .val (.long x4), .second, .val (.int x5), .val (.int (v0_cap x5)), .val (.long (v0_m x5)), .second, .val (.long (v0_span x5)), .second, .unset, .unset, .unset, .unset, .unset, .unset, .unset, .unset] []))
  refine g_iload X0 hx 33 (hb hby at_31) rfl rfl ?_
  show Go p e below s _ _ _ (T0.setTop (mkF m 33 #[.val (.long x0), .second, .val (.long x1), .second, .val (.long x2), .second, .val (.long x3), .second, .val (.long x4), .second, .val (.int x5), .val (.int (v0_cap x5)), .val (.long (v0_m x5)), .second, .val (.long (v0_span x5)), .second, .unset, .unset, .unset, .unset, .unset, .unset, .unset, .unset] [(.int x5)]))
  refine g_iconst X0 hx (4 : Int32) 34 (hb hby at_33) rfl rfl ?_
  show Go p e below s _ _ _ (T0.setTop (mkF m 34 #[.val (.long x0), .second, .val (.long x1), .second, .val (.long x2), .second, .val (.long x3), .second, .val (.long x4), .second, .val (.int x5), .val (.int (v0_cap x5)), .val (.long (v0_m x5)), .second, .val (.long (v0_span x5)), .second, .unset, .unset, .unset, .unset, .unset, .unset, .unset, .unset] [(.int (4 : Int32)), (.int x5)]))
  refine g_iushr X0 hx 35 (hb hby at_34) rfl ?_
  show Go p e below s _ _ _ (T0.setTop (mkF m 35 #[.val (.long x0), .second, .val (.long x1), .second, .val (.long x2), .second, .val (.long x3), .second, .val (.long x4), .second, .val (.int x5), .val (.int (v0_cap x5)), .val (.long (v0_m x5)), .second, .val (.long (v0_span x5)), .second, .unset, .unset, .unset, .unset, .unset, .unset, .unset, .unset] [(.int (ushrI x5 (4 : Int32)))]))
  refine g_iconst X0 hx (3 : Int32) 36 (hb hby at_35) rfl rfl ?_
  show Go p e below s _ _ _ (T0.setTop (mkF m 36 #[.val (.long x0), .second, .val (.long x1), .second, .val (.long x2), .second, .val (.long x3), .second, .val (.long x4), .second, .val (.int x5), .val (.int (v0_cap x5)), .val (.long (v0_m x5)), .second, .val (.long (v0_span x5)), .second, .unset, .unset, .unset, .unset, .unset, .unset, .unset, .unset] [(.int (3 : Int32)), (.int (ushrI x5 (4 : Int32)))]))
  refine g_iand X0 hx 37 (hb hby at_36) rfl ?_
  show Go p e below s _ _ _ (T0.setTop (mkF m 37 #[.val (.long x0), .second, .val (.long x1), .second, .val (.long x2), .second, .val (.long x3), .second, .val (.long x4), .second, .val (.int x5), .val (.int (v0_cap x5)), .val (.long (v0_m x5)), .second, .val (.long (v0_span x5)), .second, .unset, .unset, .unset, .unset, .unset, .unset, .unset, .unset] [(.int ((ushrI x5 (4 : Int32)) &&& (3 : Int32)))]))
  refine g_iconst X0 hx (2 : Int32) 38 (hb hby at_37) rfl rfl ?_
  show Go p e below s _ _ _ (T0.setTop (mkF m 38 #[.val (.long x0), .second, .val (.long x1), .second, .val (.long x2), .second, .val (.long x3), .second, .val (.long x4), .second, .val (.int x5), .val (.int (v0_cap x5)), .val (.long (v0_m x5)), .second, .val (.long (v0_span x5)), .second, .unset, .unset, .unset, .unset, .unset, .unset, .unset, .unset] [(.int (2 : Int32)), (.int ((ushrI x5 (4 : Int32)) &&& (3 : Int32)))]))
  refine g_callS X0 hx hZ hown (hw _ (List.mem_of_getElem? (i := 1) rfl)) (hw _ (List.mem_of_getElem? (i := 2) rfl)) (hw _ (List.mem_of_getElem? (i := 3) rfl)) (hw _ (List.mem_of_getElem? (i := 4) rfl)) (by decide) e0 (rm1 l Z a0 hw [] ((ushrI x5 (4 : Int32)) &&& (3 : Int32)) (2 : Int32) h0) [(.int ((ushrI x5 (4 : Int32)) &&& (3 : Int32))), (.int (2 : Int32))] [] 0 rfl (lenOf pd__28II_29I rfl) rfl (Nat.le_of_eq rfl) (by decide) (by decide) (by decide) (by decide) (by rw [hml]; rfl) (hb hby at_38) ?_
  intro T37 L37 v37 X37 q37
  obtain ⟨rfl, rfl, e37⟩ := q37
  have NS37 := Fr.app N0 (Fr.nil n0)
  show Go p e below s _ _ _ (T37.setTop (mkF m 41 #[.val (.long x0), .second, .val (.long x1), .second, .val (.long x2), .second, .val (.long x3), .second, .val (.long x4), .second, .val (.int x5), .val (.int (v0_cap x5)), .val (.long (v0_m x5)), .second, .val (.long (v0_span x5)), .second, .unset, .unset, .unset, .unset, .unset, .unset, .unset, .unset] [(.int (f1 ((ushrI x5 (4 : Int32)) &&& (3 : Int32)) (2 : Int32)))]))
  refine g_iload X37 hx 43 (hb hby at_41) rfl rfl ?_
  show Go p e below s _ _ _ (T37.setTop (mkF m 43 #[.val (.long x0), .second, .val (.long x1), .second, .val (.long x2), .second, .val (.long x3), .second, .val (.long x4), .second, .val (.int x5), .val (.int (v0_cap x5)), .val (.long (v0_m x5)), .second, .val (.long (v0_span x5)), .second, .unset, .unset, .unset, .unset, .unset, .unset, .unset, .unset] [(.int (v0_cap x5)), (.int (f1 ((ushrI x5 (4 : Int32)) &&& (3 : Int32)) (2 : Int32)))]))
  refine g_callS X37 hx hZ hown (hw _ (List.mem_of_getElem? (i := 1) rfl)) (hw _ (List.mem_of_getElem? (i := 2) rfl)) (hw _ (List.mem_of_getElem? (i := 3) rfl)) (hw _ (List.mem_of_getElem? (i := 4) rfl)) (by decide) e37 (rm1 l Z a0 hw [] (f1 ((ushrI x5 (4 : Int32)) &&& (3 : Int32)) (2 : Int32)) (v0_cap x5) h0) [(.int (f1 ((ushrI x5 (4 : Int32)) &&& (3 : Int32)) (2 : Int32))), (.int (v0_cap x5))] [] 0 rfl (lenOf pd__28II_29I rfl) rfl (Nat.le_of_eq rfl) (by decide) (by decide) (by decide) (by decide) (by rw [hml]; rfl) (hb hby at_43) ?_
  intro T38 L38 v38 X38 q38
  obtain ⟨rfl, rfl, e38⟩ := q38
  have NS38 := Fr.app NS37 (Fr.nil n0)
  show Go p e below s _ _ _ (T38.setTop (mkF m 46 #[.val (.long x0), .second, .val (.long x1), .second, .val (.long x2), .second, .val (.long x3), .second, .val (.long x4), .second, .val (.int x5), .val (.int (v0_cap x5)), .val (.long (v0_m x5)), .second, .val (.long (v0_span x5)), .second, .unset, .unset, .unset, .unset, .unset, .unset, .unset, .unset] [(.int (f1 (f1 ((ushrI x5 (4 : Int32)) &&& (3 : Int32)) (2 : Int32)) (v0_cap x5)))]))
  refine g_istore X38 hx #[.val (.long x0), .second, .val (.long x1), .second, .val (.long x2), .second, .val (.long x3), .second, .val (.long x4), .second, .val (.int x5), .val (.int (v0_cap x5)), .val (.long (v0_m x5)), .second, .val (.long (v0_span x5)), .second, .val (.int (v0_n x5)), .unset, .unset, .unset, .unset, .unset, .unset, .unset] 48 (hb hby at_46) rfl rfl ?_
  show Go p e below s _ _ _ (T38.setTop (mkF m 48 #[.val (.long x0), .second, .val (.long x1), .second, .val (.long x2), .second, .val (.long x3), .second, .val (.long x4), .second, .val (.int x5), .val (.int (v0_cap x5)), .val (.long (v0_m x5)), .second, .val (.long (v0_span x5)), .second, .val (.int (v0_n x5)), .unset, .unset, .unset, .unset, .unset, .unset, .unset] []))
  refine g_iload X38 hx 50 (hb hby at_48) rfl rfl ?_
  show Go p e below s _ _ _ (T38.setTop (mkF m 50 #[.val (.long x0), .second, .val (.long x1), .second, .val (.long x2), .second, .val (.long x3), .second, .val (.long x4), .second, .val (.int x5), .val (.int (v0_cap x5)), .val (.long (v0_m x5)), .second, .val (.long (v0_span x5)), .second, .val (.int (v0_n x5)), .unset, .unset, .unset, .unset, .unset, .unset, .unset] [(.int x5)]))
  refine g_bipush X38 hx (8 : Int32) 52 (hb hby at_50) rfl rfl ?_
  show Go p e below s _ _ _ (T38.setTop (mkF m 52 #[.val (.long x0), .second, .val (.long x1), .second, .val (.long x2), .second, .val (.long x3), .second, .val (.long x4), .second, .val (.int x5), .val (.int (v0_cap x5)), .val (.long (v0_m x5)), .second, .val (.long (v0_span x5)), .second, .val (.int (v0_n x5)), .unset, .unset, .unset, .unset, .unset, .unset, .unset] [(.int (8 : Int32)), (.int x5)]))
  refine g_iand X38 hx 53 (hb hby at_52) rfl ?_
  show Go p e below s _ _ _ (T38.setTop (mkF m 53 #[.val (.long x0), .second, .val (.long x1), .second, .val (.long x2), .second, .val (.long x3), .second, .val (.long x4), .second, .val (.int x5), .val (.int (v0_cap x5)), .val (.long (v0_m x5)), .second, .val (.long (v0_span x5)), .second, .val (.int (v0_n x5)), .unset, .unset, .unset, .unset, .unset, .unset, .unset] [(.int (x5 &&& (8 : Int32)))]))
  refine g_if0_eq X38 hx 72 56 (hb hby at_53) (by decide) rfl rfl (fun h39 => ?_) (fun h39 => ?_)
  · show Go p e below s _ _ _ (T38.setTop (mkF m 72 #[.val (.long x0), .second, .val (.long x1), .second, .val (.long x2), .second, .val (.long x3), .second, .val (.long x4), .second, .val (.int x5), .val (.int (v0_cap x5)), .val (.long (v0_m x5)), .second, .val (.long (v0_span x5)), .second, .val (.int (v0_n x5)), .unset, .unset, .unset, .unset, .unset, .unset, .unset] []))
    exact sg0_72 l Z a0 hw hx hby hml hret hlk hown hnm hZ x0 x1 x2 x3 x4 x5 h0 n0  x0 x1 x2 x3 _ _ _ X38 e38 Z0 NS38
  · show Go p e below s _ _ _ (T38.setTop (mkF m 56 #[.val (.long x0), .second, .val (.long x1), .second, .val (.long x2), .second, .val (.long x3), .second, .val (.long x4), .second, .val (.int x5), .val (.int (v0_cap x5)), .val (.long (v0_m x5)), .second, .val (.long (v0_span x5)), .second, .val (.int (v0_n x5)), .unset, .unset, .unset, .unset, .unset, .unset, .unset] []))
    refine g_lload X38 hx 58 (hb hby at_56) rfl rfl ?_
    show Go p e below s _ _ _ (T38.setTop (mkF m 58 #[.val (.long x0), .second, .val (.long x1), .second, .val (.long x2), .second, .val (.long x3), .second, .val (.long x4), .second, .val (.int x5), .val (.int (v0_cap x5)), .val (.long (v0_m x5)), .second, .val (.long (v0_span x5)), .second, .val (.int (v0_n x5)), .unset, .unset, .unset, .unset, .unset, .unset, .unset] [(.long x3)]))
    refine g_lload X38 hx 60 (hb hby at_58) rfl rfl ?_
    show Go p e below s _ _ _ (T38.setTop (mkF m 60 #[.val (.long x0), .second, .val (.long x1), .second, .val (.long x2), .second, .val (.long x3), .second, .val (.long x4), .second, .val (.int x5), .val (.int (v0_cap x5)), .val (.long (v0_m x5)), .second, .val (.long (v0_span x5)), .second, .val (.int (v0_n x5)), .unset, .unset, .unset, .unset, .unset, .unset, .unset] [(.long (v0_m x5)), (.long x3)]))
    refine g_ldc2_w X38 hx hZ hown (hw _ (List.mem_of_getElem? (i := 36) rfl)) 63 (hb hby at_60) rfl ?_
    show Go p e below s _ _ _ (T38.setTop (mkF m 63 #[.val (.long x0), .second, .val (.long x1), .second, .val (.long x2), .second, .val (.long x3), .second, .val (.long x4), .second, .val (.int x5), .val (.int (v0_cap x5)), .val (.long (v0_m x5)), .second, .val (.long (v0_span x5)), .second, .val (.int (v0_n x5)), .unset, .unset, .unset, .unset, .unset, .unset, .unset] [(.long (-1 : Int64)), (.long (v0_m x5)), (.long x3)]))
    refine g_lxor X38 hx 64 (hb hby at_63) rfl ?_
    show Go p e below s _ _ _ (T38.setTop (mkF m 64 #[.val (.long x0), .second, .val (.long x1), .second, .val (.long x2), .second, .val (.long x3), .second, .val (.long x4), .second, .val (.int x5), .val (.int (v0_cap x5)), .val (.long (v0_m x5)), .second, .val (.long (v0_span x5)), .second, .val (.int (v0_n x5)), .unset, .unset, .unset, .unset, .unset, .unset, .unset] [(.long ((v0_m x5) ^^^ (-1 : Int64))), (.long x3)]))
    refine g_land X38 hx 65 (hb hby at_64) rfl ?_
    show Go p e below s _ _ _ (T38.setTop (mkF m 65 #[.val (.long x0), .second, .val (.long x1), .second, .val (.long x2), .second, .val (.long x3), .second, .val (.long x4), .second, .val (.int x5), .val (.int (v0_cap x5)), .val (.long (v0_m x5)), .second, .val (.long (v0_span x5)), .second, .val (.int (v0_n x5)), .unset, .unset, .unset, .unset, .unset, .unset, .unset] [(.long (x3 &&& ((v0_m x5) ^^^ (-1 : Int64))))]))
    refine g_lloadN X38 hx 66 (hb hby at_65) rfl rfl ?_
    show Go p e below s _ _ _ (T38.setTop (mkF m 66 #[.val (.long x0), .second, .val (.long x1), .second, .val (.long x2), .second, .val (.long x3), .second, .val (.long x4), .second, .val (.int x5), .val (.int (v0_cap x5)), .val (.long (v0_m x5)), .second, .val (.long (v0_span x5)), .second, .val (.int (v0_n x5)), .unset, .unset, .unset, .unset, .unset, .unset, .unset] [(.long x1), (.long (x3 &&& ((v0_m x5) ^^^ (-1 : Int64))))]))
    refine g_lload X38 hx 68 (hb hby at_66) rfl rfl ?_
    show Go p e below s _ _ _ (T38.setTop (mkF m 68 #[.val (.long x0), .second, .val (.long x1), .second, .val (.long x2), .second, .val (.long x3), .second, .val (.long x4), .second, .val (.int x5), .val (.int (v0_cap x5)), .val (.long (v0_m x5)), .second, .val (.long (v0_span x5)), .second, .val (.int (v0_n x5)), .unset, .unset, .unset, .unset, .unset, .unset, .unset] [(.long (v0_m x5)), (.long x1), (.long (x3 &&& ((v0_m x5) ^^^ (-1 : Int64))))]))
    refine g_land X38 hx 69 (hb hby at_68) rfl ?_
    show Go p e below s _ _ _ (T38.setTop (mkF m 69 #[.val (.long x0), .second, .val (.long x1), .second, .val (.long x2), .second, .val (.long x3), .second, .val (.long x4), .second, .val (.int x5), .val (.int (v0_cap x5)), .val (.long (v0_m x5)), .second, .val (.long (v0_span x5)), .second, .val (.int (v0_n x5)), .unset, .unset, .unset, .unset, .unset, .unset, .unset] [(.long (x1 &&& (v0_m x5))), (.long (x3 &&& ((v0_m x5) ^^^ (-1 : Int64))))]))
    refine g_lor X38 hx 70 (hb hby at_69) rfl ?_
    show Go p e below s _ _ _ (T38.setTop (mkF m 70 #[.val (.long x0), .second, .val (.long x1), .second, .val (.long x2), .second, .val (.long x3), .second, .val (.long x4), .second, .val (.int x5), .val (.int (v0_cap x5)), .val (.long (v0_m x5)), .second, .val (.long (v0_span x5)), .second, .val (.int (v0_n x5)), .unset, .unset, .unset, .unset, .unset, .unset, .unset] [(.long ((x3 &&& ((v0_m x5) ^^^ (-1 : Int64))) ||| (x1 &&& (v0_m x5))))]))
    refine g_lstore X38 hx #[.val (.long x0), .second, .val (.long x1), .second, .val (.long x2), .second, .val (.long ((x3 &&& ((v0_m x5) ^^^ (-1 : Int64))) ||| (x1 &&& (v0_m x5)))), .second, .val (.long x4), .second, .val (.int x5), .val (.int (v0_cap x5)), .val (.long (v0_m x5)), .second, .val (.long (v0_span x5)), .second, .val (.int (v0_n x5)), .unset, .unset, .unset, .unset, .unset, .unset, .unset] 72 (hb hby at_70) rfl rfl ?_
    show Go p e below s _ _ _ (T38.setTop (mkF m 72 #[.val (.long x0), .second, .val (.long x1), .second, .val (.long x2), .second, .val (.long ((x3 &&& ((v0_m x5) ^^^ (-1 : Int64))) ||| (x1 &&& (v0_m x5)))), .second, .val (.long x4), .second, .val (.int x5), .val (.int (v0_cap x5)), .val (.long (v0_m x5)), .second, .val (.long (v0_span x5)), .second, .val (.int (v0_n x5)), .unset, .unset, .unset, .unset, .unset, .unset, .unset] []))
    exact sg0_72 l Z a0 hw hx hby hml hret hlk hown hnm hZ x0 x1 x2 x3 x4 x5 h0 n0  x0 x1 x2 ((x3 &&& ((v0_m x5) ^^^ (-1 : Int64))) ||| (x1 &&& (v0_m x5))) _ _ _ X38 e38 Z0 NS38
set_option maxRecDepth 65536 in
set_option maxHeartbeats 40000000 in
theorem comes_1 {Post : Tables → Env → Array Value → State → Outcome → State → Prop} (hpost : ∀ tb e args s v u, (limb_1_1.after args s (.returned v) u = true ∧ limb_1_2.after args s (.returned v) u = true ∧ True) → FrameEnd s (.returned v) u (Jvm.fieldLocs frame_1_writes args s ++ Jvm.arrayLocs frame_1_arrays args s ++ Jvm.staticLocs frame_1_statics s) 16 192 → Post tb e args s (.returned v) u) :
    ArmFor flags0 classFile x code maxLocals ret World_1 tables_1 room_1 Calls_1 rest_1 Pre_1 Post := by
  intro l hfl _ _ p e ha hc hk s m args below hf hA hF happ hP
  obtain ⟨hcalls, hrest, hpre⟩ := hP
  obtain ⟨-, -, -, hnamed, -, -, -, hat⟩ := (Spec.applies_iff hf).mp happ
  obtain ⟨hg, hn⟩ := and_e (Cond.before_iff.mp (show (Jvm.Cond.and given_1 narrow_1).before args s = true from hpre))
  obtain ⟨g1, g2⟩ := and_e hg
  obtain ⟨g3, g4⟩ := and_e g2
  obtain ⟨g5, g6⟩ := and_e g4
  obtain ⟨g7, g8⟩ := and_e g6
  obtain ⟨g9, g10⟩ := and_e g8
  obtain ⟨g11, g12⟩ := and_e g10
  obtain ⟨w0, w1, w2, w3, w4, w5, rfl⟩ : ∃ w0 w1 w2 w3 w4 w5 : Value, args = #[w0, w1, w2, w3, w4, w5] := by
    have hs : args.size = 6 := by simpa [Cond.value, given_1] using g1
    obtain ⟨L⟩ := args
    match L, hs with
    | [w0, w1, w2, w3, w4, w5], _ => exact ⟨w0, w1, w2, w3, w4, w5, rfl⟩
  have hw := fun d (hd : d ∈ tables_1) => atoms_spec (ws := Jvm.Cond.code x code maxLocals ret :: tables_1) hat d (List.mem_cons_of_mem _ hd)
  obtain ⟨i0, ei0⟩ := isL_v g3
  obtain rfl : w0 = (.long i0) := Option.some.inj ei0
  obtain ⟨i1, ei1⟩ := isL_v g5
  obtain rfl : w1 = (.long i1) := Option.some.inj ei1
  obtain ⟨i2, ei2⟩ := isL_v g7
  obtain rfl : w2 = (.long i2) := Option.some.inj ei2
  obtain ⟨i3, ei3⟩ := isL_v g9
  obtain rfl : w3 = (.long i3) := Option.some.inj ei3
  obtain ⟨i4, ei4⟩ := isL_v g11
  obtain rfl : w4 = (.long i4) := Option.some.inj ei4
  obtain ⟨i5, ei5⟩ := is_v g12
  obtain rfl : w5 = (.int i5) := Option.some.inj ei5
  obtain ⟨n, o, h1, h2, h3, _, L, rfl, ⟨rfl, N⟩, hq⟩ := rm0 l s _ hw tables_1 i0 i1 i2 i3 i4 i5 s.heap s.heap.size (Nat.le_refl _) p e ha hc hk s m _ below hf ((Spec.applies_iff_loose hf).mp happ).1 ⟨rfl, State.Warmed39.refl s, rfl⟩ trivial
  refine ⟨n, _, h1, h2, h3, hpost _ _ _ _ _ _ ⟨Cond.after_iff.mpr rfl, Cond.after_iff.mpr (eq_i res_at (Term.int_eval (1)) rfl), trivial⟩ ⟨hq.1, hq.2.1, (hq.2.2.sift fun y hy => Or.inr (N y hy)).mono (by decide) (by decide)⟩⟩
theorem main_1_1 : Claimed_1_1 := comes_1 fun _ _ _ _ _ _ h hF => ⟨h.1, hF⟩
theorem main_1_2 : Claimed_1_2 := comes_1 fun _ _ _ _ _ _ h hF => ⟨h.2.1, hF⟩
end Jvm.Pilot.@@N@@
namespace Jvm.Pilot.@@N@@
open Jvm Jvm.ClassFile Sem Op Lib Jvm.Free Jvm.Stand Jvm.Pilot.@@N@@.Jvm.D
/-! MADE BY PROGRAM (witnessworld.py) out of the Statement's table words and the real class files: 17 classes; the members and pool entries that the words name. The judged class is class 1, her method 1. -/
namespace start1
open Jvm.ClassFile
def u (s : String) : CpInfo := .utf8 (stringToUtf16 s)
/-- a pool by its gaps: so many unusable entries, then the entry; so many at the end -/
def gap : Nat → List CpInfo → List CpInfo
  | 0, r => r
  | n + 1, r => .unusable :: gap n r
def poolList (es : List (Nat × CpInfo)) (last : Nat) : List CpInfo := es.foldr (fun e r => gap e.1 (e.2 :: r)) (gap last [])
def pool (es : List (Nat × CpInfo)) (last : Nat) : Array CpInfo := ⟨poolList es last⟩
def fileOf (pool : Array CpInfo) (this : Nat) (attrs : Array Attribute := #[]) (ms : Array MethodInfo := #[]) (fl : Nat := 33) (sup : Nat := 0) (ifs : Array Nat := #[]) (fds : Array FieldInfo := #[]) : ClassFile where
  minorVersion := 0
  majorVersion := 65
  constantPool := pool
  accessFlags := fl
  thisClass := this
  superClass := sup
  interfaces := ifs
  fields := fds
  methods := ms
  attributes := attrs
def plain (name : String) (sup : Option ClassId) : Class where
  name := name
  kind := .ordinary
  loader := none
  accessFlags := 33
  super := sup
  interfaces := #[]
  cf := none
  fields := #[]
  methods := #[]
  instanceTypes := #[]
  staticTypes := #[]
  resolved := #[]
  callSites := []
  init := .initialized
  statics := none
  mirror := none

def pool0 : Array CpInfo := pool [(5, u "<init>"), (0, u "()V"), (1, .class_ 10), (1, u "java/lang/Object")] 113

def k0c0 : Code := { maxStack := 0, maxLocals := 1, code := object_method_1_code, exceptionTable := #[], attributes := #[] }
def k0m0 : Method := { name := "<init>", desc := "()V", sig := { parameters := [], returnType := none }, accessFlags := 1, code := some k0c0 }
/-- java/lang/Object -/
def k0 : Class := { plain "java/lang/Object" none with
  accessFlags := 33
  interfaces := #[]
  cf := some (fileOf pool0 8 #[] #[{ accessFlags := 1, nameIndex := 5, descriptorIndex := 6, attributes := #[] }] 33 0 #[] #[])
  fields := #[]
  methods := #[k0m0]
  instanceTypes := #[]
  staticTypes := #[]
  resolved := Array.replicate 124 none
  statics := none }

def pool1 : Array CpInfo := pool [(2, .class_ 4), (1, u "java/lang/Object"), (0, u "<init>"), (0, u "()V"), (0, .long 2), (1, .methodref 10 11), (0, .class_ 12), (0, .nameAndType 13 14), (0, u "java/lang/Math"), (0, u "min"), (0, u "(II)I"), (0, .long 18446744073709551615), (1, .class_ 18), (0, u "com/example/itinerant_spider/itinerantspider/frontier/FingerprintTable"), (0, .methodref 17 20), (0, .nameAndType 5 21), (0, u "(I)V"), (0, .methodref 17 23), (0, .nameAndType 24 25), (0, u "add"), (0, u "(JJ)V"), (2, .long 9223372036854775808), (1, .methodref 17 31), (0, .nameAndType 32 33), (0, u "contains"), (0, u "(JJ)Z"), (0, .class_ 35), (0, u "com/example/itinerant_spider/itinerantspider/frontier/FingerprintTableContainsPinLaw"), (2, u "law"), (0, u "(JJJJJI)Z")] 3

def k1m0 : Method := { name := "<init>", desc := "()V", sig := { parameters := [], returnType := none }, accessFlags := 1, code := none }
def k1c1 : Code := { maxStack := 6, maxLocals := 24, code := code, exceptionTable := #[], attributes := #[] }
def k1m1 : Method := { name := "law", desc := "(JJJJJI)Z", sig := { parameters := [.long, .long, .long, .long, .long, .int], returnType := some .boolean }, accessFlags := 9, code := some k1c1 }
/-- com/example/itinerant_spider/itinerantspider/frontier/FingerprintTableContainsPinLaw -/
def k1 : Class := { plain "com/example/itinerant_spider/itinerantspider/frontier/FingerprintTableContainsPinLaw" (some 0) with
  accessFlags := 49
  interfaces := #[]
  cf := some (fileOf pool1 34 #[] #[{ accessFlags := 1, nameIndex := 5, descriptorIndex := 6, attributes := #[] }, { accessFlags := 9, nameIndex := 38, descriptorIndex := 39, attributes := #[] }] 49 2 #[] #[])
  fields := #[]
  methods := #[k1m0, k1m1]
  instanceTypes := #[]
  staticTypes := #[]
  resolved := Array.replicate 43 none
  statics := none }

def pool2 : Array CpInfo := pool [(1, .class_ 2), (0, u "java/lang/Math"), (1, .class_ 6), (1, u "java/lang/Object"), (0, u "<init>"), (0, u "()V"), (89, .class_ 100), (1, u "java/lang/Math$RandomNumberGeneratorHolder"), (71, u "negativeZeroFloatBits"), (0, u "J"), (2, u "negativeZeroDoubleBits"), (24, u "min"), (43, u "$assertionsDisabled"), (0, u "Z"), (88, u "(II)I"), (2, u "twoToTheDoubleScaleDown"), (0, u "D"), (4, u "twoToTheDoubleScaleUp"), (9, u "E"), (3, u "PI"), (2, u "TAU"), (2, u "DEGREES_TO_RADIANS"), (0, u "RADIANS_TO_DEGREES")] 94

def k2m0 : Method := { name := "<init>", desc := "()V", sig := { parameters := [], returnType := none }, accessFlags := 2, code := none }
def k2c1 : Code := { maxStack := 2, maxLocals := 2, code := jdk_29_method_69_code, exceptionTable := #[], attributes := #[] }
def k2m1 : Method := { name := "min", desc := "(II)I", sig := { parameters := [.int, .int], returnType := some .int }, accessFlags := 9, code := some k2c1 }
/-- java/lang/Math -/
def k2 : Class := { plain "java/lang/Math" (some 0) with
  accessFlags := 49
  interfaces := #[]
  cf := some (fileOf pool2 1 #[.nestMembers #[98]] #[{ accessFlags := 2, nameIndex := 7, descriptorIndex := 8, attributes := #[] }, { accessFlags := 9, nameIndex := 201, descriptorIndex := 335, attributes := #[] }] 49 4 #[] #[{ accessFlags := 25, nameIndex := 354, descriptorIndex := 339, attributes := #[] }, { accessFlags := 25, nameIndex := 358, descriptorIndex := 339, attributes := #[] }, { accessFlags := 25, nameIndex := 361, descriptorIndex := 339, attributes := #[] }, { accessFlags := 26, nameIndex := 364, descriptorIndex := 339, attributes := #[] }, { accessFlags := 26, nameIndex := 365, descriptorIndex := 339, attributes := #[] }, { accessFlags := 26, nameIndex := 172, descriptorIndex := 173, attributes := #[] }, { accessFlags := 26, nameIndex := 176, descriptorIndex := 173, attributes := #[] }, { accessFlags := 8, nameIndex := 344, descriptorIndex := 339, attributes := #[] }, { accessFlags := 8, nameIndex := 338, descriptorIndex := 339, attributes := #[] }, { accessFlags := 4120, nameIndex := 245, descriptorIndex := 246, attributes := #[] }])
  fields := #[{ name := "E", type := .double, accessFlags := 25, slot := 0, constantValue := 0 }, { name := "PI", type := .double, accessFlags := 25, slot := 1, constantValue := 0 }, { name := "TAU", type := .double, accessFlags := 25, slot := 2, constantValue := 0 }, { name := "DEGREES_TO_RADIANS", type := .double, accessFlags := 26, slot := 3, constantValue := 0 }, { name := "RADIANS_TO_DEGREES", type := .double, accessFlags := 26, slot := 4, constantValue := 0 }, { name := "negativeZeroFloatBits", type := .long, accessFlags := 26, slot := 5, constantValue := 0 }, { name := "negativeZeroDoubleBits", type := .long, accessFlags := 26, slot := 6, constantValue := 0 }, { name := "twoToTheDoubleScaleUp", type := .double, accessFlags := 8, slot := 7, constantValue := 0 }, { name := "twoToTheDoubleScaleDown", type := .double, accessFlags := 8, slot := 8, constantValue := 0 }, { name := "$assertionsDisabled", type := .boolean, accessFlags := 4120, slot := 9, constantValue := 0 }]
  methods := #[k2m0, k2m1]
  instanceTypes := #[]
  staticTypes := #[.double, .double, .double, .double, .double, .long, .long, .double, .double, .boolean]
  resolved := Array.replicate 460 none
  statics := none }

def pool3 : Array CpInfo := pool [(1, .methodref 2 3), (0, .class_ 4), (0, .nameAndType 5 6), (0, u "java/lang/Object"), (0, u "<init>"), (0, u "()V"), (0, .methodref 8 9), (0, .class_ 10), (0, .nameAndType 11 12), (0, u "java/lang/Integer"), (0, u "bitCount"), (0, u "(I)I"), (0, .integer 536870912), (9, .fieldref 24 25), (0, .class_ 26), (0, .nameAndType 27 28), (0, u "com/example/itinerant_spider/itinerantspider/frontier/FingerprintTable"), (0, u "capacity"), (0, u "I"), (0, .fieldref 24 30), (0, .nameAndType 31 32), (0, u "highs"), (0, u "[J"), (0, .fieldref 24 34), (0, .nameAndType 35 32), (0, u "lows"), (0, .fieldref 24 37), (0, .nameAndType 38 28), (0, u "mask"), (0, .fieldref 24 40), (0, .nameAndType 41 28), (0, u "size"), (0, .methodref 24 43), (0, .nameAndType 44 45), (0, u "isFull"), (0, u "()Z"), (31, .class_ 78), (0, u "com/example/itinerant_spider/itinerantspider/frontier/FingerprintTable$1"), (9, u "(I)V"), (4, u "contains"), (0, u "(JJ)Z"), (0, u "add"), (0, u "(JJ)V")] 26

def k3c0 : Code := { maxStack := 3, maxLocals := 2, code := prog_24_method_1_code, exceptionTable := #[], attributes := #[] }
def k3m0 : Method := { name := "<init>", desc := "(I)V", sig := { parameters := [.int], returnType := none }, accessFlags := 0, code := some k3c0 }
def k3c1 : Code := { maxStack := 2, maxLocals := 1, code := prog_24_method_3_code, exceptionTable := #[], attributes := #[] }
def k3m1 : Method := { name := "isFull", desc := "()Z", sig := { parameters := [], returnType := some .boolean }, accessFlags := 0, code := some k3c1 }
def k3c2 : Code := { maxStack := 4, maxLocals := 6, code := prog_24_method_4_code, exceptionTable := #[], attributes := #[] }
def k3m2 : Method := { name := "contains", desc := "(JJ)Z", sig := { parameters := [.long, .long], returnType := some .boolean }, accessFlags := 0, code := some k3c2 }
def k3c3 : Code := { maxStack := 4, maxLocals := 6, code := prog_24_method_5_code, exceptionTable := #[], attributes := #[] }
def k3m3 : Method := { name := "add", desc := "(JJ)V", sig := { parameters := [.long, .long], returnType := none }, accessFlags := 0, code := some k3c3 }
/-- com/example/itinerant_spider/itinerantspider/frontier/FingerprintTable -/
def k3 : Class := { plain "com/example/itinerant_spider/itinerantspider/frontier/FingerprintTable" (some 0) with
  accessFlags := 32
  interfaces := #[]
  cf := some (fileOf pool3 24 #[.nestMembers #[77]] #[{ accessFlags := 0, nameIndex := 5, descriptorIndex := 88, attributes := #[] }, { accessFlags := 0, nameIndex := 44, descriptorIndex := 45, attributes := #[] }, { accessFlags := 0, nameIndex := 93, descriptorIndex := 94, attributes := #[] }, { accessFlags := 0, nameIndex := 95, descriptorIndex := 96, attributes := #[] }] 32 2 #[] #[{ accessFlags := 18, nameIndex := 31, descriptorIndex := 32, attributes := #[] }, { accessFlags := 18, nameIndex := 35, descriptorIndex := 32, attributes := #[] }, { accessFlags := 18, nameIndex := 38, descriptorIndex := 28, attributes := #[] }, { accessFlags := 18, nameIndex := 27, descriptorIndex := 28, attributes := #[] }, { accessFlags := 2, nameIndex := 41, descriptorIndex := 28, attributes := #[] }])
  fields := #[{ name := "highs", type := (.array .long), accessFlags := 18, slot := 0, constantValue := 0 }, { name := "lows", type := (.array .long), accessFlags := 18, slot := 1, constantValue := 0 }, { name := "mask", type := .int, accessFlags := 18, slot := 2, constantValue := 0 }, { name := "capacity", type := .int, accessFlags := 18, slot := 3, constantValue := 0 }, { name := "size", type := .int, accessFlags := 2, slot := 4, constantValue := 0 }]
  methods := #[k3m0, k3m1, k3m2, k3m3]
  instanceTypes := #[(.array .long), (.array .long), .int, .int, .int]
  staticTypes := #[]
  resolved := Array.replicate 123 none
  statics := none }

def pool4 : Array CpInfo := pool [(1, .class_ 2), (0, u "java/io/Serializable"), (0, .class_ 4), (0, u "java/lang/Object")] 2

/-- java/io/Serializable -/
def k4 : Class := { plain "java/io/Serializable" (some 0) with
  accessFlags := 1537
  interfaces := #[]
  cf := some (fileOf pool4 1 #[] #[] 1537 3 #[] #[])
  fields := #[]
  methods := #[]
  instanceTypes := #[]
  staticTypes := #[]
  resolved := Array.replicate 7 none
  statics := none }

def pool5 : Array CpInfo := pool [(2, .class_ 4), (1, u "java/lang/Object"), (0, u "<init>"), (0, u "()V"), (1, .class_ 10), (1, u "java/lang/Number"), (2, .class_ 14), (0, u "java/io/Serializable"), (0, u "serialVersionUID"), (0, u "J")] 20

def k5m0 : Method := { name := "<init>", desc := "()V", sig := { parameters := [], returnType := none }, accessFlags := 1, code := none }
/-- java/lang/Number -/
def k5 : Class := { plain "java/lang/Number" (some 0) with
  accessFlags := 1057
  interfaces := #[4]
  cf := some (fileOf pool5 8 #[] #[{ accessFlags := 1, nameIndex := 5, descriptorIndex := 6, attributes := #[] }] 1057 2 #[13] #[{ accessFlags := 26, nameIndex := 15, descriptorIndex := 16, attributes := #[] }])
  fields := #[{ name := "serialVersionUID", type := .long, accessFlags := 26, slot := 0, constantValue := 0 }]
  methods := #[k5m0]
  instanceTypes := #[]
  staticTypes := #[.long]
  resolved := Array.replicate 37 none
  statics := none }

def pool6 : Array CpInfo := pool [(1, .class_ 2), (0, u "java/lang/Comparable"), (0, .class_ 4), (0, u "java/lang/Object")] 7

/-- java/lang/Comparable -/
def k6 : Class := { plain "java/lang/Comparable" (some 0) with
  accessFlags := 1537
  interfaces := #[]
  cf := some (fileOf pool6 1 #[] #[] 1537 3 #[] #[])
  fields := #[]
  methods := #[]
  instanceTypes := #[]
  staticTypes := #[]
  resolved := Array.replicate 12 none
  statics := none }

def pool7 : Array CpInfo := pool [(1, .class_ 2), (0, u "java/lang/constant/Constable"), (0, .class_ 4), (0, u "java/lang/Object")] 6

/-- java/lang/constant/Constable -/
def k7 : Class := { plain "java/lang/constant/Constable" (some 0) with
  accessFlags := 1537
  interfaces := #[]
  cf := some (fileOf pool7 1 #[] #[] 1537 3 #[] #[])
  fields := #[]
  methods := #[]
  instanceTypes := #[]
  staticTypes := #[]
  resolved := Array.replicate 11 none
  statics := none }

def pool8 : Array CpInfo := pool [(1, .class_ 2), (0, u "java/lang/constant/ConstantDesc"), (0, .class_ 4), (0, u "java/lang/Object")] 32

/-- java/lang/constant/ConstantDesc -/
def k8 : Class := { plain "java/lang/constant/ConstantDesc" (some 0) with
  accessFlags := 1537
  interfaces := #[]
  cf := some (fileOf pool8 1 #[] #[] 1537 3 #[] #[])
  fields := #[]
  methods := #[]
  instanceTypes := #[]
  staticTypes := #[]
  resolved := Array.replicate 37 none
  statics := none }

def pool9 : Array CpInfo := pool [(1, .class_ 2), (0, u "java/lang/Integer"), (16, u "digits"), (0, u "[C"), (33, u "(I)I"), (30, u "DigitOnes"), (0, u "[B"), (2, u "DigitTens"), (99, .class_ 190), (0, u "java/lang/Integer$IntegerCache"), (3, u "I"), (8, .class_ 204), (0, u "java/lang/Number"), (2, u "value"), (57, .integer 1431655765), (0, .integer 858993459), (0, .integer 252645135), (34, u "TYPE"), (0, u "Ljava/lang/Class;"), (0, .class_ 305), (0, u "java/lang/Comparable"), (0, .class_ 307), (0, u "java/lang/constant/Constable"), (0, .class_ 309), (0, u "java/lang/constant/ConstantDesc"), (0, u "MIN_VALUE"), (1, u "MAX_VALUE"), (3, u "SIZE"), (1, u "BYTES"), (1, u "serialVersionUID"), (0, u "J"), (85, u "bitCount")] 45

def k9c0 : Code := { maxStack := 3, maxLocals := 1, code := jdk_33_method_49_code, exceptionTable := #[], attributes := #[] }
def k9m0 : Method := { name := "bitCount", desc := "(I)I", sig := { parameters := [.int], returnType := some .int }, accessFlags := 9, code := some k9c0 }
/-- java/lang/Integer -/
def k9 : Class := { plain "java/lang/Integer" (some 5) with
  accessFlags := 49
  interfaces := #[6, 7, 8]
  cf := some (fileOf pool9 1 #[.nestMembers #[189]] #[{ accessFlags := 9, nameIndex := 407, descriptorIndex := 54, attributes := #[] }] 49 203 #[304, 306, 308] #[{ accessFlags := 25, nameIndex := 310, descriptorIndex := 194, attributes := #[] }, { accessFlags := 25, nameIndex := 312, descriptorIndex := 194, attributes := #[] }, { accessFlags := 25, nameIndex := 302, descriptorIndex := 303, attributes := #[] }, { accessFlags := 24, nameIndex := 19, descriptorIndex := 20, attributes := #[] }, { accessFlags := 24, nameIndex := 89, descriptorIndex := 86, attributes := #[] }, { accessFlags := 24, nameIndex := 85, descriptorIndex := 86, attributes := #[] }, { accessFlags := 18, nameIndex := 207, descriptorIndex := 194, attributes := #[] }, { accessFlags := 25, nameIndex := 316, descriptorIndex := 194, attributes := #[] }, { accessFlags := 25, nameIndex := 318, descriptorIndex := 194, attributes := #[] }, { accessFlags := 26, nameIndex := 320, descriptorIndex := 321, attributes := #[] }])
  fields := #[{ name := "MIN_VALUE", type := .int, accessFlags := 25, slot := 0, constantValue := 0 }, { name := "MAX_VALUE", type := .int, accessFlags := 25, slot := 1, constantValue := 0 }, { name := "TYPE", type := (.object "java/lang/Class"), accessFlags := 25, slot := 2, constantValue := 0 }, { name := "digits", type := (.array .char), accessFlags := 24, slot := 3, constantValue := 0 }, { name := "DigitTens", type := (.array .byte), accessFlags := 24, slot := 4, constantValue := 0 }, { name := "DigitOnes", type := (.array .byte), accessFlags := 24, slot := 5, constantValue := 0 }, { name := "value", type := .int, accessFlags := 18, slot := 0, constantValue := 0 }, { name := "SIZE", type := .int, accessFlags := 25, slot := 6, constantValue := 0 }, { name := "BYTES", type := .int, accessFlags := 25, slot := 7, constantValue := 0 }, { name := "serialVersionUID", type := .long, accessFlags := 26, slot := 8, constantValue := 0 }]
  methods := #[k9m0]
  instanceTypes := #[.int]
  staticTypes := #[.int, .int, (.object "java/lang/Class"), (.array .char), (.array .byte), (.array .byte), .int, .int, .long]
  resolved := Array.replicate 453 none
  statics := none }

def pool10 : Array CpInfo := pool [(1, u "java/lang/Cloneable"), (0, .class_ 1), (0, u "java/lang/Object"), (0, .class_ 3)] 3

/-- java/lang/Cloneable -/
def k10 : Class := { plain "java/lang/Cloneable" (some 0) with
  accessFlags := 1537
  interfaces := #[]
  cf := some (fileOf pool10 2 #[] #[] 1537 4 #[] #[])
  fields := #[]
  methods := #[]
  instanceTypes := #[]
  staticTypes := #[]
  resolved := Array.replicate 8 none
  statics := none }

/-- the primitive byte -/
def k11 : Class := { plain "byte" none with kind := .primitive 'B', accessFlags := 0x411 }
/-- [B -/
def k12 : Class := { plain "[B" (some 0) with kind := .array 11 .byte, interfaces := #[10, 4], accessFlags := 1041 }

/-- the primitive int -/
def k13 : Class := { plain "int" none with kind := .primitive 'I', accessFlags := 0x411 }
/-- [I -/
def k14 : Class := { plain "[I" (some 0) with kind := .array 13 .int, interfaces := #[10, 4], accessFlags := 1041 }

/-- the primitive long -/
def k15 : Class := { plain "long" none with kind := .primitive 'J', accessFlags := 0x411 }
/-- [J -/
def k16 : Class := { plain "[J" (some 0) with kind := .array 15 .long, interfaces := #[10, 4], accessFlags := 1041 }

def heap : Heap := #[]
def classes : Array Class := #[k0, k1, k2, k3, k4, k5, k6, k7, k8, k9, k10, k11, k12, k13, k14, k15, k16]
def interned : List (Array UInt16 × Addr) := []
def slotsUsed : Nat := 0
def theMethod : MethodId := ⟨1, 1⟩
def args0 : Array Value := #[.long 5, .long 6, .long 7, .long 8, .long 9, .int 100]
def aboutOver (below : List Frame) : State where
  vm := { classes := classes, interned := interned.toArray }
  heap := heap
  slotsUsed := slotsUsed
  threads := #[{ frames := .invoking theMethod args0 :: below }]
def below0 : List Frame := [.native { method := ⟨0, 0⟩, args := #[] }]
def about1 : State := aboutOver below0
def p0 : Program := .bare "" "" ""
def e0 : Env := launch0.env 0 0 0
theorem w_frames : about1.frames = Frame.invoking theMethod args0 :: below0 := rfl
set_option maxRecDepth 65536 in
theorem w_args : argsFit about1.vm theMethod args0 = true := by decide +kernel
set_option maxRecDepth 65536 in
theorem w_heap : heapFits about1 = true := by decide +kernel
set_option maxRecDepth 65536 in
theorem w_runnable : about1.curStatus? = some .runnable := by decide +kernel
set_option maxRecDepth 65536 in
theorem w_alone : about1.alone = true := by decide +kernel
set_option maxRecDepth 65536 in
theorem w_named : about1.methodNamed? x = some theMethod := by decide +kernel
set_option maxRecDepth 65536 in
theorem w_hears : about1.hears theMethod below0 = true := by decide +kernel
set_option maxRecDepth 65536 in
theorem w_ripe : about1.ripe theMethod args0 below0 = true := by decide +kernel
theorem w_running : about1.status = .running := rfl
set_option maxRecDepth 65536 in
theorem w_room : about1.hasRoom e0.platform room_1 = true :=
  launch0.hasRoom_least _ room_1 (by decide +kernel) (by decide +kernel) (by decide +kernel) (by decide +kernel) (by decide +kernel) (by decide +kernel)
theorem allAtoms_all (ts : List Jvm.Cond) (a : Array Jvm.Value) (st : Jvm.State) : (allAtoms ts).before a st = ts.all (fun c => c.before a st) := by
  induction ts with
  | nil => rfl
  | cons c t ih =>
    show (Jvm.Cond.and c (allAtoms t)).before a st = _
    rw [Jvm.Cond.before_and, ih, List.all_cons]
def words1 : List Jvm.Cond := Jvm.Cond.code x code maxLocals ret :: tables_1
/-- a 'code' word, met by the world's own term for the bytes: nothing is compared byte by byte -/
theorem code_word {y : MethodName} {bytes : ByteArray} {mx : Nat} {rt : Option FieldType} {a : Array Value} {s : State} {m : MethodId} {meth : Method} {c : Code} (h1 : s.methodNamed? y = some m) (h2 : s.vm.method? m = some meth) (h3 : meth.code = some c) (h4 : c.code = bytes)
    (h5 : (c.maxLocals == mx && c.exceptionTable.isEmpty && decide (c.maxStack ≤ mostOperands) && decide (meth.sig.returnType = rt) && !meth.locks && decide (parseMethodDescriptor y.desc = some meth.sig)) = true) : (Jvm.Cond.code y bytes mx rt).before a s = true := by
  simp only [Bool.and_eq_true, beq_iff_eq, Bool.not_eq_true', decide_eq_true_eq] at h5
  obtain ⟨⟨⟨⟨⟨g1, g2⟩, g3⟩, g4⟩, g5⟩, g6⟩ := h5
  simp [Cond.before, Cond.holds, Cond.value, h1, h2, h3, h4, g1, g2, g3, g4, g5, g6]
def isCode : Jvm.Cond → Bool
  | .code _ _ _ _ => true
  | _ => false
theorem all_split {L : List Jvm.Cond} {P : Jvm.Cond → Bool} (h1 : L.all (fun c => isCode c || P c) = true) (h2 : ∀ c ∈ L.filter isCode, P c = true) : L.all P = true := by
  refine List.all_eq_true.mpr fun c hc => ?_
  have h := List.all_eq_true.mp h1 c hc
  rcases Bool.eq_false_or_eq_true (isCode c) with hi | hi
  · exact h2 c (List.mem_filter.mpr ⟨hc, hi⟩)
  · simpa [hi] using h
set_option maxRecDepth 65536 in
theorem w_c0 : (Jvm.Cond.code x code maxLocals ret).before args0 about1 = true := code_word (m := ⟨1, 1⟩) (meth := k1m1) (c := k1c1) (by decide +kernel) rfl rfl rfl (by decide +kernel)
set_option maxRecDepth 65536 in
theorem w_c1 : (Jvm.Cond.code ({ cls := "java/lang/Math", name := "min", desc := "(II)I" } : Jvm.MethodName) jdk_29_method_69_code (2 : Nat) (Option.some Jvm.ClassFile.FieldType.int)).before args0 about1 = true := code_word (m := ⟨2, 1⟩) (meth := k2m1) (c := k2c1) (by decide +kernel) rfl rfl rfl (by decide +kernel)
set_option maxRecDepth 65536 in
theorem w_c2 : (Jvm.Cond.code ({ cls := "com/example/itinerant_spider/itinerantspider/frontier/FingerprintTable", name := "<init>", desc := "(I)V" } : Jvm.MethodName) prog_24_method_1_code (2 : Nat) (Option.none : Option Jvm.ClassFile.FieldType)).before args0 about1 = true := code_word (m := ⟨3, 0⟩) (meth := k3m0) (c := k3c0) (by decide +kernel) rfl rfl rfl (by decide +kernel)
set_option maxRecDepth 65536 in
theorem w_c3 : (Jvm.Cond.code ({ cls := "java/lang/Object", name := "<init>", desc := "()V" } : Jvm.MethodName) object_method_1_code (1 : Nat) (Option.none : Option Jvm.ClassFile.FieldType)).before args0 about1 = true := code_word (m := ⟨0, 0⟩) (meth := k0m0) (c := k0c0) (by decide +kernel) rfl rfl rfl (by decide +kernel)
set_option maxRecDepth 65536 in
theorem w_c4 : (Jvm.Cond.code ({ cls := "java/lang/Integer", name := "bitCount", desc := "(I)I" } : Jvm.MethodName) jdk_33_method_49_code (1 : Nat) (Option.some Jvm.ClassFile.FieldType.int)).before args0 about1 = true := code_word (m := ⟨9, 0⟩) (meth := k9m0) (c := k9c0) (by decide +kernel) rfl rfl rfl (by decide +kernel)
set_option maxRecDepth 65536 in
theorem w_c5 : (Jvm.Cond.code ({ cls := "com/example/itinerant_spider/itinerantspider/frontier/FingerprintTable", name := "contains", desc := "(JJ)Z" } : Jvm.MethodName) prog_24_method_4_code (6 : Nat) (Option.some Jvm.ClassFile.FieldType.boolean)).before args0 about1 = true := code_word (m := ⟨3, 2⟩) (meth := k3m2) (c := k3c2) (by decide +kernel) rfl rfl rfl (by decide +kernel)
set_option maxRecDepth 65536 in
theorem w_c6 : (Jvm.Cond.code ({ cls := "com/example/itinerant_spider/itinerantspider/frontier/FingerprintTable", name := "add", desc := "(JJ)V" } : Jvm.MethodName) prog_24_method_5_code (6 : Nat) (Option.none : Option Jvm.ClassFile.FieldType)).before args0 about1 = true := code_word (m := ⟨3, 3⟩) (meth := k3m3) (c := k3c3) (by decide +kernel) rfl rfl rfl (by decide +kernel)
set_option maxRecDepth 65536 in
theorem w_c7 : (Jvm.Cond.code ({ cls := "com/example/itinerant_spider/itinerantspider/frontier/FingerprintTable", name := "isFull", desc := "()Z" } : Jvm.MethodName) prog_24_method_3_code (1 : Nat) (Option.some Jvm.ClassFile.FieldType.boolean)).before args0 about1 = true := code_word (m := ⟨3, 1⟩) (meth := k3m1) (c := k3c1) (by decide +kernel) rfl rfl rfl (by decide +kernel)
def codes1 : List Jvm.Cond := [Jvm.Cond.code x code maxLocals ret, Jvm.Cond.code ({ cls := "java/lang/Math", name := "min", desc := "(II)I" } : Jvm.MethodName) jdk_29_method_69_code (2 : Nat) (Option.some Jvm.ClassFile.FieldType.int), Jvm.Cond.code ({ cls := "com/example/itinerant_spider/itinerantspider/frontier/FingerprintTable", name := "<init>", desc := "(I)V" } : Jvm.MethodName) prog_24_method_1_code (2 : Nat) (Option.none : Option Jvm.ClassFile.FieldType), Jvm.Cond.code ({ cls := "java/lang/Object", name := "<init>", desc := "()V" } : Jvm.MethodName) object_method_1_code (1 : Nat) (Option.none : Option Jvm.ClassFile.FieldType), Jvm.Cond.code ({ cls := "java/lang/Integer", name := "bitCount", desc := "(I)I" } : Jvm.MethodName) jdk_33_method_49_code (1 : Nat) (Option.some Jvm.ClassFile.FieldType.int), Jvm.Cond.code ({ cls := "com/example/itinerant_spider/itinerantspider/frontier/FingerprintTable", name := "contains", desc := "(JJ)Z" } : Jvm.MethodName) prog_24_method_4_code (6 : Nat) (Option.some Jvm.ClassFile.FieldType.boolean), Jvm.Cond.code ({ cls := "com/example/itinerant_spider/itinerantspider/frontier/FingerprintTable", name := "add", desc := "(JJ)V" } : Jvm.MethodName) prog_24_method_5_code (6 : Nat) (Option.none : Option Jvm.ClassFile.FieldType), Jvm.Cond.code ({ cls := "com/example/itinerant_spider/itinerantspider/frontier/FingerprintTable", name := "isFull", desc := "()Z" } : Jvm.MethodName) prog_24_method_3_code (1 : Nat) (Option.some Jvm.ClassFile.FieldType.boolean)]
set_option maxRecDepth 65536 in
theorem codes_eq : words1.filter isCode = codes1 := rfl
theorem w_codes : ∀ c ∈ words1.filter isCode, c.before args0 about1 = true := by
  rw [codes_eq]
  intro c hc
  simp only [codes1, List.mem_cons, List.not_mem_nil, or_false] at hc
  rcases hc with rfl | rfl | rfl | rfl | rfl | rfl | rfl | rfl
  · exact w_c0
  · exact w_c1
  · exact w_c2
  · exact w_c3
  · exact w_c4
  · exact w_c5
  · exact w_c6
  · exact w_c7
set_option maxRecDepth 65536 in
theorem w_t1 : (words1.take 24).all (fun c => isCode c || c.before args0 about1) = true := by decide +kernel
set_option maxRecDepth 65536 in
theorem w_t2 : ((words1.drop 24).take 24).all (fun c => isCode c || c.before args0 about1) = true := by decide +kernel
set_option maxRecDepth 65536 in
theorem w_t3 : ((words1.drop 24).drop 24).all (fun c => isCode c || c.before args0 about1) = true := by decide +kernel
theorem w_tables : (allAtoms (Jvm.Cond.code x code maxLocals ret :: tables_1)).before args0 about1 = true := by
  rw [allAtoms_all]
  show words1.all (fun c => c.before args0 about1) = true
  refine all_split ?_ w_codes
  rw [← List.take_append_drop 24 words1, List.all_append, w_t1, ← List.take_append_drop 24 (words1.drop 24), List.all_append, w_t2, w_t3]
  rfl
set_option maxRecDepth 65536 in
theorem w_case : (Jvm.Cond.and given_1 narrow_1).before args0 about1 = true := by decide +kernel
theorem w_applies : (headSpec (Jvm.Cond.code x code maxLocals ret :: tables_1) room_1).applies x e0.platform about1 = true :=
  (Spec.applies_iff w_frames).mpr ⟨w_running, w_runnable, w_alone, w_named, w_hears, w_ripe, w_room, w_tables⟩
theorem atStart : AtStart classFile x code maxLocals ret World_1 tables_1 room_1 Calls_1 rest_1 Pre_1 launch0 p0 e0 about1 theMethod args0 below0 :=
  ⟨lists_1, trivial, launch0.admits_env _ _ _, launch0.least_env, fairChoices_fair.cas, fairChoices_fair.clock, w_frames, w_args, w_heap, w_applies, trivial, trivial, w_case⟩
end start1
theorem witness_1 : WitnessClaimed_1 := ⟨start1.p0, start1.e0, start1.about1, start1.theMethod, start1.args0, start1.below0, start1.atStart⟩
end Jvm.Pilot.@@N@@
