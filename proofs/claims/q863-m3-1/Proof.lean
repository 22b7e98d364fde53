import JvmDerived
import JvmDerived.Pilot.@@N@@Statement
import JvmDerived.Pilot.@@N@@Code
set_option linter.unusedVariables false
set_option linter.unusedSimpArgs false
namespace Jvm.RoadKit
open Sem ClassFile Op Lib Jvm.Stand Jvm.Free Jvm.LawKit
section New
variable {p : Program} {l : Launch} {e : Env} {R : Room} {s : State} {m : MethodId} {args : Array Value} {below : List Frame} {meth : Method} {c : Code} {T : State} {locs : List Loc} {cells slots : Nat}
theorem retI (X : Stand p l e R s m args below meth c T locs cells slots) (hx : p.tables.exec = Jvm.exec) {pc : Nat} {Ls : Array Slot} {z : Int32} {rest : List Value} (hret : meth.sig.returnType = some .int) (hd : decode c.code pc = .ok (.ireturn, 1)) {fs : List Frame}
    (hl : ∀ (f : JFrame) (acts : List Action), f.method = m → f.locked = none → f.entered = [] → (doReturn e (T.setTop f) acts (some (.int z))).1 = T.setFrames fs) : Steps p.tables e below (T.setTop (mkF m pc Ls (.int z :: rest))) (T.setFrames fs) := by
  have hm' : T.vm.method? m = some meth := X.method'
  have hn : narrow .int (.int z) = .int z := rfl
  show Steps p.tables e below (T.setTop { method := m, pc := pc, locals := Ls, stack := _ :: rest, locked := none }) _
  jvm_step X.here [X.here.top, hx, hd, hm', hret, hn]
  first | (intro acts; rw [hl _ acts rfl rfl rfl]) | rw [hl _ _ rfl rfl rfl]
  exact Steps.refl _
end New
end Jvm.RoadKit
namespace Jvm.Pilot.@@N@@
open Jvm Jvm.ClassFile Sem Op Lib Jvm.Free Jvm.Stand Jvm.LawKit Jvm.RoadKit Bundle Jvm.Pilot.@@N@@.Jvm.D
section OwnKit
variable {p : Program} {l : Launch} {e : Env} {R : Room} {s : State} {m : MethodId} {args : Array Value} {below : List Frame} {meth : Method} {c : Code} {T : State} {locs : List Loc} {cells slots : Nat} {Z : State} {a0 : Array Value} {h : Heap}
variable {Q : Option Value → Heap → List Loc → Prop} {rc rs pc : Nat} {Ls : Array Slot} {st : List Value}
def Go (p : Program) (e : Env) (below : List Frame) (s : State) (Q : Option Value → Heap → List Loc → Prop) (rc rs : Nat) (F : State) : Prop :=
  ∃ s₂ o, Steps p.tables e below F s₂ ∧ s₂.status = .running ∧ Ended s₂ below o ∧ ∃ v L, o = .returned v ∧ Q v s₂.heap L ∧ FrameEnd s o s₂ L rc rs
theorem Go.by {F F' : State} (g : Go p e below s Q rc rs F') (h : ∀ t, Steps p.tables e below F' t → Steps p.tables e below F t) : Go p e below s Q rc rs F := by
  obtain ⟨s2, o, h1, r⟩ := g
  exact ⟨s2, o, h _ h1, r⟩
def shlI (x y : Int32) : Int32 := x <<< (y &&& 31)
def shrI (x y : Int32) : Int32 := x >>> (y &&& 31)
def ushrI (x y : Int32) : Int32 := (x.toUInt32 >>> (y &&& 31).toUInt32).toInt32
def shlJ (x : Int64) (y : Int32) : Int64 := x <<< (y &&& 0x3f).toInt64
def shrJ (x : Int64) (y : Int32) : Int64 := x >>> (y &&& 0x3f).toInt64
def ushrJ (x : Int64) (y : Int32) : Int64 := (x.toUInt64 >>> (y &&& 0x3f).toInt64.toUInt64).toInt64
def i2bI (x : Int32) : Int32 := x.toInt8.toInt32
def i2cI (x : Int32) : Int32 := x.toUInt32.toUInt16.toUInt32.toInt32
def i2sI (x : Int32) : Int32 := x.toInt16.toInt32
theorem g_iload (X : Stand p l e R s m args below meth c T locs cells slots) (hx : p.tables.exec = Jvm.exec) {k : Nat} {v : Int32} (pc' : Nat) (hd : decode c.code pc = .ok (.iload k, 2)) (hl : Ls[k]? = some (.val (.int v))) (hp : pc + 2 = pc') (g : Go p e below s Q rc rs (T.setTop (mkF m pc' Ls (.int v :: st)))) : Go p e below s Q rc rs (T.setTop (mkF m pc Ls st)) := by
  subst hp; exact g.by fun t k => XS.iload X.here hx rfl hd hl k
theorem g_iloadN (X : Stand p l e R s m args below meth c T locs cells slots) (hx : p.tables.exec = Jvm.exec) {k : Fin 4} {v : Int32} (pc' : Nat) (hd : decode c.code pc = .ok (.iload_n k, 1)) (hl : Ls[k.val]? = some (.val (.int v))) (hp : pc + 1 = pc') (g : Go p e below s Q rc rs (T.setTop (mkF m pc' Ls (.int v :: st)))) : Go p e below s Q rc rs (T.setTop (mkF m pc Ls st)) := by
  subst hp; exact g.by fun t k => XS.iloadN X.here hx rfl hd hl k
theorem g_istore (X : Stand p l e R s m args below meth c T locs cells slots) (hx : p.tables.exec = Jvm.exec) {k : Nat} {v : Int32} (l' : Array Slot) (pc' : Nat) (hd : decode c.code pc = .ok (.istore k, 2)) (hl : storeLocals Ls k (.int v) = some l') (hp : pc + 2 = pc') (g : Go p e below s Q rc rs (T.setTop (mkF m pc' l' st))) : Go p e below s Q rc rs (T.setTop (mkF m pc Ls (.int v :: st))) := by
  subst hp; exact g.by fun t k => XS.istore X.here hx rfl hd rfl hl k
theorem g_istoreN (X : Stand p l e R s m args below meth c T locs cells slots) (hx : p.tables.exec = Jvm.exec) {k : Fin 4} {v : Int32} (l' : Array Slot) (pc' : Nat) (hd : decode c.code pc = .ok (.istore_n k, 1)) (hl : storeLocals Ls k.val (.int v) = some l') (hp : pc + 1 = pc') (g : Go p e below s Q rc rs (T.setTop (mkF m pc' l' st))) : Go p e below s Q rc rs (T.setTop (mkF m pc Ls (.int v :: st))) := by
  subst hp; exact g.by fun t k => XS.istoreN X.here hx rfl hd rfl hl k
theorem g_lload (X : Stand p l e R s m args below meth c T locs cells slots) (hx : p.tables.exec = Jvm.exec) {k : Nat} {v : Int64} (pc' : Nat) (hd : decode c.code pc = .ok (.lload k, 2)) (hl : Ls[k]? = some (.val (.long v))) (hp : pc + 2 = pc') (g : Go p e below s Q rc rs (T.setTop (mkF m pc' Ls (.long v :: st)))) : Go p e below s Q rc rs (T.setTop (mkF m pc Ls st)) := by
  subst hp; exact g.by fun t k => XS.lload X.here hx rfl hd hl k
theorem g_lloadN (X : Stand p l e R s m args below meth c T locs cells slots) (hx : p.tables.exec = Jvm.exec) {k : Fin 4} {v : Int64} (pc' : Nat) (hd : decode c.code pc = .ok (.lload_n k, 1)) (hl : Ls[k.val]? = some (.val (.long v))) (hp : pc + 1 = pc') (g : Go p e below s Q rc rs (T.setTop (mkF m pc' Ls (.long v :: st)))) : Go p e below s Q rc rs (T.setTop (mkF m pc Ls st)) := by
  subst hp; exact g.by fun t k => XS.lloadN X.here hx rfl hd hl k
theorem g_lstore (X : Stand p l e R s m args below meth c T locs cells slots) (hx : p.tables.exec = Jvm.exec) {k : Nat} {v : Int64} (l' : Array Slot) (pc' : Nat) (hd : decode c.code pc = .ok (.lstore k, 2)) (hl : storeLocals Ls k (.long v) = some l') (hp : pc + 2 = pc') (g : Go p e below s Q rc rs (T.setTop (mkF m pc' l' st))) : Go p e below s Q rc rs (T.setTop (mkF m pc Ls (.long v :: st))) := by
  subst hp; exact g.by fun t k => XS.lstore X.here hx rfl hd rfl hl k
theorem g_lstoreN (X : Stand p l e R s m args below meth c T locs cells slots) (hx : p.tables.exec = Jvm.exec) {k : Fin 4} {v : Int64} (l' : Array Slot) (pc' : Nat) (hd : decode c.code pc = .ok (.lstore_n k, 1)) (hl : storeLocals Ls k.val (.long v) = some l') (hp : pc + 1 = pc') (g : Go p e below s Q rc rs (T.setTop (mkF m pc' l' st))) : Go p e below s Q rc rs (T.setTop (mkF m pc Ls (.long v :: st))) := by
  subst hp; exact g.by fun t k => XS.lstoreN X.here hx rfl hd rfl hl k
theorem g_aload (X : Stand p l e R s m args below meth c T locs cells slots) (hx : p.tables.exec = Jvm.exec) {k : Nat} {v : Value} (pc' : Nat) (hd : decode c.code pc = .ok (.aload k, 2)) (hl : Ls[k]? = some (.val v)) (hv : v.isRef = true) (hp : pc + 2 = pc') (g : Go p e below s Q rc rs (T.setTop (mkF m pc' Ls (v :: st)))) : Go p e below s Q rc rs (T.setTop (mkF m pc Ls st)) := by
  subst hp; exact g.by fun t k => XS.aload X.here hx rfl hd hl hv k
theorem g_aloadN (X : Stand p l e R s m args below meth c T locs cells slots) (hx : p.tables.exec = Jvm.exec) {k : Fin 4} {v : Value} (pc' : Nat) (hd : decode c.code pc = .ok (.aload_n k, 1)) (hl : Ls[k.val]? = some (.val v)) (hv : v.isRef = true) (hp : pc + 1 = pc') (g : Go p e below s Q rc rs (T.setTop (mkF m pc' Ls (v :: st)))) : Go p e below s Q rc rs (T.setTop (mkF m pc Ls st)) := by
  subst hp; exact g.by fun t k => XS.aloadN X.here hx rfl hd hl hv k
theorem g_astore (X : Stand p l e R s m args below meth c T locs cells slots) (hx : p.tables.exec = Jvm.exec) {k : Nat} {v : Value} (l' : Array Slot) (pc' : Nat) (hd : decode c.code pc = .ok (.astore k, 2)) (hl : storeLocals Ls k v = some l') (hv : v.isRef = true) (hp : pc + 2 = pc') (g : Go p e below s Q rc rs (T.setTop (mkF m pc' l' st))) : Go p e below s Q rc rs (T.setTop (mkF m pc Ls (v :: st))) := by
  subst hp; exact g.by fun t k => XS.astore X.here hx rfl hd rfl hv hl k
theorem g_astoreN (X : Stand p l e R s m args below meth c T locs cells slots) (hx : p.tables.exec = Jvm.exec) {k : Fin 4} {v : Value} (l' : Array Slot) (pc' : Nat) (hd : decode c.code pc = .ok (.astore_n k, 1)) (hl : storeLocals Ls k.val v = some l') (hv : v.isRef = true) (hp : pc + 1 = pc') (g : Go p e below s Q rc rs (T.setTop (mkF m pc' l' st))) : Go p e below s Q rc rs (T.setTop (mkF m pc Ls (v :: st))) := by
  subst hp; exact g.by fun t k => XS.astoreN X.here hx rfl hd rfl hv hl k
theorem g_istoreS (X : Stand p l e R s m args below meth c T locs cells slots) (hx : p.tables.exec = Jvm.exec) {k : Nat} {v : Int32} {os : Slot} (l' : Array Slot) (pc' : Nat) (hd : decode c.code pc = .ok (.istore k, 2)) (hold : Ls[k]? = some os) (ho : One os) (hl : Ls.setIfInBounds k (.val (.int v)) = l') (hp : pc + 2 = pc') (g : Go p e below s Q rc rs (T.setTop (mkF m pc' l' st))) : Go p e below s Q rc rs (T.setTop (mkF m pc Ls ((.int v) :: st))) := by
  subst hp; exact g.by fun t k => XS.istore X.here hx rfl hd rfl (hl ▸ XS.store1 hold ho rfl) k
theorem g_istoreNS (X : Stand p l e R s m args below meth c T locs cells slots) (hx : p.tables.exec = Jvm.exec) {k : Fin 4} {v : Int32} {os : Slot} (l' : Array Slot) (pc' : Nat) (hd : decode c.code pc = .ok (.istore_n k, 1)) (hold : Ls[k.val]? = some os) (ho : One os) (hl : Ls.setIfInBounds k.val (.val (.int v)) = l') (hp : pc + 1 = pc') (g : Go p e below s Q rc rs (T.setTop (mkF m pc' l' st))) : Go p e below s Q rc rs (T.setTop (mkF m pc Ls ((.int v) :: st))) := by
  subst hp; exact g.by fun t k => XS.istoreN X.here hx rfl hd rfl (hl ▸ XS.store1 hold ho rfl) k
theorem g_astoreS (X : Stand p l e R s m args below meth c T locs cells slots) (hx : p.tables.exec = Jvm.exec) {k : Nat} {v : Value} {os : Slot} (l' : Array Slot) (pc' : Nat) (hd : decode c.code pc = .ok (.astore k, 2)) (hold : Ls[k]? = some os) (ho : One os) (hl : Ls.setIfInBounds k (.val v) = l') (hv : v.isRef = true) (hp : pc + 2 = pc') (g : Go p e below s Q rc rs (T.setTop (mkF m pc' l' st))) : Go p e below s Q rc rs (T.setTop (mkF m pc Ls (v :: st))) := by
  subst hp; exact g.by fun t k => XS.astore X.here hx rfl hd rfl hv (hl ▸ XS.store1 hold ho (by cases v <;> first | rfl | simp_all [Value.isRef])) k
theorem g_astoreNS (X : Stand p l e R s m args below meth c T locs cells slots) (hx : p.tables.exec = Jvm.exec) {k : Fin 4} {v : Value} {os : Slot} (l' : Array Slot) (pc' : Nat) (hd : decode c.code pc = .ok (.astore_n k, 1)) (hold : Ls[k.val]? = some os) (ho : One os) (hl : Ls.setIfInBounds k.val (.val v) = l') (hv : v.isRef = true) (hp : pc + 1 = pc') (g : Go p e below s Q rc rs (T.setTop (mkF m pc' l' st))) : Go p e below s Q rc rs (T.setTop (mkF m pc Ls (v :: st))) := by
  subst hp; exact g.by fun t k => XS.astoreN X.here hx rfl hd rfl hv (hl ▸ XS.store1 hold ho (by cases v <;> first | rfl | simp_all [Value.isRef])) k
theorem g_iconst (X : Stand p l e R s m args below meth c T locs cells slots) (hx : p.tables.exec = Jvm.exec) {i : Int} (v : Int32) (pc' : Nat) (hd : decode c.code pc = .ok (.iconst i, 1)) (hv : Int32.ofInt i = v) (hp : pc + 1 = pc') (g : Go p e below s Q rc rs (T.setTop (mkF m pc' Ls (.int v :: st)))) : Go p e below s Q rc rs (T.setTop (mkF m pc Ls st)) := by
  subst hp hv; exact g.by fun t k => XS.iconst X.here hx rfl hd k
theorem g_bipush (X : Stand p l e R s m args below meth c T locs cells slots) (hx : p.tables.exec = Jvm.exec) {i : Int} (v : Int32) (pc' : Nat) (hd : decode c.code pc = .ok (.bipush i, 2)) (hv : (Int8.ofInt i).toInt32 = v) (hp : pc + 2 = pc') (g : Go p e below s Q rc rs (T.setTop (mkF m pc' Ls (.int v :: st)))) : Go p e below s Q rc rs (T.setTop (mkF m pc Ls st)) := by
  subst hp hv; exact g.by fun t k => XS.bipush X.here hx rfl hd k
theorem g_sipush (X : Stand p l e R s m args below meth c T locs cells slots) (hx : p.tables.exec = Jvm.exec) {i : Int} (v : Int32) (pc' : Nat) (hd : decode c.code pc = .ok (.sipush i, 3)) (hv : (Int16.ofInt i).toInt32 = v) (hp : pc + 3 = pc') (g : Go p e below s Q rc rs (T.setTop (mkF m pc' Ls (.int v :: st)))) : Go p e below s Q rc rs (T.setTop (mkF m pc Ls st)) := by
  subst hp hv; exact g.by fun t k => XS.sipush X.here hx rfl hd k
theorem g_lconst (X : Stand p l e R s m args below meth c T locs cells slots) (hx : p.tables.exec = Jvm.exec) {i : Fin 2} (v : Int64) (pc' : Nat) (hd : decode c.code pc = .ok (.lconst i, 1)) (hv : Int64.ofNat i = v) (hp : pc + 1 = pc') (g : Go p e below s Q rc rs (T.setTop (mkF m pc' Ls (.long v :: st)))) : Go p e below s Q rc rs (T.setTop (mkF m pc Ls st)) := by
  subst hp hv; exact g.by fun t k => XS.lconst X.here hx rfl hd k
theorem g_aconst_null (X : Stand p l e R s m args below meth c T locs cells slots) (hx : p.tables.exec = Jvm.exec) (pc' : Nat) (hd : decode c.code pc = .ok (.aconst_null, 1)) (hp : pc + 1 = pc') (g : Go p e below s Q rc rs (T.setTop (mkF m pc' Ls (.null :: st)))) : Go p e below s Q rc rs (T.setTop (mkF m pc Ls st)) := by
  subst hp; exact g.by fun t k => XS.aconstNull X.here hx rfl hd k
theorem g_ldc (X : Stand p l e R s m args below meth c T locs cells slots) (hx : p.tables.exec = Jvm.exec) (hZ : Z.Warmed39 s.vm) {own : String} {i : Nat} {v : Int32} (hown : s.vm.findClass own = some m.cls) (w : (Cond.constant own i v).before a0 Z = true) (pc' : Nat) (hd : decode c.code pc = .ok (.ldc i, 2)) (hp : pc + 2 = pc') (g : Go p e below s Q rc rs (T.setTop (mkF m pc' Ls (.int v :: st)))) : Go p e below s Q rc rs (T.setTop (mkF m pc Ls st)) := by
  subst hp; exact g.by fun t k => X.ldcInt hx hown (mvT hZ w) (g := mkF m pc Ls st) rfl hd t k
theorem g_ldc_w (X : Stand p l e R s m args below meth c T locs cells slots) (hx : p.tables.exec = Jvm.exec) (hZ : Z.Warmed39 s.vm) {own : String} {i : Nat} {v : Int32} (hown : s.vm.findClass own = some m.cls) (w : (Cond.constant own i v).before a0 Z = true) (pc' : Nat) (hd : decode c.code pc = .ok (.ldc_w i, 3)) (hp : pc + 3 = pc') (g : Go p e below s Q rc rs (T.setTop (mkF m pc' Ls (.int v :: st)))) : Go p e below s Q rc rs (T.setTop (mkF m pc Ls st)) := by
  subst hp; exact g.by fun t k => X.ldcwInt hx hown (mvT hZ w) (g := mkF m pc Ls st) rfl hd t k
theorem g_ldc2_w (X : Stand p l e R s m args below meth c T locs cells slots) (hx : p.tables.exec = Jvm.exec) (hZ : Z.Warmed39 s.vm) {own : String} {i : Nat} {v : Int64} (hown : s.vm.findClass own = some m.cls) (w : (Cond.constantLong own i v).before a0 Z = true) (pc' : Nat) (hd : decode c.code pc = .ok (.ldc2_w i, 3)) (hp : pc + 3 = pc') (g : Go p e below s Q rc rs (T.setTop (mkF m pc' Ls (.long v :: st)))) : Go p e below s Q rc rs (T.setTop (mkF m pc Ls st)) := by
  subst hp; exact g.by fun t k => X.ldc2Long hx hown (mvT hZ w) (g := mkF m pc Ls st) rfl hd t k
theorem g_iadd (X : Stand p l e R s m args below meth c T locs cells slots) (hx : p.tables.exec = Jvm.exec) {x y : Int32} (pc' : Nat) (hd : decode c.code pc = .ok (.iadd, 1)) (hp : pc + 1 = pc') (g : Go p e below s Q rc rs (T.setTop (mkF m pc' Ls (.int (x + y) :: st)))) : Go p e below s Q rc rs (T.setTop (mkF m pc Ls (.int y :: .int x :: st))) := by
  subst hp; exact g.by fun t k => XS.iadd X.here hx rfl hd rfl k
theorem g_isub (X : Stand p l e R s m args below meth c T locs cells slots) (hx : p.tables.exec = Jvm.exec) {x y : Int32} (pc' : Nat) (hd : decode c.code pc = .ok (.isub, 1)) (hp : pc + 1 = pc') (g : Go p e below s Q rc rs (T.setTop (mkF m pc' Ls (.int (x - y) :: st)))) : Go p e below s Q rc rs (T.setTop (mkF m pc Ls (.int y :: .int x :: st))) := by
  subst hp; exact g.by fun t k => XS.isub X.here hx rfl hd rfl k
theorem g_imul (X : Stand p l e R s m args below meth c T locs cells slots) (hx : p.tables.exec = Jvm.exec) {x y : Int32} (pc' : Nat) (hd : decode c.code pc = .ok (.imul, 1)) (hp : pc + 1 = pc') (g : Go p e below s Q rc rs (T.setTop (mkF m pc' Ls (.int (x * y) :: st)))) : Go p e below s Q rc rs (T.setTop (mkF m pc Ls (.int y :: .int x :: st))) := by
  subst hp; exact g.by fun t k => XS.imul X.here hx rfl hd rfl k
theorem g_iand (X : Stand p l e R s m args below meth c T locs cells slots) (hx : p.tables.exec = Jvm.exec) {x y : Int32} (pc' : Nat) (hd : decode c.code pc = .ok (.iand, 1)) (hp : pc + 1 = pc') (g : Go p e below s Q rc rs (T.setTop (mkF m pc' Ls (.int (x &&& y) :: st)))) : Go p e below s Q rc rs (T.setTop (mkF m pc Ls (.int y :: .int x :: st))) := by
  subst hp; exact g.by fun t k => XS.iand X.here hx rfl hd rfl k
theorem g_ior (X : Stand p l e R s m args below meth c T locs cells slots) (hx : p.tables.exec = Jvm.exec) {x y : Int32} (pc' : Nat) (hd : decode c.code pc = .ok (.ior, 1)) (hp : pc + 1 = pc') (g : Go p e below s Q rc rs (T.setTop (mkF m pc' Ls (.int (x ||| y) :: st)))) : Go p e below s Q rc rs (T.setTop (mkF m pc Ls (.int y :: .int x :: st))) := by
  subst hp; exact g.by fun t k => XS.ior X.here hx rfl hd rfl k
theorem g_ixor (X : Stand p l e R s m args below meth c T locs cells slots) (hx : p.tables.exec = Jvm.exec) {x y : Int32} (pc' : Nat) (hd : decode c.code pc = .ok (.ixor, 1)) (hp : pc + 1 = pc') (g : Go p e below s Q rc rs (T.setTop (mkF m pc' Ls (.int (x ^^^ y) :: st)))) : Go p e below s Q rc rs (T.setTop (mkF m pc Ls (.int y :: .int x :: st))) := by
  subst hp; exact g.by fun t k => XS.ixor X.here hx rfl hd rfl k
theorem g_ineg (X : Stand p l e R s m args below meth c T locs cells slots) (hx : p.tables.exec = Jvm.exec) {x : Int32} (pc' : Nat) (hd : decode c.code pc = .ok (.ineg, 1)) (hp : pc + 1 = pc') (g : Go p e below s Q rc rs (T.setTop (mkF m pc' Ls (.int (-x) :: st)))) : Go p e below s Q rc rs (T.setTop (mkF m pc Ls (.int x :: st))) := by
  subst hp; exact g.by fun t k => XS.ineg X.here hx rfl hd rfl k
theorem g_idiv (X : Stand p l e R s m args below meth c T locs cells slots) (hx : p.tables.exec = Jvm.exec) {x y : Int32} (pc' : Nat) (hd : decode c.code pc = .ok (.idiv, 1)) (hy : y ≠ 0) (hp : pc + 1 = pc') (g : Go p e below s Q rc rs (T.setTop (mkF m pc' Ls (.int (x / y) :: st)))) : Go p e below s Q rc rs (T.setTop (mkF m pc Ls (.int y :: .int x :: st))) := by
  subst hp; exact g.by fun t k => XS.idiv X.here hx rfl hd rfl hy k
theorem g_ladd (X : Stand p l e R s m args below meth c T locs cells slots) (hx : p.tables.exec = Jvm.exec) {x y : Int64} (pc' : Nat) (hd : decode c.code pc = .ok (.ladd, 1)) (hp : pc + 1 = pc') (g : Go p e below s Q rc rs (T.setTop (mkF m pc' Ls (.long (x + y) :: st)))) : Go p e below s Q rc rs (T.setTop (mkF m pc Ls (.long y :: .long x :: st))) := by
  subst hp; exact g.by fun t k => XS.ladd X.here hx rfl hd rfl k
theorem g_lsub (X : Stand p l e R s m args below meth c T locs cells slots) (hx : p.tables.exec = Jvm.exec) {x y : Int64} (pc' : Nat) (hd : decode c.code pc = .ok (.lsub, 1)) (hp : pc + 1 = pc') (g : Go p e below s Q rc rs (T.setTop (mkF m pc' Ls (.long (x - y) :: st)))) : Go p e below s Q rc rs (T.setTop (mkF m pc Ls (.long y :: .long x :: st))) := by
  subst hp; exact g.by fun t k => XS.lsub X.here hx rfl hd rfl k
theorem g_lmul (X : Stand p l e R s m args below meth c T locs cells slots) (hx : p.tables.exec = Jvm.exec) {x y : Int64} (pc' : Nat) (hd : decode c.code pc = .ok (.lmul, 1)) (hp : pc + 1 = pc') (g : Go p e below s Q rc rs (T.setTop (mkF m pc' Ls (.long (x * y) :: st)))) : Go p e below s Q rc rs (T.setTop (mkF m pc Ls (.long y :: .long x :: st))) := by
  subst hp; exact g.by fun t k => XS.lmul X.here hx rfl hd rfl k
theorem g_land (X : Stand p l e R s m args below meth c T locs cells slots) (hx : p.tables.exec = Jvm.exec) {x y : Int64} (pc' : Nat) (hd : decode c.code pc = .ok (.land, 1)) (hp : pc + 1 = pc') (g : Go p e below s Q rc rs (T.setTop (mkF m pc' Ls (.long (x &&& y) :: st)))) : Go p e below s Q rc rs (T.setTop (mkF m pc Ls (.long y :: .long x :: st))) := by
  subst hp; exact g.by fun t k => XS.land X.here hx rfl hd rfl k
theorem g_lor (X : Stand p l e R s m args below meth c T locs cells slots) (hx : p.tables.exec = Jvm.exec) {x y : Int64} (pc' : Nat) (hd : decode c.code pc = .ok (.lor, 1)) (hp : pc + 1 = pc') (g : Go p e below s Q rc rs (T.setTop (mkF m pc' Ls (.long (x ||| y) :: st)))) : Go p e below s Q rc rs (T.setTop (mkF m pc Ls (.long y :: .long x :: st))) := by
  subst hp; exact g.by fun t k => XS.lor X.here hx rfl hd rfl k
theorem g_lxor (X : Stand p l e R s m args below meth c T locs cells slots) (hx : p.tables.exec = Jvm.exec) {x y : Int64} (pc' : Nat) (hd : decode c.code pc = .ok (.lxor, 1)) (hp : pc + 1 = pc') (g : Go p e below s Q rc rs (T.setTop (mkF m pc' Ls (.long (x ^^^ y) :: st)))) : Go p e below s Q rc rs (T.setTop (mkF m pc Ls (.long y :: .long x :: st))) := by
  subst hp; exact g.by fun t k => XS.lxor X.here hx rfl hd rfl k
theorem g_lneg (X : Stand p l e R s m args below meth c T locs cells slots) (hx : p.tables.exec = Jvm.exec) {x : Int64} (pc' : Nat) (hd : decode c.code pc = .ok (.lneg, 1)) (hp : pc + 1 = pc') (g : Go p e below s Q rc rs (T.setTop (mkF m pc' Ls (.long (-x) :: st)))) : Go p e below s Q rc rs (T.setTop (mkF m pc Ls (.long x :: st))) := by
  subst hp; exact g.by fun t k => XS.lneg X.here hx rfl hd rfl k
theorem g_ldiv (X : Stand p l e R s m args below meth c T locs cells slots) (hx : p.tables.exec = Jvm.exec) {x y : Int64} (pc' : Nat) (hd : decode c.code pc = .ok (.ldiv, 1)) (hy : y ≠ 0) (hp : pc + 1 = pc') (g : Go p e below s Q rc rs (T.setTop (mkF m pc' Ls (.long (x / y) :: st)))) : Go p e below s Q rc rs (T.setTop (mkF m pc Ls (.long y :: .long x :: st))) := by
  subst hp; exact g.by fun t k => XS.ldiv X.here hx rfl hd rfl hy k
theorem g_irem (X : Stand p l e R s m args below meth c T locs cells slots) (hx : p.tables.exec = Jvm.exec) {x y : Int32} (pc' : Nat) (hd : decode c.code pc = .ok (.irem, 1)) (hy : y ≠ 0) (hp : pc + 1 = pc') (g : Go p e below s Q rc rs (T.setTop (mkF m pc' Ls (.int (x % y) :: st)))) : Go p e below s Q rc rs (T.setTop (mkF m pc Ls (.int y :: .int x :: st))) := by
  subst hp; exact g.by fun t k => iremM X hx rfl hd rfl hy k
theorem g_lrem (X : Stand p l e R s m args below meth c T locs cells slots) (hx : p.tables.exec = Jvm.exec) {x y : Int64} (pc' : Nat) (hd : decode c.code pc = .ok (.lrem, 1)) (hy : y ≠ 0) (hp : pc + 1 = pc') (g : Go p e below s Q rc rs (T.setTop (mkF m pc' Ls (.long (x % y) :: st)))) : Go p e below s Q rc rs (T.setTop (mkF m pc Ls (.long y :: .long x :: st))) := by
  subst hp; exact g.by fun t k => XS.lrem X.here hx rfl hd rfl hy (by rw [lrem_mod]; exact k)
theorem g_ishl (X : Stand p l e R s m args below meth c T locs cells slots) (hx : p.tables.exec = Jvm.exec) {x : Int32} {y : Int32} (pc' : Nat) (hd : decode c.code pc = .ok (.ishl, 1)) (hp : pc + 1 = pc') (g : Go p e below s Q rc rs (T.setTop (mkF m pc' Ls (.int (shlI x y) :: st)))) : Go p e below s Q rc rs (T.setTop (mkF m pc Ls (.int y :: .int x :: st))) := by
  subst hp; exact g.by fun t k => XS.ishl X.here hx rfl hd rfl k
theorem g_ishr (X : Stand p l e R s m args below meth c T locs cells slots) (hx : p.tables.exec = Jvm.exec) {x : Int32} {y : Int32} (pc' : Nat) (hd : decode c.code pc = .ok (.ishr, 1)) (hp : pc + 1 = pc') (g : Go p e below s Q rc rs (T.setTop (mkF m pc' Ls (.int (shrI x y) :: st)))) : Go p e below s Q rc rs (T.setTop (mkF m pc Ls (.int y :: .int x :: st))) := by
  subst hp; exact g.by fun t k => XS.ishr X.here hx rfl hd rfl k
theorem g_iushr (X : Stand p l e R s m args below meth c T locs cells slots) (hx : p.tables.exec = Jvm.exec) {x : Int32} {y : Int32} (pc' : Nat) (hd : decode c.code pc = .ok (.iushr, 1)) (hp : pc + 1 = pc') (g : Go p e below s Q rc rs (T.setTop (mkF m pc' Ls (.int (ushrI x y) :: st)))) : Go p e below s Q rc rs (T.setTop (mkF m pc Ls (.int y :: .int x :: st))) := by
  subst hp; exact g.by fun t k => XS.iushr X.here hx rfl hd rfl k
theorem g_lshl (X : Stand p l e R s m args below meth c T locs cells slots) (hx : p.tables.exec = Jvm.exec) {x : Int64} {y : Int32} (pc' : Nat) (hd : decode c.code pc = .ok (.lshl, 1)) (hp : pc + 1 = pc') (g : Go p e below s Q rc rs (T.setTop (mkF m pc' Ls (.long (shlJ x y) :: st)))) : Go p e below s Q rc rs (T.setTop (mkF m pc Ls (.int y :: .long x :: st))) := by
  subst hp; exact g.by fun t k => XS.lshl X.here hx rfl hd rfl k
theorem g_lshr (X : Stand p l e R s m args below meth c T locs cells slots) (hx : p.tables.exec = Jvm.exec) {x : Int64} {y : Int32} (pc' : Nat) (hd : decode c.code pc = .ok (.lshr, 1)) (hp : pc + 1 = pc') (g : Go p e below s Q rc rs (T.setTop (mkF m pc' Ls (.long (shrJ x y) :: st)))) : Go p e below s Q rc rs (T.setTop (mkF m pc Ls (.int y :: .long x :: st))) := by
  subst hp; exact g.by fun t k => XS.lshr X.here hx rfl hd rfl k
theorem g_lushr (X : Stand p l e R s m args below meth c T locs cells slots) (hx : p.tables.exec = Jvm.exec) {x : Int64} {y : Int32} (pc' : Nat) (hd : decode c.code pc = .ok (.lushr, 1)) (hp : pc + 1 = pc') (g : Go p e below s Q rc rs (T.setTop (mkF m pc' Ls (.long (ushrJ x y) :: st)))) : Go p e below s Q rc rs (T.setTop (mkF m pc Ls (.int y :: .long x :: st))) := by
  subst hp; exact g.by fun t k => XS.lushr X.here hx rfl hd rfl k
theorem g_i2l (X : Stand p l e R s m args below meth c T locs cells slots) (hx : p.tables.exec = Jvm.exec) {x : Int32} (pc' : Nat) (hd : decode c.code pc = .ok (.i2l, 1)) (hp : pc + 1 = pc') (g : Go p e below s Q rc rs (T.setTop (mkF m pc' Ls (.long (x.toInt64) :: st)))) : Go p e below s Q rc rs (T.setTop (mkF m pc Ls (.int x :: st))) := by
  subst hp; exact g.by fun t k => XS.i2l X.here hx rfl hd rfl k
theorem g_l2i (X : Stand p l e R s m args below meth c T locs cells slots) (hx : p.tables.exec = Jvm.exec) {x : Int64} (pc' : Nat) (hd : decode c.code pc = .ok (.l2i, 1)) (hp : pc + 1 = pc') (g : Go p e below s Q rc rs (T.setTop (mkF m pc' Ls (.int (x.toInt32) :: st)))) : Go p e below s Q rc rs (T.setTop (mkF m pc Ls (.long x :: st))) := by
  subst hp; exact g.by fun t k => XS.l2i X.here hx rfl hd rfl k
theorem g_i2b (X : Stand p l e R s m args below meth c T locs cells slots) (hx : p.tables.exec = Jvm.exec) {x : Int32} (pc' : Nat) (hd : decode c.code pc = .ok (.i2b, 1)) (hp : pc + 1 = pc') (g : Go p e below s Q rc rs (T.setTop (mkF m pc' Ls (.int (i2bI x) :: st)))) : Go p e below s Q rc rs (T.setTop (mkF m pc Ls (.int x :: st))) := by
  subst hp; exact g.by fun t k => XS.i2b X.here hx rfl hd rfl k
theorem g_i2c (X : Stand p l e R s m args below meth c T locs cells slots) (hx : p.tables.exec = Jvm.exec) {x : Int32} (pc' : Nat) (hd : decode c.code pc = .ok (.i2c, 1)) (hp : pc + 1 = pc') (g : Go p e below s Q rc rs (T.setTop (mkF m pc' Ls (.int (i2cI x) :: st)))) : Go p e below s Q rc rs (T.setTop (mkF m pc Ls (.int x :: st))) := by
  subst hp; exact g.by fun t k => XS.i2c X.here hx rfl hd rfl k
theorem g_i2s (X : Stand p l e R s m args below meth c T locs cells slots) (hx : p.tables.exec = Jvm.exec) {x : Int32} (pc' : Nat) (hd : decode c.code pc = .ok (.i2s, 1)) (hp : pc + 1 = pc') (g : Go p e below s Q rc rs (T.setTop (mkF m pc' Ls (.int (i2sI x) :: st)))) : Go p e below s Q rc rs (T.setTop (mkF m pc Ls (.int x :: st))) := by
  subst hp; exact g.by fun t k => XS.i2s X.here hx rfl hd rfl k
theorem g_lcmp (X : Stand p l e R s m args below meth c T locs cells slots) (hx : p.tables.exec = Jvm.exec) {x y : Int64} (pc' : Nat) (hd : decode c.code pc = .ok (.lcmp, 1)) (hp : pc + 1 = pc') (g : Go p e below s Q rc rs (T.setTop (mkF m pc' Ls (.int (lcmpW x y) :: st)))) : Go p e below s Q rc rs (T.setTop (mkF m pc Ls (.long y :: .long x :: st))) := by
  subst hp; exact g.by fun t k => XS.lcmp X.here hx rfl hd rfl k
theorem g_iinc (X : Stand p l e R s m args below meth c T locs cells slots) (hx : p.tables.exec = Jvm.exec) {k : Nat} {i : Int} {x : Int32} (v : Int32) (l' : Array Slot) (pc' : Nat) (hd : decode c.code pc = .ok (.iinc k i, 3)) (hv : Int32.ofInt i = v) (hl : Ls[k]? = some (.val (.int x))) (hl' : storeLocals Ls k (.int (x + v)) = some l') (hp : pc + 3 = pc') (g : Go p e below s Q rc rs (T.setTop (mkF m pc' l' st))) : Go p e below s Q rc rs (T.setTop (mkF m pc Ls st)) := by
  subst hp hv; exact g.by fun t k => XS.iinc X.here hx rfl hd hl hl' k
theorem g_dup (X : Stand p l e R s m args below meth c T locs cells slots) (hx : p.tables.exec = Jvm.exec) {x : Value} (pc' : Nat) (hd : decode c.code pc = .ok (.dup, 1)) (hc : x.category = 1) (hp : pc + 1 = pc') (g : Go p e below s Q rc rs (T.setTop (mkF m pc' Ls (x :: x :: st)))) : Go p e below s Q rc rs (T.setTop (mkF m pc Ls (x :: st))) := by
  subst hp; exact g.by fun t k => XS.dup X.here hx rfl hd rfl hc k
theorem g_pop (X : Stand p l e R s m args below meth c T locs cells slots) (hx : p.tables.exec = Jvm.exec) {x : Value} (pc' : Nat) (hd : decode c.code pc = .ok (.pop, 1)) (hc : x.category = 1) (hp : pc + 1 = pc') (g : Go p e below s Q rc rs (T.setTop (mkF m pc' Ls st))) : Go p e below s Q rc rs (T.setTop (mkF m pc Ls (x :: st))) := by
  subst hp; exact g.by fun t k => XS.pop X.here hx rfl hd rfl hc k
theorem g_dup_x1 (X : Stand p l e R s m args below meth c T locs cells slots) (hx : p.tables.exec = Jvm.exec) {x y : Value} (pc' : Nat) (hd : decode c.code pc = .ok (.dup_x1, 1)) (hc : x.category = 1) (hc2 : y.category = 1) (hp : pc + 1 = pc') (g : Go p e below s Q rc rs (T.setTop (mkF m pc' Ls (x :: y :: x :: st)))) : Go p e below s Q rc rs (T.setTop (mkF m pc Ls (x :: y :: st))) := by
  subst hp; exact g.by fun t k => XS.dupX1 X.here hx rfl hd rfl hc hc2 k
theorem g_dup2 (X : Stand p l e R s m args below meth c T locs cells slots) (hx : p.tables.exec = Jvm.exec) {x y : Value} (pc' : Nat) (hd : decode c.code pc = .ok (.dup2, 1)) (hc : x.category = 1) (hc2 : y.category = 1) (hp : pc + 1 = pc') (g : Go p e below s Q rc rs (T.setTop (mkF m pc' Ls (x :: y :: x :: y :: st)))) : Go p e below s Q rc rs (T.setTop (mkF m pc Ls (x :: y :: st))) := by
  subst hp; exact g.by fun t k => XT.dup2 X.here hx rfl hd rfl hc hc2 k
theorem g_dup2L (X : Stand p l e R s m args below meth c T locs cells slots) (hx : p.tables.exec = Jvm.exec) {x : Int64} (pc' : Nat) (hd : decode c.code pc = .ok (.dup2, 1)) (hp : pc + 1 = pc') (g : Go p e below s Q rc rs (T.setTop (mkF m pc' Ls (.long x :: .long x :: st)))) : Go p e below s Q rc rs (T.setTop (mkF m pc Ls (.long x :: st))) := by
  subst hp; exact g.by fun t k => XT.dup2L X.here hx rfl hd rfl k
theorem g_pop2L (X : Stand p l e R s m args below meth c T locs cells slots) (hx : p.tables.exec = Jvm.exec) {x : Int64} (pc' : Nat) (hd : decode c.code pc = .ok (.pop2, 1)) (hp : pc + 1 = pc') (g : Go p e below s Q rc rs (T.setTop (mkF m pc' Ls st))) : Go p e below s Q rc rs (T.setTop (mkF m pc Ls (.long x :: st))) := by
  subst hp; refine g.by fun t k => ?_
  jvm_step X.here [X.here.top, hx, hd, Value.category]
  exact k
theorem g_goto (X : Stand p l e R s m args below meth c T locs cells slots) (hx : p.tables.exec = Jvm.exec) {o : Int} (pc' : Nat) (hd : decode c.code pc = .ok (.goto o, 3)) (ho : 0 ≤ (pc : Int) + o) (hp : ((pc : Int) + o).toNat = pc') (g : Go p e below s Q rc rs (T.setTop (mkF m pc' Ls st))) : Go p e below s Q rc rs (T.setTop (mkF m pc Ls st)) := by
  subst hp; exact g.by fun t k => XS.goto X.here hx rfl rfl hd ho rfl k
theorem g_icmp_lt (X : Stand p l e R s m args below meth c T locs cells slots) (hx : p.tables.exec = Jvm.exec) {x y : Int32} {o : Int} (pcY pcN : Nat) (hd : decode c.code pc = .ok (.if_icmp .lt o, 3)) (ho : 0 ≤ (pc : Int) + o) (hY : ((pc : Int) + o).toNat = pcY) (hN : pc + 3 = pcN) (gp : x < y → Go p e below s Q rc rs (T.setTop (mkF m pcY Ls st))) (gn : ¬ x < y → Go p e below s Q rc rs (T.setTop (mkF m pcN Ls st))) : Go p e below s Q rc rs (T.setTop (mkF m pc Ls (.int y :: .int x :: st))) := by
  subst hY hN
  by_cases q : x < y
  · exact (gp q).by fun t k => XS.icmpYes X.here hx rfl rfl hd rfl (tlt q).1 ho rfl k
  · exact (gn q).by fun t k => XS.icmpNo X.here hx rfl hd rfl (flt q).1 k
theorem g_if0_lt (X : Stand p l e R s m args below meth c T locs cells slots) (hx : p.tables.exec = Jvm.exec) {x : Int32} {o : Int} (pcY pcN : Nat) (hd : decode c.code pc = .ok (.ifCond .lt o, 3)) (ho : 0 ≤ (pc : Int) + o) (hY : ((pc : Int) + o).toNat = pcY) (hN : pc + 3 = pcN) (gp : x < 0 → Go p e below s Q rc rs (T.setTop (mkF m pcY Ls st))) (gn : ¬ x < 0 → Go p e below s Q rc rs (T.setTop (mkF m pcN Ls st))) : Go p e below s Q rc rs (T.setTop (mkF m pc Ls (.int x :: st))) := by
  subst hY hN
  by_cases q : x < 0
  · exact (gp q).by fun t k => XS.ifYes X.here hx rfl rfl hd rfl ((if0 _ _).trans (tlt q).1) ho rfl k
  · exact (gn q).by fun t k => XS.ifNo X.here hx rfl hd rfl ((if0 _ _).trans (flt q).1) k
theorem g_lc_lt (X : Stand p l e R s m args below meth c T locs cells slots) (hx : p.tables.exec = Jvm.exec) {x y : Int64} {o : Int} (pcY pcN : Nat) (hd : decode c.code pc = .ok (.ifCond .lt o, 3)) (ho : 0 ≤ (pc : Int) + o) (hY : ((pc : Int) + o).toNat = pcY) (hN : pc + 3 = pcN) (gp : x < y → Go p e below s Q rc rs (T.setTop (mkF m pcY Ls st))) (gn : ¬ x < y → Go p e below s Q rc rs (T.setTop (mkF m pcN Ls st))) : Go p e below s Q rc rs (T.setTop (mkF m pc Ls (.int (lcmpW x y) :: st))) :=
  g_if0_lt X hx pcY pcN hd ho hY hN (fun q => gp ((lw_lt x y).1 q)) (fun q => gn fun r => q ((lw_lt x y).2 r))
theorem g_icmp_ge (X : Stand p l e R s m args below meth c T locs cells slots) (hx : p.tables.exec = Jvm.exec) {x y : Int32} {o : Int} (pcY pcN : Nat) (hd : decode c.code pc = .ok (.if_icmp .ge o, 3)) (ho : 0 ≤ (pc : Int) + o) (hY : ((pc : Int) + o).toNat = pcY) (hN : pc + 3 = pcN) (gp : x < y → Go p e below s Q rc rs (T.setTop (mkF m pcN Ls st))) (gn : ¬ x < y → Go p e below s Q rc rs (T.setTop (mkF m pcY Ls st))) : Go p e below s Q rc rs (T.setTop (mkF m pc Ls (.int y :: .int x :: st))) := by
  subst hY hN
  by_cases q : x < y
  · exact (gp q).by fun t k => XS.icmpNo X.here hx rfl hd rfl (tlt q).2.1 k
  · exact (gn q).by fun t k => XS.icmpYes X.here hx rfl rfl hd rfl (flt q).2.1 ho rfl k
theorem g_if0_ge (X : Stand p l e R s m args below meth c T locs cells slots) (hx : p.tables.exec = Jvm.exec) {x : Int32} {o : Int} (pcY pcN : Nat) (hd : decode c.code pc = .ok (.ifCond .ge o, 3)) (ho : 0 ≤ (pc : Int) + o) (hY : ((pc : Int) + o).toNat = pcY) (hN : pc + 3 = pcN) (gp : x < 0 → Go p e below s Q rc rs (T.setTop (mkF m pcN Ls st))) (gn : ¬ x < 0 → Go p e below s Q rc rs (T.setTop (mkF m pcY Ls st))) : Go p e below s Q rc rs (T.setTop (mkF m pc Ls (.int x :: st))) := by
  subst hY hN
  by_cases q : x < 0
  · exact (gp q).by fun t k => XS.ifNo X.here hx rfl hd rfl ((if0 _ _).trans (tlt q).2.1) k
  · exact (gn q).by fun t k => XS.ifYes X.here hx rfl rfl hd rfl ((if0 _ _).trans (flt q).2.1) ho rfl k
theorem g_lc_ge (X : Stand p l e R s m args below meth c T locs cells slots) (hx : p.tables.exec = Jvm.exec) {x y : Int64} {o : Int} (pcY pcN : Nat) (hd : decode c.code pc = .ok (.ifCond .ge o, 3)) (ho : 0 ≤ (pc : Int) + o) (hY : ((pc : Int) + o).toNat = pcY) (hN : pc + 3 = pcN) (gp : x < y → Go p e below s Q rc rs (T.setTop (mkF m pcN Ls st))) (gn : ¬ x < y → Go p e below s Q rc rs (T.setTop (mkF m pcY Ls st))) : Go p e below s Q rc rs (T.setTop (mkF m pc Ls (.int (lcmpW x y) :: st))) :=
  g_if0_ge X hx pcY pcN hd ho hY hN (fun q => gp ((lw_lt x y).1 q)) (fun q => gn fun r => q ((lw_lt x y).2 r))
theorem g_icmp_gt (X : Stand p l e R s m args below meth c T locs cells slots) (hx : p.tables.exec = Jvm.exec) {x y : Int32} {o : Int} (pcY pcN : Nat) (hd : decode c.code pc = .ok (.if_icmp .gt o, 3)) (ho : 0 ≤ (pc : Int) + o) (hY : ((pc : Int) + o).toNat = pcY) (hN : pc + 3 = pcN) (gp : y < x → Go p e below s Q rc rs (T.setTop (mkF m pcY Ls st))) (gn : ¬ y < x → Go p e below s Q rc rs (T.setTop (mkF m pcN Ls st))) : Go p e below s Q rc rs (T.setTop (mkF m pc Ls (.int y :: .int x :: st))) := by
  subst hY hN
  by_cases q : y < x
  · exact (gp q).by fun t k => XS.icmpYes X.here hx rfl rfl hd rfl (tlt q).2.2.1 ho rfl k
  · exact (gn q).by fun t k => XS.icmpNo X.here hx rfl hd rfl (flt q).2.2.1 k
theorem g_if0_gt (X : Stand p l e R s m args below meth c T locs cells slots) (hx : p.tables.exec = Jvm.exec) {x : Int32} {o : Int} (pcY pcN : Nat) (hd : decode c.code pc = .ok (.ifCond .gt o, 3)) (ho : 0 ≤ (pc : Int) + o) (hY : ((pc : Int) + o).toNat = pcY) (hN : pc + 3 = pcN) (gp : 0 < x → Go p e below s Q rc rs (T.setTop (mkF m pcY Ls st))) (gn : ¬ 0 < x → Go p e below s Q rc rs (T.setTop (mkF m pcN Ls st))) : Go p e below s Q rc rs (T.setTop (mkF m pc Ls (.int x :: st))) := by
  subst hY hN
  by_cases q : 0 < x
  · exact (gp q).by fun t k => XS.ifYes X.here hx rfl rfl hd rfl ((if0 _ _).trans (tlt q).2.2.1) ho rfl k
  · exact (gn q).by fun t k => XS.ifNo X.here hx rfl hd rfl ((if0 _ _).trans (flt q).2.2.1) k
theorem g_lc_gt (X : Stand p l e R s m args below meth c T locs cells slots) (hx : p.tables.exec = Jvm.exec) {x y : Int64} {o : Int} (pcY pcN : Nat) (hd : decode c.code pc = .ok (.ifCond .gt o, 3)) (ho : 0 ≤ (pc : Int) + o) (hY : ((pc : Int) + o).toNat = pcY) (hN : pc + 3 = pcN) (gp : y < x → Go p e below s Q rc rs (T.setTop (mkF m pcY Ls st))) (gn : ¬ y < x → Go p e below s Q rc rs (T.setTop (mkF m pcN Ls st))) : Go p e below s Q rc rs (T.setTop (mkF m pc Ls (.int (lcmpW x y) :: st))) :=
  g_if0_gt X hx pcY pcN hd ho hY hN (fun q => gp ((lw_gt x y).1 q)) (fun q => gn fun r => q ((lw_gt x y).2 r))
theorem g_icmp_le (X : Stand p l e R s m args below meth c T locs cells slots) (hx : p.tables.exec = Jvm.exec) {x y : Int32} {o : Int} (pcY pcN : Nat) (hd : decode c.code pc = .ok (.if_icmp .le o, 3)) (ho : 0 ≤ (pc : Int) + o) (hY : ((pc : Int) + o).toNat = pcY) (hN : pc + 3 = pcN) (gp : y < x → Go p e below s Q rc rs (T.setTop (mkF m pcN Ls st))) (gn : ¬ y < x → Go p e below s Q rc rs (T.setTop (mkF m pcY Ls st))) : Go p e below s Q rc rs (T.setTop (mkF m pc Ls (.int y :: .int x :: st))) := by
  subst hY hN
  by_cases q : y < x
  · exact (gp q).by fun t k => XS.icmpNo X.here hx rfl hd rfl (tlt q).2.2.2 k
  · exact (gn q).by fun t k => XS.icmpYes X.here hx rfl rfl hd rfl (flt q).2.2.2 ho rfl k
theorem g_if0_le (X : Stand p l e R s m args below meth c T locs cells slots) (hx : p.tables.exec = Jvm.exec) {x : Int32} {o : Int} (pcY pcN : Nat) (hd : decode c.code pc = .ok (.ifCond .le o, 3)) (ho : 0 ≤ (pc : Int) + o) (hY : ((pc : Int) + o).toNat = pcY) (hN : pc + 3 = pcN) (gp : 0 < x → Go p e below s Q rc rs (T.setTop (mkF m pcN Ls st))) (gn : ¬ 0 < x → Go p e below s Q rc rs (T.setTop (mkF m pcY Ls st))) : Go p e below s Q rc rs (T.setTop (mkF m pc Ls (.int x :: st))) := by
  subst hY hN
  by_cases q : 0 < x
  · exact (gp q).by fun t k => XS.ifNo X.here hx rfl hd rfl ((if0 _ _).trans (tlt q).2.2.2) k
  · exact (gn q).by fun t k => XS.ifYes X.here hx rfl rfl hd rfl ((if0 _ _).trans (flt q).2.2.2) ho rfl k
theorem g_lc_le (X : Stand p l e R s m args below meth c T locs cells slots) (hx : p.tables.exec = Jvm.exec) {x y : Int64} {o : Int} (pcY pcN : Nat) (hd : decode c.code pc = .ok (.ifCond .le o, 3)) (ho : 0 ≤ (pc : Int) + o) (hY : ((pc : Int) + o).toNat = pcY) (hN : pc + 3 = pcN) (gp : y < x → Go p e below s Q rc rs (T.setTop (mkF m pcN Ls st))) (gn : ¬ y < x → Go p e below s Q rc rs (T.setTop (mkF m pcY Ls st))) : Go p e below s Q rc rs (T.setTop (mkF m pc Ls (.int (lcmpW x y) :: st))) :=
  g_if0_le X hx pcY pcN hd ho hY hN (fun q => gp ((lw_gt x y).1 q)) (fun q => gn fun r => q ((lw_gt x y).2 r))
theorem g_icmp_eq (X : Stand p l e R s m args below meth c T locs cells slots) (hx : p.tables.exec = Jvm.exec) {x y : Int32} {o : Int} (pcY pcN : Nat) (hd : decode c.code pc = .ok (.if_icmp .eq o, 3)) (ho : 0 ≤ (pc : Int) + o) (hY : ((pc : Int) + o).toNat = pcY) (hN : pc + 3 = pcN) (gp : x = y → Go p e below s Q rc rs (T.setTop (mkF m pcY Ls st))) (gn : ¬ x = y → Go p e below s Q rc rs (T.setTop (mkF m pcN Ls st))) : Go p e below s Q rc rs (T.setTop (mkF m pc Ls (.int y :: .int x :: st))) := by
  subst hY hN
  by_cases q : x = y
  · exact (gp q).by fun t k => XS.icmpYes X.here hx rfl rfl hd rfl (teq q).1 ho rfl k
  · exact (gn q).by fun t k => XS.icmpNo X.here hx rfl hd rfl (feq q).1 k
theorem g_if0_eq (X : Stand p l e R s m args below meth c T locs cells slots) (hx : p.tables.exec = Jvm.exec) {x : Int32} {o : Int} (pcY pcN : Nat) (hd : decode c.code pc = .ok (.ifCond .eq o, 3)) (ho : 0 ≤ (pc : Int) + o) (hY : ((pc : Int) + o).toNat = pcY) (hN : pc + 3 = pcN) (gp : x = 0 → Go p e below s Q rc rs (T.setTop (mkF m pcY Ls st))) (gn : ¬ x = 0 → Go p e below s Q rc rs (T.setTop (mkF m pcN Ls st))) : Go p e below s Q rc rs (T.setTop (mkF m pc Ls (.int x :: st))) := by
  subst hY hN
  by_cases q : x = 0
  · exact (gp q).by fun t k => XS.ifYes X.here hx rfl rfl hd rfl ((if0 _ _).trans (teq q).1) ho rfl k
  · exact (gn q).by fun t k => XS.ifNo X.here hx rfl hd rfl ((if0 _ _).trans (feq q).1) k
theorem g_lc_eq (X : Stand p l e R s m args below meth c T locs cells slots) (hx : p.tables.exec = Jvm.exec) {x y : Int64} {o : Int} (pcY pcN : Nat) (hd : decode c.code pc = .ok (.ifCond .eq o, 3)) (ho : 0 ≤ (pc : Int) + o) (hY : ((pc : Int) + o).toNat = pcY) (hN : pc + 3 = pcN) (gp : x = y → Go p e below s Q rc rs (T.setTop (mkF m pcY Ls st))) (gn : ¬ x = y → Go p e below s Q rc rs (T.setTop (mkF m pcN Ls st))) : Go p e below s Q rc rs (T.setTop (mkF m pc Ls (.int (lcmpW x y) :: st))) :=
  g_if0_eq X hx pcY pcN hd ho hY hN (fun q => gp ((lw_eq x y).1 q)) (fun q => gn fun r => q ((lw_eq x y).2 r))
theorem g_icmp_ne (X : Stand p l e R s m args below meth c T locs cells slots) (hx : p.tables.exec = Jvm.exec) {x y : Int32} {o : Int} (pcY pcN : Nat) (hd : decode c.code pc = .ok (.if_icmp .ne o, 3)) (ho : 0 ≤ (pc : Int) + o) (hY : ((pc : Int) + o).toNat = pcY) (hN : pc + 3 = pcN) (gp : x = y → Go p e below s Q rc rs (T.setTop (mkF m pcN Ls st))) (gn : ¬ x = y → Go p e below s Q rc rs (T.setTop (mkF m pcY Ls st))) : Go p e below s Q rc rs (T.setTop (mkF m pc Ls (.int y :: .int x :: st))) := by
  subst hY hN
  by_cases q : x = y
  · exact (gp q).by fun t k => XS.icmpNo X.here hx rfl hd rfl (teq q).2 k
  · exact (gn q).by fun t k => XS.icmpYes X.here hx rfl rfl hd rfl (feq q).2 ho rfl k
theorem g_if0_ne (X : Stand p l e R s m args below meth c T locs cells slots) (hx : p.tables.exec = Jvm.exec) {x : Int32} {o : Int} (pcY pcN : Nat) (hd : decode c.code pc = .ok (.ifCond .ne o, 3)) (ho : 0 ≤ (pc : Int) + o) (hY : ((pc : Int) + o).toNat = pcY) (hN : pc + 3 = pcN) (gp : x = 0 → Go p e below s Q rc rs (T.setTop (mkF m pcN Ls st))) (gn : ¬ x = 0 → Go p e below s Q rc rs (T.setTop (mkF m pcY Ls st))) : Go p e below s Q rc rs (T.setTop (mkF m pc Ls (.int x :: st))) := by
  subst hY hN
  by_cases q : x = 0
  · exact (gp q).by fun t k => XS.ifNo X.here hx rfl hd rfl ((if0 _ _).trans (teq q).2) k
  · exact (gn q).by fun t k => XS.ifYes X.here hx rfl rfl hd rfl ((if0 _ _).trans (feq q).2) ho rfl k
theorem g_lc_ne (X : Stand p l e R s m args below meth c T locs cells slots) (hx : p.tables.exec = Jvm.exec) {x y : Int64} {o : Int} (pcY pcN : Nat) (hd : decode c.code pc = .ok (.ifCond .ne o, 3)) (ho : 0 ≤ (pc : Int) + o) (hY : ((pc : Int) + o).toNat = pcY) (hN : pc + 3 = pcN) (gp : x = y → Go p e below s Q rc rs (T.setTop (mkF m pcN Ls st))) (gn : ¬ x = y → Go p e below s Q rc rs (T.setTop (mkF m pcY Ls st))) : Go p e below s Q rc rs (T.setTop (mkF m pc Ls (.int (lcmpW x y) :: st))) :=
  g_if0_ne X hx pcY pcN hd ho hY hN (fun q => gp ((lw_eq x y).1 q)) (fun q => gn fun r => q ((lw_eq x y).2 r))
theorem g_ifnull_no (X : Stand p l e R s m args below meth c T locs cells slots) (hx : p.tables.exec = Jvm.exec) {b : Addr} {o : Int} (pc' : Nat) (hd : decode c.code pc = .ok (.ifnull o, 3)) (hp : pc + 3 = pc') (g : Go p e below s Q rc rs (T.setTop (mkF m pc' Ls st))) : Go p e below s Q rc rs (T.setTop (mkF m pc Ls (.ref b :: st))) := by
  subst hp; exact g.by fun t k => XS.ifnullNo X.here hx rfl hd rfl k
theorem g_ifnonnull_yes (X : Stand p l e R s m args below meth c T locs cells slots) (hx : p.tables.exec = Jvm.exec) {b : Addr} {o : Int} (pc' : Nat) (hd : decode c.code pc = .ok (.ifnonnull o, 3)) (ho : 0 ≤ (pc : Int) + o) (hp : ((pc : Int) + o).toNat = pc') (g : Go p e below s Q rc rs (T.setTop (mkF m pc' Ls st))) : Go p e below s Q rc rs (T.setTop (mkF m pc Ls (.ref b :: st))) := by
  subst hp; exact g.by fun t k => XS.ifnonnullYes X.here hx rfl rfl hd rfl ho rfl k
theorem g_retI (X : Stand p l e R s m args below meth c T locs cells slots) (hx : p.tables.exec = Jvm.exec) (hret : meth.sig.returnType = some .int) (hlk : meth.locks = false) {z : Int32} (hd : decode c.code pc = .ok (.ireturn, 1)) (hc : cells ≤ rc) (hs : slots ≤ rs) (hQ : Q (some (.int z)) T.heap locs) : Go p e below s Q rc rs (T.setTop (mkF m pc Ls (.int z :: st))) := by
  obtain ⟨fs, hr, hrun, hended, hW, hsame⟩ := X.leave (v := some (.int z)) (fun q => by rw [hret] at q; cases q) hlk
  exact ⟨_, _, retI X hx hret hd hr, hrun, hended, _, _, rfl, hQ, ⟨_, rfl⟩, hW, hsame.mono hc hs⟩
theorem g_retN (X : Stand p l e R s m args below meth c T locs cells slots) (hx : p.tables.exec = Jvm.exec) {ty : FieldType} (hret : meth.sig.returnType = some ty) (ht : ty = .boolean ∨ ty = .byte ∨ ty = .char ∨ ty = .short) (hlk : meth.locks = false) {z : Int32} (hd : decode c.code pc = .ok (.ireturn, 1)) (hc : cells ≤ rc) (hs : slots ≤ rs) (hQ : Q (some (.int (nar ty z))) T.heap locs) : Go p e below s Q rc rs (T.setTop (mkF m pc Ls (.int z :: st))) := by
  obtain ⟨fs, hr, hrun, hended, hW, hsame⟩ := X.leave (v := some (.int (nar ty z))) (fun q => by rw [hret] at q; cases q) hlk
  exact ⟨_, _, retN X hx hret ht hd hr, hrun, hended, _, _, rfl, hQ, ⟨_, rfl⟩, hW, hsame.mono hc hs⟩
theorem g_retJ (X : Stand p l e R s m args below meth c T locs cells slots) (hx : p.tables.exec = Jvm.exec) (hret : meth.sig.returnType = some .long) (hlk : meth.locks = false) {z : Int64} (hd : decode c.code pc = .ok (.lreturn, 1)) (hc : cells ≤ rc) (hs : slots ≤ rs) (hQ : Q (some (.long z)) T.heap locs) : Go p e below s Q rc rs (T.setTop (mkF m pc Ls (.long z :: st))) := by
  obtain ⟨fs, hr, hrun, hended, hW, hsame⟩ := X.leave (v := some (.long z)) (fun q => by rw [hret] at q; cases q) hlk
  exact ⟨_, _, retOut X hx hret rfl (Or.inr (Or.inl ⟨rfl, rfl, z, rfl⟩)) hd hr, hrun, hended, _, _, rfl, hQ, ⟨_, rfl⟩, hW, hsame.mono hc hs⟩
theorem g_retA (X : Stand p l e R s m args below meth c T locs cells slots) (hx : p.tables.exec = Jvm.exec) {ty : FieldType} (hret : meth.sig.returnType = some ty) (ht : ty.isReference = true) (hlk : meth.locks = false) {b : Addr} (hd : decode c.code pc = .ok (.areturn, 1)) (hc : cells ≤ rc) (hs : slots ≤ rs) (hQ : Q (some (.ref b)) T.heap locs) : Go p e below s Q rc rs (T.setTop (mkF m pc Ls [.ref b])) := by
  obtain ⟨fs, hr, hrun, hended, hW, hsame⟩ := X.leave (v := some (.ref b)) (fun q => by rw [hret] at q; cases q) hlk
  exact ⟨_, _, X.areturnOut hx rfl hret ht hd hr, hrun, hended, _, _, rfl, hQ, ⟨_, rfl⟩, hW, hsame.mono hc hs⟩
theorem g_retV (X : Stand p l e R s m args below meth c T locs cells slots) (hx : p.tables.exec = Jvm.exec) (hret : meth.sig.returnType = none) (hlk : meth.locks = false) (hd : decode c.code pc = .ok (.return_, 1)) (hc : cells ≤ rc) (hs : slots ≤ rs) (hQ : Q none T.heap locs) : Go p e below s Q rc rs (T.setTop (mkF m pc Ls [])) := by
  obtain ⟨fs, hr, hrun, hended, hW, hsame⟩ := X.leave (v := none) (fun _ => rfl) hlk
  exact ⟨_, _, X.returnOut hx hret hd hr, hrun, hended, _, _, rfl, hQ, ⟨_, rfl⟩, hW, hsame.mono hc hs⟩
theorem g_body {y : MethodName} {bytes : ByteArray} {maxL : Nat} {ret : Option FieldType} {ws : List Jvm.Cond} {rm : Room} {as : Array Value} (hpn : plainFor y = true)
    (body : ∀ p e s m below meth c T, Stand p l e rm s m as below meth c T [] 0 0 → p.tables.exec = Jvm.exec → c.code = bytes → c.maxLocals = maxL → meth.sig.returnType = ret → meth.locks = false → s.vm.findClass y.cls = some m.cls → meth.name = y.name → Z.Warmed39 s.vm → T.heap = h → Go p e below s Q rc rs (T.setTop (entryFrame m as maxL))) :
    MetFree l y (head1 (Jvm.Cond.code y bytes maxL ret :: ws) rm) (fun a U => a = as ∧ Z.Warmed39 U.vm ∧ U.heap = h) (fun _ _ _ _ _ => True) (fun _ U o U' => ∃ v L, o = .returned v ∧ Q v U'.heap L ∧ FrameEnd U o U' L rc rs) := by
  refine MetFree.of_bodySF hpn hisR ?_
  intro p e s m args below meth c s₁ Bd hml hP hK
  obtain ⟨rfl, hZ, hh⟩ := hP
  exact body p e s m below meth c s₁ (Stand.of_body Bd) Bd.exec Bd.bytes hml Bd.returns Bd.notSynchronized (findClass_of_methodNamed Bd.named) (name_of_methodNamed Bd.named Bd.method).1 hZ (by rw [← hh, Bd.state]; rfl)
theorem g_callS (X : Stand p l e R s m args below meth c T locs cells slots) (hx : p.tables.exec = Jvm.exec) (hZ : Z.Warmed39 s.vm) {own : String} {i : Nat} {y : MethodName} {bytes : ByteArray} {maxL : Nat} {ret : Option FieldType} {rm : Room} {as : Array Value} {Q' : Option Value → Heap → List Loc → Prop} (hown : s.vm.findClass own = some m.cls) (w1 : (Jvm.Cond.methodLink own i y).before a0 Z = true) (w2 : (Jvm.Cond.static y).before a0 Z = true) (w3 : (Jvm.Cond.initialized y.cls).before a0 Z = true) (w4 : (Jvm.Cond.code y bytes maxL ret).before a0 Z = true) (hy : y.cls ≠ "java/lang/invoke/MethodHandle" ∧ y.cls ≠ "java/lang/invoke/VarHandle") (eT : T.heap = h) (hM : MetFree l y (head1 [Jvm.Cond.code y bytes maxL ret] rm) (fun a U => a = as ∧ Z.Warmed39 U.vm ∧ U.heap = h) (fun _ _ _ _ _ => True) (fun _ U o U' => ∃ v L, o = .returned v ∧ Q' v U'.heap L ∧ FrameEnd U o U' L rm.cells rm.slots)) (argsL rest : List Value) (W : Nat) (has : argsL.toArray = as) (hlen : ∀ sig, parseMethodDescriptor y.desc = some sig → argsL.length = sig.parameters.length) (hst : st = argsL.reverse ++ rest) (hW : (rest.map fun v => v.category).sum ≤ W) (hf : rm.frames + 1 ≤ R.frames) (hlo : W + (maxL + 11) + rm.locals ≤ R.locals) (hcl : cells + rm.cells ≤ R.cells) (hsl : slots + rm.slots ≤ R.slots) (hsz : Ls.size = c.maxLocals) (hd : decode c.code pc = .ok (.invokestatic i, 3)) (k : ∀ T' L v, Stand p l e R s m args below meth c T' (locs ++ L) (cells + rm.cells) (slots + rm.slots) → Q' v T'.heap L → Go p e below s Q rc rs (T'.setTop (mkF m (pc + 3) Ls (v.toList ++ rest)))) : Go p e below s Q rc rs (T.setTop (mkF m pc Ls st)) := by
  subst hst has
  obtain ⟨_, _, ⟨T', L', k', n'⟩, -, X', ⟨Lc, hQ, e1, e2, e3⟩, stp⟩ := Jvm.LawKit.callS X hx (y := y) hown (mvT hZ w1) (mvT hZ w2) (mvT hZ w3) (mvT hZ w4) hy (backOf (W := W) hM hZ w4 w3 hf hlo) (g := mkF m pc Ls (argsL.reverse ++ rest)) rfl hsz (argsL := argsL) (rest := rest) hlen rfl (by show 2 * 0 + _ ≤ _; omega) hd (fun _ _ => ⟨rfl, eT, hcl, hsl⟩)
  dsimp only [Pt.U, Pt.locs, Pt.cells, Pt.slots] at X' e1 e2 e3 stp hQ
  subst e1 e2 e3
  exact (k _ _ _ X' hQ).by stp
theorem g_callI (X : Stand p l e R s m args below meth c T locs cells slots) (hx : p.tables.exec = Jvm.exec) (hZ : Z.Warmed39 s.vm) {own : String} {i : Nat} {y : MethodName} {bytes : ByteArray} {maxL : Nat} {rm : Room} {as : Array Value} {Q' : Option Value → Heap → List Loc → Prop} (hy1 : y.name = "<init>") (hown : s.vm.findClass own = some m.cls) (w1 : (Jvm.Cond.methodLink own i y).before a0 Z = true) (w2 : (Jvm.Cond.instanceMethod y).before a0 Z = true) (w3 : (Jvm.Cond.initialized y.cls).before a0 Z = true) (w4 : (Jvm.Cond.code y bytes maxL none).before a0 Z = true) (hy : y.cls ≠ "java/lang/invoke/MethodHandle" ∧ y.cls ≠ "java/lang/invoke/VarHandle") (eT : T.heap = h) (hM : MetFree l y (head1 [Jvm.Cond.code y bytes maxL none] rm) (fun a U => a = as ∧ Z.Warmed39 U.vm ∧ U.heap = h) (fun _ _ _ _ _ => True) (fun _ U o U' => ∃ v L, o = .returned v ∧ Q' v U'.heap L ∧ FrameEnd U o U' L rm.cells rm.slots)) (b : Addr) (argsL rest : List Value) (W : Nat) (has : (.ref b :: argsL : List Value).toArray = as) (hlen : ∀ sig, parseMethodDescriptor y.desc = some sig → argsL.length = sig.parameters.length) (hst : st = argsL.reverse ++ .ref b :: rest) (hW : (rest.map fun v => v.category).sum ≤ W) (hf : rm.frames + 1 ≤ R.frames) (hlo : W + (maxL + 11) + rm.locals ≤ R.locals) (hcl : cells + rm.cells ≤ R.cells) (hsl : slots + rm.slots ≤ R.slots) (hsz : Ls.size = c.maxLocals) (hd : decode c.code pc = .ok (.invokespecial i, 3)) (k : ∀ T' L v, Stand p l e R s m args below meth c T' (locs ++ L) (cells + rm.cells) (slots + rm.slots) → Q' v T'.heap L → Go p e below s Q rc rs (T'.setTop (mkF m (pc + 3) Ls (v.toList ++ rest)))) : Go p e below s Q rc rs (T.setTop (mkF m pc Ls st)) := by
  subst hst has
  obtain ⟨_, _, ⟨T', L', k', n'⟩, -, X', ⟨Lc, hQ, e1, e2, e3⟩, stp⟩ := X.specialBack hx (y := y) hy1 hown (mvT hZ w1) (mvT hZ w2) (mvT hZ w4) hy (backOf (W := W) hM hZ w4 w3 hf hlo) (g := mkF m pc Ls (argsL.reverse ++ .ref b :: rest)) rfl hsz (Steps.refl _) (a := b) (argsL := argsL) (rest := rest) hlen rfl (by show 2 * 0 + _ ≤ _; omega) hd (fun _ _ => ⟨rfl, eT, hcl, hsl⟩)
  dsimp only [Pt.U, Pt.locs, Pt.cells, Pt.slots] at X' e1 e2 e3 stp hQ
  subst e1 e2 e3
  exact (k _ _ _ X' hQ).by fun t k => stp.trans k
theorem g_callV (X : Stand p l e R s m args below meth c T locs cells slots) (hx : p.tables.exec = Jvm.exec) (hZ : Z.Warmed39 s.vm) {own C : String} {i : Nat} {y : MethodName} {bytes : ByteArray} {maxL : Nat} {ret : Option FieldType} {rm : Room} {as : Array Value} {Q' : Option Value → Heap → List Loc → Prop} (hown : s.vm.findClass own = some m.cls) (w1 : (Jvm.Cond.methodLink own i y).before a0 Z = true) (w2 : (Jvm.Cond.declares y).before a0 Z = true) (w5 : (Jvm.Cond.selects C y y).before a0 Z = true) (w6 : (Jvm.Cond.instanceMethod y).before a0 Z = true) (w3 : (Jvm.Cond.initialized y.cls).before a0 Z = true) (w4 : (Jvm.Cond.code y bytes maxL ret).before a0 Z = true) (hy : y.cls ≠ "java/lang/invoke/MethodHandle" ∧ y.cls ≠ "java/lang/invoke/VarHandle") (eT : T.heap = h) (b : Addr) (E : Exa Z h b C) (hM : MetFree l y (head1 [Jvm.Cond.code y bytes maxL ret] rm) (fun a U => a = as ∧ Z.Warmed39 U.vm ∧ U.heap = h) (fun _ _ _ _ _ => True) (fun _ U o U' => ∃ v L, o = .returned v ∧ Q' v U'.heap L ∧ FrameEnd U o U' L rm.cells rm.slots)) (argsL rest : List Value) (W : Nat) (has : (.ref b :: argsL : List Value).toArray = as) (hlen : ∀ sig, parseMethodDescriptor y.desc = some sig → argsL.length = sig.parameters.length) (hst : st = argsL.reverse ++ .ref b :: rest) (hW : (rest.map fun v => v.category).sum ≤ W) (hf : rm.frames + 1 ≤ R.frames) (hlo : W + (maxL + 11) + rm.locals ≤ R.locals) (hcl : cells + rm.cells ≤ R.cells) (hsl : slots + rm.slots ≤ R.slots) (hsz : Ls.size = c.maxLocals) (hd : decode c.code pc = .ok (.invokevirtual i, 3)) (k : ∀ T' L v, Stand p l e R s m args below meth c T' (locs ++ L) (cells + rm.cells) (slots + rm.slots) → Q' v T'.heap L → Go p e below s Q rc rs (T'.setTop (mkF m (pc + 3) Ls (v.toList ++ rest)))) : Go p e below s Q rc rs (T.setTop (mkF m pc Ls st)) := by
  subst hst has
  obtain ⟨cq, kq, qa, qb, qc⟩ := isOf hZ eT E
  obtain ⟨_, _, ⟨T', L', k', n'⟩, -, X', ⟨Lc, hQ, e1, e2, e3⟩, stp⟩ := X.virtualBack hx (y := y) (z := y) hown (mvT hZ w1) (mvT hZ w2) (notFace_of_selects (args := #[]) (mvT hZ w5)) (mvT hZ w5) (mvT hZ w6) hy (backOf (W := W) hM hZ w4 w3 hf hlo) qa qc (g := mkF m pc Ls (argsL.reverse ++ .ref b :: rest)) rfl hsz (Steps.refl _) (argsL := argsL) (rest := rest) hlen rfl (by show 2 * 0 + _ ≤ _; omega) hd (fun _ _ => ⟨rfl, eT, hcl, hsl⟩)
  dsimp only [Pt.U, Pt.locs, Pt.cells, Pt.slots] at X' e1 e2 e3 stp hQ
  subst e1 e2 e3
  exact (k _ _ _ X' hQ).by fun t k => stp.trans k
theorem g_callP (X : Stand p l e R s m args below meth c T locs cells slots) (hx : p.tables.exec = Jvm.exec) (hZ : Z.Warmed39 s.vm) {own C : String} {i : Nat} {y : MethodName} {bytes : ByteArray} {maxL : Nat} {ret : Option FieldType} {rm : Room} {as : Array Value} {Q' : Option Value → Heap → List Loc → Prop} (hown : s.vm.findClass own = some m.cls) (w1 : (Jvm.Cond.methodLink own i y).before a0 Z = true) (w2 : (Jvm.Cond.instanceMethod y).before a0 Z = true) (w5 : (Jvm.Cond.selects y.cls y y).before a0 Z = true) (w6 : (Jvm.Cond.privateMethod y).before a0 Z = true) (w3 : (Jvm.Cond.initialized y.cls).before a0 Z = true) (w4 : (Jvm.Cond.code y bytes maxL ret).before a0 Z = true) (hy : y.cls ≠ "java/lang/invoke/MethodHandle" ∧ y.cls ≠ "java/lang/invoke/VarHandle") (eT : T.heap = h) (b : Addr) (E : Exa Z h b C) (hM : MetFree l y (head1 [Jvm.Cond.code y bytes maxL ret] rm) (fun a U => a = as ∧ Z.Warmed39 U.vm ∧ U.heap = h) (fun _ _ _ _ _ => True) (fun _ U o U' => ∃ v L, o = .returned v ∧ Q' v U'.heap L ∧ FrameEnd U o U' L rm.cells rm.slots)) (argsL rest : List Value) (W : Nat) (has : (.ref b :: argsL : List Value).toArray = as) (hlen : ∀ sig, parseMethodDescriptor y.desc = some sig → argsL.length = sig.parameters.length) (hst : st = argsL.reverse ++ .ref b :: rest) (hW : (rest.map fun v => v.category).sum ≤ W) (hf : rm.frames + 1 ≤ R.frames) (hlo : W + (maxL + 11) + rm.locals ≤ R.locals) (hcl : cells + rm.cells ≤ R.cells) (hsl : slots + rm.slots ≤ R.slots) (hsz : Ls.size = c.maxLocals) (hd : decode c.code pc = .ok (.invokevirtual i, 3)) (k : ∀ T' L v, Stand p l e R s m args below meth c T' (locs ++ L) (cells + rm.cells) (slots + rm.slots) → Q' v T'.heap L → Go p e below s Q rc rs (T'.setTop (mkF m (pc + 3) Ls (v.toList ++ rest)))) : Go p e below s Q rc rs (T.setTop (mkF m pc Ls st)) := by
  subst hst has
  obtain ⟨cq, q, q'⟩ := E.cell
  obtain ⟨_, _, ⟨T', L', k', n'⟩, -, X', ⟨Lc, hQ, e1, e2, e3⟩, stp⟩ := X.privateBack hx (y := y) hown (mvT hZ w1) (mvT hZ w2) (mvT hZ w5) (Cond.privateMethod_at (mvP hZ w6 (args := #[]))) (mvT hZ w4) hy (backOf (W := W) hM hZ w4 w3 hf hlo) (g := mkF m pc Ls (argsL.reverse ++ .ref b :: rest)) rfl hsz (Steps.refl _) (a := b) (by rw [eT]; exact q) q' (argsL := argsL) (rest := rest) hlen rfl (by show 2 * 0 + _ ≤ _; omega) hd (fun _ _ => ⟨rfl, eT, hcl, hsl⟩)
  dsimp only [Pt.U, Pt.locs, Pt.cells, Pt.slots] at X' e1 e2 e3 stp hQ
  subst e1 e2 e3
  exact (k _ _ _ X' hQ).by fun t k => stp.trans k
theorem g_initO (X : Stand p l e R s m args below meth c T locs cells slots) (hx : p.tables.exec = Jvm.exec) (hZ : Z.Warmed39 s.vm) {own : String} {i : Nat} (hown : s.vm.findClass own = some m.cls) (w1 : (Jvm.Cond.methodLink own i Lib.objectInit).before a0 Z = true) (w2 : (Jvm.Cond.instanceMethod Lib.objectInit).before a0 Z = true) (w3 : (Jvm.Cond.code Lib.objectInit ⟨#[0xb1]⟩ 1 none).before a0 Z = true) (eT : T.heap = h) {b : Addr} (pc' : Nat) (hsz : Ls.size = c.maxLocals) (hd : decode c.code pc = .ok (.invokespecial i, 3)) (hf : 1 ≤ R.frames) (W : Nat) (hW : (st.map fun v => v.category).sum ≤ W) (hlo : W + 12 ≤ R.locals) (hp : pc + 3 = pc') (k : ∀ T', Stand p l e R s m args below meth c T' locs cells slots → T'.heap = h → Go p e below s Q rc rs (T'.setTop (mkF m pc' Ls st))) : Go p e below s Q rc rs (T.setTop (mkF m pc Ls (.ref b :: st))) := by
  subst hp
  obtain ⟨T', X', e', stp⟩ := initO X hx hZ hown w1 w2 w3 eT (g := mkF m pc Ls (.ref b :: st)) rfl hsz rfl hd hf (W := W) (by show 2 * 0 + _ ≤ _; omega) hlo
  exact (k _ X' e').by stp
theorem g_getF (X : Stand p l e R s m args below meth c T locs cells slots) (hx : p.tables.exec = Jvm.exec) (hZ : Z.Warmed39 s.vm) {own R0 O n d : String} {i : Nat} (hown : s.vm.findClass own = some m.cls) (w : (Jvm.Cond.fieldLink own i R0 n d).before a0 Z = true) (via : Via Z R0 O n d) (eT : T.heap = h) {b : Addr} {v : Value} (F : Fld Z h b O n d v) (pc' : Nat) (hd : decode c.code pc = .ok (.getfield i, 3)) (hp : pc + 3 = pc') (k : ∀ T', Stand p l e R s m args below meth c T' locs cells slots → T'.heap = h → Go p e below s Q rc rs (T'.setTop (mkF m pc' Ls (v :: st)))) : Go p e below s Q rc rs (T.setTop (mkF m pc Ls (.ref b :: st))) := by
  subst hp
  obtain ⟨T', X', e', stp⟩ := getF X hx hZ hown (host := "") (Or.inl w) via eT F (g := mkF m pc Ls (.ref b :: st)) rfl rfl hd
  exact (k _ X' e').by stp
theorem g_putF (X : Stand p l e R s m args below meth c T locs cells slots) (hx : p.tables.exec = Jvm.exec) (hZ : Z.Warmed39 s.vm) {own R0 O n d C : String} {i kk : Nat} {ty : FieldType} (hown : s.vm.findClass own = some m.cls) (w : (Jvm.Cond.fieldLink own i R0 n d).before a0 Z = true) (via : Via Z R0 O n d) (eT : T.heap = h) {b : Addr} {v old : Value} (F : Fld Z h b O n d old) (E : Exa Z h b C) (L : (Jvm.Cond.lays C O n d).before a0 Z = true ∨ ((Jvm.Cond.laysFinal C O n d).before a0 Z = true ∧ own = O ∧ meth.name = "<init>")) (wi : (Jvm.Cond.instantiable C kk).before a0 Z = true) (hty : parseFieldDescriptor d = some ty) (hn : narrow ty v = v) (hf : fits ty v = true) (pc' : Nat) (hd : decode c.code pc = .ok (.putfield i, 3)) (hp : pc + 3 = pc') (k : ∀ T' h', Stand p l e R s m args below meth c T' (locs ++ [⟨b, Jvm.RoadKit.slotOf Z O n d⟩]) cells slots → T'.heap = h' → Wr h h' b (Jvm.RoadKit.slotOf Z O n d) v → Go p e below s Q rc rs (T'.setTop (mkF m pc' Ls st))) : Go p e below s Q rc rs (T.setTop (mkF m pc Ls (v :: .ref b :: st))) := by
  subst hp
  obtain ⟨T', h', X', e', W', stp⟩ := putF X hx hZ hown (host := "") (Or.inl w) via eT F E L wi hty hn hf (g := mkF m pc Ls (v :: .ref b :: st)) rfl rfl hd
  exact (k _ _ X' e' W').by stp
theorem g_new (X : Stand p l e R s m args below meth c T locs cells slots) (hx : p.tables.exec = Jvm.exec) (hZ : Z.Warmed39 s.vm) {own C : String} {i n : Nat} (hown : s.vm.findClass own = some m.cls) (w : (Jvm.Cond.classLink own i C).before a0 Z = true) (wi : (Jvm.Cond.instantiable C n).before a0 Z = true) (wz : (Jvm.Cond.initialized C).before a0 Z = true) (eT : T.heap = h) (pc' : Nat) (hd : decode c.code pc = .ok (.new i, 3)) (hcl : cells + 1 ≤ R.cells) (hsl : slots + n ≤ R.slots) (hp : pc + 3 = pc') (k : ∀ T' h' b, b = h.size → Stand p l e R s m args below meth c T' locs (cells + 1) (slots + n) → T'.heap = h' → Ext h h' → Exa Z h' b C → (∀ {O nm d : String} {ty : FieldType}, Laid Z a0 C O nm d → parseFieldDescriptor d = some ty → Fld Z h' b O nm d (defaultValue ty)) → Go p e below s Q rc rs (T'.setTop (mkF m pc' Ls (.ref b :: st)))) : Go p e below s Q rc rs (T.setTop (mkF m pc Ls st)) := by
  subst hp
  obtain ⟨T', h', X', e', E', A', D', -, stp⟩ := newO X hx hZ hown w wi wz eT (g := mkF m pc Ls st) rfl hd hcl hsl
  exact (k _ _ _ rfl X' e' E' A' D').by stp
/-- an array of n places whose j-th holds f j -/
def AV (Z : State) (h : Heap) (a : Addr) (ty : FieldType) (n : Nat) (f : Nat → Value) : Prop := ∃ c : Cell, Arr Z h a c ty ∧ c.slots.size = n ∧ n < 2 ^ 31 ∧ ∀ j, j < n → c.slots[j]? = some (f j)
theorem AV.ext {h' : Heap} {a : Addr} {ty : FieldType} {n : Nat} {f : Nat → Value} (F : AV Z h a ty n f) (E : Ext h h') : AV Z h' a ty n f := by obtain ⟨c, A, r⟩ := F; exact ⟨c, A.ext E, r⟩
theorem AV.other {h' : Heap} {a b : Addr} {ty : FieldType} {n sl : Nat} {f : Nat → Value} {v : Value} (F : AV Z h a ty n f) (W : Wr h h' b sl v) (q : a ≠ b) : AV Z h' a ty n f := by obtain ⟨c, A, r⟩ := F; exact ⟨c, A.other W q, r⟩
theorem AV.keep {h' : Heap} {a : Addr} {ws : List Addr} {ty : FieldType} {n : Nat} {f : Nat → Value} (F : AV Z h a ty n f) (K : Keep h h' ws) (q : a ∉ ws) : AV Z h' a ty n f := by obtain ⟨c, A, r⟩ := F; exact ⟨c, ⟨K.2.1 a c A.1 q, A.2⟩, r⟩
theorem AV.lt {a : Addr} {ty : FieldType} {n : Nat} {f : Nat → Value} (F : AV Z h a ty n f) : a < h.size := by obtain ⟨c, A, -⟩ := F; exact A.lt
theorem AV.small {a : Addr} {ty : FieldType} {n : Nat} {f : Nat → Value} (F : AV Z h a ty n f) : n < 2 ^ 31 := by obtain ⟨c, -, -, q, -⟩ := F; exact q
theorem AV.congr {a : Addr} {ty : FieldType} {n : Nat} {f g : Nat → Value} (F : AV Z h a ty n f) (q : ∀ j, j < n → f j = g j) : AV Z h a ty n g := by obtain ⟨c, A, r1, r2, r3⟩ := F; exact ⟨c, A, r1, r2, fun j hj => by rw [r3 j hj, q j hj]⟩
theorem own_idx {j : Int32} {i : Nat} (q : j.toInt = i) : ¬ j < 0 ∧ j.toNatClampNeg = i := by
  refine ⟨?_, ?_⟩
  · rw [Int32.lt_iff_toInt_lt, q]; simp
  · show j.toInt.toNat = i; omega
theorem own_in {j : Int32} {i : Nat} {cl : Cell} (q : j.toInt = i) (hi : i < cl.slots.size) : ¬ (j < 0 ∨ cl.slots.size ≤ j.toNatClampNeg) := by
  obtain ⟨q1, q2⟩ := own_idx q
  rintro (z | z)
  · exact q1 z
  · omega
def upd {α : Type} (g : Nat → α) (j : Nat) (x : α) : Nat → α := fun q => if q = j then x else g q
def AI (Z : State) (h : Heap) (a : Addr) (n : Nat) (g : Nat → Int32) : Prop := AV Z h a .int n (fun j => .int (g j))
def AJ (Z : State) (h : Heap) (a : Addr) (n : Nat) (g : Nat → Int64) : Prop := AV Z h a .long n (fun j => .long (g j))
def AB (Z : State) (h : Heap) (a : Addr) (n : Nat) (g : Nat → Int32) : Prop := AV Z h a .byte n (fun j => .int (g j))
theorem nm0 {a : Addr} : a ∉ ([] : List Addr) := nofun
theorem nm1 {a b : Addr} {ws : List Addr} (q : a ≠ b) (r : a ∉ ws) : a ∉ b :: ws := fun z => by
  rcases List.mem_cons.mp z with z | z
  · exact q z
  · exact r z
theorem AI.ext {h' : Heap} {a : Addr} {n : Nat} {g : Nat → Int32} (F : AI Z h a n g) (E : Ext h h') : AI Z h' a n g := AV.ext F E
theorem AI.other {h' : Heap} {a b : Addr} {n sl : Nat} {g : Nat → Int32} {v : Value} (F : AI Z h a n g) (W : Wr h h' b sl v) (q : a ≠ b) : AI Z h' a n g := AV.other F W q
theorem AI.keep {h' : Heap} {a : Addr} {ws : List Addr} {n : Nat} {g : Nat → Int32} (F : AI Z h a n g) (K : Keep h h' ws) (q : a ∉ ws) : AI Z h' a n g := AV.keep F K q
theorem AI.lt {a : Addr} {n : Nat} {g : Nat → Int32} (F : AI Z h a n g) : a < h.size := AV.lt F
theorem AI.small {a : Addr} {n : Nat} {g : Nat → Int32} (F : AI Z h a n g) : n < 2 ^ 31 := AV.small F
theorem AI.congr {a : Addr} {n : Nat} {g g' : Nat → Int32} (F : AI Z h a n g) (q : ∀ j, j < n → g j = g' j) : AI Z h a n g' := AV.congr F fun j hj => by rw [q j hj]
theorem AJ.ext {h' : Heap} {a : Addr} {n : Nat} {g : Nat → Int64} (F : AJ Z h a n g) (E : Ext h h') : AJ Z h' a n g := AV.ext F E
theorem AJ.other {h' : Heap} {a b : Addr} {n sl : Nat} {g : Nat → Int64} {v : Value} (F : AJ Z h a n g) (W : Wr h h' b sl v) (q : a ≠ b) : AJ Z h' a n g := AV.other F W q
theorem AJ.keep {h' : Heap} {a : Addr} {ws : List Addr} {n : Nat} {g : Nat → Int64} (F : AJ Z h a n g) (K : Keep h h' ws) (q : a ∉ ws) : AJ Z h' a n g := AV.keep F K q
theorem AJ.lt {a : Addr} {n : Nat} {g : Nat → Int64} (F : AJ Z h a n g) : a < h.size := AV.lt F
theorem AJ.small {a : Addr} {n : Nat} {g : Nat → Int64} (F : AJ Z h a n g) : n < 2 ^ 31 := AV.small F
theorem AJ.congr {a : Addr} {n : Nat} {g g' : Nat → Int64} (F : AJ Z h a n g) (q : ∀ j, j < n → g j = g' j) : AJ Z h a n g' := AV.congr F fun j hj => by rw [q j hj]
theorem AB.ext {h' : Heap} {a : Addr} {n : Nat} {g : Nat → Int32} (F : AB Z h a n g) (E : Ext h h') : AB Z h' a n g := AV.ext F E
theorem AB.other {h' : Heap} {a b : Addr} {n sl : Nat} {g : Nat → Int32} {v : Value} (F : AB Z h a n g) (W : Wr h h' b sl v) (q : a ≠ b) : AB Z h' a n g := AV.other F W q
theorem AB.keep {h' : Heap} {a : Addr} {ws : List Addr} {n : Nat} {g : Nat → Int32} (F : AB Z h a n g) (K : Keep h h' ws) (q : a ∉ ws) : AB Z h' a n g := AV.keep F K q
theorem AB.lt {a : Addr} {n : Nat} {g : Nat → Int32} (F : AB Z h a n g) : a < h.size := AV.lt F
theorem AB.small {a : Addr} {n : Nat} {g : Nat → Int32} (F : AB Z h a n g) : n < 2 ^ 31 := AV.small F
theorem AB.congr {a : Addr} {n : Nat} {g g' : Nat → Int32} (F : AB Z h a n g) (q : ∀ j, j < n → g j = g' j) : AB Z h a n g' := AV.congr F fun j hj => by rw [q j hj]
theorem g_iaload (X : Stand p l e R s m args below meth c T locs cells slots) (hx : p.tables.exec = Jvm.exec) (hZ : Z.Warmed39 s.vm) (eT : T.heap = h) {b : Addr} {n : Nat} {g : Nat → Int32} (A : AI Z h b n g) {j : Int32} (jn : Nat) (hj : j.toInt = jn) (hlt : jn < n) (pc' : Nat) (hd : decode c.code pc = .ok (.iaload, 1)) (hp : pc + 1 = pc') (k : Go p e below s Q rc rs (T.setTop (mkF m pc' Ls (.int (g jn) :: st)))) : Go p e below s Q rc rs (T.setTop (mkF m pc Ls (.int j :: .ref b :: st))) := by
  subst hp
  obtain ⟨cl, A1, A2, A3, A4⟩ := A
  exact k.by fun t k => X.iaload hx (j := j) (by rw [eT]; exact A1.1) (State.isArrayOf_alike hZ.alike A1.2.1) A1.2.2 (own_in hj (by omega)) (by rw [(own_idx hj).2]; exact A4 _ hlt) (g := mkF m pc Ls (.int j :: .ref b :: st)) rfl rfl hd t k
theorem g_laload (X : Stand p l e R s m args below meth c T locs cells slots) (hx : p.tables.exec = Jvm.exec) (hZ : Z.Warmed39 s.vm) (eT : T.heap = h) {b : Addr} {n : Nat} {g : Nat → Int64} (A : AJ Z h b n g) {j : Int32} (jn : Nat) (hj : j.toInt = jn) (hlt : jn < n) (pc' : Nat) (hd : decode c.code pc = .ok (.laload, 1)) (hp : pc + 1 = pc') (k : Go p e below s Q rc rs (T.setTop (mkF m pc' Ls (.long (g jn) :: st)))) : Go p e below s Q rc rs (T.setTop (mkF m pc Ls (.int j :: .ref b :: st))) := by
  subst hp
  obtain ⟨cl, A1, A2, A3, A4⟩ := A
  exact k.by fun t k => X.laload hx (j := j) (by rw [eT]; exact A1.1) (State.isArrayOf_alike hZ.alike A1.2.1) A1.2.2 (own_in hj (by omega)) (by rw [(own_idx hj).2]; exact A4 _ hlt) (g := mkF m pc Ls (.int j :: .ref b :: st)) rfl rfl hd t k
theorem g_baload (X : Stand p l e R s m args below meth c T locs cells slots) (hx : p.tables.exec = Jvm.exec) (hZ : Z.Warmed39 s.vm) (eT : T.heap = h) {b : Addr} {n : Nat} {g : Nat → Int32} (A : AB Z h b n g) {j : Int32} (jn : Nat) (hj : j.toInt = jn) (hlt : jn < n) (pc' : Nat) (hd : decode c.code pc = .ok (.baload, 1)) (hp : pc + 1 = pc') (k : Go p e below s Q rc rs (T.setTop (mkF m pc' Ls (.int (g jn) :: st)))) : Go p e below s Q rc rs (T.setTop (mkF m pc Ls (.int j :: .ref b :: st))) := by
  subst hp
  obtain ⟨cl, A1, A2, A3, A4⟩ := A
  exact k.by fun t k => X.baloadBytes hx (j := j) (by rw [eT]; exact A1.1) (State.isArrayOf_alike hZ.alike A1.2.1) A1.2.2 (own_in hj (by omega)) (by rw [(own_idx hj).2]; exact A4 _ hlt) (g := mkF m pc Ls (.int j :: .ref b :: st)) rfl rfl hd t k
theorem g_iastore (X : Stand p l e R s m args below meth c T locs cells slots) (hx : p.tables.exec = Jvm.exec) (hZ : Z.Warmed39 s.vm) (eT : T.heap = h) {b : Addr} {n : Nat} {g : Nat → Int32} (A : AI Z h b n g) {j : Int32} {x : Int32} (jn : Nat) (hj : j.toInt = jn) (hlt : jn < n) (pc' : Nat) (hd : decode c.code pc = .ok (.iastore, 1)) (hp : pc + 1 = pc') (k : ∀ T' h', Stand p l e R s m args below meth c T' (locs ++ [⟨b, jn⟩]) cells slots → T'.heap = h' → Wr h h' b jn (.int x) → AI Z h' b n (upd g jn x) → Go p e below s Q rc rs (T'.setTop (mkF m pc' Ls st))) : Go p e below s Q rc rs (T.setTop (mkF m pc Ls (.int x :: .int j :: .ref b :: st))) := by
  subst hp
  obtain ⟨cl, A1, A2, A3, A4⟩ := A
  obtain ⟨T', h', X', e', W', stp⟩ := stI X hx hZ eT A1 (j := j) (x := x) (own_in hj (by omega)) (g := mkF m pc Ls (.int x :: .int j :: .ref b :: st)) rfl rfl hd
  rw [(own_idx hj).2] at X' W'
  refine (k _ _ X' e' W' ⟨_, A1.same W', by rw [sz_set]; exact A2, A3, fun q hq => ?_⟩).by stp
  by_cases z : q = jn
  · subst z; simp [Cell.setSlot, A2, hq, upd]; try rfl
  · simp only [upd, z, if_false]; rw [← A4 q hq]; simp only [Cell.setSlot]; rw [Array.getElem?_setIfInBounds_ne (Ne.symm z)]
theorem g_lastore (X : Stand p l e R s m args below meth c T locs cells slots) (hx : p.tables.exec = Jvm.exec) (hZ : Z.Warmed39 s.vm) (eT : T.heap = h) {b : Addr} {n : Nat} {g : Nat → Int64} (A : AJ Z h b n g) {j : Int32} {x : Int64} (jn : Nat) (hj : j.toInt = jn) (hlt : jn < n) (pc' : Nat) (hd : decode c.code pc = .ok (.lastore, 1)) (hp : pc + 1 = pc') (k : ∀ T' h', Stand p l e R s m args below meth c T' (locs ++ [⟨b, jn⟩]) cells slots → T'.heap = h' → Wr h h' b jn (.long x) → AJ Z h' b n (upd g jn x) → Go p e below s Q rc rs (T'.setTop (mkF m pc' Ls st))) : Go p e below s Q rc rs (T.setTop (mkF m pc Ls (.long x :: .int j :: .ref b :: st))) := by
  subst hp
  obtain ⟨cl, A1, A2, A3, A4⟩ := A
  obtain ⟨T', h', X', e', W', stp⟩ := stJ X hx hZ eT A1 (j := j) (x := x) (own_in hj (by omega)) (g := mkF m pc Ls (.long x :: .int j :: .ref b :: st)) rfl rfl hd
  rw [(own_idx hj).2] at X' W'
  refine (k _ _ X' e' W' ⟨_, A1.same W', by rw [sz_set]; exact A2, A3, fun q hq => ?_⟩).by stp
  by_cases z : q = jn
  · subst z; simp [Cell.setSlot, A2, hq, upd]; try rfl
  · simp only [upd, z, if_false]; rw [← A4 q hq]; simp only [Cell.setSlot]; rw [Array.getElem?_setIfInBounds_ne (Ne.symm z)]
theorem g_bastore (X : Stand p l e R s m args below meth c T locs cells slots) (hx : p.tables.exec = Jvm.exec) (hZ : Z.Warmed39 s.vm) (eT : T.heap = h) {b : Addr} {n : Nat} {g : Nat → Int32} (A : AB Z h b n g) {j : Int32} {x : Int32} (jn : Nat) (hj : j.toInt = jn) (hlt : jn < n) (pc' : Nat) (hd : decode c.code pc = .ok (.bastore, 1)) (hp : pc + 1 = pc') (k : ∀ T' h', Stand p l e R s m args below meth c T' (locs ++ [⟨b, jn⟩]) cells slots → T'.heap = h' → Wr h h' b jn (.int (nar .byte x)) → AB Z h' b n (upd g jn (i2bI x)) → Go p e below s Q rc rs (T'.setTop (mkF m pc' Ls st))) : Go p e below s Q rc rs (T.setTop (mkF m pc Ls (.int x :: .int j :: .ref b :: st))) := by
  subst hp
  obtain ⟨cl, A1, A2, A3, A4⟩ := A
  obtain ⟨T', h', X', e', W', stp⟩ := stB X hx hZ eT A1 (j := j) (x := x) (own_in hj (by omega)) (g := mkF m pc Ls (.int x :: .int j :: .ref b :: st)) rfl rfl hd
  rw [(own_idx hj).2] at X' W'
  refine (k _ _ X' e' W' ⟨_, A1.same W', by rw [sz_set]; exact A2, A3, fun q hq => ?_⟩).by stp
  by_cases z : q = jn
  · subst z; simp [Cell.setSlot, A2, hq, upd]; try rfl
  · simp only [upd, z, if_false]; rw [← A4 q hq]; simp only [Cell.setSlot]; rw [Array.getElem?_setIfInBounds_ne (Ne.symm z)]
theorem g_arraylengthI (X : Stand p l e R s m args below meth c T locs cells slots) (hx : p.tables.exec = Jvm.exec) (hZ : Z.Warmed39 s.vm) (eT : T.heap = h) {b : Addr} {n : Nat} {g : Nat → Int32} (A : AI Z h b n g) (v : Int32) (hv : n.toInt32 = v) (pc' : Nat) (hd : decode c.code pc = .ok (.arraylength, 1)) (hp : pc + 1 = pc') (k : Go p e below s Q rc rs (T.setTop (mkF m pc' Ls (.int v :: st)))) : Go p e below s Q rc rs (T.setTop (mkF m pc Ls (.ref b :: st))) := by
  subst hp hv
  obtain ⟨cl, A1, A2, A3, A4⟩ := A
  subst A2
  exact k.by fun t k => X.arraylength hx (by rw [eT]; exact A1.1) (State.isArrayOf_alike hZ.alike A1.2.1) (g := mkF m pc Ls (.ref b :: st)) rfl rfl hd t k
theorem g_arraylengthJ (X : Stand p l e R s m args below meth c T locs cells slots) (hx : p.tables.exec = Jvm.exec) (hZ : Z.Warmed39 s.vm) (eT : T.heap = h) {b : Addr} {n : Nat} {g : Nat → Int64} (A : AJ Z h b n g) (v : Int32) (hv : n.toInt32 = v) (pc' : Nat) (hd : decode c.code pc = .ok (.arraylength, 1)) (hp : pc + 1 = pc') (k : Go p e below s Q rc rs (T.setTop (mkF m pc' Ls (.int v :: st)))) : Go p e below s Q rc rs (T.setTop (mkF m pc Ls (.ref b :: st))) := by
  subst hp hv
  obtain ⟨cl, A1, A2, A3, A4⟩ := A
  subst A2
  exact k.by fun t k => X.arraylength hx (by rw [eT]; exact A1.1) (State.isArrayOf_alike hZ.alike A1.2.1) (g := mkF m pc Ls (.ref b :: st)) rfl rfl hd t k
theorem g_arraylengthB (X : Stand p l e R s m args below meth c T locs cells slots) (hx : p.tables.exec = Jvm.exec) (hZ : Z.Warmed39 s.vm) (eT : T.heap = h) {b : Addr} {n : Nat} {g : Nat → Int32} (A : AB Z h b n g) (v : Int32) (hv : n.toInt32 = v) (pc' : Nat) (hd : decode c.code pc = .ok (.arraylength, 1)) (hp : pc + 1 = pc') (k : Go p e below s Q rc rs (T.setTop (mkF m pc' Ls (.int v :: st)))) : Go p e below s Q rc rs (T.setTop (mkF m pc Ls (.ref b :: st))) := by
  subst hp hv
  obtain ⟨cl, A1, A2, A3, A4⟩ := A
  subst A2
  exact k.by fun t k => X.arraylength hx (by rw [eT]; exact A1.1) (State.isArrayOf_alike hZ.alike A1.2.1) (g := mkF m pc Ls (.ref b :: st)) rfl rfl hd t k
theorem g_newarr (X : Stand p l e R s m args below meth c T locs cells slots) (hx : p.tables.exec = Jvm.exec) (hZ : Z.Warmed39 s.vm) {aty : ArrayType} (w : (Jvm.Cond.arrayClass (newarray.typeOf aty)).before a0 Z = true) (eT : T.heap = h) {n : Int32} (N cap : Nat) (hn : n.toInt = N) (hcap : N ≤ cap) (hb : cap * 8 ≤ 536870912) (pc' : Nat) (hd : decode c.code pc = .ok (.newarray aty, 2)) (hcl : cells + 1 ≤ R.cells) (hsl : slots + cap ≤ R.slots) (hp : pc + 2 = pc') (k : ∀ T' h' b, b = h.size → Stand p l e R s m args below meth c T' locs (cells + 1) (slots + cap) → T'.heap = h' → Ext h h' → AV Z h' b (newarray.typeOf aty) N (fun _ => defaultValue (newarray.typeOf aty)) → Go p e below s Q rc rs (T'.setTop (mkF m pc' Ls (.ref b :: st)))) : Go p e below s Q rc rs (T.setTop (mkF m pc Ls (.int n :: st))) := by
  subst hp
  obtain ⟨q1, q2⟩ := own_idx hn
  obtain ⟨T', h', kA, X', e', E', A', stp⟩ := newP X hx hZ w eT (g := mkF m pc Ls (.int n :: st)) rfl hd rfl q1 (cap := cap) (by rw [q2]; exact hcap) hb hcl hsl
  have hN : N < 2 ^ 31 := by have := n.toInt_lt; omega
  refine (k _ _ _ rfl X' e' E' ⟨_, A', by rw [sz_new, q2], hN, fun j hj => ?_⟩).by stp
  simp [newA, q2, hj]
theorem g_newarrayI (X : Stand p l e R s m args below meth c T locs cells slots) (hx : p.tables.exec = Jvm.exec) (hZ : Z.Warmed39 s.vm) (w : (Jvm.Cond.arrayClass .int).before a0 Z = true) (eT : T.heap = h) {n : Int32} (N cap : Nat) (hn : n.toInt = N) (hcap : N ≤ cap) (hb : cap * 8 ≤ 536870912) (pc' : Nat) (hd : decode c.code pc = .ok (.newarray .int, 2)) (hcl : cells + 1 ≤ R.cells) (hsl : slots + cap ≤ R.slots) (hp : pc + 2 = pc') (k : ∀ T' h' b, b = h.size → Stand p l e R s m args below meth c T' locs (cells + 1) (slots + cap) → T'.heap = h' → Ext h h' → AI Z h' b N (fun _ => (0 : Int32)) → Go p e below s Q rc rs (T'.setTop (mkF m pc' Ls (.ref b :: st)))) : Go p e below s Q rc rs (T.setTop (mkF m pc Ls (.int n :: st))) :=
  g_newarr X hx hZ (aty := .int) w eT N cap hn hcap hb pc' hd hcl hsl hp fun T' h' b q1 q2 q3 q4 q5 => k T' h' b q1 q2 q3 q4 q5
theorem g_newarrayJ (X : Stand p l e R s m args below meth c T locs cells slots) (hx : p.tables.exec = Jvm.exec) (hZ : Z.Warmed39 s.vm) (w : (Jvm.Cond.arrayClass .long).before a0 Z = true) (eT : T.heap = h) {n : Int32} (N cap : Nat) (hn : n.toInt = N) (hcap : N ≤ cap) (hb : cap * 8 ≤ 536870912) (pc' : Nat) (hd : decode c.code pc = .ok (.newarray .long, 2)) (hcl : cells + 1 ≤ R.cells) (hsl : slots + cap ≤ R.slots) (hp : pc + 2 = pc') (k : ∀ T' h' b, b = h.size → Stand p l e R s m args below meth c T' locs (cells + 1) (slots + cap) → T'.heap = h' → Ext h h' → AJ Z h' b N (fun _ => (0 : Int64)) → Go p e below s Q rc rs (T'.setTop (mkF m pc' Ls (.ref b :: st)))) : Go p e below s Q rc rs (T.setTop (mkF m pc Ls (.int n :: st))) :=
  g_newarr X hx hZ (aty := .long) w eT N cap hn hcap hb pc' hd hcl hsl hp fun T' h' b q1 q2 q3 q4 q5 => k T' h' b q1 q2 q3 q4 q5
theorem g_newarrayB (X : Stand p l e R s m args below meth c T locs cells slots) (hx : p.tables.exec = Jvm.exec) (hZ : Z.Warmed39 s.vm) (w : (Jvm.Cond.arrayClass .byte).before a0 Z = true) (eT : T.heap = h) {n : Int32} (N cap : Nat) (hn : n.toInt = N) (hcap : N ≤ cap) (hb : cap * 8 ≤ 536870912) (pc' : Nat) (hd : decode c.code pc = .ok (.newarray .byte, 2)) (hcl : cells + 1 ≤ R.cells) (hsl : slots + cap ≤ R.slots) (hp : pc + 2 = pc') (k : ∀ T' h' b, b = h.size → Stand p l e R s m args below meth c T' locs (cells + 1) (slots + cap) → T'.heap = h' → Ext h h' → AB Z h' b N (fun _ => (0 : Int32)) → Go p e below s Q rc rs (T'.setTop (mkF m pc' Ls (.ref b :: st)))) : Go p e below s Q rc rs (T.setTop (mkF m pc Ls (.int n :: st))) :=
  g_newarr X hx hZ (aty := .byte) w eT N cap hn hcap hb pc' hd hcl hsl hp fun T' h' b q1 q2 q3 q4 q5 => k T' h' b q1 q2 q3 q4 q5
end OwnKit
theorem own_ad (h : Int32) (h1 : 1 ≤ h.toInt) (h2 : h.toInt ≤ 1000000) : ¬ (64000 : Int32) < ((h - 1) / 1000000) + 1 := by
  have e1 : (1 : Int32).toInt = 1 := rfl
  have a := c_isub h 1; have r := rng32 (h - 1)
  have d := (c_idiv (h - 1) 1000000 1000000 rfl (by decide)).1 (by omega)
  have b := c_iadd ((h - 1) / 1000000) 1; have r2 := rng32 ((h - 1) / 1000000 + 1)
  rw [Int32.lt_iff_toInt_lt]
  show ¬ 64000 < ((h - 1) / 1000000 + 1).toInt
  omega
theorem own_nlt {a b : Int32} (h : b.toInt ≤ a.toInt) : ¬ a < b := by rw [Int32.lt_iff_toInt_lt]; omega
theorem d1_0 : decode prog_53_method_1_code 0 = .ok (.aload_n 0, 1) := by decide +kernel
theorem d1_1 : decode prog_53_method_1_code 1 = .ok (.invokespecial 1, 3) := by decide +kernel
theorem d1_4 : decode prog_53_method_1_code 4 = .ok (.iload_n 1, 1) := by decide +kernel
theorem d1_5 : decode prog_53_method_1_code 5 = .ok (.iconst 1, 1) := by decide +kernel
theorem d1_6 : decode prog_53_method_1_code 6 = .ok (.if_icmp .lt 9, 3) := by decide +kernel
theorem d1_9 : decode prog_53_method_1_code 9 = .ok (.iload_n 1, 1) := by decide +kernel
theorem d1_10 : decode prog_53_method_1_code 10 = .ok (.ldc 9, 2) := by decide +kernel
theorem d1_12 : decode prog_53_method_1_code 12 = .ok (.if_icmp .le 17, 3) := by decide +kernel
theorem d1_29 : decode prog_53_method_1_code 29 = .ok (.iload_n 2, 1) := by decide +kernel
theorem d1_30 : decode prog_53_method_1_code 30 = .ok (.iconst 1, 1) := by decide +kernel
theorem d1_31 : decode prog_53_method_1_code 31 = .ok (.if_icmp .lt 9, 3) := by decide +kernel
theorem d1_34 : decode prog_53_method_1_code 34 = .ok (.iload_n 2, 1) := by decide +kernel
theorem d1_35 : decode prog_53_method_1_code 35 = .ok (.ldc 19, 2) := by decide +kernel
theorem d1_37 : decode prog_53_method_1_code 37 = .ok (.if_icmp .le 17, 3) := by decide +kernel
theorem d1_54 : decode prog_53_method_1_code 54 = .ok (.iload_n 3, 1) := by decide +kernel
theorem d1_55 : decode prog_53_method_1_code 55 = .ok (.ifCond .ge 17, 3) := by decide +kernel
theorem d1_72 : decode prog_53_method_1_code 72 = .ok (.iload 5, 2) := by decide +kernel
theorem d1_74 : decode prog_53_method_1_code 74 = .ok (.iconst 1, 1) := by decide +kernel
theorem d1_75 : decode prog_53_method_1_code 75 = .ok (.if_icmp .ge 18, 3) := by decide +kernel
theorem d1_93 : decode prog_53_method_1_code 93 = .ok (.iload_n 1, 1) := by decide +kernel
theorem d1_94 : decode prog_53_method_1_code 94 = .ok (.iconst 1, 1) := by decide +kernel
theorem d1_95 : decode prog_53_method_1_code 95 = .ok (.isub, 1) := by decide +kernel
theorem d1_96 : decode prog_53_method_1_code 96 = .ok (.iload 5, 2) := by decide +kernel
theorem d1_98 : decode prog_53_method_1_code 98 = .ok (.idiv, 1) := by decide +kernel
theorem d1_99 : decode prog_53_method_1_code 99 = .ok (.iconst 1, 1) := by decide +kernel
theorem d1_100 : decode prog_53_method_1_code 100 = .ok (.iadd, 1) := by decide +kernel
theorem d1_101 : decode prog_53_method_1_code 101 = .ok (.istore 7, 2) := by decide +kernel
theorem d1_103 : decode prog_53_method_1_code 103 = .ok (.iload 7, 2) := by decide +kernel
theorem d1_105 : decode prog_53_method_1_code 105 = .ok (.ldc 23, 2) := by decide +kernel
theorem d1_107 : decode prog_53_method_1_code 107 = .ok (.if_icmp .le 21, 3) := by decide +kernel
theorem d1_128 : decode prog_53_method_1_code 128 = .ok (.ldc2_w 27, 3) := by decide +kernel
theorem d1_131 : decode prog_53_method_1_code 131 = .ok (.ldc2_w 29, 3) := by decide +kernel
theorem d1_134 : decode prog_53_method_1_code 134 = .ok (.iload_n 3, 1) := by decide +kernel
theorem d1_135 : decode prog_53_method_1_code 135 = .ok (.i2l, 1) := by decide +kernel
theorem d1_136 : decode prog_53_method_1_code 136 = .ok (.lmul, 1) := by decide +kernel
theorem d1_137 : decode prog_53_method_1_code 137 = .ok (.ladd, 1) := by decide +kernel
theorem d1_138 : decode prog_53_method_1_code 138 = .ok (.lstore 8, 2) := by decide +kernel
theorem d1_140 : decode prog_53_method_1_code 140 = .ok (.iload 4, 2) := by decide +kernel
theorem d1_142 : decode prog_53_method_1_code 142 = .ok (.i2l, 1) := by decide +kernel
theorem d1_143 : decode prog_53_method_1_code 143 = .ok (.lload 8, 2) := by decide +kernel
theorem d1_145 : decode prog_53_method_1_code 145 = .ok (.lcmp, 1) := by decide +kernel
theorem d1_146 : decode prog_53_method_1_code 146 = .ok (.ifCond .ge 22, 3) := by decide +kernel
theorem d1_168 : decode prog_53_method_1_code 168 = .ok (.iload 6, 2) := by decide +kernel
theorem d1_170 : decode prog_53_method_1_code 170 = .ok (.iconst 1, 1) := by decide +kernel
theorem d1_171 : decode prog_53_method_1_code 171 = .ok (.if_icmp .lt 10, 3) := by decide +kernel
theorem d1_174 : decode prog_53_method_1_code 174 = .ok (.iload 6, 2) := by decide +kernel
theorem d1_176 : decode prog_53_method_1_code 176 = .ok (.ldc 34, 2) := by decide +kernel
theorem d1_178 : decode prog_53_method_1_code 178 = .ok (.if_icmp .le 18, 3) := by decide +kernel
theorem d1_196 : decode prog_53_method_1_code 196 = .ok (.aload_n 0, 1) := by decide +kernel
theorem d1_197 : decode prog_53_method_1_code 197 = .ok (.iload_n 1, 1) := by decide +kernel
theorem d1_198 : decode prog_53_method_1_code 198 = .ok (.putfield 36, 3) := by decide +kernel
theorem d1_201 : decode prog_53_method_1_code 201 = .ok (.aload_n 0, 1) := by decide +kernel
theorem d1_202 : decode prog_53_method_1_code 202 = .ok (.iload_n 2, 1) := by decide +kernel
theorem d1_203 : decode prog_53_method_1_code 203 = .ok (.putfield 40, 3) := by decide +kernel
theorem d1_206 : decode prog_53_method_1_code 206 = .ok (.aload_n 0, 1) := by decide +kernel
theorem d1_207 : decode prog_53_method_1_code 207 = .ok (.iload_n 3, 1) := by decide +kernel
theorem d1_208 : decode prog_53_method_1_code 208 = .ok (.putfield 43, 3) := by decide +kernel
theorem d1_211 : decode prog_53_method_1_code 211 = .ok (.aload_n 0, 1) := by decide +kernel
theorem d1_212 : decode prog_53_method_1_code 212 = .ok (.iload 4, 2) := by decide +kernel
theorem d1_214 : decode prog_53_method_1_code 214 = .ok (.putfield 46, 3) := by decide +kernel
theorem d1_217 : decode prog_53_method_1_code 217 = .ok (.aload_n 0, 1) := by decide +kernel
theorem d1_218 : decode prog_53_method_1_code 218 = .ok (.iload 5, 2) := by decide +kernel
theorem d1_220 : decode prog_53_method_1_code 220 = .ok (.putfield 49, 3) := by decide +kernel
theorem d1_223 : decode prog_53_method_1_code 223 = .ok (.aload_n 0, 1) := by decide +kernel
theorem d1_224 : decode prog_53_method_1_code 224 = .ok (.iload 6, 2) := by decide +kernel
theorem d1_226 : decode prog_53_method_1_code 226 = .ok (.putfield 52, 3) := by decide +kernel
theorem d1_229 : decode prog_53_method_1_code 229 = .ok (.aload_n 0, 1) := by decide +kernel
theorem d1_230 : decode prog_53_method_1_code 230 = .ok (.iload 7, 2) := by decide +kernel
theorem d1_232 : decode prog_53_method_1_code 232 = .ok (.putfield 55, 3) := by decide +kernel
theorem d1_235 : decode prog_53_method_1_code 235 = .ok (.return_, 1) := by decide +kernel
theorem pn_1 : plainName "com/example/itinerant_spider/itinerantspider/simweb/SyntheticWeb" = true := by first | (simp [plainName, overriddenIn]; done) | decide +kernel
theorem ef_1 (m : MethodId) (x0 : Addr) (x1 : Int32) (x2 : Int32) (x3 : Int32) (x4 : Int32) (x5 : Int32) (x6 : Int32) : entryFrame m #[(.ref x0), (.int x1), (.int x2), (.int x3), (.int x4), (.int x5), (.int x6)] 10 = mkF m 0 #[.val (.ref x0), .val (.int x1), .val (.int x2), .val (.int x3), .val (.int x4), .val (.int x5), .val (.int x6), .unset, .unset, .unset] [] := by first | (simp [entryFrame, mkF, argsToLocals, Value.category]; done) | rfl
def Q1 (Z : State) (x0 : Addr) (x1 : Int32) (x2 : Int32) (x3 : Int32) (x4 : Int32) (x5 : Int32) (x6 : Int32) (h0 : Heap) (n0 : Nat) (v : Option Value) (h : Heap) (L : List Loc) : Prop := v = none ∧ Fr n0 L ∧ Keep h0 h [x0] ∧ Fld Z h x0 "com/example/itinerant_spider/itinerantspider/simweb/SyntheticWeb" "hosts" "I" (.int x1) ∧ Fld Z h x0 "com/example/itinerant_spider/itinerantspider/simweb/SyntheticWeb" "pages" "I" (.int x2)
set_option maxRecDepth 65536 in
set_option maxHeartbeats 40000000 in
theorem rm1 (l : Launch) (Z : State) (a0 : Array Value) (hw : ∀ d ∈ tables_1, d.before a0 Z = true) (ws : List Jvm.Cond) (x0 : Addr) (x1 : Int32) (x2 : Int32) (x3 : Int32) (x4 : Int32) (x5 : Int32) (x6 : Int32) (h0 : Heap) (n0 : Nat) (Z0 : n0 ≤ h0.size) (P0 : Exa Z h0 x0 "com/example/itinerant_spider/itinerantspider/simweb/SyntheticWeb") (P1 : Fld Z h0 x0 "com/example/itinerant_spider/itinerantspider/simweb/SyntheticWeb" "hosts" "I" (.int (0 : Int32))) (P2 : Fld Z h0 x0 "com/example/itinerant_spider/itinerantspider/simweb/SyntheticWeb" "pages" "I" (.int (0 : Int32))) (P3 : Fld Z h0 x0 "com/example/itinerant_spider/itinerantspider/simweb/SyntheticWeb" "links" "I" (.int (0 : Int32))) (P4 : Fld Z h0 x0 "com/example/itinerant_spider/itinerantspider/simweb/SyntheticWeb" "pageBytes" "I" (.int (0 : Int32))) (P5 : Fld Z h0 x0 "com/example/itinerant_spider/itinerantspider/simweb/SyntheticWeb" "hostsPerAddress" "I" (.int (0 : Int32))) (P6 : Fld Z h0 x0 "com/example/itinerant_spider/itinerantspider/simweb/SyntheticWeb" "port" "I" (.int (0 : Int32))) (P7 : Fld Z h0 x0 "com/example/itinerant_spider/itinerantspider/simweb/SyntheticWeb" "addresses" "I" (.int (0 : Int32))) (P8 : n0 ≤ x0) (hh1 : 1 ≤ x1.toInt) (hh2 : x1.toInt ≤ 1000000) (hp1 : 1 ≤ x2.toInt) (hp2 : x2.toInt ≤ 1000000000) (e3 : x3 = (0 : Int32)) (e4 : x4 = (1024 : Int32)) (e5 : x5 = (1000000 : Int32)) (e6 : x6 = (1 : Int32)) :
    MetFree l (⟨"com/example/itinerant_spider/itinerantspider/simweb/SyntheticWeb", "<init>", "(IIIIII)V"⟩ : MethodName) (head1 (Jvm.Cond.code (⟨"com/example/itinerant_spider/itinerantspider/simweb/SyntheticWeb", "<init>", "(IIIIII)V"⟩ : MethodName) prog_53_method_1_code 10 none :: ws) ({ frames := 1, cells := 0, slots := 0, locals := 12 } : Room)) (fun a U => a = #[(.ref x0), (.int x1), (.int x2), (.int x3), (.int x4), (.int x5), (.int x6)] ∧ Z.Warmed39 U.vm ∧ U.heap = h0) (fun _ _ _ _ _ => True) (fun _ U o U' => ∃ v L, o = .returned v ∧ Q1 Z x0 x1 x2 x3 x4 x5 x6 h0 n0 v U'.heap L ∧ FrameEnd U o U' L ({ frames := 1, cells := 0, slots := 0, locals := 12 } : Room).cells ({ frames := 1, cells := 0, slots := 0, locals := 12 } : Room).slots) := by
  refine g_body (plainFor_of_name pn_1) ?_
  intro p e s m below meth c T0 X0 hx hby hml hret hlk hown hnm hZ e0
  rw [ef_1]
  have N0 := Fr.nil n0
  show Go p e below s _ _ _ (T0.setTop (mkF m 0 #[.val (.ref x0), .val (.int x1), .val (.int x2), .val (.int x3), .val (.int x4), .val (.int x5), .val (.int x6), .unset, .unset, .unset] []))
  refine g_aloadN X0 hx 1 (hb hby d1_0) rfl rfl rfl ?_
  show Go p e below s _ _ _ (T0.setTop (mkF m 1 #[.val (.ref x0), .val (.int x1), .val (.int x2), .val (.int x3), .val (.int x4), .val (.int x5), .val (.int x6), .unset, .unset, .unset] [(.ref x0)]))
  refine g_initO X0 hx hZ hown (hw _ (List.mem_of_getElem? (i := 9) rfl)) (hw _ (List.mem_of_getElem? (i := 10) rfl)) (hw _ (List.mem_of_getElem? (i := 11) rfl)) e0 4 (by rw [hml]; rfl) (hb hby d1_1) (by decide) 0 (Nat.le_of_eq rfl) (by decide) rfl ?_
  intro T1 X1 e1
  show Go p e below s _ _ _ (T1.setTop (mkF m 4 #[.val (.ref x0), .val (.int x1), .val (.int x2), .val (.int x3), .val (.int x4), .val (.int x5), .val (.int x6), .unset, .unset, .unset] []))
  refine g_iloadN X1 hx 5 (hb hby d1_4) rfl rfl ?_
  show Go p e below s _ _ _ (T1.setTop (mkF m 5 #[.val (.ref x0), .val (.int x1), .val (.int x2), .val (.int x3), .val (.int x4), .val (.int x5), .val (.int x6), .unset, .unset, .unset] [(.int x1)]))
  refine g_iconst X1 hx (1 : Int32) 6 (hb hby d1_5) rfl rfl ?_
  show Go p e below s _ _ _ (T1.setTop (mkF m 6 #[.val (.ref x0), .val (.int x1), .val (.int x2), .val (.int x3), .val (.int x4), .val (.int x5), .val (.int x6), .unset, .unset, .unset] [(.int (1 : Int32)), (.int x1)]))
  have h2 : ¬ (x1 < (1 : Int32)) := own_nlt hh1
  refine g_icmp_lt X1 hx 15 9 (hb hby d1_6) (by decide) rfl rfl (fun q => absurd q h2) (fun _ => ?_)
  show Go p e below s _ _ _ (T1.setTop (mkF m 9 #[.val (.ref x0), .val (.int x1), .val (.int x2), .val (.int x3), .val (.int x4), .val (.int x5), .val (.int x6), .unset, .unset, .unset] []))
  refine g_iloadN X1 hx 10 (hb hby d1_9) rfl rfl ?_
  show Go p e below s _ _ _ (T1.setTop (mkF m 10 #[.val (.ref x0), .val (.int x1), .val (.int x2), .val (.int x3), .val (.int x4), .val (.int x5), .val (.int x6), .unset, .unset, .unset] [(.int x1)]))
  refine g_ldc X1 hx hZ hown (hw _ (List.mem_of_getElem? (i := 12) rfl)) 12 (hb hby d1_10) rfl ?_
  show Go p e below s _ _ _ (T1.setTop (mkF m 12 #[.val (.ref x0), .val (.int x1), .val (.int x2), .val (.int x3), .val (.int x4), .val (.int x5), .val (.int x6), .unset, .unset, .unset] [(.int (1000000 : Int32)), (.int x1)]))
  have h3 : ¬ ((1000000 : Int32) < x1) := own_nlt hh2
  refine g_icmp_le X1 hx 29 15 (hb hby d1_12) (by decide) rfl rfl (fun q => absurd q h3) (fun _ => ?_)
  show Go p e below s _ _ _ (T1.setTop (mkF m 29 #[.val (.ref x0), .val (.int x1), .val (.int x2), .val (.int x3), .val (.int x4), .val (.int x5), .val (.int x6), .unset, .unset, .unset] []))
  refine g_iloadN X1 hx 30 (hb hby d1_29) rfl rfl ?_
  show Go p e below s _ _ _ (T1.setTop (mkF m 30 #[.val (.ref x0), .val (.int x1), .val (.int x2), .val (.int x3), .val (.int x4), .val (.int x5), .val (.int x6), .unset, .unset, .unset] [(.int x2)]))
  refine g_iconst X1 hx (1 : Int32) 31 (hb hby d1_30) rfl rfl ?_
  show Go p e below s _ _ _ (T1.setTop (mkF m 31 #[.val (.ref x0), .val (.int x1), .val (.int x2), .val (.int x3), .val (.int x4), .val (.int x5), .val (.int x6), .unset, .unset, .unset] [(.int (1 : Int32)), (.int x2)]))
  have h4 : ¬ (x2 < (1 : Int32)) := own_nlt hp1
  refine g_icmp_lt X1 hx 40 34 (hb hby d1_31) (by decide) rfl rfl (fun q => absurd q h4) (fun _ => ?_)
  show Go p e below s _ _ _ (T1.setTop (mkF m 34 #[.val (.ref x0), .val (.int x1), .val (.int x2), .val (.int x3), .val (.int x4), .val (.int x5), .val (.int x6), .unset, .unset, .unset] []))
  refine g_iloadN X1 hx 35 (hb hby d1_34) rfl rfl ?_
  show Go p e below s _ _ _ (T1.setTop (mkF m 35 #[.val (.ref x0), .val (.int x1), .val (.int x2), .val (.int x3), .val (.int x4), .val (.int x5), .val (.int x6), .unset, .unset, .unset] [(.int x2)]))
  refine g_ldc X1 hx hZ hown (hw _ (List.mem_of_getElem? (i := 13) rfl)) 37 (hb hby d1_35) rfl ?_
  show Go p e below s _ _ _ (T1.setTop (mkF m 37 #[.val (.ref x0), .val (.int x1), .val (.int x2), .val (.int x3), .val (.int x4), .val (.int x5), .val (.int x6), .unset, .unset, .unset] [(.int (1000000000 : Int32)), (.int x2)]))
  have h5 : ¬ ((1000000000 : Int32) < x2) := own_nlt hp2
  refine g_icmp_le X1 hx 54 40 (hb hby d1_37) (by decide) rfl rfl (fun q => absurd q h5) (fun _ => ?_)
  show Go p e below s _ _ _ (T1.setTop (mkF m 54 #[.val (.ref x0), .val (.int x1), .val (.int x2), .val (.int x3), .val (.int x4), .val (.int x5), .val (.int x6), .unset, .unset, .unset] []))
  refine g_iloadN X1 hx 55 (hb hby d1_54) rfl rfl ?_
  show Go p e below s _ _ _ (T1.setTop (mkF m 55 #[.val (.ref x0), .val (.int x1), .val (.int x2), .val (.int x3), .val (.int x4), .val (.int x5), .val (.int x6), .unset, .unset, .unset] [(.int x3)]))
  have h6 : ¬ (x3 < (0 : Int32)) := by rw [e3]; decide
  refine g_if0_ge X1 hx 72 58 (hb hby d1_55) (by decide) rfl rfl (fun q => absurd q h6) (fun _ => ?_)
  show Go p e below s _ _ _ (T1.setTop (mkF m 72 #[.val (.ref x0), .val (.int x1), .val (.int x2), .val (.int x3), .val (.int x4), .val (.int x5), .val (.int x6), .unset, .unset, .unset] []))
  refine g_iload X1 hx 74 (hb hby d1_72) rfl rfl ?_
  show Go p e below s _ _ _ (T1.setTop (mkF m 74 #[.val (.ref x0), .val (.int x1), .val (.int x2), .val (.int x3), .val (.int x4), .val (.int x5), .val (.int x6), .unset, .unset, .unset] [(.int x5)]))
  refine g_iconst X1 hx (1 : Int32) 75 (hb hby d1_74) rfl rfl ?_
  show Go p e below s _ _ _ (T1.setTop (mkF m 75 #[.val (.ref x0), .val (.int x1), .val (.int x2), .val (.int x3), .val (.int x4), .val (.int x5), .val (.int x6), .unset, .unset, .unset] [(.int (1 : Int32)), (.int x5)]))
  have h7 : ¬ (x5 < (1 : Int32)) := by rw [e5]; decide
  refine g_icmp_ge X1 hx 93 78 (hb hby d1_75) (by decide) rfl rfl (fun q => absurd q h7) (fun _ => ?_)
  show Go p e below s _ _ _ (T1.setTop (mkF m 93 #[.val (.ref x0), .val (.int x1), .val (.int x2), .val (.int x3), .val (.int x4), .val (.int x5), .val (.int x6), .unset, .unset, .unset] []))
  refine g_iloadN X1 hx 94 (hb hby d1_93) rfl rfl ?_
  show Go p e below s _ _ _ (T1.setTop (mkF m 94 #[.val (.ref x0), .val (.int x1), .val (.int x2), .val (.int x3), .val (.int x4), .val (.int x5), .val (.int x6), .unset, .unset, .unset] [(.int x1)]))
  refine g_iconst X1 hx (1 : Int32) 95 (hb hby d1_94) rfl rfl ?_
  show Go p e below s _ _ _ (T1.setTop (mkF m 95 #[.val (.ref x0), .val (.int x1), .val (.int x2), .val (.int x3), .val (.int x4), .val (.int x5), .val (.int x6), .unset, .unset, .unset] [(.int (1 : Int32)), (.int x1)]))
  refine g_isub X1 hx 96 (hb hby d1_95) rfl ?_
  show Go p e below s _ _ _ (T1.setTop (mkF m 96 #[.val (.ref x0), .val (.int x1), .val (.int x2), .val (.int x3), .val (.int x4), .val (.int x5), .val (.int x6), .unset, .unset, .unset] [(.int (x1 - (1 : Int32)))]))
  refine g_iload X1 hx 98 (hb hby d1_96) rfl rfl ?_
  show Go p e below s _ _ _ (T1.setTop (mkF m 98 #[.val (.ref x0), .val (.int x1), .val (.int x2), .val (.int x3), .val (.int x4), .val (.int x5), .val (.int x6), .unset, .unset, .unset] [(.int x5), (.int (x1 - (1 : Int32)))]))
  refine g_idiv X1 hx 99 (hb hby d1_98) (by rw [e5]; decide) rfl ?_
  show Go p e below s _ _ _ (T1.setTop (mkF m 99 #[.val (.ref x0), .val (.int x1), .val (.int x2), .val (.int x3), .val (.int x4), .val (.int x5), .val (.int x6), .unset, .unset, .unset] [(.int ((x1 - (1 : Int32)) / x5))]))
  refine g_iconst X1 hx (1 : Int32) 100 (hb hby d1_99) rfl rfl ?_
  show Go p e below s _ _ _ (T1.setTop (mkF m 100 #[.val (.ref x0), .val (.int x1), .val (.int x2), .val (.int x3), .val (.int x4), .val (.int x5), .val (.int x6), .unset, .unset, .unset] [(.int (1 : Int32)), (.int ((x1 - (1 : Int32)) / x5))]))
  refine g_iadd X1 hx 101 (hb hby d1_100) rfl ?_
  show Go p e below s _ _ _ (T1.setTop (mkF m 101 #[.val (.ref x0), .val (.int x1), .val (.int x2), .val (.int x3), .val (.int x4), .val (.int x5), .val (.int x6), .unset, .unset, .unset] [(.int (((x1 - (1 : Int32)) / x5) + (1 : Int32)))]))
  refine g_istore X1 hx #[.val (.ref x0), .val (.int x1), .val (.int x2), .val (.int x3), .val (.int x4), .val (.int x5), .val (.int x6), .val (.int (((x1 - (1 : Int32)) / x5) + (1 : Int32))), .unset, .unset] 103 (hb hby d1_101) rfl rfl ?_
  show Go p e below s _ _ _ (T1.setTop (mkF m 103 #[.val (.ref x0), .val (.int x1), .val (.int x2), .val (.int x3), .val (.int x4), .val (.int x5), .val (.int x6), .val (.int (((x1 - (1 : Int32)) / x5) + (1 : Int32))), .unset, .unset] []))
  refine g_iload X1 hx 105 (hb hby d1_103) rfl rfl ?_
  show Go p e below s _ _ _ (T1.setTop (mkF m 105 #[.val (.ref x0), .val (.int x1), .val (.int x2), .val (.int x3), .val (.int x4), .val (.int x5), .val (.int x6), .val (.int (((x1 - (1 : Int32)) / x5) + (1 : Int32))), .unset, .unset] [(.int (((x1 - (1 : Int32)) / x5) + (1 : Int32)))]))
  refine g_ldc X1 hx hZ hown (hw _ (List.mem_of_getElem? (i := 14) rfl)) 107 (hb hby d1_105) rfl ?_
  show Go p e below s _ _ _ (T1.setTop (mkF m 107 #[.val (.ref x0), .val (.int x1), .val (.int x2), .val (.int x3), .val (.int x4), .val (.int x5), .val (.int x6), .val (.int (((x1 - (1 : Int32)) / x5) + (1 : Int32))), .unset, .unset] [(.int (64000 : Int32)), (.int (((x1 - (1 : Int32)) / x5) + (1 : Int32)))]))
  have h8 : ¬ ((64000 : Int32) < (((x1 - (1 : Int32)) / x5) + (1 : Int32))) := by rw [e5]; exact own_ad x1 hh1 hh2
  refine g_icmp_le X1 hx 128 110 (hb hby d1_107) (by decide) rfl rfl (fun q => absurd q h8) (fun _ => ?_)
  show Go p e below s _ _ _ (T1.setTop (mkF m 128 #[.val (.ref x0), .val (.int x1), .val (.int x2), .val (.int x3), .val (.int x4), .val (.int x5), .val (.int x6), .val (.int (((x1 - (1 : Int32)) / x5) + (1 : Int32))), .unset, .unset] []))
  refine g_ldc2_w X1 hx hZ hown (hw _ (List.mem_of_getElem? (i := 15) rfl)) 131 (hb hby d1_128) rfl ?_
  show Go p e below s _ _ _ (T1.setTop (mkF m 131 #[.val (.ref x0), .val (.int x1), .val (.int x2), .val (.int x3), .val (.int x4), .val (.int x5), .val (.int x6), .val (.int (((x1 - (1 : Int32)) / x5) + (1 : Int32))), .unset, .unset] [(.long (1024 : Int64))]))
  refine g_ldc2_w X1 hx hZ hown (hw _ (List.mem_of_getElem? (i := 16) rfl)) 134 (hb hby d1_131) rfl ?_
  show Go p e below s _ _ _ (T1.setTop (mkF m 134 #[.val (.ref x0), .val (.int x1), .val (.int x2), .val (.int x3), .val (.int x4), .val (.int x5), .val (.int x6), .val (.int (((x1 - (1 : Int32)) / x5) + (1 : Int32))), .unset, .unset] [(.long (40 : Int64)), (.long (1024 : Int64))]))
  refine g_iloadN X1 hx 135 (hb hby d1_134) rfl rfl ?_
  show Go p e below s _ _ _ (T1.setTop (mkF m 135 #[.val (.ref x0), .val (.int x1), .val (.int x2), .val (.int x3), .val (.int x4), .val (.int x5), .val (.int x6), .val (.int (((x1 - (1 : Int32)) / x5) + (1 : Int32))), .unset, .unset] [(.int x3), (.long (40 : Int64)), (.long (1024 : Int64))]))
  refine g_i2l X1 hx 136 (hb hby d1_135) rfl ?_
  show Go p e below s _ _ _ (T1.setTop (mkF m 136 #[.val (.ref x0), .val (.int x1), .val (.int x2), .val (.int x3), .val (.int x4), .val (.int x5), .val (.int x6), .val (.int (((x1 - (1 : Int32)) / x5) + (1 : Int32))), .unset, .unset] [(.long (x3.toInt64)), (.long (40 : Int64)), (.long (1024 : Int64))]))
  refine g_lmul X1 hx 137 (hb hby d1_136) rfl ?_
  show Go p e below s _ _ _ (T1.setTop (mkF m 137 #[.val (.ref x0), .val (.int x1), .val (.int x2), .val (.int x3), .val (.int x4), .val (.int x5), .val (.int x6), .val (.int (((x1 - (1 : Int32)) / x5) + (1 : Int32))), .unset, .unset] [(.long ((40 : Int64) * (x3.toInt64))), (.long (1024 : Int64))]))
  refine g_ladd X1 hx 138 (hb hby d1_137) rfl ?_
  show Go p e below s _ _ _ (T1.setTop (mkF m 138 #[.val (.ref x0), .val (.int x1), .val (.int x2), .val (.int x3), .val (.int x4), .val (.int x5), .val (.int x6), .val (.int (((x1 - (1 : Int32)) / x5) + (1 : Int32))), .unset, .unset] [(.long ((1024 : Int64) + ((40 : Int64) * (x3.toInt64))))]))
  refine g_lstore X1 hx #[.val (.ref x0), .val (.int x1), .val (.int x2), .val (.int x3), .val (.int x4), .val (.int x5), .val (.int x6), .val (.int (((x1 - (1 : Int32)) / x5) + (1 : Int32))), .val (.long ((1024 : Int64) + ((40 : Int64) * (x3.toInt64)))), .second] 140 (hb hby d1_138) rfl rfl ?_
  show Go p e below s _ _ _ (T1.setTop (mkF m 140 #[.val (.ref x0), .val (.int x1), .val (.int x2), .val (.int x3), .val (.int x4), .val (.int x5), .val (.int x6), .val (.int (((x1 - (1 : Int32)) / x5) + (1 : Int32))), .val (.long ((1024 : Int64) + ((40 : Int64) * (x3.toInt64)))), .second] []))
  refine g_iload X1 hx 142 (hb hby d1_140) rfl rfl ?_
  show Go p e below s _ _ _ (T1.setTop (mkF m 142 #[.val (.ref x0), .val (.int x1), .val (.int x2), .val (.int x3), .val (.int x4), .val (.int x5), .val (.int x6), .val (.int (((x1 - (1 : Int32)) / x5) + (1 : Int32))), .val (.long ((1024 : Int64) + ((40 : Int64) * (x3.toInt64)))), .second] [(.int x4)]))
  refine g_i2l X1 hx 143 (hb hby d1_142) rfl ?_
  show Go p e below s _ _ _ (T1.setTop (mkF m 143 #[.val (.ref x0), .val (.int x1), .val (.int x2), .val (.int x3), .val (.int x4), .val (.int x5), .val (.int x6), .val (.int (((x1 - (1 : Int32)) / x5) + (1 : Int32))), .val (.long ((1024 : Int64) + ((40 : Int64) * (x3.toInt64)))), .second] [(.long (x4.toInt64))]))
  refine g_lload X1 hx 145 (hb hby d1_143) rfl rfl ?_
  show Go p e below s _ _ _ (T1.setTop (mkF m 145 #[.val (.ref x0), .val (.int x1), .val (.int x2), .val (.int x3), .val (.int x4), .val (.int x5), .val (.int x6), .val (.int (((x1 - (1 : Int32)) / x5) + (1 : Int32))), .val (.long ((1024 : Int64) + ((40 : Int64) * (x3.toInt64)))), .second] [(.long ((1024 : Int64) + ((40 : Int64) * (x3.toInt64)))), (.long (x4.toInt64))]))
  refine g_lcmp X1 hx 146 (hb hby d1_145) rfl ?_
  show Go p e below s _ _ _ (T1.setTop (mkF m 146 #[.val (.ref x0), .val (.int x1), .val (.int x2), .val (.int x3), .val (.int x4), .val (.int x5), .val (.int x6), .val (.int (((x1 - (1 : Int32)) / x5) + (1 : Int32))), .val (.long ((1024 : Int64) + ((40 : Int64) * (x3.toInt64)))), .second] [(.int (lcmpW (x4.toInt64) ((1024 : Int64) + ((40 : Int64) * (x3.toInt64)))))]))
  have h9 : ¬ ((x4.toInt64) < ((1024 : Int64) + ((40 : Int64) * (x3.toInt64)))) := by rw [e3, e4]; decide
  refine g_lc_ge X1 hx 168 149 (hb hby d1_146) (by decide) rfl rfl (fun q => absurd q h9) (fun _ => ?_)
  show Go p e below s _ _ _ (T1.setTop (mkF m 168 #[.val (.ref x0), .val (.int x1), .val (.int x2), .val (.int x3), .val (.int x4), .val (.int x5), .val (.int x6), .val (.int (((x1 - (1 : Int32)) / x5) + (1 : Int32))), .val (.long ((1024 : Int64) + ((40 : Int64) * (x3.toInt64)))), .second] []))
  refine g_iload X1 hx 170 (hb hby d1_168) rfl rfl ?_
  show Go p e below s _ _ _ (T1.setTop (mkF m 170 #[.val (.ref x0), .val (.int x1), .val (.int x2), .val (.int x3), .val (.int x4), .val (.int x5), .val (.int x6), .val (.int (((x1 - (1 : Int32)) / x5) + (1 : Int32))), .val (.long ((1024 : Int64) + ((40 : Int64) * (x3.toInt64)))), .second] [(.int x6)]))
  refine g_iconst X1 hx (1 : Int32) 171 (hb hby d1_170) rfl rfl ?_
  show Go p e below s _ _ _ (T1.setTop (mkF m 171 #[.val (.ref x0), .val (.int x1), .val (.int x2), .val (.int x3), .val (.int x4), .val (.int x5), .val (.int x6), .val (.int (((x1 - (1 : Int32)) / x5) + (1 : Int32))), .val (.long ((1024 : Int64) + ((40 : Int64) * (x3.toInt64)))), .second] [(.int (1 : Int32)), (.int x6)]))
  have h10 : ¬ (x6 < (1 : Int32)) := by rw [e6]; decide
  refine g_icmp_lt X1 hx 181 174 (hb hby d1_171) (by decide) rfl rfl (fun q => absurd q h10) (fun _ => ?_)
  show Go p e below s _ _ _ (T1.setTop (mkF m 174 #[.val (.ref x0), .val (.int x1), .val (.int x2), .val (.int x3), .val (.int x4), .val (.int x5), .val (.int x6), .val (.int (((x1 - (1 : Int32)) / x5) + (1 : Int32))), .val (.long ((1024 : Int64) + ((40 : Int64) * (x3.toInt64)))), .second] []))
  refine g_iload X1 hx 176 (hb hby d1_174) rfl rfl ?_
  show Go p e below s _ _ _ (T1.setTop (mkF m 176 #[.val (.ref x0), .val (.int x1), .val (.int x2), .val (.int x3), .val (.int x4), .val (.int x5), .val (.int x6), .val (.int (((x1 - (1 : Int32)) / x5) + (1 : Int32))), .val (.long ((1024 : Int64) + ((40 : Int64) * (x3.toInt64)))), .second] [(.int x6)]))
  refine g_ldc X1 hx hZ hown (hw _ (List.mem_of_getElem? (i := 17) rfl)) 178 (hb hby d1_176) rfl ?_
  show Go p e below s _ _ _ (T1.setTop (mkF m 178 #[.val (.ref x0), .val (.int x1), .val (.int x2), .val (.int x3), .val (.int x4), .val (.int x5), .val (.int x6), .val (.int (((x1 - (1 : Int32)) / x5) + (1 : Int32))), .val (.long ((1024 : Int64) + ((40 : Int64) * (x3.toInt64)))), .second] [(.int (65535 : Int32)), (.int x6)]))
  have h11 : ¬ ((65535 : Int32) < x6) := by rw [e6]; decide
  refine g_icmp_le X1 hx 196 181 (hb hby d1_178) (by decide) rfl rfl (fun q => absurd q h11) (fun _ => ?_)
  show Go p e below s _ _ _ (T1.setTop (mkF m 196 #[.val (.ref x0), .val (.int x1), .val (.int x2), .val (.int x3), .val (.int x4), .val (.int x5), .val (.int x6), .val (.int (((x1 - (1 : Int32)) / x5) + (1 : Int32))), .val (.long ((1024 : Int64) + ((40 : Int64) * (x3.toInt64)))), .second] []))
  refine g_aloadN X1 hx 197 (hb hby d1_196) rfl rfl rfl ?_
  show Go p e below s _ _ _ (T1.setTop (mkF m 197 #[.val (.ref x0), .val (.int x1), .val (.int x2), .val (.int x3), .val (.int x4), .val (.int x5), .val (.int x6), .val (.int (((x1 - (1 : Int32)) / x5) + (1 : Int32))), .val (.long ((1024 : Int64) + ((40 : Int64) * (x3.toInt64)))), .second] [(.ref x0)]))
  refine g_iloadN X1 hx 198 (hb hby d1_197) rfl rfl ?_
  show Go p e below s _ _ _ (T1.setTop (mkF m 198 #[.val (.ref x0), .val (.int x1), .val (.int x2), .val (.int x3), .val (.int x4), .val (.int x5), .val (.int x6), .val (.int (((x1 - (1 : Int32)) / x5) + (1 : Int32))), .val (.long ((1024 : Int64) + ((40 : Int64) * (x3.toInt64)))), .second] [(.int x1), (.ref x0)]))
  refine g_putF X1 hx hZ hown (hw _ (List.mem_of_getElem? (i := 18) rfl)) Via.refl e1 P1 P0 (Or.inr ⟨(hw _ (List.mem_of_getElem? (i := 19) rfl)), rfl, hnm⟩) (hw _ (List.mem_of_getElem? (i := 4) rfl)) (ty := .int) (by decide) rfl rfl 201 (hb hby d1_198) rfl ?_
  intro T12 h12 X12 e12 W12
  have K12 := (Keep.refl h0 [x0]).wr W12 (Or.inl (List.mem_of_getElem? (i := 0) rfl))
  have N12 := Fr.snoc X12 N0 P8
  have k12_0 := P0.wr W12
  have k12_2 := P2.other W12 (Or.inr (slot_ne (Or.inr (hw _ (List.mem_of_getElem? (i := 21) rfl))) (Or.inr (hw _ (List.mem_of_getElem? (i := 19) rfl))) (by decide) (t := .int) (t' := .int) (by decide) (by decide)))
  have k12_3 := P3.other W12 (Or.inr (slot_ne (Or.inr (hw _ (List.mem_of_getElem? (i := 23) rfl))) (Or.inr (hw _ (List.mem_of_getElem? (i := 19) rfl))) (by decide) (t := .int) (t' := .int) (by decide) (by decide)))
  have k12_4 := P4.other W12 (Or.inr (slot_ne (Or.inr (hw _ (List.mem_of_getElem? (i := 25) rfl))) (Or.inr (hw _ (List.mem_of_getElem? (i := 19) rfl))) (by decide) (t := .int) (t' := .int) (by decide) (by decide)))
  have k12_5 := P5.other W12 (Or.inr (slot_ne (Or.inr (hw _ (List.mem_of_getElem? (i := 27) rfl))) (Or.inr (hw _ (List.mem_of_getElem? (i := 19) rfl))) (by decide) (t := .int) (t' := .int) (by decide) (by decide)))
  have k12_6 := P6.other W12 (Or.inr (slot_ne (Or.inr (hw _ (List.mem_of_getElem? (i := 29) rfl))) (Or.inr (hw _ (List.mem_of_getElem? (i := 19) rfl))) (by decide) (t := .int) (t' := .int) (by decide) (by decide)))
  have k12_7 := P7.other W12 (Or.inr (slot_ne (Or.inr (hw _ (List.mem_of_getElem? (i := 31) rfl))) (Or.inr (hw _ (List.mem_of_getElem? (i := 19) rfl))) (by decide) (t := .int) (t' := .int) (by decide) (by decide)))
  have Z12 : n0 ≤ h12.size := by rw [W12.size]; exact Z0
  have F12 := P1.same W12
  show Go p e below s _ _ _ (T12.setTop (mkF m 201 #[.val (.ref x0), .val (.int x1), .val (.int x2), .val (.int x3), .val (.int x4), .val (.int x5), .val (.int x6), .val (.int (((x1 - (1 : Int32)) / x5) + (1 : Int32))), .val (.long ((1024 : Int64) + ((40 : Int64) * (x3.toInt64)))), .second] []))
  refine g_aloadN X12 hx 202 (hb hby d1_201) rfl rfl rfl ?_
  show Go p e below s _ _ _ (T12.setTop (mkF m 202 #[.val (.ref x0), .val (.int x1), .val (.int x2), .val (.int x3), .val (.int x4), .val (.int x5), .val (.int x6), .val (.int (((x1 - (1 : Int32)) / x5) + (1 : Int32))), .val (.long ((1024 : Int64) + ((40 : Int64) * (x3.toInt64)))), .second] [(.ref x0)]))
  refine g_iloadN X12 hx 203 (hb hby d1_202) rfl rfl ?_
  show Go p e below s _ _ _ (T12.setTop (mkF m 203 #[.val (.ref x0), .val (.int x1), .val (.int x2), .val (.int x3), .val (.int x4), .val (.int x5), .val (.int x6), .val (.int (((x1 - (1 : Int32)) / x5) + (1 : Int32))), .val (.long ((1024 : Int64) + ((40 : Int64) * (x3.toInt64)))), .second] [(.int x2), (.ref x0)]))
  refine g_putF X12 hx hZ hown (hw _ (List.mem_of_getElem? (i := 20) rfl)) Via.refl e12 k12_2 k12_0 (Or.inr ⟨(hw _ (List.mem_of_getElem? (i := 21) rfl)), rfl, hnm⟩) (hw _ (List.mem_of_getElem? (i := 4) rfl)) (ty := .int) (by decide) rfl rfl 206 (hb hby d1_203) rfl ?_
  intro T13 h13 X13 e13 W13
  have K13 := K12.wr W13 (Or.inl (List.mem_of_getElem? (i := 0) rfl))
  have N13 := Fr.snoc X13 N12 P8
  have k13_0 := k12_0.wr W13
  have k13_2 := k12_3.other W13 (Or.inr (slot_ne (Or.inr (hw _ (List.mem_of_getElem? (i := 23) rfl))) (Or.inr (hw _ (List.mem_of_getElem? (i := 21) rfl))) (by decide) (t := .int) (t' := .int) (by decide) (by decide)))
  have k13_3 := k12_4.other W13 (Or.inr (slot_ne (Or.inr (hw _ (List.mem_of_getElem? (i := 25) rfl))) (Or.inr (hw _ (List.mem_of_getElem? (i := 21) rfl))) (by decide) (t := .int) (t' := .int) (by decide) (by decide)))
  have k13_4 := k12_5.other W13 (Or.inr (slot_ne (Or.inr (hw _ (List.mem_of_getElem? (i := 27) rfl))) (Or.inr (hw _ (List.mem_of_getElem? (i := 21) rfl))) (by decide) (t := .int) (t' := .int) (by decide) (by decide)))
  have k13_5 := k12_6.other W13 (Or.inr (slot_ne (Or.inr (hw _ (List.mem_of_getElem? (i := 29) rfl))) (Or.inr (hw _ (List.mem_of_getElem? (i := 21) rfl))) (by decide) (t := .int) (t' := .int) (by decide) (by decide)))
  have k13_6 := k12_7.other W13 (Or.inr (slot_ne (Or.inr (hw _ (List.mem_of_getElem? (i := 31) rfl))) (Or.inr (hw _ (List.mem_of_getElem? (i := 21) rfl))) (by decide) (t := .int) (t' := .int) (by decide) (by decide)))
  have k13_8 := F12.other W13 (Or.inr (slot_ne (Or.inr (hw _ (List.mem_of_getElem? (i := 19) rfl))) (Or.inr (hw _ (List.mem_of_getElem? (i := 21) rfl))) (by decide) (t := .int) (t' := .int) (by decide) (by decide)))
  have Z13 : n0 ≤ h13.size := by rw [W13.size]; exact Z12
  have F13 := k12_2.same W13
  show Go p e below s _ _ _ (T13.setTop (mkF m 206 #[.val (.ref x0), .val (.int x1), .val (.int x2), .val (.int x3), .val (.int x4), .val (.int x5), .val (.int x6), .val (.int (((x1 - (1 : Int32)) / x5) + (1 : Int32))), .val (.long ((1024 : Int64) + ((40 : Int64) * (x3.toInt64)))), .second] []))
  refine g_aloadN X13 hx 207 (hb hby d1_206) rfl rfl rfl ?_
  show Go p e below s _ _ _ (T13.setTop (mkF m 207 #[.val (.ref x0), .val (.int x1), .val (.int x2), .val (.int x3), .val (.int x4), .val (.int x5), .val (.int x6), .val (.int (((x1 - (1 : Int32)) / x5) + (1 : Int32))), .val (.long ((1024 : Int64) + ((40 : Int64) * (x3.toInt64)))), .second] [(.ref x0)]))
  refine g_iloadN X13 hx 208 (hb hby d1_207) rfl rfl ?_
  show Go p e below s _ _ _ (T13.setTop (mkF m 208 #[.val (.ref x0), .val (.int x1), .val (.int x2), .val (.int x3), .val (.int x4), .val (.int x5), .val (.int x6), .val (.int (((x1 - (1 : Int32)) / x5) + (1 : Int32))), .val (.long ((1024 : Int64) + ((40 : Int64) * (x3.toInt64)))), .second] [(.int x3), (.ref x0)]))
  refine g_putF X13 hx hZ hown (hw _ (List.mem_of_getElem? (i := 22) rfl)) Via.refl e13 k13_2 k13_0 (Or.inr ⟨(hw _ (List.mem_of_getElem? (i := 23) rfl)), rfl, hnm⟩) (hw _ (List.mem_of_getElem? (i := 4) rfl)) (ty := .int) (by decide) rfl rfl 211 (hb hby d1_208) rfl ?_
  intro T14 h14 X14 e14 W14
  have K14 := K13.wr W14 (Or.inl (List.mem_of_getElem? (i := 0) rfl))
  have N14 := Fr.snoc X14 N13 P8
  have k14_0 := k13_0.wr W14
  have k14_2 := k13_3.other W14 (Or.inr (slot_ne (Or.inr (hw _ (List.mem_of_getElem? (i := 25) rfl))) (Or.inr (hw _ (List.mem_of_getElem? (i := 23) rfl))) (by decide) (t := .int) (t' := .int) (by decide) (by decide)))
  have k14_3 := k13_4.other W14 (Or.inr (slot_ne (Or.inr (hw _ (List.mem_of_getElem? (i := 27) rfl))) (Or.inr (hw _ (List.mem_of_getElem? (i := 23) rfl))) (by decide) (t := .int) (t' := .int) (by decide) (by decide)))
  have k14_4 := k13_5.other W14 (Or.inr (slot_ne (Or.inr (hw _ (List.mem_of_getElem? (i := 29) rfl))) (Or.inr (hw _ (List.mem_of_getElem? (i := 23) rfl))) (by decide) (t := .int) (t' := .int) (by decide) (by decide)))
  have k14_5 := k13_6.other W14 (Or.inr (slot_ne (Or.inr (hw _ (List.mem_of_getElem? (i := 31) rfl))) (Or.inr (hw _ (List.mem_of_getElem? (i := 23) rfl))) (by decide) (t := .int) (t' := .int) (by decide) (by decide)))
  have k14_7 := k13_8.other W14 (Or.inr (slot_ne (Or.inr (hw _ (List.mem_of_getElem? (i := 19) rfl))) (Or.inr (hw _ (List.mem_of_getElem? (i := 23) rfl))) (by decide) (t := .int) (t' := .int) (by decide) (by decide)))
  have k14_8 := F13.other W14 (Or.inr (slot_ne (Or.inr (hw _ (List.mem_of_getElem? (i := 21) rfl))) (Or.inr (hw _ (List.mem_of_getElem? (i := 23) rfl))) (by decide) (t := .int) (t' := .int) (by decide) (by decide)))
  have Z14 : n0 ≤ h14.size := by rw [W14.size]; exact Z13
  have F14 := k13_2.same W14
  show Go p e below s _ _ _ (T14.setTop (mkF m 211 #[.val (.ref x0), .val (.int x1), .val (.int x2), .val (.int x3), .val (.int x4), .val (.int x5), .val (.int x6), .val (.int (((x1 - (1 : Int32)) / x5) + (1 : Int32))), .val (.long ((1024 : Int64) + ((40 : Int64) * (x3.toInt64)))), .second] []))
  refine g_aloadN X14 hx 212 (hb hby d1_211) rfl rfl rfl ?_
  show Go p e below s _ _ _ (T14.setTop (mkF m 212 #[.val (.ref x0), .val (.int x1), .val (.int x2), .val (.int x3), .val (.int x4), .val (.int x5), .val (.int x6), .val (.int (((x1 - (1 : Int32)) / x5) + (1 : Int32))), .val (.long ((1024 : Int64) + ((40 : Int64) * (x3.toInt64)))), .second] [(.ref x0)]))
  refine g_iload X14 hx 214 (hb hby d1_212) rfl rfl ?_
  show Go p e below s _ _ _ (T14.setTop (mkF m 214 #[.val (.ref x0), .val (.int x1), .val (.int x2), .val (.int x3), .val (.int x4), .val (.int x5), .val (.int x6), .val (.int (((x1 - (1 : Int32)) / x5) + (1 : Int32))), .val (.long ((1024 : Int64) + ((40 : Int64) * (x3.toInt64)))), .second] [(.int x4), (.ref x0)]))
  refine g_putF X14 hx hZ hown (hw _ (List.mem_of_getElem? (i := 24) rfl)) Via.refl e14 k14_2 k14_0 (Or.inr ⟨(hw _ (List.mem_of_getElem? (i := 25) rfl)), rfl, hnm⟩) (hw _ (List.mem_of_getElem? (i := 4) rfl)) (ty := .int) (by decide) rfl rfl 217 (hb hby d1_214) rfl ?_
  intro T15 h15 X15 e15 W15
  have K15 := K14.wr W15 (Or.inl (List.mem_of_getElem? (i := 0) rfl))
  have N15 := Fr.snoc X15 N14 P8
  have k15_0 := k14_0.wr W15
  have k15_2 := k14_3.other W15 (Or.inr (slot_ne (Or.inr (hw _ (List.mem_of_getElem? (i := 27) rfl))) (Or.inr (hw _ (List.mem_of_getElem? (i := 25) rfl))) (by decide) (t := .int) (t' := .int) (by decide) (by decide)))
  have k15_3 := k14_4.other W15 (Or.inr (slot_ne (Or.inr (hw _ (List.mem_of_getElem? (i := 29) rfl))) (Or.inr (hw _ (List.mem_of_getElem? (i := 25) rfl))) (by decide) (t := .int) (t' := .int) (by decide) (by decide)))
  have k15_4 := k14_5.other W15 (Or.inr (slot_ne (Or.inr (hw _ (List.mem_of_getElem? (i := 31) rfl))) (Or.inr (hw _ (List.mem_of_getElem? (i := 25) rfl))) (by decide) (t := .int) (t' := .int) (by decide) (by decide)))
  have k15_6 := k14_7.other W15 (Or.inr (slot_ne (Or.inr (hw _ (List.mem_of_getElem? (i := 19) rfl))) (Or.inr (hw _ (List.mem_of_getElem? (i := 25) rfl))) (by decide) (t := .int) (t' := .int) (by decide) (by decide)))
  have k15_7 := k14_8.other W15 (Or.inr (slot_ne (Or.inr (hw _ (List.mem_of_getElem? (i := 21) rfl))) (Or.inr (hw _ (List.mem_of_getElem? (i := 25) rfl))) (by decide) (t := .int) (t' := .int) (by decide) (by decide)))
  have k15_8 := F14.other W15 (Or.inr (slot_ne (Or.inr (hw _ (List.mem_of_getElem? (i := 23) rfl))) (Or.inr (hw _ (List.mem_of_getElem? (i := 25) rfl))) (by decide) (t := .int) (t' := .int) (by decide) (by decide)))
  have Z15 : n0 ≤ h15.size := by rw [W15.size]; exact Z14
  have F15 := k14_2.same W15
  show Go p e below s _ _ _ (T15.setTop (mkF m 217 #[.val (.ref x0), .val (.int x1), .val (.int x2), .val (.int x3), .val (.int x4), .val (.int x5), .val (.int x6), .val (.int (((x1 - (1 : Int32)) / x5) + (1 : Int32))), .val (.long ((1024 : Int64) + ((40 : Int64) * (x3.toInt64)))), .second] []))
  refine g_aloadN X15 hx 218 (hb hby d1_217) rfl rfl rfl ?_
  show Go p e below s _ _ _ (T15.setTop (mkF m 218 #[.val (.ref x0), .val (.int x1), .val (.int x2), .val (.int x3), .val (.int x4), .val (.int x5), .val (.int x6), .val (.int (((x1 - (1 : Int32)) / x5) + (1 : Int32))), .val (.long ((1024 : Int64) + ((40 : Int64) * (x3.toInt64)))), .second] [(.ref x0)]))
  refine g_iload X15 hx 220 (hb hby d1_218) rfl rfl ?_
  show Go p e below s _ _ _ (T15.setTop (mkF m 220 #[.val (.ref x0), .val (.int x1), .val (.int x2), .val (.int x3), .val (.int x4), .val (.int x5), .val (.int x6), .val (.int (((x1 - (1 : Int32)) / x5) + (1 : Int32))), .val (.long ((1024 : Int64) + ((40 : Int64) * (x3.toInt64)))), .second] [(.int x5), (.ref x0)]))
  refine g_putF X15 hx hZ hown (hw _ (List.mem_of_getElem? (i := 26) rfl)) Via.refl e15 k15_2 k15_0 (Or.inr ⟨(hw _ (List.mem_of_getElem? (i := 27) rfl)), rfl, hnm⟩) (hw _ (List.mem_of_getElem? (i := 4) rfl)) (ty := .int) (by decide) rfl rfl 223 (hb hby d1_220) rfl ?_
  intro T16 h16 X16 e16 W16
  have K16 := K15.wr W16 (Or.inl (List.mem_of_getElem? (i := 0) rfl))
  have N16 := Fr.snoc X16 N15 P8
  have k16_0 := k15_0.wr W16
  have k16_2 := k15_3.other W16 (Or.inr (slot_ne (Or.inr (hw _ (List.mem_of_getElem? (i := 29) rfl))) (Or.inr (hw _ (List.mem_of_getElem? (i := 27) rfl))) (by decide) (t := .int) (t' := .int) (by decide) (by decide)))
  have k16_3 := k15_4.other W16 (Or.inr (slot_ne (Or.inr (hw _ (List.mem_of_getElem? (i := 31) rfl))) (Or.inr (hw _ (List.mem_of_getElem? (i := 27) rfl))) (by decide) (t := .int) (t' := .int) (by decide) (by decide)))
  have k16_5 := k15_6.other W16 (Or.inr (slot_ne (Or.inr (hw _ (List.mem_of_getElem? (i := 19) rfl))) (Or.inr (hw _ (List.mem_of_getElem? (i := 27) rfl))) (by decide) (t := .int) (t' := .int) (by decide) (by decide)))
  have k16_6 := k15_7.other W16 (Or.inr (slot_ne (Or.inr (hw _ (List.mem_of_getElem? (i := 21) rfl))) (Or.inr (hw _ (List.mem_of_getElem? (i := 27) rfl))) (by decide) (t := .int) (t' := .int) (by decide) (by decide)))
  have k16_7 := k15_8.other W16 (Or.inr (slot_ne (Or.inr (hw _ (List.mem_of_getElem? (i := 23) rfl))) (Or.inr (hw _ (List.mem_of_getElem? (i := 27) rfl))) (by decide) (t := .int) (t' := .int) (by decide) (by decide)))
  have k16_8 := F15.other W16 (Or.inr (slot_ne (Or.inr (hw _ (List.mem_of_getElem? (i := 25) rfl))) (Or.inr (hw _ (List.mem_of_getElem? (i := 27) rfl))) (by decide) (t := .int) (t' := .int) (by decide) (by decide)))
  have Z16 : n0 ≤ h16.size := by rw [W16.size]; exact Z15
  have F16 := k15_2.same W16
  show Go p e below s _ _ _ (T16.setTop (mkF m 223 #[.val (.ref x0), .val (.int x1), .val (.int x2), .val (.int x3), .val (.int x4), .val (.int x5), .val (.int x6), .val (.int (((x1 - (1 : Int32)) / x5) + (1 : Int32))), .val (.long ((1024 : Int64) + ((40 : Int64) * (x3.toInt64)))), .second] []))
  refine g_aloadN X16 hx 224 (hb hby d1_223) rfl rfl rfl ?_
  show Go p e below s _ _ _ (T16.setTop (mkF m 224 #[.val (.ref x0), .val (.int x1), .val (.int x2), .val (.int x3), .val (.int x4), .val (.int x5), .val (.int x6), .val (.int (((x1 - (1 : Int32)) / x5) + (1 : Int32))), .val (.long ((1024 : Int64) + ((40 : Int64) * (x3.toInt64)))), .second] [(.ref x0)]))
  refine g_iload X16 hx 226 (hb hby d1_224) rfl rfl ?_
  show Go p e below s _ _ _ (T16.setTop (mkF m 226 #[.val (.ref x0), .val (.int x1), .val (.int x2), .val (.int x3), .val (.int x4), .val (.int x5), .val (.int x6), .val (.int (((x1 - (1 : Int32)) / x5) + (1 : Int32))), .val (.long ((1024 : Int64) + ((40 : Int64) * (x3.toInt64)))), .second] [(.int x6), (.ref x0)]))
  refine g_putF X16 hx hZ hown (hw _ (List.mem_of_getElem? (i := 28) rfl)) Via.refl e16 k16_2 k16_0 (Or.inr ⟨(hw _ (List.mem_of_getElem? (i := 29) rfl)), rfl, hnm⟩) (hw _ (List.mem_of_getElem? (i := 4) rfl)) (ty := .int) (by decide) rfl rfl 229 (hb hby d1_226) rfl ?_
  intro T17 h17 X17 e17 W17
  have K17 := K16.wr W17 (Or.inl (List.mem_of_getElem? (i := 0) rfl))
  have N17 := Fr.snoc X17 N16 P8
  have k17_0 := k16_0.wr W17
  have k17_2 := k16_3.other W17 (Or.inr (slot_ne (Or.inr (hw _ (List.mem_of_getElem? (i := 31) rfl))) (Or.inr (hw _ (List.mem_of_getElem? (i := 29) rfl))) (by decide) (t := .int) (t' := .int) (by decide) (by decide)))
  have k17_4 := k16_5.other W17 (Or.inr (slot_ne (Or.inr (hw _ (List.mem_of_getElem? (i := 19) rfl))) (Or.inr (hw _ (List.mem_of_getElem? (i := 29) rfl))) (by decide) (t := .int) (t' := .int) (by decide) (by decide)))
  have k17_5 := k16_6.other W17 (Or.inr (slot_ne (Or.inr (hw _ (List.mem_of_getElem? (i := 21) rfl))) (Or.inr (hw _ (List.mem_of_getElem? (i := 29) rfl))) (by decide) (t := .int) (t' := .int) (by decide) (by decide)))
  have k17_6 := k16_7.other W17 (Or.inr (slot_ne (Or.inr (hw _ (List.mem_of_getElem? (i := 23) rfl))) (Or.inr (hw _ (List.mem_of_getElem? (i := 29) rfl))) (by decide) (t := .int) (t' := .int) (by decide) (by decide)))
  have k17_7 := k16_8.other W17 (Or.inr (slot_ne (Or.inr (hw _ (List.mem_of_getElem? (i := 25) rfl))) (Or.inr (hw _ (List.mem_of_getElem? (i := 29) rfl))) (by decide) (t := .int) (t' := .int) (by decide) (by decide)))
  have k17_8 := F16.other W17 (Or.inr (slot_ne (Or.inr (hw _ (List.mem_of_getElem? (i := 27) rfl))) (Or.inr (hw _ (List.mem_of_getElem? (i := 29) rfl))) (by decide) (t := .int) (t' := .int) (by decide) (by decide)))
  have Z17 : n0 ≤ h17.size := by rw [W17.size]; exact Z16
  have F17 := k16_2.same W17
  show Go p e below s _ _ _ (T17.setTop (mkF m 229 #[.val (.ref x0), .val (.int x1), .val (.int x2), .val (.int x3), .val (.int x4), .val (.int x5), .val (.int x6), .val (.int (((x1 - (1 : Int32)) / x5) + (1 : Int32))), .val (.long ((1024 : Int64) + ((40 : Int64) * (x3.toInt64)))), .second] []))
  refine g_aloadN X17 hx 230 (hb hby d1_229) rfl rfl rfl ?_
  show Go p e below s _ _ _ (T17.setTop (mkF m 230 #[.val (.ref x0), .val (.int x1), .val (.int x2), .val (.int x3), .val (.int x4), .val (.int x5), .val (.int x6), .val (.int (((x1 - (1 : Int32)) / x5) + (1 : Int32))), .val (.long ((1024 : Int64) + ((40 : Int64) * (x3.toInt64)))), .second] [(.ref x0)]))
  refine g_iload X17 hx 232 (hb hby d1_230) rfl rfl ?_
  show Go p e below s _ _ _ (T17.setTop (mkF m 232 #[.val (.ref x0), .val (.int x1), .val (.int x2), .val (.int x3), .val (.int x4), .val (.int x5), .val (.int x6), .val (.int (((x1 - (1 : Int32)) / x5) + (1 : Int32))), .val (.long ((1024 : Int64) + ((40 : Int64) * (x3.toInt64)))), .second] [(.int (((x1 - (1 : Int32)) / x5) + (1 : Int32))), (.ref x0)]))
  refine g_putF X17 hx hZ hown (hw _ (List.mem_of_getElem? (i := 30) rfl)) Via.refl e17 k17_2 k17_0 (Or.inr ⟨(hw _ (List.mem_of_getElem? (i := 31) rfl)), rfl, hnm⟩) (hw _ (List.mem_of_getElem? (i := 4) rfl)) (ty := .int) (by decide) rfl rfl 235 (hb hby d1_232) rfl ?_
  intro T18 h18 X18 e18 W18
  have K18 := K17.wr W18 (Or.inl (List.mem_of_getElem? (i := 0) rfl))
  have N18 := Fr.snoc X18 N17 P8
  have k18_0 := k17_0.wr W18
  have k18_3 := k17_4.other W18 (Or.inr (slot_ne (Or.inr (hw _ (List.mem_of_getElem? (i := 19) rfl))) (Or.inr (hw _ (List.mem_of_getElem? (i := 31) rfl))) (by decide) (t := .int) (t' := .int) (by decide) (by decide)))
  have k18_4 := k17_5.other W18 (Or.inr (slot_ne (Or.inr (hw _ (List.mem_of_getElem? (i := 21) rfl))) (Or.inr (hw _ (List.mem_of_getElem? (i := 31) rfl))) (by decide) (t := .int) (t' := .int) (by decide) (by decide)))
  have k18_5 := k17_6.other W18 (Or.inr (slot_ne (Or.inr (hw _ (List.mem_of_getElem? (i := 23) rfl))) (Or.inr (hw _ (List.mem_of_getElem? (i := 31) rfl))) (by decide) (t := .int) (t' := .int) (by decide) (by decide)))
  have k18_6 := k17_7.other W18 (Or.inr (slot_ne (Or.inr (hw _ (List.mem_of_getElem? (i := 25) rfl))) (Or.inr (hw _ (List.mem_of_getElem? (i := 31) rfl))) (by decide) (t := .int) (t' := .int) (by decide) (by decide)))
  have k18_7 := k17_8.other W18 (Or.inr (slot_ne (Or.inr (hw _ (List.mem_of_getElem? (i := 27) rfl))) (Or.inr (hw _ (List.mem_of_getElem? (i := 31) rfl))) (by decide) (t := .int) (t' := .int) (by decide) (by decide)))
  have k18_8 := F17.other W18 (Or.inr (slot_ne (Or.inr (hw _ (List.mem_of_getElem? (i := 29) rfl))) (Or.inr (hw _ (List.mem_of_getElem? (i := 31) rfl))) (by decide) (t := .int) (t' := .int) (by decide) (by decide)))
  have Z18 : n0 ≤ h18.size := by rw [W18.size]; exact Z17
  have F18 := k17_2.same W18
  show Go p e below s _ _ _ (T18.setTop (mkF m 235 #[.val (.ref x0), .val (.int x1), .val (.int x2), .val (.int x3), .val (.int x4), .val (.int x5), .val (.int x6), .val (.int (((x1 - (1 : Int32)) / x5) + (1 : Int32))), .val (.long ((1024 : Int64) + ((40 : Int64) * (x3.toInt64)))), .second] []))
  exact g_retV X18 hx hret hlk (hb hby d1_235) (by decide) (by decide) (by rw [e18]; exact ⟨rfl, N18, K18, k18_3, k18_4⟩)
theorem d3_0 : decode prog_53_method_13_code 0 = .ok (.iload_n 1, 1) := by decide +kernel
theorem d3_1 : decode prog_53_method_13_code 1 = .ok (.i2l, 1) := by decide +kernel
theorem d3_2 : decode prog_53_method_13_code 2 = .ok (.aload_n 0, 1) := by decide +kernel
theorem d3_3 : decode prog_53_method_13_code 3 = .ok (.getfield 40, 3) := by decide +kernel
theorem d3_6 : decode prog_53_method_13_code 6 = .ok (.i2l, 1) := by decide +kernel
theorem d3_7 : decode prog_53_method_13_code 7 = .ok (.lmul, 1) := by decide +kernel
theorem d3_8 : decode prog_53_method_13_code 8 = .ok (.iload_n 2, 1) := by decide +kernel
theorem d3_9 : decode prog_53_method_13_code 9 = .ok (.i2l, 1) := by decide +kernel
theorem d3_10 : decode prog_53_method_13_code 10 = .ok (.ladd, 1) := by decide +kernel
theorem d3_11 : decode prog_53_method_13_code 11 = .ok (.lconst 1, 1) := by decide +kernel
theorem d3_12 : decode prog_53_method_13_code 12 = .ok (.ladd, 1) := by decide +kernel
theorem d3_13 : decode prog_53_method_13_code 13 = .ok (.aload_n 0, 1) := by decide +kernel
theorem d3_14 : decode prog_53_method_13_code 14 = .ok (.getfield 36, 3) := by decide +kernel
theorem d3_17 : decode prog_53_method_13_code 17 = .ok (.i2l, 1) := by decide +kernel
theorem d3_18 : decode prog_53_method_13_code 18 = .ok (.lrem, 1) := by decide +kernel
theorem d3_19 : decode prog_53_method_13_code 19 = .ok (.l2i, 1) := by decide +kernel
theorem d3_20 : decode prog_53_method_13_code 20 = .ok (.ireturn, 1) := by decide +kernel
theorem ef_3 (m : MethodId) (x0 : Addr) (x1 : Int32) (x2 : Int32) : entryFrame m #[(.ref x0), (.int x1), (.int x2)] 3 = mkF m 0 #[.val (.ref x0), .val (.int x1), .val (.int x2)] [] := by first | (simp [entryFrame, mkF, argsToLocals, Value.category]; done) | rfl
def f3 (x1 : Int32) (x2 : Int32) (ho : Int32) (pa : Int32) : Int32 := ((((((x1.toInt64) * (pa.toInt64)) + (x2.toInt64)) + (1 : Int64)) % (ho.toInt64)).toInt32)
def Q3 (Z : State) (x0 : Addr) (x1 : Int32) (x2 : Int32) (ho : Int32) (pa : Int32) (h0 : Heap) (v : Option Value) (h : Heap) (L : List Loc) : Prop := v = some (.int (f3 x1 x2 ho pa)) ∧ L = [] ∧ h = h0
set_option maxRecDepth 65536 in
set_option maxHeartbeats 40000000 in
theorem rm3 (l : Launch) (Z : State) (a0 : Array Value) (hw : ∀ d ∈ tables_1, d.before a0 Z = true) (ws : List Jvm.Cond) (x0 : Addr) (x1 : Int32) (x2 : Int32) (ho : Int32) (pa : Int32) (h0 : Heap) (P0 : Fld Z h0 x0 "com/example/itinerant_spider/itinerantspider/simweb/SyntheticWeb" "hosts" "I" (.int ho)) (P1 : Fld Z h0 x0 "com/example/itinerant_spider/itinerantspider/simweb/SyntheticWeb" "pages" "I" (.int pa)) (hz : ¬ ho.toInt64 = 0) :
    MetFree l (⟨"com/example/itinerant_spider/itinerantspider/simweb/SyntheticWeb", "linkedHost", "(II)I"⟩ : MethodName) (head1 (Jvm.Cond.code (⟨"com/example/itinerant_spider/itinerantspider/simweb/SyntheticWeb", "linkedHost", "(II)I"⟩ : MethodName) prog_53_method_13_code 3 (some .int) :: ws) ({ frames := 0, cells := 0, slots := 0, locals := 0 } : Room)) (fun a U => a = #[(.ref x0), (.int x1), (.int x2)] ∧ Z.Warmed39 U.vm ∧ U.heap = h0) (fun _ _ _ _ _ => True) (fun _ U o U' => ∃ v L, o = .returned v ∧ Q3 Z x0 x1 x2 ho pa h0 v U'.heap L ∧ FrameEnd U o U' L ({ frames := 0, cells := 0, slots := 0, locals := 0 } : Room).cells ({ frames := 0, cells := 0, slots := 0, locals := 0 } : Room).slots) := by
  refine g_body (plainFor_of_name pn_1) ?_
  intro p e s m below meth c T0 X0 hx hby hml hret hlk hown hnm hZ e0
  rw [ef_3]
  show Go p e below s _ _ _ (T0.setTop (mkF m 0 #[.val (.ref x0), .val (.int x1), .val (.int x2)] []))
  refine g_iloadN X0 hx 1 (hb hby d3_0) rfl rfl ?_
  show Go p e below s _ _ _ (T0.setTop (mkF m 1 #[.val (.ref x0), .val (.int x1), .val (.int x2)] [(.int x1)]))
  refine g_i2l X0 hx 2 (hb hby d3_1) rfl ?_
  show Go p e below s _ _ _ (T0.setTop (mkF m 2 #[.val (.ref x0), .val (.int x1), .val (.int x2)] [(.long (x1.toInt64))]))
  refine g_aloadN X0 hx 3 (hb hby d3_2) rfl rfl rfl ?_
  show Go p e below s _ _ _ (T0.setTop (mkF m 3 #[.val (.ref x0), .val (.int x1), .val (.int x2)] [(.ref x0), (.long (x1.toInt64))]))
  refine g_getF X0 hx hZ hown (hw _ (List.mem_of_getElem? (i := 20) rfl)) Via.refl e0 P1 6 (hb hby d3_3) rfl ?_
  intro T1 X1 e1
  show Go p e below s _ _ _ (T1.setTop (mkF m 6 #[.val (.ref x0), .val (.int x1), .val (.int x2)] [(.int pa), (.long (x1.toInt64))]))
  refine g_i2l X1 hx 7 (hb hby d3_6) rfl ?_
  show Go p e below s _ _ _ (T1.setTop (mkF m 7 #[.val (.ref x0), .val (.int x1), .val (.int x2)] [(.long (pa.toInt64)), (.long (x1.toInt64))]))
  refine g_lmul X1 hx 8 (hb hby d3_7) rfl ?_
  show Go p e below s _ _ _ (T1.setTop (mkF m 8 #[.val (.ref x0), .val (.int x1), .val (.int x2)] [(.long ((x1.toInt64) * (pa.toInt64)))]))
  refine g_iloadN X1 hx 9 (hb hby d3_8) rfl rfl ?_
  show Go p e below s _ _ _ (T1.setTop (mkF m 9 #[.val (.ref x0), .val (.int x1), .val (.int x2)] [(.int x2), (.long ((x1.toInt64) * (pa.toInt64)))]))
  refine g_i2l X1 hx 10 (hb hby d3_9) rfl ?_
  show Go p e below s _ _ _ (T1.setTop (mkF m 10 #[.val (.ref x0), .val (.int x1), .val (.int x2)] [(.long (x2.toInt64)), (.long ((x1.toInt64) * (pa.toInt64)))]))
  refine g_ladd X1 hx 11 (hb hby d3_10) rfl ?_
  show Go p e below s _ _ _ (T1.setTop (mkF m 11 #[.val (.ref x0), .val (.int x1), .val (.int x2)] [(.long (((x1.toInt64) * (pa.toInt64)) + (x2.toInt64)))]))
  refine g_lconst X1 hx (1 : Int64) 12 (hb hby d3_11) rfl rfl ?_
  show Go p e below s _ _ _ (T1.setTop (mkF m 12 #[.val (.ref x0), .val (.int x1), .val (.int x2)] [(.long (1 : Int64)), (.long (((x1.toInt64) * (pa.toInt64)) + (x2.toInt64)))]))
  refine g_ladd X1 hx 13 (hb hby d3_12) rfl ?_
  show Go p e below s _ _ _ (T1.setTop (mkF m 13 #[.val (.ref x0), .val (.int x1), .val (.int x2)] [(.long ((((x1.toInt64) * (pa.toInt64)) + (x2.toInt64)) + (1 : Int64)))]))
  refine g_aloadN X1 hx 14 (hb hby d3_13) rfl rfl rfl ?_
  show Go p e below s _ _ _ (T1.setTop (mkF m 14 #[.val (.ref x0), .val (.int x1), .val (.int x2)] [(.ref x0), (.long ((((x1.toInt64) * (pa.toInt64)) + (x2.toInt64)) + (1 : Int64)))]))
  refine g_getF X1 hx hZ hown (hw _ (List.mem_of_getElem? (i := 18) rfl)) Via.refl e1 P0 17 (hb hby d3_14) rfl ?_
  intro T2 X2 e2
  show Go p e below s _ _ _ (T2.setTop (mkF m 17 #[.val (.ref x0), .val (.int x1), .val (.int x2)] [(.int ho), (.long ((((x1.toInt64) * (pa.toInt64)) + (x2.toInt64)) + (1 : Int64)))]))
  refine g_i2l X2 hx 18 (hb hby d3_17) rfl ?_
  show Go p e below s _ _ _ (T2.setTop (mkF m 18 #[.val (.ref x0), .val (.int x1), .val (.int x2)] [(.long (ho.toInt64)), (.long ((((x1.toInt64) * (pa.toInt64)) + (x2.toInt64)) + (1 : Int64)))]))
  refine g_lrem X2 hx 19 (hb hby d3_18) hz rfl ?_
  show Go p e below s _ _ _ (T2.setTop (mkF m 19 #[.val (.ref x0), .val (.int x1), .val (.int x2)] [(.long (((((x1.toInt64) * (pa.toInt64)) + (x2.toInt64)) + (1 : Int64)) % (ho.toInt64)))]))
  refine g_l2i X2 hx 20 (hb hby d3_19) rfl ?_
  show Go p e below s _ _ _ (T2.setTop (mkF m 20 #[.val (.ref x0), .val (.int x1), .val (.int x2)] [(.int ((((((x1.toInt64) * (pa.toInt64)) + (x2.toInt64)) + (1 : Int64)) % (ho.toInt64)).toInt32))]))
  exact g_retI X2 hx hret hlk (hb hby d3_20) (by decide) (by decide) ⟨congrArg (fun z => some (Value.int z)) (show ((((((x1.toInt64) * (pa.toInt64)) + (x2.toInt64)) + (1 : Int64)) % (ho.toInt64)).toInt32) = (f3 x1 x2 ho pa) from by rw [f3]), rfl, e2⟩
theorem pd__28IIIIII_29V : parseMethodDescriptor "(IIIIII)V" = some ⟨[.int, .int, .int, .int, .int, .int], none⟩ := by decide +kernel
theorem pd__28II_29I : parseMethodDescriptor "(II)I" = some ⟨[.int, .int], some .int⟩ := by decide +kernel
def z0_12_s0_1 (x4 : Int32) : Int32 := (if (x4 &&& (1 : Int32)) = (0 : Int32) then (0 : Int32) else (1 : Int32))
def z0_26_s0_2 (x4 : Int32) : Int32 := (if (x4 &&& (2 : Int32)) = (0 : Int32) then (0 : Int32) else (1 : Int32))
def z0_50_s0_3 (x0 : Int32) (x4 : Int32) : Int32 := (if (z0_12_s0_1 x4) = (0 : Int32) then ((1 : Int32) + ((x0 &&& (2147483647 : Int32)) % (1000000 : Int32))) else ((1 : Int32) + (x0 &&& (3 : Int32))))
def v0_hosts (x0 : Int32) (x4 : Int32) : Int32 := (z0_50_s0_3 x0 x4)
def z0_74_s0_4 (x1 : Int32) (x4 : Int32) : Int32 := (if (z0_26_s0_2 x4) = (0 : Int32) then ((1 : Int32) + ((x1 &&& (2147483647 : Int32)) % (1000000000 : Int32))) else ((1 : Int32) + (x1 &&& (3 : Int32))))
def v0_pages (x1 : Int32) (x4 : Int32) : Int32 := (z0_74_s0_4 x1 x4)
def z0_107_l9_5 (x0 : Int32) (x2 : Int32) (x4 : Int32) : Int32 := (if (x4 &&& (4 : Int32)) = (0 : Int32) then ((x2 &&& (2147483647 : Int32)) % (v0_hosts x0 x4)) else ((v0_hosts x0 x4) - (1 : Int32)))
def z0_121_l10_6 (x1 : Int32) (x3 : Int32) (x4 : Int32) : Int32 := (if (x4 &&& (8 : Int32)) = (0 : Int32) then ((x3 &&& (2147483647 : Int32)) % (v0_pages x1 x4)) else ((v0_pages x1 x4) - (1 : Int32)))
def z0_132_l10_7 (x1 : Int32) (x3 : Int32) (x4 : Int32) : Int32 := (if (x4 &&& (16 : Int32)) = (0 : Int32) then (z0_121_l10_6 x1 x3 x4) else (0 : Int32))
theorem own_c31 (x : Int32) : (x &&& 2147483647).toInt = x.toInt % 2147483648 := c_mask x 2147483647 31 (by decide) (by decide)
theorem own_c2 (x : Int32) : (x &&& 3).toInt = x.toInt % 4 := c_mask x 3 2 (by decide) (by decide)
theorem own_hb (x0 x4 : Int32) : 1 ≤ (v0_hosts x0 x4).toInt ∧ (v0_hosts x0 x4).toInt ≤ 1000000 := by
  unfold v0_hosts z0_50_s0_3
  have e1 : (1 : Int32).toInt = 1 := rfl
  split
  · have m := own_c31 x0
    have r := (c_irem (x0 &&& 2147483647) 1000000 1000000 rfl).1 (by omega)
    have a := c_iadd 1 ((x0 &&& 2147483647) % 1000000); have ra := rng32 (1 + (x0 &&& 2147483647) % 1000000)
    omega
  · have m := own_c2 x0
    have a := c_iadd 1 (x0 &&& 3); have ra := rng32 (1 + (x0 &&& 3))
    omega
theorem own_pb (x1 x4 : Int32) : 1 ≤ (v0_pages x1 x4).toInt ∧ (v0_pages x1 x4).toInt ≤ 1000000000 := by
  unfold v0_pages z0_74_s0_4
  have e1 : (1 : Int32).toInt = 1 := rfl
  split
  · have m := own_c31 x1
    have r := (c_irem (x1 &&& 2147483647) 1000000000 1000000000 rfl).1 (by omega)
    have a := c_iadd 1 ((x1 &&& 2147483647) % 1000000000); have ra := rng32 (1 + (x1 &&& 2147483647) % 1000000000)
    omega
  · have m := own_c2 x1
    have a := c_iadd 1 (x1 &&& 3); have ra := rng32 (1 + (x1 &&& 3))
    omega
theorem own_nz0 {a : Int32} (h : 1 ≤ a.toInt) : ¬ a = 0 := fun q => by rw [q] at h; exact absurd h (by decide)
theorem own_hz (x0 x4 : Int32) : ¬ v0_hosts x0 x4 = 0 := own_nz0 (own_hb x0 x4).1
theorem own_pz (x1 x4 : Int32) : ¬ v0_pages x1 x4 = 0 := own_nz0 (own_pb x1 x4).1
theorem own_hz64 (x0 x4 : Int32) : ¬ (v0_hosts x0 x4).toInt64 = 0 := fun q => by
  have h := own_hb x0 x4
  rw [← c_i2l, q] at h
  exact absurd h.1 (by decide)
theorem own_hr (x0 x2 x4 : Int32) : 0 ≤ (z0_107_l9_5 x0 x2 x4).toInt ∧ (z0_107_l9_5 x0 x2 x4).toInt < (v0_hosts x0 x4).toInt := by
  have h := own_hb x0 x4
  unfold z0_107_l9_5
  generalize v0_hosts x0 x4 = ho at *
  have e1 : (1 : Int32).toInt = 1 := rfl
  split
  · have m := own_c31 x2
    have r := (c_iremV (x2 &&& 2147483647) ho).1 (by omega) (by omega)
    omega
  · have a := c_isub ho 1; have r := rng32 (ho - 1)
    omega
theorem own_pr (x1 x3 x4 : Int32) : 0 ≤ (z0_132_l10_7 x1 x3 x4).toInt ∧ (z0_132_l10_7 x1 x3 x4).toInt < (v0_pages x1 x4).toInt := by
  have h := own_pb x1 x4
  unfold z0_132_l10_7 z0_121_l10_6
  generalize v0_pages x1 x4 = pa at *
  have e1 : (1 : Int32).toInt = 1 := rfl
  have e0 : (0 : Int32).toInt = 0 := rfl
  split
  · split
    · have m := own_c31 x3
      have r := (c_iremV (x3 &&& 2147483647) pa).1 (by omega) (by omega)
      omega
    · have a := c_isub pa 1; have r := rng32 (pa - 1)
      omega
  · omega

theorem pn_0 : plainName "com/example/itinerant_spider/itinerantspider/simweb/SyntheticWebLinkedHostPinLaw" = true := by first | (simp [plainName, overriddenIn]; done) | decide +kernel
theorem ef_0 (m : MethodId) (x0 : Int32) (x1 : Int32) (x2 : Int32) (x3 : Int32) (x4 : Int32) : entryFrame m #[(.int x0), (.int x1), (.int x2), (.int x3), (.int x4)] maxLocals = mkF m 0 #[.val (.int x0), .val (.int x1), .val (.int x2), .val (.int x3), .val (.int x4), .unset, .unset, .unset, .unset, .unset, .unset, .unset, .unset, .unset, .unset] [] := by first | (simp [entryFrame, mkF, argsToLocals, Value.category, maxLocals]; done) | rfl
def f0 (x0 : Int32) (x1 : Int32) (x2 : Int32) (x3 : Int32) (x4 : Int32) : Int32 := if (f3 (z0_107_l9_5 x0 x2 x4) (z0_132_l10_7 x1 x3 x4) (v0_hosts x0 x4) (v0_pages x1 x4)) < (0 : Int32) then (0 : Int32) else if (f3 (z0_107_l9_5 x0 x2 x4) (z0_132_l10_7 x1 x3 x4) (v0_hosts x0 x4) (v0_pages x1 x4)) < (v0_hosts x0 x4) then (if (0 : Int32) < (z0_132_l10_7 x1 x3 x4) then (if ((f3 (z0_107_l9_5 x0 x2 x4) ((z0_132_l10_7 x1 x3 x4) - (1 : Int32)) (v0_hosts x0 x4) (v0_pages x1 x4)) + (1 : Int32)) = (v0_hosts x0 x4) then (if (f3 (z0_107_l9_5 x0 x2 x4) (z0_132_l10_7 x1 x3 x4) (v0_hosts x0 x4) (v0_pages x1 x4)) = (0 : Int32) then (1 : Int32) else (0 : Int32)) else if (f3 (z0_107_l9_5 x0 x2 x4) (z0_132_l10_7 x1 x3 x4) (v0_hosts x0 x4) (v0_pages x1 x4)) = ((f3 (z0_107_l9_5 x0 x2 x4) ((z0_132_l10_7 x1 x3 x4) - (1 : Int32)) (v0_hosts x0 x4) (v0_pages x1 x4)) + (1 : Int32)) then (1 : Int32) else (0 : Int32)) else if (0 : Int32) < (z0_107_l9_5 x0 x2 x4) then (if ((f3 ((z0_107_l9_5 x0 x2 x4) - (1 : Int32)) ((v0_pages x1 x4) - (1 : Int32)) (v0_hosts x0 x4) (v0_pages x1 x4)) + (1 : Int32)) = (v0_hosts x0 x4) then (if (f3 (z0_107_l9_5 x0 x2 x4) (z0_132_l10_7 x1 x3 x4) (v0_hosts x0 x4) (v0_pages x1 x4)) = (0 : Int32) then (1 : Int32) else (0 : Int32)) else if (f3 (z0_107_l9_5 x0 x2 x4) (z0_132_l10_7 x1 x3 x4) (v0_hosts x0 x4) (v0_pages x1 x4)) = ((f3 ((z0_107_l9_5 x0 x2 x4) - (1 : Int32)) ((v0_pages x1 x4) - (1 : Int32)) (v0_hosts x0 x4) (v0_pages x1 x4)) + (1 : Int32)) then (1 : Int32) else (0 : Int32)) else if (v0_hosts x0 x4) = (1 : Int32) then (if (f3 (z0_107_l9_5 x0 x2 x4) (z0_132_l10_7 x1 x3 x4) (v0_hosts x0 x4) (v0_pages x1 x4)) = (0 : Int32) then (1 : Int32) else (0 : Int32)) else if (f3 (z0_107_l9_5 x0 x2 x4) (z0_132_l10_7 x1 x3 x4) (v0_hosts x0 x4) (v0_pages x1 x4)) = (1 : Int32) then (1 : Int32) else (0 : Int32)) else (0 : Int32)
def Q0 (Z : State) (x0 : Int32) (x1 : Int32) (x2 : Int32) (x3 : Int32) (x4 : Int32) (h0 : Heap) (n0 : Nat) (v : Option Value) (h : Heap) (L : List Loc) : Prop := v = some (.int (f0 x0 x1 x2 x3 x4)) ∧ Fr n0 L
set_option maxRecDepth 65536 in
set_option maxHeartbeats 40000000 in
theorem rm0 (l : Launch) (Z : State) (a0 : Array Value) (hw : ∀ d ∈ tables_1, d.before a0 Z = true) (ws : List Jvm.Cond) (x0 : Int32) (x1 : Int32) (x2 : Int32) (x3 : Int32) (x4 : Int32) (h0 : Heap) (n0 : Nat) (Z0 : n0 ≤ h0.size) :
    MetFree l x (head1 (Jvm.Cond.code x code maxLocals ret :: ws) room_1) (fun a U => a = #[(.int x0), (.int x1), (.int x2), (.int x3), (.int x4)] ∧ Z.Warmed39 U.vm ∧ U.heap = h0) (fun _ _ _ _ _ => True) (fun _ U o U' => ∃ v L, o = .returned v ∧ Q0 Z x0 x1 x2 x3 x4 h0 n0 v U'.heap L ∧ FrameEnd U o U' L room_1.cells room_1.slots) := by
  refine g_body (plainFor_of_name pn_0) ?_
  intro p e s m below meth c T0 X0 hx hby hml hret hlk hown hnm hZ e0
  rw [ef_0]
  have N0 := Fr.nil n0
  show Go p e below s _ _ _ (T0.setTop (mkF m 0 #[.val (.int x0), .val (.int x1), .val (.int x2), .val (.int x3), .val (.int x4), .unset, .unset, .unset, .unset, .unset, .unset, .unset, .unset, .unset, .unset] []))
  refine g_iload X0 hx 2 (hb hby at_0) rfl rfl ?_
  show Go p e below s _ _ _ (T0.setTop (mkF m 2 #[.val (.int x0), .val (.int x1), .val (.int x2), .val (.int x3), .val (.int x4), .unset, .unset, .unset, .unset, .unset, .unset, .unset, .unset, .unset, .unset] [(.int x4)]))
  refine g_iconst X0 hx (1 : Int32) 3 (hb hby at_2) rfl rfl ?_
  show Go p e below s _ _ _ (T0.setTop (mkF m 3 #[.val (.int x0), .val (.int x1), .val (.int x2), .val (.int x3), .val (.int x4), .unset, .unset, .unset, .unset, .unset, .unset, .unset, .unset, .unset, .unset] [(.int (1 : Int32)), (.int x4)]))
  refine g_iand X0 hx 4 (hb hby at_3) rfl ?_
  show Go p e below s _ _ _ (T0.setTop (mkF m 4 #[.val (.int x0), .val (.int x1), .val (.int x2), .val (.int x3), .val (.int x4), .unset, .unset, .unset, .unset, .unset, .unset, .unset, .unset, .unset, .unset] [(.int (x4 &&& (1 : Int32)))]))
  have J1 : Go p e below s (Q0 Z x0 x1 x2 x3 x4 h0 n0) room_1.cells room_1.slots (T0.setTop (mkF m 12 #[.val (.int x0), .val (.int x1), .val (.int x2), .val (.int x3), .val (.int x4), .unset, .unset, .unset, .unset, .unset, .unset, .unset, .unset, .unset, .unset] [(.int (z0_12_s0_1 x4))])) := by
    refine g_istore X0 hx #[.val (.int x0), .val (.int x1), .val (.int x2), .val (.int x3), .val (.int x4), .val (.int (z0_12_s0_1 x4)), .unset, .unset, .unset, .unset, .unset, .unset, .unset, .unset, .unset] 14 (hb hby at_12) rfl rfl ?_
    show Go p e below s _ _ _ (T0.setTop (mkF m 14 #[.val (.int x0), .val (.int x1), .val (.int x2), .val (.int x3), .val (.int x4), .val (.int (z0_12_s0_1 x4)), .unset, .unset, .unset, .unset, .unset, .unset, .unset, .unset, .unset] []))
    refine g_iload X0 hx 16 (hb hby at_14) rfl rfl ?_
    show Go p e below s _ _ _ (T0.setTop (mkF m 16 #[.val (.int x0), .val (.int x1), .val (.int x2), .val (.int x3), .val (.int x4), .val (.int (z0_12_s0_1 x4)), .unset, .unset, .unset, .unset, .unset, .unset, .unset, .unset, .unset] [(.int x4)]))
    refine g_iconst X0 hx (2 : Int32) 17 (hb hby at_16) rfl rfl ?_
    show Go p e below s _ _ _ (T0.setTop (mkF m 17 #[.val (.int x0), .val (.int x1), .val (.int x2), .val (.int x3), .val (.int x4), .val (.int (z0_12_s0_1 x4)), .unset, .unset, .unset, .unset, .unset, .unset, .unset, .unset, .unset] [(.int (2 : Int32)), (.int x4)]))
    refine g_iand X0 hx 18 (hb hby at_17) rfl ?_
    show Go p e below s _ _ _ (T0.setTop (mkF m 18 #[.val (.int x0), .val (.int x1), .val (.int x2), .val (.int x3), .val (.int x4), .val (.int (z0_12_s0_1 x4)), .unset, .unset, .unset, .unset, .unset, .unset, .unset, .unset, .unset] [(.int (x4 &&& (2 : Int32)))]))
    have J2 : Go p e below s (Q0 Z x0 x1 x2 x3 x4 h0 n0) room_1.cells room_1.slots (T0.setTop (mkF m 26 #[.val (.int x0), .val (.int x1), .val (.int x2), .val (.int x3), .val (.int x4), .val (.int (z0_12_s0_1 x4)), .unset, .unset, .unset, .unset, .unset, .unset, .unset, .unset, .unset] [(.int (z0_26_s0_2 x4))])) := by
      refine g_istore X0 hx #[.val (.int x0), .val (.int x1), .val (.int x2), .val (.int x3), .val (.int x4), .val (.int (z0_12_s0_1 x4)), .val (.int (z0_26_s0_2 x4)), .unset, .unset, .unset, .unset, .unset, .unset, .unset, .unset] 28 (hb hby at_26) rfl rfl ?_
      show Go p e below s _ _ _ (T0.setTop (mkF m 28 #[.val (.int x0), .val (.int x1), .val (.int x2), .val (.int x3), .val (.int x4), .val (.int (z0_12_s0_1 x4)), .val (.int (z0_26_s0_2 x4)), .unset, .unset, .unset, .unset, .unset, .unset, .unset, .unset] []))
      refine g_iload X0 hx 30 (hb hby at_28) rfl rfl ?_
      show Go p e below s _ _ _ (T0.setTop (mkF m 30 #[.val (.int x0), .val (.int x1), .val (.int x2), .val (.int x3), .val (.int x4), .val (.int (z0_12_s0_1 x4)), .val (.int (z0_26_s0_2 x4)), .unset, .unset, .unset, .unset, .unset, .unset, .unset, .unset] [(.int (z0_12_s0_1 x4))]))
      have J3 : Go p e below s (Q0 Z x0 x1 x2 x3 x4 h0 n0) room_1.cells room_1.slots (T0.setTop (mkF m 50 #[.val (.int x0), .val (.int x1), .val (.int x2), .val (.int x3), .val (.int x4), .val (.int (z0_12_s0_1 x4)), .val (.int (z0_26_s0_2 x4)), .unset, .unset, .unset, .unset, .unset, .unset, .unset, .unset] [(.int (z0_50_s0_3 x0 x4))])) := by
        refine g_istore X0 hx #[.val (.int x0), .val (.int x1), .val (.int x2), .val (.int x3), .val (.int x4), .val (.int (z0_12_s0_1 x4)), .val (.int (z0_26_s0_2 x4)), .val (.int (v0_hosts x0 x4)), .unset, .unset, .unset, .unset, .unset, .unset, .unset] 52 (hb hby at_50) rfl rfl ?_
        show Go p e below s _ _ _ (T0.setTop (mkF m 52 #[.val (.int x0), .val (.int x1), .val (.int x2), .val (.int x3), .val (.int x4), .val (.int (z0_12_s0_1 x4)), .val (.int (z0_26_s0_2 x4)), .val (.int (v0_hosts x0 x4)), .unset, .unset, .unset, .unset, .unset, .unset, .unset] []))
        refine g_iload X0 hx 54 (hb hby at_52) rfl rfl ?_
        show Go p e below s _ _ _ (T0.setTop (mkF m 54 #[.val (.int x0), .val (.int x1), .val (.int x2), .val (.int x3), .val (.int x4), .val (.int (z0_12_s0_1 x4)), .val (.int (z0_26_s0_2 x4)), .val (.int (v0_hosts x0 x4)), .unset, .unset, .unset, .unset, .unset, .unset, .unset] [(.int (z0_26_s0_2 x4))]))
        have J4 : Go p e below s (Q0 Z x0 x1 x2 x3 x4 h0 n0) room_1.cells room_1.slots (T0.setTop (mkF m 74 #[.val (.int x0), .val (.int x1), .val (.int x2), .val (.int x3), .val (.int x4), .val (.int (z0_12_s0_1 x4)), .val (.int (z0_26_s0_2 x4)), .val (.int (v0_hosts x0 x4)), .unset, .unset, .unset, .unset, .unset, .unset, .unset] [(.int (z0_74_s0_4 x1 x4))])) := by
          refine g_istore X0 hx #[.val (.int x0), .val (.int x1), .val (.int x2), .val (.int x3), .val (.int x4), .val (.int (z0_12_s0_1 x4)), .val (.int (z0_26_s0_2 x4)), .val (.int (v0_hosts x0 x4)), .val (.int (v0_pages x1 x4)), .unset, .unset, .unset, .unset, .unset, .unset] 76 (hb hby at_74) rfl rfl ?_
          show Go p e below s _ _ _ (T0.setTop (mkF m 76 #[.val (.int x0), .val (.int x1), .val (.int x2), .val (.int x3), .val (.int x4), .val (.int (z0_12_s0_1 x4)), .val (.int (z0_26_s0_2 x4)), .val (.int (v0_hosts x0 x4)), .val (.int (v0_pages x1 x4)), .unset, .unset, .unset, .unset, .unset, .unset] []))
          refine g_iloadN X0 hx 77 (hb hby at_76) rfl rfl ?_
          show Go p e below s _ _ _ (T0.setTop (mkF m 77 #[.val (.int x0), .val (.int x1), .val (.int x2), .val (.int x3), .val (.int x4), .val (.int (z0_12_s0_1 x4)), .val (.int (z0_26_s0_2 x4)), .val (.int (v0_hosts x0 x4)), .val (.int (v0_pages x1 x4)), .unset, .unset, .unset, .unset, .unset, .unset] [(.int x2)]))
          refine g_ldc X0 hx hZ hown (hw _ (List.mem_of_getElem? (i := 0) rfl)) 79 (hb hby at_77) rfl ?_
          show Go p e below s _ _ _ (T0.setTop (mkF m 79 #[.val (.int x0), .val (.int x1), .val (.int x2), .val (.int x3), .val (.int x4), .val (.int (z0_12_s0_1 x4)), .val (.int (z0_26_s0_2 x4)), .val (.int (v0_hosts x0 x4)), .val (.int (v0_pages x1 x4)), .unset, .unset, .unset, .unset, .unset, .unset] [(.int (2147483647 : Int32)), (.int x2)]))
          refine g_iand X0 hx 80 (hb hby at_79) rfl ?_
          show Go p e below s _ _ _ (T0.setTop (mkF m 80 #[.val (.int x0), .val (.int x1), .val (.int x2), .val (.int x3), .val (.int x4), .val (.int (z0_12_s0_1 x4)), .val (.int (z0_26_s0_2 x4)), .val (.int (v0_hosts x0 x4)), .val (.int (v0_pages x1 x4)), .unset, .unset, .unset, .unset, .unset, .unset] [(.int (x2 &&& (2147483647 : Int32)))]))
          refine g_iload X0 hx 82 (hb hby at_80) rfl rfl ?_
          show Go p e below s _ _ _ (T0.setTop (mkF m 82 #[.val (.int x0), .val (.int x1), .val (.int x2), .val (.int x3), .val (.int x4), .val (.int (z0_12_s0_1 x4)), .val (.int (z0_26_s0_2 x4)), .val (.int (v0_hosts x0 x4)), .val (.int (v0_pages x1 x4)), .unset, .unset, .unset, .unset, .unset, .unset] [(.int (v0_hosts x0 x4)), (.int (x2 &&& (2147483647 : Int32)))]))
          refine g_irem X0 hx 83 (hb hby at_82) (own_hz x0 x4) rfl ?_
          show Go p e below s _ _ _ (T0.setTop (mkF m 83 #[.val (.int x0), .val (.int x1), .val (.int x2), .val (.int x3), .val (.int x4), .val (.int (z0_12_s0_1 x4)), .val (.int (z0_26_s0_2 x4)), .val (.int (v0_hosts x0 x4)), .val (.int (v0_pages x1 x4)), .unset, .unset, .unset, .unset, .unset, .unset] [(.int ((x2 &&& (2147483647 : Int32)) % (v0_hosts x0 x4)))]))
          refine g_istore X0 hx #[.val (.int x0), .val (.int x1), .val (.int x2), .val (.int x3), .val (.int x4), .val (.int (z0_12_s0_1 x4)), .val (.int (z0_26_s0_2 x4)), .val (.int (v0_hosts x0 x4)), .val (.int (v0_pages x1 x4)), .val (.int ((x2 &&& (2147483647 : Int32)) % (v0_hosts x0 x4))), .unset, .unset, .unset, .unset, .unset] 85 (hb hby at_83) rfl rfl ?_
          show Go p e below s _ _ _ (T0.setTop (mkF m 85 #[.val (.int x0), .val (.int x1), .val (.int x2), .val (.int x3), .val (.int x4), .val (.int (z0_12_s0_1 x4)), .val (.int (z0_26_s0_2 x4)), .val (.int (v0_hosts x0 x4)), .val (.int (v0_pages x1 x4)), .val (.int ((x2 &&& (2147483647 : Int32)) % (v0_hosts x0 x4))), .unset, .unset, .unset, .unset, .unset] []))
          refine g_iloadN X0 hx 86 (hb hby at_85) rfl rfl ?_
          show Go p e below s _ _ _ (T0.setTop (mkF m 86 #[.val (.int x0), .val (.int x1), .val (.int x2), .val (.int x3), .val (.int x4), .val (.int (z0_12_s0_1 x4)), .val (.int (z0_26_s0_2 x4)), .val (.int (v0_hosts x0 x4)), .val (.int (v0_pages x1 x4)), .val (.int ((x2 &&& (2147483647 : Int32)) % (v0_hosts x0 x4))), .unset, .unset, .unset, .unset, .unset] [(.int x3)]))
          refine g_ldc X0 hx hZ hown (hw _ (List.mem_of_getElem? (i := 0) rfl)) 88 (hb hby at_86) rfl ?_
          show Go p e below s _ _ _ (T0.setTop (mkF m 88 #[.val (.int x0), .val (.int x1), .val (.int x2), .val (.int x3), .val (.int x4), .val (.int (z0_12_s0_1 x4)), .val (.int (z0_26_s0_2 x4)), .val (.int (v0_hosts x0 x4)), .val (.int (v0_pages x1 x4)), .val (.int ((x2 &&& (2147483647 : Int32)) % (v0_hosts x0 x4))), .unset, .unset, .unset, .unset, .unset] [(.int (2147483647 : Int32)), (.int x3)]))
          refine g_iand X0 hx 89 (hb hby at_88) rfl ?_
          show Go p e below s _ _ _ (T0.setTop (mkF m 89 #[.val (.int x0), .val (.int x1), .val (.int x2), .val (.int x3), .val (.int x4), .val (.int (z0_12_s0_1 x4)), .val (.int (z0_26_s0_2 x4)), .val (.int (v0_hosts x0 x4)), .val (.int (v0_pages x1 x4)), .val (.int ((x2 &&& (2147483647 : Int32)) % (v0_hosts x0 x4))), .unset, .unset, .unset, .unset, .unset] [(.int (x3 &&& (2147483647 : Int32)))]))
          refine g_iload X0 hx 91 (hb hby at_89) rfl rfl ?_
          show Go p e below s _ _ _ (T0.setTop (mkF m 91 #[.val (.int x0), .val (.int x1), .val (.int x2), .val (.int x3), .val (.int x4), .val (.int (z0_12_s0_1 x4)), .val (.int (z0_26_s0_2 x4)), .val (.int (v0_hosts x0 x4)), .val (.int (v0_pages x1 x4)), .val (.int ((x2 &&& (2147483647 : Int32)) % (v0_hosts x0 x4))), .unset, .unset, .unset, .unset, .unset] [(.int (v0_pages x1 x4)), (.int (x3 &&& (2147483647 : Int32)))]))
          refine g_irem X0 hx 92 (hb hby at_91) (own_pz x1 x4) rfl ?_
          show Go p e below s _ _ _ (T0.setTop (mkF m 92 #[.val (.int x0), .val (.int x1), .val (.int x2), .val (.int x3), .val (.int x4), .val (.int (z0_12_s0_1 x4)), .val (.int (z0_26_s0_2 x4)), .val (.int (v0_hosts x0 x4)), .val (.int (v0_pages x1 x4)), .val (.int ((x2 &&& (2147483647 : Int32)) % (v0_hosts x0 x4))), .unset, .unset, .unset, .unset, .unset] [(.int ((x3 &&& (2147483647 : Int32)) % (v0_pages x1 x4)))]))
          refine g_istore X0 hx #[.val (.int x0), .val (.int x1), .val (.int x2), .val (.int x3), .val (.int x4), .val (.int (z0_12_s0_1 x4)), .val (.int (z0_26_s0_2 x4)), .val (.int (v0_hosts x0 x4)), .val (.int (v0_pages x1 x4)), .val (.int ((x2 &&& (2147483647 : Int32)) % (v0_hosts x0 x4))), .val (.int ((x3 &&& (2147483647 : Int32)) % (v0_pages x1 x4))), .unset, .unset, .unset, .unset] 94 (hb hby at_92) rfl rfl ?_
          show Go p e below s _ _ _ (T0.setTop (mkF m 94 #[.val (.int x0), .val (.int x1), .val (.int x2), .val (.int x3), .val (.int x4), .val (.int (z0_12_s0_1 x4)), .val (.int (z0_26_s0_2 x4)), .val (.int (v0_hosts x0 x4)), .val (.int (v0_pages x1 x4)), .val (.int ((x2 &&& (2147483647 : Int32)) % (v0_hosts x0 x4))), .val (.int ((x3 &&& (2147483647 : Int32)) % (v0_pages x1 x4))), .unset, .unset, .unset, .unset] []))
          refine g_iload X0 hx 96 (hb hby at_94) rfl rfl ?_
          show Go p e below s _ _ _ (T0.setTop (mkF m 96 #[.val (.int x0), .val (.int x1), .val (.int x2), .val (.int x3), .val (.int x4), .val (.int (z0_12_s0_1 x4)), .val (.int (z0_26_s0_2 x4)), .val (.int (v0_hosts x0 x4)), .val (.int (v0_pages x1 x4)), .val (.int ((x2 &&& (2147483647 : Int32)) % (v0_hosts x0 x4))), .val (.int ((x3 &&& (2147483647 : Int32)) % (v0_pages x1 x4))), .unset, .unset, .unset, .unset] [(.int x4)]))
          refine g_iconst X0 hx (4 : Int32) 97 (hb hby at_96) rfl rfl ?_
          show Go p e below s _ _ _ (T0.setTop (mkF m 97 #[.val (.int x0), .val (.int x1), .val (.int x2), .val (.int x3), .val (.int x4), .val (.int (z0_12_s0_1 x4)), .val (.int (z0_26_s0_2 x4)), .val (.int (v0_hosts x0 x4)), .val (.int (v0_pages x1 x4)), .val (.int ((x2 &&& (2147483647 : Int32)) % (v0_hosts x0 x4))), .val (.int ((x3 &&& (2147483647 : Int32)) % (v0_pages x1 x4))), .unset, .unset, .unset, .unset] [(.int (4 : Int32)), (.int x4)]))
          refine g_iand X0 hx 98 (hb hby at_97) rfl ?_
          show Go p e below s _ _ _ (T0.setTop (mkF m 98 #[.val (.int x0), .val (.int x1), .val (.int x2), .val (.int x3), .val (.int x4), .val (.int (z0_12_s0_1 x4)), .val (.int (z0_26_s0_2 x4)), .val (.int (v0_hosts x0 x4)), .val (.int (v0_pages x1 x4)), .val (.int ((x2 &&& (2147483647 : Int32)) % (v0_hosts x0 x4))), .val (.int ((x3 &&& (2147483647 : Int32)) % (v0_pages x1 x4))), .unset, .unset, .unset, .unset] [(.int (x4 &&& (4 : Int32)))]))
          have J5 : Go p e below s (Q0 Z x0 x1 x2 x3 x4 h0 n0) room_1.cells room_1.slots (T0.setTop (mkF m 107 #[.val (.int x0), .val (.int x1), .val (.int x2), .val (.int x3), .val (.int x4), .val (.int (z0_12_s0_1 x4)), .val (.int (z0_26_s0_2 x4)), .val (.int (v0_hosts x0 x4)), .val (.int (v0_pages x1 x4)), .val (.int (z0_107_l9_5 x0 x2 x4)), .val (.int ((x3 &&& (2147483647 : Int32)) % (v0_pages x1 x4))), .unset, .unset, .unset, .unset] [])) := by
            refine g_iload X0 hx 109 (hb hby at_107) rfl rfl ?_
            show Go p e below s _ _ _ (T0.setTop (mkF m 109 #[.val (.int x0), .val (.int x1), .val (.int x2), .val (.int x3), .val (.int x4), .val (.int (z0_12_s0_1 x4)), .val (.int (z0_26_s0_2 x4)), .val (.int (v0_hosts x0 x4)), .val (.int (v0_pages x1 x4)), .val (.int (z0_107_l9_5 x0 x2 x4)), .val (.int ((x3 &&& (2147483647 : Int32)) % (v0_pages x1 x4))), .unset, .unset, .unset, .unset] [(.int x4)]))
            refine g_bipush X0 hx (8 : Int32) 111 (hb hby at_109) rfl rfl ?_
            show Go p e below s _ _ _ (T0.setTop (mkF m 111 #[.val (.int x0), .val (.int x1), .val (.int x2), .val (.int x3), .val (.int x4), .val (.int (z0_12_s0_1 x4)), .val (.int (z0_26_s0_2 x4)), .val (.int (v0_hosts x0 x4)), .val (.int (v0_pages x1 x4)), .val (.int (z0_107_l9_5 x0 x2 x4)), .val (.int ((x3 &&& (2147483647 : Int32)) % (v0_pages x1 x4))), .unset, .unset, .unset, .unset] [(.int (8 : Int32)), (.int x4)]))
            refine g_iand X0 hx 112 (hb hby at_111) rfl ?_
            show Go p e below s _ _ _ (T0.setTop (mkF m 112 #[.val (.int x0), .val (.int x1), .val (.int x2), .val (.int x3), .val (.int x4), .val (.int (z0_12_s0_1 x4)), .val (.int (z0_26_s0_2 x4)), .val (.int (v0_hosts x0 x4)), .val (.int (v0_pages x1 x4)), .val (.int (z0_107_l9_5 x0 x2 x4)), .val (.int ((x3 &&& (2147483647 : Int32)) % (v0_pages x1 x4))), .unset, .unset, .unset, .unset] [(.int (x4 &&& (8 : Int32)))]))
            have J6 : Go p e below s (Q0 Z x0 x1 x2 x3 x4 h0 n0) room_1.cells room_1.slots (T0.setTop (mkF m 121 #[.val (.int x0), .val (.int x1), .val (.int x2), .val (.int x3), .val (.int x4), .val (.int (z0_12_s0_1 x4)), .val (.int (z0_26_s0_2 x4)), .val (.int (v0_hosts x0 x4)), .val (.int (v0_pages x1 x4)), .val (.int (z0_107_l9_5 x0 x2 x4)), .val (.int (z0_121_l10_6 x1 x3 x4)), .unset, .unset, .unset, .unset] [])) := by
              refine g_iload X0 hx 123 (hb hby at_121) rfl rfl ?_
              show Go p e below s _ _ _ (T0.setTop (mkF m 123 #[.val (.int x0), .val (.int x1), .val (.int x2), .val (.int x3), .val (.int x4), .val (.int (z0_12_s0_1 x4)), .val (.int (z0_26_s0_2 x4)), .val (.int (v0_hosts x0 x4)), .val (.int (v0_pages x1 x4)), .val (.int (z0_107_l9_5 x0 x2 x4)), .val (.int (z0_121_l10_6 x1 x3 x4)), .unset, .unset, .unset, .unset] [(.int x4)]))
              refine g_bipush X0 hx (16 : Int32) 125 (hb hby at_123) rfl rfl ?_
              show Go p e below s _ _ _ (T0.setTop (mkF m 125 #[.val (.int x0), .val (.int x1), .val (.int x2), .val (.int x3), .val (.int x4), .val (.int (z0_12_s0_1 x4)), .val (.int (z0_26_s0_2 x4)), .val (.int (v0_hosts x0 x4)), .val (.int (v0_pages x1 x4)), .val (.int (z0_107_l9_5 x0 x2 x4)), .val (.int (z0_121_l10_6 x1 x3 x4)), .unset, .unset, .unset, .unset] [(.int (16 : Int32)), (.int x4)]))
              refine g_iand X0 hx 126 (hb hby at_125) rfl ?_
              show Go p e below s _ _ _ (T0.setTop (mkF m 126 #[.val (.int x0), .val (.int x1), .val (.int x2), .val (.int x3), .val (.int x4), .val (.int (z0_12_s0_1 x4)), .val (.int (z0_26_s0_2 x4)), .val (.int (v0_hosts x0 x4)), .val (.int (v0_pages x1 x4)), .val (.int (z0_107_l9_5 x0 x2 x4)), .val (.int (z0_121_l10_6 x1 x3 x4)), .unset, .unset, .unset, .unset] [(.int (x4 &&& (16 : Int32)))]))
              have J7 : Go p e below s (Q0 Z x0 x1 x2 x3 x4 h0 n0) room_1.cells room_1.slots (T0.setTop (mkF m 132 #[.val (.int x0), .val (.int x1), .val (.int x2), .val (.int x3), .val (.int x4), .val (.int (z0_12_s0_1 x4)), .val (.int (z0_26_s0_2 x4)), .val (.int (v0_hosts x0 x4)), .val (.int (v0_pages x1 x4)), .val (.int (z0_107_l9_5 x0 x2 x4)), .val (.int (z0_132_l10_7 x1 x3 x4)), .unset, .unset, .unset, .unset] [])) := by
                refine g_new X0 hx hZ hown (hw _ (List.mem_of_getElem? (i := 3) rfl)) (hw _ (List.mem_of_getElem? (i := 4) rfl)) (hw _ (List.mem_of_getElem? (i := 5) rfl)) e0 135 (hb hby at_132) (by decide) (by decide) rfl ?_
                intro T8 h8 b8 g8 X8 e8 E8 A8 D8
                have N_b8 : n0 ≤ b8 := Nat.le_trans Z0 (Nat.le_of_eq g8.symm)
                have Z8 : n0 ≤ h8.size := Nat.le_trans Z0 E8.1
                have F8_hosts : Fld Z h8 b8 "com/example/itinerant_spider/itinerantspider/simweb/SyntheticWeb" "hosts" "I" (.int (0 : Int32)) := D8 (Or.inr (hw _ (List.mem_of_getElem? (i := 19) rfl))) (ty := .int) (by decide)
                have F8_pages : Fld Z h8 b8 "com/example/itinerant_spider/itinerantspider/simweb/SyntheticWeb" "pages" "I" (.int (0 : Int32)) := D8 (Or.inr (hw _ (List.mem_of_getElem? (i := 21) rfl))) (ty := .int) (by decide)
                have F8_links : Fld Z h8 b8 "com/example/itinerant_spider/itinerantspider/simweb/SyntheticWeb" "links" "I" (.int (0 : Int32)) := D8 (Or.inr (hw _ (List.mem_of_getElem? (i := 23) rfl))) (ty := .int) (by decide)
                have F8_pageBytes : Fld Z h8 b8 "com/example/itinerant_spider/itinerantspider/simweb/SyntheticWeb" "pageBytes" "I" (.int (0 : Int32)) := D8 (Or.inr (hw _ (List.mem_of_getElem? (i := 25) rfl))) (ty := .int) (by decide)
                have F8_hostsPerAddress : Fld Z h8 b8 "com/example/itinerant_spider/itinerantspider/simweb/SyntheticWeb" "hostsPerAddress" "I" (.int (0 : Int32)) := D8 (Or.inr (hw _ (List.mem_of_getElem? (i := 27) rfl))) (ty := .int) (by decide)
                have F8_port : Fld Z h8 b8 "com/example/itinerant_spider/itinerantspider/simweb/SyntheticWeb" "port" "I" (.int (0 : Int32)) := D8 (Or.inr (hw _ (List.mem_of_getElem? (i := 29) rfl))) (ty := .int) (by decide)
                have F8_addresses : Fld Z h8 b8 "com/example/itinerant_spider/itinerantspider/simweb/SyntheticWeb" "addresses" "I" (.int (0 : Int32)) := D8 (Or.inr (hw _ (List.mem_of_getElem? (i := 31) rfl))) (ty := .int) (by decide)
                show Go p e below s _ _ _ (T8.setTop (mkF m 135 #[.val (.int x0), .val (.int x1), .val (.int x2), .val (.int x3), .val (.int x4), .val (.int (z0_12_s0_1 x4)), .val (.int (z0_26_s0_2 x4)), .val (.int (v0_hosts x0 x4)), .val (.int (v0_pages x1 x4)), .val (.int (z0_107_l9_5 x0 x2 x4)), .val (.int (z0_132_l10_7 x1 x3 x4)), .unset, .unset, .unset, .unset] [(.ref b8)]))
                refine g_dup X8 hx 136 (hb hby at_135) rfl rfl ?_
                show Go p e below s _ _ _ (T8.setTop (mkF m 136 #[.val (.int x0), .val (.int x1), .val (.int x2), .val (.int x3), .val (.int x4), .val (.int (z0_12_s0_1 x4)), .val (.int (z0_26_s0_2 x4)), .val (.int (v0_hosts x0 x4)), .val (.int (v0_pages x1 x4)), .val (.int (z0_107_l9_5 x0 x2 x4)), .val (.int (z0_132_l10_7 x1 x3 x4)), .unset, .unset, .unset, .unset] [(.ref b8), (.ref b8)]))
                refine g_iload X8 hx 138 (hb hby at_136) rfl rfl ?_
                show Go p e below s _ _ _ (T8.setTop (mkF m 138 #[.val (.int x0), .val (.int x1), .val (.int x2), .val (.int x3), .val (.int x4), .val (.int (z0_12_s0_1 x4)), .val (.int (z0_26_s0_2 x4)), .val (.int (v0_hosts x0 x4)), .val (.int (v0_pages x1 x4)), .val (.int (z0_107_l9_5 x0 x2 x4)), .val (.int (z0_132_l10_7 x1 x3 x4)), .unset, .unset, .unset, .unset] [(.int (v0_hosts x0 x4)), (.ref b8), (.ref b8)]))
                refine g_iload X8 hx 140 (hb hby at_138) rfl rfl ?_
                show Go p e below s _ _ _ (T8.setTop (mkF m 140 #[.val (.int x0), .val (.int x1), .val (.int x2), .val (.int x3), .val (.int x4), .val (.int (z0_12_s0_1 x4)), .val (.int (z0_26_s0_2 x4)), .val (.int (v0_hosts x0 x4)), .val (.int (v0_pages x1 x4)), .val (.int (z0_107_l9_5 x0 x2 x4)), .val (.int (z0_132_l10_7 x1 x3 x4)), .unset, .unset, .unset, .unset] [(.int (v0_pages x1 x4)), (.int (v0_hosts x0 x4)), (.ref b8), (.ref b8)]))
                refine g_iconst X8 hx (0 : Int32) 141 (hb hby at_140) rfl rfl ?_
                show Go p e below s _ _ _ (T8.setTop (mkF m 141 #[.val (.int x0), .val (.int x1), .val (.int x2), .val (.int x3), .val (.int x4), .val (.int (z0_12_s0_1 x4)), .val (.int (z0_26_s0_2 x4)), .val (.int (v0_hosts x0 x4)), .val (.int (v0_pages x1 x4)), .val (.int (z0_107_l9_5 x0 x2 x4)), .val (.int (z0_132_l10_7 x1 x3 x4)), .unset, .unset, .unset, .unset] [(.int (0 : Int32)), (.int (v0_pages x1 x4)), (.int (v0_hosts x0 x4)), (.ref b8), (.ref b8)]))
                refine g_sipush X8 hx (1024 : Int32) 144 (hb hby at_141) rfl rfl ?_
                show Go p e below s _ _ _ (T8.setTop (mkF m 144 #[.val (.int x0), .val (.int x1), .val (.int x2), .val (.int x3), .val (.int x4), .val (.int (z0_12_s0_1 x4)), .val (.int (z0_26_s0_2 x4)), .val (.int (v0_hosts x0 x4)), .val (.int (v0_pages x1 x4)), .val (.int (z0_107_l9_5 x0 x2 x4)), .val (.int (z0_132_l10_7 x1 x3 x4)), .unset, .unset, .unset, .unset] [(.int (1024 : Int32)), (.int (0 : Int32)), (.int (v0_pages x1 x4)), (.int (v0_hosts x0 x4)), (.ref b8), (.ref b8)]))
                refine g_ldc X8 hx hZ hown (hw _ (List.mem_of_getElem? (i := 1) rfl)) 146 (hb hby at_144) rfl ?_
                show Go p e below s _ _ _ (T8.setTop (mkF m 146 #[.val (.int x0), .val (.int x1), .val (.int x2), .val (.int x3), .val (.int x4), .val (.int (z0_12_s0_1 x4)), .val (.int (z0_26_s0_2 x4)), .val (.int (v0_hosts x0 x4)), .val (.int (v0_pages x1 x4)), .val (.int (z0_107_l9_5 x0 x2 x4)), .val (.int (z0_132_l10_7 x1 x3 x4)), .unset, .unset, .unset, .unset] [(.int (1000000 : Int32)), (.int (1024 : Int32)), (.int (0 : Int32)), (.int (v0_pages x1 x4)), (.int (v0_hosts x0 x4)), (.ref b8), (.ref b8)]))
                refine g_iconst X8 hx (1 : Int32) 147 (hb hby at_146) rfl rfl ?_
                show Go p e below s _ _ _ (T8.setTop (mkF m 147 #[.val (.int x0), .val (.int x1), .val (.int x2), .val (.int x3), .val (.int x4), .val (.int (z0_12_s0_1 x4)), .val (.int (z0_26_s0_2 x4)), .val (.int (v0_hosts x0 x4)), .val (.int (v0_pages x1 x4)), .val (.int (z0_107_l9_5 x0 x2 x4)), .val (.int (z0_132_l10_7 x1 x3 x4)), .unset, .unset, .unset, .unset] [(.int (1 : Int32)), (.int (1000000 : Int32)), (.int (1024 : Int32)), (.int (0 : Int32)), (.int (v0_pages x1 x4)), (.int (v0_hosts x0 x4)), (.ref b8), (.ref b8)]))
                refine g_callI X8 hx hZ rfl hown (hw _ (List.mem_of_getElem? (i := 6) rfl)) (hw _ (List.mem_of_getElem? (i := 7) rfl)) (hw _ (List.mem_of_getElem? (i := 5) rfl)) (hw _ (List.mem_of_getElem? (i := 8) rfl)) (by decide) e8 (rm1 l Z a0 hw [] b8 (v0_hosts x0 x4) (v0_pages x1 x4) (0 : Int32) (1024 : Int32) (1000000 : Int32) (1 : Int32) h8 n0 Z8 A8 F8_hosts F8_pages F8_links F8_pageBytes F8_hostsPerAddress F8_port F8_addresses N_b8 ((own_hb x0 x4).1 : 1 ≤ (v0_hosts x0 x4).toInt) ((own_hb x0 x4).2 : (v0_hosts x0 x4).toInt ≤ 1000000) ((own_pb x1 x4).1 : 1 ≤ (v0_pages x1 x4).toInt) ((own_pb x1 x4).2 : (v0_pages x1 x4).toInt ≤ 1000000000) (rfl : (0 : Int32) = (0 : Int32)) (rfl : (1024 : Int32) = (1024 : Int32)) (rfl : (1000000 : Int32) = (1000000 : Int32)) (rfl : (1 : Int32) = (1 : Int32))) b8 [(.int (v0_hosts x0 x4)), (.int (v0_pages x1 x4)), (.int (0 : Int32)), (.int (1024 : Int32)), (.int (1000000 : Int32)), (.int (1 : Int32))] [(.ref b8)] 1 rfl (lenOf pd__28IIIIII_29V rfl) rfl (Nat.le_of_eq rfl) (by decide) (by decide) (by decide) (by decide) (by rw [hml]; rfl) (hb hby at_147) ?_
                intro T9 L9 v9 X9 q9
                obtain ⟨rfl, N9, K9, p9_0, p9_1⟩ := q9
                have NN9 := Fr.app N0 N9
                have k9_1 := A8.keep K9
                have Z9 : n0 ≤ T9.heap.size := Nat.le_trans Z8 K9.1
                show Go p e below s _ _ _ (T9.setTop (mkF m 150 #[.val (.int x0), .val (.int x1), .val (.int x2), .val (.int x3), .val (.int x4), .val (.int (z0_12_s0_1 x4)), .val (.int (z0_26_s0_2 x4)), .val (.int (v0_hosts x0 x4)), .val (.int (v0_pages x1 x4)), .val (.int (z0_107_l9_5 x0 x2 x4)), .val (.int (z0_132_l10_7 x1 x3 x4)), .unset, .unset, .unset, .unset] [(.ref b8)]))
                refine g_astore X9 hx #[.val (.int x0), .val (.int x1), .val (.int x2), .val (.int x3), .val (.int x4), .val (.int (z0_12_s0_1 x4)), .val (.int (z0_26_s0_2 x4)), .val (.int (v0_hosts x0 x4)), .val (.int (v0_pages x1 x4)), .val (.int (z0_107_l9_5 x0 x2 x4)), .val (.int (z0_132_l10_7 x1 x3 x4)), .val (.ref b8), .unset, .unset, .unset] 152 (hb hby at_150) rfl rfl rfl ?_
                show Go p e below s _ _ _ (T9.setTop (mkF m 152 #[.val (.int x0), .val (.int x1), .val (.int x2), .val (.int x3), .val (.int x4), .val (.int (z0_12_s0_1 x4)), .val (.int (z0_26_s0_2 x4)), .val (.int (v0_hosts x0 x4)), .val (.int (v0_pages x1 x4)), .val (.int (z0_107_l9_5 x0 x2 x4)), .val (.int (z0_132_l10_7 x1 x3 x4)), .val (.ref b8), .unset, .unset, .unset] []))
                refine g_aload X9 hx 154 (hb hby at_152) rfl rfl rfl ?_
                show Go p e below s _ _ _ (T9.setTop (mkF m 154 #[.val (.int x0), .val (.int x1), .val (.int x2), .val (.int x3), .val (.int x4), .val (.int (z0_12_s0_1 x4)), .val (.int (z0_26_s0_2 x4)), .val (.int (v0_hosts x0 x4)), .val (.int (v0_pages x1 x4)), .val (.int (z0_107_l9_5 x0 x2 x4)), .val (.int (z0_132_l10_7 x1 x3 x4)), .val (.ref b8), .unset, .unset, .unset] [(.ref b8)]))
                refine g_iload X9 hx 156 (hb hby at_154) rfl rfl ?_
                show Go p e below s _ _ _ (T9.setTop (mkF m 156 #[.val (.int x0), .val (.int x1), .val (.int x2), .val (.int x3), .val (.int x4), .val (.int (z0_12_s0_1 x4)), .val (.int (z0_26_s0_2 x4)), .val (.int (v0_hosts x0 x4)), .val (.int (v0_pages x1 x4)), .val (.int (z0_107_l9_5 x0 x2 x4)), .val (.int (z0_132_l10_7 x1 x3 x4)), .val (.ref b8), .unset, .unset, .unset] [(.int (z0_107_l9_5 x0 x2 x4)), (.ref b8)]))
                refine g_iload X9 hx 158 (hb hby at_156) rfl rfl ?_
                show Go p e below s _ _ _ (T9.setTop (mkF m 158 #[.val (.int x0), .val (.int x1), .val (.int x2), .val (.int x3), .val (.int x4), .val (.int (z0_12_s0_1 x4)), .val (.int (z0_26_s0_2 x4)), .val (.int (v0_hosts x0 x4)), .val (.int (v0_pages x1 x4)), .val (.int (z0_107_l9_5 x0 x2 x4)), .val (.int (z0_132_l10_7 x1 x3 x4)), .val (.ref b8), .unset, .unset, .unset] [(.int (z0_132_l10_7 x1 x3 x4)), (.int (z0_107_l9_5 x0 x2 x4)), (.ref b8)]))
                refine g_callV X9 hx hZ hown (hw _ (List.mem_of_getElem? (i := 32) rfl)) (hw _ (List.mem_of_getElem? (i := 33) rfl)) (hw _ (List.mem_of_getElem? (i := 35) rfl)) (hw _ (List.mem_of_getElem? (i := 34) rfl)) (hw _ (List.mem_of_getElem? (i := 5) rfl)) (hw _ (List.mem_of_getElem? (i := 36) rfl)) (by decide) rfl b8 k9_1 (rm3 l Z a0 hw [] b8 (z0_107_l9_5 x0 x2 x4) (z0_132_l10_7 x1 x3 x4) (v0_hosts x0 x4) (v0_pages x1 x4) T9.heap p9_0 p9_1 (own_hz64 x0 x4 : ¬ (v0_hosts x0 x4).toInt64 = 0)) [(.int (z0_107_l9_5 x0 x2 x4)), (.int (z0_132_l10_7 x1 x3 x4))] [] 0 rfl (lenOf pd__28II_29I rfl) rfl (Nat.le_of_eq rfl) (by decide) (by decide) (by decide) (by decide) (by rw [hml]; rfl) (hb hby at_158) ?_
                intro T10 L10 v10 X10 q10
                obtain ⟨rfl, rfl, e10⟩ := q10
                have NS10 := Fr.app NN9 (Fr.nil n0)
                show Go p e below s _ _ _ (T10.setTop (mkF m 161 #[.val (.int x0), .val (.int x1), .val (.int x2), .val (.int x3), .val (.int x4), .val (.int (z0_12_s0_1 x4)), .val (.int (z0_26_s0_2 x4)), .val (.int (v0_hosts x0 x4)), .val (.int (v0_pages x1 x4)), .val (.int (z0_107_l9_5 x0 x2 x4)), .val (.int (z0_132_l10_7 x1 x3 x4)), .val (.ref b8), .unset, .unset, .unset] [(.int (f3 (z0_107_l9_5 x0 x2 x4) (z0_132_l10_7 x1 x3 x4) (v0_hosts x0 x4) (v0_pages x1 x4)))]))
                refine g_istore X10 hx #[.val (.int x0), .val (.int x1), .val (.int x2), .val (.int x3), .val (.int x4), .val (.int (z0_12_s0_1 x4)), .val (.int (z0_26_s0_2 x4)), .val (.int (v0_hosts x0 x4)), .val (.int (v0_pages x1 x4)), .val (.int (z0_107_l9_5 x0 x2 x4)), .val (.int (z0_132_l10_7 x1 x3 x4)), .val (.ref b8), .val (.int (f3 (z0_107_l9_5 x0 x2 x4) (z0_132_l10_7 x1 x3 x4) (v0_hosts x0 x4) (v0_pages x1 x4))), .unset, .unset] 163 (hb hby at_161) rfl rfl ?_
                show Go p e below s _ _ _ (T10.setTop (mkF m 163 #[.val (.int x0), .val (.int x1), .val (.int x2), .val (.int x3), .val (.int x4), .val (.int (z0_12_s0_1 x4)), .val (.int (z0_26_s0_2 x4)), .val (.int (v0_hosts x0 x4)), .val (.int (v0_pages x1 x4)), .val (.int (z0_107_l9_5 x0 x2 x4)), .val (.int (z0_132_l10_7 x1 x3 x4)), .val (.ref b8), .val (.int (f3 (z0_107_l9_5 x0 x2 x4) (z0_132_l10_7 x1 x3 x4) (v0_hosts x0 x4) (v0_pages x1 x4))), .unset, .unset] []))
                refine g_iload X10 hx 165 (hb hby at_163) rfl rfl ?_
                show Go p e below s _ _ _ (T10.setTop (mkF m 165 #[.val (.int x0), .val (.int x1), .val (.int x2), .val (.int x3), .val (.int x4), .val (.int (z0_12_s0_1 x4)), .val (.int (z0_26_s0_2 x4)), .val (.int (v0_hosts x0 x4)), .val (.int (v0_pages x1 x4)), .val (.int (z0_107_l9_5 x0 x2 x4)), .val (.int (z0_132_l10_7 x1 x3 x4)), .val (.ref b8), .val (.int (f3 (z0_107_l9_5 x0 x2 x4) (z0_132_l10_7 x1 x3 x4) (v0_hosts x0 x4) (v0_pages x1 x4))), .unset, .unset] [(.int (f3 (z0_107_l9_5 x0 x2 x4) (z0_132_l10_7 x1 x3 x4) (v0_hosts x0 x4) (v0_pages x1 x4)))]))
                refine g_if0_lt X10 hx 175 168 (hb hby at_165) (by decide) rfl rfl (fun h11 => ?_) (fun h11 => ?_)
                · show Go p e below s _ _ _ (T10.setTop (mkF m 175 #[.val (.int x0), .val (.int x1), .val (.int x2), .val (.int x3), .val (.int x4), .val (.int (z0_12_s0_1 x4)), .val (.int (z0_26_s0_2 x4)), .val (.int (v0_hosts x0 x4)), .val (.int (v0_pages x1 x4)), .val (.int (z0_107_l9_5 x0 x2 x4)), .val (.int (z0_132_l10_7 x1 x3 x4)), .val (.ref b8), .val (.int (f3 (z0_107_l9_5 x0 x2 x4) (z0_132_l10_7 x1 x3 x4) (v0_hosts x0 x4) (v0_pages x1 x4))), .unset, .unset] []))
                  refine g_iconst X10 hx (0 : Int32) 176 (hb hby at_175) rfl rfl ?_
                  show Go p e below s _ _ _ (T10.setTop (mkF m 176 #[.val (.int x0), .val (.int x1), .val (.int x2), .val (.int x3), .val (.int x4), .val (.int (z0_12_s0_1 x4)), .val (.int (z0_26_s0_2 x4)), .val (.int (v0_hosts x0 x4)), .val (.int (v0_pages x1 x4)), .val (.int (z0_107_l9_5 x0 x2 x4)), .val (.int (z0_132_l10_7 x1 x3 x4)), .val (.ref b8), .val (.int (f3 (z0_107_l9_5 x0 x2 x4) (z0_132_l10_7 x1 x3 x4) (v0_hosts x0 x4) (v0_pages x1 x4))), .unset, .unset] [(.int (0 : Int32))]))
                  exact g_retN X10 hx hret (by simp) hlk (hb hby at_176) (by decide) (by decide) ⟨congrArg (fun z => some (Value.int z)) (show (0 : Int32) = (f0 x0 x1 x2 x3 x4) from by rw [f0, if_pos h11]), NS10⟩
                · show Go p e below s _ _ _ (T10.setTop (mkF m 168 #[.val (.int x0), .val (.int x1), .val (.int x2), .val (.int x3), .val (.int x4), .val (.int (z0_12_s0_1 x4)), .val (.int (z0_26_s0_2 x4)), .val (.int (v0_hosts x0 x4)), .val (.int (v0_pages x1 x4)), .val (.int (z0_107_l9_5 x0 x2 x4)), .val (.int (z0_132_l10_7 x1 x3 x4)), .val (.ref b8), .val (.int (f3 (z0_107_l9_5 x0 x2 x4) (z0_132_l10_7 x1 x3 x4) (v0_hosts x0 x4) (v0_pages x1 x4))), .unset, .unset] []))
                  refine g_iload X10 hx 170 (hb hby at_168) rfl rfl ?_
                  show Go p e below s _ _ _ (T10.setTop (mkF m 170 #[.val (.int x0), .val (.int x1), .val (.int x2), .val (.int x3), .val (.int x4), .val (.int (z0_12_s0_1 x4)), .val (.int (z0_26_s0_2 x4)), .val (.int (v0_hosts x0 x4)), .val (.int (v0_pages x1 x4)), .val (.int (z0_107_l9_5 x0 x2 x4)), .val (.int (z0_132_l10_7 x1 x3 x4)), .val (.ref b8), .val (.int (f3 (z0_107_l9_5 x0 x2 x4) (z0_132_l10_7 x1 x3 x4) (v0_hosts x0 x4) (v0_pages x1 x4))), .unset, .unset] [(.int (f3 (z0_107_l9_5 x0 x2 x4) (z0_132_l10_7 x1 x3 x4) (v0_hosts x0 x4) (v0_pages x1 x4)))]))
                  refine g_iload X10 hx 172 (hb hby at_170) rfl rfl ?_
                  show Go p e below s _ _ _ (T10.setTop (mkF m 172 #[.val (.int x0), .val (.int x1), .val (.int x2), .val (.int x3), .val (.int x4), .val (.int (z0_12_s0_1 x4)), .val (.int (z0_26_s0_2 x4)), .val (.int (v0_hosts x0 x4)), .val (.int (v0_pages x1 x4)), .val (.int (z0_107_l9_5 x0 x2 x4)), .val (.int (z0_132_l10_7 x1 x3 x4)), .val (.ref b8), .val (.int (f3 (z0_107_l9_5 x0 x2 x4) (z0_132_l10_7 x1 x3 x4) (v0_hosts x0 x4) (v0_pages x1 x4))), .unset, .unset] [(.int (v0_hosts x0 x4)), (.int (f3 (z0_107_l9_5 x0 x2 x4) (z0_132_l10_7 x1 x3 x4) (v0_hosts x0 x4) (v0_pages x1 x4)))]))
                  refine g_icmp_lt X10 hx 177 175 (hb hby at_172) (by decide) rfl rfl (fun h12 => ?_) (fun h12 => ?_)
                  · show Go p e below s _ _ _ (T10.setTop (mkF m 177 #[.val (.int x0), .val (.int x1), .val (.int x2), .val (.int x3), .val (.int x4), .val (.int (z0_12_s0_1 x4)), .val (.int (z0_26_s0_2 x4)), .val (.int (v0_hosts x0 x4)), .val (.int (v0_pages x1 x4)), .val (.int (z0_107_l9_5 x0 x2 x4)), .val (.int (z0_132_l10_7 x1 x3 x4)), .val (.ref b8), .val (.int (f3 (z0_107_l9_5 x0 x2 x4) (z0_132_l10_7 x1 x3 x4) (v0_hosts x0 x4) (v0_pages x1 x4))), .unset, .unset] []))
                    refine g_iload X10 hx 179 (hb hby at_177) rfl rfl ?_
                    show Go p e below s _ _ _ (T10.setTop (mkF m 179 #[.val (.int x0), .val (.int x1), .val (.int x2), .val (.int x3), .val (.int x4), .val (.int (z0_12_s0_1 x4)), .val (.int (z0_26_s0_2 x4)), .val (.int (v0_hosts x0 x4)), .val (.int (v0_pages x1 x4)), .val (.int (z0_107_l9_5 x0 x2 x4)), .val (.int (z0_132_l10_7 x1 x3 x4)), .val (.ref b8), .val (.int (f3 (z0_107_l9_5 x0 x2 x4) (z0_132_l10_7 x1 x3 x4) (v0_hosts x0 x4) (v0_pages x1 x4))), .unset, .unset] [(.int (z0_132_l10_7 x1 x3 x4))]))
                    refine g_if0_le X10 hx 217 182 (hb hby at_179) (by decide) rfl rfl (fun h13 => ?_) (fun h13 => ?_)
                    · show Go p e below s _ _ _ (T10.setTop (mkF m 182 #[.val (.int x0), .val (.int x1), .val (.int x2), .val (.int x3), .val (.int x4), .val (.int (z0_12_s0_1 x4)), .val (.int (z0_26_s0_2 x4)), .val (.int (v0_hosts x0 x4)), .val (.int (v0_pages x1 x4)), .val (.int (z0_107_l9_5 x0 x2 x4)), .val (.int (z0_132_l10_7 x1 x3 x4)), .val (.ref b8), .val (.int (f3 (z0_107_l9_5 x0 x2 x4) (z0_132_l10_7 x1 x3 x4) (v0_hosts x0 x4) (v0_pages x1 x4))), .unset, .unset] []))
                      refine g_aload X10 hx 184 (hb hby at_182) rfl rfl rfl ?_
                      show Go p e below s _ _ _ (T10.setTop (mkF m 184 #[.val (.int x0), .val (.int x1), .val (.int x2), .val (.int x3), .val (.int x4), .val (.int (z0_12_s0_1 x4)), .val (.int (z0_26_s0_2 x4)), .val (.int (v0_hosts x0 x4)), .val (.int (v0_pages x1 x4)), .val (.int (z0_107_l9_5 x0 x2 x4)), .val (.int (z0_132_l10_7 x1 x3 x4)), .val (.ref b8), .val (.int (f3 (z0_107_l9_5 x0 x2 x4) (z0_132_l10_7 x1 x3 x4) (v0_hosts x0 x4) (v0_pages x1 x4))), .unset, .unset] [(.ref b8)]))
                      refine g_iload X10 hx 186 (hb hby at_184) rfl rfl ?_
                      show Go p e below s _ _ _ (T10.setTop (mkF m 186 #[.val (.int x0), .val (.int x1), .val (.int x2), .val (.int x3), .val (.int x4), .val (.int (z0_12_s0_1 x4)), .val (.int (z0_26_s0_2 x4)), .val (.int (v0_hosts x0 x4)), .val (.int (v0_pages x1 x4)), .val (.int (z0_107_l9_5 x0 x2 x4)), .val (.int (z0_132_l10_7 x1 x3 x4)), .val (.ref b8), .val (.int (f3 (z0_107_l9_5 x0 x2 x4) (z0_132_l10_7 x1 x3 x4) (v0_hosts x0 x4) (v0_pages x1 x4))), .unset, .unset] [(.int (z0_107_l9_5 x0 x2 x4)), (.ref b8)]))
                      refine g_iload X10 hx 188 (hb hby at_186) rfl rfl ?_
                      show Go p e below s _ _ _ (T10.setTop (mkF m 188 #[.val (.int x0), .val (.int x1), .val (.int x2), .val (.int x3), .val (.int x4), .val (.int (z0_12_s0_1 x4)), .val (.int (z0_26_s0_2 x4)), .val (.int (v0_hosts x0 x4)), .val (.int (v0_pages x1 x4)), .val (.int (z0_107_l9_5 x0 x2 x4)), .val (.int (z0_132_l10_7 x1 x3 x4)), .val (.ref b8), .val (.int (f3 (z0_107_l9_5 x0 x2 x4) (z0_132_l10_7 x1 x3 x4) (v0_hosts x0 x4) (v0_pages x1 x4))), .unset, .unset] [(.int (z0_132_l10_7 x1 x3 x4)), (.int (z0_107_l9_5 x0 x2 x4)), (.ref b8)]))
                      refine g_iconst X10 hx (1 : Int32) 189 (hb hby at_188) rfl rfl ?_
                      show Go p e below s _ _ _ (T10.setTop (mkF m 189 #[.val (.int x0), .val (.int x1), .val (.int x2), .val (.int x3), .val (.int x4), .val (.int (z0_12_s0_1 x4)), .val (.int (z0_26_s0_2 x4)), .val (.int (v0_hosts x0 x4)), .val (.int (v0_pages x1 x4)), .val (.int (z0_107_l9_5 x0 x2 x4)), .val (.int (z0_132_l10_7 x1 x3 x4)), .val (.ref b8), .val (.int (f3 (z0_107_l9_5 x0 x2 x4) (z0_132_l10_7 x1 x3 x4) (v0_hosts x0 x4) (v0_pages x1 x4))), .unset, .unset] [(.int (1 : Int32)), (.int (z0_132_l10_7 x1 x3 x4)), (.int (z0_107_l9_5 x0 x2 x4)), (.ref b8)]))
                      refine g_isub X10 hx 190 (hb hby at_189) rfl ?_
                      show Go p e below s _ _ _ (T10.setTop (mkF m 190 #[.val (.int x0), .val (.int x1), .val (.int x2), .val (.int x3), .val (.int x4), .val (.int (z0_12_s0_1 x4)), .val (.int (z0_26_s0_2 x4)), .val (.int (v0_hosts x0 x4)), .val (.int (v0_pages x1 x4)), .val (.int (z0_107_l9_5 x0 x2 x4)), .val (.int (z0_132_l10_7 x1 x3 x4)), .val (.ref b8), .val (.int (f3 (z0_107_l9_5 x0 x2 x4) (z0_132_l10_7 x1 x3 x4) (v0_hosts x0 x4) (v0_pages x1 x4))), .unset, .unset] [(.int ((z0_132_l10_7 x1 x3 x4) - (1 : Int32))), (.int (z0_107_l9_5 x0 x2 x4)), (.ref b8)]))
                      refine g_callV X10 hx hZ hown (hw _ (List.mem_of_getElem? (i := 32) rfl)) (hw _ (List.mem_of_getElem? (i := 33) rfl)) (hw _ (List.mem_of_getElem? (i := 35) rfl)) (hw _ (List.mem_of_getElem? (i := 34) rfl)) (hw _ (List.mem_of_getElem? (i := 5) rfl)) (hw _ (List.mem_of_getElem? (i := 36) rfl)) (by decide) e10 b8 k9_1 (rm3 l Z a0 hw [] b8 (z0_107_l9_5 x0 x2 x4) ((z0_132_l10_7 x1 x3 x4) - (1 : Int32)) (v0_hosts x0 x4) (v0_pages x1 x4) T9.heap p9_0 p9_1 (own_hz64 x0 x4 : ¬ (v0_hosts x0 x4).toInt64 = 0)) [(.int (z0_107_l9_5 x0 x2 x4)), (.int ((z0_132_l10_7 x1 x3 x4) - (1 : Int32)))] [] 0 rfl (lenOf pd__28II_29I rfl) rfl (Nat.le_of_eq rfl) (by decide) (by decide) (by decide) (by decide) (by rw [hml]; rfl) (hb hby at_190) ?_
                      intro T14 L14 v14 X14 q14
                      obtain ⟨rfl, rfl, e14⟩ := q14
                      have NS14 := Fr.app NS10 (Fr.nil n0)
                      show Go p e below s _ _ _ (T14.setTop (mkF m 193 #[.val (.int x0), .val (.int x1), .val (.int x2), .val (.int x3), .val (.int x4), .val (.int (z0_12_s0_1 x4)), .val (.int (z0_26_s0_2 x4)), .val (.int (v0_hosts x0 x4)), .val (.int (v0_pages x1 x4)), .val (.int (z0_107_l9_5 x0 x2 x4)), .val (.int (z0_132_l10_7 x1 x3 x4)), .val (.ref b8), .val (.int (f3 (z0_107_l9_5 x0 x2 x4) (z0_132_l10_7 x1 x3 x4) (v0_hosts x0 x4) (v0_pages x1 x4))), .unset, .unset] [(.int (f3 (z0_107_l9_5 x0 x2 x4) ((z0_132_l10_7 x1 x3 x4) - (1 : Int32)) (v0_hosts x0 x4) (v0_pages x1 x4)))]))
                      refine g_istore X14 hx #[.val (.int x0), .val (.int x1), .val (.int x2), .val (.int x3), .val (.int x4), .val (.int (z0_12_s0_1 x4)), .val (.int (z0_26_s0_2 x4)), .val (.int (v0_hosts x0 x4)), .val (.int (v0_pages x1 x4)), .val (.int (z0_107_l9_5 x0 x2 x4)), .val (.int (z0_132_l10_7 x1 x3 x4)), .val (.ref b8), .val (.int (f3 (z0_107_l9_5 x0 x2 x4) (z0_132_l10_7 x1 x3 x4) (v0_hosts x0 x4) (v0_pages x1 x4))), .unset, .val (.int (f3 (z0_107_l9_5 x0 x2 x4) ((z0_132_l10_7 x1 x3 x4) - (1 : Int32)) (v0_hosts x0 x4) (v0_pages x1 x4)))] 195 (hb hby at_193) rfl rfl ?_
                      show Go p e below s _ _ _ (T14.setTop (mkF m 195 #[.val (.int x0), .val (.int x1), .val (.int x2), .val (.int x3), .val (.int x4), .val (.int (z0_12_s0_1 x4)), .val (.int (z0_26_s0_2 x4)), .val (.int (v0_hosts x0 x4)), .val (.int (v0_pages x1 x4)), .val (.int (z0_107_l9_5 x0 x2 x4)), .val (.int (z0_132_l10_7 x1 x3 x4)), .val (.ref b8), .val (.int (f3 (z0_107_l9_5 x0 x2 x4) (z0_132_l10_7 x1 x3 x4) (v0_hosts x0 x4) (v0_pages x1 x4))), .unset, .val (.int (f3 (z0_107_l9_5 x0 x2 x4) ((z0_132_l10_7 x1 x3 x4) - (1 : Int32)) (v0_hosts x0 x4) (v0_pages x1 x4)))] []))
                      refine g_iload X14 hx 197 (hb hby at_195) rfl rfl ?_
                      show Go p e below s _ _ _ (T14.setTop (mkF m 197 #[.val (.int x0), .val (.int x1), .val (.int x2), .val (.int x3), .val (.int x4), .val (.int (z0_12_s0_1 x4)), .val (.int (z0_26_s0_2 x4)), .val (.int (v0_hosts x0 x4)), .val (.int (v0_pages x1 x4)), .val (.int (z0_107_l9_5 x0 x2 x4)), .val (.int (z0_132_l10_7 x1 x3 x4)), .val (.ref b8), .val (.int (f3 (z0_107_l9_5 x0 x2 x4) (z0_132_l10_7 x1 x3 x4) (v0_hosts x0 x4) (v0_pages x1 x4))), .unset, .val (.int (f3 (z0_107_l9_5 x0 x2 x4) ((z0_132_l10_7 x1 x3 x4) - (1 : Int32)) (v0_hosts x0 x4) (v0_pages x1 x4)))] [(.int (f3 (z0_107_l9_5 x0 x2 x4) ((z0_132_l10_7 x1 x3 x4) - (1 : Int32)) (v0_hosts x0 x4) (v0_pages x1 x4)))]))
                      refine g_iconst X14 hx (1 : Int32) 198 (hb hby at_197) rfl rfl ?_
                      show Go p e below s _ _ _ (T14.setTop (mkF m 198 #[.val (.int x0), .val (.int x1), .val (.int x2), .val (.int x3), .val (.int x4), .val (.int (z0_12_s0_1 x4)), .val (.int (z0_26_s0_2 x4)), .val (.int (v0_hosts x0 x4)), .val (.int (v0_pages x1 x4)), .val (.int (z0_107_l9_5 x0 x2 x4)), .val (.int (z0_132_l10_7 x1 x3 x4)), .val (.ref b8), .val (.int (f3 (z0_107_l9_5 x0 x2 x4) (z0_132_l10_7 x1 x3 x4) (v0_hosts x0 x4) (v0_pages x1 x4))), .unset, .val (.int (f3 (z0_107_l9_5 x0 x2 x4) ((z0_132_l10_7 x1 x3 x4) - (1 : Int32)) (v0_hosts x0 x4) (v0_pages x1 x4)))] [(.int (1 : Int32)), (.int (f3 (z0_107_l9_5 x0 x2 x4) ((z0_132_l10_7 x1 x3 x4) - (1 : Int32)) (v0_hosts x0 x4) (v0_pages x1 x4)))]))
                      refine g_iadd X14 hx 199 (hb hby at_198) rfl ?_
                      show Go p e below s _ _ _ (T14.setTop (mkF m 199 #[.val (.int x0), .val (.int x1), .val (.int x2), .val (.int x3), .val (.int x4), .val (.int (z0_12_s0_1 x4)), .val (.int (z0_26_s0_2 x4)), .val (.int (v0_hosts x0 x4)), .val (.int (v0_pages x1 x4)), .val (.int (z0_107_l9_5 x0 x2 x4)), .val (.int (z0_132_l10_7 x1 x3 x4)), .val (.ref b8), .val (.int (f3 (z0_107_l9_5 x0 x2 x4) (z0_132_l10_7 x1 x3 x4) (v0_hosts x0 x4) (v0_pages x1 x4))), .unset, .val (.int (f3 (z0_107_l9_5 x0 x2 x4) ((z0_132_l10_7 x1 x3 x4) - (1 : Int32)) (v0_hosts x0 x4) (v0_pages x1 x4)))] [(.int ((f3 (z0_107_l9_5 x0 x2 x4) ((z0_132_l10_7 x1 x3 x4) - (1 : Int32)) (v0_hosts x0 x4) (v0_pages x1 x4)) + (1 : Int32)))]))
                      refine g_iload X14 hx 201 (hb hby at_199) rfl rfl ?_
                      show Go p e below s _ _ _ (T14.setTop (mkF m 201 #[.val (.int x0), .val (.int x1), .val (.int x2), .val (.int x3), .val (.int x4), .val (.int (z0_12_s0_1 x4)), .val (.int (z0_26_s0_2 x4)), .val (.int (v0_hosts x0 x4)), .val (.int (v0_pages x1 x4)), .val (.int (z0_107_l9_5 x0 x2 x4)), .val (.int (z0_132_l10_7 x1 x3 x4)), .val (.ref b8), .val (.int (f3 (z0_107_l9_5 x0 x2 x4) (z0_132_l10_7 x1 x3 x4) (v0_hosts x0 x4) (v0_pages x1 x4))), .unset, .val (.int (f3 (z0_107_l9_5 x0 x2 x4) ((z0_132_l10_7 x1 x3 x4) - (1 : Int32)) (v0_hosts x0 x4) (v0_pages x1 x4)))] [(.int (v0_hosts x0 x4)), (.int ((f3 (z0_107_l9_5 x0 x2 x4) ((z0_132_l10_7 x1 x3 x4) - (1 : Int32)) (v0_hosts x0 x4) (v0_pages x1 x4)) + (1 : Int32)))]))
                      refine g_icmp_ne X14 hx 208 204 (hb hby at_201) (by decide) rfl rfl (fun h15 => ?_) (fun h15 => ?_)
                      · show Go p e below s _ _ _ (T14.setTop (mkF m 204 #[.val (.int x0), .val (.int x1), .val (.int x2), .val (.int x3), .val (.int x4), .val (.int (z0_12_s0_1 x4)), .val (.int (z0_26_s0_2 x4)), .val (.int (v0_hosts x0 x4)), .val (.int (v0_pages x1 x4)), .val (.int (z0_107_l9_5 x0 x2 x4)), .val (.int (z0_132_l10_7 x1 x3 x4)), .val (.ref b8), .val (.int (f3 (z0_107_l9_5 x0 x2 x4) (z0_132_l10_7 x1 x3 x4) (v0_hosts x0 x4) (v0_pages x1 x4))), .unset, .val (.int (f3 (z0_107_l9_5 x0 x2 x4) ((z0_132_l10_7 x1 x3 x4) - (1 : Int32)) (v0_hosts x0 x4) (v0_pages x1 x4)))] []))
                        refine g_iconst X14 hx (0 : Int32) 205 (hb hby at_204) rfl rfl ?_
                        show Go p e below s _ _ _ (T14.setTop (mkF m 205 #[.val (.int x0), .val (.int x1), .val (.int x2), .val (.int x3), .val (.int x4), .val (.int (z0_12_s0_1 x4)), .val (.int (z0_26_s0_2 x4)), .val (.int (v0_hosts x0 x4)), .val (.int (v0_pages x1 x4)), .val (.int (z0_107_l9_5 x0 x2 x4)), .val (.int (z0_132_l10_7 x1 x3 x4)), .val (.ref b8), .val (.int (f3 (z0_107_l9_5 x0 x2 x4) (z0_132_l10_7 x1 x3 x4) (v0_hosts x0 x4) (v0_pages x1 x4))), .unset, .val (.int (f3 (z0_107_l9_5 x0 x2 x4) ((z0_132_l10_7 x1 x3 x4) - (1 : Int32)) (v0_hosts x0 x4) (v0_pages x1 x4)))] [(.int (0 : Int32))]))
                        refine g_goto X14 hx 212 (hb hby at_205) (by decide) rfl ?_
                        show Go p e below s _ _ _ (T14.setTop (mkF m 212 #[.val (.int x0), .val (.int x1), .val (.int x2), .val (.int x3), .val (.int x4), .val (.int (z0_12_s0_1 x4)), .val (.int (z0_26_s0_2 x4)), .val (.int (v0_hosts x0 x4)), .val (.int (v0_pages x1 x4)), .val (.int (z0_107_l9_5 x0 x2 x4)), .val (.int (z0_132_l10_7 x1 x3 x4)), .val (.ref b8), .val (.int (f3 (z0_107_l9_5 x0 x2 x4) (z0_132_l10_7 x1 x3 x4) (v0_hosts x0 x4) (v0_pages x1 x4))), .unset, .val (.int (f3 (z0_107_l9_5 x0 x2 x4) ((z0_132_l10_7 x1 x3 x4) - (1 : Int32)) (v0_hosts x0 x4) (v0_pages x1 x4)))] [(.int (0 : Int32))]))
                        refine g_istore X14 hx #[.val (.int x0), .val (.int x1), .val (.int x2), .val (.int x3), .val (.int x4), .val (.int (z0_12_s0_1 x4)), .val (.int (z0_26_s0_2 x4)), .val (.int (v0_hosts x0 x4)), .val (.int (v0_pages x1 x4)), .val (.int (z0_107_l9_5 x0 x2 x4)), .val (.int (z0_132_l10_7 x1 x3 x4)), .val (.ref b8), .val (.int (f3 (z0_107_l9_5 x0 x2 x4) (z0_132_l10_7 x1 x3 x4) (v0_hosts x0 x4) (v0_pages x1 x4))), .val (.int (0 : Int32)), .val (.int (f3 (z0_107_l9_5 x0 x2 x4) ((z0_132_l10_7 x1 x3 x4) - (1 : Int32)) (v0_hosts x0 x4) (v0_pages x1 x4)))] 214 (hb hby at_212) rfl rfl ?_
                        show Go p e below s _ _ _ (T14.setTop (mkF m 214 #[.val (.int x0), .val (.int x1), .val (.int x2), .val (.int x3), .val (.int x4), .val (.int (z0_12_s0_1 x4)), .val (.int (z0_26_s0_2 x4)), .val (.int (v0_hosts x0 x4)), .val (.int (v0_pages x1 x4)), .val (.int (z0_107_l9_5 x0 x2 x4)), .val (.int (z0_132_l10_7 x1 x3 x4)), .val (.ref b8), .val (.int (f3 (z0_107_l9_5 x0 x2 x4) (z0_132_l10_7 x1 x3 x4) (v0_hosts x0 x4) (v0_pages x1 x4))), .val (.int (0 : Int32)), .val (.int (f3 (z0_107_l9_5 x0 x2 x4) ((z0_132_l10_7 x1 x3 x4) - (1 : Int32)) (v0_hosts x0 x4) (v0_pages x1 x4)))] []))
                        refine g_goto X14 hx 272 (hb hby at_214) (by decide) rfl ?_
                        show Go p e below s _ _ _ (T14.setTop (mkF m 272 #[.val (.int x0), .val (.int x1), .val (.int x2), .val (.int x3), .val (.int x4), .val (.int (z0_12_s0_1 x4)), .val (.int (z0_26_s0_2 x4)), .val (.int (v0_hosts x0 x4)), .val (.int (v0_pages x1 x4)), .val (.int (z0_107_l9_5 x0 x2 x4)), .val (.int (z0_132_l10_7 x1 x3 x4)), .val (.ref b8), .val (.int (f3 (z0_107_l9_5 x0 x2 x4) (z0_132_l10_7 x1 x3 x4) (v0_hosts x0 x4) (v0_pages x1 x4))), .val (.int (0 : Int32)), .val (.int (f3 (z0_107_l9_5 x0 x2 x4) ((z0_132_l10_7 x1 x3 x4) - (1 : Int32)) (v0_hosts x0 x4) (v0_pages x1 x4)))] []))
                        refine g_iload X14 hx 274 (hb hby at_272) rfl rfl ?_
                        show Go p e below s _ _ _ (T14.setTop (mkF m 274 #[.val (.int x0), .val (.int x1), .val (.int x2), .val (.int x3), .val (.int x4), .val (.int (z0_12_s0_1 x4)), .val (.int (z0_26_s0_2 x4)), .val (.int (v0_hosts x0 x4)), .val (.int (v0_pages x1 x4)), .val (.int (z0_107_l9_5 x0 x2 x4)), .val (.int (z0_132_l10_7 x1 x3 x4)), .val (.ref b8), .val (.int (f3 (z0_107_l9_5 x0 x2 x4) (z0_132_l10_7 x1 x3 x4) (v0_hosts x0 x4) (v0_pages x1 x4))), .val (.int (0 : Int32)), .val (.int (f3 (z0_107_l9_5 x0 x2 x4) ((z0_132_l10_7 x1 x3 x4) - (1 : Int32)) (v0_hosts x0 x4) (v0_pages x1 x4)))] [(.int (f3 (z0_107_l9_5 x0 x2 x4) (z0_132_l10_7 x1 x3 x4) (v0_hosts x0 x4) (v0_pages x1 x4)))]))
                        refine g_iload X14 hx 276 (hb hby at_274) rfl rfl ?_
                        show Go p e below s _ _ _ (T14.setTop (mkF m 276 #[.val (.int x0), .val (.int x1), .val (.int x2), .val (.int x3), .val (.int x4), .val (.int (z0_12_s0_1 x4)), .val (.int (z0_26_s0_2 x4)), .val (.int (v0_hosts x0 x4)), .val (.int (v0_pages x1 x4)), .val (.int (z0_107_l9_5 x0 x2 x4)), .val (.int (z0_132_l10_7 x1 x3 x4)), .val (.ref b8), .val (.int (f3 (z0_107_l9_5 x0 x2 x4) (z0_132_l10_7 x1 x3 x4) (v0_hosts x0 x4) (v0_pages x1 x4))), .val (.int (0 : Int32)), .val (.int (f3 (z0_107_l9_5 x0 x2 x4) ((z0_132_l10_7 x1 x3 x4) - (1 : Int32)) (v0_hosts x0 x4) (v0_pages x1 x4)))] [(.int (0 : Int32)), (.int (f3 (z0_107_l9_5 x0 x2 x4) (z0_132_l10_7 x1 x3 x4) (v0_hosts x0 x4) (v0_pages x1 x4)))]))
                        refine g_icmp_ne X14 hx 283 279 (hb hby at_276) (by decide) rfl rfl (fun h16 => ?_) (fun h16 => ?_)
                        · show Go p e below s _ _ _ (T14.setTop (mkF m 279 #[.val (.int x0), .val (.int x1), .val (.int x2), .val (.int x3), .val (.int x4), .val (.int (z0_12_s0_1 x4)), .val (.int (z0_26_s0_2 x4)), .val (.int (v0_hosts x0 x4)), .val (.int (v0_pages x1 x4)), .val (.int (z0_107_l9_5 x0 x2 x4)), .val (.int (z0_132_l10_7 x1 x3 x4)), .val (.ref b8), .val (.int (f3 (z0_107_l9_5 x0 x2 x4) (z0_132_l10_7 x1 x3 x4) (v0_hosts x0 x4) (v0_pages x1 x4))), .val (.int (0 : Int32)), .val (.int (f3 (z0_107_l9_5 x0 x2 x4) ((z0_132_l10_7 x1 x3 x4) - (1 : Int32)) (v0_hosts x0 x4) (v0_pages x1 x4)))] []))
                          refine g_iconst X14 hx (1 : Int32) 280 (hb hby at_279) rfl rfl ?_
                          show Go p e below s _ _ _ (T14.setTop (mkF m 280 #[.val (.int x0), .val (.int x1), .val (.int x2), .val (.int x3), .val (.int x4), .val (.int (z0_12_s0_1 x4)), .val (.int (z0_26_s0_2 x4)), .val (.int (v0_hosts x0 x4)), .val (.int (v0_pages x1 x4)), .val (.int (z0_107_l9_5 x0 x2 x4)), .val (.int (z0_132_l10_7 x1 x3 x4)), .val (.ref b8), .val (.int (f3 (z0_107_l9_5 x0 x2 x4) (z0_132_l10_7 x1 x3 x4) (v0_hosts x0 x4) (v0_pages x1 x4))), .val (.int (0 : Int32)), .val (.int (f3 (z0_107_l9_5 x0 x2 x4) ((z0_132_l10_7 x1 x3 x4) - (1 : Int32)) (v0_hosts x0 x4) (v0_pages x1 x4)))] [(.int (1 : Int32))]))
                          refine g_goto X14 hx 284 (hb hby at_280) (by decide) rfl ?_
                          show Go p e below s _ _ _ (T14.setTop (mkF m 284 #[.val (.int x0), .val (.int x1), .val (.int x2), .val (.int x3), .val (.int x4), .val (.int (z0_12_s0_1 x4)), .val (.int (z0_26_s0_2 x4)), .val (.int (v0_hosts x0 x4)), .val (.int (v0_pages x1 x4)), .val (.int (z0_107_l9_5 x0 x2 x4)), .val (.int (z0_132_l10_7 x1 x3 x4)), .val (.ref b8), .val (.int (f3 (z0_107_l9_5 x0 x2 x4) (z0_132_l10_7 x1 x3 x4) (v0_hosts x0 x4) (v0_pages x1 x4))), .val (.int (0 : Int32)), .val (.int (f3 (z0_107_l9_5 x0 x2 x4) ((z0_132_l10_7 x1 x3 x4) - (1 : Int32)) (v0_hosts x0 x4) (v0_pages x1 x4)))] [(.int (1 : Int32))]))
                          exact g_retN X14 hx hret (by simp) hlk (hb hby at_284) (by decide) (by decide) ⟨congrArg (fun z => some (Value.int z)) (show (1 : Int32) = (f0 x0 x1 x2 x3 x4) from by rw [f0, if_neg h11, if_pos h12, if_pos h13, if_pos h15, if_pos h16]), NS14⟩
                        · show Go p e below s _ _ _ (T14.setTop (mkF m 283 #[.val (.int x0), .val (.int x1), .val (.int x2), .val (.int x3), .val (.int x4), .val (.int (z0_12_s0_1 x4)), .val (.int (z0_26_s0_2 x4)), .val (.int (v0_hosts x0 x4)), .val (.int (v0_pages x1 x4)), .val (.int (z0_107_l9_5 x0 x2 x4)), .val (.int (z0_132_l10_7 x1 x3 x4)), .val (.ref b8), .val (.int (f3 (z0_107_l9_5 x0 x2 x4) (z0_132_l10_7 x1 x3 x4) (v0_hosts x0 x4) (v0_pages x1 x4))), .val (.int (0 : Int32)), .val (.int (f3 (z0_107_l9_5 x0 x2 x4) ((z0_132_l10_7 x1 x3 x4) - (1 : Int32)) (v0_hosts x0 x4) (v0_pages x1 x4)))] []))
                          refine g_iconst X14 hx (0 : Int32) 284 (hb hby at_283) rfl rfl ?_
                          show Go p e below s _ _ _ (T14.setTop (mkF m 284 #[.val (.int x0), .val (.int x1), .val (.int x2), .val (.int x3), .val (.int x4), .val (.int (z0_12_s0_1 x4)), .val (.int (z0_26_s0_2 x4)), .val (.int (v0_hosts x0 x4)), .val (.int (v0_pages x1 x4)), .val (.int (z0_107_l9_5 x0 x2 x4)), .val (.int (z0_132_l10_7 x1 x3 x4)), .val (.ref b8), .val (.int (f3 (z0_107_l9_5 x0 x2 x4) (z0_132_l10_7 x1 x3 x4) (v0_hosts x0 x4) (v0_pages x1 x4))), .val (.int (0 : Int32)), .val (.int (f3 (z0_107_l9_5 x0 x2 x4) ((z0_132_l10_7 x1 x3 x4) - (1 : Int32)) (v0_hosts x0 x4) (v0_pages x1 x4)))] [(.int (0 : Int32))]))
                          exact g_retN X14 hx hret (by simp) hlk (hb hby at_284) (by decide) (by decide) ⟨congrArg (fun z => some (Value.int z)) (show (0 : Int32) = (f0 x0 x1 x2 x3 x4) from by rw [f0, if_neg h11, if_pos h12, if_pos h13, if_pos h15, if_neg h16]), NS14⟩
                      · show Go p e below s _ _ _ (T14.setTop (mkF m 208 #[.val (.int x0), .val (.int x1), .val (.int x2), .val (.int x3), .val (.int x4), .val (.int (z0_12_s0_1 x4)), .val (.int (z0_26_s0_2 x4)), .val (.int (v0_hosts x0 x4)), .val (.int (v0_pages x1 x4)), .val (.int (z0_107_l9_5 x0 x2 x4)), .val (.int (z0_132_l10_7 x1 x3 x4)), .val (.ref b8), .val (.int (f3 (z0_107_l9_5 x0 x2 x4) (z0_132_l10_7 x1 x3 x4) (v0_hosts x0 x4) (v0_pages x1 x4))), .unset, .val (.int (f3 (z0_107_l9_5 x0 x2 x4) ((z0_132_l10_7 x1 x3 x4) - (1 : Int32)) (v0_hosts x0 x4) (v0_pages x1 x4)))] []))
                        refine g_iload X14 hx 210 (hb hby at_208) rfl rfl ?_
                        show Go p e below s _ _ _ (T14.setTop (mkF m 210 #[.val (.int x0), .val (.int x1), .val (.int x2), .val (.int x3), .val (.int x4), .val (.int (z0_12_s0_1 x4)), .val (.int (z0_26_s0_2 x4)), .val (.int (v0_hosts x0 x4)), .val (.int (v0_pages x1 x4)), .val (.int (z0_107_l9_5 x0 x2 x4)), .val (.int (z0_132_l10_7 x1 x3 x4)), .val (.ref b8), .val (.int (f3 (z0_107_l9_5 x0 x2 x4) (z0_132_l10_7 x1 x3 x4) (v0_hosts x0 x4) (v0_pages x1 x4))), .unset, .val (.int (f3 (z0_107_l9_5 x0 x2 x4) ((z0_132_l10_7 x1 x3 x4) - (1 : Int32)) (v0_hosts x0 x4) (v0_pages x1 x4)))] [(.int (f3 (z0_107_l9_5 x0 x2 x4) ((z0_132_l10_7 x1 x3 x4) - (1 : Int32)) (v0_hosts x0 x4) (v0_pages x1 x4)))]))
                        refine g_iconst X14 hx (1 : Int32) 211 (hb hby at_210) rfl rfl ?_
                        show Go p e below s _ _ _ (T14.setTop (mkF m 211 #[.val (.int x0), .val (.int x1), .val (.int x2), .val (.int x3), .val (.int x4), .val (.int (z0_12_s0_1 x4)), .val (.int (z0_26_s0_2 x4)), .val (.int (v0_hosts x0 x4)), .val (.int (v0_pages x1 x4)), .val (.int (z0_107_l9_5 x0 x2 x4)), .val (.int (z0_132_l10_7 x1 x3 x4)), .val (.ref b8), .val (.int (f3 (z0_107_l9_5 x0 x2 x4) (z0_132_l10_7 x1 x3 x4) (v0_hosts x0 x4) (v0_pages x1 x4))), .unset, .val (.int (f3 (z0_107_l9_5 x0 x2 x4) ((z0_132_l10_7 x1 x3 x4) - (1 : Int32)) (v0_hosts x0 x4) (v0_pages x1 x4)))] [(.int (1 : Int32)), (.int (f3 (z0_107_l9_5 x0 x2 x4) ((z0_132_l10_7 x1 x3 x4) - (1 : Int32)) (v0_hosts x0 x4) (v0_pages x1 x4)))]))
                        refine g_iadd X14 hx 212 (hb hby at_211) rfl ?_
                        show Go p e below s _ _ _ (T14.setTop (mkF m 212 #[.val (.int x0), .val (.int x1), .val (.int x2), .val (.int x3), .val (.int x4), .val (.int (z0_12_s0_1 x4)), .val (.int (z0_26_s0_2 x4)), .val (.int (v0_hosts x0 x4)), .val (.int (v0_pages x1 x4)), .val (.int (z0_107_l9_5 x0 x2 x4)), .val (.int (z0_132_l10_7 x1 x3 x4)), .val (.ref b8), .val (.int (f3 (z0_107_l9_5 x0 x2 x4) (z0_132_l10_7 x1 x3 x4) (v0_hosts x0 x4) (v0_pages x1 x4))), .unset, .val (.int (f3 (z0_107_l9_5 x0 x2 x4) ((z0_132_l10_7 x1 x3 x4) - (1 : Int32)) (v0_hosts x0 x4) (v0_pages x1 x4)))] [(.int ((f3 (z0_107_l9_5 x0 x2 x4) ((z0_132_l10_7 x1 x3 x4) - (1 : Int32)) (v0_hosts x0 x4) (v0_pages x1 x4)) + (1 : Int32)))]))
                        refine g_istore X14 hx #[.val (.int x0), .val (.int x1), .val (.int x2), .val (.int x3), .val (.int x4), .val (.int (z0_12_s0_1 x4)), .val (.int (z0_26_s0_2 x4)), .val (.int (v0_hosts x0 x4)), .val (.int (v0_pages x1 x4)), .val (.int (z0_107_l9_5 x0 x2 x4)), .val (.int (z0_132_l10_7 x1 x3 x4)), .val (.ref b8), .val (.int (f3 (z0_107_l9_5 x0 x2 x4) (z0_132_l10_7 x1 x3 x4) (v0_hosts x0 x4) (v0_pages x1 x4))), .val (.int ((f3 (z0_107_l9_5 x0 x2 x4) ((z0_132_l10_7 x1 x3 x4) - (1 : Int32)) (v0_hosts x0 x4) (v0_pages x1 x4)) + (1 : Int32))), .val (.int (f3 (z0_107_l9_5 x0 x2 x4) ((z0_132_l10_7 x1 x3 x4) - (1 : Int32)) (v0_hosts x0 x4) (v0_pages x1 x4)))] 214 (hb hby at_212) rfl rfl ?_
                        show Go p e below s _ _ _ (T14.setTop (mkF m 214 #[.val (.int x0), .val (.int x1), .val (.int x2), .val (.int x3), .val (.int x4), .val (.int (z0_12_s0_1 x4)), .val (.int (z0_26_s0_2 x4)), .val (.int (v0_hosts x0 x4)), .val (.int (v0_pages x1 x4)), .val (.int (z0_107_l9_5 x0 x2 x4)), .val (.int (z0_132_l10_7 x1 x3 x4)), .val (.ref b8), .val (.int (f3 (z0_107_l9_5 x0 x2 x4) (z0_132_l10_7 x1 x3 x4) (v0_hosts x0 x4) (v0_pages x1 x4))), .val (.int ((f3 (z0_107_l9_5 x0 x2 x4) ((z0_132_l10_7 x1 x3 x4) - (1 : Int32)) (v0_hosts x0 x4) (v0_pages x1 x4)) + (1 : Int32))), .val (.int (f3 (z0_107_l9_5 x0 x2 x4) ((z0_132_l10_7 x1 x3 x4) - (1 : Int32)) (v0_hosts x0 x4) (v0_pages x1 x4)))] []))
                        refine g_goto X14 hx 272 (hb hby at_214) (by decide) rfl ?_
                        show Go p e below s _ _ _ (T14.setTop (mkF m 272 #[.val (.int x0), .val (.int x1), .val (.int x2), .val (.int x3), .val (.int x4), .val (.int (z0_12_s0_1 x4)), .val (.int (z0_26_s0_2 x4)), .val (.int (v0_hosts x0 x4)), .val (.int (v0_pages x1 x4)), .val (.int (z0_107_l9_5 x0 x2 x4)), .val (.int (z0_132_l10_7 x1 x3 x4)), .val (.ref b8), .val (.int (f3 (z0_107_l9_5 x0 x2 x4) (z0_132_l10_7 x1 x3 x4) (v0_hosts x0 x4) (v0_pages x1 x4))), .val (.int ((f3 (z0_107_l9_5 x0 x2 x4) ((z0_132_l10_7 x1 x3 x4) - (1 : Int32)) (v0_hosts x0 x4) (v0_pages x1 x4)) + (1 : Int32))), .val (.int (f3 (z0_107_l9_5 x0 x2 x4) ((z0_132_l10_7 x1 x3 x4) - (1 : Int32)) (v0_hosts x0 x4) (v0_pages x1 x4)))] []))
                        refine g_iload X14 hx 274 (hb hby at_272) rfl rfl ?_
                        show Go p e below s _ _ _ (T14.setTop (mkF m 274 #[.val (.int x0), .val (.int x1), .val (.int x2), .val (.int x3), .val (.int x4), .val (.int (z0_12_s0_1 x4)), .val (.int (z0_26_s0_2 x4)), .val (.int (v0_hosts x0 x4)), .val (.int (v0_pages x1 x4)), .val (.int (z0_107_l9_5 x0 x2 x4)), .val (.int (z0_132_l10_7 x1 x3 x4)), .val (.ref b8), .val (.int (f3 (z0_107_l9_5 x0 x2 x4) (z0_132_l10_7 x1 x3 x4) (v0_hosts x0 x4) (v0_pages x1 x4))), .val (.int ((f3 (z0_107_l9_5 x0 x2 x4) ((z0_132_l10_7 x1 x3 x4) - (1 : Int32)) (v0_hosts x0 x4) (v0_pages x1 x4)) + (1 : Int32))), .val (.int (f3 (z0_107_l9_5 x0 x2 x4) ((z0_132_l10_7 x1 x3 x4) - (1 : Int32)) (v0_hosts x0 x4) (v0_pages x1 x4)))] [(.int (f3 (z0_107_l9_5 x0 x2 x4) (z0_132_l10_7 x1 x3 x4) (v0_hosts x0 x4) (v0_pages x1 x4)))]))
                        refine g_iload X14 hx 276 (hb hby at_274) rfl rfl ?_
                        show Go p e below s _ _ _ (T14.setTop (mkF m 276 #[.val (.int x0), .val (.int x1), .val (.int x2), .val (.int x3), .val (.int x4), .val (.int (z0_12_s0_1 x4)), .val (.int (z0_26_s0_2 x4)), .val (.int (v0_hosts x0 x4)), .val (.int (v0_pages x1 x4)), .val (.int (z0_107_l9_5 x0 x2 x4)), .val (.int (z0_132_l10_7 x1 x3 x4)), .val (.ref b8), .val (.int (f3 (z0_107_l9_5 x0 x2 x4) (z0_132_l10_7 x1 x3 x4) (v0_hosts x0 x4) (v0_pages x1 x4))), .val (.int ((f3 (z0_107_l9_5 x0 x2 x4) ((z0_132_l10_7 x1 x3 x4) - (1 : Int32)) (v0_hosts x0 x4) (v0_pages x1 x4)) + (1 : Int32))), .val (.int (f3 (z0_107_l9_5 x0 x2 x4) ((z0_132_l10_7 x1 x3 x4) - (1 : Int32)) (v0_hosts x0 x4) (v0_pages x1 x4)))] [(.int ((f3 (z0_107_l9_5 x0 x2 x4) ((z0_132_l10_7 x1 x3 x4) - (1 : Int32)) (v0_hosts x0 x4) (v0_pages x1 x4)) + (1 : Int32))), (.int (f3 (z0_107_l9_5 x0 x2 x4) (z0_132_l10_7 x1 x3 x4) (v0_hosts x0 x4) (v0_pages x1 x4)))]))
                        refine g_icmp_ne X14 hx 283 279 (hb hby at_276) (by decide) rfl rfl (fun h17 => ?_) (fun h17 => ?_)
                        · show Go p e below s _ _ _ (T14.setTop (mkF m 279 #[.val (.int x0), .val (.int x1), .val (.int x2), .val (.int x3), .val (.int x4), .val (.int (z0_12_s0_1 x4)), .val (.int (z0_26_s0_2 x4)), .val (.int (v0_hosts x0 x4)), .val (.int (v0_pages x1 x4)), .val (.int (z0_107_l9_5 x0 x2 x4)), .val (.int (z0_132_l10_7 x1 x3 x4)), .val (.ref b8), .val (.int (f3 (z0_107_l9_5 x0 x2 x4) (z0_132_l10_7 x1 x3 x4) (v0_hosts x0 x4) (v0_pages x1 x4))), .val (.int ((f3 (z0_107_l9_5 x0 x2 x4) ((z0_132_l10_7 x1 x3 x4) - (1 : Int32)) (v0_hosts x0 x4) (v0_pages x1 x4)) + (1 : Int32))), .val (.int (f3 (z0_107_l9_5 x0 x2 x4) ((z0_132_l10_7 x1 x3 x4) - (1 : Int32)) (v0_hosts x0 x4) (v0_pages x1 x4)))] []))
                          refine g_iconst X14 hx (1 : Int32) 280 (hb hby at_279) rfl rfl ?_
                          show Go p e below s _ _ _ (T14.setTop (mkF m 280 #[.val (.int x0), .val (.int x1), .val (.int x2), .val (.int x3), .val (.int x4), .val (.int (z0_12_s0_1 x4)), .val (.int (z0_26_s0_2 x4)), .val (.int (v0_hosts x0 x4)), .val (.int (v0_pages x1 x4)), .val (.int (z0_107_l9_5 x0 x2 x4)), .val (.int (z0_132_l10_7 x1 x3 x4)), .val (.ref b8), .val (.int (f3 (z0_107_l9_5 x0 x2 x4) (z0_132_l10_7 x1 x3 x4) (v0_hosts x0 x4) (v0_pages x1 x4))), .val (.int ((f3 (z0_107_l9_5 x0 x2 x4) ((z0_132_l10_7 x1 x3 x4) - (1 : Int32)) (v0_hosts x0 x4) (v0_pages x1 x4)) + (1 : Int32))), .val (.int (f3 (z0_107_l9_5 x0 x2 x4) ((z0_132_l10_7 x1 x3 x4) - (1 : Int32)) (v0_hosts x0 x4) (v0_pages x1 x4)))] [(.int (1 : Int32))]))
                          refine g_goto X14 hx 284 (hb hby at_280) (by decide) rfl ?_
                          show Go p e below s _ _ _ (T14.setTop (mkF m 284 #[.val (.int x0), .val (.int x1), .val (.int x2), .val (.int x3), .val (.int x4), .val (.int (z0_12_s0_1 x4)), .val (.int (z0_26_s0_2 x4)), .val (.int (v0_hosts x0 x4)), .val (.int (v0_pages x1 x4)), .val (.int (z0_107_l9_5 x0 x2 x4)), .val (.int (z0_132_l10_7 x1 x3 x4)), .val (.ref b8), .val (.int (f3 (z0_107_l9_5 x0 x2 x4) (z0_132_l10_7 x1 x3 x4) (v0_hosts x0 x4) (v0_pages x1 x4))), .val (.int ((f3 (z0_107_l9_5 x0 x2 x4) ((z0_132_l10_7 x1 x3 x4) - (1 : Int32)) (v0_hosts x0 x4) (v0_pages x1 x4)) + (1 : Int32))), .val (.int (f3 (z0_107_l9_5 x0 x2 x4) ((z0_132_l10_7 x1 x3 x4) - (1 : Int32)) (v0_hosts x0 x4) (v0_pages x1 x4)))] [(.int (1 : Int32))]))
                          exact g_retN X14 hx hret (by simp) hlk (hb hby at_284) (by decide) (by decide) ⟨congrArg (fun z => some (Value.int z)) (show (1 : Int32) = (f0 x0 x1 x2 x3 x4) from by rw [f0, if_neg h11, if_pos h12, if_pos h13, if_neg h15, if_pos h17]), NS14⟩
                        · show Go p e below s _ _ _ (T14.setTop (mkF m 283 #[.val (.int x0), .val (.int x1), .val (.int x2), .val (.int x3), .val (.int x4), .val (.int (z0_12_s0_1 x4)), .val (.int (z0_26_s0_2 x4)), .val (.int (v0_hosts x0 x4)), .val (.int (v0_pages x1 x4)), .val (.int (z0_107_l9_5 x0 x2 x4)), .val (.int (z0_132_l10_7 x1 x3 x4)), .val (.ref b8), .val (.int (f3 (z0_107_l9_5 x0 x2 x4) (z0_132_l10_7 x1 x3 x4) (v0_hosts x0 x4) (v0_pages x1 x4))), .val (.int ((f3 (z0_107_l9_5 x0 x2 x4) ((z0_132_l10_7 x1 x3 x4) - (1 : Int32)) (v0_hosts x0 x4) (v0_pages x1 x4)) + (1 : Int32))), .val (.int (f3 (z0_107_l9_5 x0 x2 x4) ((z0_132_l10_7 x1 x3 x4) - (1 : Int32)) (v0_hosts x0 x4) (v0_pages x1 x4)))] []))
                          refine g_iconst X14 hx (0 : Int32) 284 (hb hby at_283) rfl rfl ?_
                          show Go p e below s _ _ _ (T14.setTop (mkF m 284 #[.val (.int x0), .val (.int x1), .val (.int x2), .val (.int x3), .val (.int x4), .val (.int (z0_12_s0_1 x4)), .val (.int (z0_26_s0_2 x4)), .val (.int (v0_hosts x0 x4)), .val (.int (v0_pages x1 x4)), .val (.int (z0_107_l9_5 x0 x2 x4)), .val (.int (z0_132_l10_7 x1 x3 x4)), .val (.ref b8), .val (.int (f3 (z0_107_l9_5 x0 x2 x4) (z0_132_l10_7 x1 x3 x4) (v0_hosts x0 x4) (v0_pages x1 x4))), .val (.int ((f3 (z0_107_l9_5 x0 x2 x4) ((z0_132_l10_7 x1 x3 x4) - (1 : Int32)) (v0_hosts x0 x4) (v0_pages x1 x4)) + (1 : Int32))), .val (.int (f3 (z0_107_l9_5 x0 x2 x4) ((z0_132_l10_7 x1 x3 x4) - (1 : Int32)) (v0_hosts x0 x4) (v0_pages x1 x4)))] [(.int (0 : Int32))]))
                          exact g_retN X14 hx hret (by simp) hlk (hb hby at_284) (by decide) (by decide) ⟨congrArg (fun z => some (Value.int z)) (show (0 : Int32) = (f0 x0 x1 x2 x3 x4) from by rw [f0, if_neg h11, if_pos h12, if_pos h13, if_neg h15, if_neg h17]), NS14⟩
                    · show Go p e below s _ _ _ (T10.setTop (mkF m 217 #[.val (.int x0), .val (.int x1), .val (.int x2), .val (.int x3), .val (.int x4), .val (.int (z0_12_s0_1 x4)), .val (.int (z0_26_s0_2 x4)), .val (.int (v0_hosts x0 x4)), .val (.int (v0_pages x1 x4)), .val (.int (z0_107_l9_5 x0 x2 x4)), .val (.int (z0_132_l10_7 x1 x3 x4)), .val (.ref b8), .val (.int (f3 (z0_107_l9_5 x0 x2 x4) (z0_132_l10_7 x1 x3 x4) (v0_hosts x0 x4) (v0_pages x1 x4))), .unset, .unset] []))
                      refine g_iload X10 hx 219 (hb hby at_217) rfl rfl ?_
                      show Go p e below s _ _ _ (T10.setTop (mkF m 219 #[.val (.int x0), .val (.int x1), .val (.int x2), .val (.int x3), .val (.int x4), .val (.int (z0_12_s0_1 x4)), .val (.int (z0_26_s0_2 x4)), .val (.int (v0_hosts x0 x4)), .val (.int (v0_pages x1 x4)), .val (.int (z0_107_l9_5 x0 x2 x4)), .val (.int (z0_132_l10_7 x1 x3 x4)), .val (.ref b8), .val (.int (f3 (z0_107_l9_5 x0 x2 x4) (z0_132_l10_7 x1 x3 x4) (v0_hosts x0 x4) (v0_pages x1 x4))), .unset, .unset] [(.int (z0_107_l9_5 x0 x2 x4))]))
                      refine g_if0_le X10 hx 259 222 (hb hby at_219) (by decide) rfl rfl (fun h18 => ?_) (fun h18 => ?_)
                      · show Go p e below s _ _ _ (T10.setTop (mkF m 222 #[.val (.int x0), .val (.int x1), .val (.int x2), .val (.int x3), .val (.int x4), .val (.int (z0_12_s0_1 x4)), .val (.int (z0_26_s0_2 x4)), .val (.int (v0_hosts x0 x4)), .val (.int (v0_pages x1 x4)), .val (.int (z0_107_l9_5 x0 x2 x4)), .val (.int (z0_132_l10_7 x1 x3 x4)), .val (.ref b8), .val (.int (f3 (z0_107_l9_5 x0 x2 x4) (z0_132_l10_7 x1 x3 x4) (v0_hosts x0 x4) (v0_pages x1 x4))), .unset, .unset] []))
                        refine g_aload X10 hx 224 (hb hby at_222) rfl rfl rfl ?_
                        show Go p e below s _ _ _ (T10.setTop (mkF m 224 #[.val (.int x0), .val (.int x1), .val (.int x2), .val (.int x3), .val (.int x4), .val (.int (z0_12_s0_1 x4)), .val (.int (z0_26_s0_2 x4)), .val (.int (v0_hosts x0 x4)), .val (.int (v0_pages x1 x4)), .val (.int (z0_107_l9_5 x0 x2 x4)), .val (.int (z0_132_l10_7 x1 x3 x4)), .val (.ref b8), .val (.int (f3 (z0_107_l9_5 x0 x2 x4) (z0_132_l10_7 x1 x3 x4) (v0_hosts x0 x4) (v0_pages x1 x4))), .unset, .unset] [(.ref b8)]))
                        refine g_iload X10 hx 226 (hb hby at_224) rfl rfl ?_
                        show Go p e below s _ _ _ (T10.setTop (mkF m 226 #[.val (.int x0), .val (.int x1), .val (.int x2), .val (.int x3), .val (.int x4), .val (.int (z0_12_s0_1 x4)), .val (.int (z0_26_s0_2 x4)), .val (.int (v0_hosts x0 x4)), .val (.int (v0_pages x1 x4)), .val (.int (z0_107_l9_5 x0 x2 x4)), .val (.int (z0_132_l10_7 x1 x3 x4)), .val (.ref b8), .val (.int (f3 (z0_107_l9_5 x0 x2 x4) (z0_132_l10_7 x1 x3 x4) (v0_hosts x0 x4) (v0_pages x1 x4))), .unset, .unset] [(.int (z0_107_l9_5 x0 x2 x4)), (.ref b8)]))
                        refine g_iconst X10 hx (1 : Int32) 227 (hb hby at_226) rfl rfl ?_
                        show Go p e below s _ _ _ (T10.setTop (mkF m 227 #[.val (.int x0), .val (.int x1), .val (.int x2), .val (.int x3), .val (.int x4), .val (.int (z0_12_s0_1 x4)), .val (.int (z0_26_s0_2 x4)), .val (.int (v0_hosts x0 x4)), .val (.int (v0_pages x1 x4)), .val (.int (z0_107_l9_5 x0 x2 x4)), .val (.int (z0_132_l10_7 x1 x3 x4)), .val (.ref b8), .val (.int (f3 (z0_107_l9_5 x0 x2 x4) (z0_132_l10_7 x1 x3 x4) (v0_hosts x0 x4) (v0_pages x1 x4))), .unset, .unset] [(.int (1 : Int32)), (.int (z0_107_l9_5 x0 x2 x4)), (.ref b8)]))
                        refine g_isub X10 hx 228 (hb hby at_227) rfl ?_
                        show Go p e below s _ _ _ (T10.setTop (mkF m 228 #[.val (.int x0), .val (.int x1), .val (.int x2), .val (.int x3), .val (.int x4), .val (.int (z0_12_s0_1 x4)), .val (.int (z0_26_s0_2 x4)), .val (.int (v0_hosts x0 x4)), .val (.int (v0_pages x1 x4)), .val (.int (z0_107_l9_5 x0 x2 x4)), .val (.int (z0_132_l10_7 x1 x3 x4)), .val (.ref b8), .val (.int (f3 (z0_107_l9_5 x0 x2 x4) (z0_132_l10_7 x1 x3 x4) (v0_hosts x0 x4) (v0_pages x1 x4))), .unset, .unset] [(.int ((z0_107_l9_5 x0 x2 x4) - (1 : Int32))), (.ref b8)]))
                        refine g_iload X10 hx 230 (hb hby at_228) rfl rfl ?_
                        show Go p e below s _ _ _ (T10.setTop (mkF m 230 #[.val (.int x0), .val (.int x1), .val (.int x2), .val (.int x3), .val (.int x4), .val (.int (z0_12_s0_1 x4)), .val (.int (z0_26_s0_2 x4)), .val (.int (v0_hosts x0 x4)), .val (.int (v0_pages x1 x4)), .val (.int (z0_107_l9_5 x0 x2 x4)), .val (.int (z0_132_l10_7 x1 x3 x4)), .val (.ref b8), .val (.int (f3 (z0_107_l9_5 x0 x2 x4) (z0_132_l10_7 x1 x3 x4) (v0_hosts x0 x4) (v0_pages x1 x4))), .unset, .unset] [(.int (v0_pages x1 x4)), (.int ((z0_107_l9_5 x0 x2 x4) - (1 : Int32))), (.ref b8)]))
                        refine g_iconst X10 hx (1 : Int32) 231 (hb hby at_230) rfl rfl ?_
                        show Go p e below s _ _ _ (T10.setTop (mkF m 231 #[.val (.int x0), .val (.int x1), .val (.int x2), .val (.int x3), .val (.int x4), .val (.int (z0_12_s0_1 x4)), .val (.int (z0_26_s0_2 x4)), .val (.int (v0_hosts x0 x4)), .val (.int (v0_pages x1 x4)), .val (.int (z0_107_l9_5 x0 x2 x4)), .val (.int (z0_132_l10_7 x1 x3 x4)), .val (.ref b8), .val (.int (f3 (z0_107_l9_5 x0 x2 x4) (z0_132_l10_7 x1 x3 x4) (v0_hosts x0 x4) (v0_pages x1 x4))), .unset, .unset] [(.int (1 : Int32)), (.int (v0_pages x1 x4)), (.int ((z0_107_l9_5 x0 x2 x4) - (1 : Int32))), (.ref b8)]))
                        refine g_isub X10 hx 232 (hb hby at_231) rfl ?_
                        show Go p e below s _ _ _ (T10.setTop (mkF m 232 #[.val (.int x0), .val (.int x1), .val (.int x2), .val (.int x3), .val (.int x4), .val (.int (z0_12_s0_1 x4)), .val (.int (z0_26_s0_2 x4)), .val (.int (v0_hosts x0 x4)), .val (.int (v0_pages x1 x4)), .val (.int (z0_107_l9_5 x0 x2 x4)), .val (.int (z0_132_l10_7 x1 x3 x4)), .val (.ref b8), .val (.int (f3 (z0_107_l9_5 x0 x2 x4) (z0_132_l10_7 x1 x3 x4) (v0_hosts x0 x4) (v0_pages x1 x4))), .unset, .unset] [(.int ((v0_pages x1 x4) - (1 : Int32))), (.int ((z0_107_l9_5 x0 x2 x4) - (1 : Int32))), (.ref b8)]))
                        refine g_callV X10 hx hZ hown (hw _ (List.mem_of_getElem? (i := 32) rfl)) (hw _ (List.mem_of_getElem? (i := 33) rfl)) (hw _ (List.mem_of_getElem? (i := 35) rfl)) (hw _ (List.mem_of_getElem? (i := 34) rfl)) (hw _ (List.mem_of_getElem? (i := 5) rfl)) (hw _ (List.mem_of_getElem? (i := 36) rfl)) (by decide) e10 b8 k9_1 (rm3 l Z a0 hw [] b8 ((z0_107_l9_5 x0 x2 x4) - (1 : Int32)) ((v0_pages x1 x4) - (1 : Int32)) (v0_hosts x0 x4) (v0_pages x1 x4) T9.heap p9_0 p9_1 (own_hz64 x0 x4 : ¬ (v0_hosts x0 x4).toInt64 = 0)) [(.int ((z0_107_l9_5 x0 x2 x4) - (1 : Int32))), (.int ((v0_pages x1 x4) - (1 : Int32)))] [] 0 rfl (lenOf pd__28II_29I rfl) rfl (Nat.le_of_eq rfl) (by decide) (by decide) (by decide) (by decide) (by rw [hml]; rfl) (hb hby at_232) ?_
                        intro T19 L19 v19 X19 q19
                        obtain ⟨rfl, rfl, e19⟩ := q19
                        have NS19 := Fr.app NS10 (Fr.nil n0)
                        show Go p e below s _ _ _ (T19.setTop (mkF m 235 #[.val (.int x0), .val (.int x1), .val (.int x2), .val (.int x3), .val (.int x4), .val (.int (z0_12_s0_1 x4)), .val (.int (z0_26_s0_2 x4)), .val (.int (v0_hosts x0 x4)), .val (.int (v0_pages x1 x4)), .val (.int (z0_107_l9_5 x0 x2 x4)), .val (.int (z0_132_l10_7 x1 x3 x4)), .val (.ref b8), .val (.int (f3 (z0_107_l9_5 x0 x2 x4) (z0_132_l10_7 x1 x3 x4) (v0_hosts x0 x4) (v0_pages x1 x4))), .unset, .unset] [(.int (f3 ((z0_107_l9_5 x0 x2 x4) - (1 : Int32)) ((v0_pages x1 x4) - (1 : Int32)) (v0_hosts x0 x4) (v0_pages x1 x4)))]))
                        refine g_istore X19 hx #[.val (.int x0), .val (.int x1), .val (.int x2), .val (.int x3), .val (.int x4), .val (.int (z0_12_s0_1 x4)), .val (.int (z0_26_s0_2 x4)), .val (.int (v0_hosts x0 x4)), .val (.int (v0_pages x1 x4)), .val (.int (z0_107_l9_5 x0 x2 x4)), .val (.int (z0_132_l10_7 x1 x3 x4)), .val (.ref b8), .val (.int (f3 (z0_107_l9_5 x0 x2 x4) (z0_132_l10_7 x1 x3 x4) (v0_hosts x0 x4) (v0_pages x1 x4))), .unset, .val (.int (f3 ((z0_107_l9_5 x0 x2 x4) - (1 : Int32)) ((v0_pages x1 x4) - (1 : Int32)) (v0_hosts x0 x4) (v0_pages x1 x4)))] 237 (hb hby at_235) rfl rfl ?_
                        show Go p e below s _ _ _ (T19.setTop (mkF m 237 #[.val (.int x0), .val (.int x1), .val (.int x2), .val (.int x3), .val (.int x4), .val (.int (z0_12_s0_1 x4)), .val (.int (z0_26_s0_2 x4)), .val (.int (v0_hosts x0 x4)), .val (.int (v0_pages x1 x4)), .val (.int (z0_107_l9_5 x0 x2 x4)), .val (.int (z0_132_l10_7 x1 x3 x4)), .val (.ref b8), .val (.int (f3 (z0_107_l9_5 x0 x2 x4) (z0_132_l10_7 x1 x3 x4) (v0_hosts x0 x4) (v0_pages x1 x4))), .unset, .val (.int (f3 ((z0_107_l9_5 x0 x2 x4) - (1 : Int32)) ((v0_pages x1 x4) - (1 : Int32)) (v0_hosts x0 x4) (v0_pages x1 x4)))] []))
                        refine g_iload X19 hx 239 (hb hby at_237) rfl rfl ?_
                        show Go p e below s _ _ _ (T19.setTop (mkF m 239 #[.val (.int x0), .val (.int x1), .val (.int x2), .val (.int x3), .val (.int x4), .val (.int (z0_12_s0_1 x4)), .val (.int (z0_26_s0_2 x4)), .val (.int (v0_hosts x0 x4)), .val (.int (v0_pages x1 x4)), .val (.int (z0_107_l9_5 x0 x2 x4)), .val (.int (z0_132_l10_7 x1 x3 x4)), .val (.ref b8), .val (.int (f3 (z0_107_l9_5 x0 x2 x4) (z0_132_l10_7 x1 x3 x4) (v0_hosts x0 x4) (v0_pages x1 x4))), .unset, .val (.int (f3 ((z0_107_l9_5 x0 x2 x4) - (1 : Int32)) ((v0_pages x1 x4) - (1 : Int32)) (v0_hosts x0 x4) (v0_pages x1 x4)))] [(.int (f3 ((z0_107_l9_5 x0 x2 x4) - (1 : Int32)) ((v0_pages x1 x4) - (1 : Int32)) (v0_hosts x0 x4) (v0_pages x1 x4)))]))
                        refine g_iconst X19 hx (1 : Int32) 240 (hb hby at_239) rfl rfl ?_
                        show Go p e below s _ _ _ (T19.setTop (mkF m 240 #[.val (.int x0), .val (.int x1), .val (.int x2), .val (.int x3), .val (.int x4), .val (.int (z0_12_s0_1 x4)), .val (.int (z0_26_s0_2 x4)), .val (.int (v0_hosts x0 x4)), .val (.int (v0_pages x1 x4)), .val (.int (z0_107_l9_5 x0 x2 x4)), .val (.int (z0_132_l10_7 x1 x3 x4)), .val (.ref b8), .val (.int (f3 (z0_107_l9_5 x0 x2 x4) (z0_132_l10_7 x1 x3 x4) (v0_hosts x0 x4) (v0_pages x1 x4))), .unset, .val (.int (f3 ((z0_107_l9_5 x0 x2 x4) - (1 : Int32)) ((v0_pages x1 x4) - (1 : Int32)) (v0_hosts x0 x4) (v0_pages x1 x4)))] [(.int (1 : Int32)), (.int (f3 ((z0_107_l9_5 x0 x2 x4) - (1 : Int32)) ((v0_pages x1 x4) - (1 : Int32)) (v0_hosts x0 x4) (v0_pages x1 x4)))]))
                        refine g_iadd X19 hx 241 (hb hby at_240) rfl ?_
                        show Go p e below s _ _ _ (T19.setTop (mkF m 241 #[.val (.int x0), .val (.int x1), .val (.int x2), .val (.int x3), .val (.int x4), .val (.int (z0_12_s0_1 x4)), .val (.int (z0_26_s0_2 x4)), .val (.int (v0_hosts x0 x4)), .val (.int (v0_pages x1 x4)), .val (.int (z0_107_l9_5 x0 x2 x4)), .val (.int (z0_132_l10_7 x1 x3 x4)), .val (.ref b8), .val (.int (f3 (z0_107_l9_5 x0 x2 x4) (z0_132_l10_7 x1 x3 x4) (v0_hosts x0 x4) (v0_pages x1 x4))), .unset, .val (.int (f3 ((z0_107_l9_5 x0 x2 x4) - (1 : Int32)) ((v0_pages x1 x4) - (1 : Int32)) (v0_hosts x0 x4) (v0_pages x1 x4)))] [(.int ((f3 ((z0_107_l9_5 x0 x2 x4) - (1 : Int32)) ((v0_pages x1 x4) - (1 : Int32)) (v0_hosts x0 x4) (v0_pages x1 x4)) + (1 : Int32)))]))
                        refine g_iload X19 hx 243 (hb hby at_241) rfl rfl ?_
                        show Go p e below s _ _ _ (T19.setTop (mkF m 243 #[.val (.int x0), .val (.int x1), .val (.int x2), .val (.int x3), .val (.int x4), .val (.int (z0_12_s0_1 x4)), .val (.int (z0_26_s0_2 x4)), .val (.int (v0_hosts x0 x4)), .val (.int (v0_pages x1 x4)), .val (.int (z0_107_l9_5 x0 x2 x4)), .val (.int (z0_132_l10_7 x1 x3 x4)), .val (.ref b8), .val (.int (f3 (z0_107_l9_5 x0 x2 x4) (z0_132_l10_7 x1 x3 x4) (v0_hosts x0 x4) (v0_pages x1 x4))), .unset, .val (.int (f3 ((z0_107_l9_5 x0 x2 x4) - (1 : Int32)) ((v0_pages x1 x4) - (1 : Int32)) (v0_hosts x0 x4) (v0_pages x1 x4)))] [(.int (v0_hosts x0 x4)), (.int ((f3 ((z0_107_l9_5 x0 x2 x4) - (1 : Int32)) ((v0_pages x1 x4) - (1 : Int32)) (v0_hosts x0 x4) (v0_pages x1 x4)) + (1 : Int32)))]))
                        refine g_icmp_ne X19 hx 250 246 (hb hby at_243) (by decide) rfl rfl (fun h20 => ?_) (fun h20 => ?_)
                        · show Go p e below s _ _ _ (T19.setTop (mkF m 246 #[.val (.int x0), .val (.int x1), .val (.int x2), .val (.int x3), .val (.int x4), .val (.int (z0_12_s0_1 x4)), .val (.int (z0_26_s0_2 x4)), .val (.int (v0_hosts x0 x4)), .val (.int (v0_pages x1 x4)), .val (.int (z0_107_l9_5 x0 x2 x4)), .val (.int (z0_132_l10_7 x1 x3 x4)), .val (.ref b8), .val (.int (f3 (z0_107_l9_5 x0 x2 x4) (z0_132_l10_7 x1 x3 x4) (v0_hosts x0 x4) (v0_pages x1 x4))), .unset, .val (.int (f3 ((z0_107_l9_5 x0 x2 x4) - (1 : Int32)) ((v0_pages x1 x4) - (1 : Int32)) (v0_hosts x0 x4) (v0_pages x1 x4)))] []))
                          refine g_iconst X19 hx (0 : Int32) 247 (hb hby at_246) rfl rfl ?_
                          show Go p e below s _ _ _ (T19.setTop (mkF m 247 #[.val (.int x0), .val (.int x1), .val (.int x2), .val (.int x3), .val (.int x4), .val (.int (z0_12_s0_1 x4)), .val (.int (z0_26_s0_2 x4)), .val (.int (v0_hosts x0 x4)), .val (.int (v0_pages x1 x4)), .val (.int (z0_107_l9_5 x0 x2 x4)), .val (.int (z0_132_l10_7 x1 x3 x4)), .val (.ref b8), .val (.int (f3 (z0_107_l9_5 x0 x2 x4) (z0_132_l10_7 x1 x3 x4) (v0_hosts x0 x4) (v0_pages x1 x4))), .unset, .val (.int (f3 ((z0_107_l9_5 x0 x2 x4) - (1 : Int32)) ((v0_pages x1 x4) - (1 : Int32)) (v0_hosts x0 x4) (v0_pages x1 x4)))] [(.int (0 : Int32))]))
                          refine g_goto X19 hx 254 (hb hby at_247) (by decide) rfl ?_
                          show Go p e below s _ _ _ (T19.setTop (mkF m 254 #[.val (.int x0), .val (.int x1), .val (.int x2), .val (.int x3), .val (.int x4), .val (.int (z0_12_s0_1 x4)), .val (.int (z0_26_s0_2 x4)), .val (.int (v0_hosts x0 x4)), .val (.int (v0_pages x1 x4)), .val (.int (z0_107_l9_5 x0 x2 x4)), .val (.int (z0_132_l10_7 x1 x3 x4)), .val (.ref b8), .val (.int (f3 (z0_107_l9_5 x0 x2 x4) (z0_132_l10_7 x1 x3 x4) (v0_hosts x0 x4) (v0_pages x1 x4))), .unset, .val (.int (f3 ((z0_107_l9_5 x0 x2 x4) - (1 : Int32)) ((v0_pages x1 x4) - (1 : Int32)) (v0_hosts x0 x4) (v0_pages x1 x4)))] [(.int (0 : Int32))]))
                          refine g_istore X19 hx #[.val (.int x0), .val (.int x1), .val (.int x2), .val (.int x3), .val (.int x4), .val (.int (z0_12_s0_1 x4)), .val (.int (z0_26_s0_2 x4)), .val (.int (v0_hosts x0 x4)), .val (.int (v0_pages x1 x4)), .val (.int (z0_107_l9_5 x0 x2 x4)), .val (.int (z0_132_l10_7 x1 x3 x4)), .val (.ref b8), .val (.int (f3 (z0_107_l9_5 x0 x2 x4) (z0_132_l10_7 x1 x3 x4) (v0_hosts x0 x4) (v0_pages x1 x4))), .val (.int (0 : Int32)), .val (.int (f3 ((z0_107_l9_5 x0 x2 x4) - (1 : Int32)) ((v0_pages x1 x4) - (1 : Int32)) (v0_hosts x0 x4) (v0_pages x1 x4)))] 256 (hb hby at_254) rfl rfl ?_
                          show Go p e below s _ _ _ (T19.setTop (mkF m 256 #[.val (.int x0), .val (.int x1), .val (.int x2), .val (.int x3), .val (.int x4), .val (.int (z0_12_s0_1 x4)), .val (.int (z0_26_s0_2 x4)), .val (.int (v0_hosts x0 x4)), .val (.int (v0_pages x1 x4)), .val (.int (z0_107_l9_5 x0 x2 x4)), .val (.int (z0_132_l10_7 x1 x3 x4)), .val (.ref b8), .val (.int (f3 (z0_107_l9_5 x0 x2 x4) (z0_132_l10_7 x1 x3 x4) (v0_hosts x0 x4) (v0_pages x1 x4))), .val (.int (0 : Int32)), .val (.int (f3 ((z0_107_l9_5 x0 x2 x4) - (1 : Int32)) ((v0_pages x1 x4) - (1 : Int32)) (v0_hosts x0 x4) (v0_pages x1 x4)))] []))
                          refine g_goto X19 hx 272 (hb hby at_256) (by decide) rfl ?_
                          show Go p e below s _ _ _ (T19.setTop (mkF m 272 #[.val (.int x0), .val (.int x1), .val (.int x2), .val (.int x3), .val (.int x4), .val (.int (z0_12_s0_1 x4)), .val (.int (z0_26_s0_2 x4)), .val (.int (v0_hosts x0 x4)), .val (.int (v0_pages x1 x4)), .val (.int (z0_107_l9_5 x0 x2 x4)), .val (.int (z0_132_l10_7 x1 x3 x4)), .val (.ref b8), .val (.int (f3 (z0_107_l9_5 x0 x2 x4) (z0_132_l10_7 x1 x3 x4) (v0_hosts x0 x4) (v0_pages x1 x4))), .val (.int (0 : Int32)), .val (.int (f3 ((z0_107_l9_5 x0 x2 x4) - (1 : Int32)) ((v0_pages x1 x4) - (1 : Int32)) (v0_hosts x0 x4) (v0_pages x1 x4)))] []))
                          refine g_iload X19 hx 274 (hb hby at_272) rfl rfl ?_
                          show Go p e below s _ _ _ (T19.setTop (mkF m 274 #[.val (.int x0), .val (.int x1), .val (.int x2), .val (.int x3), .val (.int x4), .val (.int (z0_12_s0_1 x4)), .val (.int (z0_26_s0_2 x4)), .val (.int (v0_hosts x0 x4)), .val (.int (v0_pages x1 x4)), .val (.int (z0_107_l9_5 x0 x2 x4)), .val (.int (z0_132_l10_7 x1 x3 x4)), .val (.ref b8), .val (.int (f3 (z0_107_l9_5 x0 x2 x4) (z0_132_l10_7 x1 x3 x4) (v0_hosts x0 x4) (v0_pages x1 x4))), .val (.int (0 : Int32)), .val (.int (f3 ((z0_107_l9_5 x0 x2 x4) - (1 : Int32)) ((v0_pages x1 x4) - (1 : Int32)) (v0_hosts x0 x4) (v0_pages x1 x4)))] [(.int (f3 (z0_107_l9_5 x0 x2 x4) (z0_132_l10_7 x1 x3 x4) (v0_hosts x0 x4) (v0_pages x1 x4)))]))
                          refine g_iload X19 hx 276 (hb hby at_274) rfl rfl ?_
                          show Go p e below s _ _ _ (T19.setTop (mkF m 276 #[.val (.int x0), .val (.int x1), .val (.int x2), .val (.int x3), .val (.int x4), .val (.int (z0_12_s0_1 x4)), .val (.int (z0_26_s0_2 x4)), .val (.int (v0_hosts x0 x4)), .val (.int (v0_pages x1 x4)), .val (.int (z0_107_l9_5 x0 x2 x4)), .val (.int (z0_132_l10_7 x1 x3 x4)), .val (.ref b8), .val (.int (f3 (z0_107_l9_5 x0 x2 x4) (z0_132_l10_7 x1 x3 x4) (v0_hosts x0 x4) (v0_pages x1 x4))), .val (.int (0 : Int32)), .val (.int (f3 ((z0_107_l9_5 x0 x2 x4) - (1 : Int32)) ((v0_pages x1 x4) - (1 : Int32)) (v0_hosts x0 x4) (v0_pages x1 x4)))] [(.int (0 : Int32)), (.int (f3 (z0_107_l9_5 x0 x2 x4) (z0_132_l10_7 x1 x3 x4) (v0_hosts x0 x4) (v0_pages x1 x4)))]))
                          refine g_icmp_ne X19 hx 283 279 (hb hby at_276) (by decide) rfl rfl (fun h21 => ?_) (fun h21 => ?_)
                          · show Go p e below s _ _ _ (T19.setTop (mkF m 279 #[.val (.int x0), .val (.int x1), .val (.int x2), .val (.int x3), .val (.int x4), .val (.int (z0_12_s0_1 x4)), .val (.int (z0_26_s0_2 x4)), .val (.int (v0_hosts x0 x4)), .val (.int (v0_pages x1 x4)), .val (.int (z0_107_l9_5 x0 x2 x4)), .val (.int (z0_132_l10_7 x1 x3 x4)), .val (.ref b8), .val (.int (f3 (z0_107_l9_5 x0 x2 x4) (z0_132_l10_7 x1 x3 x4) (v0_hosts x0 x4) (v0_pages x1 x4))), .val (.int (0 : Int32)), .val (.int (f3 ((z0_107_l9_5 x0 x2 x4) - (1 : Int32)) ((v0_pages x1 x4) - (1 : Int32)) (v0_hosts x0 x4) (v0_pages x1 x4)))] []))
                            refine g_iconst X19 hx (1 : Int32) 280 (hb hby at_279) rfl rfl ?_
                            show Go p e below s _ _ _ (T19.setTop (mkF m 280 #[.val (.int x0), .val (.int x1), .val (.int x2), .val (.int x3), .val (.int x4), .val (.int (z0_12_s0_1 x4)), .val (.int (z0_26_s0_2 x4)), .val (.int (v0_hosts x0 x4)), .val (.int (v0_pages x1 x4)), .val (.int (z0_107_l9_5 x0 x2 x4)), .val (.int (z0_132_l10_7 x1 x3 x4)), .val (.ref b8), .val (.int (f3 (z0_107_l9_5 x0 x2 x4) (z0_132_l10_7 x1 x3 x4) (v0_hosts x0 x4) (v0_pages x1 x4))), .val (.int (0 : Int32)), .val (.int (f3 ((z0_107_l9_5 x0 x2 x4) - (1 : Int32)) ((v0_pages x1 x4) - (1 : Int32)) (v0_hosts x0 x4) (v0_pages x1 x4)))] [(.int (1 : Int32))]))
                            refine g_goto X19 hx 284 (hb hby at_280) (by decide) rfl ?_
                            show Go p e below s _ _ _ (T19.setTop (mkF m 284 #[.val (.int x0), .val (.int x1), .val (.int x2), .val (.int x3), .val (.int x4), .val (.int (z0_12_s0_1 x4)), .val (.int (z0_26_s0_2 x4)), .val (.int (v0_hosts x0 x4)), .val (.int (v0_pages x1 x4)), .val (.int (z0_107_l9_5 x0 x2 x4)), .val (.int (z0_132_l10_7 x1 x3 x4)), .val (.ref b8), .val (.int (f3 (z0_107_l9_5 x0 x2 x4) (z0_132_l10_7 x1 x3 x4) (v0_hosts x0 x4) (v0_pages x1 x4))), .val (.int (0 : Int32)), .val (.int (f3 ((z0_107_l9_5 x0 x2 x4) - (1 : Int32)) ((v0_pages x1 x4) - (1 : Int32)) (v0_hosts x0 x4) (v0_pages x1 x4)))] [(.int (1 : Int32))]))
                            exact g_retN X19 hx hret (by simp) hlk (hb hby at_284) (by decide) (by decide) ⟨congrArg (fun z => some (Value.int z)) (show (1 : Int32) = (f0 x0 x1 x2 x3 x4) from by rw [f0, if_neg h11, if_pos h12, if_neg h13, if_pos h18, if_pos h20, if_pos h21]), NS19⟩
                          · show Go p e below s _ _ _ (T19.setTop (mkF m 283 #[.val (.int x0), .val (.int x1), .val (.int x2), .val (.int x3), .val (.int x4), .val (.int (z0_12_s0_1 x4)), .val (.int (z0_26_s0_2 x4)), .val (.int (v0_hosts x0 x4)), .val (.int (v0_pages x1 x4)), .val (.int (z0_107_l9_5 x0 x2 x4)), .val (.int (z0_132_l10_7 x1 x3 x4)), .val (.ref b8), .val (.int (f3 (z0_107_l9_5 x0 x2 x4) (z0_132_l10_7 x1 x3 x4) (v0_hosts x0 x4) (v0_pages x1 x4))), .val (.int (0 : Int32)), .val (.int (f3 ((z0_107_l9_5 x0 x2 x4) - (1 : Int32)) ((v0_pages x1 x4) - (1 : Int32)) (v0_hosts x0 x4) (v0_pages x1 x4)))] []))
                            refine g_iconst X19 hx (0 : Int32) 284 (hb hby at_283) rfl rfl ?_
                            show Go p e below s _ _ _ (T19.setTop (mkF m 284 #[.val (.int x0), .val (.int x1), .val (.int x2), .val (.int x3), .val (.int x4), .val (.int (z0_12_s0_1 x4)), .val (.int (z0_26_s0_2 x4)), .val (.int (v0_hosts x0 x4)), .val (.int (v0_pages x1 x4)), .val (.int (z0_107_l9_5 x0 x2 x4)), .val (.int (z0_132_l10_7 x1 x3 x4)), .val (.ref b8), .val (.int (f3 (z0_107_l9_5 x0 x2 x4) (z0_132_l10_7 x1 x3 x4) (v0_hosts x0 x4) (v0_pages x1 x4))), .val (.int (0 : Int32)), .val (.int (f3 ((z0_107_l9_5 x0 x2 x4) - (1 : Int32)) ((v0_pages x1 x4) - (1 : Int32)) (v0_hosts x0 x4) (v0_pages x1 x4)))] [(.int (0 : Int32))]))
                            exact g_retN X19 hx hret (by simp) hlk (hb hby at_284) (by decide) (by decide) ⟨congrArg (fun z => some (Value.int z)) (show (0 : Int32) = (f0 x0 x1 x2 x3 x4) from by rw [f0, if_neg h11, if_pos h12, if_neg h13, if_pos h18, if_pos h20, if_neg h21]), NS19⟩
                        · show Go p e below s _ _ _ (T19.setTop (mkF m 250 #[.val (.int x0), .val (.int x1), .val (.int x2), .val (.int x3), .val (.int x4), .val (.int (z0_12_s0_1 x4)), .val (.int (z0_26_s0_2 x4)), .val (.int (v0_hosts x0 x4)), .val (.int (v0_pages x1 x4)), .val (.int (z0_107_l9_5 x0 x2 x4)), .val (.int (z0_132_l10_7 x1 x3 x4)), .val (.ref b8), .val (.int (f3 (z0_107_l9_5 x0 x2 x4) (z0_132_l10_7 x1 x3 x4) (v0_hosts x0 x4) (v0_pages x1 x4))), .unset, .val (.int (f3 ((z0_107_l9_5 x0 x2 x4) - (1 : Int32)) ((v0_pages x1 x4) - (1 : Int32)) (v0_hosts x0 x4) (v0_pages x1 x4)))] []))
                          refine g_iload X19 hx 252 (hb hby at_250) rfl rfl ?_
                          show Go p e below s _ _ _ (T19.setTop (mkF m 252 #[.val (.int x0), .val (.int x1), .val (.int x2), .val (.int x3), .val (.int x4), .val (.int (z0_12_s0_1 x4)), .val (.int (z0_26_s0_2 x4)), .val (.int (v0_hosts x0 x4)), .val (.int (v0_pages x1 x4)), .val (.int (z0_107_l9_5 x0 x2 x4)), .val (.int (z0_132_l10_7 x1 x3 x4)), .val (.ref b8), .val (.int (f3 (z0_107_l9_5 x0 x2 x4) (z0_132_l10_7 x1 x3 x4) (v0_hosts x0 x4) (v0_pages x1 x4))), .unset, .val (.int (f3 ((z0_107_l9_5 x0 x2 x4) - (1 : Int32)) ((v0_pages x1 x4) - (1 : Int32)) (v0_hosts x0 x4) (v0_pages x1 x4)))] [(.int (f3 ((z0_107_l9_5 x0 x2 x4) - (1 : Int32)) ((v0_pages x1 x4) - (1 : Int32)) (v0_hosts x0 x4) (v0_pages x1 x4)))]))
                          refine g_iconst X19 hx (1 : Int32) 253 (hb hby at_252) rfl rfl ?_
                          show Go p e below s _ _ _ (T19.setTop (mkF m 253 #[.val (.int x0), .val (.int x1), .val (.int x2), .val (.int x3), .val (.int x4), .val (.int (z0_12_s0_1 x4)), .val (.int (z0_26_s0_2 x4)), .val (.int (v0_hosts x0 x4)), .val (.int (v0_pages x1 x4)), .val (.int (z0_107_l9_5 x0 x2 x4)), .val (.int (z0_132_l10_7 x1 x3 x4)), .val (.ref b8), .val (.int (f3 (z0_107_l9_5 x0 x2 x4) (z0_132_l10_7 x1 x3 x4) (v0_hosts x0 x4) (v0_pages x1 x4))), .unset, .val (.int (f3 ((z0_107_l9_5 x0 x2 x4) - (1 : Int32)) ((v0_pages x1 x4) - (1 : Int32)) (v0_hosts x0 x4) (v0_pages x1 x4)))] [(.int (1 : Int32)), (.int (f3 ((z0_107_l9_5 x0 x2 x4) - (1 : Int32)) ((v0_pages x1 x4) - (1 : Int32)) (v0_hosts x0 x4) (v0_pages x1 x4)))]))
                          refine g_iadd X19 hx 254 (hb hby at_253) rfl ?_
                          show Go p e below s _ _ _ (T19.setTop (mkF m 254 #[.val (.int x0), .val (.int x1), .val (.int x2), .val (.int x3), .val (.int x4), .val (.int (z0_12_s0_1 x4)), .val (.int (z0_26_s0_2 x4)), .val (.int (v0_hosts x0 x4)), .val (.int (v0_pages x1 x4)), .val (.int (z0_107_l9_5 x0 x2 x4)), .val (.int (z0_132_l10_7 x1 x3 x4)), .val (.ref b8), .val (.int (f3 (z0_107_l9_5 x0 x2 x4) (z0_132_l10_7 x1 x3 x4) (v0_hosts x0 x4) (v0_pages x1 x4))), .unset, .val (.int (f3 ((z0_107_l9_5 x0 x2 x4) - (1 : Int32)) ((v0_pages x1 x4) - (1 : Int32)) (v0_hosts x0 x4) (v0_pages x1 x4)))] [(.int ((f3 ((z0_107_l9_5 x0 x2 x4) - (1 : Int32)) ((v0_pages x1 x4) - (1 : Int32)) (v0_hosts x0 x4) (v0_pages x1 x4)) + (1 : Int32)))]))
                          refine g_istore X19 hx #[.val (.int x0), .val (.int x1), .val (.int x2), .val (.int x3), .val (.int x4), .val (.int (z0_12_s0_1 x4)), .val (.int (z0_26_s0_2 x4)), .val (.int (v0_hosts x0 x4)), .val (.int (v0_pages x1 x4)), .val (.int (z0_107_l9_5 x0 x2 x4)), .val (.int (z0_132_l10_7 x1 x3 x4)), .val (.ref b8), .val (.int (f3 (z0_107_l9_5 x0 x2 x4) (z0_132_l10_7 x1 x3 x4) (v0_hosts x0 x4) (v0_pages x1 x4))), .val (.int ((f3 ((z0_107_l9_5 x0 x2 x4) - (1 : Int32)) ((v0_pages x1 x4) - (1 : Int32)) (v0_hosts x0 x4) (v0_pages x1 x4)) + (1 : Int32))), .val (.int (f3 ((z0_107_l9_5 x0 x2 x4) - (1 : Int32)) ((v0_pages x1 x4) - (1 : Int32)) (v0_hosts x0 x4) (v0_pages x1 x4)))] 256 (hb hby at_254) rfl rfl ?_
                          show Go p e below s _ _ _ (T19.setTop (mkF m 256 #[.val (.int x0), .val (.int x1), .val (.int x2), .val (.int x3), .val (.int x4), .val (.int (z0_12_s0_1 x4)), .val (.int (z0_26_s0_2 x4)), .val (.int (v0_hosts x0 x4)), .val (.int (v0_pages x1 x4)), .val (.int (z0_107_l9_5 x0 x2 x4)), .val (.int (z0_132_l10_7 x1 x3 x4)), .val (.ref b8), .val (.int (f3 (z0_107_l9_5 x0 x2 x4) (z0_132_l10_7 x1 x3 x4) (v0_hosts x0 x4) (v0_pages x1 x4))), .val (.int ((f3 ((z0_107_l9_5 x0 x2 x4) - (1 : Int32)) ((v0_pages x1 x4) - (1 : Int32)) (v0_hosts x0 x4) (v0_pages x1 x4)) + (1 : Int32))), .val (.int (f3 ((z0_107_l9_5 x0 x2 x4) - (1 : Int32)) ((v0_pages x1 x4) - (1 : Int32)) (v0_hosts x0 x4) (v0_pages x1 x4)))] []))
                          refine g_goto X19 hx 272 (hb hby at_256) (by decide) rfl ?_
                          show Go p e below s _ _ _ (T19.setTop (mkF m 272 #[.val (.int x0), .val (.int x1), .val (.int x2), .val (.int x3), .val (.int x4), .val (.int (z0_12_s0_1 x4)), .val (.int (z0_26_s0_2 x4)), .val (.int (v0_hosts x0 x4)), .val (.int (v0_pages x1 x4)), .val (.int (z0_107_l9_5 x0 x2 x4)), .val (.int (z0_132_l10_7 x1 x3 x4)), .val (.ref b8), .val (.int (f3 (z0_107_l9_5 x0 x2 x4) (z0_132_l10_7 x1 x3 x4) (v0_hosts x0 x4) (v0_pages x1 x4))), .val (.int ((f3 ((z0_107_l9_5 x0 x2 x4) - (1 : Int32)) ((v0_pages x1 x4) - (1 : Int32)) (v0_hosts x0 x4) (v0_pages x1 x4)) + (1 : Int32))), .val (.int (f3 ((z0_107_l9_5 x0 x2 x4) - (1 : Int32)) ((v0_pages x1 x4) - (1 : Int32)) (v0_hosts x0 x4) (v0_pages x1 x4)))] []))
                          refine g_iload X19 hx 274 (hb hby at_272) rfl rfl ?_
                          show Go p e below s _ _ _ (T19.setTop (mkF m 274 #[.val (.int x0), .val (.int x1), .val (.int x2), .val (.int x3), .val (.int x4), .val (.int (z0_12_s0_1 x4)), .val (.int (z0_26_s0_2 x4)), .val (.int (v0_hosts x0 x4)), .val (.int (v0_pages x1 x4)), .val (.int (z0_107_l9_5 x0 x2 x4)), .val (.int (z0_132_l10_7 x1 x3 x4)), .val (.ref b8), .val (.int (f3 (z0_107_l9_5 x0 x2 x4) (z0_132_l10_7 x1 x3 x4) (v0_hosts x0 x4) (v0_pages x1 x4))), .val (.int ((f3 ((z0_107_l9_5 x0 x2 x4) - (1 : Int32)) ((v0_pages x1 x4) - (1 : Int32)) (v0_hosts x0 x4) (v0_pages x1 x4)) + (1 : Int32))), .val (.int (f3 ((z0_107_l9_5 x0 x2 x4) - (1 : Int32)) ((v0_pages x1 x4) - (1 : Int32)) (v0_hosts x0 x4) (v0_pages x1 x4)))] [(.int (f3 (z0_107_l9_5 x0 x2 x4) (z0_132_l10_7 x1 x3 x4) (v0_hosts x0 x4) (v0_pages x1 x4)))]))
                          refine g_iload X19 hx 276 (hb hby at_274) rfl rfl ?_
                          show Go p e below s _ _ _ (T19.setTop (mkF m 276 #[.val (.int x0), .val (.int x1), .val (.int x2), .val (.int x3), .val (.int x4), .val (.int (z0_12_s0_1 x4)), .val (.int (z0_26_s0_2 x4)), .val (.int (v0_hosts x0 x4)), .val (.int (v0_pages x1 x4)), .val (.int (z0_107_l9_5 x0 x2 x4)), .val (.int (z0_132_l10_7 x1 x3 x4)), .val (.ref b8), .val (.int (f3 (z0_107_l9_5 x0 x2 x4) (z0_132_l10_7 x1 x3 x4) (v0_hosts x0 x4) (v0_pages x1 x4))), .val (.int ((f3 ((z0_107_l9_5 x0 x2 x4) - (1 : Int32)) ((v0_pages x1 x4) - (1 : Int32)) (v0_hosts x0 x4) (v0_pages x1 x4)) + (1 : Int32))), .val (.int (f3 ((z0_107_l9_5 x0 x2 x4) - (1 : Int32)) ((v0_pages x1 x4) - (1 : Int32)) (v0_hosts x0 x4) (v0_pages x1 x4)))] [(.int ((f3 ((z0_107_l9_5 x0 x2 x4) - (1 : Int32)) ((v0_pages x1 x4) - (1 : Int32)) (v0_hosts x0 x4) (v0_pages x1 x4)) + (1 : Int32))), (.int (f3 (z0_107_l9_5 x0 x2 x4) (z0_132_l10_7 x1 x3 x4) (v0_hosts x0 x4) (v0_pages x1 x4)))]))
                          refine g_icmp_ne X19 hx 283 279 (hb hby at_276) (by decide) rfl rfl (fun h22 => ?_) (fun h22 => ?_)
                          · show Go p e below s _ _ _ (T19.setTop (mkF m 279 #[.val (.int x0), .val (.int x1), .val (.int x2), .val (.int x3), .val (.int x4), .val (.int (z0_12_s0_1 x4)), .val (.int (z0_26_s0_2 x4)), .val (.int (v0_hosts x0 x4)), .val (.int (v0_pages x1 x4)), .val (.int (z0_107_l9_5 x0 x2 x4)), .val (.int (z0_132_l10_7 x1 x3 x4)), .val (.ref b8), .val (.int (f3 (z0_107_l9_5 x0 x2 x4) (z0_132_l10_7 x1 x3 x4) (v0_hosts x0 x4) (v0_pages x1 x4))), .val (.int ((f3 ((z0_107_l9_5 x0 x2 x4) - (1 : Int32)) ((v0_pages x1 x4) - (1 : Int32)) (v0_hosts x0 x4) (v0_pages x1 x4)) + (1 : Int32))), .val (.int (f3 ((z0_107_l9_5 x0 x2 x4) - (1 : Int32)) ((v0_pages x1 x4) - (1 : Int32)) (v0_hosts x0 x4) (v0_pages x1 x4)))] []))
                            refine g_iconst X19 hx (1 : Int32) 280 (hb hby at_279) rfl rfl ?_
                            show Go p e below s _ _ _ (T19.setTop (mkF m 280 #[.val (.int x0), .val (.int x1), .val (.int x2), .val (.int x3), .val (.int x4), .val (.int (z0_12_s0_1 x4)), .val (.int (z0_26_s0_2 x4)), .val (.int (v0_hosts x0 x4)), .val (.int (v0_pages x1 x4)), .val (.int (z0_107_l9_5 x0 x2 x4)), .val (.int (z0_132_l10_7 x1 x3 x4)), .val (.ref b8), .val (.int (f3 (z0_107_l9_5 x0 x2 x4) (z0_132_l10_7 x1 x3 x4) (v0_hosts x0 x4) (v0_pages x1 x4))), .val (.int ((f3 ((z0_107_l9_5 x0 x2 x4) - (1 : Int32)) ((v0_pages x1 x4) - (1 : Int32)) (v0_hosts x0 x4) (v0_pages x1 x4)) + (1 : Int32))), .val (.int (f3 ((z0_107_l9_5 x0 x2 x4) - (1 : Int32)) ((v0_pages x1 x4) - (1 : Int32)) (v0_hosts x0 x4) (v0_pages x1 x4)))] [(.int (1 : Int32))]))
                            refine g_goto X19 hx 284 (hb hby at_280) (by decide) rfl ?_
                            show Go p e below s _ _ _ (T19.setTop (mkF m 284 #[.val (.int x0), .val (.int x1), .val (.int x2), .val (.int x3), .val (.int x4), .val (.int (z0_12_s0_1 x4)), .val (.int (z0_26_s0_2 x4)), .val (.int (v0_hosts x0 x4)), .val (.int (v0_pages x1 x4)), .val (.int (z0_107_l9_5 x0 x2 x4)), .val (.int (z0_132_l10_7 x1 x3 x4)), .val (.ref b8), .val (.int (f3 (z0_107_l9_5 x0 x2 x4) (z0_132_l10_7 x1 x3 x4) (v0_hosts x0 x4) (v0_pages x1 x4))), .val (.int ((f3 ((z0_107_l9_5 x0 x2 x4) - (1 : Int32)) ((v0_pages x1 x4) - (1 : Int32)) (v0_hosts x0 x4) (v0_pages x1 x4)) + (1 : Int32))), .val (.int (f3 ((z0_107_l9_5 x0 x2 x4) - (1 : Int32)) ((v0_pages x1 x4) - (1 : Int32)) (v0_hosts x0 x4) (v0_pages x1 x4)))] [(.int (1 : Int32))]))
                            exact g_retN X19 hx hret (by simp) hlk (hb hby at_284) (by decide) (by decide) ⟨congrArg (fun z => some (Value.int z)) (show (1 : Int32) = (f0 x0 x1 x2 x3 x4) from by rw [f0, if_neg h11, if_pos h12, if_neg h13, if_pos h18, if_neg h20, if_pos h22]), NS19⟩
                          · show Go p e below s _ _ _ (T19.setTop (mkF m 283 #[.val (.int x0), .val (.int x1), .val (.int x2), .val (.int x3), .val (.int x4), .val (.int (z0_12_s0_1 x4)), .val (.int (z0_26_s0_2 x4)), .val (.int (v0_hosts x0 x4)), .val (.int (v0_pages x1 x4)), .val (.int (z0_107_l9_5 x0 x2 x4)), .val (.int (z0_132_l10_7 x1 x3 x4)), .val (.ref b8), .val (.int (f3 (z0_107_l9_5 x0 x2 x4) (z0_132_l10_7 x1 x3 x4) (v0_hosts x0 x4) (v0_pages x1 x4))), .val (.int ((f3 ((z0_107_l9_5 x0 x2 x4) - (1 : Int32)) ((v0_pages x1 x4) - (1 : Int32)) (v0_hosts x0 x4) (v0_pages x1 x4)) + (1 : Int32))), .val (.int (f3 ((z0_107_l9_5 x0 x2 x4) - (1 : Int32)) ((v0_pages x1 x4) - (1 : Int32)) (v0_hosts x0 x4) (v0_pages x1 x4)))] []))
                            refine g_iconst X19 hx (0 : Int32) 284 (hb hby at_283) rfl rfl ?_
                            show Go p e below s _ _ _ (T19.setTop (mkF m 284 #[.val (.int x0), .val (.int x1), .val (.int x2), .val (.int x3), .val (.int x4), .val (.int (z0_12_s0_1 x4)), .val (.int (z0_26_s0_2 x4)), .val (.int (v0_hosts x0 x4)), .val (.int (v0_pages x1 x4)), .val (.int (z0_107_l9_5 x0 x2 x4)), .val (.int (z0_132_l10_7 x1 x3 x4)), .val (.ref b8), .val (.int (f3 (z0_107_l9_5 x0 x2 x4) (z0_132_l10_7 x1 x3 x4) (v0_hosts x0 x4) (v0_pages x1 x4))), .val (.int ((f3 ((z0_107_l9_5 x0 x2 x4) - (1 : Int32)) ((v0_pages x1 x4) - (1 : Int32)) (v0_hosts x0 x4) (v0_pages x1 x4)) + (1 : Int32))), .val (.int (f3 ((z0_107_l9_5 x0 x2 x4) - (1 : Int32)) ((v0_pages x1 x4) - (1 : Int32)) (v0_hosts x0 x4) (v0_pages x1 x4)))] [(.int (0 : Int32))]))
                            exact g_retN X19 hx hret (by simp) hlk (hb hby at_284) (by decide) (by decide) ⟨congrArg (fun z => some (Value.int z)) (show (0 : Int32) = (f0 x0 x1 x2 x3 x4) from by rw [f0, if_neg h11, if_pos h12, if_neg h13, if_pos h18, if_neg h20, if_neg h22]), NS19⟩
                      · show Go p e below s _ _ _ (T10.setTop (mkF m 259 #[.val (.int x0), .val (.int x1), .val (.int x2), .val (.int x3), .val (.int x4), .val (.int (z0_12_s0_1 x4)), .val (.int (z0_26_s0_2 x4)), .val (.int (v0_hosts x0 x4)), .val (.int (v0_pages x1 x4)), .val (.int (z0_107_l9_5 x0 x2 x4)), .val (.int (z0_132_l10_7 x1 x3 x4)), .val (.ref b8), .val (.int (f3 (z0_107_l9_5 x0 x2 x4) (z0_132_l10_7 x1 x3 x4) (v0_hosts x0 x4) (v0_pages x1 x4))), .unset, .unset] []))
                        refine g_iload X10 hx 261 (hb hby at_259) rfl rfl ?_
                        show Go p e below s _ _ _ (T10.setTop (mkF m 261 #[.val (.int x0), .val (.int x1), .val (.int x2), .val (.int x3), .val (.int x4), .val (.int (z0_12_s0_1 x4)), .val (.int (z0_26_s0_2 x4)), .val (.int (v0_hosts x0 x4)), .val (.int (v0_pages x1 x4)), .val (.int (z0_107_l9_5 x0 x2 x4)), .val (.int (z0_132_l10_7 x1 x3 x4)), .val (.ref b8), .val (.int (f3 (z0_107_l9_5 x0 x2 x4) (z0_132_l10_7 x1 x3 x4) (v0_hosts x0 x4) (v0_pages x1 x4))), .unset, .unset] [(.int (v0_hosts x0 x4))]))
                        refine g_iconst X10 hx (1 : Int32) 262 (hb hby at_261) rfl rfl ?_
                        show Go p e below s _ _ _ (T10.setTop (mkF m 262 #[.val (.int x0), .val (.int x1), .val (.int x2), .val (.int x3), .val (.int x4), .val (.int (z0_12_s0_1 x4)), .val (.int (z0_26_s0_2 x4)), .val (.int (v0_hosts x0 x4)), .val (.int (v0_pages x1 x4)), .val (.int (z0_107_l9_5 x0 x2 x4)), .val (.int (z0_132_l10_7 x1 x3 x4)), .val (.ref b8), .val (.int (f3 (z0_107_l9_5 x0 x2 x4) (z0_132_l10_7 x1 x3 x4) (v0_hosts x0 x4) (v0_pages x1 x4))), .unset, .unset] [(.int (1 : Int32)), (.int (v0_hosts x0 x4))]))
                        refine g_icmp_ne X10 hx 269 265 (hb hby at_262) (by decide) rfl rfl (fun h23 => ?_) (fun h23 => ?_)
                        · show Go p e below s _ _ _ (T10.setTop (mkF m 265 #[.val (.int x0), .val (.int x1), .val (.int x2), .val (.int x3), .val (.int x4), .val (.int (z0_12_s0_1 x4)), .val (.int (z0_26_s0_2 x4)), .val (.int (v0_hosts x0 x4)), .val (.int (v0_pages x1 x4)), .val (.int (z0_107_l9_5 x0 x2 x4)), .val (.int (z0_132_l10_7 x1 x3 x4)), .val (.ref b8), .val (.int (f3 (z0_107_l9_5 x0 x2 x4) (z0_132_l10_7 x1 x3 x4) (v0_hosts x0 x4) (v0_pages x1 x4))), .unset, .unset] []))
                          refine g_iconst X10 hx (0 : Int32) 266 (hb hby at_265) rfl rfl ?_
                          show Go p e below s _ _ _ (T10.setTop (mkF m 266 #[.val (.int x0), .val (.int x1), .val (.int x2), .val (.int x3), .val (.int x4), .val (.int (z0_12_s0_1 x4)), .val (.int (z0_26_s0_2 x4)), .val (.int (v0_hosts x0 x4)), .val (.int (v0_pages x1 x4)), .val (.int (z0_107_l9_5 x0 x2 x4)), .val (.int (z0_132_l10_7 x1 x3 x4)), .val (.ref b8), .val (.int (f3 (z0_107_l9_5 x0 x2 x4) (z0_132_l10_7 x1 x3 x4) (v0_hosts x0 x4) (v0_pages x1 x4))), .unset, .unset] [(.int (0 : Int32))]))
                          refine g_goto X10 hx 270 (hb hby at_266) (by decide) rfl ?_
                          show Go p e below s _ _ _ (T10.setTop (mkF m 270 #[.val (.int x0), .val (.int x1), .val (.int x2), .val (.int x3), .val (.int x4), .val (.int (z0_12_s0_1 x4)), .val (.int (z0_26_s0_2 x4)), .val (.int (v0_hosts x0 x4)), .val (.int (v0_pages x1 x4)), .val (.int (z0_107_l9_5 x0 x2 x4)), .val (.int (z0_132_l10_7 x1 x3 x4)), .val (.ref b8), .val (.int (f3 (z0_107_l9_5 x0 x2 x4) (z0_132_l10_7 x1 x3 x4) (v0_hosts x0 x4) (v0_pages x1 x4))), .unset, .unset] [(.int (0 : Int32))]))
                          refine g_istore X10 hx #[.val (.int x0), .val (.int x1), .val (.int x2), .val (.int x3), .val (.int x4), .val (.int (z0_12_s0_1 x4)), .val (.int (z0_26_s0_2 x4)), .val (.int (v0_hosts x0 x4)), .val (.int (v0_pages x1 x4)), .val (.int (z0_107_l9_5 x0 x2 x4)), .val (.int (z0_132_l10_7 x1 x3 x4)), .val (.ref b8), .val (.int (f3 (z0_107_l9_5 x0 x2 x4) (z0_132_l10_7 x1 x3 x4) (v0_hosts x0 x4) (v0_pages x1 x4))), .val (.int (0 : Int32)), .unset] 272 (hb hby at_270) rfl rfl ?_
                          show Go p e below s _ _ _ (T10.setTop (mkF m 272 #[.val (.int x0), .val (.int x1), .val (.int x2), .val (.int x3), .val (.int x4), .val (.int (z0_12_s0_1 x4)), .val (.int (z0_26_s0_2 x4)), .val (.int (v0_hosts x0 x4)), .val (.int (v0_pages x1 x4)), .val (.int (z0_107_l9_5 x0 x2 x4)), .val (.int (z0_132_l10_7 x1 x3 x4)), .val (.ref b8), .val (.int (f3 (z0_107_l9_5 x0 x2 x4) (z0_132_l10_7 x1 x3 x4) (v0_hosts x0 x4) (v0_pages x1 x4))), .val (.int (0 : Int32)), .unset] []))
                          refine g_iload X10 hx 274 (hb hby at_272) rfl rfl ?_
                          show Go p e below s _ _ _ (T10.setTop (mkF m 274 #[.val (.int x0), .val (.int x1), .val (.int x2), .val (.int x3), .val (.int x4), .val (.int (z0_12_s0_1 x4)), .val (.int (z0_26_s0_2 x4)), .val (.int (v0_hosts x0 x4)), .val (.int (v0_pages x1 x4)), .val (.int (z0_107_l9_5 x0 x2 x4)), .val (.int (z0_132_l10_7 x1 x3 x4)), .val (.ref b8), .val (.int (f3 (z0_107_l9_5 x0 x2 x4) (z0_132_l10_7 x1 x3 x4) (v0_hosts x0 x4) (v0_pages x1 x4))), .val (.int (0 : Int32)), .unset] [(.int (f3 (z0_107_l9_5 x0 x2 x4) (z0_132_l10_7 x1 x3 x4) (v0_hosts x0 x4) (v0_pages x1 x4)))]))
                          refine g_iload X10 hx 276 (hb hby at_274) rfl rfl ?_
                          show Go p e below s _ _ _ (T10.setTop (mkF m 276 #[.val (.int x0), .val (.int x1), .val (.int x2), .val (.int x3), .val (.int x4), .val (.int (z0_12_s0_1 x4)), .val (.int (z0_26_s0_2 x4)), .val (.int (v0_hosts x0 x4)), .val (.int (v0_pages x1 x4)), .val (.int (z0_107_l9_5 x0 x2 x4)), .val (.int (z0_132_l10_7 x1 x3 x4)), .val (.ref b8), .val (.int (f3 (z0_107_l9_5 x0 x2 x4) (z0_132_l10_7 x1 x3 x4) (v0_hosts x0 x4) (v0_pages x1 x4))), .val (.int (0 : Int32)), .unset] [(.int (0 : Int32)), (.int (f3 (z0_107_l9_5 x0 x2 x4) (z0_132_l10_7 x1 x3 x4) (v0_hosts x0 x4) (v0_pages x1 x4)))]))
                          refine g_icmp_ne X10 hx 283 279 (hb hby at_276) (by decide) rfl rfl (fun h24 => ?_) (fun h24 => ?_)
                          · show Go p e below s _ _ _ (T10.setTop (mkF m 279 #[.val (.int x0), .val (.int x1), .val (.int x2), .val (.int x3), .val (.int x4), .val (.int (z0_12_s0_1 x4)), .val (.int (z0_26_s0_2 x4)), .val (.int (v0_hosts x0 x4)), .val (.int (v0_pages x1 x4)), .val (.int (z0_107_l9_5 x0 x2 x4)), .val (.int (z0_132_l10_7 x1 x3 x4)), .val (.ref b8), .val (.int (f3 (z0_107_l9_5 x0 x2 x4) (z0_132_l10_7 x1 x3 x4) (v0_hosts x0 x4) (v0_pages x1 x4))), .val (.int (0 : Int32)), .unset] []))
                            refine g_iconst X10 hx (1 : Int32) 280 (hb hby at_279) rfl rfl ?_
                            show Go p e below s _ _ _ (T10.setTop (mkF m 280 #[.val (.int x0), .val (.int x1), .val (.int x2), .val (.int x3), .val (.int x4), .val (.int (z0_12_s0_1 x4)), .val (.int (z0_26_s0_2 x4)), .val (.int (v0_hosts x0 x4)), .val (.int (v0_pages x1 x4)), .val (.int (z0_107_l9_5 x0 x2 x4)), .val (.int (z0_132_l10_7 x1 x3 x4)), .val (.ref b8), .val (.int (f3 (z0_107_l9_5 x0 x2 x4) (z0_132_l10_7 x1 x3 x4) (v0_hosts x0 x4) (v0_pages x1 x4))), .val (.int (0 : Int32)), .unset] [(.int (1 : Int32))]))
                            refine g_goto X10 hx 284 (hb hby at_280) (by decide) rfl ?_
                            show Go p e below s _ _ _ (T10.setTop (mkF m 284 #[.val (.int x0), .val (.int x1), .val (.int x2), .val (.int x3), .val (.int x4), .val (.int (z0_12_s0_1 x4)), .val (.int (z0_26_s0_2 x4)), .val (.int (v0_hosts x0 x4)), .val (.int (v0_pages x1 x4)), .val (.int (z0_107_l9_5 x0 x2 x4)), .val (.int (z0_132_l10_7 x1 x3 x4)), .val (.ref b8), .val (.int (f3 (z0_107_l9_5 x0 x2 x4) (z0_132_l10_7 x1 x3 x4) (v0_hosts x0 x4) (v0_pages x1 x4))), .val (.int (0 : Int32)), .unset] [(.int (1 : Int32))]))
                            exact g_retN X10 hx hret (by simp) hlk (hb hby at_284) (by decide) (by decide) ⟨congrArg (fun z => some (Value.int z)) (show (1 : Int32) = (f0 x0 x1 x2 x3 x4) from by rw [f0, if_neg h11, if_pos h12, if_neg h13, if_neg h18, if_pos h23, if_pos h24]), NS10⟩
                          · show Go p e below s _ _ _ (T10.setTop (mkF m 283 #[.val (.int x0), .val (.int x1), .val (.int x2), .val (.int x3), .val (.int x4), .val (.int (z0_12_s0_1 x4)), .val (.int (z0_26_s0_2 x4)), .val (.int (v0_hosts x0 x4)), .val (.int (v0_pages x1 x4)), .val (.int (z0_107_l9_5 x0 x2 x4)), .val (.int (z0_132_l10_7 x1 x3 x4)), .val (.ref b8), .val (.int (f3 (z0_107_l9_5 x0 x2 x4) (z0_132_l10_7 x1 x3 x4) (v0_hosts x0 x4) (v0_pages x1 x4))), .val (.int (0 : Int32)), .unset] []))
                            refine g_iconst X10 hx (0 : Int32) 284 (hb hby at_283) rfl rfl ?_
                            show Go p e below s _ _ _ (T10.setTop (mkF m 284 #[.val (.int x0), .val (.int x1), .val (.int x2), .val (.int x3), .val (.int x4), .val (.int (z0_12_s0_1 x4)), .val (.int (z0_26_s0_2 x4)), .val (.int (v0_hosts x0 x4)), .val (.int (v0_pages x1 x4)), .val (.int (z0_107_l9_5 x0 x2 x4)), .val (.int (z0_132_l10_7 x1 x3 x4)), .val (.ref b8), .val (.int (f3 (z0_107_l9_5 x0 x2 x4) (z0_132_l10_7 x1 x3 x4) (v0_hosts x0 x4) (v0_pages x1 x4))), .val (.int (0 : Int32)), .unset] [(.int (0 : Int32))]))
                            exact g_retN X10 hx hret (by simp) hlk (hb hby at_284) (by decide) (by decide) ⟨congrArg (fun z => some (Value.int z)) (show (0 : Int32) = (f0 x0 x1 x2 x3 x4) from by rw [f0, if_neg h11, if_pos h12, if_neg h13, if_neg h18, if_pos h23, if_neg h24]), NS10⟩
                        · show Go p e below s _ _ _ (T10.setTop (mkF m 269 #[.val (.int x0), .val (.int x1), .val (.int x2), .val (.int x3), .val (.int x4), .val (.int (z0_12_s0_1 x4)), .val (.int (z0_26_s0_2 x4)), .val (.int (v0_hosts x0 x4)), .val (.int (v0_pages x1 x4)), .val (.int (z0_107_l9_5 x0 x2 x4)), .val (.int (z0_132_l10_7 x1 x3 x4)), .val (.ref b8), .val (.int (f3 (z0_107_l9_5 x0 x2 x4) (z0_132_l10_7 x1 x3 x4) (v0_hosts x0 x4) (v0_pages x1 x4))), .unset, .unset] []))
                          refine g_iconst X10 hx (1 : Int32) 270 (hb hby at_269) rfl rfl ?_
                          show Go p e below s _ _ _ (T10.setTop (mkF m 270 #[.val (.int x0), .val (.int x1), .val (.int x2), .val (.int x3), .val (.int x4), .val (.int (z0_12_s0_1 x4)), .val (.int (z0_26_s0_2 x4)), .val (.int (v0_hosts x0 x4)), .val (.int (v0_pages x1 x4)), .val (.int (z0_107_l9_5 x0 x2 x4)), .val (.int (z0_132_l10_7 x1 x3 x4)), .val (.ref b8), .val (.int (f3 (z0_107_l9_5 x0 x2 x4) (z0_132_l10_7 x1 x3 x4) (v0_hosts x0 x4) (v0_pages x1 x4))), .unset, .unset] [(.int (1 : Int32))]))
                          refine g_istore X10 hx #[.val (.int x0), .val (.int x1), .val (.int x2), .val (.int x3), .val (.int x4), .val (.int (z0_12_s0_1 x4)), .val (.int (z0_26_s0_2 x4)), .val (.int (v0_hosts x0 x4)), .val (.int (v0_pages x1 x4)), .val (.int (z0_107_l9_5 x0 x2 x4)), .val (.int (z0_132_l10_7 x1 x3 x4)), .val (.ref b8), .val (.int (f3 (z0_107_l9_5 x0 x2 x4) (z0_132_l10_7 x1 x3 x4) (v0_hosts x0 x4) (v0_pages x1 x4))), .val (.int (1 : Int32)), .unset] 272 (hb hby at_270) rfl rfl ?_
                          show Go p e below s _ _ _ (T10.setTop (mkF m 272 #[.val (.int x0), .val (.int x1), .val (.int x2), .val (.int x3), .val (.int x4), .val (.int (z0_12_s0_1 x4)), .val (.int (z0_26_s0_2 x4)), .val (.int (v0_hosts x0 x4)), .val (.int (v0_pages x1 x4)), .val (.int (z0_107_l9_5 x0 x2 x4)), .val (.int (z0_132_l10_7 x1 x3 x4)), .val (.ref b8), .val (.int (f3 (z0_107_l9_5 x0 x2 x4) (z0_132_l10_7 x1 x3 x4) (v0_hosts x0 x4) (v0_pages x1 x4))), .val (.int (1 : Int32)), .unset] []))
                          refine g_iload X10 hx 274 (hb hby at_272) rfl rfl ?_
                          show Go p e below s _ _ _ (T10.setTop (mkF m 274 #[.val (.int x0), .val (.int x1), .val (.int x2), .val (.int x3), .val (.int x4), .val (.int (z0_12_s0_1 x4)), .val (.int (z0_26_s0_2 x4)), .val (.int (v0_hosts x0 x4)), .val (.int (v0_pages x1 x4)), .val (.int (z0_107_l9_5 x0 x2 x4)), .val (.int (z0_132_l10_7 x1 x3 x4)), .val (.ref b8), .val (.int (f3 (z0_107_l9_5 x0 x2 x4) (z0_132_l10_7 x1 x3 x4) (v0_hosts x0 x4) (v0_pages x1 x4))), .val (.int (1 : Int32)), .unset] [(.int (f3 (z0_107_l9_5 x0 x2 x4) (z0_132_l10_7 x1 x3 x4) (v0_hosts x0 x4) (v0_pages x1 x4)))]))
                          refine g_iload X10 hx 276 (hb hby at_274) rfl rfl ?_
                          show Go p e below s _ _ _ (T10.setTop (mkF m 276 #[.val (.int x0), .val (.int x1), .val (.int x2), .val (.int x3), .val (.int x4), .val (.int (z0_12_s0_1 x4)), .val (.int (z0_26_s0_2 x4)), .val (.int (v0_hosts x0 x4)), .val (.int (v0_pages x1 x4)), .val (.int (z0_107_l9_5 x0 x2 x4)), .val (.int (z0_132_l10_7 x1 x3 x4)), .val (.ref b8), .val (.int (f3 (z0_107_l9_5 x0 x2 x4) (z0_132_l10_7 x1 x3 x4) (v0_hosts x0 x4) (v0_pages x1 x4))), .val (.int (1 : Int32)), .unset] [(.int (1 : Int32)), (.int (f3 (z0_107_l9_5 x0 x2 x4) (z0_132_l10_7 x1 x3 x4) (v0_hosts x0 x4) (v0_pages x1 x4)))]))
                          refine g_icmp_ne X10 hx 283 279 (hb hby at_276) (by decide) rfl rfl (fun h25 => ?_) (fun h25 => ?_)
                          · show Go p e below s _ _ _ (T10.setTop (mkF m 279 #[.val (.int x0), .val (.int x1), .val (.int x2), .val (.int x3), .val (.int x4), .val (.int (z0_12_s0_1 x4)), .val (.int (z0_26_s0_2 x4)), .val (.int (v0_hosts x0 x4)), .val (.int (v0_pages x1 x4)), .val (.int (z0_107_l9_5 x0 x2 x4)), .val (.int (z0_132_l10_7 x1 x3 x4)), .val (.ref b8), .val (.int (f3 (z0_107_l9_5 x0 x2 x4) (z0_132_l10_7 x1 x3 x4) (v0_hosts x0 x4) (v0_pages x1 x4))), .val (.int (1 : Int32)), .unset] []))
                            refine g_iconst X10 hx (1 : Int32) 280 (hb hby at_279) rfl rfl ?_
                            show Go p e below s _ _ _ (T10.setTop (mkF m 280 #[.val (.int x0), .val (.int x1), .val (.int x2), .val (.int x3), .val (.int x4), .val (.int (z0_12_s0_1 x4)), .val (.int (z0_26_s0_2 x4)), .val (.int (v0_hosts x0 x4)), .val (.int (v0_pages x1 x4)), .val (.int (z0_107_l9_5 x0 x2 x4)), .val (.int (z0_132_l10_7 x1 x3 x4)), .val (.ref b8), .val (.int (f3 (z0_107_l9_5 x0 x2 x4) (z0_132_l10_7 x1 x3 x4) (v0_hosts x0 x4) (v0_pages x1 x4))), .val (.int (1 : Int32)), .unset] [(.int (1 : Int32))]))
                            refine g_goto X10 hx 284 (hb hby at_280) (by decide) rfl ?_
                            show Go p e below s _ _ _ (T10.setTop (mkF m 284 #[.val (.int x0), .val (.int x1), .val (.int x2), .val (.int x3), .val (.int x4), .val (.int (z0_12_s0_1 x4)), .val (.int (z0_26_s0_2 x4)), .val (.int (v0_hosts x0 x4)), .val (.int (v0_pages x1 x4)), .val (.int (z0_107_l9_5 x0 x2 x4)), .val (.int (z0_132_l10_7 x1 x3 x4)), .val (.ref b8), .val (.int (f3 (z0_107_l9_5 x0 x2 x4) (z0_132_l10_7 x1 x3 x4) (v0_hosts x0 x4) (v0_pages x1 x4))), .val (.int (1 : Int32)), .unset] [(.int (1 : Int32))]))
                            exact g_retN X10 hx hret (by simp) hlk (hb hby at_284) (by decide) (by decide) ⟨congrArg (fun z => some (Value.int z)) (show (1 : Int32) = (f0 x0 x1 x2 x3 x4) from by rw [f0, if_neg h11, if_pos h12, if_neg h13, if_neg h18, if_neg h23, if_pos h25]), NS10⟩
                          · show Go p e below s _ _ _ (T10.setTop (mkF m 283 #[.val (.int x0), .val (.int x1), .val (.int x2), .val (.int x3), .val (.int x4), .val (.int (z0_12_s0_1 x4)), .val (.int (z0_26_s0_2 x4)), .val (.int (v0_hosts x0 x4)), .val (.int (v0_pages x1 x4)), .val (.int (z0_107_l9_5 x0 x2 x4)), .val (.int (z0_132_l10_7 x1 x3 x4)), .val (.ref b8), .val (.int (f3 (z0_107_l9_5 x0 x2 x4) (z0_132_l10_7 x1 x3 x4) (v0_hosts x0 x4) (v0_pages x1 x4))), .val (.int (1 : Int32)), .unset] []))
                            refine g_iconst X10 hx (0 : Int32) 284 (hb hby at_283) rfl rfl ?_
                            show Go p e below s _ _ _ (T10.setTop (mkF m 284 #[.val (.int x0), .val (.int x1), .val (.int x2), .val (.int x3), .val (.int x4), .val (.int (z0_12_s0_1 x4)), .val (.int (z0_26_s0_2 x4)), .val (.int (v0_hosts x0 x4)), .val (.int (v0_pages x1 x4)), .val (.int (z0_107_l9_5 x0 x2 x4)), .val (.int (z0_132_l10_7 x1 x3 x4)), .val (.ref b8), .val (.int (f3 (z0_107_l9_5 x0 x2 x4) (z0_132_l10_7 x1 x3 x4) (v0_hosts x0 x4) (v0_pages x1 x4))), .val (.int (1 : Int32)), .unset] [(.int (0 : Int32))]))
                            exact g_retN X10 hx hret (by simp) hlk (hb hby at_284) (by decide) (by decide) ⟨congrArg (fun z => some (Value.int z)) (show (0 : Int32) = (f0 x0 x1 x2 x3 x4) from by rw [f0, if_neg h11, if_pos h12, if_neg h13, if_neg h18, if_neg h23, if_neg h25]), NS10⟩
                  · show Go p e below s _ _ _ (T10.setTop (mkF m 175 #[.val (.int x0), .val (.int x1), .val (.int x2), .val (.int x3), .val (.int x4), .val (.int (z0_12_s0_1 x4)), .val (.int (z0_26_s0_2 x4)), .val (.int (v0_hosts x0 x4)), .val (.int (v0_pages x1 x4)), .val (.int (z0_107_l9_5 x0 x2 x4)), .val (.int (z0_132_l10_7 x1 x3 x4)), .val (.ref b8), .val (.int (f3 (z0_107_l9_5 x0 x2 x4) (z0_132_l10_7 x1 x3 x4) (v0_hosts x0 x4) (v0_pages x1 x4))), .unset, .unset] []))
                    refine g_iconst X10 hx (0 : Int32) 176 (hb hby at_175) rfl rfl ?_
                    show Go p e below s _ _ _ (T10.setTop (mkF m 176 #[.val (.int x0), .val (.int x1), .val (.int x2), .val (.int x3), .val (.int x4), .val (.int (z0_12_s0_1 x4)), .val (.int (z0_26_s0_2 x4)), .val (.int (v0_hosts x0 x4)), .val (.int (v0_pages x1 x4)), .val (.int (z0_107_l9_5 x0 x2 x4)), .val (.int (z0_132_l10_7 x1 x3 x4)), .val (.ref b8), .val (.int (f3 (z0_107_l9_5 x0 x2 x4) (z0_132_l10_7 x1 x3 x4) (v0_hosts x0 x4) (v0_pages x1 x4))), .unset, .unset] [(.int (0 : Int32))]))
                    exact g_retN X10 hx hret (by simp) hlk (hb hby at_176) (by decide) (by decide) ⟨congrArg (fun z => some (Value.int z)) (show (0 : Int32) = (f0 x0 x1 x2 x3 x4) from by rw [f0, if_neg h11, if_neg h12]), NS10⟩
              refine g_if0_eq X0 hx 132 129 (hb hby at_126) (by decide) rfl rfl (fun h26 => ?_) (fun h26 => ?_)
              · show Go p e below s _ _ _ (T0.setTop (mkF m 132 #[.val (.int x0), .val (.int x1), .val (.int x2), .val (.int x3), .val (.int x4), .val (.int (z0_12_s0_1 x4)), .val (.int (z0_26_s0_2 x4)), .val (.int (v0_hosts x0 x4)), .val (.int (v0_pages x1 x4)), .val (.int (z0_107_l9_5 x0 x2 x4)), .val (.int (z0_121_l10_6 x1 x3 x4)), .unset, .unset, .unset, .unset] []))
                have q7 := J7
                simp only [z0_132_l10_7, if_pos h26] at q7
                exact q7
              · show Go p e below s _ _ _ (T0.setTop (mkF m 129 #[.val (.int x0), .val (.int x1), .val (.int x2), .val (.int x3), .val (.int x4), .val (.int (z0_12_s0_1 x4)), .val (.int (z0_26_s0_2 x4)), .val (.int (v0_hosts x0 x4)), .val (.int (v0_pages x1 x4)), .val (.int (z0_107_l9_5 x0 x2 x4)), .val (.int (z0_121_l10_6 x1 x3 x4)), .unset, .unset, .unset, .unset] []))
                refine g_iconst X0 hx (0 : Int32) 130 (hb hby at_129) rfl rfl ?_
                show Go p e below s _ _ _ (T0.setTop (mkF m 130 #[.val (.int x0), .val (.int x1), .val (.int x2), .val (.int x3), .val (.int x4), .val (.int (z0_12_s0_1 x4)), .val (.int (z0_26_s0_2 x4)), .val (.int (v0_hosts x0 x4)), .val (.int (v0_pages x1 x4)), .val (.int (z0_107_l9_5 x0 x2 x4)), .val (.int (z0_121_l10_6 x1 x3 x4)), .unset, .unset, .unset, .unset] [(.int (0 : Int32))]))
                refine g_istore X0 hx #[.val (.int x0), .val (.int x1), .val (.int x2), .val (.int x3), .val (.int x4), .val (.int (z0_12_s0_1 x4)), .val (.int (z0_26_s0_2 x4)), .val (.int (v0_hosts x0 x4)), .val (.int (v0_pages x1 x4)), .val (.int (z0_107_l9_5 x0 x2 x4)), .val (.int (0 : Int32)), .unset, .unset, .unset, .unset] 132 (hb hby at_130) rfl rfl ?_
                show Go p e below s _ _ _ (T0.setTop (mkF m 132 #[.val (.int x0), .val (.int x1), .val (.int x2), .val (.int x3), .val (.int x4), .val (.int (z0_12_s0_1 x4)), .val (.int (z0_26_s0_2 x4)), .val (.int (v0_hosts x0 x4)), .val (.int (v0_pages x1 x4)), .val (.int (z0_107_l9_5 x0 x2 x4)), .val (.int (0 : Int32)), .unset, .unset, .unset, .unset] []))
                have q7 := J7
                simp only [z0_132_l10_7, if_neg h26] at q7
                exact q7
            refine g_if0_eq X0 hx 121 115 (hb hby at_112) (by decide) rfl rfl (fun h27 => ?_) (fun h27 => ?_)
            · show Go p e below s _ _ _ (T0.setTop (mkF m 121 #[.val (.int x0), .val (.int x1), .val (.int x2), .val (.int x3), .val (.int x4), .val (.int (z0_12_s0_1 x4)), .val (.int (z0_26_s0_2 x4)), .val (.int (v0_hosts x0 x4)), .val (.int (v0_pages x1 x4)), .val (.int (z0_107_l9_5 x0 x2 x4)), .val (.int ((x3 &&& (2147483647 : Int32)) % (v0_pages x1 x4))), .unset, .unset, .unset, .unset] []))
              have q6 := J6
              simp only [z0_121_l10_6, if_pos h27] at q6
              exact q6
            · show Go p e below s _ _ _ (T0.setTop (mkF m 115 #[.val (.int x0), .val (.int x1), .val (.int x2), .val (.int x3), .val (.int x4), .val (.int (z0_12_s0_1 x4)), .val (.int (z0_26_s0_2 x4)), .val (.int (v0_hosts x0 x4)), .val (.int (v0_pages x1 x4)), .val (.int (z0_107_l9_5 x0 x2 x4)), .val (.int ((x3 &&& (2147483647 : Int32)) % (v0_pages x1 x4))), .unset, .unset, .unset, .unset] []))
              refine g_iload X0 hx 117 (hb hby at_115) rfl rfl ?_
              show Go p e below s _ _ _ (T0.setTop (mkF m 117 #[.val (.int x0), .val (.int x1), .val (.int x2), .val (.int x3), .val (.int x4), .val (.int (z0_12_s0_1 x4)), .val (.int (z0_26_s0_2 x4)), .val (.int (v0_hosts x0 x4)), .val (.int (v0_pages x1 x4)), .val (.int (z0_107_l9_5 x0 x2 x4)), .val (.int ((x3 &&& (2147483647 : Int32)) % (v0_pages x1 x4))), .unset, .unset, .unset, .unset] [(.int (v0_pages x1 x4))]))
              refine g_iconst X0 hx (1 : Int32) 118 (hb hby at_117) rfl rfl ?_
              show Go p e below s _ _ _ (T0.setTop (mkF m 118 #[.val (.int x0), .val (.int x1), .val (.int x2), .val (.int x3), .val (.int x4), .val (.int (z0_12_s0_1 x4)), .val (.int (z0_26_s0_2 x4)), .val (.int (v0_hosts x0 x4)), .val (.int (v0_pages x1 x4)), .val (.int (z0_107_l9_5 x0 x2 x4)), .val (.int ((x3 &&& (2147483647 : Int32)) % (v0_pages x1 x4))), .unset, .unset, .unset, .unset] [(.int (1 : Int32)), (.int (v0_pages x1 x4))]))
              refine g_isub X0 hx 119 (hb hby at_118) rfl ?_
              show Go p e below s _ _ _ (T0.setTop (mkF m 119 #[.val (.int x0), .val (.int x1), .val (.int x2), .val (.int x3), .val (.int x4), .val (.int (z0_12_s0_1 x4)), .val (.int (z0_26_s0_2 x4)), .val (.int (v0_hosts x0 x4)), .val (.int (v0_pages x1 x4)), .val (.int (z0_107_l9_5 x0 x2 x4)), .val (.int ((x3 &&& (2147483647 : Int32)) % (v0_pages x1 x4))), .unset, .unset, .unset, .unset] [(.int ((v0_pages x1 x4) - (1 : Int32)))]))
              refine g_istore X0 hx #[.val (.int x0), .val (.int x1), .val (.int x2), .val (.int x3), .val (.int x4), .val (.int (z0_12_s0_1 x4)), .val (.int (z0_26_s0_2 x4)), .val (.int (v0_hosts x0 x4)), .val (.int (v0_pages x1 x4)), .val (.int (z0_107_l9_5 x0 x2 x4)), .val (.int ((v0_pages x1 x4) - (1 : Int32))), .unset, .unset, .unset, .unset] 121 (hb hby at_119) rfl rfl ?_
              show Go p e below s _ _ _ (T0.setTop (mkF m 121 #[.val (.int x0), .val (.int x1), .val (.int x2), .val (.int x3), .val (.int x4), .val (.int (z0_12_s0_1 x4)), .val (.int (z0_26_s0_2 x4)), .val (.int (v0_hosts x0 x4)), .val (.int (v0_pages x1 x4)), .val (.int (z0_107_l9_5 x0 x2 x4)), .val (.int ((v0_pages x1 x4) - (1 : Int32))), .unset, .unset, .unset, .unset] []))
              have q6 := J6
              simp only [z0_121_l10_6, if_neg h27] at q6
              exact q6
          refine g_if0_eq X0 hx 107 101 (hb hby at_98) (by decide) rfl rfl (fun h28 => ?_) (fun h28 => ?_)
          · show Go p e below s _ _ _ (T0.setTop (mkF m 107 #[.val (.int x0), .val (.int x1), .val (.int x2), .val (.int x3), .val (.int x4), .val (.int (z0_12_s0_1 x4)), .val (.int (z0_26_s0_2 x4)), .val (.int (v0_hosts x0 x4)), .val (.int (v0_pages x1 x4)), .val (.int ((x2 &&& (2147483647 : Int32)) % (v0_hosts x0 x4))), .val (.int ((x3 &&& (2147483647 : Int32)) % (v0_pages x1 x4))), .unset, .unset, .unset, .unset] []))
            have q5 := J5
            simp only [z0_107_l9_5, if_pos h28] at q5
            exact q5
          · show Go p e below s _ _ _ (T0.setTop (mkF m 101 #[.val (.int x0), .val (.int x1), .val (.int x2), .val (.int x3), .val (.int x4), .val (.int (z0_12_s0_1 x4)), .val (.int (z0_26_s0_2 x4)), .val (.int (v0_hosts x0 x4)), .val (.int (v0_pages x1 x4)), .val (.int ((x2 &&& (2147483647 : Int32)) % (v0_hosts x0 x4))), .val (.int ((x3 &&& (2147483647 : Int32)) % (v0_pages x1 x4))), .unset, .unset, .unset, .unset] []))
            refine g_iload X0 hx 103 (hb hby at_101) rfl rfl ?_
            show Go p e below s _ _ _ (T0.setTop (mkF m 103 #[.val (.int x0), .val (.int x1), .val (.int x2), .val (.int x3), .val (.int x4), .val (.int (z0_12_s0_1 x4)), .val (.int (z0_26_s0_2 x4)), .val (.int (v0_hosts x0 x4)), .val (.int (v0_pages x1 x4)), .val (.int ((x2 &&& (2147483647 : Int32)) % (v0_hosts x0 x4))), .val (.int ((x3 &&& (2147483647 : Int32)) % (v0_pages x1 x4))), .unset, .unset, .unset, .unset] [(.int (v0_hosts x0 x4))]))
            refine g_iconst X0 hx (1 : Int32) 104 (hb hby at_103) rfl rfl ?_
            show Go p e below s _ _ _ (T0.setTop (mkF m 104 #[.val (.int x0), .val (.int x1), .val (.int x2), .val (.int x3), .val (.int x4), .val (.int (z0_12_s0_1 x4)), .val (.int (z0_26_s0_2 x4)), .val (.int (v0_hosts x0 x4)), .val (.int (v0_pages x1 x4)), .val (.int ((x2 &&& (2147483647 : Int32)) % (v0_hosts x0 x4))), .val (.int ((x3 &&& (2147483647 : Int32)) % (v0_pages x1 x4))), .unset, .unset, .unset, .unset] [(.int (1 : Int32)), (.int (v0_hosts x0 x4))]))
            refine g_isub X0 hx 105 (hb hby at_104) rfl ?_
            show Go p e below s _ _ _ (T0.setTop (mkF m 105 #[.val (.int x0), .val (.int x1), .val (.int x2), .val (.int x3), .val (.int x4), .val (.int (z0_12_s0_1 x4)), .val (.int (z0_26_s0_2 x4)), .val (.int (v0_hosts x0 x4)), .val (.int (v0_pages x1 x4)), .val (.int ((x2 &&& (2147483647 : Int32)) % (v0_hosts x0 x4))), .val (.int ((x3 &&& (2147483647 : Int32)) % (v0_pages x1 x4))), .unset, .unset, .unset, .unset] [(.int ((v0_hosts x0 x4) - (1 : Int32)))]))
            refine g_istore X0 hx #[.val (.int x0), .val (.int x1), .val (.int x2), .val (.int x3), .val (.int x4), .val (.int (z0_12_s0_1 x4)), .val (.int (z0_26_s0_2 x4)), .val (.int (v0_hosts x0 x4)), .val (.int (v0_pages x1 x4)), .val (.int ((v0_hosts x0 x4) - (1 : Int32))), .val (.int ((x3 &&& (2147483647 : Int32)) % (v0_pages x1 x4))), .unset, .unset, .unset, .unset] 107 (hb hby at_105) rfl rfl ?_
            show Go p e below s _ _ _ (T0.setTop (mkF m 107 #[.val (.int x0), .val (.int x1), .val (.int x2), .val (.int x3), .val (.int x4), .val (.int (z0_12_s0_1 x4)), .val (.int (z0_26_s0_2 x4)), .val (.int (v0_hosts x0 x4)), .val (.int (v0_pages x1 x4)), .val (.int ((v0_hosts x0 x4) - (1 : Int32))), .val (.int ((x3 &&& (2147483647 : Int32)) % (v0_pages x1 x4))), .unset, .unset, .unset, .unset] []))
            have q5 := J5
            simp only [z0_107_l9_5, if_neg h28] at q5
            exact q5
        refine g_if0_eq X0 hx 65 57 (hb hby at_54) (by decide) rfl rfl (fun h29 => ?_) (fun h29 => ?_)
        · show Go p e below s _ _ _ (T0.setTop (mkF m 65 #[.val (.int x0), .val (.int x1), .val (.int x2), .val (.int x3), .val (.int x4), .val (.int (z0_12_s0_1 x4)), .val (.int (z0_26_s0_2 x4)), .val (.int (v0_hosts x0 x4)), .unset, .unset, .unset, .unset, .unset, .unset, .unset] []))
          refine g_iconst X0 hx (1 : Int32) 66 (hb hby at_65) rfl rfl ?_
          show Go p e below s _ _ _ (T0.setTop (mkF m 66 #[.val (.int x0), .val (.int x1), .val (.int x2), .val (.int x3), .val (.int x4), .val (.int (z0_12_s0_1 x4)), .val (.int (z0_26_s0_2 x4)), .val (.int (v0_hosts x0 x4)), .unset, .unset, .unset, .unset, .unset, .unset, .unset] [(.int (1 : Int32))]))
          refine g_iloadN X0 hx 67 (hb hby at_66) rfl rfl ?_
          show Go p e below s _ _ _ (T0.setTop (mkF m 67 #[.val (.int x0), .val (.int x1), .val (.int x2), .val (.int x3), .val (.int x4), .val (.int (z0_12_s0_1 x4)), .val (.int (z0_26_s0_2 x4)), .val (.int (v0_hosts x0 x4)), .unset, .unset, .unset, .unset, .unset, .unset, .unset] [(.int x1), (.int (1 : Int32))]))
          refine g_ldc X0 hx hZ hown (hw _ (List.mem_of_getElem? (i := 0) rfl)) 69 (hb hby at_67) rfl ?_
          show Go p e below s _ _ _ (T0.setTop (mkF m 69 #[.val (.int x0), .val (.int x1), .val (.int x2), .val (.int x3), .val (.int x4), .val (.int (z0_12_s0_1 x4)), .val (.int (z0_26_s0_2 x4)), .val (.int (v0_hosts x0 x4)), .unset, .unset, .unset, .unset, .unset, .unset, .unset] [(.int (2147483647 : Int32)), (.int x1), (.int (1 : Int32))]))
          refine g_iand X0 hx 70 (hb hby at_69) rfl ?_
          show Go p e below s _ _ _ (T0.setTop (mkF m 70 #[.val (.int x0), .val (.int x1), .val (.int x2), .val (.int x3), .val (.int x4), .val (.int (z0_12_s0_1 x4)), .val (.int (z0_26_s0_2 x4)), .val (.int (v0_hosts x0 x4)), .unset, .unset, .unset, .unset, .unset, .unset, .unset] [(.int (x1 &&& (2147483647 : Int32))), (.int (1 : Int32))]))
          refine g_ldc X0 hx hZ hown (hw _ (List.mem_of_getElem? (i := 2) rfl)) 72 (hb hby at_70) rfl ?_
          show Go p e below s _ _ _ (T0.setTop (mkF m 72 #[.val (.int x0), .val (.int x1), .val (.int x2), .val (.int x3), .val (.int x4), .val (.int (z0_12_s0_1 x4)), .val (.int (z0_26_s0_2 x4)), .val (.int (v0_hosts x0 x4)), .unset, .unset, .unset, .unset, .unset, .unset, .unset] [(.int (1000000000 : Int32)), (.int (x1 &&& (2147483647 : Int32))), (.int (1 : Int32))]))
          refine g_irem X0 hx 73 (hb hby at_72) (by decide) rfl ?_
          show Go p e below s _ _ _ (T0.setTop (mkF m 73 #[.val (.int x0), .val (.int x1), .val (.int x2), .val (.int x3), .val (.int x4), .val (.int (z0_12_s0_1 x4)), .val (.int (z0_26_s0_2 x4)), .val (.int (v0_hosts x0 x4)), .unset, .unset, .unset, .unset, .unset, .unset, .unset] [(.int ((x1 &&& (2147483647 : Int32)) % (1000000000 : Int32))), (.int (1 : Int32))]))
          refine g_iadd X0 hx 74 (hb hby at_73) rfl ?_
          show Go p e below s _ _ _ (T0.setTop (mkF m 74 #[.val (.int x0), .val (.int x1), .val (.int x2), .val (.int x3), .val (.int x4), .val (.int (z0_12_s0_1 x4)), .val (.int (z0_26_s0_2 x4)), .val (.int (v0_hosts x0 x4)), .unset, .unset, .unset, .unset, .unset, .unset, .unset] [(.int ((1 : Int32) + ((x1 &&& (2147483647 : Int32)) % (1000000000 : Int32))))]))
          have q4 := J4
          simp only [z0_74_s0_4, if_pos h29] at q4
          exact q4
        · show Go p e below s _ _ _ (T0.setTop (mkF m 57 #[.val (.int x0), .val (.int x1), .val (.int x2), .val (.int x3), .val (.int x4), .val (.int (z0_12_s0_1 x4)), .val (.int (z0_26_s0_2 x4)), .val (.int (v0_hosts x0 x4)), .unset, .unset, .unset, .unset, .unset, .unset, .unset] []))
          refine g_iconst X0 hx (1 : Int32) 58 (hb hby at_57) rfl rfl ?_
          show Go p e below s _ _ _ (T0.setTop (mkF m 58 #[.val (.int x0), .val (.int x1), .val (.int x2), .val (.int x3), .val (.int x4), .val (.int (z0_12_s0_1 x4)), .val (.int (z0_26_s0_2 x4)), .val (.int (v0_hosts x0 x4)), .unset, .unset, .unset, .unset, .unset, .unset, .unset] [(.int (1 : Int32))]))
          refine g_iloadN X0 hx 59 (hb hby at_58) rfl rfl ?_
          show Go p e below s _ _ _ (T0.setTop (mkF m 59 #[.val (.int x0), .val (.int x1), .val (.int x2), .val (.int x3), .val (.int x4), .val (.int (z0_12_s0_1 x4)), .val (.int (z0_26_s0_2 x4)), .val (.int (v0_hosts x0 x4)), .unset, .unset, .unset, .unset, .unset, .unset, .unset] [(.int x1), (.int (1 : Int32))]))
          refine g_iconst X0 hx (3 : Int32) 60 (hb hby at_59) rfl rfl ?_
          show Go p e below s _ _ _ (T0.setTop (mkF m 60 #[.val (.int x0), .val (.int x1), .val (.int x2), .val (.int x3), .val (.int x4), .val (.int (z0_12_s0_1 x4)), .val (.int (z0_26_s0_2 x4)), .val (.int (v0_hosts x0 x4)), .unset, .unset, .unset, .unset, .unset, .unset, .unset] [(.int (3 : Int32)), (.int x1), (.int (1 : Int32))]))
          refine g_iand X0 hx 61 (hb hby at_60) rfl ?_
          show Go p e below s _ _ _ (T0.setTop (mkF m 61 #[.val (.int x0), .val (.int x1), .val (.int x2), .val (.int x3), .val (.int x4), .val (.int (z0_12_s0_1 x4)), .val (.int (z0_26_s0_2 x4)), .val (.int (v0_hosts x0 x4)), .unset, .unset, .unset, .unset, .unset, .unset, .unset] [(.int (x1 &&& (3 : Int32))), (.int (1 : Int32))]))
          refine g_iadd X0 hx 62 (hb hby at_61) rfl ?_
          show Go p e below s _ _ _ (T0.setTop (mkF m 62 #[.val (.int x0), .val (.int x1), .val (.int x2), .val (.int x3), .val (.int x4), .val (.int (z0_12_s0_1 x4)), .val (.int (z0_26_s0_2 x4)), .val (.int (v0_hosts x0 x4)), .unset, .unset, .unset, .unset, .unset, .unset, .unset] [(.int ((1 : Int32) + (x1 &&& (3 : Int32))))]))
          refine g_goto X0 hx 74 (hb hby at_62) (by decide) rfl ?_
          show Go p e below s _ _ _ (T0.setTop (mkF m 74 #[.val (.int x0), .val (.int x1), .val (.int x2), .val (.int x3), .val (.int x4), .val (.int (z0_12_s0_1 x4)), .val (.int (z0_26_s0_2 x4)), .val (.int (v0_hosts x0 x4)), .unset, .unset, .unset, .unset, .unset, .unset, .unset] [(.int ((1 : Int32) + (x1 &&& (3 : Int32))))]))
          have q4 := J4
          simp only [z0_74_s0_4, if_neg h29] at q4
          exact q4
      refine g_if0_eq X0 hx 41 33 (hb hby at_30) (by decide) rfl rfl (fun h30 => ?_) (fun h30 => ?_)
      · show Go p e below s _ _ _ (T0.setTop (mkF m 41 #[.val (.int x0), .val (.int x1), .val (.int x2), .val (.int x3), .val (.int x4), .val (.int (z0_12_s0_1 x4)), .val (.int (z0_26_s0_2 x4)), .unset, .unset, .unset, .unset, .unset, .unset, .unset, .unset] []))
        refine g_iconst X0 hx (1 : Int32) 42 (hb hby at_41) rfl rfl ?_
        show Go p e below s _ _ _ (T0.setTop (mkF m 42 #[.val (.int x0), .val (.int x1), .val (.int x2), .val (.int x3), .val (.int x4), .val (.int (z0_12_s0_1 x4)), .val (.int (z0_26_s0_2 x4)), .unset, .unset, .unset, .unset, .unset, .unset, .unset, .unset] [(.int (1 : Int32))]))
        refine g_iloadN X0 hx 43 (hb hby at_42) rfl rfl ?_
        show Go p e below s _ _ _ (T0.setTop (mkF m 43 #[.val (.int x0), .val (.int x1), .val (.int x2), .val (.int x3), .val (.int x4), .val (.int (z0_12_s0_1 x4)), .val (.int (z0_26_s0_2 x4)), .unset, .unset, .unset, .unset, .unset, .unset, .unset, .unset] [(.int x0), (.int (1 : Int32))]))
        refine g_ldc X0 hx hZ hown (hw _ (List.mem_of_getElem? (i := 0) rfl)) 45 (hb hby at_43) rfl ?_
        show Go p e below s _ _ _ (T0.setTop (mkF m 45 #[.val (.int x0), .val (.int x1), .val (.int x2), .val (.int x3), .val (.int x4), .val (.int (z0_12_s0_1 x4)), .val (.int (z0_26_s0_2 x4)), .unset, .unset, .unset, .unset, .unset, .unset, .unset, .unset] [(.int (2147483647 : Int32)), (.int x0), (.int (1 : Int32))]))
        refine g_iand X0 hx 46 (hb hby at_45) rfl ?_
        show Go p e below s _ _ _ (T0.setTop (mkF m 46 #[.val (.int x0), .val (.int x1), .val (.int x2), .val (.int x3), .val (.int x4), .val (.int (z0_12_s0_1 x4)), .val (.int (z0_26_s0_2 x4)), .unset, .unset, .unset, .unset, .unset, .unset, .unset, .unset] [(.int (x0 &&& (2147483647 : Int32))), (.int (1 : Int32))]))
        refine g_ldc X0 hx hZ hown (hw _ (List.mem_of_getElem? (i := 1) rfl)) 48 (hb hby at_46) rfl ?_
        show Go p e below s _ _ _ (T0.setTop (mkF m 48 #[.val (.int x0), .val (.int x1), .val (.int x2), .val (.int x3), .val (.int x4), .val (.int (z0_12_s0_1 x4)), .val (.int (z0_26_s0_2 x4)), .unset, .unset, .unset, .unset, .unset, .unset, .unset, .unset] [(.int (1000000 : Int32)), (.int (x0 &&& (2147483647 : Int32))), (.int (1 : Int32))]))
        refine g_irem X0 hx 49 (hb hby at_48) (by decide) rfl ?_
        show Go p e below s _ _ _ (T0.setTop (mkF m 49 #[.val (.int x0), .val (.int x1), .val (.int x2), .val (.int x3), .val (.int x4), .val (.int (z0_12_s0_1 x4)), .val (.int (z0_26_s0_2 x4)), .unset, .unset, .unset, .unset, .unset, .unset, .unset, .unset] [(.int ((x0 &&& (2147483647 : Int32)) % (1000000 : Int32))), (.int (1 : Int32))]))
        refine g_iadd X0 hx 50 (hb hby at_49) rfl ?_
        show Go p e below s _ _ _ (T0.setTop (mkF m 50 #[.val (.int x0), .val (.int x1), .val (.int x2), .val (.int x3), .val (.int x4), .val (.int (z0_12_s0_1 x4)), .val (.int (z0_26_s0_2 x4)), .unset, .unset, .unset, .unset, .unset, .unset, .unset, .unset] [(.int ((1 : Int32) + ((x0 &&& (2147483647 : Int32)) % (1000000 : Int32))))]))
        have q3 := J3
        simp only [z0_50_s0_3, if_pos h30] at q3
        exact q3
      · show Go p e below s _ _ _ (T0.setTop (mkF m 33 #[.val (.int x0), .val (.int x1), .val (.int x2), .val (.int x3), .val (.int x4), .val (.int (z0_12_s0_1 x4)), .val (.int (z0_26_s0_2 x4)), .unset, .unset, .unset, .unset, .unset, .unset, .unset, .unset] []))
        refine g_iconst X0 hx (1 : Int32) 34 (hb hby at_33) rfl rfl ?_
        show Go p e below s _ _ _ (T0.setTop (mkF m 34 #[.val (.int x0), .val (.int x1), .val (.int x2), .val (.int x3), .val (.int x4), .val (.int (z0_12_s0_1 x4)), .val (.int (z0_26_s0_2 x4)), .unset, .unset, .unset, .unset, .unset, .unset, .unset, .unset] [(.int (1 : Int32))]))
        refine g_iloadN X0 hx 35 (hb hby at_34) rfl rfl ?_
        show Go p e below s _ _ _ (T0.setTop (mkF m 35 #[.val (.int x0), .val (.int x1), .val (.int x2), .val (.int x3), .val (.int x4), .val (.int (z0_12_s0_1 x4)), .val (.int (z0_26_s0_2 x4)), .unset, .unset, .unset, .unset, .unset, .unset, .unset, .unset] [(.int x0), (.int (1 : Int32))]))
        refine g_iconst X0 hx (3 : Int32) 36 (hb hby at_35) rfl rfl ?_
        show Go p e below s _ _ _ (T0.setTop (mkF m 36 #[.val (.int x0), .val (.int x1), .val (.int x2), .val (.int x3), .val (.int x4), .val (.int (z0_12_s0_1 x4)), .val (.int (z0_26_s0_2 x4)), .unset, .unset, .unset, .unset, .unset, .unset, .unset, .unset] [(.int (3 : Int32)), (.int x0), (.int (1 : Int32))]))
        refine g_iand X0 hx 37 (hb hby at_36) rfl ?_
        show Go p e below s _ _ _ (T0.setTop (mkF m 37 #[.val (.int x0), .val (.int x1), .val (.int x2), .val (.int x3), .val (.int x4), .val (.int (z0_12_s0_1 x4)), .val (.int (z0_26_s0_2 x4)), .unset, .unset, .unset, .unset, .unset, .unset, .unset, .unset] [(.int (x0 &&& (3 : Int32))), (.int (1 : Int32))]))
        refine g_iadd X0 hx 38 (hb hby at_37) rfl ?_
        show Go p e below s _ _ _ (T0.setTop (mkF m 38 #[.val (.int x0), .val (.int x1), .val (.int x2), .val (.int x3), .val (.int x4), .val (.int (z0_12_s0_1 x4)), .val (.int (z0_26_s0_2 x4)), .unset, .unset, .unset, .unset, .unset, .unset, .unset, .unset] [(.int ((1 : Int32) + (x0 &&& (3 : Int32))))]))
        refine g_goto X0 hx 50 (hb hby at_38) (by decide) rfl ?_
        show Go p e below s _ _ _ (T0.setTop (mkF m 50 #[.val (.int x0), .val (.int x1), .val (.int x2), .val (.int x3), .val (.int x4), .val (.int (z0_12_s0_1 x4)), .val (.int (z0_26_s0_2 x4)), .unset, .unset, .unset, .unset, .unset, .unset, .unset, .unset] [(.int ((1 : Int32) + (x0 &&& (3 : Int32))))]))
        have q3 := J3
        simp only [z0_50_s0_3, if_neg h30] at q3
        exact q3
    refine g_if0_eq X0 hx 25 21 (hb hby at_18) (by decide) rfl rfl (fun h31 => ?_) (fun h31 => ?_)
    · show Go p e below s _ _ _ (T0.setTop (mkF m 25 #[.val (.int x0), .val (.int x1), .val (.int x2), .val (.int x3), .val (.int x4), .val (.int (z0_12_s0_1 x4)), .unset, .unset, .unset, .unset, .unset, .unset, .unset, .unset, .unset] []))
      refine g_iconst X0 hx (0 : Int32) 26 (hb hby at_25) rfl rfl ?_
      show Go p e below s _ _ _ (T0.setTop (mkF m 26 #[.val (.int x0), .val (.int x1), .val (.int x2), .val (.int x3), .val (.int x4), .val (.int (z0_12_s0_1 x4)), .unset, .unset, .unset, .unset, .unset, .unset, .unset, .unset, .unset] [(.int (0 : Int32))]))
      have q2 := J2
      simp only [z0_26_s0_2, if_pos h31] at q2
      exact q2
    · show Go p e below s _ _ _ (T0.setTop (mkF m 21 #[.val (.int x0), .val (.int x1), .val (.int x2), .val (.int x3), .val (.int x4), .val (.int (z0_12_s0_1 x4)), .unset, .unset, .unset, .unset, .unset, .unset, .unset, .unset, .unset] []))
      refine g_iconst X0 hx (1 : Int32) 22 (hb hby at_21) rfl rfl ?_
      show Go p e below s _ _ _ (T0.setTop (mkF m 22 #[.val (.int x0), .val (.int x1), .val (.int x2), .val (.int x3), .val (.int x4), .val (.int (z0_12_s0_1 x4)), .unset, .unset, .unset, .unset, .unset, .unset, .unset, .unset, .unset] [(.int (1 : Int32))]))
      refine g_goto X0 hx 26 (hb hby at_22) (by decide) rfl ?_
      show Go p e below s _ _ _ (T0.setTop (mkF m 26 #[.val (.int x0), .val (.int x1), .val (.int x2), .val (.int x3), .val (.int x4), .val (.int (z0_12_s0_1 x4)), .unset, .unset, .unset, .unset, .unset, .unset, .unset, .unset, .unset] [(.int (1 : Int32))]))
      have q2 := J2
      simp only [z0_26_s0_2, if_neg h31] at q2
      exact q2
  refine g_if0_eq X0 hx 11 7 (hb hby at_4) (by decide) rfl rfl (fun h32 => ?_) (fun h32 => ?_)
  · show Go p e below s _ _ _ (T0.setTop (mkF m 11 #[.val (.int x0), .val (.int x1), .val (.int x2), .val (.int x3), .val (.int x4), .unset, .unset, .unset, .unset, .unset, .unset, .unset, .unset, .unset, .unset] []))
    refine g_iconst X0 hx (0 : Int32) 12 (hb hby at_11) rfl rfl ?_
    show Go p e below s _ _ _ (T0.setTop (mkF m 12 #[.val (.int x0), .val (.int x1), .val (.int x2), .val (.int x3), .val (.int x4), .unset, .unset, .unset, .unset, .unset, .unset, .unset, .unset, .unset, .unset] [(.int (0 : Int32))]))
    have q1 := J1
    simp only [z0_12_s0_1, if_pos h32] at q1
    exact q1
  · show Go p e below s _ _ _ (T0.setTop (mkF m 7 #[.val (.int x0), .val (.int x1), .val (.int x2), .val (.int x3), .val (.int x4), .unset, .unset, .unset, .unset, .unset, .unset, .unset, .unset, .unset, .unset] []))
    refine g_iconst X0 hx (1 : Int32) 8 (hb hby at_7) rfl rfl ?_
    show Go p e below s _ _ _ (T0.setTop (mkF m 8 #[.val (.int x0), .val (.int x1), .val (.int x2), .val (.int x3), .val (.int x4), .unset, .unset, .unset, .unset, .unset, .unset, .unset, .unset, .unset, .unset] [(.int (1 : Int32))]))
    refine g_goto X0 hx 12 (hb hby at_8) (by decide) rfl ?_
    show Go p e below s _ _ _ (T0.setTop (mkF m 12 #[.val (.int x0), .val (.int x1), .val (.int x2), .val (.int x3), .val (.int x4), .unset, .unset, .unset, .unset, .unset, .unset, .unset, .unset, .unset, .unset] [(.int (1 : Int32))]))
    have q1 := J1
    simp only [z0_12_s0_1, if_neg h32] at q1
    exact q1
/-- the host that a page's last link names -/
theorem own_f3 (h p ho pa : Int32) (b1 : 1 ≤ ho.toInt) (b2 : ho.toInt ≤ 1000000) (c1 : 1 ≤ pa.toInt) (c2 : pa.toInt ≤ 1000000000) (h1 : 0 ≤ h.toInt) (h2 : h.toInt < ho.toInt) (p1 : 0 ≤ p.toInt) (p2 : p.toInt < pa.toInt) :
    (f3 h p ho pa).toInt = (h.toInt * pa.toInt + p.toInt + 1) % ho.toInt := by
  unfold f3
  have e1 : (1 : Int64).toInt = 1 := rfl
  have m := c_lmul h.toInt64 pa.toInt64
  rw [c_i2l, c_i2l] at m
  have n1 : 0 ≤ h.toInt * pa.toInt := Int.mul_nonneg h1 (by omega)
  have n2 : h.toInt * pa.toInt ≤ 1000000 * 1000000000 := Int.mul_le_mul (by omega) c2 (by omega) (by decide)
  have rm := rng64 (h.toInt64 * pa.toInt64)
  generalize hX : h.toInt * pa.toInt = X at *
  have mm : (h.toInt64 * pa.toInt64).toInt = X := by omega
  have a := c_ladd (h.toInt64 * pa.toInt64) p.toInt64; have ra := rng64 (h.toInt64 * pa.toInt64 + p.toInt64)
  rw [c_i2l] at a
  have b := c_ladd (h.toInt64 * pa.toInt64 + p.toInt64) 1; have rb := rng64 (h.toInt64 * pa.toInt64 + p.toInt64 + 1)
  have s : (h.toInt64 * pa.toInt64 + p.toInt64 + 1).toInt = X + p.toInt + 1 := by omega
  have r : ((h.toInt64 * pa.toInt64 + p.toInt64 + 1) % ho.toInt64).toInt = (X + p.toInt + 1) % ho.toInt := by
    rw [Int64.toInt_mod, s, c_i2l]; exact Int.tmod_eq_emod_of_nonneg (by omega)
  have k := c_l2i ((h.toInt64 * pa.toInt64 + p.toInt64 + 1) % ho.toInt64)
  have rk := rng32 ((h.toInt64 * pa.toInt64 + p.toInt64 + 1) % ho.toInt64).toInt32
  rw [r] at k
  have q1 := Int.emod_nonneg (X + p.toInt + 1) (b := ho.toInt) (by omega)
  have q2 := Int.emod_lt_of_pos (X + p.toInt + 1) (b := ho.toInt) (by omega)
  omega
theorem own_next (X n : Int) (hn : 0 < n) : (X % n + 1 = n → (X + 1) % n = 0) ∧ (¬ X % n + 1 = n → (X + 1) % n = X % n + 1) := by
  have e : (X + 1) % n = (X % n + 1) % n := by rw [Int.emod_add_emod]
  have q1 := Int.emod_nonneg X (b := n) (by omega)
  have q2 := Int.emod_lt_of_pos X hn
  refine ⟨fun h => ?_, fun h => ?_⟩
  · rw [e, h, Int.emod_self]
  · rw [e]; exact Int.emod_eq_of_lt (by omega) (by omega)
theorem own_law (x0 x1 x2 x3 x4 : Int32) : f0 x0 x1 x2 x3 x4 = 1 := by
  have hb := own_hb x0 x4
  have pb := own_pb x1 x4
  have hr := own_hr x0 x2 x4
  have pr := own_pr x1 x3 x4
  unfold f0
  generalize v0_hosts x0 x4 = ho at *
  generalize v0_pages x1 x4 = pa at *
  generalize z0_107_l9_5 x0 x2 x4 = h at *
  generalize z0_132_l10_7 x1 x3 x4 = p at *
  have e0 : (0 : Int32).toInt = 0 := rfl
  have e1 : (1 : Int32).toInt = 1 := rfl
  have R := own_f3 h p ho pa hb.1 hb.2 pb.1 pb.2 hr.1 hr.2 pr.1 pr.2
  have q1 := Int.emod_nonneg (h.toInt * pa.toInt + p.toInt + 1) (b := ho.toInt) (by omega)
  have q2 := Int.emod_lt_of_pos (h.toInt * pa.toInt + p.toInt + 1) (b := ho.toInt) (by omega)
  have A : ¬ f3 h p ho pa < 0 := by rw [Int32.lt_iff_toInt_lt]; omega
  have B : f3 h p ho pa < ho := by rw [Int32.lt_iff_toInt_lt]; omega
  rw [if_neg A, if_pos B]
  have fin : ∀ (v : Int32), v.toInt = (h.toInt * pa.toInt + p.toInt) % ho.toInt → (if v + 1 = ho then (if f3 h p ho pa = 0 then (1 : Int32) else 0) else if f3 h p ho pa = v + 1 then 1 else 0) = 1 := fun v hv => by
    have nx := own_next (h.toInt * pa.toInt + p.toInt) ho.toInt (by omega)
    have w1 := Int.emod_nonneg (h.toInt * pa.toInt + p.toInt) (b := ho.toInt) (by omega)
    have w2 := Int.emod_lt_of_pos (h.toInt * pa.toInt + p.toInt) (b := ho.toInt) (by omega)
    have a := c_iadd v 1; have ra := rng32 (v + 1)
    have va : (v + 1).toInt = v.toInt + 1 := by omega
    by_cases z : v + 1 = ho
    · rw [if_pos z, if_pos]
      apply Int32.toInt_inj.mp
      rw [R, nx.1 (by rw [← hv, ← va, z]), e0]
    · rw [if_neg z, if_pos]
      apply Int32.toInt_inj.mp
      rw [R, nx.2 (fun q => z (Int32.toInt_inj.mp (by rw [va, hv, q]))), va, hv]
  by_cases c1 : (0 : Int32) < p
  · rw [if_pos c1]
    rw [Int32.lt_iff_toInt_lt] at c1
    have s := c_isub p 1; have rs := rng32 (p - 1)
    have sp : (p - 1).toInt = p.toInt - 1 := by omega
    have V := own_f3 h (p - 1) ho pa hb.1 hb.2 pb.1 pb.2 hr.1 hr.2 (by omega) (by omega)
    rw [sp, show h.toInt * pa.toInt + (p.toInt - 1) + 1 = h.toInt * pa.toInt + p.toInt from by omega] at V
    exact fin _ V
  · rw [if_neg c1]
    rw [Int32.lt_iff_toInt_lt] at c1
    have p0 : p.toInt = 0 := by omega
    by_cases c2 : (0 : Int32) < h
    · rw [if_pos c2]
      rw [Int32.lt_iff_toInt_lt] at c2
      have s := c_isub h 1; have rs := rng32 (h - 1); have s' := c_isub pa 1; have rs' := rng32 (pa - 1)
      have sh : (h - 1).toInt = h.toInt - 1 := by omega
      have sp : (pa - 1).toInt = pa.toInt - 1 := by omega
      have V := own_f3 (h - 1) (pa - 1) ho pa hb.1 hb.2 pb.1 pb.2 (by omega) (by omega) (by omega) (by omega)
      rw [sh, sp, Int.sub_mul, Int.one_mul, show h.toInt * pa.toInt - pa.toInt + (pa.toInt - 1) + 1 = h.toInt * pa.toInt + p.toInt from by omega] at V
      exact fin _ V
    · rw [if_neg c2]
      rw [Int32.lt_iff_toInt_lt] at c2
      have h0 : h.toInt = 0 := by omega
      rw [h0, p0, Int.zero_mul] at R
      by_cases z : ho = 1
      · rw [if_pos z, if_pos]
        apply Int32.toInt_inj.mp
        rw [R, z]; rfl
      · rw [if_neg z, if_pos]
        apply Int32.toInt_inj.mp
        rw [R, e1]
        have : ¬ ho.toInt = 1 := fun q => z (Int32.toInt_inj.mp (by rw [q, e1]))
        exact Int.emod_eq_of_lt (by omega) (by omega)

set_option maxRecDepth 65536 in
set_option maxHeartbeats 40000000 in
theorem comes_1 {Post : Tables → Env → Array Value → State → Outcome → State → Prop} (hpost : ∀ tb e args s v u, (limb_1_1.after args s (.returned v) u = true ∧ limb_1_2.after args s (.returned v) u = true ∧ True) → FrameEnd s (.returned v) u (Jvm.fieldLocs frame_1_writes args s ++ Jvm.arrayLocs frame_1_arrays args s ++ Jvm.staticLocs frame_1_statics s) 16 128 → Post tb e args s (.returned v) u) :
    ArmFor flags0 classFile x code maxLocals ret World_1 tables_1 room_1 Calls_1 rest_1 Pre_1 Post := by
  intro l hfl _ _ p e ha hc hk s m args below hf hA hF happ hP
  obtain ⟨hcalls, hrest, hpre⟩ := hP
  obtain ⟨-, -, -, hnamed, -, -, -, hat⟩ := (Spec.applies_iff hf).mp happ
  obtain ⟨hg, hn⟩ := and_e (Cond.before_iff.mp (show (Jvm.Cond.and given_1 narrow_1).before args s = true from hpre))
  obtain ⟨g1, g2⟩ := and_e hg
  obtain ⟨g3, g4⟩ := and_e g2
  obtain ⟨g5, g6⟩ := and_e g4
  obtain ⟨g7, g8⟩ := and_e g6
  obtain ⟨g9, g10⟩ := and_e g8
  obtain ⟨w0, w1, w2, w3, w4, rfl⟩ : ∃ w0 w1 w2 w3 w4 : Value, args = #[w0, w1, w2, w3, w4] := by
    have hs : args.size = 5 := by simpa [Cond.value, given_1] using g1
    obtain ⟨L⟩ := args
    match L, hs with
    | [w0, w1, w2, w3, w4], _ => exact ⟨w0, w1, w2, w3, w4, rfl⟩
  have hw := fun d (hd : d ∈ tables_1) => atoms_spec (ws := Jvm.Cond.code x code maxLocals ret :: tables_1) hat d (List.mem_cons_of_mem _ hd)
  obtain ⟨i0, ei0⟩ := is_v g3
  obtain rfl : w0 = (.int i0) := Option.some.inj ei0
  obtain ⟨i1, ei1⟩ := is_v g5
  obtain rfl : w1 = (.int i1) := Option.some.inj ei1
  obtain ⟨i2, ei2⟩ := is_v g7
  obtain rfl : w2 = (.int i2) := Option.some.inj ei2
  obtain ⟨i3, ei3⟩ := is_v g9
  obtain rfl : w3 = (.int i3) := Option.some.inj ei3
  obtain ⟨i4, ei4⟩ := is_v g10
  obtain rfl : w4 = (.int i4) := Option.some.inj ei4
  obtain ⟨n, o, h1, h2, h3, _, L, rfl, ⟨rfl, N⟩, hq⟩ := rm0 l s _ hw tables_1 i0 i1 i2 i3 i4 s.heap s.heap.size (Nat.le_refl _) p e ha hc hk s m _ below hf ((Spec.applies_iff_loose hf).mp happ).1 ⟨rfl, State.Warmed39.refl s, rfl⟩ trivial
  have hlaw : (f0 i0 i1 i2 i3 i4) = 1 := own_law i0 i1 i2 i3 i4
  rw [hlaw] at h3 hq
  refine ⟨n, _, h1, h2, h3, hpost _ _ _ _ _ _ ⟨Cond.after_iff.mpr rfl, Cond.after_iff.mpr (eq_i res_at (Term.int_eval (1)) rfl), trivial⟩ ⟨hq.1, hq.2.1, (hq.2.2.sift fun y hy => Or.inr (N y hy)).mono (by decide) (by decide)⟩⟩
theorem main_1_1 : Claimed_1_1 := comes_1 fun _ _ _ _ _ _ h hF => ⟨h.1, hF⟩
theorem main_1_2 : Claimed_1_2 := comes_1 fun _ _ _ _ _ _ h hF => ⟨h.2.1, hF⟩
end Jvm.Pilot.@@N@@
namespace Jvm.Pilot.@@N@@
open Jvm Jvm.ClassFile Sem Op Lib Jvm.Free Jvm.Stand Jvm.Pilot.@@N@@.Jvm.D
/-! MADE BY PROGRAM (witnessworld.py) out of the Statement's table words and the real class files: 9 classes; the members and pool entries that the words name. The judged class is class 1, her method 1. -/
namespace start1
open Jvm.ClassFile
def u (s : String) : CpInfo := .utf8 (stringToUtf16 s)
/-- a pool by its gaps: so many unusable entries, then the entry; so many at the end -/
def gap : Nat → List CpInfo → List CpInfo
  | 0, r => r
  | n + 1, r => .unusable :: gap n r
def poolList (es : List (Nat × CpInfo)) (last : Nat) : List CpInfo := es.foldr (fun e r => gap e.1 (e.2 :: r)) (gap last [])
def pool (es : List (Nat × CpInfo)) (last : Nat) : Array CpInfo := ⟨poolList es last⟩
def fileOf (pool : Array CpInfo) (this : Nat) (attrs : Array Attribute := #[]) (ms : Array MethodInfo := #[]) (fl : Nat := 33) (sup : Nat := 0) (ifs : Array Nat := #[]) (fds : Array FieldInfo := #[]) : ClassFile where
  minorVersion := 0
  majorVersion := 65
  constantPool := pool
  accessFlags := fl
  thisClass := this
  superClass := sup
  interfaces := ifs
  fields := fds
  methods := ms
  attributes := attrs
def plain (name : String) (sup : Option ClassId) : Class where
  name := name
  kind := .ordinary
  loader := none
  accessFlags := 33
  super := sup
  interfaces := #[]
  cf := none
  fields := #[]
  methods := #[]
  instanceTypes := #[]
  staticTypes := #[]
  resolved := #[]
  callSites := []
  init := .initialized
  statics := none
  mirror := none

def pool0 : Array CpInfo := pool [(5, u "<init>"), (0, u "()V"), (1, .class_ 10), (1, u "java/lang/Object")] 113

def k0c0 : Code := { maxStack := 0, maxLocals := 1, code := object_method_1_code, exceptionTable := #[], attributes := #[] }
def k0m0 : Method := { name := "<init>", desc := "()V", sig := { parameters := [], returnType := none }, accessFlags := 1, code := some k0c0 }
/-- java/lang/Object -/
def k0 : Class := { plain "java/lang/Object" none with
  accessFlags := 33
  interfaces := #[]
  cf := some (fileOf pool0 8 #[] #[{ accessFlags := 1, nameIndex := 5, descriptorIndex := 6, attributes := #[] }] 33 0 #[] #[])
  fields := #[]
  methods := #[k0m0]
  instanceTypes := #[]
  staticTypes := #[]
  resolved := Array.replicate 124 none
  statics := none }

def pool1 : Array CpInfo := pool [(2, .class_ 4), (1, u "java/lang/Object"), (0, u "<init>"), (0, u "()V"), (0, .integer 2147483647), (0, .class_ 9), (0, u "com/example/itinerant_spider/itinerantspider/simweb/SyntheticWeb"), (0, .integer 1000000), (0, .integer 1000000000), (0, .methodref 8 13), (0, .nameAndType 5 14), (0, u "(IIIIII)V"), (0, .methodref 8 16), (0, .nameAndType 17 18), (0, u "linkedHost"), (0, u "(II)I"), (0, .class_ 20), (0, u "com/example/itinerant_spider/itinerantspider/simweb/SyntheticWebLinkedHostPinLaw"), (2, u "law"), (0, u "(IIIII)Z")] 3

def k1m0 : Method := { name := "<init>", desc := "()V", sig := { parameters := [], returnType := none }, accessFlags := 1, code := none }
def k1c1 : Code := { maxStack := 8, maxLocals := 15, code := code, exceptionTable := #[], attributes := #[] }
def k1m1 : Method := { name := "law", desc := "(IIIII)Z", sig := { parameters := [.int, .int, .int, .int, .int], returnType := some .boolean }, accessFlags := 9, code := some k1c1 }
/-- com/example/itinerant_spider/itinerantspider/simweb/SyntheticWebLinkedHostPinLaw -/
def k1 : Class := { plain "com/example/itinerant_spider/itinerantspider/simweb/SyntheticWebLinkedHostPinLaw" (some 0) with
  accessFlags := 49
  interfaces := #[]
  cf := some (fileOf pool1 19 #[] #[{ accessFlags := 1, nameIndex := 5, descriptorIndex := 6, attributes := #[] }, { accessFlags := 9, nameIndex := 23, descriptorIndex := 24, attributes := #[] }] 49 2 #[] #[])
  fields := #[]
  methods := #[k1m0, k1m1]
  instanceTypes := #[]
  staticTypes := #[]
  resolved := Array.replicate 28 none
  statics := none }

def pool2 : Array CpInfo := pool [(1, .methodref 2 3), (0, .class_ 4), (0, .nameAndType 5 6), (0, u "java/lang/Object"), (0, u "<init>"), (0, u "()V"), (0, .class_ 8), (0, u "com/example/itinerant_spider/itinerantspider/simweb/SyntheticWeb"), (0, .integer 1000000), (9, .integer 1000000000), (3, .integer 64000), (3, .long 1024), (1, .long 40), (4, .integer 65535), (1, .fieldref 7 37), (0, .nameAndType 38 39), (0, u "hosts"), (0, u "I"), (0, .fieldref 7 41), (0, .nameAndType 42 39), (0, u "pages"), (0, .fieldref 7 44), (0, .nameAndType 45 39), (0, u "links"), (0, .fieldref 7 47), (0, .nameAndType 48 39), (0, u "pageBytes"), (0, .fieldref 7 50), (0, .nameAndType 51 39), (0, u "hostsPerAddress"), (0, .fieldref 7 53), (0, .nameAndType 54 39), (0, u "port"), (0, .fieldref 7 56), (0, .nameAndType 57 39), (0, u "addresses"), (48, u "(II)I"), (73, u "MAX_HOSTS"), (1, u "MAX_PAGES"), (0, u "MAX_ADDRESSES"), (0, u "PAGE_BASE_BYTES"), (1, u "BYTES_PER_LINK"), (1, u "ADDRESSES_PER_BLOCK"), (1, u "NAME_PREFIX"), (0, u "Ljava/lang/String;"), (0, u "NAME_SUFFIX"), (0, u "PAGE_PREFIX"), (0, u "(IIIIII)V"), (17, u "linkedHost")] 33

def k2c0 : Code := { maxStack := 7, maxLocals := 10, code := prog_53_method_1_code, exceptionTable := #[], attributes := #[] }
def k2m0 : Method := { name := "<init>", desc := "(IIIIII)V", sig := { parameters := [.int, .int, .int, .int, .int, .int], returnType := none }, accessFlags := 1, code := some k2c0 }
def k2c1 : Code := { maxStack := 4, maxLocals := 3, code := prog_53_method_13_code, exceptionTable := #[], attributes := #[] }
def k2m1 : Method := { name := "linkedHost", desc := "(II)I", sig := { parameters := [.int, .int], returnType := some .int }, accessFlags := 0, code := some k2c1 }
/-- com/example/itinerant_spider/itinerantspider/simweb/SyntheticWeb -/
def k2 : Class := { plain "com/example/itinerant_spider/itinerantspider/simweb/SyntheticWeb" (some 0) with
  accessFlags := 33
  interfaces := #[]
  cf := some (fileOf pool2 7 #[] #[{ accessFlags := 1, nameIndex := 5, descriptorIndex := 194, attributes := #[] }, { accessFlags := 0, nameIndex := 212, descriptorIndex := 106, attributes := #[] }] 33 2 #[] #[{ accessFlags := 25, nameIndex := 180, descriptorIndex := 39, attributes := #[] }, { accessFlags := 25, nameIndex := 182, descriptorIndex := 39, attributes := #[] }, { accessFlags := 25, nameIndex := 183, descriptorIndex := 39, attributes := #[] }, { accessFlags := 25, nameIndex := 184, descriptorIndex := 39, attributes := #[] }, { accessFlags := 25, nameIndex := 186, descriptorIndex := 39, attributes := #[] }, { accessFlags := 26, nameIndex := 188, descriptorIndex := 39, attributes := #[] }, { accessFlags := 26, nameIndex := 190, descriptorIndex := 191, attributes := #[] }, { accessFlags := 26, nameIndex := 192, descriptorIndex := 191, attributes := #[] }, { accessFlags := 26, nameIndex := 193, descriptorIndex := 191, attributes := #[] }, { accessFlags := 18, nameIndex := 38, descriptorIndex := 39, attributes := #[] }, { accessFlags := 18, nameIndex := 42, descriptorIndex := 39, attributes := #[] }, { accessFlags := 18, nameIndex := 45, descriptorIndex := 39, attributes := #[] }, { accessFlags := 18, nameIndex := 48, descriptorIndex := 39, attributes := #[] }, { accessFlags := 18, nameIndex := 51, descriptorIndex := 39, attributes := #[] }, { accessFlags := 18, nameIndex := 54, descriptorIndex := 39, attributes := #[] }, { accessFlags := 18, nameIndex := 57, descriptorIndex := 39, attributes := #[] }])
  fields := #[{ name := "MAX_HOSTS", type := .int, accessFlags := 25, slot := 0, constantValue := 0 }, { name := "MAX_PAGES", type := .int, accessFlags := 25, slot := 1, constantValue := 0 }, { name := "MAX_ADDRESSES", type := .int, accessFlags := 25, slot := 2, constantValue := 0 }, { name := "PAGE_BASE_BYTES", type := .int, accessFlags := 25, slot := 3, constantValue := 0 }, { name := "BYTES_PER_LINK", type := .int, accessFlags := 25, slot := 4, constantValue := 0 }, { name := "ADDRESSES_PER_BLOCK", type := .int, accessFlags := 26, slot := 5, constantValue := 0 }, { name := "NAME_PREFIX", type := (.object "java/lang/String"), accessFlags := 26, slot := 6, constantValue := 0 }, { name := "NAME_SUFFIX", type := (.object "java/lang/String"), accessFlags := 26, slot := 7, constantValue := 0 }, { name := "PAGE_PREFIX", type := (.object "java/lang/String"), accessFlags := 26, slot := 8, constantValue := 0 }, { name := "hosts", type := .int, accessFlags := 18, slot := 0, constantValue := 0 }, { name := "pages", type := .int, accessFlags := 18, slot := 1, constantValue := 0 }, { name := "links", type := .int, accessFlags := 18, slot := 2, constantValue := 0 }, { name := "pageBytes", type := .int, accessFlags := 18, slot := 3, constantValue := 0 }, { name := "hostsPerAddress", type := .int, accessFlags := 18, slot := 4, constantValue := 0 }, { name := "port", type := .int, accessFlags := 18, slot := 5, constantValue := 0 }, { name := "addresses", type := .int, accessFlags := 18, slot := 6, constantValue := 0 }]
  methods := #[k2m0, k2m1]
  instanceTypes := #[.int, .int, .int, .int, .int, .int, .int]
  staticTypes := #[.int, .int, .int, .int, .int, .int, (.object "java/lang/String"), (.object "java/lang/String"), (.object "java/lang/String")]
  resolved := Array.replicate 246 none
  statics := none }

def pool3 : Array CpInfo := pool [(1, u "java/lang/Cloneable"), (0, .class_ 1), (0, u "java/lang/Object"), (0, .class_ 3)] 3

/-- java/lang/Cloneable -/
def k3 : Class := { plain "java/lang/Cloneable" (some 0) with
  accessFlags := 1537
  interfaces := #[]
  cf := some (fileOf pool3 2 #[] #[] 1537 4 #[] #[])
  fields := #[]
  methods := #[]
  instanceTypes := #[]
  staticTypes := #[]
  resolved := Array.replicate 8 none
  statics := none }

def pool4 : Array CpInfo := pool [(1, u "java/io/Serializable"), (0, .class_ 1), (0, u "java/lang/Object"), (0, .class_ 3)] 3

/-- java/io/Serializable -/
def k4 : Class := { plain "java/io/Serializable" (some 0) with
  accessFlags := 1537
  interfaces := #[]
  cf := some (fileOf pool4 2 #[] #[] 1537 4 #[] #[])
  fields := #[]
  methods := #[]
  instanceTypes := #[]
  staticTypes := #[]
  resolved := Array.replicate 8 none
  statics := none }

/-- the primitive byte -/
def k5 : Class := { plain "byte" none with kind := .primitive 'B', accessFlags := 0x411 }
/-- [B -/
def k6 : Class := { plain "[B" (some 0) with kind := .array 5 .byte, interfaces := #[3, 4], accessFlags := 1041 }

/-- the primitive int -/
def k7 : Class := { plain "int" none with kind := .primitive 'I', accessFlags := 0x411 }
/-- [I -/
def k8 : Class := { plain "[I" (some 0) with kind := .array 7 .int, interfaces := #[3, 4], accessFlags := 1041 }

def heap : Heap := #[]
def classes : Array Class := #[k0, k1, k2, k3, k4, k5, k6, k7, k8]
def interned : List (Array UInt16 × Addr) := []
def slotsUsed : Nat := 0
def theMethod : MethodId := ⟨1, 1⟩
def args0 : Array Value := #[.int 2, .int 6, .int 7, .int 8, .int 9]
def aboutOver (below : List Frame) : State where
  vm := { classes := classes, interned := interned.toArray }
  heap := heap
  slotsUsed := slotsUsed
  threads := #[{ frames := .invoking theMethod args0 :: below }]
def below0 : List Frame := [.native { method := ⟨0, 0⟩, args := #[] }]
def about1 : State := aboutOver below0
def p0 : Program := .bare "" "" ""
def e0 : Env := launch0.env 0 0 0
theorem w_frames : about1.frames = Frame.invoking theMethod args0 :: below0 := rfl
set_option maxRecDepth 65536 in
theorem w_args : argsFit about1.vm theMethod args0 = true := by decide +kernel
set_option maxRecDepth 65536 in
theorem w_heap : heapFits about1 = true := by decide +kernel
set_option maxRecDepth 65536 in
theorem w_runnable : about1.curStatus? = some .runnable := by decide +kernel
set_option maxRecDepth 65536 in
theorem w_alone : about1.alone = true := by decide +kernel
set_option maxRecDepth 65536 in
theorem w_named : about1.methodNamed? x = some theMethod := by decide +kernel
set_option maxRecDepth 65536 in
theorem w_hears : about1.hears theMethod below0 = true := by decide +kernel
set_option maxRecDepth 65536 in
theorem w_ripe : about1.ripe theMethod args0 below0 = true := by decide +kernel
theorem w_running : about1.status = .running := rfl
set_option maxRecDepth 65536 in
theorem w_room : about1.hasRoom e0.platform room_1 = true :=
  launch0.hasRoom_least _ room_1 (by decide +kernel) (by decide +kernel) (by decide +kernel) (by decide +kernel) (by decide +kernel) (by decide +kernel)
theorem allAtoms_all (ts : List Jvm.Cond) (a : Array Jvm.Value) (st : Jvm.State) : (allAtoms ts).before a st = ts.all (fun c => c.before a st) := by
  induction ts with
  | nil => rfl
  | cons c t ih =>
    show (Jvm.Cond.and c (allAtoms t)).before a st = _
    rw [Jvm.Cond.before_and, ih, List.all_cons]
def words1 : List Jvm.Cond := Jvm.Cond.code x code maxLocals ret :: tables_1
/-- a 'code' word, met by the world's own term for the bytes: nothing is compared byte by byte -/
theorem code_word {y : MethodName} {bytes : ByteArray} {mx : Nat} {rt : Option FieldType} {a : Array Value} {s : State} {m : MethodId} {meth : Method} {c : Code} (h1 : s.methodNamed? y = some m) (h2 : s.vm.method? m = some meth) (h3 : meth.code = some c) (h4 : c.code = bytes)
    (h5 : (c.maxLocals == mx && c.exceptionTable.isEmpty && decide (c.maxStack ≤ mostOperands) && decide (meth.sig.returnType = rt) && !meth.locks && decide (parseMethodDescriptor y.desc = some meth.sig)) = true) : (Jvm.Cond.code y bytes mx rt).before a s = true := by
  simp only [Bool.and_eq_true, beq_iff_eq, Bool.not_eq_true', decide_eq_true_eq] at h5
  obtain ⟨⟨⟨⟨⟨g1, g2⟩, g3⟩, g4⟩, g5⟩, g6⟩ := h5
  simp [Cond.before, Cond.holds, Cond.value, h1, h2, h3, h4, g1, g2, g3, g4, g5, g6]
def isCode : Jvm.Cond → Bool
  | .code _ _ _ _ => true
  | _ => false
theorem all_split {L : List Jvm.Cond} {P : Jvm.Cond → Bool} (h1 : L.all (fun c => isCode c || P c) = true) (h2 : ∀ c ∈ L.filter isCode, P c = true) : L.all P = true := by
  refine List.all_eq_true.mpr fun c hc => ?_
  have h := List.all_eq_true.mp h1 c hc
  rcases Bool.eq_false_or_eq_true (isCode c) with hi | hi
  · exact h2 c (List.mem_filter.mpr ⟨hc, hi⟩)
  · simpa [hi] using h
set_option maxRecDepth 65536 in
theorem w_c0 : (Jvm.Cond.code x code maxLocals ret).before args0 about1 = true := code_word (m := ⟨1, 1⟩) (meth := k1m1) (c := k1c1) (by decide +kernel) rfl rfl rfl (by decide +kernel)
set_option maxRecDepth 65536 in
theorem w_c1 : (Jvm.Cond.code ({ cls := "com/example/itinerant_spider/itinerantspider/simweb/SyntheticWeb", name := "<init>", desc := "(IIIIII)V" } : Jvm.MethodName) prog_53_method_1_code (10 : Nat) (Option.none : Option Jvm.ClassFile.FieldType)).before args0 about1 = true := code_word (m := ⟨2, 0⟩) (meth := k2m0) (c := k2c0) (by decide +kernel) rfl rfl rfl (by decide +kernel)
set_option maxRecDepth 65536 in
theorem w_c2 : (Jvm.Cond.code ({ cls := "java/lang/Object", name := "<init>", desc := "()V" } : Jvm.MethodName) object_method_1_code (1 : Nat) (Option.none : Option Jvm.ClassFile.FieldType)).before args0 about1 = true := code_word (m := ⟨0, 0⟩) (meth := k0m0) (c := k0c0) (by decide +kernel) rfl rfl rfl (by decide +kernel)
set_option maxRecDepth 65536 in
theorem w_c3 : (Jvm.Cond.code ({ cls := "com/example/itinerant_spider/itinerantspider/simweb/SyntheticWeb", name := "linkedHost", desc := "(II)I" } : Jvm.MethodName) prog_53_method_13_code (3 : Nat) (Option.some Jvm.ClassFile.FieldType.int)).before args0 about1 = true := code_word (m := ⟨2, 1⟩) (meth := k2m1) (c := k2c1) (by decide +kernel) rfl rfl rfl (by decide +kernel)
def codes1 : List Jvm.Cond := [Jvm.Cond.code x code maxLocals ret, Jvm.Cond.code ({ cls := "com/example/itinerant_spider/itinerantspider/simweb/SyntheticWeb", name := "<init>", desc := "(IIIIII)V" } : Jvm.MethodName) prog_53_method_1_code (10 : Nat) (Option.none : Option Jvm.ClassFile.FieldType), Jvm.Cond.code ({ cls := "java/lang/Object", name := "<init>", desc := "()V" } : Jvm.MethodName) object_method_1_code (1 : Nat) (Option.none : Option Jvm.ClassFile.FieldType), Jvm.Cond.code ({ cls := "com/example/itinerant_spider/itinerantspider/simweb/SyntheticWeb", name := "linkedHost", desc := "(II)I" } : Jvm.MethodName) prog_53_method_13_code (3 : Nat) (Option.some Jvm.ClassFile.FieldType.int)]
set_option maxRecDepth 65536 in
theorem codes_eq : words1.filter isCode = codes1 := rfl
theorem w_codes : ∀ c ∈ words1.filter isCode, c.before args0 about1 = true := by
  rw [codes_eq]
  intro c hc
  simp only [codes1, List.mem_cons, List.not_mem_nil, or_false] at hc
  rcases hc with rfl | rfl | rfl | rfl
  · exact w_c0
  · exact w_c1
  · exact w_c2
  · exact w_c3
set_option maxRecDepth 65536 in
theorem w_t1 : (words1.take 24).all (fun c => isCode c || c.before args0 about1) = true := by decide +kernel
set_option maxRecDepth 65536 in
theorem w_t2 : (words1.drop 24).all (fun c => isCode c || c.before args0 about1) = true := by decide +kernel
theorem w_tables : (allAtoms (Jvm.Cond.code x code maxLocals ret :: tables_1)).before args0 about1 = true := by
  rw [allAtoms_all]
  show words1.all (fun c => c.before args0 about1) = true
  refine all_split ?_ w_codes
  rw [← List.take_append_drop 24 words1, List.all_append, w_t1, w_t2]
  rfl
set_option maxRecDepth 65536 in
theorem w_case : (Jvm.Cond.and given_1 narrow_1).before args0 about1 = true := by decide +kernel
theorem w_applies : (headSpec (Jvm.Cond.code x code maxLocals ret :: tables_1) room_1).applies x e0.platform about1 = true :=
  (Spec.applies_iff w_frames).mpr ⟨w_running, w_runnable, w_alone, w_named, w_hears, w_ripe, w_room, w_tables⟩
theorem atStart : AtStart classFile x code maxLocals ret World_1 tables_1 room_1 Calls_1 rest_1 Pre_1 launch0 p0 e0 about1 theMethod args0 below0 :=
  ⟨lists_1, trivial, launch0.admits_env _ _ _, launch0.least_env, fairChoices_fair.cas, fairChoices_fair.clock, w_frames, w_args, w_heap, w_applies, trivial, trivial, w_case⟩
end start1
theorem witness_1 : WitnessClaimed_1 := ⟨start1.p0, start1.e0, start1.about1, start1.theMethod, start1.args0, start1.below0, start1.atStart⟩
end Jvm.Pilot.@@N@@
