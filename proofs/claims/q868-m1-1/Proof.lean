import JvmDerived
import JvmDerived.Pilot.@@N@@Statement
import JvmDerived.Pilot.@@N@@Code
set_option linter.unusedVariables false
set_option linter.unusedSimpArgs false
namespace Jvm.RoadKit
open Sem ClassFile Op Lib Jvm.Stand Jvm.Free Jvm.LawKit
section New
variable {p : Program} {l : Launch} {e : Env} {R : Room} {s : State} {m : MethodId} {args : Array Value} {below : List Frame} {meth : Method} {c : Code} {T : State} {locs : List Loc} {cells slots : Nat}
theorem retI (X : Stand p l e R s m args below meth c T locs cells slots) (hx : p.tables.exec = Jvm.exec) {pc : Nat} {Ls : Array Slot} {z : Int32} {rest : List Value} (hret : meth.sig.returnType = some .int) (hd : decode c.code pc = .ok (.ireturn, 1)) {fs : List Frame}
    (hl : ∀ (f : JFrame) (acts : List Action), f.method = m → f.locked = none → f.entered = [] → (doReturn e (T.setTop f) acts (some (.int z))).1 = T.setFrames fs) : Steps p.tables e below (T.setTop (mkF m pc Ls (.int z :: rest))) (T.setFrames fs) := by
  have hm' : T.vm.method? m = some meth := X.method'
  have hn : narrow .int (.int z) = .int z := rfl
  show Steps p.tables e below (T.setTop { method := m, pc := pc, locals := Ls, stack := _ :: rest, locked := none }) _
  jvm_step X.here [X.here.top, hx, hd, hm', hret, hn]
  first | (intro acts; rw [hl _ acts rfl rfl rfl]) | rw [hl _ _ rfl rfl rfl]
  exact Steps.refl _
end New
end Jvm.RoadKit
namespace Jvm.Pilot.@@N@@
open Jvm Jvm.ClassFile Sem Op Lib Jvm.Free Jvm.Stand Jvm.LawKit Jvm.RoadKit Bundle Jvm.Pilot.@@N@@.Jvm.D
section OwnKit
variable {p : Program} {l : Launch} {e : Env} {R : Room} {s : State} {m : MethodId} {args : Array Value} {below : List Frame} {meth : Method} {c : Code} {T : State} {locs : List Loc} {cells slots : Nat} {Z : State} {a0 : Array Value} {h : Heap}
variable {Q : Option Value → Heap → List Loc → Prop} {rc rs pc : Nat} {Ls : Array Slot} {st : List Value}
def Go (p : Program) (e : Env) (below : List Frame) (s : State) (Q : Option Value → Heap → List Loc → Prop) (rc rs : Nat) (F : State) : Prop :=
  ∃ s₂ o, Steps p.tables e below F s₂ ∧ s₂.status = .running ∧ Ended s₂ below o ∧ ∃ v L, o = .returned v ∧ Q v s₂.heap L ∧ FrameEnd s o s₂ L rc rs
theorem Go.by {F F' : State} (g : Go p e below s Q rc rs F') (h : ∀ t, Steps p.tables e below F' t → Steps p.tables e below F t) : Go p e below s Q rc rs F := by
  obtain ⟨s2, o, h1, r⟩ := g
  exact ⟨s2, o, h _ h1, r⟩
def shlI (x y : Int32) : Int32 := x <<< (y &&& 31)
def shrI (x y : Int32) : Int32 := x >>> (y &&& 31)
def ushrI (x y : Int32) : Int32 := (x.toUInt32 >>> (y &&& 31).toUInt32).toInt32
def shlJ (x : Int64) (y : Int32) : Int64 := x <<< (y &&& 0x3f).toInt64
def shrJ (x : Int64) (y : Int32) : Int64 := x >>> (y &&& 0x3f).toInt64
def ushrJ (x : Int64) (y : Int32) : Int64 := (x.toUInt64 >>> (y &&& 0x3f).toInt64.toUInt64).toInt64
def i2bI (x : Int32) : Int32 := x.toInt8.toInt32
def i2cI (x : Int32) : Int32 := x.toUInt32.toUInt16.toUInt32.toInt32
def i2sI (x : Int32) : Int32 := x.toInt16.toInt32
theorem g_iload (X : Stand p l e R s m args below meth c T locs cells slots) (hx : p.tables.exec = Jvm.exec) {k : Nat} {v : Int32} (pc' : Nat) (hd : decode c.code pc = .ok (.iload k, 2)) (hl : Ls[k]? = some (.val (.int v))) (hp : pc + 2 = pc') (g : Go p e below s Q rc rs (T.setTop (mkF m pc' Ls (.int v :: st)))) : Go p e below s Q rc rs (T.setTop (mkF m pc Ls st)) := by
  subst hp; exact g.by fun t k => XS.iload X.here hx rfl hd hl k
theorem g_iloadN (X : Stand p l e R s m args below meth c T locs cells slots) (hx : p.tables.exec = Jvm.exec) {k : Fin 4} {v : Int32} (pc' : Nat) (hd : decode c.code pc = .ok (.iload_n k, 1)) (hl : Ls[k.val]? = some (.val (.int v))) (hp : pc + 1 = pc') (g : Go p e below s Q rc rs (T.setTop (mkF m pc' Ls (.int v :: st)))) : Go p e below s Q rc rs (T.setTop (mkF m pc Ls st)) := by
  subst hp; exact g.by fun t k => XS.iloadN X.here hx rfl hd hl k
theorem g_istore (X : Stand p l e R s m args below meth c T locs cells slots) (hx : p.tables.exec = Jvm.exec) {k : Nat} {v : Int32} (l' : Array Slot) (pc' : Nat) (hd : decode c.code pc = .ok (.istore k, 2)) (hl : storeLocals Ls k (.int v) = some l') (hp : pc + 2 = pc') (g : Go p e below s Q rc rs (T.setTop (mkF m pc' l' st))) : Go p e below s Q rc rs (T.setTop (mkF m pc Ls (.int v :: st))) := by
  subst hp; exact g.by fun t k => XS.istore X.here hx rfl hd rfl hl k
theorem g_istoreN (X : Stand p l e R s m args below meth c T locs cells slots) (hx : p.tables.exec = Jvm.exec) {k : Fin 4} {v : Int32} (l' : Array Slot) (pc' : Nat) (hd : decode c.code pc = .ok (.istore_n k, 1)) (hl : storeLocals Ls k.val (.int v) = some l') (hp : pc + 1 = pc') (g : Go p e below s Q rc rs (T.setTop (mkF m pc' l' st))) : Go p e below s Q rc rs (T.setTop (mkF m pc Ls (.int v :: st))) := by
  subst hp; exact g.by fun t k => XS.istoreN X.here hx rfl hd rfl hl k
theorem g_lload (X : Stand p l e R s m args below meth c T locs cells slots) (hx : p.tables.exec = Jvm.exec) {k : Nat} {v : Int64} (pc' : Nat) (hd : decode c.code pc = .ok (.lload k, 2)) (hl : Ls[k]? = some (.val (.long v))) (hp : pc + 2 = pc') (g : Go p e below s Q rc rs (T.setTop (mkF m pc' Ls (.long v :: st)))) : Go p e below s Q rc rs (T.setTop (mkF m pc Ls st)) := by
  subst hp; exact g.by fun t k => XS.lload X.here hx rfl hd hl k
theorem g_lloadN (X : Stand p l e R s m args below meth c T locs cells slots) (hx : p.tables.exec = Jvm.exec) {k : Fin 4} {v : Int64} (pc' : Nat) (hd : decode c.code pc = .ok (.lload_n k, 1)) (hl : Ls[k.val]? = some (.val (.long v))) (hp : pc + 1 = pc') (g : Go p e below s Q rc rs (T.setTop (mkF m pc' Ls (.long v :: st)))) : Go p e below s Q rc rs (T.setTop (mkF m pc Ls st)) := by
  subst hp; exact g.by fun t k => XS.lloadN X.here hx rfl hd hl k
theorem g_lstore (X : Stand p l e R s m args below meth c T locs cells slots) (hx : p.tables.exec = Jvm.exec) {k : Nat} {v : Int64} (l' : Array Slot) (pc' : Nat) (hd : decode c.code pc = .ok (.lstore k, 2)) (hl : storeLocals Ls k (.long v) = some l') (hp : pc + 2 = pc') (g : Go p e below s Q rc rs (T.setTop (mkF m pc' l' st))) : Go p e below s Q rc rs (T.setTop (mkF m pc Ls (.long v :: st))) := by
  subst hp; exact g.by fun t k => XS.lstore X.here hx rfl hd rfl hl k
theorem g_lstoreN (X : Stand p l e R s m args below meth c T locs cells slots) (hx : p.tables.exec = Jvm.exec) {k : Fin 4} {v : Int64} (l' : Array Slot) (pc' : Nat) (hd : decode c.code pc = .ok (.lstore_n k, 1)) (hl : storeLocals Ls k.val (.long v) = some l') (hp : pc + 1 = pc') (g : Go p e below s Q rc rs (T.setTop (mkF m pc' l' st))) : Go p e below s Q rc rs (T.setTop (mkF m pc Ls (.long v :: st))) := by
  subst hp; exact g.by fun t k => XS.lstoreN X.here hx rfl hd rfl hl k
theorem g_aload (X : Stand p l e R s m args below meth c T locs cells slots) (hx : p.tables.exec = Jvm.exec) {k : Nat} {v : Value} (pc' : Nat) (hd : decode c.code pc = .ok (.aload k, 2)) (hl : Ls[k]? = some (.val v)) (hv : v.isRef = true) (hp : pc + 2 = pc') (g : Go p e below s Q rc rs (T.setTop (mkF m pc' Ls (v :: st)))) : Go p e below s Q rc rs (T.setTop (mkF m pc Ls st)) := by
  subst hp; exact g.by fun t k => XS.aload X.here hx rfl hd hl hv k
theorem g_aloadN (X : Stand p l e R s m args below meth c T locs cells slots) (hx : p.tables.exec = Jvm.exec) {k : Fin 4} {v : Value} (pc' : Nat) (hd : decode c.code pc = .ok (.aload_n k, 1)) (hl : Ls[k.val]? = some (.val v)) (hv : v.isRef = true) (hp : pc + 1 = pc') (g : Go p e below s Q rc rs (T.setTop (mkF m pc' Ls (v :: st)))) : Go p e below s Q rc rs (T.setTop (mkF m pc Ls st)) := by
  subst hp; exact g.by fun t k => XS.aloadN X.here hx rfl hd hl hv k
theorem g_astore (X : Stand p l e R s m args below meth c T locs cells slots) (hx : p.tables.exec = Jvm.exec) {k : Nat} {v : Value} (l' : Array Slot) (pc' : Nat) (hd : decode c.code pc = .ok (.astore k, 2)) (hl : storeLocals Ls k v = some l') (hv : v.isRef = true) (hp : pc + 2 = pc') (g : Go p e below s Q rc rs (T.setTop (mkF m pc' l' st))) : Go p e below s Q rc rs (T.setTop (mkF m pc Ls (v :: st))) := by
  subst hp; exact g.by fun t k => XS.astore X.here hx rfl hd rfl hv hl k
theorem g_astoreN (X : Stand p l e R s m args below meth c T locs cells slots) (hx : p.tables.exec = Jvm.exec) {k : Fin 4} {v : Value} (l' : Array Slot) (pc' : Nat) (hd : decode c.code pc = .ok (.astore_n k, 1)) (hl : storeLocals Ls k.val v = some l') (hv : v.isRef = true) (hp : pc + 1 = pc') (g : Go p e below s Q rc rs (T.setTop (mkF m pc' l' st))) : Go p e below s Q rc rs (T.setTop (mkF m pc Ls (v :: st))) := by
  subst hp; exact g.by fun t k => XS.astoreN X.here hx rfl hd rfl hv hl k
theorem g_istoreS (X : Stand p l e R s m args below meth c T locs cells slots) (hx : p.tables.exec = Jvm.exec) {k : Nat} {v : Int32} {os : Slot} (l' : Array Slot) (pc' : Nat) (hd : decode c.code pc = .ok (.istore k, 2)) (hold : Ls[k]? = some os) (ho : One os) (hl : Ls.setIfInBounds k (.val (.int v)) = l') (hp : pc + 2 = pc') (g : Go p e below s Q rc rs (T.setTop (mkF m pc' l' st))) : Go p e below s Q rc rs (T.setTop (mkF m pc Ls ((.int v) :: st))) := by
  subst hp; exact g.by fun t k => XS.istore X.here hx rfl hd rfl (hl ▸ XS.store1 hold ho rfl) k
theorem g_istoreNS (X : Stand p l e R s m args below meth c T locs cells slots) (hx : p.tables.exec = Jvm.exec) {k : Fin 4} {v : Int32} {os : Slot} (l' : Array Slot) (pc' : Nat) (hd : decode c.code pc = .ok (.istore_n k, 1)) (hold : Ls[k.val]? = some os) (ho : One os) (hl : Ls.setIfInBounds k.val (.val (.int v)) = l') (hp : pc + 1 = pc') (g : Go p e below s Q rc rs (T.setTop (mkF m pc' l' st))) : Go p e below s Q rc rs (T.setTop (mkF m pc Ls ((.int v) :: st))) := by
  subst hp; exact g.by fun t k => XS.istoreN X.here hx rfl hd rfl (hl ▸ XS.store1 hold ho rfl) k
theorem g_astoreS (X : Stand p l e R s m args below meth c T locs cells slots) (hx : p.tables.exec = Jvm.exec) {k : Nat} {v : Value} {os : Slot} (l' : Array Slot) (pc' : Nat) (hd : decode c.code pc = .ok (.astore k, 2)) (hold : Ls[k]? = some os) (ho : One os) (hl : Ls.setIfInBounds k (.val v) = l') (hv : v.isRef = true) (hp : pc + 2 = pc') (g : Go p e below s Q rc rs (T.setTop (mkF m pc' l' st))) : Go p e below s Q rc rs (T.setTop (mkF m pc Ls (v :: st))) := by
  subst hp; exact g.by fun t k => XS.astore X.here hx rfl hd rfl hv (hl ▸ XS.store1 hold ho (by cases v <;> first | rfl | simp_all [Value.isRef])) k
theorem g_astoreNS (X : Stand p l e R s m args below meth c T locs cells slots) (hx : p.tables.exec = Jvm.exec) {k : Fin 4} {v : Value} {os : Slot} (l' : Array Slot) (pc' : Nat) (hd : decode c.code pc = .ok (.astore_n k, 1)) (hold : Ls[k.val]? = some os) (ho : One os) (hl : Ls.setIfInBounds k.val (.val v) = l') (hv : v.isRef = true) (hp : pc + 1 = pc') (g : Go p e below s Q rc rs (T.setTop (mkF m pc' l' st))) : Go p e below s Q rc rs (T.setTop (mkF m pc Ls (v :: st))) := by
  subst hp; exact g.by fun t k => XS.astoreN X.here hx rfl hd rfl hv (hl ▸ XS.store1 hold ho (by cases v <;> first | rfl | simp_all [Value.isRef])) k
theorem g_iconst (X : Stand p l e R s m args below meth c T locs cells slots) (hx : p.tables.exec = Jvm.exec) {i : Int} (v : Int32) (pc' : Nat) (hd : decode c.code pc = .ok (.iconst i, 1)) (hv : Int32.ofInt i = v) (hp : pc + 1 = pc') (g : Go p e below s Q rc rs (T.setTop (mkF m pc' Ls (.int v :: st)))) : Go p e below s Q rc rs (T.setTop (mkF m pc Ls st)) := by
  subst hp hv; exact g.by fun t k => XS.iconst X.here hx rfl hd k
theorem g_bipush (X : Stand p l e R s m args below meth c T locs cells slots) (hx : p.tables.exec = Jvm.exec) {i : Int} (v : Int32) (pc' : Nat) (hd : decode c.code pc = .ok (.bipush i, 2)) (hv : (Int8.ofInt i).toInt32 = v) (hp : pc + 2 = pc') (g : Go p e below s Q rc rs (T.setTop (mkF m pc' Ls (.int v :: st)))) : Go p e below s Q rc rs (T.setTop (mkF m pc Ls st)) := by
  subst hp hv; exact g.by fun t k => XS.bipush X.here hx rfl hd k
theorem g_sipush (X : Stand p l e R s m args below meth c T locs cells slots) (hx : p.tables.exec = Jvm.exec) {i : Int} (v : Int32) (pc' : Nat) (hd : decode c.code pc = .ok (.sipush i, 3)) (hv : (Int16.ofInt i).toInt32 = v) (hp : pc + 3 = pc') (g : Go p e below s Q rc rs (T.setTop (mkF m pc' Ls (.int v :: st)))) : Go p e below s Q rc rs (T.setTop (mkF m pc Ls st)) := by
  subst hp hv; exact g.by fun t k => XS.sipush X.here hx rfl hd k
theorem g_lconst (X : Stand p l e R s m args below meth c T locs cells slots) (hx : p.tables.exec = Jvm.exec) {i : Fin 2} (v : Int64) (pc' : Nat) (hd : decode c.code pc = .ok (.lconst i, 1)) (hv : Int64.ofNat i = v) (hp : pc + 1 = pc') (g : Go p e below s Q rc rs (T.setTop (mkF m pc' Ls (.long v :: st)))) : Go p e below s Q rc rs (T.setTop (mkF m pc Ls st)) := by
  subst hp hv; exact g.by fun t k => XS.lconst X.here hx rfl hd k
theorem g_aconst_null (X : Stand p l e R s m args below meth c T locs cells slots) (hx : p.tables.exec = Jvm.exec) (pc' : Nat) (hd : decode c.code pc = .ok (.aconst_null, 1)) (hp : pc + 1 = pc') (g : Go p e below s Q rc rs (T.setTop (mkF m pc' Ls (.null :: st)))) : Go p e below s Q rc rs (T.setTop (mkF m pc Ls st)) := by
  subst hp; exact g.by fun t k => XS.aconstNull X.here hx rfl hd k
theorem g_ldc (X : Stand p l e R s m args below meth c T locs cells slots) (hx : p.tables.exec = Jvm.exec) (hZ : Z.Warmed39 s.vm) {own : String} {i : Nat} {v : Int32} (hown : s.vm.findClass own = some m.cls) (w : (Cond.constant own i v).before a0 Z = true) (pc' : Nat) (hd : decode c.code pc = .ok (.ldc i, 2)) (hp : pc + 2 = pc') (g : Go p e below s Q rc rs (T.setTop (mkF m pc' Ls (.int v :: st)))) : Go p e below s Q rc rs (T.setTop (mkF m pc Ls st)) := by
  subst hp; exact g.by fun t k => X.ldcInt hx hown (mvT hZ w) (g := mkF m pc Ls st) rfl hd t k
theorem g_ldc_w (X : Stand p l e R s m args below meth c T locs cells slots) (hx : p.tables.exec = Jvm.exec) (hZ : Z.Warmed39 s.vm) {own : String} {i : Nat} {v : Int32} (hown : s.vm.findClass own = some m.cls) (w : (Cond.constant own i v).before a0 Z = true) (pc' : Nat) (hd : decode c.code pc = .ok (.ldc_w i, 3)) (hp : pc + 3 = pc') (g : Go p e below s Q rc rs (T.setTop (mkF m pc' Ls (.int v :: st)))) : Go p e below s Q rc rs (T.setTop (mkF m pc Ls st)) := by
  subst hp; exact g.by fun t k => X.ldcwInt hx hown (mvT hZ w) (g := mkF m pc Ls st) rfl hd t k
theorem g_ldc2_w (X : Stand p l e R s m args below meth c T locs cells slots) (hx : p.tables.exec = Jvm.exec) (hZ : Z.Warmed39 s.vm) {own : String} {i : Nat} {v : Int64} (hown : s.vm.findClass own = some m.cls) (w : (Cond.constantLong own i v).before a0 Z = true) (pc' : Nat) (hd : decode c.code pc = .ok (.ldc2_w i, 3)) (hp : pc + 3 = pc') (g : Go p e below s Q rc rs (T.setTop (mkF m pc' Ls (.long v :: st)))) : Go p e below s Q rc rs (T.setTop (mkF m pc Ls st)) := by
  subst hp; exact g.by fun t k => X.ldc2Long hx hown (mvT hZ w) (g := mkF m pc Ls st) rfl hd t k
theorem g_iadd (X : Stand p l e R s m args below meth c T locs cells slots) (hx : p.tables.exec = Jvm.exec) {x y : Int32} (pc' : Nat) (hd : decode c.code pc = .ok (.iadd, 1)) (hp : pc + 1 = pc') (g : Go p e below s Q rc rs (T.setTop (mkF m pc' Ls (.int (x + y) :: st)))) : Go p e below s Q rc rs (T.setTop (mkF m pc Ls (.int y :: .int x :: st))) := by
  subst hp; exact g.by fun t k => XS.iadd X.here hx rfl hd rfl k
theorem g_isub (X : Stand p l e R s m args below meth c T locs cells slots) (hx : p.tables.exec = Jvm.exec) {x y : Int32} (pc' : Nat) (hd : decode c.code pc = .ok (.isub, 1)) (hp : pc + 1 = pc') (g : Go p e below s Q rc rs (T.setTop (mkF m pc' Ls (.int (x - y) :: st)))) : Go p e below s Q rc rs (T.setTop (mkF m pc Ls (.int y :: .int x :: st))) := by
  subst hp; exact g.by fun t k => XS.isub X.here hx rfl hd rfl k
theorem g_imul (X : Stand p l e R s m args below meth c T locs cells slots) (hx : p.tables.exec = Jvm.exec) {x y : Int32} (pc' : Nat) (hd : decode c.code pc = .ok (.imul, 1)) (hp : pc + 1 = pc') (g : Go p e below s Q rc rs (T.setTop (mkF m pc' Ls (.int (x * y) :: st)))) : Go p e below s Q rc rs (T.setTop (mkF m pc Ls (.int y :: .int x :: st))) := by
  subst hp; exact g.by fun t k => XS.imul X.here hx rfl hd rfl k
theorem g_iand (X : Stand p l e R s m args below meth c T locs cells slots) (hx : p.tables.exec = Jvm.exec) {x y : Int32} (pc' : Nat) (hd : decode c.code pc = .ok (.iand, 1)) (hp : pc + 1 = pc') (g : Go p e below s Q rc rs (T.setTop (mkF m pc' Ls (.int (x &&& y) :: st)))) : Go p e below s Q rc rs (T.setTop (mkF m pc Ls (.int y :: .int x :: st))) := by
  subst hp; exact g.by fun t k => XS.iand X.here hx rfl hd rfl k
theorem g_ior (X : Stand p l e R s m args below meth c T locs cells slots) (hx : p.tables.exec = Jvm.exec) {x y : Int32} (pc' : Nat) (hd : decode c.code pc = .ok (.ior, 1)) (hp : pc + 1 = pc') (g : Go p e below s Q rc rs (T.setTop (mkF m pc' Ls (.int (x ||| y) :: st)))) : Go p e below s Q rc rs (T.setTop (mkF m pc Ls (.int y :: .int x :: st))) := by
  subst hp; exact g.by fun t k => XS.ior X.here hx rfl hd rfl k
theorem g_ixor (X : Stand p l e R s m args below meth c T locs cells slots) (hx : p.tables.exec = Jvm.exec) {x y : Int32} (pc' : Nat) (hd : decode c.code pc = .ok (.ixor, 1)) (hp : pc + 1 = pc') (g : Go p e below s Q rc rs (T.setTop (mkF m pc' Ls (.int (x ^^^ y) :: st)))) : Go p e below s Q rc rs (T.setTop (mkF m pc Ls (.int y :: .int x :: st))) := by
  subst hp; exact g.by fun t k => XS.ixor X.here hx rfl hd rfl k
theorem g_ineg (X : Stand p l e R s m args below meth c T locs cells slots) (hx : p.tables.exec = Jvm.exec) {x : Int32} (pc' : Nat) (hd : decode c.code pc = .ok (.ineg, 1)) (hp : pc + 1 = pc') (g : Go p e below s Q rc rs (T.setTop (mkF m pc' Ls (.int (-x) :: st)))) : Go p e below s Q rc rs (T.setTop (mkF m pc Ls (.int x :: st))) := by
  subst hp; exact g.by fun t k => XS.ineg X.here hx rfl hd rfl k
theorem g_idiv (X : Stand p l e R s m args below meth c T locs cells slots) (hx : p.tables.exec = Jvm.exec) {x y : Int32} (pc' : Nat) (hd : decode c.code pc = .ok (.idiv, 1)) (hy : y ≠ 0) (hp : pc + 1 = pc') (g : Go p e below s Q rc rs (T.setTop (mkF m pc' Ls (.int (x / y) :: st)))) : Go p e below s Q rc rs (T.setTop (mkF m pc Ls (.int y :: .int x :: st))) := by
  subst hp; exact g.by fun t k => XS.idiv X.here hx rfl hd rfl hy k
theorem g_ladd (X : Stand p l e R s m args below meth c T locs cells slots) (hx : p.tables.exec = Jvm.exec) {x y : Int64} (pc' : Nat) (hd : decode c.code pc = .ok (.ladd, 1)) (hp : pc + 1 = pc') (g : Go p e below s Q rc rs (T.setTop (mkF m pc' Ls (.long (x + y) :: st)))) : Go p e below s Q rc rs (T.setTop (mkF m pc Ls (.long y :: .long x :: st))) := by
  subst hp; exact g.by fun t k => XS.ladd X.here hx rfl hd rfl k
theorem g_lsub (X : Stand p l e R s m args below meth c T locs cells slots) (hx : p.tables.exec = Jvm.exec) {x y : Int64} (pc' : Nat) (hd : decode c.code pc = .ok (.lsub, 1)) (hp : pc + 1 = pc') (g : Go p e below s Q rc rs (T.setTop (mkF m pc' Ls (.long (x - y) :: st)))) : Go p e below s Q rc rs (T.setTop (mkF m pc Ls (.long y :: .long x :: st))) := by
  subst hp; exact g.by fun t k => XS.lsub X.here hx rfl hd rfl k
theorem g_lmul (X : Stand p l e R s m args below meth c T locs cells slots) (hx : p.tables.exec = Jvm.exec) {x y : Int64} (pc' : Nat) (hd : decode c.code pc = .ok (.lmul, 1)) (hp : pc + 1 = pc') (g : Go p e below s Q rc rs (T.setTop (mkF m pc' Ls (.long (x * y) :: st)))) : Go p e below s Q rc rs (T.setTop (mkF m pc Ls (.long y :: .long x :: st))) := by
  subst hp; exact g.by fun t k => XS.lmul X.here hx rfl hd rfl k
theorem g_land (X : Stand p l e R s m args below meth c T locs cells slots) (hx : p.tables.exec = Jvm.exec) {x y : Int64} (pc' : Nat) (hd : decode c.code pc = .ok (.land, 1)) (hp : pc + 1 = pc') (g : Go p e below s Q rc rs (T.setTop (mkF m pc' Ls (.long (x &&& y) :: st)))) : Go p e below s Q rc rs (T.setTop (mkF m pc Ls (.long y :: .long x :: st))) := by
  subst hp; exact g.by fun t k => XS.land X.here hx rfl hd rfl k
theorem g_lor (X : Stand p l e R s m args below meth c T locs cells slots) (hx : p.tables.exec = Jvm.exec) {x y : Int64} (pc' : Nat) (hd : decode c.code pc = .ok (.lor, 1)) (hp : pc + 1 = pc') (g : Go p e below s Q rc rs (T.setTop (mkF m pc' Ls (.long (x ||| y) :: st)))) : Go p e below s Q rc rs (T.setTop (mkF m pc Ls (.long y :: .long x :: st))) := by
  subst hp; exact g.by fun t k => XS.lor X.here hx rfl hd rfl k
theorem g_lxor (X : Stand p l e R s m args below meth c T locs cells slots) (hx : p.tables.exec = Jvm.exec) {x y : Int64} (pc' : Nat) (hd : decode c.code pc = .ok (.lxor, 1)) (hp : pc + 1 = pc') (g : Go p e below s Q rc rs (T.setTop (mkF m pc' Ls (.long (x ^^^ y) :: st)))) : Go p e below s Q rc rs (T.setTop (mkF m pc Ls (.long y :: .long x :: st))) := by
  subst hp; exact g.by fun t k => XS.lxor X.here hx rfl hd rfl k
theorem g_lneg (X : Stand p l e R s m args below meth c T locs cells slots) (hx : p.tables.exec = Jvm.exec) {x : Int64} (pc' : Nat) (hd : decode c.code pc = .ok (.lneg, 1)) (hp : pc + 1 = pc') (g : Go p e below s Q rc rs (T.setTop (mkF m pc' Ls (.long (-x) :: st)))) : Go p e below s Q rc rs (T.setTop (mkF m pc Ls (.long x :: st))) := by
  subst hp; exact g.by fun t k => XS.lneg X.here hx rfl hd rfl k
theorem g_ldiv (X : Stand p l e R s m args below meth c T locs cells slots) (hx : p.tables.exec = Jvm.exec) {x y : Int64} (pc' : Nat) (hd : decode c.code pc = .ok (.ldiv, 1)) (hy : y ≠ 0) (hp : pc + 1 = pc') (g : Go p e below s Q rc rs (T.setTop (mkF m pc' Ls (.long (x / y) :: st)))) : Go p e below s Q rc rs (T.setTop (mkF m pc Ls (.long y :: .long x :: st))) := by
  subst hp; exact g.by fun t k => XS.ldiv X.here hx rfl hd rfl hy k
theorem g_irem (X : Stand p l e R s m args below meth c T locs cells slots) (hx : p.tables.exec = Jvm.exec) {x y : Int32} (pc' : Nat) (hd : decode c.code pc = .ok (.irem, 1)) (hy : y ≠ 0) (hp : pc + 1 = pc') (g : Go p e below s Q rc rs (T.setTop (mkF m pc' Ls (.int (x % y) :: st)))) : Go p e below s Q rc rs (T.setTop (mkF m pc Ls (.int y :: .int x :: st))) := by
  subst hp; exact g.by fun t k => iremM X hx rfl hd rfl hy k
theorem g_lrem (X : Stand p l e R s m args below meth c T locs cells slots) (hx : p.tables.exec = Jvm.exec) {x y : Int64} (pc' : Nat) (hd : decode c.code pc = .ok (.lrem, 1)) (hy : y ≠ 0) (hp : pc + 1 = pc') (g : Go p e below s Q rc rs (T.setTop (mkF m pc' Ls (.long (x % y) :: st)))) : Go p e below s Q rc rs (T.setTop (mkF m pc Ls (.long y :: .long x :: st))) := by
  subst hp; exact g.by fun t k => XS.lrem X.here hx rfl hd rfl hy (by rw [lrem_mod]; exact k)
theorem g_ishl (X : Stand p l e R s m args below meth c T locs cells slots) (hx : p.tables.exec = Jvm.exec) {x : Int32} {y : Int32} (pc' : Nat) (hd : decode c.code pc = .ok (.ishl, 1)) (hp : pc + 1 = pc') (g : Go p e below s Q rc rs (T.setTop (mkF m pc' Ls (.int (shlI x y) :: st)))) : Go p e below s Q rc rs (T.setTop (mkF m pc Ls (.int y :: .int x :: st))) := by
  subst hp; exact g.by fun t k => XS.ishl X.here hx rfl hd rfl k
theorem g_ishr (X : Stand p l e R s m args below meth c T locs cells slots) (hx : p.tables.exec = Jvm.exec) {x : Int32} {y : Int32} (pc' : Nat) (hd : decode c.code pc = .ok (.ishr, 1)) (hp : pc + 1 = pc') (g : Go p e below s Q rc rs (T.setTop (mkF m pc' Ls (.int (shrI x y) :: st)))) : Go p e below s Q rc rs (T.setTop (mkF m pc Ls (.int y :: .int x :: st))) := by
  subst hp; exact g.by fun t k => XS.ishr X.here hx rfl hd rfl k
theorem g_iushr (X : Stand p l e R s m args below meth c T locs cells slots) (hx : p.tables.exec = Jvm.exec) {x : Int32} {y : Int32} (pc' : Nat) (hd : decode c.code pc = .ok (.iushr, 1)) (hp : pc + 1 = pc') (g : Go p e below s Q rc rs (T.setTop (mkF m pc' Ls (.int (ushrI x y) :: st)))) : Go p e below s Q rc rs (T.setTop (mkF m pc Ls (.int y :: .int x :: st))) := by
  subst hp; exact g.by fun t k => XS.iushr X.here hx rfl hd rfl k
theorem g_lshl (X : Stand p l e R s m args below meth c T locs cells slots) (hx : p.tables.exec = Jvm.exec) {x : Int64} {y : Int32} (pc' : Nat) (hd : decode c.code pc = .ok (.lshl, 1)) (hp : pc + 1 = pc') (g : Go p e below s Q rc rs (T.setTop (mkF m pc' Ls (.long (shlJ x y) :: st)))) : Go p e below s Q rc rs (T.setTop (mkF m pc Ls (.int y :: .long x :: st))) := by
  subst hp; exact g.by fun t k => XS.lshl X.here hx rfl hd rfl k
theorem g_lshr (X : Stand p l e R s m args below meth c T locs cells slots) (hx : p.tables.exec = Jvm.exec) {x : Int64} {y : Int32} (pc' : Nat) (hd : decode c.code pc = .ok (.lshr, 1)) (hp : pc + 1 = pc') (g : Go p e below s Q rc rs (T.setTop (mkF m pc' Ls (.long (shrJ x y) :: st)))) : Go p e below s Q rc rs (T.setTop (mkF m pc Ls (.int y :: .long x :: st))) := by
  subst hp; exact g.by fun t k => XS.lshr X.here hx rfl hd rfl k
theorem g_lushr (X : Stand p l e R s m args below meth c T locs cells slots) (hx : p.tables.exec = Jvm.exec) {x : Int64} {y : Int32} (pc' : Nat) (hd : decode c.code pc = .ok (.lushr, 1)) (hp : pc + 1 = pc') (g : Go p e below s Q rc rs (T.setTop (mkF m pc' Ls (.long (ushrJ x y) :: st)))) : Go p e below s Q rc rs (T.setTop (mkF m pc Ls (.int y :: .long x :: st))) := by
  subst hp; exact g.by fun t k => XS.lushr X.here hx rfl hd rfl k
theorem g_i2l (X : Stand p l e R s m args below meth c T locs cells slots) (hx : p.tables.exec = Jvm.exec) {x : Int32} (pc' : Nat) (hd : decode c.code pc = .ok (.i2l, 1)) (hp : pc + 1 = pc') (g : Go p e below s Q rc rs (T.setTop (mkF m pc' Ls (.long (x.toInt64) :: st)))) : Go p e below s Q rc rs (T.setTop (mkF m pc Ls (.int x :: st))) := by
  subst hp; exact g.by fun t k => XS.i2l X.here hx rfl hd rfl k
theorem g_l2i (X : Stand p l e R s m args below meth c T locs cells slots) (hx : p.tables.exec = Jvm.exec) {x : Int64} (pc' : Nat) (hd : decode c.code pc = .ok (.l2i, 1)) (hp : pc + 1 = pc') (g : Go p e below s Q rc rs (T.setTop (mkF m pc' Ls (.int (x.toInt32) :: st)))) : Go p e below s Q rc rs (T.setTop (mkF m pc Ls (.long x :: st))) := by
  subst hp; exact g.by fun t k => XS.l2i X.here hx rfl hd rfl k
theorem g_i2b (X : Stand p l e R s m args below meth c T locs cells slots) (hx : p.tables.exec = Jvm.exec) {x : Int32} (pc' : Nat) (hd : decode c.code pc = .ok (.i2b, 1)) (hp : pc + 1 = pc') (g : Go p e below s Q rc rs (T.setTop (mkF m pc' Ls (.int (i2bI x) :: st)))) : Go p e below s Q rc rs (T.setTop (mkF m pc Ls (.int x :: st))) := by
  subst hp; exact g.by fun t k => XS.i2b X.here hx rfl hd rfl k
theorem g_i2c (X : Stand p l e R s m args below meth c T locs cells slots) (hx : p.tables.exec = Jvm.exec) {x : Int32} (pc' : Nat) (hd : decode c.code pc = .ok (.i2c, 1)) (hp : pc + 1 = pc') (g : Go p e below s Q rc rs (T.setTop (mkF m pc' Ls (.int (i2cI x) :: st)))) : Go p e below s Q rc rs (T.setTop (mkF m pc Ls (.int x :: st))) := by
  subst hp; exact g.by fun t k => XS.i2c X.here hx rfl hd rfl k
theorem g_i2s (X : Stand p l e R s m args below meth c T locs cells slots) (hx : p.tables.exec = Jvm.exec) {x : Int32} (pc' : Nat) (hd : decode c.code pc = .ok (.i2s, 1)) (hp : pc + 1 = pc') (g : Go p e below s Q rc rs (T.setTop (mkF m pc' Ls (.int (i2sI x) :: st)))) : Go p e below s Q rc rs (T.setTop (mkF m pc Ls (.int x :: st))) := by
  subst hp; exact g.by fun t k => XS.i2s X.here hx rfl hd rfl k
theorem g_lcmp (X : Stand p l e R s m args below meth c T locs cells slots) (hx : p.tables.exec = Jvm.exec) {x y : Int64} (pc' : Nat) (hd : decode c.code pc = .ok (.lcmp, 1)) (hp : pc + 1 = pc') (g : Go p e below s Q rc rs (T.setTop (mkF m pc' Ls (.int (lcmpW x y) :: st)))) : Go p e below s Q rc rs (T.setTop (mkF m pc Ls (.long y :: .long x :: st))) := by
  subst hp; exact g.by fun t k => XS.lcmp X.here hx rfl hd rfl k
theorem g_iinc (X : Stand p l e R s m args below meth c T locs cells slots) (hx : p.tables.exec = Jvm.exec) {k : Nat} {i : Int} {x : Int32} (v : Int32) (l' : Array Slot) (pc' : Nat) (hd : decode c.code pc = .ok (.iinc k i, 3)) (hv : Int32.ofInt i = v) (hl : Ls[k]? = some (.val (.int x))) (hl' : storeLocals Ls k (.int (x + v)) = some l') (hp : pc + 3 = pc') (g : Go p e below s Q rc rs (T.setTop (mkF m pc' l' st))) : Go p e below s Q rc rs (T.setTop (mkF m pc Ls st)) := by
  subst hp hv; exact g.by fun t k => XS.iinc X.here hx rfl hd hl hl' k
theorem g_dup (X : Stand p l e R s m args below meth c T locs cells slots) (hx : p.tables.exec = Jvm.exec) {x : Value} (pc' : Nat) (hd : decode c.code pc = .ok (.dup, 1)) (hc : x.category = 1) (hp : pc + 1 = pc') (g : Go p e below s Q rc rs (T.setTop (mkF m pc' Ls (x :: x :: st)))) : Go p e below s Q rc rs (T.setTop (mkF m pc Ls (x :: st))) := by
  subst hp; exact g.by fun t k => XS.dup X.here hx rfl hd rfl hc k
theorem g_pop (X : Stand p l e R s m args below meth c T locs cells slots) (hx : p.tables.exec = Jvm.exec) {x : Value} (pc' : Nat) (hd : decode c.code pc = .ok (.pop, 1)) (hc : x.category = 1) (hp : pc + 1 = pc') (g : Go p e below s Q rc rs (T.setTop (mkF m pc' Ls st))) : Go p e below s Q rc rs (T.setTop (mkF m pc Ls (x :: st))) := by
  subst hp; exact g.by fun t k => XS.pop X.here hx rfl hd rfl hc k
theorem g_dup_x1 (X : Stand p l e R s m args below meth c T locs cells slots) (hx : p.tables.exec = Jvm.exec) {x y : Value} (pc' : Nat) (hd : decode c.code pc = .ok (.dup_x1, 1)) (hc : x.category = 1) (hc2 : y.category = 1) (hp : pc + 1 = pc') (g : Go p e below s Q rc rs (T.setTop (mkF m pc' Ls (x :: y :: x :: st)))) : Go p e below s Q rc rs (T.setTop (mkF m pc Ls (x :: y :: st))) := by
  subst hp; exact g.by fun t k => XS.dupX1 X.here hx rfl hd rfl hc hc2 k
theorem g_dup2 (X : Stand p l e R s m args below meth c T locs cells slots) (hx : p.tables.exec = Jvm.exec) {x y : Value} (pc' : Nat) (hd : decode c.code pc = .ok (.dup2, 1)) (hc : x.category = 1) (hc2 : y.category = 1) (hp : pc + 1 = pc') (g : Go p e below s Q rc rs (T.setTop (mkF m pc' Ls (x :: y :: x :: y :: st)))) : Go p e below s Q rc rs (T.setTop (mkF m pc Ls (x :: y :: st))) := by
  subst hp; exact g.by fun t k => XT.dup2 X.here hx rfl hd rfl hc hc2 k
theorem g_dup2L (X : Stand p l e R s m args below meth c T locs cells slots) (hx : p.tables.exec = Jvm.exec) {x : Int64} (pc' : Nat) (hd : decode c.code pc = .ok (.dup2, 1)) (hp : pc + 1 = pc') (g : Go p e below s Q rc rs (T.setTop (mkF m pc' Ls (.long x :: .long x :: st)))) : Go p e below s Q rc rs (T.setTop (mkF m pc Ls (.long x :: st))) := by
  subst hp; exact g.by fun t k => XT.dup2L X.here hx rfl hd rfl k
theorem g_pop2L (X : Stand p l e R s m args below meth c T locs cells slots) (hx : p.tables.exec = Jvm.exec) {x : Int64} (pc' : Nat) (hd : decode c.code pc = .ok (.pop2, 1)) (hp : pc + 1 = pc') (g : Go p e below s Q rc rs (T.setTop (mkF m pc' Ls st))) : Go p e below s Q rc rs (T.setTop (mkF m pc Ls (.long x :: st))) := by
  subst hp; refine g.by fun t k => ?_
  jvm_step X.here [X.here.top, hx, hd, Value.category]
  exact k
theorem g_goto (X : Stand p l e R s m args below meth c T locs cells slots) (hx : p.tables.exec = Jvm.exec) {o : Int} (pc' : Nat) (hd : decode c.code pc = .ok (.goto o, 3)) (ho : 0 ≤ (pc : Int) + o) (hp : ((pc : Int) + o).toNat = pc') (g : Go p e below s Q rc rs (T.setTop (mkF m pc' Ls st))) : Go p e below s Q rc rs (T.setTop (mkF m pc Ls st)) := by
  subst hp; exact g.by fun t k => XS.goto X.here hx rfl rfl hd ho rfl k
theorem g_icmp_lt (X : Stand p l e R s m args below meth c T locs cells slots) (hx : p.tables.exec = Jvm.exec) {x y : Int32} {o : Int} (pcY pcN : Nat) (hd : decode c.code pc = .ok (.if_icmp .lt o, 3)) (ho : 0 ≤ (pc : Int) + o) (hY : ((pc : Int) + o).toNat = pcY) (hN : pc + 3 = pcN) (gp : x < y → Go p e below s Q rc rs (T.setTop (mkF m pcY Ls st))) (gn : ¬ x < y → Go p e below s Q rc rs (T.setTop (mkF m pcN Ls st))) : Go p e below s Q rc rs (T.setTop (mkF m pc Ls (.int y :: .int x :: st))) := by
  subst hY hN
  by_cases q : x < y
  · exact (gp q).by fun t k => XS.icmpYes X.here hx rfl rfl hd rfl (tlt q).1 ho rfl k
  · exact (gn q).by fun t k => XS.icmpNo X.here hx rfl hd rfl (flt q).1 k
theorem g_if0_lt (X : Stand p l e R s m args below meth c T locs cells slots) (hx : p.tables.exec = Jvm.exec) {x : Int32} {o : Int} (pcY pcN : Nat) (hd : decode c.code pc = .ok (.ifCond .lt o, 3)) (ho : 0 ≤ (pc : Int) + o) (hY : ((pc : Int) + o).toNat = pcY) (hN : pc + 3 = pcN) (gp : x < 0 → Go p e below s Q rc rs (T.setTop (mkF m pcY Ls st))) (gn : ¬ x < 0 → Go p e below s Q rc rs (T.setTop (mkF m pcN Ls st))) : Go p e below s Q rc rs (T.setTop (mkF m pc Ls (.int x :: st))) := by
  subst hY hN
  by_cases q : x < 0
  · exact (gp q).by fun t k => XS.ifYes X.here hx rfl rfl hd rfl ((if0 _ _).trans (tlt q).1) ho rfl k
  · exact (gn q).by fun t k => XS.ifNo X.here hx rfl hd rfl ((if0 _ _).trans (flt q).1) k
theorem g_lc_lt (X : Stand p l e R s m args below meth c T locs cells slots) (hx : p.tables.exec = Jvm.exec) {x y : Int64} {o : Int} (pcY pcN : Nat) (hd : decode c.code pc = .ok (.ifCond .lt o, 3)) (ho : 0 ≤ (pc : Int) + o) (hY : ((pc : Int) + o).toNat = pcY) (hN : pc + 3 = pcN) (gp : x < y → Go p e below s Q rc rs (T.setTop (mkF m pcY Ls st))) (gn : ¬ x < y → Go p e below s Q rc rs (T.setTop (mkF m pcN Ls st))) : Go p e below s Q rc rs (T.setTop (mkF m pc Ls (.int (lcmpW x y) :: st))) :=
  g_if0_lt X hx pcY pcN hd ho hY hN (fun q => gp ((lw_lt x y).1 q)) (fun q => gn fun r => q ((lw_lt x y).2 r))
theorem g_icmp_ge (X : Stand p l e R s m args below meth c T locs cells slots) (hx : p.tables.exec = Jvm.exec) {x y : Int32} {o : Int} (pcY pcN : Nat) (hd : decode c.code pc = .ok (.if_icmp .ge o, 3)) (ho : 0 ≤ (pc : Int) + o) (hY : ((pc : Int) + o).toNat = pcY) (hN : pc + 3 = pcN) (gp : x < y → Go p e below s Q rc rs (T.setTop (mkF m pcN Ls st))) (gn : ¬ x < y → Go p e below s Q rc rs (T.setTop (mkF m pcY Ls st))) : Go p e below s Q rc rs (T.setTop (mkF m pc Ls (.int y :: .int x :: st))) := by
  subst hY hN
  by_cases q : x < y
  · exact (gp q).by fun t k => XS.icmpNo X.here hx rfl hd rfl (tlt q).2.1 k
  · exact (gn q).by fun t k => XS.icmpYes X.here hx rfl rfl hd rfl (flt q).2.1 ho rfl k
theorem g_if0_ge (X : Stand p l e R s m args below meth c T locs cells slots) (hx : p.tables.exec = Jvm.exec) {x : Int32} {o : Int} (pcY pcN : Nat) (hd : decode c.code pc = .ok (.ifCond .ge o, 3)) (ho : 0 ≤ (pc : Int) + o) (hY : ((pc : Int) + o).toNat = pcY) (hN : pc + 3 = pcN) (gp : x < 0 → Go p e below s Q rc rs (T.setTop (mkF m pcN Ls st))) (gn : ¬ x < 0 → Go p e below s Q rc rs (T.setTop (mkF m pcY Ls st))) : Go p e below s Q rc rs (T.setTop (mkF m pc Ls (.int x :: st))) := by
  subst hY hN
  by_cases q : x < 0
  · exact (gp q).by fun t k => XS.ifNo X.here hx rfl hd rfl ((if0 _ _).trans (tlt q).2.1) k
  · exact (gn q).by fun t k => XS.ifYes X.here hx rfl rfl hd rfl ((if0 _ _).trans (flt q).2.1) ho rfl k
theorem g_lc_ge (X : Stand p l e R s m args below meth c T locs cells slots) (hx : p.tables.exec = Jvm.exec) {x y : Int64} {o : Int} (pcY pcN : Nat) (hd : decode c.code pc = .ok (.ifCond .ge o, 3)) (ho : 0 ≤ (pc : Int) + o) (hY : ((pc : Int) + o).toNat = pcY) (hN : pc + 3 = pcN) (gp : x < y → Go p e below s Q rc rs (T.setTop (mkF m pcN Ls st))) (gn : ¬ x < y → Go p e below s Q rc rs (T.setTop (mkF m pcY Ls st))) : Go p e below s Q rc rs (T.setTop (mkF m pc Ls (.int (lcmpW x y) :: st))) :=
  g_if0_ge X hx pcY pcN hd ho hY hN (fun q => gp ((lw_lt x y).1 q)) (fun q => gn fun r => q ((lw_lt x y).2 r))
theorem g_icmp_gt (X : Stand p l e R s m args below meth c T locs cells slots) (hx : p.tables.exec = Jvm.exec) {x y : Int32} {o : Int} (pcY pcN : Nat) (hd : decode c.code pc = .ok (.if_icmp .gt o, 3)) (ho : 0 ≤ (pc : Int) + o) (hY : ((pc : Int) + o).toNat = pcY) (hN : pc + 3 = pcN) (gp : y < x → Go p e below s Q rc rs (T.setTop (mkF m pcY Ls st))) (gn : ¬ y < x → Go p e below s Q rc rs (T.setTop (mkF m pcN Ls st))) : Go p e below s Q rc rs (T.setTop (mkF m pc Ls (.int y :: .int x :: st))) := by
  subst hY hN
  by_cases q : y < x
  · exact (gp q).by fun t k => XS.icmpYes X.here hx rfl rfl hd rfl (tlt q).2.2.1 ho rfl k
  · exact (gn q).by fun t k => XS.icmpNo X.here hx rfl hd rfl (flt q).2.2.1 k
theorem g_if0_gt (X : Stand p l e R s m args below meth c T locs cells slots) (hx : p.tables.exec = Jvm.exec) {x : Int32} {o : Int} (pcY pcN : Nat) (hd : decode c.code pc = .ok (.ifCond .gt o, 3)) (ho : 0 ≤ (pc : Int) + o) (hY : ((pc : Int) + o).toNat = pcY) (hN : pc + 3 = pcN) (gp : 0 < x → Go p e below s Q rc rs (T.setTop (mkF m pcY Ls st))) (gn : ¬ 0 < x → Go p e below s Q rc rs (T.setTop (mkF m pcN Ls st))) : Go p e below s Q rc rs (T.setTop (mkF m pc Ls (.int x :: st))) := by
  subst hY hN
  by_cases q : 0 < x
  · exact (gp q).by fun t k => XS.ifYes X.here hx rfl rfl hd rfl ((if0 _ _).trans (tlt q).2.2.1) ho rfl k
  · exact (gn q).by fun t k => XS.ifNo X.here hx rfl hd rfl ((if0 _ _).trans (flt q).2.2.1) k
theorem g_lc_gt (X : Stand p l e R s m args below meth c T locs cells slots) (hx : p.tables.exec = Jvm.exec) {x y : Int64} {o : Int} (pcY pcN : Nat) (hd : decode c.code pc = .ok (.ifCond .gt o, 3)) (ho : 0 ≤ (pc : Int) + o) (hY : ((pc : Int) + o).toNat = pcY) (hN : pc + 3 = pcN) (gp : y < x → Go p e below s Q rc rs (T.setTop (mkF m pcY Ls st))) (gn : ¬ y < x → Go p e below s Q rc rs (T.setTop (mkF m pcN Ls st))) : Go p e below s Q rc rs (T.setTop (mkF m pc Ls (.int (lcmpW x y) :: st))) :=
  g_if0_gt X hx pcY pcN hd ho hY hN (fun q => gp ((lw_gt x y).1 q)) (fun q => gn fun r => q ((lw_gt x y).2 r))
theorem g_icmp_le (X : Stand p l e R s m args below meth c T locs cells slots) (hx : p.tables.exec = Jvm.exec) {x y : Int32} {o : Int} (pcY pcN : Nat) (hd : decode c.code pc = .ok (.if_icmp .le o, 3)) (ho : 0 ≤ (pc : Int) + o) (hY : ((pc : Int) + o).toNat = pcY) (hN : pc + 3 = pcN) (gp : y < x → Go p e below s Q rc rs (T.setTop (mkF m pcN Ls st))) (gn : ¬ y < x → Go p e below s Q rc rs (T.setTop (mkF m pcY Ls st))) : Go p e below s Q rc rs (T.setTop (mkF m pc Ls (.int y :: .int x :: st))) := by
  subst hY hN
  by_cases q : y < x
  · exact (gp q).by fun t k => XS.icmpNo X.here hx rfl hd rfl (tlt q).2.2.2 k
  · exact (gn q).by fun t k => XS.icmpYes X.here hx rfl rfl hd rfl (flt q).2.2.2 ho rfl k
theorem g_if0_le (X : Stand p l e R s m args below meth c T locs cells slots) (hx : p.tables.exec = Jvm.exec) {x : Int32} {o : Int} (pcY pcN : Nat) (hd : decode c.code pc = .ok (.ifCond .le o, 3)) (ho : 0 ≤ (pc : Int) + o) (hY : ((pc : Int) + o).toNat = pcY) (hN : pc + 3 = pcN) (gp : 0 < x → Go p e below s Q rc rs (T.setTop (mkF m pcN Ls st))) (gn : ¬ 0 < x → Go p e below s Q rc rs (T.setTop (mkF m pcY Ls st))) : Go p e below s Q rc rs (T.setTop (mkF m pc Ls (.int x :: st))) := by
  subst hY hN
  by_cases q : 0 < x
  · exact (gp q).by fun t k => XS.ifNo X.here hx rfl hd rfl ((if0 _ _).trans (tlt q).2.2.2) k
  · exact (gn q).by fun t k => XS.ifYes X.here hx rfl rfl hd rfl ((if0 _ _).trans (flt q).2.2.2) ho rfl k
theorem g_lc_le (X : Stand p l e R s m args below meth c T locs cells slots) (hx : p.tables.exec = Jvm.exec) {x y : Int64} {o : Int} (pcY pcN : Nat) (hd : decode c.code pc = .ok (.ifCond .le o, 3)) (ho : 0 ≤ (pc : Int) + o) (hY : ((pc : Int) + o).toNat = pcY) (hN : pc + 3 = pcN) (gp : y < x → Go p e below s Q rc rs (T.setTop (mkF m pcN Ls st))) (gn : ¬ y < x → Go p e below s Q rc rs (T.setTop (mkF m pcY Ls st))) : Go p e below s Q rc rs (T.setTop (mkF m pc Ls (.int (lcmpW x y) :: st))) :=
  g_if0_le X hx pcY pcN hd ho hY hN (fun q => gp ((lw_gt x y).1 q)) (fun q => gn fun r => q ((lw_gt x y).2 r))
theorem g_icmp_eq (X : Stand p l e R s m args below meth c T locs cells slots) (hx : p.tables.exec = Jvm.exec) {x y : Int32} {o : Int} (pcY pcN : Nat) (hd : decode c.code pc = .ok (.if_icmp .eq o, 3)) (ho : 0 ≤ (pc : Int) + o) (hY : ((pc : Int) + o).toNat = pcY) (hN : pc + 3 = pcN) (gp : x = y → Go p e below s Q rc rs (T.setTop (mkF m pcY Ls st))) (gn : ¬ x = y → Go p e below s Q rc rs (T.setTop (mkF m pcN Ls st))) : Go p e below s Q rc rs (T.setTop (mkF m pc Ls (.int y :: .int x :: st))) := by
  subst hY hN
  by_cases q : x = y
  · exact (gp q).by fun t k => XS.icmpYes X.here hx rfl rfl hd rfl (teq q).1 ho rfl k
  · exact (gn q).by fun t k => XS.icmpNo X.here hx rfl hd rfl (feq q).1 k
theorem g_if0_eq (X : Stand p l e R s m args below meth c T locs cells slots) (hx : p.tables.exec = Jvm.exec) {x : Int32} {o : Int} (pcY pcN : Nat) (hd : decode c.code pc = .ok (.ifCond .eq o, 3)) (ho : 0 ≤ (pc : Int) + o) (hY : ((pc : Int) + o).toNat = pcY) (hN : pc + 3 = pcN) (gp : x = 0 → Go p e below s Q rc rs (T.setTop (mkF m pcY Ls st))) (gn : ¬ x = 0 → Go p e below s Q rc rs (T.setTop (mkF m pcN Ls st))) : Go p e below s Q rc rs (T.setTop (mkF m pc Ls (.int x :: st))) := by
  subst hY hN
  by_cases q : x = 0
  · exact (gp q).by fun t k => XS.ifYes X.here hx rfl rfl hd rfl ((if0 _ _).trans (teq q).1) ho rfl k
  · exact (gn q).by fun t k => XS.ifNo X.here hx rfl hd rfl ((if0 _ _).trans (feq q).1) k
theorem g_lc_eq (X : Stand p l e R s m args below meth c T locs cells slots) (hx : p.tables.exec = Jvm.exec) {x y : Int64} {o : Int} (pcY pcN : Nat) (hd : decode c.code pc = .ok (.ifCond .eq o, 3)) (ho : 0 ≤ (pc : Int) + o) (hY : ((pc : Int) + o).toNat = pcY) (hN : pc + 3 = pcN) (gp : x = y → Go p e below s Q rc rs (T.setTop (mkF m pcY Ls st))) (gn : ¬ x = y → Go p e below s Q rc rs (T.setTop (mkF m pcN Ls st))) : Go p e below s Q rc rs (T.setTop (mkF m pc Ls (.int (lcmpW x y) :: st))) :=
  g_if0_eq X hx pcY pcN hd ho hY hN (fun q => gp ((lw_eq x y).1 q)) (fun q => gn fun r => q ((lw_eq x y).2 r))
theorem g_icmp_ne (X : Stand p l e R s m args below meth c T locs cells slots) (hx : p.tables.exec = Jvm.exec) {x y : Int32} {o : Int} (pcY pcN : Nat) (hd : decode c.code pc = .ok (.if_icmp .ne o, 3)) (ho : 0 ≤ (pc : Int) + o) (hY : ((pc : Int) + o).toNat = pcY) (hN : pc + 3 = pcN) (gp : x = y → Go p e below s Q rc rs (T.setTop (mkF m pcN Ls st))) (gn : ¬ x = y → Go p e below s Q rc rs (T.setTop (mkF m pcY Ls st))) : Go p e below s Q rc rs (T.setTop (mkF m pc Ls (.int y :: .int x :: st))) := by
  subst hY hN
  by_cases q : x = y
  · exact (gp q).by fun t k => XS.icmpNo X.here hx rfl hd rfl (teq q).2 k
  · exact (gn q).by fun t k => XS.icmpYes X.here hx rfl rfl hd rfl (feq q).2 ho rfl k
theorem g_if0_ne (X : Stand p l e R s m args below meth c T locs cells slots) (hx : p.tables.exec = Jvm.exec) {x : Int32} {o : Int} (pcY pcN : Nat) (hd : decode c.code pc = .ok (.ifCond .ne o, 3)) (ho : 0 ≤ (pc : Int) + o) (hY : ((pc : Int) + o).toNat = pcY) (hN : pc + 3 = pcN) (gp : x = 0 → Go p e below s Q rc rs (T.setTop (mkF m pcN Ls st))) (gn : ¬ x = 0 → Go p e below s Q rc rs (T.setTop (mkF m pcY Ls st))) : Go p e below s Q rc rs (T.setTop (mkF m pc Ls (.int x :: st))) := by
  subst hY hN
  by_cases q : x = 0
  · exact (gp q).by fun t k => XS.ifNo X.here hx rfl hd rfl ((if0 _ _).trans (teq q).2) k
  · exact (gn q).by fun t k => XS.ifYes X.here hx rfl rfl hd rfl ((if0 _ _).trans (feq q).2) ho rfl k
theorem g_lc_ne (X : Stand p l e R s m args below meth c T locs cells slots) (hx : p.tables.exec = Jvm.exec) {x y : Int64} {o : Int} (pcY pcN : Nat) (hd : decode c.code pc = .ok (.ifCond .ne o, 3)) (ho : 0 ≤ (pc : Int) + o) (hY : ((pc : Int) + o).toNat = pcY) (hN : pc + 3 = pcN) (gp : x = y → Go p e below s Q rc rs (T.setTop (mkF m pcN Ls st))) (gn : ¬ x = y → Go p e below s Q rc rs (T.setTop (mkF m pcY Ls st))) : Go p e below s Q rc rs (T.setTop (mkF m pc Ls (.int (lcmpW x y) :: st))) :=
  g_if0_ne X hx pcY pcN hd ho hY hN (fun q => gp ((lw_eq x y).1 q)) (fun q => gn fun r => q ((lw_eq x y).2 r))
theorem g_ifnull_no (X : Stand p l e R s m args below meth c T locs cells slots) (hx : p.tables.exec = Jvm.exec) {b : Addr} {o : Int} (pc' : Nat) (hd : decode c.code pc = .ok (.ifnull o, 3)) (hp : pc + 3 = pc') (g : Go p e below s Q rc rs (T.setTop (mkF m pc' Ls st))) : Go p e below s Q rc rs (T.setTop (mkF m pc Ls (.ref b :: st))) := by
  subst hp; exact g.by fun t k => XS.ifnullNo X.here hx rfl hd rfl k
theorem g_ifnonnull_yes (X : Stand p l e R s m args below meth c T locs cells slots) (hx : p.tables.exec = Jvm.exec) {b : Addr} {o : Int} (pc' : Nat) (hd : decode c.code pc = .ok (.ifnonnull o, 3)) (ho : 0 ≤ (pc : Int) + o) (hp : ((pc : Int) + o).toNat = pc') (g : Go p e below s Q rc rs (T.setTop (mkF m pc' Ls st))) : Go p e below s Q rc rs (T.setTop (mkF m pc Ls (.ref b :: st))) := by
  subst hp; exact g.by fun t k => XS.ifnonnullYes X.here hx rfl rfl hd rfl ho rfl k
theorem g_retI (X : Stand p l e R s m args below meth c T locs cells slots) (hx : p.tables.exec = Jvm.exec) (hret : meth.sig.returnType = some .int) (hlk : meth.locks = false) {z : Int32} (hd : decode c.code pc = .ok (.ireturn, 1)) (hc : cells ≤ rc) (hs : slots ≤ rs) (hQ : Q (some (.int z)) T.heap locs) : Go p e below s Q rc rs (T.setTop (mkF m pc Ls (.int z :: st))) := by
  obtain ⟨fs, hr, hrun, hended, hW, hsame⟩ := X.leave (v := some (.int z)) (fun q => by rw [hret] at q; cases q) hlk
  exact ⟨_, _, retI X hx hret hd hr, hrun, hended, _, _, rfl, hQ, ⟨_, rfl⟩, hW, hsame.mono hc hs⟩
theorem g_retN (X : Stand p l e R s m args below meth c T locs cells slots) (hx : p.tables.exec = Jvm.exec) {ty : FieldType} (hret : meth.sig.returnType = some ty) (ht : ty = .boolean ∨ ty = .byte ∨ ty = .char ∨ ty = .short) (hlk : meth.locks = false) {z : Int32} (hd : decode c.code pc = .ok (.ireturn, 1)) (hc : cells ≤ rc) (hs : slots ≤ rs) (hQ : Q (some (.int (nar ty z))) T.heap locs) : Go p e below s Q rc rs (T.setTop (mkF m pc Ls (.int z :: st))) := by
  obtain ⟨fs, hr, hrun, hended, hW, hsame⟩ := X.leave (v := some (.int (nar ty z))) (fun q => by rw [hret] at q; cases q) hlk
  exact ⟨_, _, retN X hx hret ht hd hr, hrun, hended, _, _, rfl, hQ, ⟨_, rfl⟩, hW, hsame.mono hc hs⟩
theorem g_retJ (X : Stand p l e R s m args below meth c T locs cells slots) (hx : p.tables.exec = Jvm.exec) (hret : meth.sig.returnType = some .long) (hlk : meth.locks = false) {z : Int64} (hd : decode c.code pc = .ok (.lreturn, 1)) (hc : cells ≤ rc) (hs : slots ≤ rs) (hQ : Q (some (.long z)) T.heap locs) : Go p e below s Q rc rs (T.setTop (mkF m pc Ls (.long z :: st))) := by
  obtain ⟨fs, hr, hrun, hended, hW, hsame⟩ := X.leave (v := some (.long z)) (fun q => by rw [hret] at q; cases q) hlk
  exact ⟨_, _, retOut X hx hret rfl (Or.inr (Or.inl ⟨rfl, rfl, z, rfl⟩)) hd hr, hrun, hended, _, _, rfl, hQ, ⟨_, rfl⟩, hW, hsame.mono hc hs⟩
theorem g_retA (X : Stand p l e R s m args below meth c T locs cells slots) (hx : p.tables.exec = Jvm.exec) {ty : FieldType} (hret : meth.sig.returnType = some ty) (ht : ty.isReference = true) (hlk : meth.locks = false) {b : Addr} (hd : decode c.code pc = .ok (.areturn, 1)) (hc : cells ≤ rc) (hs : slots ≤ rs) (hQ : Q (some (.ref b)) T.heap locs) : Go p e below s Q rc rs (T.setTop (mkF m pc Ls [.ref b])) := by
  obtain ⟨fs, hr, hrun, hended, hW, hsame⟩ := X.leave (v := some (.ref b)) (fun q => by rw [hret] at q; cases q) hlk
  exact ⟨_, _, X.areturnOut hx rfl hret ht hd hr, hrun, hended, _, _, rfl, hQ, ⟨_, rfl⟩, hW, hsame.mono hc hs⟩
theorem g_retV (X : Stand p l e R s m args below meth c T locs cells slots) (hx : p.tables.exec = Jvm.exec) (hret : meth.sig.returnType = none) (hlk : meth.locks = false) (hd : decode c.code pc = .ok (.return_, 1)) (hc : cells ≤ rc) (hs : slots ≤ rs) (hQ : Q none T.heap locs) : Go p e below s Q rc rs (T.setTop (mkF m pc Ls [])) := by
  obtain ⟨fs, hr, hrun, hended, hW, hsame⟩ := X.leave (v := none) (fun _ => rfl) hlk
  exact ⟨_, _, X.returnOut hx hret hd hr, hrun, hended, _, _, rfl, hQ, ⟨_, rfl⟩, hW, hsame.mono hc hs⟩
theorem g_body {y : MethodName} {bytes : ByteArray} {maxL : Nat} {ret : Option FieldType} {ws : List Jvm.Cond} {rm : Room} {as : Array Value} (hpn : plainFor y = true)
    (body : ∀ p e s m below meth c T, Stand p l e rm s m as below meth c T [] 0 0 → p.tables.exec = Jvm.exec → c.code = bytes → c.maxLocals = maxL → meth.sig.returnType = ret → meth.locks = false → s.vm.findClass y.cls = some m.cls → meth.name = y.name → Z.Warmed39 s.vm → T.heap = h → Go p e below s Q rc rs (T.setTop (entryFrame m as maxL))) :
    MetFree l y (head1 (Jvm.Cond.code y bytes maxL ret :: ws) rm) (fun a U => a = as ∧ Z.Warmed39 U.vm ∧ U.heap = h) (fun _ _ _ _ _ => True) (fun _ U o U' => ∃ v L, o = .returned v ∧ Q v U'.heap L ∧ FrameEnd U o U' L rc rs) := by
  refine MetFree.of_bodySF hpn hisR ?_
  intro p e s m args below meth c s₁ Bd hml hP hK
  obtain ⟨rfl, hZ, hh⟩ := hP
  exact body p e s m below meth c s₁ (Stand.of_body Bd) Bd.exec Bd.bytes hml Bd.returns Bd.notSynchronized (findClass_of_methodNamed Bd.named) (name_of_methodNamed Bd.named Bd.method).1 hZ (by rw [← hh, Bd.state]; rfl)
theorem g_callS (X : Stand p l e R s m args below meth c T locs cells slots) (hx : p.tables.exec = Jvm.exec) (hZ : Z.Warmed39 s.vm) {own : String} {i : Nat} {y : MethodName} {bytes : ByteArray} {maxL : Nat} {ret : Option FieldType} {rm : Room} {as : Array Value} {Q' : Option Value → Heap → List Loc → Prop} (hown : s.vm.findClass own = some m.cls) (w1 : (Jvm.Cond.methodLink own i y).before a0 Z = true) (w2 : (Jvm.Cond.static y).before a0 Z = true) (w3 : (Jvm.Cond.initialized y.cls).before a0 Z = true) (w4 : (Jvm.Cond.code y bytes maxL ret).before a0 Z = true) (hy : y.cls ≠ "java/lang/invoke/MethodHandle" ∧ y.cls ≠ "java/lang/invoke/VarHandle") (eT : T.heap = h) (hM : MetFree l y (head1 [Jvm.Cond.code y bytes maxL ret] rm) (fun a U => a = as ∧ Z.Warmed39 U.vm ∧ U.heap = h) (fun _ _ _ _ _ => True) (fun _ U o U' => ∃ v L, o = .returned v ∧ Q' v U'.heap L ∧ FrameEnd U o U' L rm.cells rm.slots)) (argsL rest : List Value) (W : Nat) (has : argsL.toArray = as) (hlen : ∀ sig, parseMethodDescriptor y.desc = some sig → argsL.length = sig.parameters.length) (hst : st = argsL.reverse ++ rest) (hW : (rest.map fun v => v.category).sum ≤ W) (hf : rm.frames + 1 ≤ R.frames) (hlo : W + (maxL + 11) + rm.locals ≤ R.locals) (hcl : cells + rm.cells ≤ R.cells) (hsl : slots + rm.slots ≤ R.slots) (hsz : Ls.size = c.maxLocals) (hd : decode c.code pc = .ok (.invokestatic i, 3)) (k : ∀ T' L v, Stand p l e R s m args below meth c T' (locs ++ L) (cells + rm.cells) (slots + rm.slots) → Q' v T'.heap L → Go p e below s Q rc rs (T'.setTop (mkF m (pc + 3) Ls (v.toList ++ rest)))) : Go p e below s Q rc rs (T.setTop (mkF m pc Ls st)) := by
  subst hst has
  obtain ⟨_, _, ⟨T', L', k', n'⟩, -, X', ⟨Lc, hQ, e1, e2, e3⟩, stp⟩ := Jvm.LawKit.callS X hx (y := y) hown (mvT hZ w1) (mvT hZ w2) (mvT hZ w3) (mvT hZ w4) hy (backOf (W := W) hM hZ w4 w3 hf hlo) (g := mkF m pc Ls (argsL.reverse ++ rest)) rfl hsz (argsL := argsL) (rest := rest) hlen rfl (by show 2 * 0 + _ ≤ _; omega) hd (fun _ _ => ⟨rfl, eT, hcl, hsl⟩)
  dsimp only [Pt.U, Pt.locs, Pt.cells, Pt.slots] at X' e1 e2 e3 stp hQ
  subst e1 e2 e3
  exact (k _ _ _ X' hQ).by stp
theorem g_callI (X : Stand p l e R s m args below meth c T locs cells slots) (hx : p.tables.exec = Jvm.exec) (hZ : Z.Warmed39 s.vm) {own : String} {i : Nat} {y : MethodName} {bytes : ByteArray} {maxL : Nat} {rm : Room} {as : Array Value} {Q' : Option Value → Heap → List Loc → Prop} (hy1 : y.name = "<init>") (hown : s.vm.findClass own = some m.cls) (w1 : (Jvm.Cond.methodLink own i y).before a0 Z = true) (w2 : (Jvm.Cond.instanceMethod y).before a0 Z = true) (w3 : (Jvm.Cond.initialized y.cls).before a0 Z = true) (w4 : (Jvm.Cond.code y bytes maxL none).before a0 Z = true) (hy : y.cls ≠ "java/lang/invoke/MethodHandle" ∧ y.cls ≠ "java/lang/invoke/VarHandle") (eT : T.heap = h) (hM : MetFree l y (head1 [Jvm.Cond.code y bytes maxL none] rm) (fun a U => a = as ∧ Z.Warmed39 U.vm ∧ U.heap = h) (fun _ _ _ _ _ => True) (fun _ U o U' => ∃ v L, o = .returned v ∧ Q' v U'.heap L ∧ FrameEnd U o U' L rm.cells rm.slots)) (b : Addr) (argsL rest : List Value) (W : Nat) (has : (.ref b :: argsL : List Value).toArray = as) (hlen : ∀ sig, parseMethodDescriptor y.desc = some sig → argsL.length = sig.parameters.length) (hst : st = argsL.reverse ++ .ref b :: rest) (hW : (rest.map fun v => v.category).sum ≤ W) (hf : rm.frames + 1 ≤ R.frames) (hlo : W + (maxL + 11) + rm.locals ≤ R.locals) (hcl : cells + rm.cells ≤ R.cells) (hsl : slots + rm.slots ≤ R.slots) (hsz : Ls.size = c.maxLocals) (hd : decode c.code pc = .ok (.invokespecial i, 3)) (k : ∀ T' L v, Stand p l e R s m args below meth c T' (locs ++ L) (cells + rm.cells) (slots + rm.slots) → Q' v T'.heap L → Go p e below s Q rc rs (T'.setTop (mkF m (pc + 3) Ls (v.toList ++ rest)))) : Go p e below s Q rc rs (T.setTop (mkF m pc Ls st)) := by
  subst hst has
  obtain ⟨_, _, ⟨T', L', k', n'⟩, -, X', ⟨Lc, hQ, e1, e2, e3⟩, stp⟩ := X.specialBack hx (y := y) hy1 hown (mvT hZ w1) (mvT hZ w2) (mvT hZ w4) hy (backOf (W := W) hM hZ w4 w3 hf hlo) (g := mkF m pc Ls (argsL.reverse ++ .ref b :: rest)) rfl hsz (Steps.refl _) (a := b) (argsL := argsL) (rest := rest) hlen rfl (by show 2 * 0 + _ ≤ _; omega) hd (fun _ _ => ⟨rfl, eT, hcl, hsl⟩)
  dsimp only [Pt.U, Pt.locs, Pt.cells, Pt.slots] at X' e1 e2 e3 stp hQ
  subst e1 e2 e3
  exact (k _ _ _ X' hQ).by fun t k => stp.trans k
theorem g_callV (X : Stand p l e R s m args below meth c T locs cells slots) (hx : p.tables.exec = Jvm.exec) (hZ : Z.Warmed39 s.vm) {own C : String} {i : Nat} {y : MethodName} {bytes : ByteArray} {maxL : Nat} {ret : Option FieldType} {rm : Room} {as : Array Value} {Q' : Option Value → Heap → List Loc → Prop} (hown : s.vm.findClass own = some m.cls) (w1 : (Jvm.Cond.methodLink own i y).before a0 Z = true) (w2 : (Jvm.Cond.declares y).before a0 Z = true) (w5 : (Jvm.Cond.selects C y y).before a0 Z = true) (w6 : (Jvm.Cond.instanceMethod y).before a0 Z = true) (w3 : (Jvm.Cond.initialized y.cls).before a0 Z = true) (w4 : (Jvm.Cond.code y bytes maxL ret).before a0 Z = true) (hy : y.cls ≠ "java/lang/invoke/MethodHandle" ∧ y.cls ≠ "java/lang/invoke/VarHandle") (eT : T.heap = h) (b : Addr) (E : Exa Z h b C) (hM : MetFree l y (head1 [Jvm.Cond.code y bytes maxL ret] rm) (fun a U => a = as ∧ Z.Warmed39 U.vm ∧ U.heap = h) (fun _ _ _ _ _ => True) (fun _ U o U' => ∃ v L, o = .returned v ∧ Q' v U'.heap L ∧ FrameEnd U o U' L rm.cells rm.slots)) (argsL rest : List Value) (W : Nat) (has : (.ref b :: argsL : List Value).toArray = as) (hlen : ∀ sig, parseMethodDescriptor y.desc = some sig → argsL.length = sig.parameters.length) (hst : st = argsL.reverse ++ .ref b :: rest) (hW : (rest.map fun v => v.category).sum ≤ W) (hf : rm.frames + 1 ≤ R.frames) (hlo : W + (maxL + 11) + rm.locals ≤ R.locals) (hcl : cells + rm.cells ≤ R.cells) (hsl : slots + rm.slots ≤ R.slots) (hsz : Ls.size = c.maxLocals) (hd : decode c.code pc = .ok (.invokevirtual i, 3)) (k : ∀ T' L v, Stand p l e R s m args below meth c T' (locs ++ L) (cells + rm.cells) (slots + rm.slots) → Q' v T'.heap L → Go p e below s Q rc rs (T'.setTop (mkF m (pc + 3) Ls (v.toList ++ rest)))) : Go p e below s Q rc rs (T.setTop (mkF m pc Ls st)) := by
  subst hst has
  obtain ⟨cq, kq, qa, qb, qc⟩ := isOf hZ eT E
  obtain ⟨_, _, ⟨T', L', k', n'⟩, -, X', ⟨Lc, hQ, e1, e2, e3⟩, stp⟩ := X.virtualBack hx (y := y) (z := y) hown (mvT hZ w1) (mvT hZ w2) (notFace_of_selects (args := #[]) (mvT hZ w5)) (mvT hZ w5) (mvT hZ w6) hy (backOf (W := W) hM hZ w4 w3 hf hlo) qa qc (g := mkF m pc Ls (argsL.reverse ++ .ref b :: rest)) rfl hsz (Steps.refl _) (argsL := argsL) (rest := rest) hlen rfl (by show 2 * 0 + _ ≤ _; omega) hd (fun _ _ => ⟨rfl, eT, hcl, hsl⟩)
  dsimp only [Pt.U, Pt.locs, Pt.cells, Pt.slots] at X' e1 e2 e3 stp hQ
  subst e1 e2 e3
  exact (k _ _ _ X' hQ).by fun t k => stp.trans k
theorem g_callP (X : Stand p l e R s m args below meth c T locs cells slots) (hx : p.tables.exec = Jvm.exec) (hZ : Z.Warmed39 s.vm) {own C : String} {i : Nat} {y : MethodName} {bytes : ByteArray} {maxL : Nat} {ret : Option FieldType} {rm : Room} {as : Array Value} {Q' : Option Value → Heap → List Loc → Prop} (hown : s.vm.findClass own = some m.cls) (w1 : (Jvm.Cond.methodLink own i y).before a0 Z = true) (w2 : (Jvm.Cond.instanceMethod y).before a0 Z = true) (w5 : (Jvm.Cond.selects y.cls y y).before a0 Z = true) (w6 : (Jvm.Cond.privateMethod y).before a0 Z = true) (w3 : (Jvm.Cond.initialized y.cls).before a0 Z = true) (w4 : (Jvm.Cond.code y bytes maxL ret).before a0 Z = true) (hy : y.cls ≠ "java/lang/invoke/MethodHandle" ∧ y.cls ≠ "java/lang/invoke/VarHandle") (eT : T.heap = h) (b : Addr) (E : Exa Z h b C) (hM : MetFree l y (head1 [Jvm.Cond.code y bytes maxL ret] rm) (fun a U => a = as ∧ Z.Warmed39 U.vm ∧ U.heap = h) (fun _ _ _ _ _ => True) (fun _ U o U' => ∃ v L, o = .returned v ∧ Q' v U'.heap L ∧ FrameEnd U o U' L rm.cells rm.slots)) (argsL rest : List Value) (W : Nat) (has : (.ref b :: argsL : List Value).toArray = as) (hlen : ∀ sig, parseMethodDescriptor y.desc = some sig → argsL.length = sig.parameters.length) (hst : st = argsL.reverse ++ .ref b :: rest) (hW : (rest.map fun v => v.category).sum ≤ W) (hf : rm.frames + 1 ≤ R.frames) (hlo : W + (maxL + 11) + rm.locals ≤ R.locals) (hcl : cells + rm.cells ≤ R.cells) (hsl : slots + rm.slots ≤ R.slots) (hsz : Ls.size = c.maxLocals) (hd : decode c.code pc = .ok (.invokevirtual i, 3)) (k : ∀ T' L v, Stand p l e R s m args below meth c T' (locs ++ L) (cells + rm.cells) (slots + rm.slots) → Q' v T'.heap L → Go p e below s Q rc rs (T'.setTop (mkF m (pc + 3) Ls (v.toList ++ rest)))) : Go p e below s Q rc rs (T.setTop (mkF m pc Ls st)) := by
  subst hst has
  obtain ⟨cq, q, q'⟩ := E.cell
  obtain ⟨_, _, ⟨T', L', k', n'⟩, -, X', ⟨Lc, hQ, e1, e2, e3⟩, stp⟩ := X.privateBack hx (y := y) hown (mvT hZ w1) (mvT hZ w2) (mvT hZ w5) (Cond.privateMethod_at (mvP hZ w6 (args := #[]))) (mvT hZ w4) hy (backOf (W := W) hM hZ w4 w3 hf hlo) (g := mkF m pc Ls (argsL.reverse ++ .ref b :: rest)) rfl hsz (Steps.refl _) (a := b) (by rw [eT]; exact q) q' (argsL := argsL) (rest := rest) hlen rfl (by show 2 * 0 + _ ≤ _; omega) hd (fun _ _ => ⟨rfl, eT, hcl, hsl⟩)
  dsimp only [Pt.U, Pt.locs, Pt.cells, Pt.slots] at X' e1 e2 e3 stp hQ
  subst e1 e2 e3
  exact (k _ _ _ X' hQ).by fun t k => stp.trans k
theorem g_initO (X : Stand p l e R s m args below meth c T locs cells slots) (hx : p.tables.exec = Jvm.exec) (hZ : Z.Warmed39 s.vm) {own : String} {i : Nat} (hown : s.vm.findClass own = some m.cls) (w1 : (Jvm.Cond.methodLink own i Lib.objectInit).before a0 Z = true) (w2 : (Jvm.Cond.instanceMethod Lib.objectInit).before a0 Z = true) (w3 : (Jvm.Cond.code Lib.objectInit ⟨#[0xb1]⟩ 1 none).before a0 Z = true) (eT : T.heap = h) {b : Addr} (pc' : Nat) (hsz : Ls.size = c.maxLocals) (hd : decode c.code pc = .ok (.invokespecial i, 3)) (hf : 1 ≤ R.frames) (W : Nat) (hW : (st.map fun v => v.category).sum ≤ W) (hlo : W + 12 ≤ R.locals) (hp : pc + 3 = pc') (k : ∀ T', Stand p l e R s m args below meth c T' locs cells slots → T'.heap = h → Go p e below s Q rc rs (T'.setTop (mkF m pc' Ls st))) : Go p e below s Q rc rs (T.setTop (mkF m pc Ls (.ref b :: st))) := by
  subst hp
  obtain ⟨T', X', e', stp⟩ := initO X hx hZ hown w1 w2 w3 eT (g := mkF m pc Ls (.ref b :: st)) rfl hsz rfl hd hf (W := W) (by show 2 * 0 + _ ≤ _; omega) hlo
  exact (k _ X' e').by stp
theorem g_getF (X : Stand p l e R s m args below meth c T locs cells slots) (hx : p.tables.exec = Jvm.exec) (hZ : Z.Warmed39 s.vm) {own R0 O n d : String} {i : Nat} (hown : s.vm.findClass own = some m.cls) (w : (Jvm.Cond.fieldLink own i R0 n d).before a0 Z = true) (via : Via Z R0 O n d) (eT : T.heap = h) {b : Addr} {v : Value} (F : Fld Z h b O n d v) (pc' : Nat) (hd : decode c.code pc = .ok (.getfield i, 3)) (hp : pc + 3 = pc') (k : ∀ T', Stand p l e R s m args below meth c T' locs cells slots → T'.heap = h → Go p e below s Q rc rs (T'.setTop (mkF m pc' Ls (v :: st)))) : Go p e below s Q rc rs (T.setTop (mkF m pc Ls (.ref b :: st))) := by
  subst hp
  obtain ⟨T', X', e', stp⟩ := getF X hx hZ hown (host := "") (Or.inl w) via eT F (g := mkF m pc Ls (.ref b :: st)) rfl rfl hd
  exact (k _ X' e').by stp
theorem g_putF (X : Stand p l e R s m args below meth c T locs cells slots) (hx : p.tables.exec = Jvm.exec) (hZ : Z.Warmed39 s.vm) {own R0 O n d C : String} {i kk : Nat} {ty : FieldType} (hown : s.vm.findClass own = some m.cls) (w : (Jvm.Cond.fieldLink own i R0 n d).before a0 Z = true) (via : Via Z R0 O n d) (eT : T.heap = h) {b : Addr} {v old : Value} (F : Fld Z h b O n d old) (E : Exa Z h b C) (L : (Jvm.Cond.lays C O n d).before a0 Z = true ∨ ((Jvm.Cond.laysFinal C O n d).before a0 Z = true ∧ own = O ∧ meth.name = "<init>")) (wi : (Jvm.Cond.instantiable C kk).before a0 Z = true) (hty : parseFieldDescriptor d = some ty) (hn : narrow ty v = v) (hf : fits ty v = true) (pc' : Nat) (hd : decode c.code pc = .ok (.putfield i, 3)) (hp : pc + 3 = pc') (k : ∀ T' h', Stand p l e R s m args below meth c T' (locs ++ [⟨b, Jvm.RoadKit.slotOf Z O n d⟩]) cells slots → T'.heap = h' → Wr h h' b (Jvm.RoadKit.slotOf Z O n d) v → Go p e below s Q rc rs (T'.setTop (mkF m pc' Ls st))) : Go p e below s Q rc rs (T.setTop (mkF m pc Ls (v :: .ref b :: st))) := by
  subst hp
  obtain ⟨T', h', X', e', W', stp⟩ := putF X hx hZ hown (host := "") (Or.inl w) via eT F E L wi hty hn hf (g := mkF m pc Ls (v :: .ref b :: st)) rfl rfl hd
  exact (k _ _ X' e' W').by stp
theorem g_new (X : Stand p l e R s m args below meth c T locs cells slots) (hx : p.tables.exec = Jvm.exec) (hZ : Z.Warmed39 s.vm) {own C : String} {i n : Nat} (hown : s.vm.findClass own = some m.cls) (w : (Jvm.Cond.classLink own i C).before a0 Z = true) (wi : (Jvm.Cond.instantiable C n).before a0 Z = true) (wz : (Jvm.Cond.initialized C).before a0 Z = true) (eT : T.heap = h) (pc' : Nat) (hd : decode c.code pc = .ok (.new i, 3)) (hcl : cells + 1 ≤ R.cells) (hsl : slots + n ≤ R.slots) (hp : pc + 3 = pc') (k : ∀ T' h' b, b = h.size → Stand p l e R s m args below meth c T' locs (cells + 1) (slots + n) → T'.heap = h' → Ext h h' → Exa Z h' b C → (∀ {O nm d : String} {ty : FieldType}, Laid Z a0 C O nm d → parseFieldDescriptor d = some ty → Fld Z h' b O nm d (defaultValue ty)) → Go p e below s Q rc rs (T'.setTop (mkF m pc' Ls (.ref b :: st)))) : Go p e below s Q rc rs (T.setTop (mkF m pc Ls st)) := by
  subst hp
  obtain ⟨T', h', X', e', E', A', D', -, stp⟩ := newO X hx hZ hown w wi wz eT (g := mkF m pc Ls st) rfl hd hcl hsl
  exact (k _ _ _ rfl X' e' E' A' D').by stp
/-- an array of n places whose j-th holds f j -/
def AV (Z : State) (h : Heap) (a : Addr) (ty : FieldType) (n : Nat) (f : Nat → Value) : Prop := ∃ c : Cell, Arr Z h a c ty ∧ c.slots.size = n ∧ n < 2 ^ 31 ∧ ∀ j, j < n → c.slots[j]? = some (f j)
theorem AV.ext {h' : Heap} {a : Addr} {ty : FieldType} {n : Nat} {f : Nat → Value} (F : AV Z h a ty n f) (E : Ext h h') : AV Z h' a ty n f := by obtain ⟨c, A, r⟩ := F; exact ⟨c, A.ext E, r⟩
theorem AV.other {h' : Heap} {a b : Addr} {ty : FieldType} {n sl : Nat} {f : Nat → Value} {v : Value} (F : AV Z h a ty n f) (W : Wr h h' b sl v) (q : a ≠ b) : AV Z h' a ty n f := by obtain ⟨c, A, r⟩ := F; exact ⟨c, A.other W q, r⟩
theorem AV.keep {h' : Heap} {a : Addr} {ws : List Addr} {ty : FieldType} {n : Nat} {f : Nat → Value} (F : AV Z h a ty n f) (K : Keep h h' ws) (q : a ∉ ws) : AV Z h' a ty n f := by obtain ⟨c, A, r⟩ := F; exact ⟨c, ⟨K.2.1 a c A.1 q, A.2⟩, r⟩
theorem AV.lt {a : Addr} {ty : FieldType} {n : Nat} {f : Nat → Value} (F : AV Z h a ty n f) : a < h.size := by obtain ⟨c, A, -⟩ := F; exact A.lt
theorem AV.small {a : Addr} {ty : FieldType} {n : Nat} {f : Nat → Value} (F : AV Z h a ty n f) : n < 2 ^ 31 := by obtain ⟨c, -, -, q, -⟩ := F; exact q
theorem AV.congr {a : Addr} {ty : FieldType} {n : Nat} {f g : Nat → Value} (F : AV Z h a ty n f) (q : ∀ j, j < n → f j = g j) : AV Z h a ty n g := by obtain ⟨c, A, r1, r2, r3⟩ := F; exact ⟨c, A, r1, r2, fun j hj => by rw [r3 j hj, q j hj]⟩
theorem own_idx {j : Int32} {i : Nat} (q : j.toInt = i) : ¬ j < 0 ∧ j.toNatClampNeg = i := by
  refine ⟨?_, ?_⟩
  · rw [Int32.lt_iff_toInt_lt, q]; simp
  · show j.toInt.toNat = i; omega
theorem own_in {j : Int32} {i : Nat} {cl : Cell} (q : j.toInt = i) (hi : i < cl.slots.size) : ¬ (j < 0 ∨ cl.slots.size ≤ j.toNatClampNeg) := by
  obtain ⟨q1, q2⟩ := own_idx q
  rintro (z | z)
  · exact q1 z
  · omega
def upd {α : Type} (g : Nat → α) (j : Nat) (x : α) : Nat → α := fun q => if q = j then x else g q
def AI (Z : State) (h : Heap) (a : Addr) (n : Nat) (g : Nat → Int32) : Prop := AV Z h a .int n (fun j => .int (g j))
def AJ (Z : State) (h : Heap) (a : Addr) (n : Nat) (g : Nat → Int64) : Prop := AV Z h a .long n (fun j => .long (g j))
def AB (Z : State) (h : Heap) (a : Addr) (n : Nat) (g : Nat → Int32) : Prop := AV Z h a .byte n (fun j => .int (g j))
theorem nm0 {a : Addr} : a ∉ ([] : List Addr) := nofun
theorem nm1 {a b : Addr} {ws : List Addr} (q : a ≠ b) (r : a ∉ ws) : a ∉ b :: ws := fun z => by
  rcases List.mem_cons.mp z with z | z
  · exact q z
  · exact r z
theorem AI.ext {h' : Heap} {a : Addr} {n : Nat} {g : Nat → Int32} (F : AI Z h a n g) (E : Ext h h') : AI Z h' a n g := AV.ext F E
theorem AI.other {h' : Heap} {a b : Addr} {n sl : Nat} {g : Nat → Int32} {v : Value} (F : AI Z h a n g) (W : Wr h h' b sl v) (q : a ≠ b) : AI Z h' a n g := AV.other F W q
theorem AI.keep {h' : Heap} {a : Addr} {ws : List Addr} {n : Nat} {g : Nat → Int32} (F : AI Z h a n g) (K : Keep h h' ws) (q : a ∉ ws) : AI Z h' a n g := AV.keep F K q
theorem AI.lt {a : Addr} {n : Nat} {g : Nat → Int32} (F : AI Z h a n g) : a < h.size := AV.lt F
theorem AI.small {a : Addr} {n : Nat} {g : Nat → Int32} (F : AI Z h a n g) : n < 2 ^ 31 := AV.small F
theorem AI.congr {a : Addr} {n : Nat} {g g' : Nat → Int32} (F : AI Z h a n g) (q : ∀ j, j < n → g j = g' j) : AI Z h a n g' := AV.congr F fun j hj => by rw [q j hj]
theorem AJ.ext {h' : Heap} {a : Addr} {n : Nat} {g : Nat → Int64} (F : AJ Z h a n g) (E : Ext h h') : AJ Z h' a n g := AV.ext F E
theorem AJ.other {h' : Heap} {a b : Addr} {n sl : Nat} {g : Nat → Int64} {v : Value} (F : AJ Z h a n g) (W : Wr h h' b sl v) (q : a ≠ b) : AJ Z h' a n g := AV.other F W q
theorem AJ.keep {h' : Heap} {a : Addr} {ws : List Addr} {n : Nat} {g : Nat → Int64} (F : AJ Z h a n g) (K : Keep h h' ws) (q : a ∉ ws) : AJ Z h' a n g := AV.keep F K q
theorem AJ.lt {a : Addr} {n : Nat} {g : Nat → Int64} (F : AJ Z h a n g) : a < h.size := AV.lt F
theorem AJ.small {a : Addr} {n : Nat} {g : Nat → Int64} (F : AJ Z h a n g) : n < 2 ^ 31 := AV.small F
theorem AJ.congr {a : Addr} {n : Nat} {g g' : Nat → Int64} (F : AJ Z h a n g) (q : ∀ j, j < n → g j = g' j) : AJ Z h a n g' := AV.congr F fun j hj => by rw [q j hj]
theorem AB.ext {h' : Heap} {a : Addr} {n : Nat} {g : Nat → Int32} (F : AB Z h a n g) (E : Ext h h') : AB Z h' a n g := AV.ext F E
theorem AB.other {h' : Heap} {a b : Addr} {n sl : Nat} {g : Nat → Int32} {v : Value} (F : AB Z h a n g) (W : Wr h h' b sl v) (q : a ≠ b) : AB Z h' a n g := AV.other F W q
theorem AB.keep {h' : Heap} {a : Addr} {ws : List Addr} {n : Nat} {g : Nat → Int32} (F : AB Z h a n g) (K : Keep h h' ws) (q : a ∉ ws) : AB Z h' a n g := AV.keep F K q
theorem AB.lt {a : Addr} {n : Nat} {g : Nat → Int32} (F : AB Z h a n g) : a < h.size := AV.lt F
theorem AB.small {a : Addr} {n : Nat} {g : Nat → Int32} (F : AB Z h a n g) : n < 2 ^ 31 := AV.small F
theorem AB.congr {a : Addr} {n : Nat} {g g' : Nat → Int32} (F : AB Z h a n g) (q : ∀ j, j < n → g j = g' j) : AB Z h a n g' := AV.congr F fun j hj => by rw [q j hj]
theorem g_iaload (X : Stand p l e R s m args below meth c T locs cells slots) (hx : p.tables.exec = Jvm.exec) (hZ : Z.Warmed39 s.vm) (eT : T.heap = h) {b : Addr} {n : Nat} {g : Nat → Int32} (A : AI Z h b n g) {j : Int32} (jn : Nat) (hj : j.toInt = jn) (hlt : jn < n) (pc' : Nat) (hd : decode c.code pc = .ok (.iaload, 1)) (hp : pc + 1 = pc') (k : Go p e below s Q rc rs (T.setTop (mkF m pc' Ls (.int (g jn) :: st)))) : Go p e below s Q rc rs (T.setTop (mkF m pc Ls (.int j :: .ref b :: st))) := by
  subst hp
  obtain ⟨cl, A1, A2, A3, A4⟩ := A
  exact k.by fun t k => X.iaload hx (j := j) (by rw [eT]; exact A1.1) (State.isArrayOf_alike hZ.alike A1.2.1) A1.2.2 (own_in hj (by omega)) (by rw [(own_idx hj).2]; exact A4 _ hlt) (g := mkF m pc Ls (.int j :: .ref b :: st)) rfl rfl hd t k
theorem g_laload (X : Stand p l e R s m args below meth c T locs cells slots) (hx : p.tables.exec = Jvm.exec) (hZ : Z.Warmed39 s.vm) (eT : T.heap = h) {b : Addr} {n : Nat} {g : Nat → Int64} (A : AJ Z h b n g) {j : Int32} (jn : Nat) (hj : j.toInt = jn) (hlt : jn < n) (pc' : Nat) (hd : decode c.code pc = .ok (.laload, 1)) (hp : pc + 1 = pc') (k : Go p e below s Q rc rs (T.setTop (mkF m pc' Ls (.long (g jn) :: st)))) : Go p e below s Q rc rs (T.setTop (mkF m pc Ls (.int j :: .ref b :: st))) := by
  subst hp
  obtain ⟨cl, A1, A2, A3, A4⟩ := A
  exact k.by fun t k => X.laload hx (j := j) (by rw [eT]; exact A1.1) (State.isArrayOf_alike hZ.alike A1.2.1) A1.2.2 (own_in hj (by omega)) (by rw [(own_idx hj).2]; exact A4 _ hlt) (g := mkF m pc Ls (.int j :: .ref b :: st)) rfl rfl hd t k
theorem g_baload (X : Stand p l e R s m args below meth c T locs cells slots) (hx : p.tables.exec = Jvm.exec) (hZ : Z.Warmed39 s.vm) (eT : T.heap = h) {b : Addr} {n : Nat} {g : Nat → Int32} (A : AB Z h b n g) {j : Int32} (jn : Nat) (hj : j.toInt = jn) (hlt : jn < n) (pc' : Nat) (hd : decode c.code pc = .ok (.baload, 1)) (hp : pc + 1 = pc') (k : Go p e below s Q rc rs (T.setTop (mkF m pc' Ls (.int (g jn) :: st)))) : Go p e below s Q rc rs (T.setTop (mkF m pc Ls (.int j :: .ref b :: st))) := by
  subst hp
  obtain ⟨cl, A1, A2, A3, A4⟩ := A
  exact k.by fun t k => X.baloadBytes hx (j := j) (by rw [eT]; exact A1.1) (State.isArrayOf_alike hZ.alike A1.2.1) A1.2.2 (own_in hj (by omega)) (by rw [(own_idx hj).2]; exact A4 _ hlt) (g := mkF m pc Ls (.int j :: .ref b :: st)) rfl rfl hd t k
theorem g_iastore (X : Stand p l e R s m args below meth c T locs cells slots) (hx : p.tables.exec = Jvm.exec) (hZ : Z.Warmed39 s.vm) (eT : T.heap = h) {b : Addr} {n : Nat} {g : Nat → Int32} (A : AI Z h b n g) {j : Int32} {x : Int32} (jn : Nat) (hj : j.toInt = jn) (hlt : jn < n) (pc' : Nat) (hd : decode c.code pc = .ok (.iastore, 1)) (hp : pc + 1 = pc') (k : ∀ T' h', Stand p l e R s m args below meth c T' (locs ++ [⟨b, jn⟩]) cells slots → T'.heap = h' → Wr h h' b jn (.int x) → AI Z h' b n (upd g jn x) → Go p e below s Q rc rs (T'.setTop (mkF m pc' Ls st))) : Go p e below s Q rc rs (T.setTop (mkF m pc Ls (.int x :: .int j :: .ref b :: st))) := by
  subst hp
  obtain ⟨cl, A1, A2, A3, A4⟩ := A
  obtain ⟨T', h', X', e', W', stp⟩ := stI X hx hZ eT A1 (j := j) (x := x) (own_in hj (by omega)) (g := mkF m pc Ls (.int x :: .int j :: .ref b :: st)) rfl rfl hd
  rw [(own_idx hj).2] at X' W'
  refine (k _ _ X' e' W' ⟨_, A1.same W', by rw [sz_set]; exact A2, A3, fun q hq => ?_⟩).by stp
  by_cases z : q = jn
  · subst z; simp [Cell.setSlot, A2, hq, upd]; try rfl
  · simp only [upd, z, if_false]; rw [← A4 q hq]; simp only [Cell.setSlot]; rw [Array.getElem?_setIfInBounds_ne (Ne.symm z)]
theorem g_lastore (X : Stand p l e R s m args below meth c T locs cells slots) (hx : p.tables.exec = Jvm.exec) (hZ : Z.Warmed39 s.vm) (eT : T.heap = h) {b : Addr} {n : Nat} {g : Nat → Int64} (A : AJ Z h b n g) {j : Int32} {x : Int64} (jn : Nat) (hj : j.toInt = jn) (hlt : jn < n) (pc' : Nat) (hd : decode c.code pc = .ok (.lastore, 1)) (hp : pc + 1 = pc') (k : ∀ T' h', Stand p l e R s m args below meth c T' (locs ++ [⟨b, jn⟩]) cells slots → T'.heap = h' → Wr h h' b jn (.long x) → AJ Z h' b n (upd g jn x) → Go p e below s Q rc rs (T'.setTop (mkF m pc' Ls st))) : Go p e below s Q rc rs (T.setTop (mkF m pc Ls (.long x :: .int j :: .ref b :: st))) := by
  subst hp
  obtain ⟨cl, A1, A2, A3, A4⟩ := A
  obtain ⟨T', h', X', e', W', stp⟩ := stJ X hx hZ eT A1 (j := j) (x := x) (own_in hj (by omega)) (g := mkF m pc Ls (.long x :: .int j :: .ref b :: st)) rfl rfl hd
  rw [(own_idx hj).2] at X' W'
  refine (k _ _ X' e' W' ⟨_, A1.same W', by rw [sz_set]; exact A2, A3, fun q hq => ?_⟩).by stp
  by_cases z : q = jn
  · subst z; simp [Cell.setSlot, A2, hq, upd]; try rfl
  · simp only [upd, z, if_false]; rw [← A4 q hq]; simp only [Cell.setSlot]; rw [Array.getElem?_setIfInBounds_ne (Ne.symm z)]
theorem g_bastore (X : Stand p l e R s m args below meth c T locs cells slots) (hx : p.tables.exec = Jvm.exec) (hZ : Z.Warmed39 s.vm) (eT : T.heap = h) {b : Addr} {n : Nat} {g : Nat → Int32} (A : AB Z h b n g) {j : Int32} {x : Int32} (jn : Nat) (hj : j.toInt = jn) (hlt : jn < n) (pc' : Nat) (hd : decode c.code pc = .ok (.bastore, 1)) (hp : pc + 1 = pc') (k : ∀ T' h', Stand p l e R s m args below meth c T' (locs ++ [⟨b, jn⟩]) cells slots → T'.heap = h' → Wr h h' b jn (.int (nar .byte x)) → AB Z h' b n (upd g jn (i2bI x)) → Go p e below s Q rc rs (T'.setTop (mkF m pc' Ls st))) : Go p e below s Q rc rs (T.setTop (mkF m pc Ls (.int x :: .int j :: .ref b :: st))) := by
  subst hp
  obtain ⟨cl, A1, A2, A3, A4⟩ := A
  obtain ⟨T', h', X', e', W', stp⟩ := stB X hx hZ eT A1 (j := j) (x := x) (own_in hj (by omega)) (g := mkF m pc Ls (.int x :: .int j :: .ref b :: st)) rfl rfl hd
  rw [(own_idx hj).2] at X' W'
  refine (k _ _ X' e' W' ⟨_, A1.same W', by rw [sz_set]; exact A2, A3, fun q hq => ?_⟩).by stp
  by_cases z : q = jn
  · subst z; simp [Cell.setSlot, A2, hq, upd]; try rfl
  · simp only [upd, z, if_false]; rw [← A4 q hq]; simp only [Cell.setSlot]; rw [Array.getElem?_setIfInBounds_ne (Ne.symm z)]
theorem g_arraylengthI (X : Stand p l e R s m args below meth c T locs cells slots) (hx : p.tables.exec = Jvm.exec) (hZ : Z.Warmed39 s.vm) (eT : T.heap = h) {b : Addr} {n : Nat} {g : Nat → Int32} (A : AI Z h b n g) (v : Int32) (hv : n.toInt32 = v) (pc' : Nat) (hd : decode c.code pc = .ok (.arraylength, 1)) (hp : pc + 1 = pc') (k : Go p e below s Q rc rs (T.setTop (mkF m pc' Ls (.int v :: st)))) : Go p e below s Q rc rs (T.setTop (mkF m pc Ls (.ref b :: st))) := by
  subst hp hv
  obtain ⟨cl, A1, A2, A3, A4⟩ := A
  subst A2
  exact k.by fun t k => X.arraylength hx (by rw [eT]; exact A1.1) (State.isArrayOf_alike hZ.alike A1.2.1) (g := mkF m pc Ls (.ref b :: st)) rfl rfl hd t k
theorem g_arraylengthJ (X : Stand p l e R s m args below meth c T locs cells slots) (hx : p.tables.exec = Jvm.exec) (hZ : Z.Warmed39 s.vm) (eT : T.heap = h) {b : Addr} {n : Nat} {g : Nat → Int64} (A : AJ Z h b n g) (v : Int32) (hv : n.toInt32 = v) (pc' : Nat) (hd : decode c.code pc = .ok (.arraylength, 1)) (hp : pc + 1 = pc') (k : Go p e below s Q rc rs (T.setTop (mkF m pc' Ls (.int v :: st)))) : Go p e below s Q rc rs (T.setTop (mkF m pc Ls (.ref b :: st))) := by
  subst hp hv
  obtain ⟨cl, A1, A2, A3, A4⟩ := A
  subst A2
  exact k.by fun t k => X.arraylength hx (by rw [eT]; exact A1.1) (State.isArrayOf_alike hZ.alike A1.2.1) (g := mkF m pc Ls (.ref b :: st)) rfl rfl hd t k
theorem g_arraylengthB (X : Stand p l e R s m args below meth c T locs cells slots) (hx : p.tables.exec = Jvm.exec) (hZ : Z.Warmed39 s.vm) (eT : T.heap = h) {b : Addr} {n : Nat} {g : Nat → Int32} (A : AB Z h b n g) (v : Int32) (hv : n.toInt32 = v) (pc' : Nat) (hd : decode c.code pc = .ok (.arraylength, 1)) (hp : pc + 1 = pc') (k : Go p e below s Q rc rs (T.setTop (mkF m pc' Ls (.int v :: st)))) : Go p e below s Q rc rs (T.setTop (mkF m pc Ls (.ref b :: st))) := by
  subst hp hv
  obtain ⟨cl, A1, A2, A3, A4⟩ := A
  subst A2
  exact k.by fun t k => X.arraylength hx (by rw [eT]; exact A1.1) (State.isArrayOf_alike hZ.alike A1.2.1) (g := mkF m pc Ls (.ref b :: st)) rfl rfl hd t k
theorem g_newarr (X : Stand p l e R s m args below meth c T locs cells slots) (hx : p.tables.exec = Jvm.exec) (hZ : Z.Warmed39 s.vm) {aty : ArrayType} (w : (Jvm.Cond.arrayClass (newarray.typeOf aty)).before a0 Z = true) (eT : T.heap = h) {n : Int32} (N cap : Nat) (hn : n.toInt = N) (hcap : N ≤ cap) (hb : cap * 8 ≤ 536870912) (pc' : Nat) (hd : decode c.code pc = .ok (.newarray aty, 2)) (hcl : cells + 1 ≤ R.cells) (hsl : slots + cap ≤ R.slots) (hp : pc + 2 = pc') (k : ∀ T' h' b, b = h.size → Stand p l e R s m args below meth c T' locs (cells + 1) (slots + cap) → T'.heap = h' → Ext h h' → AV Z h' b (newarray.typeOf aty) N (fun _ => defaultValue (newarray.typeOf aty)) → Go p e below s Q rc rs (T'.setTop (mkF m pc' Ls (.ref b :: st)))) : Go p e below s Q rc rs (T.setTop (mkF m pc Ls (.int n :: st))) := by
  subst hp
  obtain ⟨q1, q2⟩ := own_idx hn
  obtain ⟨T', h', kA, X', e', E', A', stp⟩ := newP X hx hZ w eT (g := mkF m pc Ls (.int n :: st)) rfl hd rfl q1 (cap := cap) (by rw [q2]; exact hcap) hb hcl hsl
  have hN : N < 2 ^ 31 := by have := n.toInt_lt; omega
  refine (k _ _ _ rfl X' e' E' ⟨_, A', by rw [sz_new, q2], hN, fun j hj => ?_⟩).by stp
  simp [newA, q2, hj]
theorem g_newarrayI (X : Stand p l e R s m args below meth c T locs cells slots) (hx : p.tables.exec = Jvm.exec) (hZ : Z.Warmed39 s.vm) (w : (Jvm.Cond.arrayClass .int).before a0 Z = true) (eT : T.heap = h) {n : Int32} (N cap : Nat) (hn : n.toInt = N) (hcap : N ≤ cap) (hb : cap * 8 ≤ 536870912) (pc' : Nat) (hd : decode c.code pc = .ok (.newarray .int, 2)) (hcl : cells + 1 ≤ R.cells) (hsl : slots + cap ≤ R.slots) (hp : pc + 2 = pc') (k : ∀ T' h' b, b = h.size → Stand p l e R s m args below meth c T' locs (cells + 1) (slots + cap) → T'.heap = h' → Ext h h' → AI Z h' b N (fun _ => (0 : Int32)) → Go p e below s Q rc rs (T'.setTop (mkF m pc' Ls (.ref b :: st)))) : Go p e below s Q rc rs (T.setTop (mkF m pc Ls (.int n :: st))) :=
  g_newarr X hx hZ (aty := .int) w eT N cap hn hcap hb pc' hd hcl hsl hp fun T' h' b q1 q2 q3 q4 q5 => k T' h' b q1 q2 q3 q4 q5
theorem g_newarrayJ (X : Stand p l e R s m args below meth c T locs cells slots) (hx : p.tables.exec = Jvm.exec) (hZ : Z.Warmed39 s.vm) (w : (Jvm.Cond.arrayClass .long).before a0 Z = true) (eT : T.heap = h) {n : Int32} (N cap : Nat) (hn : n.toInt = N) (hcap : N ≤ cap) (hb : cap * 8 ≤ 536870912) (pc' : Nat) (hd : decode c.code pc = .ok (.newarray .long, 2)) (hcl : cells + 1 ≤ R.cells) (hsl : slots + cap ≤ R.slots) (hp : pc + 2 = pc') (k : ∀ T' h' b, b = h.size → Stand p l e R s m args below meth c T' locs (cells + 1) (slots + cap) → T'.heap = h' → Ext h h' → AJ Z h' b N (fun _ => (0 : Int64)) → Go p e below s Q rc rs (T'.setTop (mkF m pc' Ls (.ref b :: st)))) : Go p e below s Q rc rs (T.setTop (mkF m pc Ls (.int n :: st))) :=
  g_newarr X hx hZ (aty := .long) w eT N cap hn hcap hb pc' hd hcl hsl hp fun T' h' b q1 q2 q3 q4 q5 => k T' h' b q1 q2 q3 q4 q5
theorem g_newarrayB (X : Stand p l e R s m args below meth c T locs cells slots) (hx : p.tables.exec = Jvm.exec) (hZ : Z.Warmed39 s.vm) (w : (Jvm.Cond.arrayClass .byte).before a0 Z = true) (eT : T.heap = h) {n : Int32} (N cap : Nat) (hn : n.toInt = N) (hcap : N ≤ cap) (hb : cap * 8 ≤ 536870912) (pc' : Nat) (hd : decode c.code pc = .ok (.newarray .byte, 2)) (hcl : cells + 1 ≤ R.cells) (hsl : slots + cap ≤ R.slots) (hp : pc + 2 = pc') (k : ∀ T' h' b, b = h.size → Stand p l e R s m args below meth c T' locs (cells + 1) (slots + cap) → T'.heap = h' → Ext h h' → AB Z h' b N (fun _ => (0 : Int32)) → Go p e below s Q rc rs (T'.setTop (mkF m pc' Ls (.ref b :: st)))) : Go p e below s Q rc rs (T.setTop (mkF m pc Ls (.int n :: st))) :=
  g_newarr X hx hZ (aty := .byte) w eT N cap hn hcap hb pc' hd hcl hsl hp fun T' h' b q1 q2 q3 q4 q5 => k T' h' b q1 q2 q3 q4 q5
end OwnKit
theorem own_add {x y : Int32} {i j : Nat} (h : x.toInt = i) (hy : y.toInt = j) (hb : i + j < 2 ^ 31) : (x + y).toInt = ((i + j : Nat) : Int) := by
  rw [Int32.toInt_add, h, hy]
  exact Int.bmod_eq_of_le (by omega) (by omega)
theorem own_last {x y : Int32} {i j : Nat} (h : x.toInt = i) (hy : y.toInt = j) (h1 : 1 ≤ j) (hb : i + j < 2 ^ 31) : ((x + y) - 1).toInt = ((i + (j - 1) : Nat) : Int) := by
  have a := own_add h hy hb
  have s := c_isub (x + y) 1
  have r := rng32 (x + y - 1)
  have e : (1 : Int32).toInt = 1 := rfl
  omega
theorem d1_0 : decode prog_41_method_8_code 0 = .ok (.iload_n 0, 1) := by decide +kernel
theorem d1_1 : decode prog_41_method_8_code 1 = .ok (.sipush 128, 3) := by decide +kernel
theorem d1_4 : decode prog_41_method_8_code 4 = .ok (.if_icmp .ge 13, 3) := by decide +kernel
theorem d1_7 : decode prog_41_method_8_code 7 = .ok (.aload_n 1, 1) := by decide +kernel
theorem d1_8 : decode prog_41_method_8_code 8 = .ok (.iload_n 2, 1) := by decide +kernel
theorem d1_9 : decode prog_41_method_8_code 9 = .ok (.iload_n 0, 1) := by decide +kernel
theorem d1_10 : decode prog_41_method_8_code 10 = .ok (.i2b, 1) := by decide +kernel
theorem d1_11 : decode prog_41_method_8_code 11 = .ok (.bastore, 1) := by decide +kernel
theorem d1_12 : decode prog_41_method_8_code 12 = .ok (.iconst 1, 1) := by decide +kernel
theorem d1_13 : decode prog_41_method_8_code 13 = .ok (.istore_n 3, 1) := by decide +kernel
theorem d1_14 : decode prog_41_method_8_code 14 = .ok (.goto 115, 3) := by decide +kernel
theorem d1_17 : decode prog_41_method_8_code 17 = .ok (.iload_n 0, 1) := by decide +kernel
theorem d1_18 : decode prog_41_method_8_code 18 = .ok (.sipush 2048, 3) := by decide +kernel
theorem d1_21 : decode prog_41_method_8_code 21 = .ok (.if_icmp .ge 20, 3) := by decide +kernel
theorem d1_24 : decode prog_41_method_8_code 24 = .ok (.aload_n 1, 1) := by decide +kernel
theorem d1_25 : decode prog_41_method_8_code 25 = .ok (.iload_n 2, 1) := by decide +kernel
theorem d1_26 : decode prog_41_method_8_code 26 = .ok (.sipush 192, 3) := by decide +kernel
theorem d1_29 : decode prog_41_method_8_code 29 = .ok (.iload_n 0, 1) := by decide +kernel
theorem d1_30 : decode prog_41_method_8_code 30 = .ok (.bipush 6, 2) := by decide +kernel
theorem d1_32 : decode prog_41_method_8_code 32 = .ok (.ishr, 1) := by decide +kernel
theorem d1_33 : decode prog_41_method_8_code 33 = .ok (.ior, 1) := by decide +kernel
theorem d1_34 : decode prog_41_method_8_code 34 = .ok (.i2b, 1) := by decide +kernel
theorem d1_35 : decode prog_41_method_8_code 35 = .ok (.bastore, 1) := by decide +kernel
theorem d1_36 : decode prog_41_method_8_code 36 = .ok (.iconst 2, 1) := by decide +kernel
theorem d1_37 : decode prog_41_method_8_code 37 = .ok (.istore_n 3, 1) := by decide +kernel
theorem d1_38 : decode prog_41_method_8_code 38 = .ok (.goto 91, 3) := by decide +kernel
theorem d1_41 : decode prog_41_method_8_code 41 = .ok (.iload_n 0, 1) := by decide +kernel
theorem d1_42 : decode prog_41_method_8_code 42 = .ok (.ldc 9, 2) := by decide +kernel
theorem d1_44 : decode prog_41_method_8_code 44 = .ok (.if_icmp .ge 37, 3) := by decide +kernel
theorem d1_47 : decode prog_41_method_8_code 47 = .ok (.aload_n 1, 1) := by decide +kernel
theorem d1_48 : decode prog_41_method_8_code 48 = .ok (.iload_n 2, 1) := by decide +kernel
theorem d1_49 : decode prog_41_method_8_code 49 = .ok (.sipush 224, 3) := by decide +kernel
theorem d1_52 : decode prog_41_method_8_code 52 = .ok (.iload_n 0, 1) := by decide +kernel
theorem d1_53 : decode prog_41_method_8_code 53 = .ok (.bipush 12, 2) := by decide +kernel
theorem d1_55 : decode prog_41_method_8_code 55 = .ok (.ishr, 1) := by decide +kernel
theorem d1_56 : decode prog_41_method_8_code 56 = .ok (.ior, 1) := by decide +kernel
theorem d1_57 : decode prog_41_method_8_code 57 = .ok (.i2b, 1) := by decide +kernel
theorem d1_58 : decode prog_41_method_8_code 58 = .ok (.bastore, 1) := by decide +kernel
theorem d1_59 : decode prog_41_method_8_code 59 = .ok (.aload_n 1, 1) := by decide +kernel
theorem d1_60 : decode prog_41_method_8_code 60 = .ok (.iload_n 2, 1) := by decide +kernel
theorem d1_61 : decode prog_41_method_8_code 61 = .ok (.iconst 1, 1) := by decide +kernel
theorem d1_62 : decode prog_41_method_8_code 62 = .ok (.iadd, 1) := by decide +kernel
theorem d1_63 : decode prog_41_method_8_code 63 = .ok (.sipush 128, 3) := by decide +kernel
theorem d1_66 : decode prog_41_method_8_code 66 = .ok (.iload_n 0, 1) := by decide +kernel
theorem d1_67 : decode prog_41_method_8_code 67 = .ok (.bipush 6, 2) := by decide +kernel
theorem d1_69 : decode prog_41_method_8_code 69 = .ok (.ishr, 1) := by decide +kernel
theorem d1_70 : decode prog_41_method_8_code 70 = .ok (.bipush 63, 2) := by decide +kernel
theorem d1_72 : decode prog_41_method_8_code 72 = .ok (.iand, 1) := by decide +kernel
theorem d1_73 : decode prog_41_method_8_code 73 = .ok (.ior, 1) := by decide +kernel
theorem d1_74 : decode prog_41_method_8_code 74 = .ok (.i2b, 1) := by decide +kernel
theorem d1_75 : decode prog_41_method_8_code 75 = .ok (.bastore, 1) := by decide +kernel
theorem d1_76 : decode prog_41_method_8_code 76 = .ok (.iconst 3, 1) := by decide +kernel
theorem d1_77 : decode prog_41_method_8_code 77 = .ok (.istore_n 3, 1) := by decide +kernel
theorem d1_78 : decode prog_41_method_8_code 78 = .ok (.goto 51, 3) := by decide +kernel
theorem d1_81 : decode prog_41_method_8_code 81 = .ok (.aload_n 1, 1) := by decide +kernel
theorem d1_82 : decode prog_41_method_8_code 82 = .ok (.iload_n 2, 1) := by decide +kernel
theorem d1_83 : decode prog_41_method_8_code 83 = .ok (.sipush 240, 3) := by decide +kernel
theorem d1_86 : decode prog_41_method_8_code 86 = .ok (.iload_n 0, 1) := by decide +kernel
theorem d1_87 : decode prog_41_method_8_code 87 = .ok (.bipush 18, 2) := by decide +kernel
theorem d1_89 : decode prog_41_method_8_code 89 = .ok (.ishr, 1) := by decide +kernel
theorem d1_90 : decode prog_41_method_8_code 90 = .ok (.ior, 1) := by decide +kernel
theorem d1_91 : decode prog_41_method_8_code 91 = .ok (.i2b, 1) := by decide +kernel
theorem d1_92 : decode prog_41_method_8_code 92 = .ok (.bastore, 1) := by decide +kernel
theorem d1_93 : decode prog_41_method_8_code 93 = .ok (.aload_n 1, 1) := by decide +kernel
theorem d1_94 : decode prog_41_method_8_code 94 = .ok (.iload_n 2, 1) := by decide +kernel
theorem d1_95 : decode prog_41_method_8_code 95 = .ok (.iconst 1, 1) := by decide +kernel
theorem d1_96 : decode prog_41_method_8_code 96 = .ok (.iadd, 1) := by decide +kernel
theorem d1_97 : decode prog_41_method_8_code 97 = .ok (.sipush 128, 3) := by decide +kernel
theorem d1_100 : decode prog_41_method_8_code 100 = .ok (.iload_n 0, 1) := by decide +kernel
theorem d1_101 : decode prog_41_method_8_code 101 = .ok (.bipush 12, 2) := by decide +kernel
theorem d1_103 : decode prog_41_method_8_code 103 = .ok (.ishr, 1) := by decide +kernel
theorem d1_104 : decode prog_41_method_8_code 104 = .ok (.bipush 63, 2) := by decide +kernel
theorem d1_106 : decode prog_41_method_8_code 106 = .ok (.iand, 1) := by decide +kernel
theorem d1_107 : decode prog_41_method_8_code 107 = .ok (.ior, 1) := by decide +kernel
theorem d1_108 : decode prog_41_method_8_code 108 = .ok (.i2b, 1) := by decide +kernel
theorem d1_109 : decode prog_41_method_8_code 109 = .ok (.bastore, 1) := by decide +kernel
theorem d1_110 : decode prog_41_method_8_code 110 = .ok (.aload_n 1, 1) := by decide +kernel
theorem d1_111 : decode prog_41_method_8_code 111 = .ok (.iload_n 2, 1) := by decide +kernel
theorem d1_112 : decode prog_41_method_8_code 112 = .ok (.iconst 2, 1) := by decide +kernel
theorem d1_113 : decode prog_41_method_8_code 113 = .ok (.iadd, 1) := by decide +kernel
theorem d1_114 : decode prog_41_method_8_code 114 = .ok (.sipush 128, 3) := by decide +kernel
theorem d1_117 : decode prog_41_method_8_code 117 = .ok (.iload_n 0, 1) := by decide +kernel
theorem d1_118 : decode prog_41_method_8_code 118 = .ok (.bipush 6, 2) := by decide +kernel
theorem d1_120 : decode prog_41_method_8_code 120 = .ok (.ishr, 1) := by decide +kernel
theorem d1_121 : decode prog_41_method_8_code 121 = .ok (.bipush 63, 2) := by decide +kernel
theorem d1_123 : decode prog_41_method_8_code 123 = .ok (.iand, 1) := by decide +kernel
theorem d1_124 : decode prog_41_method_8_code 124 = .ok (.ior, 1) := by decide +kernel
theorem d1_125 : decode prog_41_method_8_code 125 = .ok (.i2b, 1) := by decide +kernel
theorem d1_126 : decode prog_41_method_8_code 126 = .ok (.bastore, 1) := by decide +kernel
theorem d1_127 : decode prog_41_method_8_code 127 = .ok (.iconst 4, 1) := by decide +kernel
theorem d1_128 : decode prog_41_method_8_code 128 = .ok (.istore_n 3, 1) := by decide +kernel
theorem d1_129 : decode prog_41_method_8_code 129 = .ok (.iload_n 3, 1) := by decide +kernel
theorem d1_130 : decode prog_41_method_8_code 130 = .ok (.iconst 1, 1) := by decide +kernel
theorem d1_131 : decode prog_41_method_8_code 131 = .ok (.if_icmp .le 19, 3) := by decide +kernel
theorem d1_134 : decode prog_41_method_8_code 134 = .ok (.aload_n 1, 1) := by decide +kernel
theorem d1_135 : decode prog_41_method_8_code 135 = .ok (.iload_n 2, 1) := by decide +kernel
theorem d1_136 : decode prog_41_method_8_code 136 = .ok (.iload_n 3, 1) := by decide +kernel
theorem d1_137 : decode prog_41_method_8_code 137 = .ok (.iadd, 1) := by decide +kernel
theorem d1_138 : decode prog_41_method_8_code 138 = .ok (.iconst 1, 1) := by decide +kernel
theorem d1_139 : decode prog_41_method_8_code 139 = .ok (.isub, 1) := by decide +kernel
theorem d1_140 : decode prog_41_method_8_code 140 = .ok (.sipush 128, 3) := by decide +kernel
theorem d1_143 : decode prog_41_method_8_code 143 = .ok (.iload_n 0, 1) := by decide +kernel
theorem d1_144 : decode prog_41_method_8_code 144 = .ok (.bipush 63, 2) := by decide +kernel
theorem d1_146 : decode prog_41_method_8_code 146 = .ok (.iand, 1) := by decide +kernel
theorem d1_147 : decode prog_41_method_8_code 147 = .ok (.ior, 1) := by decide +kernel
theorem d1_148 : decode prog_41_method_8_code 148 = .ok (.i2b, 1) := by decide +kernel
theorem d1_149 : decode prog_41_method_8_code 149 = .ok (.bastore, 1) := by decide +kernel
theorem d1_150 : decode prog_41_method_8_code 150 = .ok (.iload_n 2, 1) := by decide +kernel
theorem d1_151 : decode prog_41_method_8_code 151 = .ok (.iload_n 3, 1) := by decide +kernel
theorem d1_152 : decode prog_41_method_8_code 152 = .ok (.iadd, 1) := by decide +kernel
theorem d1_153 : decode prog_41_method_8_code 153 = .ok (.ireturn, 1) := by decide +kernel
theorem pn_1 : plainName "com/example/strict_xmlns/strictxmlns/Utf8" = true := by first | (simp [plainName, overriddenIn]; done) | decide +kernel
theorem ef_1 (m : MethodId) (x0 : Int32) (x1 : Addr) (x2 : Int32) : entryFrame m #[(.int x0), (.ref x1), (.int x2)] 4 = mkF m 0 #[.val (.int x0), .val (.ref x1), .val (.int x2), .unset] [] := by first | (simp [entryFrame, mkF, argsToLocals, Value.category]; done) | rfl
def f1 (x0 : Int32) (x2 : Int32) : Int32 := if x0 < (128 : Int32) then (x2 + (1 : Int32)) else if x0 < (2048 : Int32) then (x2 + (2 : Int32)) else if x0 < (65536 : Int32) then (x2 + (3 : Int32)) else (x2 + (4 : Int32))
def g1_x1 (x0 : Int32) (g : Nat → Int32) (an : Nat) : Nat → Int32 := if x0 < (128 : Int32) then (upd g an (i2bI (i2bI x0))) else if x0 < (2048 : Int32) then (upd (upd g an (i2bI (i2bI ((192 : Int32) ||| (shrI x0 (6 : Int32)))))) (an + 1) (i2bI (i2bI ((128 : Int32) ||| (x0 &&& (63 : Int32)))))) else if x0 < (65536 : Int32) then (upd (upd (upd g an (i2bI (i2bI ((224 : Int32) ||| (shrI x0 (12 : Int32)))))) (an + 1) (i2bI (i2bI ((128 : Int32) ||| ((shrI x0 (6 : Int32)) &&& (63 : Int32)))))) (an + 2) (i2bI (i2bI ((128 : Int32) ||| (x0 &&& (63 : Int32)))))) else (upd (upd (upd (upd g an (i2bI (i2bI ((240 : Int32) ||| (shrI x0 (18 : Int32)))))) (an + 1) (i2bI (i2bI ((128 : Int32) ||| ((shrI x0 (12 : Int32)) &&& (63 : Int32)))))) (an + 2) (i2bI (i2bI ((128 : Int32) ||| ((shrI x0 (6 : Int32)) &&& (63 : Int32)))))) (an + 3) (i2bI (i2bI ((128 : Int32) ||| (x0 &&& (63 : Int32))))))
def Q1 (Z : State) (x0 : Int32) (x1 : Addr) (x2 : Int32) (n : Nat) (g : Nat → Int32) (an : Nat) (h0 : Heap) (n0 : Nat) (v : Option Value) (h : Heap) (L : List Loc) : Prop := v = some (.int (f1 x0 x2)) ∧ Fr n0 L ∧ Keep h0 h [x1] ∧ AB Z h x1 n (g1_x1 x0 g an)
set_option maxRecDepth 65536 in
set_option maxHeartbeats 40000000 in
theorem rm1 (l : Launch) (Z : State) (a0 : Array Value) (hw : ∀ d ∈ tables_1, d.before a0 Z = true) (ws : List Jvm.Cond) (x0 : Int32) (x1 : Addr) (x2 : Int32) (n : Nat) (g : Nat → Int32) (an : Nat) (h0 : Heap) (n0 : Nat) (Z0 : n0 ≤ h0.size) (P0 : AB Z h0 x1 n g) (P1 : n0 ≤ x1) (ha : x2.toInt = an) (hn : an + 4 ≤ n) (hs : an < 1000) :
    MetFree l (⟨"com/example/strict_xmlns/strictxmlns/Utf8", "encode", "(I[BI)I"⟩ : MethodName) (head1 (Jvm.Cond.code (⟨"com/example/strict_xmlns/strictxmlns/Utf8", "encode", "(I[BI)I"⟩ : MethodName) prog_41_method_8_code 4 (some .int) :: ws) ({ frames := 0, cells := 0, slots := 0, locals := 0 } : Room)) (fun a U => a = #[(.int x0), (.ref x1), (.int x2)] ∧ Z.Warmed39 U.vm ∧ U.heap = h0) (fun _ _ _ _ _ => True) (fun _ U o U' => ∃ v L, o = .returned v ∧ Q1 Z x0 x1 x2 n g an h0 n0 v U'.heap L ∧ FrameEnd U o U' L ({ frames := 0, cells := 0, slots := 0, locals := 0 } : Room).cells ({ frames := 0, cells := 0, slots := 0, locals := 0 } : Room).slots) := by
  refine g_body (plainFor_of_name pn_1) ?_
  intro p e s m below meth c T0 X0 hx hby hml hret hlk hown hnm hZ e0
  rw [ef_1]
  have N0 := Fr.nil n0
  show Go p e below s _ _ _ (T0.setTop (mkF m 0 #[.val (.int x0), .val (.ref x1), .val (.int x2), .unset] []))
  refine g_iloadN X0 hx 1 (hb hby d1_0) rfl rfl ?_
  show Go p e below s _ _ _ (T0.setTop (mkF m 1 #[.val (.int x0), .val (.ref x1), .val (.int x2), .unset] [(.int x0)]))
  refine g_sipush X0 hx (128 : Int32) 4 (hb hby d1_1) rfl rfl ?_
  show Go p e below s _ _ _ (T0.setTop (mkF m 4 #[.val (.int x0), .val (.ref x1), .val (.int x2), .unset] [(.int (128 : Int32)), (.int x0)]))
  refine g_icmp_ge X0 hx 17 7 (hb hby d1_4) (by decide) rfl rfl (fun h1 => ?_) (fun h1 => ?_)
  · show Go p e below s _ _ _ (T0.setTop (mkF m 7 #[.val (.int x0), .val (.ref x1), .val (.int x2), .unset] []))
    refine g_aloadN X0 hx 8 (hb hby d1_7) rfl rfl rfl ?_
    show Go p e below s _ _ _ (T0.setTop (mkF m 8 #[.val (.int x0), .val (.ref x1), .val (.int x2), .unset] [(.ref x1)]))
    refine g_iloadN X0 hx 9 (hb hby d1_8) rfl rfl ?_
    show Go p e below s _ _ _ (T0.setTop (mkF m 9 #[.val (.int x0), .val (.ref x1), .val (.int x2), .unset] [(.int x2), (.ref x1)]))
    refine g_iloadN X0 hx 10 (hb hby d1_9) rfl rfl ?_
    show Go p e below s _ _ _ (T0.setTop (mkF m 10 #[.val (.int x0), .val (.ref x1), .val (.int x2), .unset] [(.int x0), (.int x2), (.ref x1)]))
    refine g_i2b X0 hx 11 (hb hby d1_10) rfl ?_
    show Go p e below s _ _ _ (T0.setTop (mkF m 11 #[.val (.int x0), .val (.ref x1), .val (.int x2), .unset] [(.int (i2bI x0)), (.int x2), (.ref x1)]))
    refine g_bastore X0 hx hZ e0 P0 an ha (by omega) 12 (hb hby d1_11) rfl ?_
    intro T2 h2 X2 e2 W2 A2
    have K2 := (Keep.refl h0 [x1]).wr W2 (Or.inl (List.mem_of_getElem? (i := 0) rfl))
    have N2 := Fr.snoc X2 N0 P1
    have Z2 : n0 ≤ h2.size := by rw [W2.size]; exact Z0
    show Go p e below s _ _ _ (T2.setTop (mkF m 12 #[.val (.int x0), .val (.ref x1), .val (.int x2), .unset] []))
    refine g_iconst X2 hx (1 : Int32) 13 (hb hby d1_12) rfl rfl ?_
    show Go p e below s _ _ _ (T2.setTop (mkF m 13 #[.val (.int x0), .val (.ref x1), .val (.int x2), .unset] [(.int (1 : Int32))]))
    refine g_istoreN X2 hx #[.val (.int x0), .val (.ref x1), .val (.int x2), .val (.int (1 : Int32))] 14 (hb hby d1_13) rfl rfl ?_
    show Go p e below s _ _ _ (T2.setTop (mkF m 14 #[.val (.int x0), .val (.ref x1), .val (.int x2), .val (.int (1 : Int32))] []))
    refine g_goto X2 hx 129 (hb hby d1_14) (by decide) rfl ?_
    show Go p e below s _ _ _ (T2.setTop (mkF m 129 #[.val (.int x0), .val (.ref x1), .val (.int x2), .val (.int (1 : Int32))] []))
    refine g_iloadN X2 hx 130 (hb hby d1_129) rfl rfl ?_
    show Go p e below s _ _ _ (T2.setTop (mkF m 130 #[.val (.int x0), .val (.ref x1), .val (.int x2), .val (.int (1 : Int32))] [(.int (1 : Int32))]))
    refine g_iconst X2 hx (1 : Int32) 131 (hb hby d1_130) rfl rfl ?_
    show Go p e below s _ _ _ (T2.setTop (mkF m 131 #[.val (.int x0), .val (.ref x1), .val (.int x2), .val (.int (1 : Int32))] [(.int (1 : Int32)), (.int (1 : Int32))]))
    have h3 : ¬ ((1 : Int32) < (1 : Int32)) := by decide
    refine g_icmp_le X2 hx 150 134 (hb hby d1_131) (by decide) rfl rfl (fun q => absurd q h3) (fun _ => ?_)
    show Go p e below s _ _ _ (T2.setTop (mkF m 150 #[.val (.int x0), .val (.ref x1), .val (.int x2), .val (.int (1 : Int32))] []))
    refine g_iloadN X2 hx 151 (hb hby d1_150) rfl rfl ?_
    show Go p e below s _ _ _ (T2.setTop (mkF m 151 #[.val (.int x0), .val (.ref x1), .val (.int x2), .val (.int (1 : Int32))] [(.int x2)]))
    refine g_iloadN X2 hx 152 (hb hby d1_151) rfl rfl ?_
    show Go p e below s _ _ _ (T2.setTop (mkF m 152 #[.val (.int x0), .val (.ref x1), .val (.int x2), .val (.int (1 : Int32))] [(.int (1 : Int32)), (.int x2)]))
    refine g_iadd X2 hx 153 (hb hby d1_152) rfl ?_
    show Go p e below s _ _ _ (T2.setTop (mkF m 153 #[.val (.int x0), .val (.ref x1), .val (.int x2), .val (.int (1 : Int32))] [(.int (x2 + (1 : Int32)))]))
    exact g_retI X2 hx hret hlk (hb hby d1_153) (by decide) (by decide) (by rw [e2]; exact ⟨congrArg (fun z => some (Value.int z)) (show (x2 + (1 : Int32)) = (f1 x0 x2) from by rw [f1, if_pos h1]), N2, K2, (by rw [g1_x1, if_pos h1]; exact A2)⟩)
  · show Go p e below s _ _ _ (T0.setTop (mkF m 17 #[.val (.int x0), .val (.ref x1), .val (.int x2), .unset] []))
    refine g_iloadN X0 hx 18 (hb hby d1_17) rfl rfl ?_
    show Go p e below s _ _ _ (T0.setTop (mkF m 18 #[.val (.int x0), .val (.ref x1), .val (.int x2), .unset] [(.int x0)]))
    refine g_sipush X0 hx (2048 : Int32) 21 (hb hby d1_18) rfl rfl ?_
    show Go p e below s _ _ _ (T0.setTop (mkF m 21 #[.val (.int x0), .val (.ref x1), .val (.int x2), .unset] [(.int (2048 : Int32)), (.int x0)]))
    refine g_icmp_ge X0 hx 41 24 (hb hby d1_21) (by decide) rfl rfl (fun h4 => ?_) (fun h4 => ?_)
    · show Go p e below s _ _ _ (T0.setTop (mkF m 24 #[.val (.int x0), .val (.ref x1), .val (.int x2), .unset] []))
      refine g_aloadN X0 hx 25 (hb hby d1_24) rfl rfl rfl ?_
      show Go p e below s _ _ _ (T0.setTop (mkF m 25 #[.val (.int x0), .val (.ref x1), .val (.int x2), .unset] [(.ref x1)]))
      refine g_iloadN X0 hx 26 (hb hby d1_25) rfl rfl ?_
      show Go p e below s _ _ _ (T0.setTop (mkF m 26 #[.val (.int x0), .val (.ref x1), .val (.int x2), .unset] [(.int x2), (.ref x1)]))
      refine g_sipush X0 hx (192 : Int32) 29 (hb hby d1_26) rfl rfl ?_
      show Go p e below s _ _ _ (T0.setTop (mkF m 29 #[.val (.int x0), .val (.ref x1), .val (.int x2), .unset] [(.int (192 : Int32)), (.int x2), (.ref x1)]))
      refine g_iloadN X0 hx 30 (hb hby d1_29) rfl rfl ?_
      show Go p e below s _ _ _ (T0.setTop (mkF m 30 #[.val (.int x0), .val (.ref x1), .val (.int x2), .unset] [(.int x0), (.int (192 : Int32)), (.int x2), (.ref x1)]))
      refine g_bipush X0 hx (6 : Int32) 32 (hb hby d1_30) rfl rfl ?_
      show Go p e below s _ _ _ (T0.setTop (mkF m 32 #[.val (.int x0), .val (.ref x1), .val (.int x2), .unset] [(.int (6 : Int32)), (.int x0), (.int (192 : Int32)), (.int x2), (.ref x1)]))
      refine g_ishr X0 hx 33 (hb hby d1_32) rfl ?_
      show Go p e below s _ _ _ (T0.setTop (mkF m 33 #[.val (.int x0), .val (.ref x1), .val (.int x2), .unset] [(.int (shrI x0 (6 : Int32))), (.int (192 : Int32)), (.int x2), (.ref x1)]))
      refine g_ior X0 hx 34 (hb hby d1_33) rfl ?_
      show Go p e below s _ _ _ (T0.setTop (mkF m 34 #[.val (.int x0), .val (.ref x1), .val (.int x2), .unset] [(.int ((192 : Int32) ||| (shrI x0 (6 : Int32)))), (.int x2), (.ref x1)]))
      refine g_i2b X0 hx 35 (hb hby d1_34) rfl ?_
      show Go p e below s _ _ _ (T0.setTop (mkF m 35 #[.val (.int x0), .val (.ref x1), .val (.int x2), .unset] [(.int (i2bI ((192 : Int32) ||| (shrI x0 (6 : Int32))))), (.int x2), (.ref x1)]))
      refine g_bastore X0 hx hZ e0 P0 an ha (by omega) 36 (hb hby d1_35) rfl ?_
      intro T5 h5 X5 e5 W5 A5
      have K5 := (Keep.refl h0 [x1]).wr W5 (Or.inl (List.mem_of_getElem? (i := 0) rfl))
      have N5 := Fr.snoc X5 N0 P1
      have Z5 : n0 ≤ h5.size := by rw [W5.size]; exact Z0
      show Go p e below s _ _ _ (T5.setTop (mkF m 36 #[.val (.int x0), .val (.ref x1), .val (.int x2), .unset] []))
      refine g_iconst X5 hx (2 : Int32) 37 (hb hby d1_36) rfl rfl ?_
      show Go p e below s _ _ _ (T5.setTop (mkF m 37 #[.val (.int x0), .val (.ref x1), .val (.int x2), .unset] [(.int (2 : Int32))]))
      refine g_istoreN X5 hx #[.val (.int x0), .val (.ref x1), .val (.int x2), .val (.int (2 : Int32))] 38 (hb hby d1_37) rfl rfl ?_
      show Go p e below s _ _ _ (T5.setTop (mkF m 38 #[.val (.int x0), .val (.ref x1), .val (.int x2), .val (.int (2 : Int32))] []))
      refine g_goto X5 hx 129 (hb hby d1_38) (by decide) rfl ?_
      show Go p e below s _ _ _ (T5.setTop (mkF m 129 #[.val (.int x0), .val (.ref x1), .val (.int x2), .val (.int (2 : Int32))] []))
      refine g_iloadN X5 hx 130 (hb hby d1_129) rfl rfl ?_
      show Go p e below s _ _ _ (T5.setTop (mkF m 130 #[.val (.int x0), .val (.ref x1), .val (.int x2), .val (.int (2 : Int32))] [(.int (2 : Int32))]))
      refine g_iconst X5 hx (1 : Int32) 131 (hb hby d1_130) rfl rfl ?_
      show Go p e below s _ _ _ (T5.setTop (mkF m 131 #[.val (.int x0), .val (.ref x1), .val (.int x2), .val (.int (2 : Int32))] [(.int (1 : Int32)), (.int (2 : Int32))]))
      have h6 : (1 : Int32) < (2 : Int32) := by decide
      refine g_icmp_le X5 hx 150 134 (hb hby d1_131) (by decide) rfl rfl (fun _ => ?_) (fun q => absurd h6 q)
      show Go p e below s _ _ _ (T5.setTop (mkF m 134 #[.val (.int x0), .val (.ref x1), .val (.int x2), .val (.int (2 : Int32))] []))
      refine g_aloadN X5 hx 135 (hb hby d1_134) rfl rfl rfl ?_
      show Go p e below s _ _ _ (T5.setTop (mkF m 135 #[.val (.int x0), .val (.ref x1), .val (.int x2), .val (.int (2 : Int32))] [(.ref x1)]))
      refine g_iloadN X5 hx 136 (hb hby d1_135) rfl rfl ?_
      show Go p e below s _ _ _ (T5.setTop (mkF m 136 #[.val (.int x0), .val (.ref x1), .val (.int x2), .val (.int (2 : Int32))] [(.int x2), (.ref x1)]))
      refine g_iloadN X5 hx 137 (hb hby d1_136) rfl rfl ?_
      show Go p e below s _ _ _ (T5.setTop (mkF m 137 #[.val (.int x0), .val (.ref x1), .val (.int x2), .val (.int (2 : Int32))] [(.int (2 : Int32)), (.int x2), (.ref x1)]))
      refine g_iadd X5 hx 138 (hb hby d1_137) rfl ?_
      show Go p e below s _ _ _ (T5.setTop (mkF m 138 #[.val (.int x0), .val (.ref x1), .val (.int x2), .val (.int (2 : Int32))] [(.int (x2 + (2 : Int32))), (.ref x1)]))
      refine g_iconst X5 hx (1 : Int32) 139 (hb hby d1_138) rfl rfl ?_
      show Go p e below s _ _ _ (T5.setTop (mkF m 139 #[.val (.int x0), .val (.ref x1), .val (.int x2), .val (.int (2 : Int32))] [(.int (1 : Int32)), (.int (x2 + (2 : Int32))), (.ref x1)]))
      refine g_isub X5 hx 140 (hb hby d1_139) rfl ?_
      show Go p e below s _ _ _ (T5.setTop (mkF m 140 #[.val (.int x0), .val (.ref x1), .val (.int x2), .val (.int (2 : Int32))] [(.int ((x2 + (2 : Int32)) - (1 : Int32))), (.ref x1)]))
      refine g_sipush X5 hx (128 : Int32) 143 (hb hby d1_140) rfl rfl ?_
      show Go p e below s _ _ _ (T5.setTop (mkF m 143 #[.val (.int x0), .val (.ref x1), .val (.int x2), .val (.int (2 : Int32))] [(.int (128 : Int32)), (.int ((x2 + (2 : Int32)) - (1 : Int32))), (.ref x1)]))
      refine g_iloadN X5 hx 144 (hb hby d1_143) rfl rfl ?_
      show Go p e below s _ _ _ (T5.setTop (mkF m 144 #[.val (.int x0), .val (.ref x1), .val (.int x2), .val (.int (2 : Int32))] [(.int x0), (.int (128 : Int32)), (.int ((x2 + (2 : Int32)) - (1 : Int32))), (.ref x1)]))
      refine g_bipush X5 hx (63 : Int32) 146 (hb hby d1_144) rfl rfl ?_
      show Go p e below s _ _ _ (T5.setTop (mkF m 146 #[.val (.int x0), .val (.ref x1), .val (.int x2), .val (.int (2 : Int32))] [(.int (63 : Int32)), (.int x0), (.int (128 : Int32)), (.int ((x2 + (2 : Int32)) - (1 : Int32))), (.ref x1)]))
      refine g_iand X5 hx 147 (hb hby d1_146) rfl ?_
      show Go p e below s _ _ _ (T5.setTop (mkF m 147 #[.val (.int x0), .val (.ref x1), .val (.int x2), .val (.int (2 : Int32))] [(.int (x0 &&& (63 : Int32))), (.int (128 : Int32)), (.int ((x2 + (2 : Int32)) - (1 : Int32))), (.ref x1)]))
      refine g_ior X5 hx 148 (hb hby d1_147) rfl ?_
      show Go p e below s _ _ _ (T5.setTop (mkF m 148 #[.val (.int x0), .val (.ref x1), .val (.int x2), .val (.int (2 : Int32))] [(.int ((128 : Int32) ||| (x0 &&& (63 : Int32)))), (.int ((x2 + (2 : Int32)) - (1 : Int32))), (.ref x1)]))
      refine g_i2b X5 hx 149 (hb hby d1_148) rfl ?_
      show Go p e below s _ _ _ (T5.setTop (mkF m 149 #[.val (.int x0), .val (.ref x1), .val (.int x2), .val (.int (2 : Int32))] [(.int (i2bI ((128 : Int32) ||| (x0 &&& (63 : Int32))))), (.int ((x2 + (2 : Int32)) - (1 : Int32))), (.ref x1)]))
      refine g_bastore X5 hx hZ e5 A5 (an + 1) (own_last ha (j := 2) rfl (by decide) (by omega)) (by omega) 150 (hb hby d1_149) rfl ?_
      intro T7 h7 X7 e7 W7 A7
      have K7 := K5.wr W7 (Or.inl (List.mem_of_getElem? (i := 0) rfl))
      have N7 := Fr.snoc X7 N5 P1
      have Z7 : n0 ≤ h7.size := by rw [W7.size]; exact Z5
      show Go p e below s _ _ _ (T7.setTop (mkF m 150 #[.val (.int x0), .val (.ref x1), .val (.int x2), .val (.int (2 : Int32))] []))
      refine g_iloadN X7 hx 151 (hb hby d1_150) rfl rfl ?_
      show Go p e below s _ _ _ (T7.setTop (mkF m 151 #[.val (.int x0), .val (.ref x1), .val (.int x2), .val (.int (2 : Int32))] [(.int x2)]))
      refine g_iloadN X7 hx 152 (hb hby d1_151) rfl rfl ?_
      show Go p e below s _ _ _ (T7.setTop (mkF m 152 #[.val (.int x0), .val (.ref x1), .val (.int x2), .val (.int (2 : Int32))] [(.int (2 : Int32)), (.int x2)]))
      refine g_iadd X7 hx 153 (hb hby d1_152) rfl ?_
      show Go p e below s _ _ _ (T7.setTop (mkF m 153 #[.val (.int x0), .val (.ref x1), .val (.int x2), .val (.int (2 : Int32))] [(.int (x2 + (2 : Int32)))]))
      exact g_retI X7 hx hret hlk (hb hby d1_153) (by decide) (by decide) (by rw [e7]; exact ⟨congrArg (fun z => some (Value.int z)) (show (x2 + (2 : Int32)) = (f1 x0 x2) from by rw [f1, if_neg h1, if_pos h4]), N7, K7, (by rw [g1_x1, if_neg h1, if_pos h4]; exact A7)⟩)
    · show Go p e below s _ _ _ (T0.setTop (mkF m 41 #[.val (.int x0), .val (.ref x1), .val (.int x2), .unset] []))
      refine g_iloadN X0 hx 42 (hb hby d1_41) rfl rfl ?_
      show Go p e below s _ _ _ (T0.setTop (mkF m 42 #[.val (.int x0), .val (.ref x1), .val (.int x2), .unset] [(.int x0)]))
      refine g_ldc X0 hx hZ hown (hw _ (List.mem_of_getElem? (i := 15) rfl)) 44 (hb hby d1_42) rfl ?_
      show Go p e below s _ _ _ (T0.setTop (mkF m 44 #[.val (.int x0), .val (.ref x1), .val (.int x2), .unset] [(.int (65536 : Int32)), (.int x0)]))
      refine g_icmp_ge X0 hx 81 47 (hb hby d1_44) (by decide) rfl rfl (fun h8 => ?_) (fun h8 => ?_)
      · show Go p e below s _ _ _ (T0.setTop (mkF m 47 #[.val (.int x0), .val (.ref x1), .val (.int x2), .unset] []))
        refine g_aloadN X0 hx 48 (hb hby d1_47) rfl rfl rfl ?_
        show Go p e below s _ _ _ (T0.setTop (mkF m 48 #[.val (.int x0), .val (.ref x1), .val (.int x2), .unset] [(.ref x1)]))
        refine g_iloadN X0 hx 49 (hb hby d1_48) rfl rfl ?_
        show Go p e below s _ _ _ (T0.setTop (mkF m 49 #[.val (.int x0), .val (.ref x1), .val (.int x2), .unset] [(.int x2), (.ref x1)]))
        refine g_sipush X0 hx (224 : Int32) 52 (hb hby d1_49) rfl rfl ?_
        show Go p e below s _ _ _ (T0.setTop (mkF m 52 #[.val (.int x0), .val (.ref x1), .val (.int x2), .unset] [(.int (224 : Int32)), (.int x2), (.ref x1)]))
        refine g_iloadN X0 hx 53 (hb hby d1_52) rfl rfl ?_
        show Go p e below s _ _ _ (T0.setTop (mkF m 53 #[.val (.int x0), .val (.ref x1), .val (.int x2), .unset] [(.int x0), (.int (224 : Int32)), (.int x2), (.ref x1)]))
        refine g_bipush X0 hx (12 : Int32) 55 (hb hby d1_53) rfl rfl ?_
        show Go p e below s _ _ _ (T0.setTop (mkF m 55 #[.val (.int x0), .val (.ref x1), .val (.int x2), .unset] [(.int (12 : Int32)), (.int x0), (.int (224 : Int32)), (.int x2), (.ref x1)]))
        refine g_ishr X0 hx 56 (hb hby d1_55) rfl ?_
        show Go p e below s _ _ _ (T0.setTop (mkF m 56 #[.val (.int x0), .val (.ref x1), .val (.int x2), .unset] [(.int (shrI x0 (12 : Int32))), (.int (224 : Int32)), (.int x2), (.ref x1)]))
        refine g_ior X0 hx 57 (hb hby d1_56) rfl ?_
        show Go p e below s _ _ _ (T0.setTop (mkF m 57 #[.val (.int x0), .val (.ref x1), .val (.int x2), .unset] [(.int ((224 : Int32) ||| (shrI x0 (12 : Int32)))), (.int x2), (.ref x1)]))
        refine g_i2b X0 hx 58 (hb hby d1_57) rfl ?_
        show Go p e below s _ _ _ (T0.setTop (mkF m 58 #[.val (.int x0), .val (.ref x1), .val (.int x2), .unset] [(.int (i2bI ((224 : Int32) ||| (shrI x0 (12 : Int32))))), (.int x2), (.ref x1)]))
        refine g_bastore X0 hx hZ e0 P0 an ha (by omega) 59 (hb hby d1_58) rfl ?_
        intro T9 h9 X9 e9 W9 A9
        have K9 := (Keep.refl h0 [x1]).wr W9 (Or.inl (List.mem_of_getElem? (i := 0) rfl))
        have N9 := Fr.snoc X9 N0 P1
        have Z9 : n0 ≤ h9.size := by rw [W9.size]; exact Z0
        show Go p e below s _ _ _ (T9.setTop (mkF m 59 #[.val (.int x0), .val (.ref x1), .val (.int x2), .unset] []))
        refine g_aloadN X9 hx 60 (hb hby d1_59) rfl rfl rfl ?_
        show Go p e below s _ _ _ (T9.setTop (mkF m 60 #[.val (.int x0), .val (.ref x1), .val (.int x2), .unset] [(.ref x1)]))
        refine g_iloadN X9 hx 61 (hb hby d1_60) rfl rfl ?_
        show Go p e below s _ _ _ (T9.setTop (mkF m 61 #[.val (.int x0), .val (.ref x1), .val (.int x2), .unset] [(.int x2), (.ref x1)]))
        refine g_iconst X9 hx (1 : Int32) 62 (hb hby d1_61) rfl rfl ?_
        show Go p e below s _ _ _ (T9.setTop (mkF m 62 #[.val (.int x0), .val (.ref x1), .val (.int x2), .unset] [(.int (1 : Int32)), (.int x2), (.ref x1)]))
        refine g_iadd X9 hx 63 (hb hby d1_62) rfl ?_
        show Go p e below s _ _ _ (T9.setTop (mkF m 63 #[.val (.int x0), .val (.ref x1), .val (.int x2), .unset] [(.int (x2 + (1 : Int32))), (.ref x1)]))
        refine g_sipush X9 hx (128 : Int32) 66 (hb hby d1_63) rfl rfl ?_
        show Go p e below s _ _ _ (T9.setTop (mkF m 66 #[.val (.int x0), .val (.ref x1), .val (.int x2), .unset] [(.int (128 : Int32)), (.int (x2 + (1 : Int32))), (.ref x1)]))
        refine g_iloadN X9 hx 67 (hb hby d1_66) rfl rfl ?_
        show Go p e below s _ _ _ (T9.setTop (mkF m 67 #[.val (.int x0), .val (.ref x1), .val (.int x2), .unset] [(.int x0), (.int (128 : Int32)), (.int (x2 + (1 : Int32))), (.ref x1)]))
        refine g_bipush X9 hx (6 : Int32) 69 (hb hby d1_67) rfl rfl ?_
        show Go p e below s _ _ _ (T9.setTop (mkF m 69 #[.val (.int x0), .val (.ref x1), .val (.int x2), .unset] [(.int (6 : Int32)), (.int x0), (.int (128 : Int32)), (.int (x2 + (1 : Int32))), (.ref x1)]))
        refine g_ishr X9 hx 70 (hb hby d1_69) rfl ?_
        show Go p e below s _ _ _ (T9.setTop (mkF m 70 #[.val (.int x0), .val (.ref x1), .val (.int x2), .unset] [(.int (shrI x0 (6 : Int32))), (.int (128 : Int32)), (.int (x2 + (1 : Int32))), (.ref x1)]))
        refine g_bipush X9 hx (63 : Int32) 72 (hb hby d1_70) rfl rfl ?_
        show Go p e below s _ _ _ (T9.setTop (mkF m 72 #[.val (.int x0), .val (.ref x1), .val (.int x2), .unset] [(.int (63 : Int32)), (.int (shrI x0 (6 : Int32))), (.int (128 : Int32)), (.int (x2 + (1 : Int32))), (.ref x1)]))
        refine g_iand X9 hx 73 (hb hby d1_72) rfl ?_
        show Go p e below s _ _ _ (T9.setTop (mkF m 73 #[.val (.int x0), .val (.ref x1), .val (.int x2), .unset] [(.int ((shrI x0 (6 : Int32)) &&& (63 : Int32))), (.int (128 : Int32)), (.int (x2 + (1 : Int32))), (.ref x1)]))
        refine g_ior X9 hx 74 (hb hby d1_73) rfl ?_
        show Go p e below s _ _ _ (T9.setTop (mkF m 74 #[.val (.int x0), .val (.ref x1), .val (.int x2), .unset] [(.int ((128 : Int32) ||| ((shrI x0 (6 : Int32)) &&& (63 : Int32)))), (.int (x2 + (1 : Int32))), (.ref x1)]))
        refine g_i2b X9 hx 75 (hb hby d1_74) rfl ?_
        show Go p e below s _ _ _ (T9.setTop (mkF m 75 #[.val (.int x0), .val (.ref x1), .val (.int x2), .unset] [(.int (i2bI ((128 : Int32) ||| ((shrI x0 (6 : Int32)) &&& (63 : Int32))))), (.int (x2 + (1 : Int32))), (.ref x1)]))
        refine g_bastore X9 hx hZ e9 A9 (an + 1) (own_add ha (j := 1) rfl (by omega)) (by omega) 76 (hb hby d1_75) rfl ?_
        intro T10 h10 X10 e10 W10 A10
        have K10 := K9.wr W10 (Or.inl (List.mem_of_getElem? (i := 0) rfl))
        have N10 := Fr.snoc X10 N9 P1
        have Z10 : n0 ≤ h10.size := by rw [W10.size]; exact Z9
        show Go p e below s _ _ _ (T10.setTop (mkF m 76 #[.val (.int x0), .val (.ref x1), .val (.int x2), .unset] []))
        refine g_iconst X10 hx (3 : Int32) 77 (hb hby d1_76) rfl rfl ?_
        show Go p e below s _ _ _ (T10.setTop (mkF m 77 #[.val (.int x0), .val (.ref x1), .val (.int x2), .unset] [(.int (3 : Int32))]))
        refine g_istoreN X10 hx #[.val (.int x0), .val (.ref x1), .val (.int x2), .val (.int (3 : Int32))] 78 (hb hby d1_77) rfl rfl ?_
        show Go p e below s _ _ _ (T10.setTop (mkF m 78 #[.val (.int x0), .val (.ref x1), .val (.int x2), .val (.int (3 : Int32))] []))
        refine g_goto X10 hx 129 (hb hby d1_78) (by decide) rfl ?_
        show Go p e below s _ _ _ (T10.setTop (mkF m 129 #[.val (.int x0), .val (.ref x1), .val (.int x2), .val (.int (3 : Int32))] []))
        refine g_iloadN X10 hx 130 (hb hby d1_129) rfl rfl ?_
        show Go p e below s _ _ _ (T10.setTop (mkF m 130 #[.val (.int x0), .val (.ref x1), .val (.int x2), .val (.int (3 : Int32))] [(.int (3 : Int32))]))
        refine g_iconst X10 hx (1 : Int32) 131 (hb hby d1_130) rfl rfl ?_
        show Go p e below s _ _ _ (T10.setTop (mkF m 131 #[.val (.int x0), .val (.ref x1), .val (.int x2), .val (.int (3 : Int32))] [(.int (1 : Int32)), (.int (3 : Int32))]))
        have h11 : (1 : Int32) < (3 : Int32) := by decide
        refine g_icmp_le X10 hx 150 134 (hb hby d1_131) (by decide) rfl rfl (fun _ => ?_) (fun q => absurd h11 q)
        show Go p e below s _ _ _ (T10.setTop (mkF m 134 #[.val (.int x0), .val (.ref x1), .val (.int x2), .val (.int (3 : Int32))] []))
        refine g_aloadN X10 hx 135 (hb hby d1_134) rfl rfl rfl ?_
        show Go p e below s _ _ _ (T10.setTop (mkF m 135 #[.val (.int x0), .val (.ref x1), .val (.int x2), .val (.int (3 : Int32))] [(.ref x1)]))
        refine g_iloadN X10 hx 136 (hb hby d1_135) rfl rfl ?_
        show Go p e below s _ _ _ (T10.setTop (mkF m 136 #[.val (.int x0), .val (.ref x1), .val (.int x2), .val (.int (3 : Int32))] [(.int x2), (.ref x1)]))
        refine g_iloadN X10 hx 137 (hb hby d1_136) rfl rfl ?_
        show Go p e below s _ _ _ (T10.setTop (mkF m 137 #[.val (.int x0), .val (.ref x1), .val (.int x2), .val (.int (3 : Int32))] [(.int (3 : Int32)), (.int x2), (.ref x1)]))
        refine g_iadd X10 hx 138 (hb hby d1_137) rfl ?_
        show Go p e below s _ _ _ (T10.setTop (mkF m 138 #[.val (.int x0), .val (.ref x1), .val (.int x2), .val (.int (3 : Int32))] [(.int (x2 + (3 : Int32))), (.ref x1)]))
        refine g_iconst X10 hx (1 : Int32) 139 (hb hby d1_138) rfl rfl ?_
        show Go p e below s _ _ _ (T10.setTop (mkF m 139 #[.val (.int x0), .val (.ref x1), .val (.int x2), .val (.int (3 : Int32))] [(.int (1 : Int32)), (.int (x2 + (3 : Int32))), (.ref x1)]))
        refine g_isub X10 hx 140 (hb hby d1_139) rfl ?_
        show Go p e below s _ _ _ (T10.setTop (mkF m 140 #[.val (.int x0), .val (.ref x1), .val (.int x2), .val (.int (3 : Int32))] [(.int ((x2 + (3 : Int32)) - (1 : Int32))), (.ref x1)]))
        refine g_sipush X10 hx (128 : Int32) 143 (hb hby d1_140) rfl rfl ?_
        show Go p e below s _ _ _ (T10.setTop (mkF m 143 #[.val (.int x0), .val (.ref x1), .val (.int x2), .val (.int (3 : Int32))] [(.int (128 : Int32)), (.int ((x2 + (3 : Int32)) - (1 : Int32))), (.ref x1)]))
        refine g_iloadN X10 hx 144 (hb hby d1_143) rfl rfl ?_
        show Go p e below s _ _ _ (T10.setTop (mkF m 144 #[.val (.int x0), .val (.ref x1), .val (.int x2), .val (.int (3 : Int32))] [(.int x0), (.int (128 : Int32)), (.int ((x2 + (3 : Int32)) - (1 : Int32))), (.ref x1)]))
        refine g_bipush X10 hx (63 : Int32) 146 (hb hby d1_144) rfl rfl ?_
        show Go p e below s _ _ _ (T10.setTop (mkF m 146 #[.val (.int x0), .val (.ref x1), .val (.int x2), .val (.int (3 : Int32))] [(.int (63 : Int32)), (.int x0), (.int (128 : Int32)), (.int ((x2 + (3 : Int32)) - (1 : Int32))), (.ref x1)]))
        refine g_iand X10 hx 147 (hb hby d1_146) rfl ?_
        show Go p e below s _ _ _ (T10.setTop (mkF m 147 #[.val (.int x0), .val (.ref x1), .val (.int x2), .val (.int (3 : Int32))] [(.int (x0 &&& (63 : Int32))), (.int (128 : Int32)), (.int ((x2 + (3 : Int32)) - (1 : Int32))), (.ref x1)]))
        refine g_ior X10 hx 148 (hb hby d1_147) rfl ?_
        show Go p e below s _ _ _ (T10.setTop (mkF m 148 #[.val (.int x0), .val (.ref x1), .val (.int x2), .val (.int (3 : Int32))] [(.int ((128 : Int32) ||| (x0 &&& (63 : Int32)))), (.int ((x2 + (3 : Int32)) - (1 : Int32))), (.ref x1)]))
        refine g_i2b X10 hx 149 (hb hby d1_148) rfl ?_
        show Go p e below s _ _ _ (T10.setTop (mkF m 149 #[.val (.int x0), .val (.ref x1), .val (.int x2), .val (.int (3 : Int32))] [(.int (i2bI ((128 : Int32) ||| (x0 &&& (63 : Int32))))), (.int ((x2 + (3 : Int32)) - (1 : Int32))), (.ref x1)]))
        refine g_bastore X10 hx hZ e10 A10 (an + 2) (own_last ha (j := 3) rfl (by decide) (by omega)) (by omega) 150 (hb hby d1_149) rfl ?_
        intro T12 h12 X12 e12 W12 A12
        have K12 := K10.wr W12 (Or.inl (List.mem_of_getElem? (i := 0) rfl))
        have N12 := Fr.snoc X12 N10 P1
        have Z12 : n0 ≤ h12.size := by rw [W12.size]; exact Z10
        show Go p e below s _ _ _ (T12.setTop (mkF m 150 #[.val (.int x0), .val (.ref x1), .val (.int x2), .val (.int (3 : Int32))] []))
        refine g_iloadN X12 hx 151 (hb hby d1_150) rfl rfl ?_
        show Go p e below s _ _ _ (T12.setTop (mkF m 151 #[.val (.int x0), .val (.ref x1), .val (.int x2), .val (.int (3 : Int32))] [(.int x2)]))
        refine g_iloadN X12 hx 152 (hb hby d1_151) rfl rfl ?_
        show Go p e below s _ _ _ (T12.setTop (mkF m 152 #[.val (.int x0), .val (.ref x1), .val (.int x2), .val (.int (3 : Int32))] [(.int (3 : Int32)), (.int x2)]))
        refine g_iadd X12 hx 153 (hb hby d1_152) rfl ?_
        show Go p e below s _ _ _ (T12.setTop (mkF m 153 #[.val (.int x0), .val (.ref x1), .val (.int x2), .val (.int (3 : Int32))] [(.int (x2 + (3 : Int32)))]))
        exact g_retI X12 hx hret hlk (hb hby d1_153) (by decide) (by decide) (by rw [e12]; exact ⟨congrArg (fun z => some (Value.int z)) (show (x2 + (3 : Int32)) = (f1 x0 x2) from by rw [f1, if_neg h1, if_neg h4, if_pos h8]), N12, K12, (by rw [g1_x1, if_neg h1, if_neg h4, if_pos h8]; exact A12)⟩)
      · show Go p e below s _ _ _ (T0.setTop (mkF m 81 #[.val (.int x0), .val (.ref x1), .val (.int x2), .unset] []))
        refine g_aloadN X0 hx 82 (hb hby d1_81) rfl rfl rfl ?_
        show Go p e below s _ _ _ (T0.setTop (mkF m 82 #[.val (.int x0), .val (.ref x1), .val (.int x2), .unset] [(.ref x1)]))
        refine g_iloadN X0 hx 83 (hb hby d1_82) rfl rfl ?_
        show Go p e below s _ _ _ (T0.setTop (mkF m 83 #[.val (.int x0), .val (.ref x1), .val (.int x2), .unset] [(.int x2), (.ref x1)]))
        refine g_sipush X0 hx (240 : Int32) 86 (hb hby d1_83) rfl rfl ?_
        show Go p e below s _ _ _ (T0.setTop (mkF m 86 #[.val (.int x0), .val (.ref x1), .val (.int x2), .unset] [(.int (240 : Int32)), (.int x2), (.ref x1)]))
        refine g_iloadN X0 hx 87 (hb hby d1_86) rfl rfl ?_
        show Go p e below s _ _ _ (T0.setTop (mkF m 87 #[.val (.int x0), .val (.ref x1), .val (.int x2), .unset] [(.int x0), (.int (240 : Int32)), (.int x2), (.ref x1)]))
        refine g_bipush X0 hx (18 : Int32) 89 (hb hby d1_87) rfl rfl ?_
        show Go p e below s _ _ _ (T0.setTop (mkF m 89 #[.val (.int x0), .val (.ref x1), .val (.int x2), .unset] [(.int (18 : Int32)), (.int x0), (.int (240 : Int32)), (.int x2), (.ref x1)]))
        refine g_ishr X0 hx 90 (hb hby d1_89) rfl ?_
        show Go p e below s _ _ _ (T0.setTop (mkF m 90 #[.val (.int x0), .val (.ref x1), .val (.int x2), .unset] [(.int (shrI x0 (18 : Int32))), (.int (240 : Int32)), (.int x2), (.ref x1)]))
        refine g_ior X0 hx 91 (hb hby d1_90) rfl ?_
        show Go p e below s _ _ _ (T0.setTop (mkF m 91 #[.val (.int x0), .val (.ref x1), .val (.int x2), .unset] [(.int ((240 : Int32) ||| (shrI x0 (18 : Int32)))), (.int x2), (.ref x1)]))
        refine g_i2b X0 hx 92 (hb hby d1_91) rfl ?_
        show Go p e below s _ _ _ (T0.setTop (mkF m 92 #[.val (.int x0), .val (.ref x1), .val (.int x2), .unset] [(.int (i2bI ((240 : Int32) ||| (shrI x0 (18 : Int32))))), (.int x2), (.ref x1)]))
        refine g_bastore X0 hx hZ e0 P0 an ha (by omega) 93 (hb hby d1_92) rfl ?_
        intro T13 h13 X13 e13 W13 A13
        have K13 := (Keep.refl h0 [x1]).wr W13 (Or.inl (List.mem_of_getElem? (i := 0) rfl))
        have N13 := Fr.snoc X13 N0 P1
        have Z13 : n0 ≤ h13.size := by rw [W13.size]; exact Z0
        show Go p e below s _ _ _ (T13.setTop (mkF m 93 #[.val (.int x0), .val (.ref x1), .val (.int x2), .unset] []))
        refine g_aloadN X13 hx 94 (hb hby d1_93) rfl rfl rfl ?_
        show Go p e below s _ _ _ (T13.setTop (mkF m 94 #[.val (.int x0), .val (.ref x1), .val (.int x2), .unset] [(.ref x1)]))
        refine g_iloadN X13 hx 95 (hb hby d1_94) rfl rfl ?_
        show Go p e below s _ _ _ (T13.setTop (mkF m 95 #[.val (.int x0), .val (.ref x1), .val (.int x2), .unset] [(.int x2), (.ref x1)]))
        refine g_iconst X13 hx (1 : Int32) 96 (hb hby d1_95) rfl rfl ?_
        show Go p e below s _ _ _ (T13.setTop (mkF m 96 #[.val (.int x0), .val (.ref x1), .val (.int x2), .unset] [(.int (1 : Int32)), (.int x2), (.ref x1)]))
        refine g_iadd X13 hx 97 (hb hby d1_96) rfl ?_
        show Go p e below s _ _ _ (T13.setTop (mkF m 97 #[.val (.int x0), .val (.ref x1), .val (.int x2), .unset] [(.int (x2 + (1 : Int32))), (.ref x1)]))
        refine g_sipush X13 hx (128 : Int32) 100 (hb hby d1_97) rfl rfl ?_
        show Go p e below s _ _ _ (T13.setTop (mkF m 100 #[.val (.int x0), .val (.ref x1), .val (.int x2), .unset] [(.int (128 : Int32)), (.int (x2 + (1 : Int32))), (.ref x1)]))
        refine g_iloadN X13 hx 101 (hb hby d1_100) rfl rfl ?_
        show Go p e below s _ _ _ (T13.setTop (mkF m 101 #[.val (.int x0), .val (.ref x1), .val (.int x2), .unset] [(.int x0), (.int (128 : Int32)), (.int (x2 + (1 : Int32))), (.ref x1)]))
        refine g_bipush X13 hx (12 : Int32) 103 (hb hby d1_101) rfl rfl ?_
        show Go p e below s _ _ _ (T13.setTop (mkF m 103 #[.val (.int x0), .val (.ref x1), .val (.int x2), .unset] [(.int (12 : Int32)), (.int x0), (.int (128 : Int32)), (.int (x2 + (1 : Int32))), (.ref x1)]))
        refine g_ishr X13 hx 104 (hb hby d1_103) rfl ?_
        show Go p e below s _ _ _ (T13.setTop (mkF m 104 #[.val (.int x0), .val (.ref x1), .val (.int x2), .unset] [(.int (shrI x0 (12 : Int32))), (.int (128 : Int32)), (.int (x2 + (1 : Int32))), (.ref x1)]))
        refine g_bipush X13 hx (63 : Int32) 106 (hb hby d1_104) rfl rfl ?_
        show Go p e below s _ _ _ (T13.setTop (mkF m 106 #[.val (.int x0), .val (.ref x1), .val (.int x2), .unset] [(.int (63 : Int32)), (.int (shrI x0 (12 : Int32))), (.int (128 : Int32)), (.int (x2 + (1 : Int32))), (.ref x1)]))
        refine g_iand X13 hx 107 (hb hby d1_106) rfl ?_
        show Go p e below s _ _ _ (T13.setTop (mkF m 107 #[.val (.int x0), .val (.ref x1), .val (.int x2), .unset] [(.int ((shrI x0 (12 : Int32)) &&& (63 : Int32))), (.int (128 : Int32)), (.int (x2 + (1 : Int32))), (.ref x1)]))
        refine g_ior X13 hx 108 (hb hby d1_107) rfl ?_
        show Go p e below s _ _ _ (T13.setTop (mkF m 108 #[.val (.int x0), .val (.ref x1), .val (.int x2), .unset] [(.int ((128 : Int32) ||| ((shrI x0 (12 : Int32)) &&& (63 : Int32)))), (.int (x2 + (1 : Int32))), (.ref x1)]))
        refine g_i2b X13 hx 109 (hb hby d1_108) rfl ?_
        show Go p e below s _ _ _ (T13.setTop (mkF m 109 #[.val (.int x0), .val (.ref x1), .val (.int x2), .unset] [(.int (i2bI ((128 : Int32) ||| ((shrI x0 (12 : Int32)) &&& (63 : Int32))))), (.int (x2 + (1 : Int32))), (.ref x1)]))
        refine g_bastore X13 hx hZ e13 A13 (an + 1) (own_add ha (j := 1) rfl (by omega)) (by omega) 110 (hb hby d1_109) rfl ?_
        intro T14 h14 X14 e14 W14 A14
        have K14 := K13.wr W14 (Or.inl (List.mem_of_getElem? (i := 0) rfl))
        have N14 := Fr.snoc X14 N13 P1
        have Z14 : n0 ≤ h14.size := by rw [W14.size]; exact Z13
        show Go p e below s _ _ _ (T14.setTop (mkF m 110 #[.val (.int x0), .val (.ref x1), .val (.int x2), .unset] []))
        refine g_aloadN X14 hx 111 (hb hby d1_110) rfl rfl rfl ?_
        show Go p e below s _ _ _ (T14.setTop (mkF m 111 #[.val (.int x0), .val (.ref x1), .val (.int x2), .unset] [(.ref x1)]))
        refine g_iloadN X14 hx 112 (hb hby d1_111) rfl rfl ?_
        show Go p e below s _ _ _ (T14.setTop (mkF m 112 #[.val (.int x0), .val (.ref x1), .val (.int x2), .unset] [(.int x2), (.ref x1)]))
        refine g_iconst X14 hx (2 : Int32) 113 (hb hby d1_112) rfl rfl ?_
        show Go p e below s _ _ _ (T14.setTop (mkF m 113 #[.val (.int x0), .val (.ref x1), .val (.int x2), .unset] [(.int (2 : Int32)), (.int x2), (.ref x1)]))
        refine g_iadd X14 hx 114 (hb hby d1_113) rfl ?_
        show Go p e below s _ _ _ (T14.setTop (mkF m 114 #[.val (.int x0), .val (.ref x1), .val (.int x2), .unset] [(.int (x2 + (2 : Int32))), (.ref x1)]))
        refine g_sipush X14 hx (128 : Int32) 117 (hb hby d1_114) rfl rfl ?_
        show Go p e below s _ _ _ (T14.setTop (mkF m 117 #[.val (.int x0), .val (.ref x1), .val (.int x2), .unset] [(.int (128 : Int32)), (.int (x2 + (2 : Int32))), (.ref x1)]))
        refine g_iloadN X14 hx 118 (hb hby d1_117) rfl rfl ?_
        show Go p e below s _ _ _ (T14.setTop (mkF m 118 #[.val (.int x0), .val (.ref x1), .val (.int x2), .unset] [(.int x0), (.int (128 : Int32)), (.int (x2 + (2 : Int32))), (.ref x1)]))
        refine g_bipush X14 hx (6 : Int32) 120 (hb hby d1_118) rfl rfl ?_
        show Go p e below s _ _ _ (T14.setTop (mkF m 120 #[.val (.int x0), .val (.ref x1), .val (.int x2), .unset] [(.int (6 : Int32)), (.int x0), (.int (128 : Int32)), (.int (x2 + (2 : Int32))), (.ref x1)]))
        refine g_ishr X14 hx 121 (hb hby d1_120) rfl ?_
        show Go p e below s _ _ _ (T14.setTop (mkF m 121 #[.val (.int x0), .val (.ref x1), .val (.int x2), .unset] [(.int (shrI x0 (6 : Int32))), (.int (128 : Int32)), (.int (x2 + (2 : Int32))), (.ref x1)]))
        refine g_bipush X14 hx (63 : Int32) 123 (hb hby d1_121) rfl rfl ?_
        show Go p e below s _ _ _ (T14.setTop (mkF m 123 #[.val (.int x0), .val (.ref x1), .val (.int x2), .unset] [(.int (63 : Int32)), (.int (shrI x0 (6 : Int32))), (.int (128 : Int32)), (.int (x2 + (2 : Int32))), (.ref x1)]))
        refine g_iand X14 hx 124 (hb hby d1_123) rfl ?_
        show Go p e below s _ _ _ (T14.setTop (mkF m 124 #[.val (.int x0), .val (.ref x1), .val (.int x2), .unset] [(.int ((shrI x0 (6 : Int32)) &&& (63 : Int32))), (.int (128 : Int32)), (.int (x2 + (2 : Int32))), (.ref x1)]))
        refine g_ior X14 hx 125 (hb hby d1_124) rfl ?_
        show Go p e below s _ _ _ (T14.setTop (mkF m 125 #[.val (.int x0), .val (.ref x1), .val (.int x2), .unset] [(.int ((128 : Int32) ||| ((shrI x0 (6 : Int32)) &&& (63 : Int32)))), (.int (x2 + (2 : Int32))), (.ref x1)]))
        refine g_i2b X14 hx 126 (hb hby d1_125) rfl ?_
        show Go p e below s _ _ _ (T14.setTop (mkF m 126 #[.val (.int x0), .val (.ref x1), .val (.int x2), .unset] [(.int (i2bI ((128 : Int32) ||| ((shrI x0 (6 : Int32)) &&& (63 : Int32))))), (.int (x2 + (2 : Int32))), (.ref x1)]))
        refine g_bastore X14 hx hZ e14 A14 (an + 2) (own_add ha (j := 2) rfl (by omega)) (by omega) 127 (hb hby d1_126) rfl ?_
        intro T15 h15 X15 e15 W15 A15
        have K15 := K14.wr W15 (Or.inl (List.mem_of_getElem? (i := 0) rfl))
        have N15 := Fr.snoc X15 N14 P1
        have Z15 : n0 ≤ h15.size := by rw [W15.size]; exact Z14
        show Go p e below s _ _ _ (T15.setTop (mkF m 127 #[.val (.int x0), .val (.ref x1), .val (.int x2), .unset] []))
        refine g_iconst X15 hx (4 : Int32) 128 (hb hby d1_127) rfl rfl ?_
        show Go p e below s _ _ _ (T15.setTop (mkF m 128 #[.val (.int x0), .val (.ref x1), .val (.int x2), .unset] [(.int (4 : Int32))]))
        refine g_istoreN X15 hx #[.val (.int x0), .val (.ref x1), .val (.int x2), .val (.int (4 : Int32))] 129 (hb hby d1_128) rfl rfl ?_
        show Go p e below s _ _ _ (T15.setTop (mkF m 129 #[.val (.int x0), .val (.ref x1), .val (.int x2), .val (.int (4 : Int32))] []))
        refine g_iloadN X15 hx 130 (hb hby d1_129) rfl rfl ?_
        show Go p e below s _ _ _ (T15.setTop (mkF m 130 #[.val (.int x0), .val (.ref x1), .val (.int x2), .val (.int (4 : Int32))] [(.int (4 : Int32))]))
        refine g_iconst X15 hx (1 : Int32) 131 (hb hby d1_130) rfl rfl ?_
        show Go p e below s _ _ _ (T15.setTop (mkF m 131 #[.val (.int x0), .val (.ref x1), .val (.int x2), .val (.int (4 : Int32))] [(.int (1 : Int32)), (.int (4 : Int32))]))
        have h16 : (1 : Int32) < (4 : Int32) := by decide
        refine g_icmp_le X15 hx 150 134 (hb hby d1_131) (by decide) rfl rfl (fun _ => ?_) (fun q => absurd h16 q)
        show Go p e below s _ _ _ (T15.setTop (mkF m 134 #[.val (.int x0), .val (.ref x1), .val (.int x2), .val (.int (4 : Int32))] []))
        refine g_aloadN X15 hx 135 (hb hby d1_134) rfl rfl rfl ?_
        show Go p e below s _ _ _ (T15.setTop (mkF m 135 #[.val (.int x0), .val (.ref x1), .val (.int x2), .val (.int (4 : Int32))] [(.ref x1)]))
        refine g_iloadN X15 hx 136 (hb hby d1_135) rfl rfl ?_
        show Go p e below s _ _ _ (T15.setTop (mkF m 136 #[.val (.int x0), .val (.ref x1), .val (.int x2), .val (.int (4 : Int32))] [(.int x2), (.ref x1)]))
        refine g_iloadN X15 hx 137 (hb hby d1_136) rfl rfl ?_
        show Go p e below s _ _ _ (T15.setTop (mkF m 137 #[.val (.int x0), .val (.ref x1), .val (.int x2), .val (.int (4 : Int32))] [(.int (4 : Int32)), (.int x2), (.ref x1)]))
        refine g_iadd X15 hx 138 (hb hby d1_137) rfl ?_
        show Go p e below s _ _ _ (T15.setTop (mkF m 138 #[.val (.int x0), .val (.ref x1), .val (.int x2), .val (.int (4 : Int32))] [(.int (x2 + (4 : Int32))), (.ref x1)]))
        refine g_iconst X15 hx (1 : Int32) 139 (hb hby d1_138) rfl rfl ?_
        show Go p e below s _ _ _ (T15.setTop (mkF m 139 #[.val (.int x0), .val (.ref x1), .val (.int x2), .val (.int (4 : Int32))] [(.int (1 : Int32)), (.int (x2 + (4 : Int32))), (.ref x1)]))
        refine g_isub X15 hx 140 (hb hby d1_139) rfl ?_
        show Go p e below s _ _ _ (T15.setTop (mkF m 140 #[.val (.int x0), .val (.ref x1), .val (.int x2), .val (.int (4 : Int32))] [(.int ((x2 + (4 : Int32)) - (1 : Int32))), (.ref x1)]))
        refine g_sipush X15 hx (128 : Int32) 143 (hb hby d1_140) rfl rfl ?_
        show Go p e below s _ _ _ (T15.setTop (mkF m 143 #[.val (.int x0), .val (.ref x1), .val (.int x2), .val (.int (4 : Int32))] [(.int (128 : Int32)), (.int ((x2 + (4 : Int32)) - (1 : Int32))), (.ref x1)]))
        refine g_iloadN X15 hx 144 (hb hby d1_143) rfl rfl ?_
        show Go p e below s _ _ _ (T15.setTop (mkF m 144 #[.val (.int x0), .val (.ref x1), .val (.int x2), .val (.int (4 : Int32))] [(.int x0), (.int (128 : Int32)), (.int ((x2 + (4 : Int32)) - (1 : Int32))), (.ref x1)]))
        refine g_bipush X15 hx (63 : Int32) 146 (hb hby d1_144) rfl rfl ?_
        show Go p e below s _ _ _ (T15.setTop (mkF m 146 #[.val (.int x0), .val (.ref x1), .val (.int x2), .val (.int (4 : Int32))] [(.int (63 : Int32)), (.int x0), (.int (128 : Int32)), (.int ((x2 + (4 : Int32)) - (1 : Int32))), (.ref x1)]))
        refine g_iand X15 hx 147 (hb hby d1_146) rfl ?_
        show Go p e below s _ _ _ (T15.setTop (mkF m 147 #[.val (.int x0), .val (.ref x1), .val (.int x2), .val (.int (4 : Int32))] [(.int (x0 &&& (63 : Int32))), (.int (128 : Int32)), (.int ((x2 + (4 : Int32)) - (1 : Int32))), (.ref x1)]))
        refine g_ior X15 hx 148 (hb hby d1_147) rfl ?_
        show Go p e below s _ _ _ (T15.setTop (mkF m 148 #[.val (.int x0), .val (.ref x1), .val (.int x2), .val (.int (4 : Int32))] [(.int ((128 : Int32) ||| (x0 &&& (63 : Int32)))), (.int ((x2 + (4 : Int32)) - (1 : Int32))), (.ref x1)]))
        refine g_i2b X15 hx 149 (hb hby d1_148) rfl ?_
        show Go p e below s _ _ _ (T15.setTop (mkF m 149 #[.val (.int x0), .val (.ref x1), .val (.int x2), .val (.int (4 : Int32))] [(.int (i2bI ((128 : Int32) ||| (x0 &&& (63 : Int32))))), (.int ((x2 + (4 : Int32)) - (1 : Int32))), (.ref x1)]))
        refine g_bastore X15 hx hZ e15 A15 (an + 3) (own_last ha (j := 4) rfl (by decide) (by omega)) (by omega) 150 (hb hby d1_149) rfl ?_
        intro T17 h17 X17 e17 W17 A17
        have K17 := K15.wr W17 (Or.inl (List.mem_of_getElem? (i := 0) rfl))
        have N17 := Fr.snoc X17 N15 P1
        have Z17 : n0 ≤ h17.size := by rw [W17.size]; exact Z15
        show Go p e below s _ _ _ (T17.setTop (mkF m 150 #[.val (.int x0), .val (.ref x1), .val (.int x2), .val (.int (4 : Int32))] []))
        refine g_iloadN X17 hx 151 (hb hby d1_150) rfl rfl ?_
        show Go p e below s _ _ _ (T17.setTop (mkF m 151 #[.val (.int x0), .val (.ref x1), .val (.int x2), .val (.int (4 : Int32))] [(.int x2)]))
        refine g_iloadN X17 hx 152 (hb hby d1_151) rfl rfl ?_
        show Go p e below s _ _ _ (T17.setTop (mkF m 152 #[.val (.int x0), .val (.ref x1), .val (.int x2), .val (.int (4 : Int32))] [(.int (4 : Int32)), (.int x2)]))
        refine g_iadd X17 hx 153 (hb hby d1_152) rfl ?_
        show Go p e below s _ _ _ (T17.setTop (mkF m 153 #[.val (.int x0), .val (.ref x1), .val (.int x2), .val (.int (4 : Int32))] [(.int (x2 + (4 : Int32)))]))
        exact g_retI X17 hx hret hlk (hb hby d1_153) (by decide) (by decide) (by rw [e17]; exact ⟨congrArg (fun z => some (Value.int z)) (show (x2 + (4 : Int32)) = (f1 x0 x2) from by rw [f1, if_neg h1, if_neg h4, if_neg h8]), N17, K17, (by rw [g1_x1, if_neg h1, if_neg h4, if_neg h8]; exact A17)⟩)
theorem d4_0 : decode method_2_code 0 = .ok (.iload_n 0, 1) := by decide +kernel
theorem d4_1 : decode method_2_code 1 = .ok (.ifCond .ne 5, 3) := by decide +kernel
theorem d4_4 : decode method_2_code 4 = .ok (.iconst 1, 1) := by decide +kernel
theorem d4_5 : decode method_2_code 5 = .ok (.ireturn, 1) := by decide +kernel
theorem d4_6 : decode method_2_code 6 = .ok (.iload_n 0, 1) := by decide +kernel
theorem d4_7 : decode method_2_code 7 = .ok (.iconst 1, 1) := by decide +kernel
theorem d4_8 : decode method_2_code 8 = .ok (.if_icmp .ne 6, 3) := by decide +kernel
theorem d4_11 : decode method_2_code 11 = .ok (.bipush 64, 2) := by decide +kernel
theorem d4_13 : decode method_2_code 13 = .ok (.ireturn, 1) := by decide +kernel
theorem d4_14 : decode method_2_code 14 = .ok (.iload_n 0, 1) := by decide +kernel
theorem d4_15 : decode method_2_code 15 = .ok (.iconst 2, 1) := by decide +kernel
theorem d4_16 : decode method_2_code 16 = .ok (.if_icmp .ne 7, 3) := by decide +kernel
theorem d4_19 : decode method_2_code 19 = .ok (.sipush 4096, 3) := by decide +kernel
theorem d4_22 : decode method_2_code 22 = .ok (.ireturn, 1) := by decide +kernel
theorem d4_23 : decode method_2_code 23 = .ok (.ldc 7, 2) := by decide +kernel
theorem d4_25 : decode method_2_code 25 = .ok (.ireturn, 1) := by decide +kernel
theorem pn_4 : plainName "com/example/strict_xmlns/strictxmlns/Utf8EncodePinLaw" = true := by first | (simp [plainName, overriddenIn]; done) | decide +kernel
theorem ef_4 (m : MethodId) (x0 : Int32) : entryFrame m #[(.int x0)] 1 = mkF m 0 #[.val (.int x0)] [] := by first | (simp [entryFrame, mkF, argsToLocals, Value.category]; done) | rfl
def f4 (x0 : Int32) : Int32 := if x0 = (0 : Int32) then (1 : Int32) else if x0 = (1 : Int32) then (64 : Int32) else if x0 = (2 : Int32) then (4096 : Int32) else (262144 : Int32)
def Q4 (x0 : Int32) (h0 : Heap) (v : Option Value) (h : Heap) (L : List Loc) : Prop := v = some (.int (f4 x0)) ∧ L = [] ∧ h = h0
set_option maxRecDepth 65536 in
set_option maxHeartbeats 40000000 in
theorem rm4 (l : Launch) (Z : State) (a0 : Array Value) (hw : ∀ d ∈ tables_1, d.before a0 Z = true) (ws : List Jvm.Cond) (x0 : Int32) (h0 : Heap) :
    MetFree l (⟨"com/example/strict_xmlns/strictxmlns/Utf8EncodePinLaw", "pow64", "(I)I"⟩ : MethodName) (head1 (Jvm.Cond.code (⟨"com/example/strict_xmlns/strictxmlns/Utf8EncodePinLaw", "pow64", "(I)I"⟩ : MethodName) method_2_code 1 (some .int) :: ws) ({ frames := 0, cells := 0, slots := 0, locals := 0 } : Room)) (fun a U => a = #[(.int x0)] ∧ Z.Warmed39 U.vm ∧ U.heap = h0) (fun _ _ _ _ _ => True) (fun _ U o U' => ∃ v L, o = .returned v ∧ Q4 x0 h0 v U'.heap L ∧ FrameEnd U o U' L ({ frames := 0, cells := 0, slots := 0, locals := 0 } : Room).cells ({ frames := 0, cells := 0, slots := 0, locals := 0 } : Room).slots) := by
  refine g_body (plainFor_of_name pn_4) ?_
  intro p e s m below meth c T0 X0 hx hby hml hret hlk hown hnm hZ e0
  rw [ef_4]
  show Go p e below s _ _ _ (T0.setTop (mkF m 0 #[.val (.int x0)] []))
  refine g_iloadN X0 hx 1 (hb hby d4_0) rfl rfl ?_
  show Go p e below s _ _ _ (T0.setTop (mkF m 1 #[.val (.int x0)] [(.int x0)]))
  refine g_if0_ne X0 hx 6 4 (hb hby d4_1) (by decide) rfl rfl (fun h1 => ?_) (fun h1 => ?_)
  · show Go p e below s _ _ _ (T0.setTop (mkF m 4 #[.val (.int x0)] []))
    refine g_iconst X0 hx (1 : Int32) 5 (hb hby d4_4) rfl rfl ?_
    show Go p e below s _ _ _ (T0.setTop (mkF m 5 #[.val (.int x0)] [(.int (1 : Int32))]))
    exact g_retI X0 hx hret hlk (hb hby d4_5) (by decide) (by decide) ⟨congrArg (fun z => some (Value.int z)) (show (1 : Int32) = (f4 x0) from by rw [f4, if_pos h1]), rfl, e0⟩
  · show Go p e below s _ _ _ (T0.setTop (mkF m 6 #[.val (.int x0)] []))
    refine g_iloadN X0 hx 7 (hb hby d4_6) rfl rfl ?_
    show Go p e below s _ _ _ (T0.setTop (mkF m 7 #[.val (.int x0)] [(.int x0)]))
    refine g_iconst X0 hx (1 : Int32) 8 (hb hby d4_7) rfl rfl ?_
    show Go p e below s _ _ _ (T0.setTop (mkF m 8 #[.val (.int x0)] [(.int (1 : Int32)), (.int x0)]))
    refine g_icmp_ne X0 hx 14 11 (hb hby d4_8) (by decide) rfl rfl (fun h2 => ?_) (fun h2 => ?_)
    · show Go p e below s _ _ _ (T0.setTop (mkF m 11 #[.val (.int x0)] []))
      refine g_bipush X0 hx (64 : Int32) 13 (hb hby d4_11) rfl rfl ?_
      show Go p e below s _ _ _ (T0.setTop (mkF m 13 #[.val (.int x0)] [(.int (64 : Int32))]))
      exact g_retI X0 hx hret hlk (hb hby d4_13) (by decide) (by decide) ⟨congrArg (fun z => some (Value.int z)) (show (64 : Int32) = (f4 x0) from by rw [f4, if_neg h1, if_pos h2]), rfl, e0⟩
    · show Go p e below s _ _ _ (T0.setTop (mkF m 14 #[.val (.int x0)] []))
      refine g_iloadN X0 hx 15 (hb hby d4_14) rfl rfl ?_
      show Go p e below s _ _ _ (T0.setTop (mkF m 15 #[.val (.int x0)] [(.int x0)]))
      refine g_iconst X0 hx (2 : Int32) 16 (hb hby d4_15) rfl rfl ?_
      show Go p e below s _ _ _ (T0.setTop (mkF m 16 #[.val (.int x0)] [(.int (2 : Int32)), (.int x0)]))
      refine g_icmp_ne X0 hx 23 19 (hb hby d4_16) (by decide) rfl rfl (fun h3 => ?_) (fun h3 => ?_)
      · show Go p e below s _ _ _ (T0.setTop (mkF m 19 #[.val (.int x0)] []))
        refine g_sipush X0 hx (4096 : Int32) 22 (hb hby d4_19) rfl rfl ?_
        show Go p e below s _ _ _ (T0.setTop (mkF m 22 #[.val (.int x0)] [(.int (4096 : Int32))]))
        exact g_retI X0 hx hret hlk (hb hby d4_22) (by decide) (by decide) ⟨congrArg (fun z => some (Value.int z)) (show (4096 : Int32) = (f4 x0) from by rw [f4, if_neg h1, if_neg h2, if_pos h3]), rfl, e0⟩
      · show Go p e below s _ _ _ (T0.setTop (mkF m 23 #[.val (.int x0)] []))
        refine g_ldc X0 hx hZ hown (hw _ (List.mem_of_getElem? (i := 19) rfl)) 25 (hb hby d4_23) rfl ?_
        show Go p e below s _ _ _ (T0.setTop (mkF m 25 #[.val (.int x0)] [(.int (262144 : Int32))]))
        exact g_retI X0 hx hret hlk (hb hby d4_25) (by decide) (by decide) ⟨congrArg (fun z => some (Value.int z)) (show (262144 : Int32) = (f4 x0) from by rw [f4, if_neg h1, if_neg h2, if_neg h3]), rfl, e0⟩
theorem own_pz (x : Int32) : ¬ f4 x = 0 := by unfold f4; split <;> (try split) <;> (try split) <;> decide
theorem pd__28I_29I : parseMethodDescriptor "(I)I" = some ⟨[.int], some .int⟩ := by decide +kernel
theorem d3_0 : decode method_3_code 0 = .ok (.iload_n 1, 1) := by decide +kernel
theorem d3_1 : decode method_3_code 1 = .ok (.iconst 1, 1) := by decide +kernel
theorem d3_2 : decode method_3_code 2 = .ok (.if_icmp .ne 5, 3) := by decide +kernel
theorem d3_5 : decode method_3_code 5 = .ok (.iload_n 0, 1) := by decide +kernel
theorem d3_6 : decode method_3_code 6 = .ok (.ireturn, 1) := by decide +kernel
theorem d3_7 : decode method_3_code 7 = .ok (.iload_n 1, 1) := by decide +kernel
theorem d3_8 : decode method_3_code 8 = .ok (.iconst 1, 1) := by decide +kernel
theorem d3_9 : decode method_3_code 9 = .ok (.isub, 1) := by decide +kernel
theorem d3_10 : decode method_3_code 10 = .ok (.iload_n 2, 1) := by decide +kernel
theorem d3_11 : decode method_3_code 11 = .ok (.isub, 1) := by decide +kernel
theorem d3_12 : decode method_3_code 12 = .ok (.istore_n 3, 1) := by decide +kernel
theorem d3_13 : decode method_3_code 13 = .ok (.iload_n 2, 1) := by decide +kernel
theorem d3_14 : decode method_3_code 14 = .ok (.ifCond .ne 44, 3) := by decide +kernel
theorem d3_17 : decode method_3_code 17 = .ok (.iload_n 1, 1) := by decide +kernel
theorem d3_18 : decode method_3_code 18 = .ok (.iconst 2, 1) := by decide +kernel
theorem d3_19 : decode method_3_code 19 = .ok (.if_icmp .ne 11, 3) := by decide +kernel
theorem d3_22 : decode method_3_code 22 = .ok (.sipush 192, 3) := by decide +kernel
theorem d3_25 : decode method_3_code 25 = .ok (.istore 4, 2) := by decide +kernel
theorem d3_27 : decode method_3_code 27 = .ok (.goto 21, 3) := by decide +kernel
theorem d3_30 : decode method_3_code 30 = .ok (.iload_n 1, 1) := by decide +kernel
theorem d3_31 : decode method_3_code 31 = .ok (.iconst 3, 1) := by decide +kernel
theorem d3_32 : decode method_3_code 32 = .ok (.if_icmp .ne 11, 3) := by decide +kernel
theorem d3_35 : decode method_3_code 35 = .ok (.sipush 224, 3) := by decide +kernel
theorem d3_38 : decode method_3_code 38 = .ok (.istore 4, 2) := by decide +kernel
theorem d3_40 : decode method_3_code 40 = .ok (.goto 8, 3) := by decide +kernel
theorem d3_43 : decode method_3_code 43 = .ok (.sipush 240, 3) := by decide +kernel
theorem d3_46 : decode method_3_code 46 = .ok (.istore 4, 2) := by decide +kernel
theorem d3_48 : decode method_3_code 48 = .ok (.iload 4, 2) := by decide +kernel
theorem d3_50 : decode method_3_code 50 = .ok (.iload_n 0, 1) := by decide +kernel
theorem d3_51 : decode method_3_code 51 = .ok (.iload_n 3, 1) := by decide +kernel
theorem d3_52 : decode method_3_code 52 = .ok (.invokestatic 8, 3) := by decide +kernel
theorem d3_55 : decode method_3_code 55 = .ok (.idiv, 1) := by decide +kernel
theorem d3_56 : decode method_3_code 56 = .ok (.iadd, 1) := by decide +kernel
theorem d3_57 : decode method_3_code 57 = .ok (.ireturn, 1) := by decide +kernel
theorem d3_58 : decode method_3_code 58 = .ok (.sipush 128, 3) := by decide +kernel
theorem d3_61 : decode method_3_code 61 = .ok (.iload_n 0, 1) := by decide +kernel
theorem d3_62 : decode method_3_code 62 = .ok (.iload_n 3, 1) := by decide +kernel
theorem d3_63 : decode method_3_code 63 = .ok (.invokestatic 8, 3) := by decide +kernel
theorem d3_66 : decode method_3_code 66 = .ok (.idiv, 1) := by decide +kernel
theorem d3_67 : decode method_3_code 67 = .ok (.bipush 64, 2) := by decide +kernel
theorem d3_69 : decode method_3_code 69 = .ok (.irem, 1) := by decide +kernel
theorem d3_70 : decode method_3_code 70 = .ok (.iadd, 1) := by decide +kernel
theorem d3_71 : decode method_3_code 71 = .ok (.ireturn, 1) := by decide +kernel
theorem ef_3 (m : MethodId) (x0 : Int32) (x1 : Int32) (x2 : Int32) : entryFrame m #[(.int x0), (.int x1), (.int x2)] 5 = mkF m 0 #[.val (.int x0), .val (.int x1), .val (.int x2), .unset, .unset] [] := by first | (simp [entryFrame, mkF, argsToLocals, Value.category]; done) | rfl
def f3 (x0 : Int32) (x1 : Int32) (x2 : Int32) : Int32 := if x1 = (1 : Int32) then x0 else if x2 = (0 : Int32) then (if x1 = (2 : Int32) then ((192 : Int32) + (x0 / (f4 ((x1 - (1 : Int32)) - x2)))) else if x1 = (3 : Int32) then ((224 : Int32) + (x0 / (f4 ((x1 - (1 : Int32)) - x2)))) else ((240 : Int32) + (x0 / (f4 ((x1 - (1 : Int32)) - x2))))) else ((128 : Int32) + ((x0 / (f4 ((x1 - (1 : Int32)) - x2))) % (64 : Int32)))
def Q3 (x0 : Int32) (x1 : Int32) (x2 : Int32) (h0 : Heap) (v : Option Value) (h : Heap) (L : List Loc) : Prop := v = some (.int (f3 x0 x1 x2)) ∧ L = [] ∧ h = h0
set_option maxRecDepth 65536 in
set_option maxHeartbeats 40000000 in
theorem rm3 (l : Launch) (Z : State) (a0 : Array Value) (hw : ∀ d ∈ tables_1, d.before a0 Z = true) (ws : List Jvm.Cond) (x0 : Int32) (x1 : Int32) (x2 : Int32) (h0 : Heap) :
    MetFree l (⟨"com/example/strict_xmlns/strictxmlns/Utf8EncodePinLaw", "expectedByte", "(III)I"⟩ : MethodName) (head1 (Jvm.Cond.code (⟨"com/example/strict_xmlns/strictxmlns/Utf8EncodePinLaw", "expectedByte", "(III)I"⟩ : MethodName) method_3_code 5 (some .int) :: ws) ({ frames := 1, cells := 0, slots := 0, locals := 14 } : Room)) (fun a U => a = #[(.int x0), (.int x1), (.int x2)] ∧ Z.Warmed39 U.vm ∧ U.heap = h0) (fun _ _ _ _ _ => True) (fun _ U o U' => ∃ v L, o = .returned v ∧ Q3 x0 x1 x2 h0 v U'.heap L ∧ FrameEnd U o U' L ({ frames := 1, cells := 0, slots := 0, locals := 14 } : Room).cells ({ frames := 1, cells := 0, slots := 0, locals := 14 } : Room).slots) := by
  refine g_body (plainFor_of_name pn_4) ?_
  intro p e s m below meth c T0 X0 hx hby hml hret hlk hown hnm hZ e0
  rw [ef_3]
  show Go p e below s _ _ _ (T0.setTop (mkF m 0 #[.val (.int x0), .val (.int x1), .val (.int x2), .unset, .unset] []))
  refine g_iloadN X0 hx 1 (hb hby d3_0) rfl rfl ?_
  show Go p e below s _ _ _ (T0.setTop (mkF m 1 #[.val (.int x0), .val (.int x1), .val (.int x2), .unset, .unset] [(.int x1)]))
  refine g_iconst X0 hx (1 : Int32) 2 (hb hby d3_1) rfl rfl ?_
  show Go p e below s _ _ _ (T0.setTop (mkF m 2 #[.val (.int x0), .val (.int x1), .val (.int x2), .unset, .unset] [(.int (1 : Int32)), (.int x1)]))
  refine g_icmp_ne X0 hx 7 5 (hb hby d3_2) (by decide) rfl rfl (fun h1 => ?_) (fun h1 => ?_)
  · show Go p e below s _ _ _ (T0.setTop (mkF m 5 #[.val (.int x0), .val (.int x1), .val (.int x2), .unset, .unset] []))
    refine g_iloadN X0 hx 6 (hb hby d3_5) rfl rfl ?_
    show Go p e below s _ _ _ (T0.setTop (mkF m 6 #[.val (.int x0), .val (.int x1), .val (.int x2), .unset, .unset] [(.int x0)]))
    exact g_retI X0 hx hret hlk (hb hby d3_6) (by decide) (by decide) ⟨congrArg (fun z => some (Value.int z)) (show x0 = (f3 x0 x1 x2) from by rw [f3, if_pos h1]), rfl, e0⟩
  · show Go p e below s _ _ _ (T0.setTop (mkF m 7 #[.val (.int x0), .val (.int x1), .val (.int x2), .unset, .unset] []))
    refine g_iloadN X0 hx 8 (hb hby d3_7) rfl rfl ?_
    show Go p e below s _ _ _ (T0.setTop (mkF m 8 #[.val (.int x0), .val (.int x1), .val (.int x2), .unset, .unset] [(.int x1)]))
    refine g_iconst X0 hx (1 : Int32) 9 (hb hby d3_8) rfl rfl ?_
    show Go p e below s _ _ _ (T0.setTop (mkF m 9 #[.val (.int x0), .val (.int x1), .val (.int x2), .unset, .unset] [(.int (1 : Int32)), (.int x1)]))
    refine g_isub X0 hx 10 (hb hby d3_9) rfl ?_
    show Go p e below s _ _ _ (T0.setTop (mkF m 10 #[.val (.int x0), .val (.int x1), .val (.int x2), .unset, .unset] [(.int (x1 - (1 : Int32)))]))
    refine g_iloadN X0 hx 11 (hb hby d3_10) rfl rfl ?_
    show Go p e below s _ _ _ (T0.setTop (mkF m 11 #[.val (.int x0), .val (.int x1), .val (.int x2), .unset, .unset] [(.int x2), (.int (x1 - (1 : Int32)))]))
    refine g_isub X0 hx 12 (hb hby d3_11) rfl ?_
    show Go p e below s _ _ _ (T0.setTop (mkF m 12 #[.val (.int x0), .val (.int x1), .val (.int x2), .unset, .unset] [(.int ((x1 - (1 : Int32)) - x2))]))
    refine g_istoreN X0 hx #[.val (.int x0), .val (.int x1), .val (.int x2), .val (.int ((x1 - (1 : Int32)) - x2)), .unset] 13 (hb hby d3_12) rfl rfl ?_
    show Go p e below s _ _ _ (T0.setTop (mkF m 13 #[.val (.int x0), .val (.int x1), .val (.int x2), .val (.int ((x1 - (1 : Int32)) - x2)), .unset] []))
    refine g_iloadN X0 hx 14 (hb hby d3_13) rfl rfl ?_
    show Go p e below s _ _ _ (T0.setTop (mkF m 14 #[.val (.int x0), .val (.int x1), .val (.int x2), .val (.int ((x1 - (1 : Int32)) - x2)), .unset] [(.int x2)]))
    refine g_if0_ne X0 hx 58 17 (hb hby d3_14) (by decide) rfl rfl (fun h2 => ?_) (fun h2 => ?_)
    · show Go p e below s _ _ _ (T0.setTop (mkF m 17 #[.val (.int x0), .val (.int x1), .val (.int x2), .val (.int ((x1 - (1 : Int32)) - x2)), .unset] []))
      refine g_iloadN X0 hx 18 (hb hby d3_17) rfl rfl ?_
      show Go p e below s _ _ _ (T0.setTop (mkF m 18 #[.val (.int x0), .val (.int x1), .val (.int x2), .val (.int ((x1 - (1 : Int32)) - x2)), .unset] [(.int x1)]))
      refine g_iconst X0 hx (2 : Int32) 19 (hb hby d3_18) rfl rfl ?_
      show Go p e below s _ _ _ (T0.setTop (mkF m 19 #[.val (.int x0), .val (.int x1), .val (.int x2), .val (.int ((x1 - (1 : Int32)) - x2)), .unset] [(.int (2 : Int32)), (.int x1)]))
      refine g_icmp_ne X0 hx 30 22 (hb hby d3_19) (by decide) rfl rfl (fun h3 => ?_) (fun h3 => ?_)
      · show Go p e below s _ _ _ (T0.setTop (mkF m 22 #[.val (.int x0), .val (.int x1), .val (.int x2), .val (.int ((x1 - (1 : Int32)) - x2)), .unset] []))
        refine g_sipush X0 hx (192 : Int32) 25 (hb hby d3_22) rfl rfl ?_
        show Go p e below s _ _ _ (T0.setTop (mkF m 25 #[.val (.int x0), .val (.int x1), .val (.int x2), .val (.int ((x1 - (1 : Int32)) - x2)), .unset] [(.int (192 : Int32))]))
        refine g_istore X0 hx #[.val (.int x0), .val (.int x1), .val (.int x2), .val (.int ((x1 - (1 : Int32)) - x2)), .val (.int (192 : Int32))] 27 (hb hby d3_25) rfl rfl ?_
        show Go p e below s _ _ _ (T0.setTop (mkF m 27 #[.val (.int x0), .val (.int x1), .val (.int x2), .val (.int ((x1 - (1 : Int32)) - x2)), .val (.int (192 : Int32))] []))
        refine g_goto X0 hx 48 (hb hby d3_27) (by decide) rfl ?_
        show Go p e below s _ _ _ (T0.setTop (mkF m 48 #[.val (.int x0), .val (.int x1), .val (.int x2), .val (.int ((x1 - (1 : Int32)) - x2)), .val (.int (192 : Int32))] []))
        refine g_iload X0 hx 50 (hb hby d3_48) rfl rfl ?_
        show Go p e below s _ _ _ (T0.setTop (mkF m 50 #[.val (.int x0), .val (.int x1), .val (.int x2), .val (.int ((x1 - (1 : Int32)) - x2)), .val (.int (192 : Int32))] [(.int (192 : Int32))]))
        refine g_iloadN X0 hx 51 (hb hby d3_50) rfl rfl ?_
        show Go p e below s _ _ _ (T0.setTop (mkF m 51 #[.val (.int x0), .val (.int x1), .val (.int x2), .val (.int ((x1 - (1 : Int32)) - x2)), .val (.int (192 : Int32))] [(.int x0), (.int (192 : Int32))]))
        refine g_iloadN X0 hx 52 (hb hby d3_51) rfl rfl ?_
        show Go p e below s _ _ _ (T0.setTop (mkF m 52 #[.val (.int x0), .val (.int x1), .val (.int x2), .val (.int ((x1 - (1 : Int32)) - x2)), .val (.int (192 : Int32))] [(.int ((x1 - (1 : Int32)) - x2)), (.int x0), (.int (192 : Int32))]))
        refine g_callS X0 hx hZ hown (hw _ (List.mem_of_getElem? (i := 16) rfl)) (hw _ (List.mem_of_getElem? (i := 17) rfl)) (hw _ (List.mem_of_getElem? (i := 8) rfl)) (hw _ (List.mem_of_getElem? (i := 18) rfl)) (by decide) e0 (rm4 l Z a0 hw [] ((x1 - (1 : Int32)) - x2) h0) [(.int ((x1 - (1 : Int32)) - x2))] [(.int x0), (.int (192 : Int32))] 2 rfl (lenOf pd__28I_29I rfl) rfl (Nat.le_of_eq rfl) (by decide) (by decide) (by decide) (by decide) (by rw [hml]; rfl) (hb hby d3_52) ?_
        intro T4 L4 v4 X4 q4
        obtain ⟨rfl, rfl, e4⟩ := q4
        show Go p e below s _ _ _ (T4.setTop (mkF m 55 #[.val (.int x0), .val (.int x1), .val (.int x2), .val (.int ((x1 - (1 : Int32)) - x2)), .val (.int (192 : Int32))] [(.int (f4 ((x1 - (1 : Int32)) - x2))), (.int x0), (.int (192 : Int32))]))
        refine g_idiv X4 hx 56 (hb hby d3_55) (own_pz _) rfl ?_
        show Go p e below s _ _ _ (T4.setTop (mkF m 56 #[.val (.int x0), .val (.int x1), .val (.int x2), .val (.int ((x1 - (1 : Int32)) - x2)), .val (.int (192 : Int32))] [(.int (x0 / (f4 ((x1 - (1 : Int32)) - x2)))), (.int (192 : Int32))]))
        refine g_iadd X4 hx 57 (hb hby d3_56) rfl ?_
        show Go p e below s _ _ _ (T4.setTop (mkF m 57 #[.val (.int x0), .val (.int x1), .val (.int x2), .val (.int ((x1 - (1 : Int32)) - x2)), .val (.int (192 : Int32))] [(.int ((192 : Int32) + (x0 / (f4 ((x1 - (1 : Int32)) - x2)))))]))
        exact g_retI X4 hx hret hlk (hb hby d3_57) (by decide) (by decide) ⟨congrArg (fun z => some (Value.int z)) (show ((192 : Int32) + (x0 / (f4 ((x1 - (1 : Int32)) - x2)))) = (f3 x0 x1 x2) from by rw [f3, if_neg h1, if_pos h2, if_pos h3]), rfl, e4⟩
      · show Go p e below s _ _ _ (T0.setTop (mkF m 30 #[.val (.int x0), .val (.int x1), .val (.int x2), .val (.int ((x1 - (1 : Int32)) - x2)), .unset] []))
        refine g_iloadN X0 hx 31 (hb hby d3_30) rfl rfl ?_
        show Go p e below s _ _ _ (T0.setTop (mkF m 31 #[.val (.int x0), .val (.int x1), .val (.int x2), .val (.int ((x1 - (1 : Int32)) - x2)), .unset] [(.int x1)]))
        refine g_iconst X0 hx (3 : Int32) 32 (hb hby d3_31) rfl rfl ?_
        show Go p e below s _ _ _ (T0.setTop (mkF m 32 #[.val (.int x0), .val (.int x1), .val (.int x2), .val (.int ((x1 - (1 : Int32)) - x2)), .unset] [(.int (3 : Int32)), (.int x1)]))
        refine g_icmp_ne X0 hx 43 35 (hb hby d3_32) (by decide) rfl rfl (fun h5 => ?_) (fun h5 => ?_)
        · show Go p e below s _ _ _ (T0.setTop (mkF m 35 #[.val (.int x0), .val (.int x1), .val (.int x2), .val (.int ((x1 - (1 : Int32)) - x2)), .unset] []))
          refine g_sipush X0 hx (224 : Int32) 38 (hb hby d3_35) rfl rfl ?_
          show Go p e below s _ _ _ (T0.setTop (mkF m 38 #[.val (.int x0), .val (.int x1), .val (.int x2), .val (.int ((x1 - (1 : Int32)) - x2)), .unset] [(.int (224 : Int32))]))
          refine g_istore X0 hx #[.val (.int x0), .val (.int x1), .val (.int x2), .val (.int ((x1 - (1 : Int32)) - x2)), .val (.int (224 : Int32))] 40 (hb hby d3_38) rfl rfl ?_
          show Go p e below s _ _ _ (T0.setTop (mkF m 40 #[.val (.int x0), .val (.int x1), .val (.int x2), .val (.int ((x1 - (1 : Int32)) - x2)), .val (.int (224 : Int32))] []))
          refine g_goto X0 hx 48 (hb hby d3_40) (by decide) rfl ?_
          show Go p e below s _ _ _ (T0.setTop (mkF m 48 #[.val (.int x0), .val (.int x1), .val (.int x2), .val (.int ((x1 - (1 : Int32)) - x2)), .val (.int (224 : Int32))] []))
          refine g_iload X0 hx 50 (hb hby d3_48) rfl rfl ?_
          show Go p e below s _ _ _ (T0.setTop (mkF m 50 #[.val (.int x0), .val (.int x1), .val (.int x2), .val (.int ((x1 - (1 : Int32)) - x2)), .val (.int (224 : Int32))] [(.int (224 : Int32))]))
          refine g_iloadN X0 hx 51 (hb hby d3_50) rfl rfl ?_
          show Go p e below s _ _ _ (T0.setTop (mkF m 51 #[.val (.int x0), .val (.int x1), .val (.int x2), .val (.int ((x1 - (1 : Int32)) - x2)), .val (.int (224 : Int32))] [(.int x0), (.int (224 : Int32))]))
          refine g_iloadN X0 hx 52 (hb hby d3_51) rfl rfl ?_
          show Go p e below s _ _ _ (T0.setTop (mkF m 52 #[.val (.int x0), .val (.int x1), .val (.int x2), .val (.int ((x1 - (1 : Int32)) - x2)), .val (.int (224 : Int32))] [(.int ((x1 - (1 : Int32)) - x2)), (.int x0), (.int (224 : Int32))]))
          refine g_callS X0 hx hZ hown (hw _ (List.mem_of_getElem? (i := 16) rfl)) (hw _ (List.mem_of_getElem? (i := 17) rfl)) (hw _ (List.mem_of_getElem? (i := 8) rfl)) (hw _ (List.mem_of_getElem? (i := 18) rfl)) (by decide) e0 (rm4 l Z a0 hw [] ((x1 - (1 : Int32)) - x2) h0) [(.int ((x1 - (1 : Int32)) - x2))] [(.int x0), (.int (224 : Int32))] 2 rfl (lenOf pd__28I_29I rfl) rfl (Nat.le_of_eq rfl) (by decide) (by decide) (by decide) (by decide) (by rw [hml]; rfl) (hb hby d3_52) ?_
          intro T6 L6 v6 X6 q6
          obtain ⟨rfl, rfl, e6⟩ := q6
          show Go p e below s _ _ _ (T6.setTop (mkF m 55 #[.val (.int x0), .val (.int x1), .val (.int x2), .val (.int ((x1 - (1 : Int32)) - x2)), .val (.int (224 : Int32))] [(.int (f4 ((x1 - (1 : Int32)) - x2))), (.int x0), (.int (224 : Int32))]))
          refine g_idiv X6 hx 56 (hb hby d3_55) (own_pz _) rfl ?_
          show Go p e below s _ _ _ (T6.setTop (mkF m 56 #[.val (.int x0), .val (.int x1), .val (.int x2), .val (.int ((x1 - (1 : Int32)) - x2)), .val (.int (224 : Int32))] [(.int (x0 / (f4 ((x1 - (1 : Int32)) - x2)))), (.int (224 : Int32))]))
          refine g_iadd X6 hx 57 (hb hby d3_56) rfl ?_
          show Go p e below s _ _ _ (T6.setTop (mkF m 57 #[.val (.int x0), .val (.int x1), .val (.int x2), .val (.int ((x1 - (1 : Int32)) - x2)), .val (.int (224 : Int32))] [(.int ((224 : Int32) + (x0 / (f4 ((x1 - (1 : Int32)) - x2)))))]))
          exact g_retI X6 hx hret hlk (hb hby d3_57) (by decide) (by decide) ⟨congrArg (fun z => some (Value.int z)) (show ((224 : Int32) + (x0 / (f4 ((x1 - (1 : Int32)) - x2)))) = (f3 x0 x1 x2) from by rw [f3, if_neg h1, if_pos h2, if_neg h3, if_pos h5]), rfl, e6⟩
        · show Go p e below s _ _ _ (T0.setTop (mkF m 43 #[.val (.int x0), .val (.int x1), .val (.int x2), .val (.int ((x1 - (1 : Int32)) - x2)), .unset] []))
          refine g_sipush X0 hx (240 : Int32) 46 (hb hby d3_43) rfl rfl ?_
          show Go p e below s _ _ _ (T0.setTop (mkF m 46 #[.val (.int x0), .val (.int x1), .val (.int x2), .val (.int ((x1 - (1 : Int32)) - x2)), .unset] [(.int (240 : Int32))]))
          refine g_istore X0 hx #[.val (.int x0), .val (.int x1), .val (.int x2), .val (.int ((x1 - (1 : Int32)) - x2)), .val (.int (240 : Int32))] 48 (hb hby d3_46) rfl rfl ?_
          show Go p e below s _ _ _ (T0.setTop (mkF m 48 #[.val (.int x0), .val (.int x1), .val (.int x2), .val (.int ((x1 - (1 : Int32)) - x2)), .val (.int (240 : Int32))] []))
          refine g_iload X0 hx 50 (hb hby d3_48) rfl rfl ?_
          show Go p e below s _ _ _ (T0.setTop (mkF m 50 #[.val (.int x0), .val (.int x1), .val (.int x2), .val (.int ((x1 - (1 : Int32)) - x2)), .val (.int (240 : Int32))] [(.int (240 : Int32))]))
          refine g_iloadN X0 hx 51 (hb hby d3_50) rfl rfl ?_
          show Go p e below s _ _ _ (T0.setTop (mkF m 51 #[.val (.int x0), .val (.int x1), .val (.int x2), .val (.int ((x1 - (1 : Int32)) - x2)), .val (.int (240 : Int32))] [(.int x0), (.int (240 : Int32))]))
          refine g_iloadN X0 hx 52 (hb hby d3_51) rfl rfl ?_
          show Go p e below s _ _ _ (T0.setTop (mkF m 52 #[.val (.int x0), .val (.int x1), .val (.int x2), .val (.int ((x1 - (1 : Int32)) - x2)), .val (.int (240 : Int32))] [(.int ((x1 - (1 : Int32)) - x2)), (.int x0), (.int (240 : Int32))]))
          refine g_callS X0 hx hZ hown (hw _ (List.mem_of_getElem? (i := 16) rfl)) (hw _ (List.mem_of_getElem? (i := 17) rfl)) (hw _ (List.mem_of_getElem? (i := 8) rfl)) (hw _ (List.mem_of_getElem? (i := 18) rfl)) (by decide) e0 (rm4 l Z a0 hw [] ((x1 - (1 : Int32)) - x2) h0) [(.int ((x1 - (1 : Int32)) - x2))] [(.int x0), (.int (240 : Int32))] 2 rfl (lenOf pd__28I_29I rfl) rfl (Nat.le_of_eq rfl) (by decide) (by decide) (by decide) (by decide) (by rw [hml]; rfl) (hb hby d3_52) ?_
          intro T7 L7 v7 X7 q7
          obtain ⟨rfl, rfl, e7⟩ := q7
          show Go p e below s _ _ _ (T7.setTop (mkF m 55 #[.val (.int x0), .val (.int x1), .val (.int x2), .val (.int ((x1 - (1 : Int32)) - x2)), .val (.int (240 : Int32))] [(.int (f4 ((x1 - (1 : Int32)) - x2))), (.int x0), (.int (240 : Int32))]))
          refine g_idiv X7 hx 56 (hb hby d3_55) (own_pz _) rfl ?_
          show Go p e below s _ _ _ (T7.setTop (mkF m 56 #[.val (.int x0), .val (.int x1), .val (.int x2), .val (.int ((x1 - (1 : Int32)) - x2)), .val (.int (240 : Int32))] [(.int (x0 / (f4 ((x1 - (1 : Int32)) - x2)))), (.int (240 : Int32))]))
          refine g_iadd X7 hx 57 (hb hby d3_56) rfl ?_
          show Go p e below s _ _ _ (T7.setTop (mkF m 57 #[.val (.int x0), .val (.int x1), .val (.int x2), .val (.int ((x1 - (1 : Int32)) - x2)), .val (.int (240 : Int32))] [(.int ((240 : Int32) + (x0 / (f4 ((x1 - (1 : Int32)) - x2)))))]))
          exact g_retI X7 hx hret hlk (hb hby d3_57) (by decide) (by decide) ⟨congrArg (fun z => some (Value.int z)) (show ((240 : Int32) + (x0 / (f4 ((x1 - (1 : Int32)) - x2)))) = (f3 x0 x1 x2) from by rw [f3, if_neg h1, if_pos h2, if_neg h3, if_neg h5]), rfl, e7⟩
    · show Go p e below s _ _ _ (T0.setTop (mkF m 58 #[.val (.int x0), .val (.int x1), .val (.int x2), .val (.int ((x1 - (1 : Int32)) - x2)), .unset] []))
      refine g_sipush X0 hx (128 : Int32) 61 (hb hby d3_58) rfl rfl ?_
      show Go p e below s _ _ _ (T0.setTop (mkF m 61 #[.val (.int x0), .val (.int x1), .val (.int x2), .val (.int ((x1 - (1 : Int32)) - x2)), .unset] [(.int (128 : Int32))]))
      refine g_iloadN X0 hx 62 (hb hby d3_61) rfl rfl ?_
      show Go p e below s _ _ _ (T0.setTop (mkF m 62 #[.val (.int x0), .val (.int x1), .val (.int x2), .val (.int ((x1 - (1 : Int32)) - x2)), .unset] [(.int x0), (.int (128 : Int32))]))
      refine g_iloadN X0 hx 63 (hb hby d3_62) rfl rfl ?_
      show Go p e below s _ _ _ (T0.setTop (mkF m 63 #[.val (.int x0), .val (.int x1), .val (.int x2), .val (.int ((x1 - (1 : Int32)) - x2)), .unset] [(.int ((x1 - (1 : Int32)) - x2)), (.int x0), (.int (128 : Int32))]))
      refine g_callS X0 hx hZ hown (hw _ (List.mem_of_getElem? (i := 16) rfl)) (hw _ (List.mem_of_getElem? (i := 17) rfl)) (hw _ (List.mem_of_getElem? (i := 8) rfl)) (hw _ (List.mem_of_getElem? (i := 18) rfl)) (by decide) e0 (rm4 l Z a0 hw [] ((x1 - (1 : Int32)) - x2) h0) [(.int ((x1 - (1 : Int32)) - x2))] [(.int x0), (.int (128 : Int32))] 2 rfl (lenOf pd__28I_29I rfl) rfl (Nat.le_of_eq rfl) (by decide) (by decide) (by decide) (by decide) (by rw [hml]; rfl) (hb hby d3_63) ?_
      intro T8 L8 v8 X8 q8
      obtain ⟨rfl, rfl, e8⟩ := q8
      show Go p e below s _ _ _ (T8.setTop (mkF m 66 #[.val (.int x0), .val (.int x1), .val (.int x2), .val (.int ((x1 - (1 : Int32)) - x2)), .unset] [(.int (f4 ((x1 - (1 : Int32)) - x2))), (.int x0), (.int (128 : Int32))]))
      refine g_idiv X8 hx 67 (hb hby d3_66) (own_pz _) rfl ?_
      show Go p e below s _ _ _ (T8.setTop (mkF m 67 #[.val (.int x0), .val (.int x1), .val (.int x2), .val (.int ((x1 - (1 : Int32)) - x2)), .unset] [(.int (x0 / (f4 ((x1 - (1 : Int32)) - x2)))), (.int (128 : Int32))]))
      refine g_bipush X8 hx (64 : Int32) 69 (hb hby d3_67) rfl rfl ?_
      show Go p e below s _ _ _ (T8.setTop (mkF m 69 #[.val (.int x0), .val (.int x1), .val (.int x2), .val (.int ((x1 - (1 : Int32)) - x2)), .unset] [(.int (64 : Int32)), (.int (x0 / (f4 ((x1 - (1 : Int32)) - x2)))), (.int (128 : Int32))]))
      refine g_irem X8 hx 70 (hb hby d3_69) (by decide) rfl ?_
      show Go p e below s _ _ _ (T8.setTop (mkF m 70 #[.val (.int x0), .val (.int x1), .val (.int x2), .val (.int ((x1 - (1 : Int32)) - x2)), .unset] [(.int ((x0 / (f4 ((x1 - (1 : Int32)) - x2))) % (64 : Int32))), (.int (128 : Int32))]))
      refine g_iadd X8 hx 71 (hb hby d3_70) rfl ?_
      show Go p e below s _ _ _ (T8.setTop (mkF m 71 #[.val (.int x0), .val (.int x1), .val (.int x2), .val (.int ((x1 - (1 : Int32)) - x2)), .unset] [(.int ((128 : Int32) + ((x0 / (f4 ((x1 - (1 : Int32)) - x2))) % (64 : Int32))))]))
      exact g_retI X8 hx hret hlk (hb hby d3_71) (by decide) (by decide) ⟨congrArg (fun z => some (Value.int z)) (show ((128 : Int32) + ((x0 / (f4 ((x1 - (1 : Int32)) - x2))) % (64 : Int32))) = (f3 x0 x1 x2) from by rw [f3, if_neg h1, if_neg h2]), rfl, e8⟩
theorem pd__28III_29I : parseMethodDescriptor "(III)I" = some ⟨[.int, .int, .int], some .int⟩ := by decide +kernel
theorem d2_0 : decode method_4_code 0 = .ok (.iload_n 1, 1) := by decide +kernel
theorem d2_1 : decode method_4_code 1 = .ok (.iload_n 2, 1) := by decide +kernel
theorem d2_2 : decode method_4_code 2 = .ok (.if_icmp .lt 10, 3) := by decide +kernel
theorem d2_5 : decode method_4_code 5 = .ok (.iload_n 1, 1) := by decide +kernel
theorem d2_6 : decode method_4_code 6 = .ok (.iload_n 2, 1) := by decide +kernel
theorem d2_7 : decode method_4_code 7 = .ok (.iload_n 3, 1) := by decide +kernel
theorem d2_8 : decode method_4_code 8 = .ok (.iadd, 1) := by decide +kernel
theorem d2_9 : decode method_4_code 9 = .ok (.if_icmp .lt 17, 3) := by decide +kernel
theorem d2_12 : decode method_4_code 12 = .ok (.aload_n 0, 1) := by decide +kernel
theorem d2_13 : decode method_4_code 13 = .ok (.iload_n 1, 1) := by decide +kernel
theorem d2_14 : decode method_4_code 14 = .ok (.baload, 1) := by decide +kernel
theorem d2_15 : decode method_4_code 15 = .ok (.iload 5, 2) := by decide +kernel
theorem d2_17 : decode method_4_code 17 = .ok (.if_icmp .ne 7, 3) := by decide +kernel
theorem d2_20 : decode method_4_code 20 = .ok (.iconst 1, 1) := by decide +kernel
theorem d2_21 : decode method_4_code 21 = .ok (.goto 4, 3) := by decide +kernel
theorem d2_24 : decode method_4_code 24 = .ok (.iconst 0, 1) := by decide +kernel
theorem d2_25 : decode method_4_code 25 = .ok (.ireturn, 1) := by decide +kernel
theorem d2_26 : decode method_4_code 26 = .ok (.aload_n 0, 1) := by decide +kernel
theorem d2_27 : decode method_4_code 27 = .ok (.iload_n 1, 1) := by decide +kernel
theorem d2_28 : decode method_4_code 28 = .ok (.baload, 1) := by decide +kernel
theorem d2_29 : decode method_4_code 29 = .ok (.iload 4, 2) := by decide +kernel
theorem d2_31 : decode method_4_code 31 = .ok (.iload_n 3, 1) := by decide +kernel
theorem d2_32 : decode method_4_code 32 = .ok (.iload_n 1, 1) := by decide +kernel
theorem d2_33 : decode method_4_code 33 = .ok (.iload_n 2, 1) := by decide +kernel
theorem d2_34 : decode method_4_code 34 = .ok (.isub, 1) := by decide +kernel
theorem d2_35 : decode method_4_code 35 = .ok (.invokestatic 14, 3) := by decide +kernel
theorem d2_38 : decode method_4_code 38 = .ok (.i2b, 1) := by decide +kernel
theorem d2_39 : decode method_4_code 39 = .ok (.if_icmp .ne 7, 3) := by decide +kernel
theorem d2_42 : decode method_4_code 42 = .ok (.iconst 1, 1) := by decide +kernel
theorem d2_43 : decode method_4_code 43 = .ok (.goto 4, 3) := by decide +kernel
theorem d2_46 : decode method_4_code 46 = .ok (.iconst 0, 1) := by decide +kernel
theorem d2_47 : decode method_4_code 47 = .ok (.ireturn, 1) := by decide +kernel
theorem ef_2 (m : MethodId) (x0 : Addr) (x1 : Int32) (x2 : Int32) (x3 : Int32) (x4 : Int32) (x5 : Int32) : entryFrame m #[(.ref x0), (.int x1), (.int x2), (.int x3), (.int x4), (.int x5)] 6 = mkF m 0 #[.val (.ref x0), .val (.int x1), .val (.int x2), .val (.int x3), .val (.int x4), .val (.int x5)] [] := by first | (simp [entryFrame, mkF, argsToLocals, Value.category]; done) | rfl
def f2 (x1 : Int32) (x2 : Int32) (x3 : Int32) (x4 : Int32) (x5 : Int32) (g : Nat → Int32) (pn : Nat) : Int32 := if x1 < x2 then (if (g pn) = x5 then (1 : Int32) else (0 : Int32)) else if x1 < (x2 + x3) then (if (g pn) = (i2bI (f3 x4 x3 (x1 - x2))) then (1 : Int32) else (0 : Int32)) else if (g pn) = x5 then (1 : Int32) else (0 : Int32)
def Q2 (Z : State) (x0 : Addr) (x1 : Int32) (x2 : Int32) (x3 : Int32) (x4 : Int32) (x5 : Int32) (n : Nat) (g : Nat → Int32) (pn : Nat) (h0 : Heap) (v : Option Value) (h : Heap) (L : List Loc) : Prop := v = some (.int (f2 x1 x2 x3 x4 x5 g pn)) ∧ L = [] ∧ h = h0
set_option maxRecDepth 65536 in
set_option maxHeartbeats 40000000 in
theorem rm2 (l : Launch) (Z : State) (a0 : Array Value) (hw : ∀ d ∈ tables_1, d.before a0 Z = true) (ws : List Jvm.Cond) (x0 : Addr) (x1 : Int32) (x2 : Int32) (x3 : Int32) (x4 : Int32) (x5 : Int32) (n : Nat) (g : Nat → Int32) (pn : Nat) (h0 : Heap) (P0 : AB Z h0 x0 n g) (hp : x1.toInt = pn) (hl : pn < n) :
    MetFree l (⟨"com/example/strict_xmlns/strictxmlns/Utf8EncodePinLaw", "ok", "([BIIIIB)Z"⟩ : MethodName) (head1 (Jvm.Cond.code (⟨"com/example/strict_xmlns/strictxmlns/Utf8EncodePinLaw", "ok", "([BIIIIB)Z"⟩ : MethodName) method_4_code 6 (some .boolean) :: ws) ({ frames := 2, cells := 0, slots := 0, locals := 31 } : Room)) (fun a U => a = #[(.ref x0), (.int x1), (.int x2), (.int x3), (.int x4), (.int x5)] ∧ Z.Warmed39 U.vm ∧ U.heap = h0) (fun _ _ _ _ _ => True) (fun _ U o U' => ∃ v L, o = .returned v ∧ Q2 Z x0 x1 x2 x3 x4 x5 n g pn h0 v U'.heap L ∧ FrameEnd U o U' L ({ frames := 2, cells := 0, slots := 0, locals := 31 } : Room).cells ({ frames := 2, cells := 0, slots := 0, locals := 31 } : Room).slots) := by
  refine g_body (plainFor_of_name pn_4) ?_
  intro p e s m below meth c T0 X0 hx hby hml hret hlk hown hnm hZ e0
  rw [ef_2]
  show Go p e below s _ _ _ (T0.setTop (mkF m 0 #[.val (.ref x0), .val (.int x1), .val (.int x2), .val (.int x3), .val (.int x4), .val (.int x5)] []))
  refine g_iloadN X0 hx 1 (hb hby d2_0) rfl rfl ?_
  show Go p e below s _ _ _ (T0.setTop (mkF m 1 #[.val (.ref x0), .val (.int x1), .val (.int x2), .val (.int x3), .val (.int x4), .val (.int x5)] [(.int x1)]))
  refine g_iloadN X0 hx 2 (hb hby d2_1) rfl rfl ?_
  show Go p e below s _ _ _ (T0.setTop (mkF m 2 #[.val (.ref x0), .val (.int x1), .val (.int x2), .val (.int x3), .val (.int x4), .val (.int x5)] [(.int x2), (.int x1)]))
  refine g_icmp_lt X0 hx 12 5 (hb hby d2_2) (by decide) rfl rfl (fun h1 => ?_) (fun h1 => ?_)
  · show Go p e below s _ _ _ (T0.setTop (mkF m 12 #[.val (.ref x0), .val (.int x1), .val (.int x2), .val (.int x3), .val (.int x4), .val (.int x5)] []))
    refine g_aloadN X0 hx 13 (hb hby d2_12) rfl rfl rfl ?_
    show Go p e below s _ _ _ (T0.setTop (mkF m 13 #[.val (.ref x0), .val (.int x1), .val (.int x2), .val (.int x3), .val (.int x4), .val (.int x5)] [(.ref x0)]))
    refine g_iloadN X0 hx 14 (hb hby d2_13) rfl rfl ?_
    show Go p e below s _ _ _ (T0.setTop (mkF m 14 #[.val (.ref x0), .val (.int x1), .val (.int x2), .val (.int x3), .val (.int x4), .val (.int x5)] [(.int x1), (.ref x0)]))
    refine g_baload X0 hx hZ e0 P0 pn hp hl 15 (hb hby d2_14) rfl ?_
    show Go p e below s _ _ _ (T0.setTop (mkF m 15 #[.val (.ref x0), .val (.int x1), .val (.int x2), .val (.int x3), .val (.int x4), .val (.int x5)] [(.int (g pn))]))
    refine g_iload X0 hx 17 (hb hby d2_15) rfl rfl ?_
    show Go p e below s _ _ _ (T0.setTop (mkF m 17 #[.val (.ref x0), .val (.int x1), .val (.int x2), .val (.int x3), .val (.int x4), .val (.int x5)] [(.int x5), (.int (g pn))]))
    refine g_icmp_ne X0 hx 24 20 (hb hby d2_17) (by decide) rfl rfl (fun h3 => ?_) (fun h3 => ?_)
    · show Go p e below s _ _ _ (T0.setTop (mkF m 20 #[.val (.ref x0), .val (.int x1), .val (.int x2), .val (.int x3), .val (.int x4), .val (.int x5)] []))
      refine g_iconst X0 hx (1 : Int32) 21 (hb hby d2_20) rfl rfl ?_
      show Go p e below s _ _ _ (T0.setTop (mkF m 21 #[.val (.ref x0), .val (.int x1), .val (.int x2), .val (.int x3), .val (.int x4), .val (.int x5)] [(.int (1 : Int32))]))
      refine g_goto X0 hx 25 (hb hby d2_21) (by decide) rfl ?_
      show Go p e below s _ _ _ (T0.setTop (mkF m 25 #[.val (.ref x0), .val (.int x1), .val (.int x2), .val (.int x3), .val (.int x4), .val (.int x5)] [(.int (1 : Int32))]))
      exact g_retN X0 hx hret (by simp) hlk (hb hby d2_25) (by decide) (by decide) ⟨congrArg (fun z => some (Value.int z)) (show (1 : Int32) = (f2 x1 x2 x3 x4 x5 g pn) from by rw [f2, if_pos h1, if_pos h3]), rfl, e0⟩
    · show Go p e below s _ _ _ (T0.setTop (mkF m 24 #[.val (.ref x0), .val (.int x1), .val (.int x2), .val (.int x3), .val (.int x4), .val (.int x5)] []))
      refine g_iconst X0 hx (0 : Int32) 25 (hb hby d2_24) rfl rfl ?_
      show Go p e below s _ _ _ (T0.setTop (mkF m 25 #[.val (.ref x0), .val (.int x1), .val (.int x2), .val (.int x3), .val (.int x4), .val (.int x5)] [(.int (0 : Int32))]))
      exact g_retN X0 hx hret (by simp) hlk (hb hby d2_25) (by decide) (by decide) ⟨congrArg (fun z => some (Value.int z)) (show (0 : Int32) = (f2 x1 x2 x3 x4 x5 g pn) from by rw [f2, if_pos h1, if_neg h3]), rfl, e0⟩
  · show Go p e below s _ _ _ (T0.setTop (mkF m 5 #[.val (.ref x0), .val (.int x1), .val (.int x2), .val (.int x3), .val (.int x4), .val (.int x5)] []))
    refine g_iloadN X0 hx 6 (hb hby d2_5) rfl rfl ?_
    show Go p e below s _ _ _ (T0.setTop (mkF m 6 #[.val (.ref x0), .val (.int x1), .val (.int x2), .val (.int x3), .val (.int x4), .val (.int x5)] [(.int x1)]))
    refine g_iloadN X0 hx 7 (hb hby d2_6) rfl rfl ?_
    show Go p e below s _ _ _ (T0.setTop (mkF m 7 #[.val (.ref x0), .val (.int x1), .val (.int x2), .val (.int x3), .val (.int x4), .val (.int x5)] [(.int x2), (.int x1)]))
    refine g_iloadN X0 hx 8 (hb hby d2_7) rfl rfl ?_
    show Go p e below s _ _ _ (T0.setTop (mkF m 8 #[.val (.ref x0), .val (.int x1), .val (.int x2), .val (.int x3), .val (.int x4), .val (.int x5)] [(.int x3), (.int x2), (.int x1)]))
    refine g_iadd X0 hx 9 (hb hby d2_8) rfl ?_
    show Go p e below s _ _ _ (T0.setTop (mkF m 9 #[.val (.ref x0), .val (.int x1), .val (.int x2), .val (.int x3), .val (.int x4), .val (.int x5)] [(.int (x2 + x3)), (.int x1)]))
    refine g_icmp_lt X0 hx 26 12 (hb hby d2_9) (by decide) rfl rfl (fun h4 => ?_) (fun h4 => ?_)
    · show Go p e below s _ _ _ (T0.setTop (mkF m 26 #[.val (.ref x0), .val (.int x1), .val (.int x2), .val (.int x3), .val (.int x4), .val (.int x5)] []))
      refine g_aloadN X0 hx 27 (hb hby d2_26) rfl rfl rfl ?_
      show Go p e below s _ _ _ (T0.setTop (mkF m 27 #[.val (.ref x0), .val (.int x1), .val (.int x2), .val (.int x3), .val (.int x4), .val (.int x5)] [(.ref x0)]))
      refine g_iloadN X0 hx 28 (hb hby d2_27) rfl rfl ?_
      show Go p e below s _ _ _ (T0.setTop (mkF m 28 #[.val (.ref x0), .val (.int x1), .val (.int x2), .val (.int x3), .val (.int x4), .val (.int x5)] [(.int x1), (.ref x0)]))
      refine g_baload X0 hx hZ e0 P0 pn hp hl 29 (hb hby d2_28) rfl ?_
      show Go p e below s _ _ _ (T0.setTop (mkF m 29 #[.val (.ref x0), .val (.int x1), .val (.int x2), .val (.int x3), .val (.int x4), .val (.int x5)] [(.int (g pn))]))
      refine g_iload X0 hx 31 (hb hby d2_29) rfl rfl ?_
      show Go p e below s _ _ _ (T0.setTop (mkF m 31 #[.val (.ref x0), .val (.int x1), .val (.int x2), .val (.int x3), .val (.int x4), .val (.int x5)] [(.int x4), (.int (g pn))]))
      refine g_iloadN X0 hx 32 (hb hby d2_31) rfl rfl ?_
      show Go p e below s _ _ _ (T0.setTop (mkF m 32 #[.val (.ref x0), .val (.int x1), .val (.int x2), .val (.int x3), .val (.int x4), .val (.int x5)] [(.int x3), (.int x4), (.int (g pn))]))
      refine g_iloadN X0 hx 33 (hb hby d2_32) rfl rfl ?_
      show Go p e below s _ _ _ (T0.setTop (mkF m 33 #[.val (.ref x0), .val (.int x1), .val (.int x2), .val (.int x3), .val (.int x4), .val (.int x5)] [(.int x1), (.int x3), (.int x4), (.int (g pn))]))
      refine g_iloadN X0 hx 34 (hb hby d2_33) rfl rfl ?_
      show Go p e below s _ _ _ (T0.setTop (mkF m 34 #[.val (.ref x0), .val (.int x1), .val (.int x2), .val (.int x3), .val (.int x4), .val (.int x5)] [(.int x2), (.int x1), (.int x3), (.int x4), (.int (g pn))]))
      refine g_isub X0 hx 35 (hb hby d2_34) rfl ?_
      show Go p e below s _ _ _ (T0.setTop (mkF m 35 #[.val (.ref x0), .val (.int x1), .val (.int x2), .val (.int x3), .val (.int x4), .val (.int x5)] [(.int (x1 - x2)), (.int x3), (.int x4), (.int (g pn))]))
      refine g_callS X0 hx hZ hown (hw _ (List.mem_of_getElem? (i := 10) rfl)) (hw _ (List.mem_of_getElem? (i := 11) rfl)) (hw _ (List.mem_of_getElem? (i := 8) rfl)) (hw _ (List.mem_of_getElem? (i := 12) rfl)) (by decide) e0 (rm3 l Z a0 hw [] x4 x3 (x1 - x2) h0) [(.int x4), (.int x3), (.int (x1 - x2))] [(.int (g pn))] 1 rfl (lenOf pd__28III_29I rfl) rfl (Nat.le_of_eq rfl) (by decide) (by decide) (by decide) (by decide) (by rw [hml]; rfl) (hb hby d2_35) ?_
      intro T6 L6 v6 X6 q6
      obtain ⟨rfl, rfl, e6⟩ := q6
      show Go p e below s _ _ _ (T6.setTop (mkF m 38 #[.val (.ref x0), .val (.int x1), .val (.int x2), .val (.int x3), .val (.int x4), .val (.int x5)] [(.int (f3 x4 x3 (x1 - x2))), (.int (g pn))]))
      refine g_i2b X6 hx 39 (hb hby d2_38) rfl ?_
      show Go p e below s _ _ _ (T6.setTop (mkF m 39 #[.val (.ref x0), .val (.int x1), .val (.int x2), .val (.int x3), .val (.int x4), .val (.int x5)] [(.int (i2bI (f3 x4 x3 (x1 - x2)))), (.int (g pn))]))
      refine g_icmp_ne X6 hx 46 42 (hb hby d2_39) (by decide) rfl rfl (fun h7 => ?_) (fun h7 => ?_)
      · show Go p e below s _ _ _ (T6.setTop (mkF m 42 #[.val (.ref x0), .val (.int x1), .val (.int x2), .val (.int x3), .val (.int x4), .val (.int x5)] []))
        refine g_iconst X6 hx (1 : Int32) 43 (hb hby d2_42) rfl rfl ?_
        show Go p e below s _ _ _ (T6.setTop (mkF m 43 #[.val (.ref x0), .val (.int x1), .val (.int x2), .val (.int x3), .val (.int x4), .val (.int x5)] [(.int (1 : Int32))]))
        refine g_goto X6 hx 47 (hb hby d2_43) (by decide) rfl ?_
        show Go p e below s _ _ _ (T6.setTop (mkF m 47 #[.val (.ref x0), .val (.int x1), .val (.int x2), .val (.int x3), .val (.int x4), .val (.int x5)] [(.int (1 : Int32))]))
        exact g_retN X6 hx hret (by simp) hlk (hb hby d2_47) (by decide) (by decide) ⟨congrArg (fun z => some (Value.int z)) (show (1 : Int32) = (f2 x1 x2 x3 x4 x5 g pn) from by rw [f2, if_neg h1, if_pos h4, if_pos h7]), rfl, e6⟩
      · show Go p e below s _ _ _ (T6.setTop (mkF m 46 #[.val (.ref x0), .val (.int x1), .val (.int x2), .val (.int x3), .val (.int x4), .val (.int x5)] []))
        refine g_iconst X6 hx (0 : Int32) 47 (hb hby d2_46) rfl rfl ?_
        show Go p e below s _ _ _ (T6.setTop (mkF m 47 #[.val (.ref x0), .val (.int x1), .val (.int x2), .val (.int x3), .val (.int x4), .val (.int x5)] [(.int (0 : Int32))]))
        exact g_retN X6 hx hret (by simp) hlk (hb hby d2_47) (by decide) (by decide) ⟨congrArg (fun z => some (Value.int z)) (show (0 : Int32) = (f2 x1 x2 x3 x4 x5 g pn) from by rw [f2, if_neg h1, if_pos h4, if_neg h7]), rfl, e6⟩
    · show Go p e below s _ _ _ (T0.setTop (mkF m 12 #[.val (.ref x0), .val (.int x1), .val (.int x2), .val (.int x3), .val (.int x4), .val (.int x5)] []))
      refine g_aloadN X0 hx 13 (hb hby d2_12) rfl rfl rfl ?_
      show Go p e below s _ _ _ (T0.setTop (mkF m 13 #[.val (.ref x0), .val (.int x1), .val (.int x2), .val (.int x3), .val (.int x4), .val (.int x5)] [(.ref x0)]))
      refine g_iloadN X0 hx 14 (hb hby d2_13) rfl rfl ?_
      show Go p e below s _ _ _ (T0.setTop (mkF m 14 #[.val (.ref x0), .val (.int x1), .val (.int x2), .val (.int x3), .val (.int x4), .val (.int x5)] [(.int x1), (.ref x0)]))
      refine g_baload X0 hx hZ e0 P0 pn hp hl 15 (hb hby d2_14) rfl ?_
      show Go p e below s _ _ _ (T0.setTop (mkF m 15 #[.val (.ref x0), .val (.int x1), .val (.int x2), .val (.int x3), .val (.int x4), .val (.int x5)] [(.int (g pn))]))
      refine g_iload X0 hx 17 (hb hby d2_15) rfl rfl ?_
      show Go p e below s _ _ _ (T0.setTop (mkF m 17 #[.val (.ref x0), .val (.int x1), .val (.int x2), .val (.int x3), .val (.int x4), .val (.int x5)] [(.int x5), (.int (g pn))]))
      refine g_icmp_ne X0 hx 24 20 (hb hby d2_17) (by decide) rfl rfl (fun h9 => ?_) (fun h9 => ?_)
      · show Go p e below s _ _ _ (T0.setTop (mkF m 20 #[.val (.ref x0), .val (.int x1), .val (.int x2), .val (.int x3), .val (.int x4), .val (.int x5)] []))
        refine g_iconst X0 hx (1 : Int32) 21 (hb hby d2_20) rfl rfl ?_
        show Go p e below s _ _ _ (T0.setTop (mkF m 21 #[.val (.ref x0), .val (.int x1), .val (.int x2), .val (.int x3), .val (.int x4), .val (.int x5)] [(.int (1 : Int32))]))
        refine g_goto X0 hx 25 (hb hby d2_21) (by decide) rfl ?_
        show Go p e below s _ _ _ (T0.setTop (mkF m 25 #[.val (.ref x0), .val (.int x1), .val (.int x2), .val (.int x3), .val (.int x4), .val (.int x5)] [(.int (1 : Int32))]))
        exact g_retN X0 hx hret (by simp) hlk (hb hby d2_25) (by decide) (by decide) ⟨congrArg (fun z => some (Value.int z)) (show (1 : Int32) = (f2 x1 x2 x3 x4 x5 g pn) from by rw [f2, if_neg h1, if_neg h4, if_pos h9]), rfl, e0⟩
      · show Go p e below s _ _ _ (T0.setTop (mkF m 24 #[.val (.ref x0), .val (.int x1), .val (.int x2), .val (.int x3), .val (.int x4), .val (.int x5)] []))
        refine g_iconst X0 hx (0 : Int32) 25 (hb hby d2_24) rfl rfl ?_
        show Go p e below s _ _ _ (T0.setTop (mkF m 25 #[.val (.ref x0), .val (.int x1), .val (.int x2), .val (.int x3), .val (.int x4), .val (.int x5)] [(.int (0 : Int32))]))
        exact g_retN X0 hx hret (by simp) hlk (hb hby d2_25) (by decide) (by decide) ⟨congrArg (fun z => some (Value.int z)) (show (0 : Int32) = (f2 x1 x2 x3 x4 x5 g pn) from by rw [f2, if_neg h1, if_neg h4, if_neg h9]), rfl, e0⟩
def v0_kind (x0 : Int32) : Int32 := (x0 &&& (3 : Int32))
def v0_v (x1 : Int32) : Int32 := (x1 &&& (2147483647 : Int32))
def v0_len (x0 : Int32) : Int32 := ((v0_kind x0) + (1 : Int32))
def v0_fill (x3 : Int32) : Int32 := (i2bI x3)
def v0_at (x2 : Int32) : Int32 := (x2 &&& (3 : Int32))
def own_c (x0 : Int32) (x1 : Int32) : Int32 := (if (v0_kind x0) = (0 : Int32) then (x1 &&& (127 : Int32)) else (if (v0_kind x0) = (1 : Int32) then ((128 : Int32) + ((v0_v x1) % (1920 : Int32))) else (if (v0_kind x0) = (2 : Int32) then ((2048 : Int32) + ((v0_v x1) % (63488 : Int32))) else ((65536 : Int32) + ((v0_v x1) % (1048576 : Int32))))))
def own_base (x3 : Int32) : Nat → Int32 := (upd (upd (upd (upd (upd (upd (upd (upd (fun _ => (0 : Int32)) 0 (i2bI (v0_fill x3))) 1 (i2bI (v0_fill x3))) 2 (i2bI (v0_fill x3))) 3 (i2bI (v0_fill x3))) 4 (i2bI (v0_fill x3))) 5 (i2bI (v0_fill x3))) 6 (i2bI (v0_fill x3))) 7 (i2bI (v0_fill x3)))
theorem own_ii (x : Int32) : i2bI (i2bI x) = i2bI x := by unfold i2bI; simp
theorem own_orp (a b : Int32) (k : Nat) (hk : k ≤ 31) (P : Int) (hP : P = (2 ^ k : Nat)) (h1 : a.toInt % P = 0) (h2 : 0 ≤ b.toInt) (h3 : b.toInt < P) (h4 : a.toInt + b.toInt < 2147483648) (h5 : 0 ≤ a.toInt) : a ||| b = a + b := by
  apply Int32.toInt_inj.mp
  have o := c_or a b k hk P hP h1 h2 h3
  have s := c_iadd a b
  have r1 := rng32 (a ||| b); have r2 := rng32 (a + b)
  omega
theorem own_sh (C q : Int32) (k : Nat) (D : Int32) (d : Int) (hk : q.toBitVec.toNat % 32 = k) (hd : D.toInt = d) (hd2 : ((2 ^ k : Nat) : Int) = d) (hn : D ≠ -1) (h0 : 0 ≤ C.toInt) : shrI C q = C / D := by
  apply Int32.toInt_inj.mp
  have a : (shrI C q).toInt = C.toInt / (2 ^ k : Nat) := c_ishr C q k hk
  rw [a, (c_idiv C D d hd hn).1 h0, hd2]
theorem own_md (x : Int32) (h0 : 0 ≤ x.toInt) : x &&& 63 = x % 64 := by
  apply Int32.toInt_inj.mp
  have a : (x &&& 63).toInt = x.toInt % 64 := c_mask x 63 6 (by decide) (by decide)
  rw [a, (c_irem x 64 64 rfl).1 h0]
theorem own_dv (C D : Int32) (d : Int) (hd : D.toInt = d) (hp : 0 < d) (hn : D ≠ -1) (h0 : 0 ≤ C.toInt) : (C / D).toInt = C.toInt / d ∧ 0 ≤ (C / D).toInt := by
  have a := (c_idiv C D d hd hn).1 h0
  exact ⟨a, by rw [a]; exact Int.ediv_nonneg h0 (by omega)⟩
theorem own_low (x : Int32) (h0 : 0 ≤ x.toInt) : (128 : Int32) ||| (x &&& 63) = 128 + x % 64 := by
  rw [own_md x h0]
  have a := (c_irem x 64 64 rfl).1 h0
  exact own_orp 128 (x % 64) 6 (by decide) 64 rfl (by decide) (by omega) (by omega) (by have e : (128 : Int32).toInt = 128 := rfl; omega) (by decide)
theorem own_d1 (C : Int32) : C / 1 = C := by
  apply Int32.toInt_inj.mp
  rw [Int32.toInt_div_of_ne_right C 1 (by decide)]
  show C.toInt.tdiv 1 = C.toInt
  exact Int.tdiv_one _
theorem own_mid (C q : Int32) (k : Nat) (D : Int32) (d : Int) (hk : q.toBitVec.toNat % 32 = k) (hd : D.toInt = d) (hd2 : ((2 ^ k : Nat) : Int) = d) (hp : 0 < d) (hn : D ≠ -1) (h0 : 0 ≤ C.toInt) : (128 : Int32) ||| (shrI C q &&& 63) = 128 + (C / D) % 64 := by
  rw [own_sh C q k D d hk hd hd2 hn h0]
  exact own_low _ (own_dv C D d hd hp hn h0).2
theorem own_top (b C q : Int32) (k : Nat) (D : Int32) (d : Int) (j : Nat) (P : Int) (hk : q.toBitVec.toNat % 32 = k) (hd : D.toInt = d) (hd2 : ((2 ^ k : Nat) : Int) = d) (hp : 0 < d) (hn : D ≠ -1) (h0 : 0 ≤ C.toInt) (hj : j ≤ 31) (hP : P = (2 ^ j : Nat)) (hb : b.toInt % P = 0) (hb0 : 0 ≤ b.toInt) (hb1 : b.toInt < 1000) (hP1 : P ≤ 1000) (hl : C.toInt / d < P) : b ||| shrI C q = b + C / D := by
  rw [own_sh C q k D d hk hd hd2 hn h0]
  obtain ⟨e1, e2⟩ := own_dv C D d hd hp hn h0
  exact own_orp b (C / D) j hj P hP hb e2 (by rw [e1]; exact hl) (by rw [e1]; omega) hb0
/-- the kinds -/
theorem own_k (x : Int32) : v0_kind x = 0 ∨ v0_kind x = 1 ∨ v0_kind x = 2 ∨ v0_kind x = 3 := by
  have h : (v0_kind x).toInt = x.toInt % 4 := c_mask x 3 2 (by decide) (by decide)
  have e : ∀ n : Nat, n < 4 → (v0_kind x).toInt = n → v0_kind x = Int32.ofNat n := fun n hn q => Int32.toInt_inj.mp (by rw [q, Int32.toInt_ofNat_of_lt (by omega)])
  rcases (by omega : (v0_kind x).toInt = 0 ∨ (v0_kind x).toInt = 1 ∨ (v0_kind x).toInt = 2 ∨ (v0_kind x).toInt = 3) with z | z | z | z
  · exact Or.inl (e 0 (by decide) z)
  · exact Or.inr (Or.inl (e 1 (by decide) z))
  · exact Or.inr (Or.inr (Or.inl (e 2 (by decide) z)))
  · exact Or.inr (Or.inr (Or.inr (e 3 (by decide) z)))
def own_an (x : Int32) : Nat := (v0_at x).toInt.toNat
theorem own_at (x : Int32) : (v0_at x).toInt = own_an x ∧ own_an x < 4 := by
  have h : (v0_at x).toInt = x.toInt % 4 := c_mask x 3 2 (by decide) (by decide)
  unfold own_an; omega
theorem own_v (x : Int32) : (v0_v x).toInt = x.toInt % 2147483648 := c_mask x 2147483647 31 (by decide) (by decide)
theorem own_c0 (x0 x1 : Int32) (h : v0_kind x0 = 0) : 0 ≤ (own_c x0 x1).toInt ∧ (own_c x0 x1).toInt < 128 := by
  unfold own_c; rw [if_pos h]
  have m : (x1 &&& 127).toInt = x1.toInt % 128 := c_mask x1 127 7 (by decide) (by decide)
  omega
theorem own_sum (a v m : Int32) (an mn : Int) (ha : a.toInt = an) (hm : m.toInt = mn) (h0 : 0 ≤ an) (h1 : 0 < mn) (h2 : an + mn < 2147483648) (hv : 0 ≤ v.toInt) : an ≤ (a + v % m).toInt ∧ (a + v % m).toInt < an + mn := by
  have r := (c_irem v m mn hm).1 hv
  have q1 := Int.emod_nonneg v.toInt (b := mn) (by omega)
  have q2 := Int.emod_lt_of_pos v.toInt h1
  have s := c_iadd a (v % m); have rs := rng32 (a + v % m)
  omega
theorem own_c1 (x0 x1 : Int32) (h : v0_kind x0 = 1) : 128 ≤ (own_c x0 x1).toInt ∧ (own_c x0 x1).toInt < 2048 := by
  unfold own_c; rw [if_neg (by rw [h]; decide), if_pos h]
  have v := own_v x1
  exact own_sum 128 (v0_v x1) 1920 128 1920 rfl rfl (by decide) (by decide) (by decide) (by omega)
theorem own_c2 (x0 x1 : Int32) (h : v0_kind x0 = 2) : 2048 ≤ (own_c x0 x1).toInt ∧ (own_c x0 x1).toInt < 65536 := by
  unfold own_c; rw [if_neg (by rw [h]; decide), if_neg (by rw [h]; decide), if_pos h]
  have v := own_v x1
  exact own_sum 2048 (v0_v x1) 63488 2048 63488 rfl rfl (by decide) (by decide) (by decide) (by omega)
theorem own_c3 (x0 x1 : Int32) (h : v0_kind x0 = 3) : 65536 ≤ (own_c x0 x1).toInt ∧ (own_c x0 x1).toInt < 1114112 := by
  unfold own_c; rw [if_neg (by rw [h]; decide), if_neg (by rw [h]; decide), if_neg (by rw [h]; decide)]
  have v := own_v x1
  exact own_sum 65536 (v0_v x1) 1048576 65536 1048576 rfl rfl (by decide) (by decide) (by decide) (by omega)
theorem own_lt {a b : Int32} {n : Int} (hb : b.toInt = n) (h : a.toInt < n) : a < b := by rw [Int32.lt_iff_toInt_lt, hb]; exact h
theorem own_nlt {a b : Int32} {n : Int} (hb : b.toInt = n) (h : n ≤ a.toInt) : ¬ a < b := by rw [Int32.lt_iff_toInt_lt, hb]; omega
/-- how many bytes, and what stands at each place: the bytes at 'an' and behind, the fill elsewhere -/
theorem own_enc (C : Int32) (L : Int32) (ln : Nat) (base : Nat → Int32) (an : Nat) (h : (L = 1 ∧ ln = 1 ∧ 0 ≤ C.toInt ∧ C.toInt < 128) ∨ (L = 2 ∧ ln = 2 ∧ 128 ≤ C.toInt ∧ C.toInt < 2048) ∨ (L = 3 ∧ ln = 3 ∧ 2048 ≤ C.toInt ∧ C.toInt < 65536) ∨ (L = 4 ∧ ln = 4 ∧ 65536 ≤ C.toInt ∧ C.toInt < 1114112)) :
    (∀ x2, f1 C x2 = x2 + L) ∧ (∀ j, j < an ∨ an + ln ≤ j → g1_x1 C base an j = base j) ∧ (∀ i, i < ln → g1_x1 C base an (an + i) = i2bI (f3 C L (Int32.ofNat i))) := by
  rcases h with ⟨rfl, rfl, b0, b1⟩ | ⟨rfl, rfl, b0, b1⟩ | ⟨rfl, rfl, b0, b1⟩ | ⟨rfl, rfl, b0, b1⟩
  · have q : C < 128 := own_lt rfl b1
    have E : g1_x1 C base an = upd base an (i2bI (i2bI C)) := by unfold g1_x1; rw [if_pos q]
    refine ⟨fun x2 => by unfold f1; rw [if_pos q], fun j hj => ?_, fun i hi => ?_⟩
    · rw [E]; simp only [upd]; rw [if_neg (by omega)]
    · obtain rfl : i = 0 := by omega
      rw [E]; simp only [upd, Nat.add_zero, if_true]
      rw [own_ii]; rfl
  · have q1 : ¬ C < 128 := own_nlt rfl b0
    have q2 : C < 2048 := own_lt rfl b1
    have E : g1_x1 C base an = upd (upd base an (i2bI (i2bI (192 ||| shrI C 6)))) (an + 1) (i2bI (i2bI (128 ||| (C &&& 63)))) := by unfold g1_x1; rw [if_neg q1, if_pos q2]
    refine ⟨fun x2 => by unfold f1; rw [if_neg q1, if_pos q2], fun j hj => ?_, fun i hi => ?_⟩
    · rw [E]; simp only [upd]; rw [if_neg (by omega), if_neg (by omega)]
    · rcases (by omega : i = 0 ∨ i = 1) with rfl | rfl
      · rw [E]; simp only [upd, Nat.add_zero]; rw [if_neg (by omega), if_pos trivial, own_ii]
        rw [own_top 192 C 6 6 64 64 6 64 (by decide) rfl rfl (by decide) (by decide) (by omega) (by decide) rfl (by decide) (by decide) (by decide) (by decide) (by omega)]; rfl
      · rw [E]; simp only [upd]; rw [if_pos trivial, own_ii, own_low C (by omega), ← congrArg (fun z => 128 + z % 64) (own_d1 C)]; rfl
  · have q1 : ¬ C < 128 := own_nlt (n := 128) rfl (by omega)
    have q2 : ¬ C < 2048 := own_nlt rfl b0
    have q3 : C < 65536 := own_lt rfl b1
    have E : g1_x1 C base an = upd (upd (upd base an (i2bI (i2bI (224 ||| shrI C 12)))) (an + 1) (i2bI (i2bI (128 ||| (shrI C 6 &&& 63))))) (an + 2) (i2bI (i2bI (128 ||| (C &&& 63)))) := by unfold g1_x1; rw [if_neg q1, if_neg q2, if_pos q3]
    refine ⟨fun x2 => by unfold f1; rw [if_neg q1, if_neg q2, if_pos q3], fun j hj => ?_, fun i hi => ?_⟩
    · rw [E]; simp only [upd]; rw [if_neg (by omega), if_neg (by omega), if_neg (by omega)]
    · rcases (by omega : i = 0 ∨ i = 1 ∨ i = 2) with rfl | rfl | rfl
      · rw [E]; simp only [upd, Nat.add_zero]; rw [if_neg (by omega), if_neg (by omega), if_pos trivial, own_ii]
        rw [own_top 224 C 12 12 4096 4096 5 32 (by decide) rfl rfl (by decide) (by decide) (by omega) (by decide) rfl (by decide) (by decide) (by decide) (by decide) (by omega)]; rfl
      · rw [E]; simp only [upd]; rw [if_neg (by omega), if_pos trivial, own_ii]
        rw [own_mid C 6 6 64 64 (by decide) rfl rfl (by decide) (by decide) (by omega)]; rfl
      · rw [E]; simp only [upd]; rw [if_pos trivial, own_ii, own_low C (by omega), ← congrArg (fun z => 128 + z % 64) (own_d1 C)]; rfl
  · have q1 : ¬ C < 128 := own_nlt (n := 128) rfl (by omega)
    have q2 : ¬ C < 2048 := own_nlt (n := 2048) rfl (by omega)
    have q3 : ¬ C < 65536 := own_nlt rfl b0
    have E : g1_x1 C base an = upd (upd (upd (upd base an (i2bI (i2bI (240 ||| shrI C 18)))) (an + 1) (i2bI (i2bI (128 ||| (shrI C 12 &&& 63))))) (an + 2) (i2bI (i2bI (128 ||| (shrI C 6 &&& 63))))) (an + 3) (i2bI (i2bI (128 ||| (C &&& 63)))) := by unfold g1_x1; rw [if_neg q1, if_neg q2, if_neg q3]
    refine ⟨fun x2 => by unfold f1; rw [if_neg q1, if_neg q2, if_neg q3], fun j hj => ?_, fun i hi => ?_⟩
    · rw [E]; simp only [upd]; rw [if_neg (by omega), if_neg (by omega), if_neg (by omega), if_neg (by omega)]
    · rcases (by omega : i = 0 ∨ i = 1 ∨ i = 2 ∨ i = 3) with rfl | rfl | rfl | rfl
      · rw [E]; simp only [upd, Nat.add_zero]; rw [if_neg (by omega), if_neg (by omega), if_neg (by omega), if_pos trivial, own_ii]
        rw [own_top 240 C 18 18 262144 262144 4 16 (by decide) rfl rfl (by decide) (by decide) (by omega) (by decide) rfl (by decide) (by decide) (by decide) (by decide) (by omega)]; rfl
      · rw [E]; simp only [upd]; rw [if_neg (by omega), if_neg (by omega), if_pos trivial, own_ii]
        rw [own_mid C 12 12 4096 4096 (by decide) rfl rfl (by decide) (by decide) (by omega)]; rfl
      · rw [E]; simp only [upd]; rw [if_neg (by omega), if_pos trivial, own_ii]
        rw [own_mid C 6 6 64 64 (by decide) rfl rfl (by decide) (by decide) (by omega)]; rfl
      · rw [E]; simp only [upd]; rw [if_pos trivial, own_ii, own_low C (by omega), ← congrArg (fun z => 128 + z % 64) (own_d1 C)]; rfl
theorem own_all (x0 x1 : Int32) : ∃ ln : Nat, (v0_len x0).toInt = ln ∧ 1 ≤ ln ∧ ln ≤ 4 ∧ ∀ (base : Nat → Int32) (an : Nat), (∀ x2, f1 (own_c x0 x1) x2 = x2 + v0_len x0) ∧ (∀ j, j < an ∨ an + ln ≤ j → g1_x1 (own_c x0 x1) base an j = base j) ∧ (∀ i, i < ln → g1_x1 (own_c x0 x1) base an (an + i) = i2bI (f3 (own_c x0 x1) (v0_len x0) (Int32.ofNat i))) := by
  rcases own_k x0 with h | h | h | h
  · have e : v0_len x0 = 1 := by unfold v0_len; rw [h]; rfl
    have b := own_c0 x0 x1 h
    exact ⟨1, by rw [e]; rfl, by decide, by decide, fun base an => own_enc _ _ 1 base an (Or.inl ⟨e, rfl, b.1, b.2⟩)⟩
  · have e : v0_len x0 = 2 := by unfold v0_len; rw [h]; rfl
    have b := own_c1 x0 x1 h
    exact ⟨2, by rw [e]; rfl, by decide, by decide, fun base an => own_enc _ _ 2 base an (Or.inr (Or.inl ⟨e, rfl, b.1, b.2⟩))⟩
  · have e : v0_len x0 = 3 := by unfold v0_len; rw [h]; rfl
    have b := own_c2 x0 x1 h
    exact ⟨3, by rw [e]; rfl, by decide, by decide, fun base an => own_enc _ _ 3 base an (Or.inr (Or.inr (Or.inl ⟨e, rfl, b.1, b.2⟩)))⟩
  · have e : v0_len x0 = 4 := by unfold v0_len; rw [h]; rfl
    have b := own_c3 x0 x1 h
    exact ⟨4, by rw [e]; rfl, by decide, by decide, fun base an => own_enc _ _ 4 base an (Or.inr (Or.inr (Or.inr ⟨e, rfl, b.1, b.2⟩)))⟩
theorem own_r (x0 x1 x2 : Int32) : f1 (own_c x0 x1) (v0_at x2) = v0_at x2 + v0_len x0 := by
  obtain ⟨ln, -, -, -, f⟩ := own_all x0 x1
  exact (f (fun _ => 0) 0).1 _
theorem own_bs (x3 : Int32) (j : Nat) (h : j < 8) : own_base x3 j = v0_fill x3 := by
  have e : i2bI (v0_fill x3) = v0_fill x3 := own_ii x3
  rcases (by omega : j = 0 ∨ j = 1 ∨ j = 2 ∨ j = 3 ∨ j = 4 ∨ j = 5 ∨ j = 6 ∨ j = 7) with rfl | rfl | rfl | rfl | rfl | rfl | rfl | rfl <;> exact e
theorem own_okp (x0 x1 x2 x3 p : Int32) (pn : Nat) (hp : p.toInt = pn) (h8 : pn < 8) : ¬ f2 p (v0_at x2) (v0_len x0) (own_c x0 x1) (v0_fill x3) (g1_x1 (own_c x0 x1) (own_base x3) (own_an x2)) pn = 0 := by
  obtain ⟨ln, hl, l1, l4, f⟩ := own_all x0 x1
  obtain ⟨-, f2', f3'⟩ := f (own_base x3) (own_an x2)
  have a := own_at x2
  have s : (v0_at x2 + v0_len x0).toInt = ((own_an x2 + ln : Nat) : Int) := own_add a.1 hl (by omega)
  unfold f2
  by_cases c1 : p < v0_at x2
  · rw [if_pos c1]
    rw [Int32.lt_iff_toInt_lt] at c1
    rw [f2' pn (Or.inl (by omega)), own_bs x3 pn h8, if_pos rfl]; decide
  · rw [if_neg c1]
    rw [Int32.lt_iff_toInt_lt] at c1
    by_cases c2 : p < v0_at x2 + v0_len x0
    · rw [if_pos c2]
      rw [Int32.lt_iff_toInt_lt] at c2
      have e : p - v0_at x2 = Int32.ofNat (pn - own_an x2) := by
        apply Int32.toInt_inj.mp
        have d := c_isub p (v0_at x2); have r := rng32 (p - v0_at x2)
        rw [Int32.toInt_ofNat_of_lt (by omega)]; omega
      have g := f3' (pn - own_an x2) (by omega)
      rw [show own_an x2 + (pn - own_an x2) = pn from by omega] at g
      rw [e, g, if_pos rfl]; decide
    · rw [if_neg c2]
      rw [Int32.lt_iff_toInt_lt] at c2
      rw [f2' pn (Or.inr (by omega)), own_bs x3 pn h8, if_pos rfl]; decide

theorem pd__28I_5bBI_29I : parseMethodDescriptor "(I[BI)I" = some ⟨[.int, (.array .byte), .int], some .int⟩ := by decide +kernel
theorem pd__28_5bBIIIIB_29Z : parseMethodDescriptor "([BIIIIB)Z" = some ⟨[(.array .byte), .int, .int, .int, .int, .byte], some .boolean⟩ := by decide +kernel
theorem ef_0 (m : MethodId) (x0 : Int32) (x1 : Int32) (x2 : Int32) (x3 : Int32) : entryFrame m #[(.int x0), (.int x1), (.int x2), (.int x3)] maxLocals = mkF m 0 #[.val (.int x0), .val (.int x1), .val (.int x2), .val (.int x3), .unset, .unset, .unset, .unset, .unset, .unset, .unset, .unset] [] := by first | (simp [entryFrame, mkF, argsToLocals, Value.category, maxLocals]; done) | rfl
def z0_76_l6_1 (x0 : Int32) (x1 : Int32) : Int32 := (if (v0_kind x0) = (0 : Int32) then (x1 &&& (127 : Int32)) else (if (v0_kind x0) = (1 : Int32) then ((128 : Int32) + ((v0_v x1) % (1920 : Int32))) else (if (v0_kind x0) = (2 : Int32) then ((2048 : Int32) + ((v0_v x1) % (63488 : Int32))) else ((65536 : Int32) + ((v0_v x1) % (1048576 : Int32))))))
def Q0 (Z : State) (x0 : Int32) (x1 : Int32) (x2 : Int32) (x3 : Int32) (h0 : Heap) (n0 : Nat) (v : Option Value) (h : Heap) (L : List Loc) : Prop := v = some (.int (1 : Int32)) ∧ Fr n0 L
set_option maxRecDepth 65536 in
set_option maxHeartbeats 40000000 in
theorem rm0 (l : Launch) (Z : State) (a0 : Array Value) (hw : ∀ d ∈ tables_1, d.before a0 Z = true) (ws : List Jvm.Cond) (x0 : Int32) (x1 : Int32) (x2 : Int32) (x3 : Int32) (h0 : Heap) (n0 : Nat) (Z0 : n0 ≤ h0.size) :
    MetFree l x (head1 (Jvm.Cond.code x code maxLocals ret :: ws) room_1) (fun a U => a = #[(.int x0), (.int x1), (.int x2), (.int x3)] ∧ Z.Warmed39 U.vm ∧ U.heap = h0) (fun _ _ _ _ _ => True) (fun _ U o U' => ∃ v L, o = .returned v ∧ Q0 Z x0 x1 x2 x3 h0 n0 v U'.heap L ∧ FrameEnd U o U' L room_1.cells room_1.slots) := by
  refine g_body (plainFor_of_name pn_4) ?_
  intro p e s m below meth c T0 X0 hx hby hml hret hlk hown hnm hZ e0
  rw [ef_0]
  have N0 := Fr.nil n0
  show Go p e below s _ _ _ (T0.setTop (mkF m 0 #[.val (.int x0), .val (.int x1), .val (.int x2), .val (.int x3), .unset, .unset, .unset, .unset, .unset, .unset, .unset, .unset] []))
  refine g_iloadN X0 hx 1 (hb hby at_0) rfl rfl ?_
  show Go p e below s _ _ _ (T0.setTop (mkF m 1 #[.val (.int x0), .val (.int x1), .val (.int x2), .val (.int x3), .unset, .unset, .unset, .unset, .unset, .unset, .unset, .unset] [(.int x0)]))
  refine g_iconst X0 hx (3 : Int32) 2 (hb hby at_1) rfl rfl ?_
  show Go p e below s _ _ _ (T0.setTop (mkF m 2 #[.val (.int x0), .val (.int x1), .val (.int x2), .val (.int x3), .unset, .unset, .unset, .unset, .unset, .unset, .unset, .unset] [(.int (3 : Int32)), (.int x0)]))
  refine g_iand X0 hx 3 (hb hby at_2) rfl ?_
  show Go p e below s _ _ _ (T0.setTop (mkF m 3 #[.val (.int x0), .val (.int x1), .val (.int x2), .val (.int x3), .unset, .unset, .unset, .unset, .unset, .unset, .unset, .unset] [(.int (x0 &&& (3 : Int32)))]))
  refine g_istore X0 hx #[.val (.int x0), .val (.int x1), .val (.int x2), .val (.int x3), .val (.int (v0_kind x0)), .unset, .unset, .unset, .unset, .unset, .unset, .unset] 5 (hb hby at_3) rfl rfl ?_
  show Go p e below s _ _ _ (T0.setTop (mkF m 5 #[.val (.int x0), .val (.int x1), .val (.int x2), .val (.int x3), .val (.int (v0_kind x0)), .unset, .unset, .unset, .unset, .unset, .unset, .unset] []))
  refine g_iloadN X0 hx 6 (hb hby at_5) rfl rfl ?_
  show Go p e below s _ _ _ (T0.setTop (mkF m 6 #[.val (.int x0), .val (.int x1), .val (.int x2), .val (.int x3), .val (.int (v0_kind x0)), .unset, .unset, .unset, .unset, .unset, .unset, .unset] [(.int x1)]))
  refine g_ldc X0 hx hZ hown (hw _ (List.mem_of_getElem? (i := 0) rfl)) 8 (hb hby at_6) rfl ?_
  show Go p e below s _ _ _ (T0.setTop (mkF m 8 #[.val (.int x0), .val (.int x1), .val (.int x2), .val (.int x3), .val (.int (v0_kind x0)), .unset, .unset, .unset, .unset, .unset, .unset, .unset] [(.int (2147483647 : Int32)), (.int x1)]))
  refine g_iand X0 hx 9 (hb hby at_8) rfl ?_
  show Go p e below s _ _ _ (T0.setTop (mkF m 9 #[.val (.int x0), .val (.int x1), .val (.int x2), .val (.int x3), .val (.int (v0_kind x0)), .unset, .unset, .unset, .unset, .unset, .unset, .unset] [(.int (x1 &&& (2147483647 : Int32)))]))
  refine g_istore X0 hx #[.val (.int x0), .val (.int x1), .val (.int x2), .val (.int x3), .val (.int (v0_kind x0)), .val (.int (v0_v x1)), .unset, .unset, .unset, .unset, .unset, .unset] 11 (hb hby at_9) rfl rfl ?_
  show Go p e below s _ _ _ (T0.setTop (mkF m 11 #[.val (.int x0), .val (.int x1), .val (.int x2), .val (.int x3), .val (.int (v0_kind x0)), .val (.int (v0_v x1)), .unset, .unset, .unset, .unset, .unset, .unset] []))
  refine g_iload X0 hx 13 (hb hby at_11) rfl rfl ?_
  show Go p e below s _ _ _ (T0.setTop (mkF m 13 #[.val (.int x0), .val (.int x1), .val (.int x2), .val (.int x3), .val (.int (v0_kind x0)), .val (.int (v0_v x1)), .unset, .unset, .unset, .unset, .unset, .unset] [(.int (v0_kind x0))]))
  have J1 : Go p e below s (Q0 Z x0 x1 x2 x3 h0 n0) room_1.cells room_1.slots (T0.setTop (mkF m 76 #[.val (.int x0), .val (.int x1), .val (.int x2), .val (.int x3), .val (.int (v0_kind x0)), .val (.int (v0_v x1)), .val (.int (z0_76_l6_1 x0 x1)), .unset, .unset, .unset, .unset, .unset] [])) := by
    refine g_iload X0 hx 78 (hb hby at_76) rfl rfl ?_
    show Go p e below s _ _ _ (T0.setTop (mkF m 78 #[.val (.int x0), .val (.int x1), .val (.int x2), .val (.int x3), .val (.int (v0_kind x0)), .val (.int (v0_v x1)), .val (.int (z0_76_l6_1 x0 x1)), .unset, .unset, .unset, .unset, .unset] [(.int (v0_kind x0))]))
    refine g_iconst X0 hx (1 : Int32) 79 (hb hby at_78) rfl rfl ?_
    show Go p e below s _ _ _ (T0.setTop (mkF m 79 #[.val (.int x0), .val (.int x1), .val (.int x2), .val (.int x3), .val (.int (v0_kind x0)), .val (.int (v0_v x1)), .val (.int (z0_76_l6_1 x0 x1)), .unset, .unset, .unset, .unset, .unset] [(.int (1 : Int32)), (.int (v0_kind x0))]))
    refine g_iadd X0 hx 80 (hb hby at_79) rfl ?_
    show Go p e below s _ _ _ (T0.setTop (mkF m 80 #[.val (.int x0), .val (.int x1), .val (.int x2), .val (.int x3), .val (.int (v0_kind x0)), .val (.int (v0_v x1)), .val (.int (z0_76_l6_1 x0 x1)), .unset, .unset, .unset, .unset, .unset] [(.int ((v0_kind x0) + (1 : Int32)))]))
    refine g_istore X0 hx #[.val (.int x0), .val (.int x1), .val (.int x2), .val (.int x3), .val (.int (v0_kind x0)), .val (.int (v0_v x1)), .val (.int (z0_76_l6_1 x0 x1)), .val (.int (v0_len x0)), .unset, .unset, .unset, .unset] 82 (hb hby at_80) rfl rfl ?_
    show Go p e below s _ _ _ (T0.setTop (mkF m 82 #[.val (.int x0), .val (.int x1), .val (.int x2), .val (.int x3), .val (.int (v0_kind x0)), .val (.int (v0_v x1)), .val (.int (z0_76_l6_1 x0 x1)), .val (.int (v0_len x0)), .unset, .unset, .unset, .unset] []))
    refine g_iloadN X0 hx 83 (hb hby at_82) rfl rfl ?_
    show Go p e below s _ _ _ (T0.setTop (mkF m 83 #[.val (.int x0), .val (.int x1), .val (.int x2), .val (.int x3), .val (.int (v0_kind x0)), .val (.int (v0_v x1)), .val (.int (z0_76_l6_1 x0 x1)), .val (.int (v0_len x0)), .unset, .unset, .unset, .unset] [(.int x3)]))
    refine g_i2b X0 hx 84 (hb hby at_83) rfl ?_
    show Go p e below s _ _ _ (T0.setTop (mkF m 84 #[.val (.int x0), .val (.int x1), .val (.int x2), .val (.int x3), .val (.int (v0_kind x0)), .val (.int (v0_v x1)), .val (.int (z0_76_l6_1 x0 x1)), .val (.int (v0_len x0)), .unset, .unset, .unset, .unset] [(.int (i2bI x3))]))
    refine g_istore X0 hx #[.val (.int x0), .val (.int x1), .val (.int x2), .val (.int x3), .val (.int (v0_kind x0)), .val (.int (v0_v x1)), .val (.int (z0_76_l6_1 x0 x1)), .val (.int (v0_len x0)), .val (.int (v0_fill x3)), .unset, .unset, .unset] 86 (hb hby at_84) rfl rfl ?_
    show Go p e below s _ _ _ (T0.setTop (mkF m 86 #[.val (.int x0), .val (.int x1), .val (.int x2), .val (.int x3), .val (.int (v0_kind x0)), .val (.int (v0_v x1)), .val (.int (z0_76_l6_1 x0 x1)), .val (.int (v0_len x0)), .val (.int (v0_fill x3)), .unset, .unset, .unset] []))
    refine g_bipush X0 hx (8 : Int32) 88 (hb hby at_86) rfl rfl ?_
    show Go p e below s _ _ _ (T0.setTop (mkF m 88 #[.val (.int x0), .val (.int x1), .val (.int x2), .val (.int x3), .val (.int (v0_kind x0)), .val (.int (v0_v x1)), .val (.int (z0_76_l6_1 x0 x1)), .val (.int (v0_len x0)), .val (.int (v0_fill x3)), .unset, .unset, .unset] [(.int (8 : Int32))]))
    refine g_newarrayB X0 hx hZ (hw _ (List.mem_of_getElem? (i := 1) rfl)) e0 8 8 rfl (by decide) (by decide) 90 (hb hby at_88) (by decide) (by decide) rfl ?_
    intro T2 h2 b2 g2 X2 e2 E2 A2
    have N_b2 : n0 ≤ b2 := Nat.le_trans Z0 (Nat.le_of_eq g2.symm)
    have Z2 : n0 ≤ h2.size := Nat.le_trans Z0 E2.1
    show Go p e below s _ _ _ (T2.setTop (mkF m 90 #[.val (.int x0), .val (.int x1), .val (.int x2), .val (.int x3), .val (.int (v0_kind x0)), .val (.int (v0_v x1)), .val (.int (z0_76_l6_1 x0 x1)), .val (.int (v0_len x0)), .val (.int (v0_fill x3)), .unset, .unset, .unset] [(.ref b2)]))
    refine g_astore X2 hx #[.val (.int x0), .val (.int x1), .val (.int x2), .val (.int x3), .val (.int (v0_kind x0)), .val (.int (v0_v x1)), .val (.int (z0_76_l6_1 x0 x1)), .val (.int (v0_len x0)), .val (.int (v0_fill x3)), .val (.ref b2), .unset, .unset] 92 (hb hby at_90) rfl rfl rfl ?_
    show Go p e below s _ _ _ (T2.setTop (mkF m 92 #[.val (.int x0), .val (.int x1), .val (.int x2), .val (.int x3), .val (.int (v0_kind x0)), .val (.int (v0_v x1)), .val (.int (z0_76_l6_1 x0 x1)), .val (.int (v0_len x0)), .val (.int (v0_fill x3)), .val (.ref b2), .unset, .unset] []))
    refine g_aload X2 hx 94 (hb hby at_92) rfl rfl rfl ?_
    show Go p e below s _ _ _ (T2.setTop (mkF m 94 #[.val (.int x0), .val (.int x1), .val (.int x2), .val (.int x3), .val (.int (v0_kind x0)), .val (.int (v0_v x1)), .val (.int (z0_76_l6_1 x0 x1)), .val (.int (v0_len x0)), .val (.int (v0_fill x3)), .val (.ref b2), .unset, .unset] [(.ref b2)]))
    refine g_iconst X2 hx (0 : Int32) 95 (hb hby at_94) rfl rfl ?_
    show Go p e below s _ _ _ (T2.setTop (mkF m 95 #[.val (.int x0), .val (.int x1), .val (.int x2), .val (.int x3), .val (.int (v0_kind x0)), .val (.int (v0_v x1)), .val (.int (z0_76_l6_1 x0 x1)), .val (.int (v0_len x0)), .val (.int (v0_fill x3)), .val (.ref b2), .unset, .unset] [(.int (0 : Int32)), (.ref b2)]))
    refine g_iload X2 hx 97 (hb hby at_95) rfl rfl ?_
    show Go p e below s _ _ _ (T2.setTop (mkF m 97 #[.val (.int x0), .val (.int x1), .val (.int x2), .val (.int x3), .val (.int (v0_kind x0)), .val (.int (v0_v x1)), .val (.int (z0_76_l6_1 x0 x1)), .val (.int (v0_len x0)), .val (.int (v0_fill x3)), .val (.ref b2), .unset, .unset] [(.int (v0_fill x3)), (.int (0 : Int32)), (.ref b2)]))
    refine g_bastore X2 hx hZ e2 A2 0 rfl (by decide) 98 (hb hby at_97) rfl ?_
    intro T3 h3 X3 e3 W3 A3
    have N3 := Fr.snoc X3 N0 N_b2
    have Z3 : n0 ≤ h3.size := by rw [W3.size]; exact Z2
    show Go p e below s _ _ _ (T3.setTop (mkF m 98 #[.val (.int x0), .val (.int x1), .val (.int x2), .val (.int x3), .val (.int (v0_kind x0)), .val (.int (v0_v x1)), .val (.int (z0_76_l6_1 x0 x1)), .val (.int (v0_len x0)), .val (.int (v0_fill x3)), .val (.ref b2), .unset, .unset] []))
    refine g_aload X3 hx 100 (hb hby at_98) rfl rfl rfl ?_
    show Go p e below s _ _ _ (T3.setTop (mkF m 100 #[.val (.int x0), .val (.int x1), .val (.int x2), .val (.int x3), .val (.int (v0_kind x0)), .val (.int (v0_v x1)), .val (.int (z0_76_l6_1 x0 x1)), .val (.int (v0_len x0)), .val (.int (v0_fill x3)), .val (.ref b2), .unset, .unset] [(.ref b2)]))
    refine g_iconst X3 hx (1 : Int32) 101 (hb hby at_100) rfl rfl ?_
    show Go p e below s _ _ _ (T3.setTop (mkF m 101 #[.val (.int x0), .val (.int x1), .val (.int x2), .val (.int x3), .val (.int (v0_kind x0)), .val (.int (v0_v x1)), .val (.int (z0_76_l6_1 x0 x1)), .val (.int (v0_len x0)), .val (.int (v0_fill x3)), .val (.ref b2), .unset, .unset] [(.int (1 : Int32)), (.ref b2)]))
    refine g_iload X3 hx 103 (hb hby at_101) rfl rfl ?_
    show Go p e below s _ _ _ (T3.setTop (mkF m 103 #[.val (.int x0), .val (.int x1), .val (.int x2), .val (.int x3), .val (.int (v0_kind x0)), .val (.int (v0_v x1)), .val (.int (z0_76_l6_1 x0 x1)), .val (.int (v0_len x0)), .val (.int (v0_fill x3)), .val (.ref b2), .unset, .unset] [(.int (v0_fill x3)), (.int (1 : Int32)), (.ref b2)]))
    refine g_bastore X3 hx hZ e3 A3 1 rfl (by decide) 104 (hb hby at_103) rfl ?_
    intro T4 h4 X4 e4 W4 A4
    have N4 := Fr.snoc X4 N3 N_b2
    have Z4 : n0 ≤ h4.size := by rw [W4.size]; exact Z3
    show Go p e below s _ _ _ (T4.setTop (mkF m 104 #[.val (.int x0), .val (.int x1), .val (.int x2), .val (.int x3), .val (.int (v0_kind x0)), .val (.int (v0_v x1)), .val (.int (z0_76_l6_1 x0 x1)), .val (.int (v0_len x0)), .val (.int (v0_fill x3)), .val (.ref b2), .unset, .unset] []))
    refine g_aload X4 hx 106 (hb hby at_104) rfl rfl rfl ?_
    show Go p e below s _ _ _ (T4.setTop (mkF m 106 #[.val (.int x0), .val (.int x1), .val (.int x2), .val (.int x3), .val (.int (v0_kind x0)), .val (.int (v0_v x1)), .val (.int (z0_76_l6_1 x0 x1)), .val (.int (v0_len x0)), .val (.int (v0_fill x3)), .val (.ref b2), .unset, .unset] [(.ref b2)]))
    refine g_iconst X4 hx (2 : Int32) 107 (hb hby at_106) rfl rfl ?_
    show Go p e below s _ _ _ (T4.setTop (mkF m 107 #[.val (.int x0), .val (.int x1), .val (.int x2), .val (.int x3), .val (.int (v0_kind x0)), .val (.int (v0_v x1)), .val (.int (z0_76_l6_1 x0 x1)), .val (.int (v0_len x0)), .val (.int (v0_fill x3)), .val (.ref b2), .unset, .unset] [(.int (2 : Int32)), (.ref b2)]))
    refine g_iload X4 hx 109 (hb hby at_107) rfl rfl ?_
    show Go p e below s _ _ _ (T4.setTop (mkF m 109 #[.val (.int x0), .val (.int x1), .val (.int x2), .val (.int x3), .val (.int (v0_kind x0)), .val (.int (v0_v x1)), .val (.int (z0_76_l6_1 x0 x1)), .val (.int (v0_len x0)), .val (.int (v0_fill x3)), .val (.ref b2), .unset, .unset] [(.int (v0_fill x3)), (.int (2 : Int32)), (.ref b2)]))
    refine g_bastore X4 hx hZ e4 A4 2 rfl (by decide) 110 (hb hby at_109) rfl ?_
    intro T5 h5 X5 e5 W5 A5
    have N5 := Fr.snoc X5 N4 N_b2
    have Z5 : n0 ≤ h5.size := by rw [W5.size]; exact Z4
    show Go p e below s _ _ _ (T5.setTop (mkF m 110 #[.val (.int x0), .val (.int x1), .val (.int x2), .val (.int x3), .val (.int (v0_kind x0)), .val (.int (v0_v x1)), .val (.int (z0_76_l6_1 x0 x1)), .val (.int (v0_len x0)), .val (.int (v0_fill x3)), .val (.ref b2), .unset, .unset] []))
    refine g_aload X5 hx 112 (hb hby at_110) rfl rfl rfl ?_
    show Go p e below s _ _ _ (T5.setTop (mkF m 112 #[.val (.int x0), .val (.int x1), .val (.int x2), .val (.int x3), .val (.int (v0_kind x0)), .val (.int (v0_v x1)), .val (.int (z0_76_l6_1 x0 x1)), .val (.int (v0_len x0)), .val (.int (v0_fill x3)), .val (.ref b2), .unset, .unset] [(.ref b2)]))
    refine g_iconst X5 hx (3 : Int32) 113 (hb hby at_112) rfl rfl ?_
    show Go p e below s _ _ _ (T5.setTop (mkF m 113 #[.val (.int x0), .val (.int x1), .val (.int x2), .val (.int x3), .val (.int (v0_kind x0)), .val (.int (v0_v x1)), .val (.int (z0_76_l6_1 x0 x1)), .val (.int (v0_len x0)), .val (.int (v0_fill x3)), .val (.ref b2), .unset, .unset] [(.int (3 : Int32)), (.ref b2)]))
    refine g_iload X5 hx 115 (hb hby at_113) rfl rfl ?_
    show Go p e below s _ _ _ (T5.setTop (mkF m 115 #[.val (.int x0), .val (.int x1), .val (.int x2), .val (.int x3), .val (.int (v0_kind x0)), .val (.int (v0_v x1)), .val (.int (z0_76_l6_1 x0 x1)), .val (.int (v0_len x0)), .val (.int (v0_fill x3)), .val (.ref b2), .unset, .unset] [(.int (v0_fill x3)), (.int (3 : Int32)), (.ref b2)]))
    refine g_bastore X5 hx hZ e5 A5 3 rfl (by decide) 116 (hb hby at_115) rfl ?_
    intro T6 h6 X6 e6 W6 A6
    have N6 := Fr.snoc X6 N5 N_b2
    have Z6 : n0 ≤ h6.size := by rw [W6.size]; exact Z5
    show Go p e below s _ _ _ (T6.setTop (mkF m 116 #[.val (.int x0), .val (.int x1), .val (.int x2), .val (.int x3), .val (.int (v0_kind x0)), .val (.int (v0_v x1)), .val (.int (z0_76_l6_1 x0 x1)), .val (.int (v0_len x0)), .val (.int (v0_fill x3)), .val (.ref b2), .unset, .unset] []))
    refine g_aload X6 hx 118 (hb hby at_116) rfl rfl rfl ?_
    show Go p e below s _ _ _ (T6.setTop (mkF m 118 #[.val (.int x0), .val (.int x1), .val (.int x2), .val (.int x3), .val (.int (v0_kind x0)), .val (.int (v0_v x1)), .val (.int (z0_76_l6_1 x0 x1)), .val (.int (v0_len x0)), .val (.int (v0_fill x3)), .val (.ref b2), .unset, .unset] [(.ref b2)]))
    refine g_iconst X6 hx (4 : Int32) 119 (hb hby at_118) rfl rfl ?_
    show Go p e below s _ _ _ (T6.setTop (mkF m 119 #[.val (.int x0), .val (.int x1), .val (.int x2), .val (.int x3), .val (.int (v0_kind x0)), .val (.int (v0_v x1)), .val (.int (z0_76_l6_1 x0 x1)), .val (.int (v0_len x0)), .val (.int (v0_fill x3)), .val (.ref b2), .unset, .unset] [(.int (4 : Int32)), (.ref b2)]))
    refine g_iload X6 hx 121 (hb hby at_119) rfl rfl ?_
    show Go p e below s _ _ _ (T6.setTop (mkF m 121 #[.val (.int x0), .val (.int x1), .val (.int x2), .val (.int x3), .val (.int (v0_kind x0)), .val (.int (v0_v x1)), .val (.int (z0_76_l6_1 x0 x1)), .val (.int (v0_len x0)), .val (.int (v0_fill x3)), .val (.ref b2), .unset, .unset] [(.int (v0_fill x3)), (.int (4 : Int32)), (.ref b2)]))
    refine g_bastore X6 hx hZ e6 A6 4 rfl (by decide) 122 (hb hby at_121) rfl ?_
    intro T7 h7 X7 e7 W7 A7
    have N7 := Fr.snoc X7 N6 N_b2
    have Z7 : n0 ≤ h7.size := by rw [W7.size]; exact Z6
    show Go p e below s _ _ _ (T7.setTop (mkF m 122 #[.val (.int x0), .val (.int x1), .val (.int x2), .val (.int x3), .val (.int (v0_kind x0)), .val (.int (v0_v x1)), .val (.int (z0_76_l6_1 x0 x1)), .val (.int (v0_len x0)), .val (.int (v0_fill x3)), .val (.ref b2), .unset, .unset] []))
    refine g_aload X7 hx 124 (hb hby at_122) rfl rfl rfl ?_
    show Go p e below s _ _ _ (T7.setTop (mkF m 124 #[.val (.int x0), .val (.int x1), .val (.int x2), .val (.int x3), .val (.int (v0_kind x0)), .val (.int (v0_v x1)), .val (.int (z0_76_l6_1 x0 x1)), .val (.int (v0_len x0)), .val (.int (v0_fill x3)), .val (.ref b2), .unset, .unset] [(.ref b2)]))
    refine g_iconst X7 hx (5 : Int32) 125 (hb hby at_124) rfl rfl ?_
    show Go p e below s _ _ _ (T7.setTop (mkF m 125 #[.val (.int x0), .val (.int x1), .val (.int x2), .val (.int x3), .val (.int (v0_kind x0)), .val (.int (v0_v x1)), .val (.int (z0_76_l6_1 x0 x1)), .val (.int (v0_len x0)), .val (.int (v0_fill x3)), .val (.ref b2), .unset, .unset] [(.int (5 : Int32)), (.ref b2)]))
    refine g_iload X7 hx 127 (hb hby at_125) rfl rfl ?_
    show Go p e below s _ _ _ (T7.setTop (mkF m 127 #[.val (.int x0), .val (.int x1), .val (.int x2), .val (.int x3), .val (.int (v0_kind x0)), .val (.int (v0_v x1)), .val (.int (z0_76_l6_1 x0 x1)), .val (.int (v0_len x0)), .val (.int (v0_fill x3)), .val (.ref b2), .unset, .unset] [(.int (v0_fill x3)), (.int (5 : Int32)), (.ref b2)]))
    refine g_bastore X7 hx hZ e7 A7 5 rfl (by decide) 128 (hb hby at_127) rfl ?_
    intro T8 h8 X8 e8 W8 A8
    have N8 := Fr.snoc X8 N7 N_b2
    have Z8 : n0 ≤ h8.size := by rw [W8.size]; exact Z7
    show Go p e below s _ _ _ (T8.setTop (mkF m 128 #[.val (.int x0), .val (.int x1), .val (.int x2), .val (.int x3), .val (.int (v0_kind x0)), .val (.int (v0_v x1)), .val (.int (z0_76_l6_1 x0 x1)), .val (.int (v0_len x0)), .val (.int (v0_fill x3)), .val (.ref b2), .unset, .unset] []))
    refine g_aload X8 hx 130 (hb hby at_128) rfl rfl rfl ?_
    show Go p e below s _ _ _ (T8.setTop (mkF m 130 #[.val (.int x0), .val (.int x1), .val (.int x2), .val (.int x3), .val (.int (v0_kind x0)), .val (.int (v0_v x1)), .val (.int (z0_76_l6_1 x0 x1)), .val (.int (v0_len x0)), .val (.int (v0_fill x3)), .val (.ref b2), .unset, .unset] [(.ref b2)]))
    refine g_bipush X8 hx (6 : Int32) 132 (hb hby at_130) rfl rfl ?_
    show Go p e below s _ _ _ (T8.setTop (mkF m 132 #[.val (.int x0), .val (.int x1), .val (.int x2), .val (.int x3), .val (.int (v0_kind x0)), .val (.int (v0_v x1)), .val (.int (z0_76_l6_1 x0 x1)), .val (.int (v0_len x0)), .val (.int (v0_fill x3)), .val (.ref b2), .unset, .unset] [(.int (6 : Int32)), (.ref b2)]))
    refine g_iload X8 hx 134 (hb hby at_132) rfl rfl ?_
    show Go p e below s _ _ _ (T8.setTop (mkF m 134 #[.val (.int x0), .val (.int x1), .val (.int x2), .val (.int x3), .val (.int (v0_kind x0)), .val (.int (v0_v x1)), .val (.int (z0_76_l6_1 x0 x1)), .val (.int (v0_len x0)), .val (.int (v0_fill x3)), .val (.ref b2), .unset, .unset] [(.int (v0_fill x3)), (.int (6 : Int32)), (.ref b2)]))
    refine g_bastore X8 hx hZ e8 A8 6 rfl (by decide) 135 (hb hby at_134) rfl ?_
    intro T9 h9 X9 e9 W9 A9
    have N9 := Fr.snoc X9 N8 N_b2
    have Z9 : n0 ≤ h9.size := by rw [W9.size]; exact Z8
    show Go p e below s _ _ _ (T9.setTop (mkF m 135 #[.val (.int x0), .val (.int x1), .val (.int x2), .val (.int x3), .val (.int (v0_kind x0)), .val (.int (v0_v x1)), .val (.int (z0_76_l6_1 x0 x1)), .val (.int (v0_len x0)), .val (.int (v0_fill x3)), .val (.ref b2), .unset, .unset] []))
    refine g_aload X9 hx 137 (hb hby at_135) rfl rfl rfl ?_
    show Go p e below s _ _ _ (T9.setTop (mkF m 137 #[.val (.int x0), .val (.int x1), .val (.int x2), .val (.int x3), .val (.int (v0_kind x0)), .val (.int (v0_v x1)), .val (.int (z0_76_l6_1 x0 x1)), .val (.int (v0_len x0)), .val (.int (v0_fill x3)), .val (.ref b2), .unset, .unset] [(.ref b2)]))
    refine g_bipush X9 hx (7 : Int32) 139 (hb hby at_137) rfl rfl ?_
    show Go p e below s _ _ _ (T9.setTop (mkF m 139 #[.val (.int x0), .val (.int x1), .val (.int x2), .val (.int x3), .val (.int (v0_kind x0)), .val (.int (v0_v x1)), .val (.int (z0_76_l6_1 x0 x1)), .val (.int (v0_len x0)), .val (.int (v0_fill x3)), .val (.ref b2), .unset, .unset] [(.int (7 : Int32)), (.ref b2)]))
    refine g_iload X9 hx 141 (hb hby at_139) rfl rfl ?_
    show Go p e below s _ _ _ (T9.setTop (mkF m 141 #[.val (.int x0), .val (.int x1), .val (.int x2), .val (.int x3), .val (.int (v0_kind x0)), .val (.int (v0_v x1)), .val (.int (z0_76_l6_1 x0 x1)), .val (.int (v0_len x0)), .val (.int (v0_fill x3)), .val (.ref b2), .unset, .unset] [(.int (v0_fill x3)), (.int (7 : Int32)), (.ref b2)]))
    refine g_bastore X9 hx hZ e9 A9 7 rfl (by decide) 142 (hb hby at_141) rfl ?_
    intro T10 h10 X10 e10 W10 A10
    have N10 := Fr.snoc X10 N9 N_b2
    have Z10 : n0 ≤ h10.size := by rw [W10.size]; exact Z9
    show Go p e below s _ _ _ (T10.setTop (mkF m 142 #[.val (.int x0), .val (.int x1), .val (.int x2), .val (.int x3), .val (.int (v0_kind x0)), .val (.int (v0_v x1)), .val (.int (z0_76_l6_1 x0 x1)), .val (.int (v0_len x0)), .val (.int (v0_fill x3)), .val (.ref b2), .unset, .unset] []))
    refine g_iloadN X10 hx 143 (hb hby at_142) rfl rfl ?_
    show Go p e below s _ _ _ (T10.setTop (mkF m 143 #[.val (.int x0), .val (.int x1), .val (.int x2), .val (.int x3), .val (.int (v0_kind x0)), .val (.int (v0_v x1)), .val (.int (z0_76_l6_1 x0 x1)), .val (.int (v0_len x0)), .val (.int (v0_fill x3)), .val (.ref b2), .unset, .unset] [(.int x2)]))
    refine g_iconst X10 hx (3 : Int32) 144 (hb hby at_143) rfl rfl ?_
    show Go p e below s _ _ _ (T10.setTop (mkF m 144 #[.val (.int x0), .val (.int x1), .val (.int x2), .val (.int x3), .val (.int (v0_kind x0)), .val (.int (v0_v x1)), .val (.int (z0_76_l6_1 x0 x1)), .val (.int (v0_len x0)), .val (.int (v0_fill x3)), .val (.ref b2), .unset, .unset] [(.int (3 : Int32)), (.int x2)]))
    refine g_iand X10 hx 145 (hb hby at_144) rfl ?_
    show Go p e below s _ _ _ (T10.setTop (mkF m 145 #[.val (.int x0), .val (.int x1), .val (.int x2), .val (.int x3), .val (.int (v0_kind x0)), .val (.int (v0_v x1)), .val (.int (z0_76_l6_1 x0 x1)), .val (.int (v0_len x0)), .val (.int (v0_fill x3)), .val (.ref b2), .unset, .unset] [(.int (x2 &&& (3 : Int32)))]))
    refine g_istore X10 hx #[.val (.int x0), .val (.int x1), .val (.int x2), .val (.int x3), .val (.int (v0_kind x0)), .val (.int (v0_v x1)), .val (.int (z0_76_l6_1 x0 x1)), .val (.int (v0_len x0)), .val (.int (v0_fill x3)), .val (.ref b2), .val (.int (v0_at x2)), .unset] 147 (hb hby at_145) rfl rfl ?_
    show Go p e below s _ _ _ (T10.setTop (mkF m 147 #[.val (.int x0), .val (.int x1), .val (.int x2), .val (.int x3), .val (.int (v0_kind x0)), .val (.int (v0_v x1)), .val (.int (z0_76_l6_1 x0 x1)), .val (.int (v0_len x0)), .val (.int (v0_fill x3)), .val (.ref b2), .val (.int (v0_at x2)), .unset] []))
    refine g_iload X10 hx 149 (hb hby at_147) rfl rfl ?_
    show Go p e below s _ _ _ (T10.setTop (mkF m 149 #[.val (.int x0), .val (.int x1), .val (.int x2), .val (.int x3), .val (.int (v0_kind x0)), .val (.int (v0_v x1)), .val (.int (z0_76_l6_1 x0 x1)), .val (.int (v0_len x0)), .val (.int (v0_fill x3)), .val (.ref b2), .val (.int (v0_at x2)), .unset] [(.int (z0_76_l6_1 x0 x1))]))
    refine g_aload X10 hx 151 (hb hby at_149) rfl rfl rfl ?_
    show Go p e below s _ _ _ (T10.setTop (mkF m 151 #[.val (.int x0), .val (.int x1), .val (.int x2), .val (.int x3), .val (.int (v0_kind x0)), .val (.int (v0_v x1)), .val (.int (z0_76_l6_1 x0 x1)), .val (.int (v0_len x0)), .val (.int (v0_fill x3)), .val (.ref b2), .val (.int (v0_at x2)), .unset] [(.ref b2), (.int (z0_76_l6_1 x0 x1))]))
    refine g_iload X10 hx 153 (hb hby at_151) rfl rfl ?_
    show Go p e below s _ _ _ (T10.setTop (mkF m 153 #[.val (.int x0), .val (.int x1), .val (.int x2), .val (.int x3), .val (.int (v0_kind x0)), .val (.int (v0_v x1)), .val (.int (z0_76_l6_1 x0 x1)), .val (.int (v0_len x0)), .val (.int (v0_fill x3)), .val (.ref b2), .val (.int (v0_at x2)), .unset] [(.int (v0_at x2)), (.ref b2), (.int (z0_76_l6_1 x0 x1))]))
    refine g_callS X10 hx hZ hown (hw _ (List.mem_of_getElem? (i := 2) rfl)) (hw _ (List.mem_of_getElem? (i := 3) rfl)) (hw _ (List.mem_of_getElem? (i := 4) rfl)) (hw _ (List.mem_of_getElem? (i := 5) rfl)) (by decide) e10 (rm1 l Z a0 hw [] (z0_76_l6_1 x0 x1) b2 (v0_at x2) 8 (upd (upd (upd (upd (upd (upd (upd (upd (fun _ => (0 : Int32)) 0 (i2bI (v0_fill x3))) 1 (i2bI (v0_fill x3))) 2 (i2bI (v0_fill x3))) 3 (i2bI (v0_fill x3))) 4 (i2bI (v0_fill x3))) 5 (i2bI (v0_fill x3))) 6 (i2bI (v0_fill x3))) 7 (i2bI (v0_fill x3))) (own_an x2) h10 n0 Z10 A10 N_b2 ((own_at x2).1 : (v0_at x2).toInt = (own_an x2)) (by have := (own_at x2).2; omega : (own_an x2) + 4 ≤ 8) (Nat.lt_trans (own_at x2).2 (by decide) : (own_an x2) < 1000)) [(.int (z0_76_l6_1 x0 x1)), (.ref b2), (.int (v0_at x2))] [] 0 rfl (lenOf pd__28I_5bBI_29I rfl) rfl (Nat.le_of_eq rfl) (by decide) (by decide) (by decide) (by decide) (by rw [hml]; rfl) (hb hby at_153) ?_
    intro T11 L11 v11 X11 q11
    obtain ⟨rfl, N11, K11, p11_0⟩ := q11
    have NN11 := Fr.app N10 N11
    have Z11 : n0 ≤ T11.heap.size := Nat.le_trans Z10 K11.1
    show Go p e below s _ _ _ (T11.setTop (mkF m 156 #[.val (.int x0), .val (.int x1), .val (.int x2), .val (.int x3), .val (.int (v0_kind x0)), .val (.int (v0_v x1)), .val (.int (z0_76_l6_1 x0 x1)), .val (.int (v0_len x0)), .val (.int (v0_fill x3)), .val (.ref b2), .val (.int (v0_at x2)), .unset] [(.int (f1 (z0_76_l6_1 x0 x1) (v0_at x2)))]))
    refine g_istore X11 hx #[.val (.int x0), .val (.int x1), .val (.int x2), .val (.int x3), .val (.int (v0_kind x0)), .val (.int (v0_v x1)), .val (.int (z0_76_l6_1 x0 x1)), .val (.int (v0_len x0)), .val (.int (v0_fill x3)), .val (.ref b2), .val (.int (v0_at x2)), .val (.int (f1 (z0_76_l6_1 x0 x1) (v0_at x2)))] 158 (hb hby at_156) rfl rfl ?_
    show Go p e below s _ _ _ (T11.setTop (mkF m 158 #[.val (.int x0), .val (.int x1), .val (.int x2), .val (.int x3), .val (.int (v0_kind x0)), .val (.int (v0_v x1)), .val (.int (z0_76_l6_1 x0 x1)), .val (.int (v0_len x0)), .val (.int (v0_fill x3)), .val (.ref b2), .val (.int (v0_at x2)), .val (.int (f1 (z0_76_l6_1 x0 x1) (v0_at x2)))] []))
    refine g_iload X11 hx 160 (hb hby at_158) rfl rfl ?_
    show Go p e below s _ _ _ (T11.setTop (mkF m 160 #[.val (.int x0), .val (.int x1), .val (.int x2), .val (.int x3), .val (.int (v0_kind x0)), .val (.int (v0_v x1)), .val (.int (z0_76_l6_1 x0 x1)), .val (.int (v0_len x0)), .val (.int (v0_fill x3)), .val (.ref b2), .val (.int (v0_at x2)), .val (.int (f1 (z0_76_l6_1 x0 x1) (v0_at x2)))] [(.int (f1 (z0_76_l6_1 x0 x1) (v0_at x2)))]))
    refine g_iload X11 hx 162 (hb hby at_160) rfl rfl ?_
    show Go p e below s _ _ _ (T11.setTop (mkF m 162 #[.val (.int x0), .val (.int x1), .val (.int x2), .val (.int x3), .val (.int (v0_kind x0)), .val (.int (v0_v x1)), .val (.int (z0_76_l6_1 x0 x1)), .val (.int (v0_len x0)), .val (.int (v0_fill x3)), .val (.ref b2), .val (.int (v0_at x2)), .val (.int (f1 (z0_76_l6_1 x0 x1) (v0_at x2)))] [(.int (v0_at x2)), (.int (f1 (z0_76_l6_1 x0 x1) (v0_at x2)))]))
    refine g_iload X11 hx 164 (hb hby at_162) rfl rfl ?_
    show Go p e below s _ _ _ (T11.setTop (mkF m 164 #[.val (.int x0), .val (.int x1), .val (.int x2), .val (.int x3), .val (.int (v0_kind x0)), .val (.int (v0_v x1)), .val (.int (z0_76_l6_1 x0 x1)), .val (.int (v0_len x0)), .val (.int (v0_fill x3)), .val (.ref b2), .val (.int (v0_at x2)), .val (.int (f1 (z0_76_l6_1 x0 x1) (v0_at x2)))] [(.int (v0_len x0)), (.int (v0_at x2)), (.int (f1 (z0_76_l6_1 x0 x1) (v0_at x2)))]))
    refine g_iadd X11 hx 165 (hb hby at_164) rfl ?_
    show Go p e below s _ _ _ (T11.setTop (mkF m 165 #[.val (.int x0), .val (.int x1), .val (.int x2), .val (.int x3), .val (.int (v0_kind x0)), .val (.int (v0_v x1)), .val (.int (z0_76_l6_1 x0 x1)), .val (.int (v0_len x0)), .val (.int (v0_fill x3)), .val (.ref b2), .val (.int (v0_at x2)), .val (.int (f1 (z0_76_l6_1 x0 x1) (v0_at x2)))] [(.int ((v0_at x2) + (v0_len x0))), (.int (f1 (z0_76_l6_1 x0 x1) (v0_at x2)))]))
    have h12 : (f1 (z0_76_l6_1 x0 x1) (v0_at x2)) = ((v0_at x2) + (v0_len x0)) := own_r x0 x1 x2
    refine g_icmp_ne X11 hx 310 168 (hb hby at_165) (by decide) rfl rfl (fun _ => ?_) (fun q => absurd h12 q)
    show Go p e below s _ _ _ (T11.setTop (mkF m 168 #[.val (.int x0), .val (.int x1), .val (.int x2), .val (.int x3), .val (.int (v0_kind x0)), .val (.int (v0_v x1)), .val (.int (z0_76_l6_1 x0 x1)), .val (.int (v0_len x0)), .val (.int (v0_fill x3)), .val (.ref b2), .val (.int (v0_at x2)), .val (.int (f1 (z0_76_l6_1 x0 x1) (v0_at x2)))] []))
    refine g_aload X11 hx 170 (hb hby at_168) rfl rfl rfl ?_
    show Go p e below s _ _ _ (T11.setTop (mkF m 170 #[.val (.int x0), .val (.int x1), .val (.int x2), .val (.int x3), .val (.int (v0_kind x0)), .val (.int (v0_v x1)), .val (.int (z0_76_l6_1 x0 x1)), .val (.int (v0_len x0)), .val (.int (v0_fill x3)), .val (.ref b2), .val (.int (v0_at x2)), .val (.int (f1 (z0_76_l6_1 x0 x1) (v0_at x2)))] [(.ref b2)]))
    refine g_iconst X11 hx (0 : Int32) 171 (hb hby at_170) rfl rfl ?_
    show Go p e below s _ _ _ (T11.setTop (mkF m 171 #[.val (.int x0), .val (.int x1), .val (.int x2), .val (.int x3), .val (.int (v0_kind x0)), .val (.int (v0_v x1)), .val (.int (z0_76_l6_1 x0 x1)), .val (.int (v0_len x0)), .val (.int (v0_fill x3)), .val (.ref b2), .val (.int (v0_at x2)), .val (.int (f1 (z0_76_l6_1 x0 x1) (v0_at x2)))] [(.int (0 : Int32)), (.ref b2)]))
    refine g_iload X11 hx 173 (hb hby at_171) rfl rfl ?_
    show Go p e below s _ _ _ (T11.setTop (mkF m 173 #[.val (.int x0), .val (.int x1), .val (.int x2), .val (.int x3), .val (.int (v0_kind x0)), .val (.int (v0_v x1)), .val (.int (z0_76_l6_1 x0 x1)), .val (.int (v0_len x0)), .val (.int (v0_fill x3)), .val (.ref b2), .val (.int (v0_at x2)), .val (.int (f1 (z0_76_l6_1 x0 x1) (v0_at x2)))] [(.int (v0_at x2)), (.int (0 : Int32)), (.ref b2)]))
    refine g_iload X11 hx 175 (hb hby at_173) rfl rfl ?_
    show Go p e below s _ _ _ (T11.setTop (mkF m 175 #[.val (.int x0), .val (.int x1), .val (.int x2), .val (.int x3), .val (.int (v0_kind x0)), .val (.int (v0_v x1)), .val (.int (z0_76_l6_1 x0 x1)), .val (.int (v0_len x0)), .val (.int (v0_fill x3)), .val (.ref b2), .val (.int (v0_at x2)), .val (.int (f1 (z0_76_l6_1 x0 x1) (v0_at x2)))] [(.int (v0_len x0)), (.int (v0_at x2)), (.int (0 : Int32)), (.ref b2)]))
    refine g_iload X11 hx 177 (hb hby at_175) rfl rfl ?_
    show Go p e below s _ _ _ (T11.setTop (mkF m 177 #[.val (.int x0), .val (.int x1), .val (.int x2), .val (.int x3), .val (.int (v0_kind x0)), .val (.int (v0_v x1)), .val (.int (z0_76_l6_1 x0 x1)), .val (.int (v0_len x0)), .val (.int (v0_fill x3)), .val (.ref b2), .val (.int (v0_at x2)), .val (.int (f1 (z0_76_l6_1 x0 x1) (v0_at x2)))] [(.int (z0_76_l6_1 x0 x1)), (.int (v0_len x0)), (.int (v0_at x2)), (.int (0 : Int32)), (.ref b2)]))
    refine g_iload X11 hx 179 (hb hby at_177) rfl rfl ?_
    show Go p e below s _ _ _ (T11.setTop (mkF m 179 #[.val (.int x0), .val (.int x1), .val (.int x2), .val (.int x3), .val (.int (v0_kind x0)), .val (.int (v0_v x1)), .val (.int (z0_76_l6_1 x0 x1)), .val (.int (v0_len x0)), .val (.int (v0_fill x3)), .val (.ref b2), .val (.int (v0_at x2)), .val (.int (f1 (z0_76_l6_1 x0 x1) (v0_at x2)))] [(.int (v0_fill x3)), (.int (z0_76_l6_1 x0 x1)), (.int (v0_len x0)), (.int (v0_at x2)), (.int (0 : Int32)), (.ref b2)]))
    refine g_callS X11 hx hZ hown (hw _ (List.mem_of_getElem? (i := 6) rfl)) (hw _ (List.mem_of_getElem? (i := 7) rfl)) (hw _ (List.mem_of_getElem? (i := 8) rfl)) (hw _ (List.mem_of_getElem? (i := 9) rfl)) (by decide) rfl (rm2 l Z a0 hw [] b2 (0 : Int32) (v0_at x2) (v0_len x0) (z0_76_l6_1 x0 x1) (v0_fill x3) 8 (g1_x1 (z0_76_l6_1 x0 x1) (upd (upd (upd (upd (upd (upd (upd (upd (fun _ => (0 : Int32)) 0 (i2bI (v0_fill x3))) 1 (i2bI (v0_fill x3))) 2 (i2bI (v0_fill x3))) 3 (i2bI (v0_fill x3))) 4 (i2bI (v0_fill x3))) 5 (i2bI (v0_fill x3))) 6 (i2bI (v0_fill x3))) 7 (i2bI (v0_fill x3))) (own_an x2)) 0 T11.heap p11_0 (rfl : (0 : Int32).toInt = 0) (by decide : 0 < 8)) [(.ref b2), (.int (0 : Int32)), (.int (v0_at x2)), (.int (v0_len x0)), (.int (z0_76_l6_1 x0 x1)), (.int (v0_fill x3))] [] 0 rfl (lenOf pd__28_5bBIIIIB_29Z rfl) rfl (Nat.le_of_eq rfl) (by decide) (by decide) (by decide) (by decide) (by rw [hml]; rfl) (hb hby at_179) ?_
    intro T13 L13 v13 X13 q13
    obtain ⟨rfl, rfl, e13⟩ := q13
    have NS13 := Fr.app NN11 (Fr.nil n0)
    show Go p e below s _ _ _ (T13.setTop (mkF m 182 #[.val (.int x0), .val (.int x1), .val (.int x2), .val (.int x3), .val (.int (v0_kind x0)), .val (.int (v0_v x1)), .val (.int (z0_76_l6_1 x0 x1)), .val (.int (v0_len x0)), .val (.int (v0_fill x3)), .val (.ref b2), .val (.int (v0_at x2)), .val (.int (f1 (z0_76_l6_1 x0 x1) (v0_at x2)))] [(.int (f2 (0 : Int32) (v0_at x2) (v0_len x0) (z0_76_l6_1 x0 x1) (v0_fill x3) (g1_x1 (z0_76_l6_1 x0 x1) (upd (upd (upd (upd (upd (upd (upd (upd (fun _ => (0 : Int32)) 0 (i2bI (v0_fill x3))) 1 (i2bI (v0_fill x3))) 2 (i2bI (v0_fill x3))) 3 (i2bI (v0_fill x3))) 4 (i2bI (v0_fill x3))) 5 (i2bI (v0_fill x3))) 6 (i2bI (v0_fill x3))) 7 (i2bI (v0_fill x3))) (own_an x2)) 0))]))
    have h14 : ¬ ((f2 (0 : Int32) (v0_at x2) (v0_len x0) (z0_76_l6_1 x0 x1) (v0_fill x3) (g1_x1 (z0_76_l6_1 x0 x1) (upd (upd (upd (upd (upd (upd (upd (upd (fun _ => (0 : Int32)) 0 (i2bI (v0_fill x3))) 1 (i2bI (v0_fill x3))) 2 (i2bI (v0_fill x3))) 3 (i2bI (v0_fill x3))) 4 (i2bI (v0_fill x3))) 5 (i2bI (v0_fill x3))) 6 (i2bI (v0_fill x3))) 7 (i2bI (v0_fill x3))) (own_an x2)) 0) = (0 : Int32)) := own_okp x0 x1 x2 x3 (0 : Int32) 0 rfl (by decide)
    refine g_if0_eq X13 hx 310 185 (hb hby at_182) (by decide) rfl rfl (fun q => absurd q h14) (fun _ => ?_)
    show Go p e below s _ _ _ (T13.setTop (mkF m 185 #[.val (.int x0), .val (.int x1), .val (.int x2), .val (.int x3), .val (.int (v0_kind x0)), .val (.int (v0_v x1)), .val (.int (z0_76_l6_1 x0 x1)), .val (.int (v0_len x0)), .val (.int (v0_fill x3)), .val (.ref b2), .val (.int (v0_at x2)), .val (.int (f1 (z0_76_l6_1 x0 x1) (v0_at x2)))] []))
    refine g_aload X13 hx 187 (hb hby at_185) rfl rfl rfl ?_
    show Go p e below s _ _ _ (T13.setTop (mkF m 187 #[.val (.int x0), .val (.int x1), .val (.int x2), .val (.int x3), .val (.int (v0_kind x0)), .val (.int (v0_v x1)), .val (.int (z0_76_l6_1 x0 x1)), .val (.int (v0_len x0)), .val (.int (v0_fill x3)), .val (.ref b2), .val (.int (v0_at x2)), .val (.int (f1 (z0_76_l6_1 x0 x1) (v0_at x2)))] [(.ref b2)]))
    refine g_iconst X13 hx (1 : Int32) 188 (hb hby at_187) rfl rfl ?_
    show Go p e below s _ _ _ (T13.setTop (mkF m 188 #[.val (.int x0), .val (.int x1), .val (.int x2), .val (.int x3), .val (.int (v0_kind x0)), .val (.int (v0_v x1)), .val (.int (z0_76_l6_1 x0 x1)), .val (.int (v0_len x0)), .val (.int (v0_fill x3)), .val (.ref b2), .val (.int (v0_at x2)), .val (.int (f1 (z0_76_l6_1 x0 x1) (v0_at x2)))] [(.int (1 : Int32)), (.ref b2)]))
    refine g_iload X13 hx 190 (hb hby at_188) rfl rfl ?_
    show Go p e below s _ _ _ (T13.setTop (mkF m 190 #[.val (.int x0), .val (.int x1), .val (.int x2), .val (.int x3), .val (.int (v0_kind x0)), .val (.int (v0_v x1)), .val (.int (z0_76_l6_1 x0 x1)), .val (.int (v0_len x0)), .val (.int (v0_fill x3)), .val (.ref b2), .val (.int (v0_at x2)), .val (.int (f1 (z0_76_l6_1 x0 x1) (v0_at x2)))] [(.int (v0_at x2)), (.int (1 : Int32)), (.ref b2)]))
    refine g_iload X13 hx 192 (hb hby at_190) rfl rfl ?_
    show Go p e below s _ _ _ (T13.setTop (mkF m 192 #[.val (.int x0), .val (.int x1), .val (.int x2), .val (.int x3), .val (.int (v0_kind x0)), .val (.int (v0_v x1)), .val (.int (z0_76_l6_1 x0 x1)), .val (.int (v0_len x0)), .val (.int (v0_fill x3)), .val (.ref b2), .val (.int (v0_at x2)), .val (.int (f1 (z0_76_l6_1 x0 x1) (v0_at x2)))] [(.int (v0_len x0)), (.int (v0_at x2)), (.int (1 : Int32)), (.ref b2)]))
    refine g_iload X13 hx 194 (hb hby at_192) rfl rfl ?_
    show Go p e below s _ _ _ (T13.setTop (mkF m 194 #[.val (.int x0), .val (.int x1), .val (.int x2), .val (.int x3), .val (.int (v0_kind x0)), .val (.int (v0_v x1)), .val (.int (z0_76_l6_1 x0 x1)), .val (.int (v0_len x0)), .val (.int (v0_fill x3)), .val (.ref b2), .val (.int (v0_at x2)), .val (.int (f1 (z0_76_l6_1 x0 x1) (v0_at x2)))] [(.int (z0_76_l6_1 x0 x1)), (.int (v0_len x0)), (.int (v0_at x2)), (.int (1 : Int32)), (.ref b2)]))
    refine g_iload X13 hx 196 (hb hby at_194) rfl rfl ?_
    show Go p e below s _ _ _ (T13.setTop (mkF m 196 #[.val (.int x0), .val (.int x1), .val (.int x2), .val (.int x3), .val (.int (v0_kind x0)), .val (.int (v0_v x1)), .val (.int (z0_76_l6_1 x0 x1)), .val (.int (v0_len x0)), .val (.int (v0_fill x3)), .val (.ref b2), .val (.int (v0_at x2)), .val (.int (f1 (z0_76_l6_1 x0 x1) (v0_at x2)))] [(.int (v0_fill x3)), (.int (z0_76_l6_1 x0 x1)), (.int (v0_len x0)), (.int (v0_at x2)), (.int (1 : Int32)), (.ref b2)]))
    refine g_callS X13 hx hZ hown (hw _ (List.mem_of_getElem? (i := 6) rfl)) (hw _ (List.mem_of_getElem? (i := 7) rfl)) (hw _ (List.mem_of_getElem? (i := 8) rfl)) (hw _ (List.mem_of_getElem? (i := 9) rfl)) (by decide) e13 (rm2 l Z a0 hw [] b2 (1 : Int32) (v0_at x2) (v0_len x0) (z0_76_l6_1 x0 x1) (v0_fill x3) 8 (g1_x1 (z0_76_l6_1 x0 x1) (upd (upd (upd (upd (upd (upd (upd (upd (fun _ => (0 : Int32)) 0 (i2bI (v0_fill x3))) 1 (i2bI (v0_fill x3))) 2 (i2bI (v0_fill x3))) 3 (i2bI (v0_fill x3))) 4 (i2bI (v0_fill x3))) 5 (i2bI (v0_fill x3))) 6 (i2bI (v0_fill x3))) 7 (i2bI (v0_fill x3))) (own_an x2)) 1 T11.heap p11_0 (rfl : (1 : Int32).toInt = 1) (by decide : 1 < 8)) [(.ref b2), (.int (1 : Int32)), (.int (v0_at x2)), (.int (v0_len x0)), (.int (z0_76_l6_1 x0 x1)), (.int (v0_fill x3))] [] 0 rfl (lenOf pd__28_5bBIIIIB_29Z rfl) rfl (Nat.le_of_eq rfl) (by decide) (by decide) (by decide) (by decide) (by rw [hml]; rfl) (hb hby at_196) ?_
    intro T15 L15 v15 X15 q15
    obtain ⟨rfl, rfl, e15⟩ := q15
    have NS15 := Fr.app NS13 (Fr.nil n0)
    show Go p e below s _ _ _ (T15.setTop (mkF m 199 #[.val (.int x0), .val (.int x1), .val (.int x2), .val (.int x3), .val (.int (v0_kind x0)), .val (.int (v0_v x1)), .val (.int (z0_76_l6_1 x0 x1)), .val (.int (v0_len x0)), .val (.int (v0_fill x3)), .val (.ref b2), .val (.int (v0_at x2)), .val (.int (f1 (z0_76_l6_1 x0 x1) (v0_at x2)))] [(.int (f2 (1 : Int32) (v0_at x2) (v0_len x0) (z0_76_l6_1 x0 x1) (v0_fill x3) (g1_x1 (z0_76_l6_1 x0 x1) (upd (upd (upd (upd (upd (upd (upd (upd (fun _ => (0 : Int32)) 0 (i2bI (v0_fill x3))) 1 (i2bI (v0_fill x3))) 2 (i2bI (v0_fill x3))) 3 (i2bI (v0_fill x3))) 4 (i2bI (v0_fill x3))) 5 (i2bI (v0_fill x3))) 6 (i2bI (v0_fill x3))) 7 (i2bI (v0_fill x3))) (own_an x2)) 1))]))
    have h16 : ¬ ((f2 (1 : Int32) (v0_at x2) (v0_len x0) (z0_76_l6_1 x0 x1) (v0_fill x3) (g1_x1 (z0_76_l6_1 x0 x1) (upd (upd (upd (upd (upd (upd (upd (upd (fun _ => (0 : Int32)) 0 (i2bI (v0_fill x3))) 1 (i2bI (v0_fill x3))) 2 (i2bI (v0_fill x3))) 3 (i2bI (v0_fill x3))) 4 (i2bI (v0_fill x3))) 5 (i2bI (v0_fill x3))) 6 (i2bI (v0_fill x3))) 7 (i2bI (v0_fill x3))) (own_an x2)) 1) = (0 : Int32)) := own_okp x0 x1 x2 x3 (1 : Int32) 1 rfl (by decide)
    refine g_if0_eq X15 hx 310 202 (hb hby at_199) (by decide) rfl rfl (fun q => absurd q h16) (fun _ => ?_)
    show Go p e below s _ _ _ (T15.setTop (mkF m 202 #[.val (.int x0), .val (.int x1), .val (.int x2), .val (.int x3), .val (.int (v0_kind x0)), .val (.int (v0_v x1)), .val (.int (z0_76_l6_1 x0 x1)), .val (.int (v0_len x0)), .val (.int (v0_fill x3)), .val (.ref b2), .val (.int (v0_at x2)), .val (.int (f1 (z0_76_l6_1 x0 x1) (v0_at x2)))] []))
    refine g_aload X15 hx 204 (hb hby at_202) rfl rfl rfl ?_
    show Go p e below s _ _ _ (T15.setTop (mkF m 204 #[.val (.int x0), .val (.int x1), .val (.int x2), .val (.int x3), .val (.int (v0_kind x0)), .val (.int (v0_v x1)), .val (.int (z0_76_l6_1 x0 x1)), .val (.int (v0_len x0)), .val (.int (v0_fill x3)), .val (.ref b2), .val (.int (v0_at x2)), .val (.int (f1 (z0_76_l6_1 x0 x1) (v0_at x2)))] [(.ref b2)]))
    refine g_iconst X15 hx (2 : Int32) 205 (hb hby at_204) rfl rfl ?_
    show Go p e below s _ _ _ (T15.setTop (mkF m 205 #[.val (.int x0), .val (.int x1), .val (.int x2), .val (.int x3), .val (.int (v0_kind x0)), .val (.int (v0_v x1)), .val (.int (z0_76_l6_1 x0 x1)), .val (.int (v0_len x0)), .val (.int (v0_fill x3)), .val (.ref b2), .val (.int (v0_at x2)), .val (.int (f1 (z0_76_l6_1 x0 x1) (v0_at x2)))] [(.int (2 : Int32)), (.ref b2)]))
    refine g_iload X15 hx 207 (hb hby at_205) rfl rfl ?_
    show Go p e below s _ _ _ (T15.setTop (mkF m 207 #[.val (.int x0), .val (.int x1), .val (.int x2), .val (.int x3), .val (.int (v0_kind x0)), .val (.int (v0_v x1)), .val (.int (z0_76_l6_1 x0 x1)), .val (.int (v0_len x0)), .val (.int (v0_fill x3)), .val (.ref b2), .val (.int (v0_at x2)), .val (.int (f1 (z0_76_l6_1 x0 x1) (v0_at x2)))] [(.int (v0_at x2)), (.int (2 : Int32)), (.ref b2)]))
    refine g_iload X15 hx 209 (hb hby at_207) rfl rfl ?_
    show Go p e below s _ _ _ (T15.setTop (mkF m 209 #[.val (.int x0), .val (.int x1), .val (.int x2), .val (.int x3), .val (.int (v0_kind x0)), .val (.int (v0_v x1)), .val (.int (z0_76_l6_1 x0 x1)), .val (.int (v0_len x0)), .val (.int (v0_fill x3)), .val (.ref b2), .val (.int (v0_at x2)), .val (.int (f1 (z0_76_l6_1 x0 x1) (v0_at x2)))] [(.int (v0_len x0)), (.int (v0_at x2)), (.int (2 : Int32)), (.ref b2)]))
    refine g_iload X15 hx 211 (hb hby at_209) rfl rfl ?_
    show Go p e below s _ _ _ (T15.setTop (mkF m 211 #[.val (.int x0), .val (.int x1), .val (.int x2), .val (.int x3), .val (.int (v0_kind x0)), .val (.int (v0_v x1)), .val (.int (z0_76_l6_1 x0 x1)), .val (.int (v0_len x0)), .val (.int (v0_fill x3)), .val (.ref b2), .val (.int (v0_at x2)), .val (.int (f1 (z0_76_l6_1 x0 x1) (v0_at x2)))] [(.int (z0_76_l6_1 x0 x1)), (.int (v0_len x0)), (.int (v0_at x2)), (.int (2 : Int32)), (.ref b2)]))
    refine g_iload X15 hx 213 (hb hby at_211) rfl rfl ?_
    show Go p e below s _ _ _ (T15.setTop (mkF m 213 #[.val (.int x0), .val (.int x1), .val (.int x2), .val (.int x3), .val (.int (v0_kind x0)), .val (.int (v0_v x1)), .val (.int (z0_76_l6_1 x0 x1)), .val (.int (v0_len x0)), .val (.int (v0_fill x3)), .val (.ref b2), .val (.int (v0_at x2)), .val (.int (f1 (z0_76_l6_1 x0 x1) (v0_at x2)))] [(.int (v0_fill x3)), (.int (z0_76_l6_1 x0 x1)), (.int (v0_len x0)), (.int (v0_at x2)), (.int (2 : Int32)), (.ref b2)]))
    refine g_callS X15 hx hZ hown (hw _ (List.mem_of_getElem? (i := 6) rfl)) (hw _ (List.mem_of_getElem? (i := 7) rfl)) (hw _ (List.mem_of_getElem? (i := 8) rfl)) (hw _ (List.mem_of_getElem? (i := 9) rfl)) (by decide) e15 (rm2 l Z a0 hw [] b2 (2 : Int32) (v0_at x2) (v0_len x0) (z0_76_l6_1 x0 x1) (v0_fill x3) 8 (g1_x1 (z0_76_l6_1 x0 x1) (upd (upd (upd (upd (upd (upd (upd (upd (fun _ => (0 : Int32)) 0 (i2bI (v0_fill x3))) 1 (i2bI (v0_fill x3))) 2 (i2bI (v0_fill x3))) 3 (i2bI (v0_fill x3))) 4 (i2bI (v0_fill x3))) 5 (i2bI (v0_fill x3))) 6 (i2bI (v0_fill x3))) 7 (i2bI (v0_fill x3))) (own_an x2)) 2 T11.heap p11_0 (rfl : (2 : Int32).toInt = 2) (by decide : 2 < 8)) [(.ref b2), (.int (2 : Int32)), (.int (v0_at x2)), (.int (v0_len x0)), (.int (z0_76_l6_1 x0 x1)), (.int (v0_fill x3))] [] 0 rfl (lenOf pd__28_5bBIIIIB_29Z rfl) rfl (Nat.le_of_eq rfl) (by decide) (by decide) (by decide) (by decide) (by rw [hml]; rfl) (hb hby at_213) ?_
    intro T17 L17 v17 X17 q17
    obtain ⟨rfl, rfl, e17⟩ := q17
    have NS17 := Fr.app NS15 (Fr.nil n0)
    show Go p e below s _ _ _ (T17.setTop (mkF m 216 #[.val (.int x0), .val (.int x1), .val (.int x2), .val (.int x3), .val (.int (v0_kind x0)), .val (.int (v0_v x1)), .val (.int (z0_76_l6_1 x0 x1)), .val (.int (v0_len x0)), .val (.int (v0_fill x3)), .val (.ref b2), .val (.int (v0_at x2)), .val (.int (f1 (z0_76_l6_1 x0 x1) (v0_at x2)))] [(.int (f2 (2 : Int32) (v0_at x2) (v0_len x0) (z0_76_l6_1 x0 x1) (v0_fill x3) (g1_x1 (z0_76_l6_1 x0 x1) (upd (upd (upd (upd (upd (upd (upd (upd (fun _ => (0 : Int32)) 0 (i2bI (v0_fill x3))) 1 (i2bI (v0_fill x3))) 2 (i2bI (v0_fill x3))) 3 (i2bI (v0_fill x3))) 4 (i2bI (v0_fill x3))) 5 (i2bI (v0_fill x3))) 6 (i2bI (v0_fill x3))) 7 (i2bI (v0_fill x3))) (own_an x2)) 2))]))
    have h18 : ¬ ((f2 (2 : Int32) (v0_at x2) (v0_len x0) (z0_76_l6_1 x0 x1) (v0_fill x3) (g1_x1 (z0_76_l6_1 x0 x1) (upd (upd (upd (upd (upd (upd (upd (upd (fun _ => (0 : Int32)) 0 (i2bI (v0_fill x3))) 1 (i2bI (v0_fill x3))) 2 (i2bI (v0_fill x3))) 3 (i2bI (v0_fill x3))) 4 (i2bI (v0_fill x3))) 5 (i2bI (v0_fill x3))) 6 (i2bI (v0_fill x3))) 7 (i2bI (v0_fill x3))) (own_an x2)) 2) = (0 : Int32)) := own_okp x0 x1 x2 x3 (2 : Int32) 2 rfl (by decide)
    refine g_if0_eq X17 hx 310 219 (hb hby at_216) (by decide) rfl rfl (fun q => absurd q h18) (fun _ => ?_)
    show Go p e below s _ _ _ (T17.setTop (mkF m 219 #[.val (.int x0), .val (.int x1), .val (.int x2), .val (.int x3), .val (.int (v0_kind x0)), .val (.int (v0_v x1)), .val (.int (z0_76_l6_1 x0 x1)), .val (.int (v0_len x0)), .val (.int (v0_fill x3)), .val (.ref b2), .val (.int (v0_at x2)), .val (.int (f1 (z0_76_l6_1 x0 x1) (v0_at x2)))] []))
    refine g_aload X17 hx 221 (hb hby at_219) rfl rfl rfl ?_
    show Go p e below s _ _ _ (T17.setTop (mkF m 221 #[.val (.int x0), .val (.int x1), .val (.int x2), .val (.int x3), .val (.int (v0_kind x0)), .val (.int (v0_v x1)), .val (.int (z0_76_l6_1 x0 x1)), .val (.int (v0_len x0)), .val (.int (v0_fill x3)), .val (.ref b2), .val (.int (v0_at x2)), .val (.int (f1 (z0_76_l6_1 x0 x1) (v0_at x2)))] [(.ref b2)]))
    refine g_iconst X17 hx (3 : Int32) 222 (hb hby at_221) rfl rfl ?_
    show Go p e below s _ _ _ (T17.setTop (mkF m 222 #[.val (.int x0), .val (.int x1), .val (.int x2), .val (.int x3), .val (.int (v0_kind x0)), .val (.int (v0_v x1)), .val (.int (z0_76_l6_1 x0 x1)), .val (.int (v0_len x0)), .val (.int (v0_fill x3)), .val (.ref b2), .val (.int (v0_at x2)), .val (.int (f1 (z0_76_l6_1 x0 x1) (v0_at x2)))] [(.int (3 : Int32)), (.ref b2)]))
    refine g_iload X17 hx 224 (hb hby at_222) rfl rfl ?_
    show Go p e below s _ _ _ (T17.setTop (mkF m 224 #[.val (.int x0), .val (.int x1), .val (.int x2), .val (.int x3), .val (.int (v0_kind x0)), .val (.int (v0_v x1)), .val (.int (z0_76_l6_1 x0 x1)), .val (.int (v0_len x0)), .val (.int (v0_fill x3)), .val (.ref b2), .val (.int (v0_at x2)), .val (.int (f1 (z0_76_l6_1 x0 x1) (v0_at x2)))] [(.int (v0_at x2)), (.int (3 : Int32)), (.ref b2)]))
    refine g_iload X17 hx 226 (hb hby at_224) rfl rfl ?_
    show Go p e below s _ _ _ (T17.setTop (mkF m 226 #[.val (.int x0), .val (.int x1), .val (.int x2), .val (.int x3), .val (.int (v0_kind x0)), .val (.int (v0_v x1)), .val (.int (z0_76_l6_1 x0 x1)), .val (.int (v0_len x0)), .val (.int (v0_fill x3)), .val (.ref b2), .val (.int (v0_at x2)), .val (.int (f1 (z0_76_l6_1 x0 x1) (v0_at x2)))] [(.int (v0_len x0)), (.int (v0_at x2)), (.int (3 : Int32)), (.ref b2)]))
    refine g_iload X17 hx 228 (hb hby at_226) rfl rfl ?_
    show Go p e below s _ _ _ (T17.setTop (mkF m 228 #[.val (.int x0), .val (.int x1), .val (.int x2), .val (.int x3), .val (.int (v0_kind x0)), .val (.int (v0_v x1)), .val (.int (z0_76_l6_1 x0 x1)), .val (.int (v0_len x0)), .val (.int (v0_fill x3)), .val (.ref b2), .val (.int (v0_at x2)), .val (.int (f1 (z0_76_l6_1 x0 x1) (v0_at x2)))] [(.int (z0_76_l6_1 x0 x1)), (.int (v0_len x0)), (.int (v0_at x2)), (.int (3 : Int32)), (.ref b2)]))
    refine g_iload X17 hx 230 (hb hby at_228) rfl rfl ?_
    show Go p e below s _ _ _ (T17.setTop (mkF m 230 #[.val (.int x0), .val (.int x1), .val (.int x2), .val (.int x3), .val (.int (v0_kind x0)), .val (.int (v0_v x1)), .val (.int (z0_76_l6_1 x0 x1)), .val (.int (v0_len x0)), .val (.int (v0_fill x3)), .val (.ref b2), .val (.int (v0_at x2)), .val (.int (f1 (z0_76_l6_1 x0 x1) (v0_at x2)))] [(.int (v0_fill x3)), (.int (z0_76_l6_1 x0 x1)), (.int (v0_len x0)), (.int (v0_at x2)), (.int (3 : Int32)), (.ref b2)]))
    refine g_callS X17 hx hZ hown (hw _ (List.mem_of_getElem? (i := 6) rfl)) (hw _ (List.mem_of_getElem? (i := 7) rfl)) (hw _ (List.mem_of_getElem? (i := 8) rfl)) (hw _ (List.mem_of_getElem? (i := 9) rfl)) (by decide) e17 (rm2 l Z a0 hw [] b2 (3 : Int32) (v0_at x2) (v0_len x0) (z0_76_l6_1 x0 x1) (v0_fill x3) 8 (g1_x1 (z0_76_l6_1 x0 x1) (upd (upd (upd (upd (upd (upd (upd (upd (fun _ => (0 : Int32)) 0 (i2bI (v0_fill x3))) 1 (i2bI (v0_fill x3))) 2 (i2bI (v0_fill x3))) 3 (i2bI (v0_fill x3))) 4 (i2bI (v0_fill x3))) 5 (i2bI (v0_fill x3))) 6 (i2bI (v0_fill x3))) 7 (i2bI (v0_fill x3))) (own_an x2)) 3 T11.heap p11_0 (rfl : (3 : Int32).toInt = 3) (by decide : 3 < 8)) [(.ref b2), (.int (3 : Int32)), (.int (v0_at x2)), (.int (v0_len x0)), (.int (z0_76_l6_1 x0 x1)), (.int (v0_fill x3))] [] 0 rfl (lenOf pd__28_5bBIIIIB_29Z rfl) rfl (Nat.le_of_eq rfl) (by decide) (by decide) (by decide) (by decide) (by rw [hml]; rfl) (hb hby at_230) ?_
    intro T19 L19 v19 X19 q19
    obtain ⟨rfl, rfl, e19⟩ := q19
    have NS19 := Fr.app NS17 (Fr.nil n0)
    show Go p e below s _ _ _ (T19.setTop (mkF m 233 #[.val (.int x0), .val (.int x1), .val (.int x2), .val (.int x3), .val (.int (v0_kind x0)), .val (.int (v0_v x1)), .val (.int (z0_76_l6_1 x0 x1)), .val (.int (v0_len x0)), .val (.int (v0_fill x3)), .val (.ref b2), .val (.int (v0_at x2)), .val (.int (f1 (z0_76_l6_1 x0 x1) (v0_at x2)))] [(.int (f2 (3 : Int32) (v0_at x2) (v0_len x0) (z0_76_l6_1 x0 x1) (v0_fill x3) (g1_x1 (z0_76_l6_1 x0 x1) (upd (upd (upd (upd (upd (upd (upd (upd (fun _ => (0 : Int32)) 0 (i2bI (v0_fill x3))) 1 (i2bI (v0_fill x3))) 2 (i2bI (v0_fill x3))) 3 (i2bI (v0_fill x3))) 4 (i2bI (v0_fill x3))) 5 (i2bI (v0_fill x3))) 6 (i2bI (v0_fill x3))) 7 (i2bI (v0_fill x3))) (own_an x2)) 3))]))
    have h20 : ¬ ((f2 (3 : Int32) (v0_at x2) (v0_len x0) (z0_76_l6_1 x0 x1) (v0_fill x3) (g1_x1 (z0_76_l6_1 x0 x1) (upd (upd (upd (upd (upd (upd (upd (upd (fun _ => (0 : Int32)) 0 (i2bI (v0_fill x3))) 1 (i2bI (v0_fill x3))) 2 (i2bI (v0_fill x3))) 3 (i2bI (v0_fill x3))) 4 (i2bI (v0_fill x3))) 5 (i2bI (v0_fill x3))) 6 (i2bI (v0_fill x3))) 7 (i2bI (v0_fill x3))) (own_an x2)) 3) = (0 : Int32)) := own_okp x0 x1 x2 x3 (3 : Int32) 3 rfl (by decide)
    refine g_if0_eq X19 hx 310 236 (hb hby at_233) (by decide) rfl rfl (fun q => absurd q h20) (fun _ => ?_)
    show Go p e below s _ _ _ (T19.setTop (mkF m 236 #[.val (.int x0), .val (.int x1), .val (.int x2), .val (.int x3), .val (.int (v0_kind x0)), .val (.int (v0_v x1)), .val (.int (z0_76_l6_1 x0 x1)), .val (.int (v0_len x0)), .val (.int (v0_fill x3)), .val (.ref b2), .val (.int (v0_at x2)), .val (.int (f1 (z0_76_l6_1 x0 x1) (v0_at x2)))] []))
    refine g_aload X19 hx 238 (hb hby at_236) rfl rfl rfl ?_
    show Go p e below s _ _ _ (T19.setTop (mkF m 238 #[.val (.int x0), .val (.int x1), .val (.int x2), .val (.int x3), .val (.int (v0_kind x0)), .val (.int (v0_v x1)), .val (.int (z0_76_l6_1 x0 x1)), .val (.int (v0_len x0)), .val (.int (v0_fill x3)), .val (.ref b2), .val (.int (v0_at x2)), .val (.int (f1 (z0_76_l6_1 x0 x1) (v0_at x2)))] [(.ref b2)]))
    refine g_iconst X19 hx (4 : Int32) 239 (hb hby at_238) rfl rfl ?_
    show Go p e below s _ _ _ (T19.setTop (mkF m 239 #[.val (.int x0), .val (.int x1), .val (.int x2), .val (.int x3), .val (.int (v0_kind x0)), .val (.int (v0_v x1)), .val (.int (z0_76_l6_1 x0 x1)), .val (.int (v0_len x0)), .val (.int (v0_fill x3)), .val (.ref b2), .val (.int (v0_at x2)), .val (.int (f1 (z0_76_l6_1 x0 x1) (v0_at x2)))] [(.int (4 : Int32)), (.ref b2)]))
    refine g_iload X19 hx 241 (hb hby at_239) rfl rfl ?_
    show Go p e below s _ _ _ (T19.setTop (mkF m 241 #[.val (.int x0), .val (.int x1), .val (.int x2), .val (.int x3), .val (.int (v0_kind x0)), .val (.int (v0_v x1)), .val (.int (z0_76_l6_1 x0 x1)), .val (.int (v0_len x0)), .val (.int (v0_fill x3)), .val (.ref b2), .val (.int (v0_at x2)), .val (.int (f1 (z0_76_l6_1 x0 x1) (v0_at x2)))] [(.int (v0_at x2)), (.int (4 : Int32)), (.ref b2)]))
    refine g_iload X19 hx 243 (hb hby at_241) rfl rfl ?_
    show Go p e below s _ _ _ (T19.setTop (mkF m 243 #[.val (.int x0), .val (.int x1), .val (.int x2), .val (.int x3), .val (.int (v0_kind x0)), .val (.int (v0_v x1)), .val (.int (z0_76_l6_1 x0 x1)), .val (.int (v0_len x0)), .val (.int (v0_fill x3)), .val (.ref b2), .val (.int (v0_at x2)), .val (.int (f1 (z0_76_l6_1 x0 x1) (v0_at x2)))] [(.int (v0_len x0)), (.int (v0_at x2)), (.int (4 : Int32)), (.ref b2)]))
    refine g_iload X19 hx 245 (hb hby at_243) rfl rfl ?_
    show Go p e below s _ _ _ (T19.setTop (mkF m 245 #[.val (.int x0), .val (.int x1), .val (.int x2), .val (.int x3), .val (.int (v0_kind x0)), .val (.int (v0_v x1)), .val (.int (z0_76_l6_1 x0 x1)), .val (.int (v0_len x0)), .val (.int (v0_fill x3)), .val (.ref b2), .val (.int (v0_at x2)), .val (.int (f1 (z0_76_l6_1 x0 x1) (v0_at x2)))] [(.int (z0_76_l6_1 x0 x1)), (.int (v0_len x0)), (.int (v0_at x2)), (.int (4 : Int32)), (.ref b2)]))
    refine g_iload X19 hx 247 (hb hby at_245) rfl rfl ?_
    show Go p e below s _ _ _ (T19.setTop (mkF m 247 #[.val (.int x0), .val (.int x1), .val (.int x2), .val (.int x3), .val (.int (v0_kind x0)), .val (.int (v0_v x1)), .val (.int (z0_76_l6_1 x0 x1)), .val (.int (v0_len x0)), .val (.int (v0_fill x3)), .val (.ref b2), .val (.int (v0_at x2)), .val (.int (f1 (z0_76_l6_1 x0 x1) (v0_at x2)))] [(.int (v0_fill x3)), (.int (z0_76_l6_1 x0 x1)), (.int (v0_len x0)), (.int (v0_at x2)), (.int (4 : Int32)), (.ref b2)]))
    refine g_callS X19 hx hZ hown (hw _ (List.mem_of_getElem? (i := 6) rfl)) (hw _ (List.mem_of_getElem? (i := 7) rfl)) (hw _ (List.mem_of_getElem? (i := 8) rfl)) (hw _ (List.mem_of_getElem? (i := 9) rfl)) (by decide) e19 (rm2 l Z a0 hw [] b2 (4 : Int32) (v0_at x2) (v0_len x0) (z0_76_l6_1 x0 x1) (v0_fill x3) 8 (g1_x1 (z0_76_l6_1 x0 x1) (upd (upd (upd (upd (upd (upd (upd (upd (fun _ => (0 : Int32)) 0 (i2bI (v0_fill x3))) 1 (i2bI (v0_fill x3))) 2 (i2bI (v0_fill x3))) 3 (i2bI (v0_fill x3))) 4 (i2bI (v0_fill x3))) 5 (i2bI (v0_fill x3))) 6 (i2bI (v0_fill x3))) 7 (i2bI (v0_fill x3))) (own_an x2)) 4 T11.heap p11_0 (rfl : (4 : Int32).toInt = 4) (by decide : 4 < 8)) [(.ref b2), (.int (4 : Int32)), (.int (v0_at x2)), (.int (v0_len x0)), (.int (z0_76_l6_1 x0 x1)), (.int (v0_fill x3))] [] 0 rfl (lenOf pd__28_5bBIIIIB_29Z rfl) rfl (Nat.le_of_eq rfl) (by decide) (by decide) (by decide) (by decide) (by rw [hml]; rfl) (hb hby at_247) ?_
    intro T21 L21 v21 X21 q21
    obtain ⟨rfl, rfl, e21⟩ := q21
    have NS21 := Fr.app NS19 (Fr.nil n0)
    show Go p e below s _ _ _ (T21.setTop (mkF m 250 #[.val (.int x0), .val (.int x1), .val (.int x2), .val (.int x3), .val (.int (v0_kind x0)), .val (.int (v0_v x1)), .val (.int (z0_76_l6_1 x0 x1)), .val (.int (v0_len x0)), .val (.int (v0_fill x3)), .val (.ref b2), .val (.int (v0_at x2)), .val (.int (f1 (z0_76_l6_1 x0 x1) (v0_at x2)))] [(.int (f2 (4 : Int32) (v0_at x2) (v0_len x0) (z0_76_l6_1 x0 x1) (v0_fill x3) (g1_x1 (z0_76_l6_1 x0 x1) (upd (upd (upd (upd (upd (upd (upd (upd (fun _ => (0 : Int32)) 0 (i2bI (v0_fill x3))) 1 (i2bI (v0_fill x3))) 2 (i2bI (v0_fill x3))) 3 (i2bI (v0_fill x3))) 4 (i2bI (v0_fill x3))) 5 (i2bI (v0_fill x3))) 6 (i2bI (v0_fill x3))) 7 (i2bI (v0_fill x3))) (own_an x2)) 4))]))
    have h22 : ¬ ((f2 (4 : Int32) (v0_at x2) (v0_len x0) (z0_76_l6_1 x0 x1) (v0_fill x3) (g1_x1 (z0_76_l6_1 x0 x1) (upd (upd (upd (upd (upd (upd (upd (upd (fun _ => (0 : Int32)) 0 (i2bI (v0_fill x3))) 1 (i2bI (v0_fill x3))) 2 (i2bI (v0_fill x3))) 3 (i2bI (v0_fill x3))) 4 (i2bI (v0_fill x3))) 5 (i2bI (v0_fill x3))) 6 (i2bI (v0_fill x3))) 7 (i2bI (v0_fill x3))) (own_an x2)) 4) = (0 : Int32)) := own_okp x0 x1 x2 x3 (4 : Int32) 4 rfl (by decide)
    refine g_if0_eq X21 hx 310 253 (hb hby at_250) (by decide) rfl rfl (fun q => absurd q h22) (fun _ => ?_)
    show Go p e below s _ _ _ (T21.setTop (mkF m 253 #[.val (.int x0), .val (.int x1), .val (.int x2), .val (.int x3), .val (.int (v0_kind x0)), .val (.int (v0_v x1)), .val (.int (z0_76_l6_1 x0 x1)), .val (.int (v0_len x0)), .val (.int (v0_fill x3)), .val (.ref b2), .val (.int (v0_at x2)), .val (.int (f1 (z0_76_l6_1 x0 x1) (v0_at x2)))] []))
    refine g_aload X21 hx 255 (hb hby at_253) rfl rfl rfl ?_
    show Go p e below s _ _ _ (T21.setTop (mkF m 255 #[.val (.int x0), .val (.int x1), .val (.int x2), .val (.int x3), .val (.int (v0_kind x0)), .val (.int (v0_v x1)), .val (.int (z0_76_l6_1 x0 x1)), .val (.int (v0_len x0)), .val (.int (v0_fill x3)), .val (.ref b2), .val (.int (v0_at x2)), .val (.int (f1 (z0_76_l6_1 x0 x1) (v0_at x2)))] [(.ref b2)]))
    refine g_iconst X21 hx (5 : Int32) 256 (hb hby at_255) rfl rfl ?_
    show Go p e below s _ _ _ (T21.setTop (mkF m 256 #[.val (.int x0), .val (.int x1), .val (.int x2), .val (.int x3), .val (.int (v0_kind x0)), .val (.int (v0_v x1)), .val (.int (z0_76_l6_1 x0 x1)), .val (.int (v0_len x0)), .val (.int (v0_fill x3)), .val (.ref b2), .val (.int (v0_at x2)), .val (.int (f1 (z0_76_l6_1 x0 x1) (v0_at x2)))] [(.int (5 : Int32)), (.ref b2)]))
    refine g_iload X21 hx 258 (hb hby at_256) rfl rfl ?_
    show Go p e below s _ _ _ (T21.setTop (mkF m 258 #[.val (.int x0), .val (.int x1), .val (.int x2), .val (.int x3), .val (.int (v0_kind x0)), .val (.int (v0_v x1)), .val (.int (z0_76_l6_1 x0 x1)), .val (.int (v0_len x0)), .val (.int (v0_fill x3)), .val (.ref b2), .val (.int (v0_at x2)), .val (.int (f1 (z0_76_l6_1 x0 x1) (v0_at x2)))] [(.int (v0_at x2)), (.int (5 : Int32)), (.ref b2)]))
    refine g_iload X21 hx 260 (hb hby at_258) rfl rfl ?_
    show Go p e below s _ _ _ (T21.setTop (mkF m 260 #[.val (.int x0), .val (.int x1), .val (.int x2), .val (.int x3), .val (.int (v0_kind x0)), .val (.int (v0_v x1)), .val (.int (z0_76_l6_1 x0 x1)), .val (.int (v0_len x0)), .val (.int (v0_fill x3)), .val (.ref b2), .val (.int (v0_at x2)), .val (.int (f1 (z0_76_l6_1 x0 x1) (v0_at x2)))] [(.int (v0_len x0)), (.int (v0_at x2)), (.int (5 : Int32)), (.ref b2)]))
    refine g_iload X21 hx 262 (hb hby at_260) rfl rfl ?_
    show Go p e below s _ _ _ (T21.setTop (mkF m 262 #[.val (.int x0), .val (.int x1), .val (.int x2), .val (.int x3), .val (.int (v0_kind x0)), .val (.int (v0_v x1)), .val (.int (z0_76_l6_1 x0 x1)), .val (.int (v0_len x0)), .val (.int (v0_fill x3)), .val (.ref b2), .val (.int (v0_at x2)), .val (.int (f1 (z0_76_l6_1 x0 x1) (v0_at x2)))] [(.int (z0_76_l6_1 x0 x1)), (.int (v0_len x0)), (.int (v0_at x2)), (.int (5 : Int32)), (.ref b2)]))
    refine g_iload X21 hx 264 (hb hby at_262) rfl rfl ?_
    show Go p e below s _ _ _ (T21.setTop (mkF m 264 #[.val (.int x0), .val (.int x1), .val (.int x2), .val (.int x3), .val (.int (v0_kind x0)), .val (.int (v0_v x1)), .val (.int (z0_76_l6_1 x0 x1)), .val (.int (v0_len x0)), .val (.int (v0_fill x3)), .val (.ref b2), .val (.int (v0_at x2)), .val (.int (f1 (z0_76_l6_1 x0 x1) (v0_at x2)))] [(.int (v0_fill x3)), (.int (z0_76_l6_1 x0 x1)), (.int (v0_len x0)), (.int (v0_at x2)), (.int (5 : Int32)), (.ref b2)]))
    refine g_callS X21 hx hZ hown (hw _ (List.mem_of_getElem? (i := 6) rfl)) (hw _ (List.mem_of_getElem? (i := 7) rfl)) (hw _ (List.mem_of_getElem? (i := 8) rfl)) (hw _ (List.mem_of_getElem? (i := 9) rfl)) (by decide) e21 (rm2 l Z a0 hw [] b2 (5 : Int32) (v0_at x2) (v0_len x0) (z0_76_l6_1 x0 x1) (v0_fill x3) 8 (g1_x1 (z0_76_l6_1 x0 x1) (upd (upd (upd (upd (upd (upd (upd (upd (fun _ => (0 : Int32)) 0 (i2bI (v0_fill x3))) 1 (i2bI (v0_fill x3))) 2 (i2bI (v0_fill x3))) 3 (i2bI (v0_fill x3))) 4 (i2bI (v0_fill x3))) 5 (i2bI (v0_fill x3))) 6 (i2bI (v0_fill x3))) 7 (i2bI (v0_fill x3))) (own_an x2)) 5 T11.heap p11_0 (rfl : (5 : Int32).toInt = 5) (by decide : 5 < 8)) [(.ref b2), (.int (5 : Int32)), (.int (v0_at x2)), (.int (v0_len x0)), (.int (z0_76_l6_1 x0 x1)), (.int (v0_fill x3))] [] 0 rfl (lenOf pd__28_5bBIIIIB_29Z rfl) rfl (Nat.le_of_eq rfl) (by decide) (by decide) (by decide) (by decide) (by rw [hml]; rfl) (hb hby at_264) ?_
    intro T23 L23 v23 X23 q23
    obtain ⟨rfl, rfl, e23⟩ := q23
    have NS23 := Fr.app NS21 (Fr.nil n0)
    show Go p e below s _ _ _ (T23.setTop (mkF m 267 #[.val (.int x0), .val (.int x1), .val (.int x2), .val (.int x3), .val (.int (v0_kind x0)), .val (.int (v0_v x1)), .val (.int (z0_76_l6_1 x0 x1)), .val (.int (v0_len x0)), .val (.int (v0_fill x3)), .val (.ref b2), .val (.int (v0_at x2)), .val (.int (f1 (z0_76_l6_1 x0 x1) (v0_at x2)))] [(.int (f2 (5 : Int32) (v0_at x2) (v0_len x0) (z0_76_l6_1 x0 x1) (v0_fill x3) (g1_x1 (z0_76_l6_1 x0 x1) (upd (upd (upd (upd (upd (upd (upd (upd (fun _ => (0 : Int32)) 0 (i2bI (v0_fill x3))) 1 (i2bI (v0_fill x3))) 2 (i2bI (v0_fill x3))) 3 (i2bI (v0_fill x3))) 4 (i2bI (v0_fill x3))) 5 (i2bI (v0_fill x3))) 6 (i2bI (v0_fill x3))) 7 (i2bI (v0_fill x3))) (own_an x2)) 5))]))
    have h24 : ¬ ((f2 (5 : Int32) (v0_at x2) (v0_len x0) (z0_76_l6_1 x0 x1) (v0_fill x3) (g1_x1 (z0_76_l6_1 x0 x1) (upd (upd (upd (upd (upd (upd (upd (upd (fun _ => (0 : Int32)) 0 (i2bI (v0_fill x3))) 1 (i2bI (v0_fill x3))) 2 (i2bI (v0_fill x3))) 3 (i2bI (v0_fill x3))) 4 (i2bI (v0_fill x3))) 5 (i2bI (v0_fill x3))) 6 (i2bI (v0_fill x3))) 7 (i2bI (v0_fill x3))) (own_an x2)) 5) = (0 : Int32)) := own_okp x0 x1 x2 x3 (5 : Int32) 5 rfl (by decide)
    refine g_if0_eq X23 hx 310 270 (hb hby at_267) (by decide) rfl rfl (fun q => absurd q h24) (fun _ => ?_)
    show Go p e below s _ _ _ (T23.setTop (mkF m 270 #[.val (.int x0), .val (.int x1), .val (.int x2), .val (.int x3), .val (.int (v0_kind x0)), .val (.int (v0_v x1)), .val (.int (z0_76_l6_1 x0 x1)), .val (.int (v0_len x0)), .val (.int (v0_fill x3)), .val (.ref b2), .val (.int (v0_at x2)), .val (.int (f1 (z0_76_l6_1 x0 x1) (v0_at x2)))] []))
    refine g_aload X23 hx 272 (hb hby at_270) rfl rfl rfl ?_
    show Go p e below s _ _ _ (T23.setTop (mkF m 272 #[.val (.int x0), .val (.int x1), .val (.int x2), .val (.int x3), .val (.int (v0_kind x0)), .val (.int (v0_v x1)), .val (.int (z0_76_l6_1 x0 x1)), .val (.int (v0_len x0)), .val (.int (v0_fill x3)), .val (.ref b2), .val (.int (v0_at x2)), .val (.int (f1 (z0_76_l6_1 x0 x1) (v0_at x2)))] [(.ref b2)]))
    refine g_bipush X23 hx (6 : Int32) 274 (hb hby at_272) rfl rfl ?_
    show Go p e below s _ _ _ (T23.setTop (mkF m 274 #[.val (.int x0), .val (.int x1), .val (.int x2), .val (.int x3), .val (.int (v0_kind x0)), .val (.int (v0_v x1)), .val (.int (z0_76_l6_1 x0 x1)), .val (.int (v0_len x0)), .val (.int (v0_fill x3)), .val (.ref b2), .val (.int (v0_at x2)), .val (.int (f1 (z0_76_l6_1 x0 x1) (v0_at x2)))] [(.int (6 : Int32)), (.ref b2)]))
    refine g_iload X23 hx 276 (hb hby at_274) rfl rfl ?_
    show Go p e below s _ _ _ (T23.setTop (mkF m 276 #[.val (.int x0), .val (.int x1), .val (.int x2), .val (.int x3), .val (.int (v0_kind x0)), .val (.int (v0_v x1)), .val (.int (z0_76_l6_1 x0 x1)), .val (.int (v0_len x0)), .val (.int (v0_fill x3)), .val (.ref b2), .val (.int (v0_at x2)), .val (.int (f1 (z0_76_l6_1 x0 x1) (v0_at x2)))] [(.int (v0_at x2)), (.int (6 : Int32)), (.ref b2)]))
    refine g_iload X23 hx 278 (hb hby at_276) rfl rfl ?_
    show Go p e below s _ _ _ (T23.setTop (mkF m 278 #[.val (.int x0), .val (.int x1), .val (.int x2), .val (.int x3), .val (.int (v0_kind x0)), .val (.int (v0_v x1)), .val (.int (z0_76_l6_1 x0 x1)), .val (.int (v0_len x0)), .val (.int (v0_fill x3)), .val (.ref b2), .val (.int (v0_at x2)), .val (.int (f1 (z0_76_l6_1 x0 x1) (v0_at x2)))] [(.int (v0_len x0)), (.int (v0_at x2)), (.int (6 : Int32)), (.ref b2)]))
    refine g_iload X23 hx 280 (hb hby at_278) rfl rfl ?_
    show Go p e below s _ _ _ (T23.setTop (mkF m 280 #[.val (.int x0), .val (.int x1), .val (.int x2), .val (.int x3), .val (.int (v0_kind x0)), .val (.int (v0_v x1)), .val (.int (z0_76_l6_1 x0 x1)), .val (.int (v0_len x0)), .val (.int (v0_fill x3)), .val (.ref b2), .val (.int (v0_at x2)), .val (.int (f1 (z0_76_l6_1 x0 x1) (v0_at x2)))] [(.int (z0_76_l6_1 x0 x1)), (.int (v0_len x0)), (.int (v0_at x2)), (.int (6 : Int32)), (.ref b2)]))
    refine g_iload X23 hx 282 (hb hby at_280) rfl rfl ?_
    show Go p e below s _ _ _ (T23.setTop (mkF m 282 #[.val (.int x0), .val (.int x1), .val (.int x2), .val (.int x3), .val (.int (v0_kind x0)), .val (.int (v0_v x1)), .val (.int (z0_76_l6_1 x0 x1)), .val (.int (v0_len x0)), .val (.int (v0_fill x3)), .val (.ref b2), .val (.int (v0_at x2)), .val (.int (f1 (z0_76_l6_1 x0 x1) (v0_at x2)))] [(.int (v0_fill x3)), (.int (z0_76_l6_1 x0 x1)), (.int (v0_len x0)), (.int (v0_at x2)), (.int (6 : Int32)), (.ref b2)]))
    refine g_callS X23 hx hZ hown (hw _ (List.mem_of_getElem? (i := 6) rfl)) (hw _ (List.mem_of_getElem? (i := 7) rfl)) (hw _ (List.mem_of_getElem? (i := 8) rfl)) (hw _ (List.mem_of_getElem? (i := 9) rfl)) (by decide) e23 (rm2 l Z a0 hw [] b2 (6 : Int32) (v0_at x2) (v0_len x0) (z0_76_l6_1 x0 x1) (v0_fill x3) 8 (g1_x1 (z0_76_l6_1 x0 x1) (upd (upd (upd (upd (upd (upd (upd (upd (fun _ => (0 : Int32)) 0 (i2bI (v0_fill x3))) 1 (i2bI (v0_fill x3))) 2 (i2bI (v0_fill x3))) 3 (i2bI (v0_fill x3))) 4 (i2bI (v0_fill x3))) 5 (i2bI (v0_fill x3))) 6 (i2bI (v0_fill x3))) 7 (i2bI (v0_fill x3))) (own_an x2)) 6 T11.heap p11_0 (rfl : (6 : Int32).toInt = 6) (by decide : 6 < 8)) [(.ref b2), (.int (6 : Int32)), (.int (v0_at x2)), (.int (v0_len x0)), (.int (z0_76_l6_1 x0 x1)), (.int (v0_fill x3))] [] 0 rfl (lenOf pd__28_5bBIIIIB_29Z rfl) rfl (Nat.le_of_eq rfl) (by decide) (by decide) (by decide) (by decide) (by rw [hml]; rfl) (hb hby at_282) ?_
    intro T25 L25 v25 X25 q25
    obtain ⟨rfl, rfl, e25⟩ := q25
    have NS25 := Fr.app NS23 (Fr.nil n0)
    show Go p e below s _ _ _ (T25.setTop (mkF m 285 #[.val (.int x0), .val (.int x1), .val (.int x2), .val (.int x3), .val (.int (v0_kind x0)), .val (.int (v0_v x1)), .val (.int (z0_76_l6_1 x0 x1)), .val (.int (v0_len x0)), .val (.int (v0_fill x3)), .val (.ref b2), .val (.int (v0_at x2)), .val (.int (f1 (z0_76_l6_1 x0 x1) (v0_at x2)))] [(.int (f2 (6 : Int32) (v0_at x2) (v0_len x0) (z0_76_l6_1 x0 x1) (v0_fill x3) (g1_x1 (z0_76_l6_1 x0 x1) (upd (upd (upd (upd (upd (upd (upd (upd (fun _ => (0 : Int32)) 0 (i2bI (v0_fill x3))) 1 (i2bI (v0_fill x3))) 2 (i2bI (v0_fill x3))) 3 (i2bI (v0_fill x3))) 4 (i2bI (v0_fill x3))) 5 (i2bI (v0_fill x3))) 6 (i2bI (v0_fill x3))) 7 (i2bI (v0_fill x3))) (own_an x2)) 6))]))
    have h26 : ¬ ((f2 (6 : Int32) (v0_at x2) (v0_len x0) (z0_76_l6_1 x0 x1) (v0_fill x3) (g1_x1 (z0_76_l6_1 x0 x1) (upd (upd (upd (upd (upd (upd (upd (upd (fun _ => (0 : Int32)) 0 (i2bI (v0_fill x3))) 1 (i2bI (v0_fill x3))) 2 (i2bI (v0_fill x3))) 3 (i2bI (v0_fill x3))) 4 (i2bI (v0_fill x3))) 5 (i2bI (v0_fill x3))) 6 (i2bI (v0_fill x3))) 7 (i2bI (v0_fill x3))) (own_an x2)) 6) = (0 : Int32)) := own_okp x0 x1 x2 x3 (6 : Int32) 6 rfl (by decide)
    refine g_if0_eq X25 hx 310 288 (hb hby at_285) (by decide) rfl rfl (fun q => absurd q h26) (fun _ => ?_)
    show Go p e below s _ _ _ (T25.setTop (mkF m 288 #[.val (.int x0), .val (.int x1), .val (.int x2), .val (.int x3), .val (.int (v0_kind x0)), .val (.int (v0_v x1)), .val (.int (z0_76_l6_1 x0 x1)), .val (.int (v0_len x0)), .val (.int (v0_fill x3)), .val (.ref b2), .val (.int (v0_at x2)), .val (.int (f1 (z0_76_l6_1 x0 x1) (v0_at x2)))] []))
    refine g_aload X25 hx 290 (hb hby at_288) rfl rfl rfl ?_
    show Go p e below s _ _ _ (T25.setTop (mkF m 290 #[.val (.int x0), .val (.int x1), .val (.int x2), .val (.int x3), .val (.int (v0_kind x0)), .val (.int (v0_v x1)), .val (.int (z0_76_l6_1 x0 x1)), .val (.int (v0_len x0)), .val (.int (v0_fill x3)), .val (.ref b2), .val (.int (v0_at x2)), .val (.int (f1 (z0_76_l6_1 x0 x1) (v0_at x2)))] [(.ref b2)]))
    refine g_bipush X25 hx (7 : Int32) 292 (hb hby at_290) rfl rfl ?_
    show Go p e below s _ _ _ (T25.setTop (mkF m 292 #[.val (.int x0), .val (.int x1), .val (.int x2), .val (.int x3), .val (.int (v0_kind x0)), .val (.int (v0_v x1)), .val (.int (z0_76_l6_1 x0 x1)), .val (.int (v0_len x0)), .val (.int (v0_fill x3)), .val (.ref b2), .val (.int (v0_at x2)), .val (.int (f1 (z0_76_l6_1 x0 x1) (v0_at x2)))] [(.int (7 : Int32)), (.ref b2)]))
    refine g_iload X25 hx 294 (hb hby at_292) rfl rfl ?_
    show Go p e below s _ _ _ (T25.setTop (mkF m 294 #[.val (.int x0), .val (.int x1), .val (.int x2), .val (.int x3), .val (.int (v0_kind x0)), .val (.int (v0_v x1)), .val (.int (z0_76_l6_1 x0 x1)), .val (.int (v0_len x0)), .val (.int (v0_fill x3)), .val (.ref b2), .val (.int (v0_at x2)), .val (.int (f1 (z0_76_l6_1 x0 x1) (v0_at x2)))] [(.int (v0_at x2)), (.int (7 : Int32)), (.ref b2)]))
    refine g_iload X25 hx 296 (hb hby at_294) rfl rfl ?_
    show Go p e below s _ _ _ (T25.setTop (mkF m 296 #[.val (.int x0), .val (.int x1), .val (.int x2), .val (.int x3), .val (.int (v0_kind x0)), .val (.int (v0_v x1)), .val (.int (z0_76_l6_1 x0 x1)), .val (.int (v0_len x0)), .val (.int (v0_fill x3)), .val (.ref b2), .val (.int (v0_at x2)), .val (.int (f1 (z0_76_l6_1 x0 x1) (v0_at x2)))] [(.int (v0_len x0)), (.int (v0_at x2)), (.int (7 : Int32)), (.ref b2)]))
    refine g_iload X25 hx 298 (hb hby at_296) rfl rfl ?_
    show Go p e below s _ _ _ (T25.setTop (mkF m 298 #[.val (.int x0), .val (.int x1), .val (.int x2), .val (.int x3), .val (.int (v0_kind x0)), .val (.int (v0_v x1)), .val (.int (z0_76_l6_1 x0 x1)), .val (.int (v0_len x0)), .val (.int (v0_fill x3)), .val (.ref b2), .val (.int (v0_at x2)), .val (.int (f1 (z0_76_l6_1 x0 x1) (v0_at x2)))] [(.int (z0_76_l6_1 x0 x1)), (.int (v0_len x0)), (.int (v0_at x2)), (.int (7 : Int32)), (.ref b2)]))
    refine g_iload X25 hx 300 (hb hby at_298) rfl rfl ?_
    show Go p e below s _ _ _ (T25.setTop (mkF m 300 #[.val (.int x0), .val (.int x1), .val (.int x2), .val (.int x3), .val (.int (v0_kind x0)), .val (.int (v0_v x1)), .val (.int (z0_76_l6_1 x0 x1)), .val (.int (v0_len x0)), .val (.int (v0_fill x3)), .val (.ref b2), .val (.int (v0_at x2)), .val (.int (f1 (z0_76_l6_1 x0 x1) (v0_at x2)))] [(.int (v0_fill x3)), (.int (z0_76_l6_1 x0 x1)), (.int (v0_len x0)), (.int (v0_at x2)), (.int (7 : Int32)), (.ref b2)]))
    refine g_callS X25 hx hZ hown (hw _ (List.mem_of_getElem? (i := 6) rfl)) (hw _ (List.mem_of_getElem? (i := 7) rfl)) (hw _ (List.mem_of_getElem? (i := 8) rfl)) (hw _ (List.mem_of_getElem? (i := 9) rfl)) (by decide) e25 (rm2 l Z a0 hw [] b2 (7 : Int32) (v0_at x2) (v0_len x0) (z0_76_l6_1 x0 x1) (v0_fill x3) 8 (g1_x1 (z0_76_l6_1 x0 x1) (upd (upd (upd (upd (upd (upd (upd (upd (fun _ => (0 : Int32)) 0 (i2bI (v0_fill x3))) 1 (i2bI (v0_fill x3))) 2 (i2bI (v0_fill x3))) 3 (i2bI (v0_fill x3))) 4 (i2bI (v0_fill x3))) 5 (i2bI (v0_fill x3))) 6 (i2bI (v0_fill x3))) 7 (i2bI (v0_fill x3))) (own_an x2)) 7 T11.heap p11_0 (rfl : (7 : Int32).toInt = 7) (by decide : 7 < 8)) [(.ref b2), (.int (7 : Int32)), (.int (v0_at x2)), (.int (v0_len x0)), (.int (z0_76_l6_1 x0 x1)), (.int (v0_fill x3))] [] 0 rfl (lenOf pd__28_5bBIIIIB_29Z rfl) rfl (Nat.le_of_eq rfl) (by decide) (by decide) (by decide) (by decide) (by rw [hml]; rfl) (hb hby at_300) ?_
    intro T27 L27 v27 X27 q27
    obtain ⟨rfl, rfl, e27⟩ := q27
    have NS27 := Fr.app NS25 (Fr.nil n0)
    show Go p e below s _ _ _ (T27.setTop (mkF m 303 #[.val (.int x0), .val (.int x1), .val (.int x2), .val (.int x3), .val (.int (v0_kind x0)), .val (.int (v0_v x1)), .val (.int (z0_76_l6_1 x0 x1)), .val (.int (v0_len x0)), .val (.int (v0_fill x3)), .val (.ref b2), .val (.int (v0_at x2)), .val (.int (f1 (z0_76_l6_1 x0 x1) (v0_at x2)))] [(.int (f2 (7 : Int32) (v0_at x2) (v0_len x0) (z0_76_l6_1 x0 x1) (v0_fill x3) (g1_x1 (z0_76_l6_1 x0 x1) (upd (upd (upd (upd (upd (upd (upd (upd (fun _ => (0 : Int32)) 0 (i2bI (v0_fill x3))) 1 (i2bI (v0_fill x3))) 2 (i2bI (v0_fill x3))) 3 (i2bI (v0_fill x3))) 4 (i2bI (v0_fill x3))) 5 (i2bI (v0_fill x3))) 6 (i2bI (v0_fill x3))) 7 (i2bI (v0_fill x3))) (own_an x2)) 7))]))
    have h28 : ¬ ((f2 (7 : Int32) (v0_at x2) (v0_len x0) (z0_76_l6_1 x0 x1) (v0_fill x3) (g1_x1 (z0_76_l6_1 x0 x1) (upd (upd (upd (upd (upd (upd (upd (upd (fun _ => (0 : Int32)) 0 (i2bI (v0_fill x3))) 1 (i2bI (v0_fill x3))) 2 (i2bI (v0_fill x3))) 3 (i2bI (v0_fill x3))) 4 (i2bI (v0_fill x3))) 5 (i2bI (v0_fill x3))) 6 (i2bI (v0_fill x3))) 7 (i2bI (v0_fill x3))) (own_an x2)) 7) = (0 : Int32)) := own_okp x0 x1 x2 x3 (7 : Int32) 7 rfl (by decide)
    refine g_if0_eq X27 hx 310 306 (hb hby at_303) (by decide) rfl rfl (fun q => absurd q h28) (fun _ => ?_)
    show Go p e below s _ _ _ (T27.setTop (mkF m 306 #[.val (.int x0), .val (.int x1), .val (.int x2), .val (.int x3), .val (.int (v0_kind x0)), .val (.int (v0_v x1)), .val (.int (z0_76_l6_1 x0 x1)), .val (.int (v0_len x0)), .val (.int (v0_fill x3)), .val (.ref b2), .val (.int (v0_at x2)), .val (.int (f1 (z0_76_l6_1 x0 x1) (v0_at x2)))] []))
    refine g_iconst X27 hx (1 : Int32) 307 (hb hby at_306) rfl rfl ?_
    show Go p e below s _ _ _ (T27.setTop (mkF m 307 #[.val (.int x0), .val (.int x1), .val (.int x2), .val (.int x3), .val (.int (v0_kind x0)), .val (.int (v0_v x1)), .val (.int (z0_76_l6_1 x0 x1)), .val (.int (v0_len x0)), .val (.int (v0_fill x3)), .val (.ref b2), .val (.int (v0_at x2)), .val (.int (f1 (z0_76_l6_1 x0 x1) (v0_at x2)))] [(.int (1 : Int32))]))
    refine g_goto X27 hx 311 (hb hby at_307) (by decide) rfl ?_
    show Go p e below s _ _ _ (T27.setTop (mkF m 311 #[.val (.int x0), .val (.int x1), .val (.int x2), .val (.int x3), .val (.int (v0_kind x0)), .val (.int (v0_v x1)), .val (.int (z0_76_l6_1 x0 x1)), .val (.int (v0_len x0)), .val (.int (v0_fill x3)), .val (.ref b2), .val (.int (v0_at x2)), .val (.int (f1 (z0_76_l6_1 x0 x1) (v0_at x2)))] [(.int (1 : Int32))]))
    exact g_retN X27 hx hret (by simp) hlk (hb hby at_311) (by decide) (by decide) ⟨rfl, NS27⟩
  refine g_if0_ne X0 hx 25 16 (hb hby at_13) (by decide) rfl rfl (fun h29 => ?_) (fun h29 => ?_)
  · show Go p e below s _ _ _ (T0.setTop (mkF m 16 #[.val (.int x0), .val (.int x1), .val (.int x2), .val (.int x3), .val (.int (v0_kind x0)), .val (.int (v0_v x1)), .unset, .unset, .unset, .unset, .unset, .unset] []))
    refine g_iloadN X0 hx 17 (hb hby at_16) rfl rfl ?_
    show Go p e below s _ _ _ (T0.setTop (mkF m 17 #[.val (.int x0), .val (.int x1), .val (.int x2), .val (.int x3), .val (.int (v0_kind x0)), .val (.int (v0_v x1)), .unset, .unset, .unset, .unset, .unset, .unset] [(.int x1)]))
    refine g_bipush X0 hx (127 : Int32) 19 (hb hby at_17) rfl rfl ?_
    show Go p e below s _ _ _ (T0.setTop (mkF m 19 #[.val (.int x0), .val (.int x1), .val (.int x2), .val (.int x3), .val (.int (v0_kind x0)), .val (.int (v0_v x1)), .unset, .unset, .unset, .unset, .unset, .unset] [(.int (127 : Int32)), (.int x1)]))
    refine g_iand X0 hx 20 (hb hby at_19) rfl ?_
    show Go p e below s _ _ _ (T0.setTop (mkF m 20 #[.val (.int x0), .val (.int x1), .val (.int x2), .val (.int x3), .val (.int (v0_kind x0)), .val (.int (v0_v x1)), .unset, .unset, .unset, .unset, .unset, .unset] [(.int (x1 &&& (127 : Int32)))]))
    refine g_istore X0 hx #[.val (.int x0), .val (.int x1), .val (.int x2), .val (.int x3), .val (.int (v0_kind x0)), .val (.int (v0_v x1)), .val (.int (x1 &&& (127 : Int32))), .unset, .unset, .unset, .unset, .unset] 22 (hb hby at_20) rfl rfl ?_
    show Go p e below s _ _ _ (T0.setTop (mkF m 22 #[.val (.int x0), .val (.int x1), .val (.int x2), .val (.int x3), .val (.int (v0_kind x0)), .val (.int (v0_v x1)), .val (.int (x1 &&& (127 : Int32))), .unset, .unset, .unset, .unset, .unset] []))
    refine g_goto X0 hx 76 (hb hby at_22) (by decide) rfl ?_
    show Go p e below s _ _ _ (T0.setTop (mkF m 76 #[.val (.int x0), .val (.int x1), .val (.int x2), .val (.int x3), .val (.int (v0_kind x0)), .val (.int (v0_v x1)), .val (.int (x1 &&& (127 : Int32))), .unset, .unset, .unset, .unset, .unset] []))
    have q1 := J1
    simp only [z0_76_l6_1, if_pos h29] at q1
    exact q1
  · show Go p e below s _ _ _ (T0.setTop (mkF m 25 #[.val (.int x0), .val (.int x1), .val (.int x2), .val (.int x3), .val (.int (v0_kind x0)), .val (.int (v0_v x1)), .unset, .unset, .unset, .unset, .unset, .unset] []))
    refine g_iload X0 hx 27 (hb hby at_25) rfl rfl ?_
    show Go p e below s _ _ _ (T0.setTop (mkF m 27 #[.val (.int x0), .val (.int x1), .val (.int x2), .val (.int x3), .val (.int (v0_kind x0)), .val (.int (v0_v x1)), .unset, .unset, .unset, .unset, .unset, .unset] [(.int (v0_kind x0))]))
    refine g_iconst X0 hx (1 : Int32) 28 (hb hby at_27) rfl rfl ?_
    show Go p e below s _ _ _ (T0.setTop (mkF m 28 #[.val (.int x0), .val (.int x1), .val (.int x2), .val (.int x3), .val (.int (v0_kind x0)), .val (.int (v0_v x1)), .unset, .unset, .unset, .unset, .unset, .unset] [(.int (1 : Int32)), (.int (v0_kind x0))]))
    refine g_icmp_ne X0 hx 46 31 (hb hby at_28) (by decide) rfl rfl (fun h30 => ?_) (fun h30 => ?_)
    · show Go p e below s _ _ _ (T0.setTop (mkF m 31 #[.val (.int x0), .val (.int x1), .val (.int x2), .val (.int x3), .val (.int (v0_kind x0)), .val (.int (v0_v x1)), .unset, .unset, .unset, .unset, .unset, .unset] []))
      refine g_sipush X0 hx (128 : Int32) 34 (hb hby at_31) rfl rfl ?_
      show Go p e below s _ _ _ (T0.setTop (mkF m 34 #[.val (.int x0), .val (.int x1), .val (.int x2), .val (.int x3), .val (.int (v0_kind x0)), .val (.int (v0_v x1)), .unset, .unset, .unset, .unset, .unset, .unset] [(.int (128 : Int32))]))
      refine g_iload X0 hx 36 (hb hby at_34) rfl rfl ?_
      show Go p e below s _ _ _ (T0.setTop (mkF m 36 #[.val (.int x0), .val (.int x1), .val (.int x2), .val (.int x3), .val (.int (v0_kind x0)), .val (.int (v0_v x1)), .unset, .unset, .unset, .unset, .unset, .unset] [(.int (v0_v x1)), (.int (128 : Int32))]))
      refine g_sipush X0 hx (1920 : Int32) 39 (hb hby at_36) rfl rfl ?_
      show Go p e below s _ _ _ (T0.setTop (mkF m 39 #[.val (.int x0), .val (.int x1), .val (.int x2), .val (.int x3), .val (.int (v0_kind x0)), .val (.int (v0_v x1)), .unset, .unset, .unset, .unset, .unset, .unset] [(.int (1920 : Int32)), (.int (v0_v x1)), (.int (128 : Int32))]))
      refine g_irem X0 hx 40 (hb hby at_39) (by decide) rfl ?_
      show Go p e below s _ _ _ (T0.setTop (mkF m 40 #[.val (.int x0), .val (.int x1), .val (.int x2), .val (.int x3), .val (.int (v0_kind x0)), .val (.int (v0_v x1)), .unset, .unset, .unset, .unset, .unset, .unset] [(.int ((v0_v x1) % (1920 : Int32))), (.int (128 : Int32))]))
      refine g_iadd X0 hx 41 (hb hby at_40) rfl ?_
      show Go p e below s _ _ _ (T0.setTop (mkF m 41 #[.val (.int x0), .val (.int x1), .val (.int x2), .val (.int x3), .val (.int (v0_kind x0)), .val (.int (v0_v x1)), .unset, .unset, .unset, .unset, .unset, .unset] [(.int ((128 : Int32) + ((v0_v x1) % (1920 : Int32))))]))
      refine g_istore X0 hx #[.val (.int x0), .val (.int x1), .val (.int x2), .val (.int x3), .val (.int (v0_kind x0)), .val (.int (v0_v x1)), .val (.int ((128 : Int32) + ((v0_v x1) % (1920 : Int32)))), .unset, .unset, .unset, .unset, .unset] 43 (hb hby at_41) rfl rfl ?_
      show Go p e below s _ _ _ (T0.setTop (mkF m 43 #[.val (.int x0), .val (.int x1), .val (.int x2), .val (.int x3), .val (.int (v0_kind x0)), .val (.int (v0_v x1)), .val (.int ((128 : Int32) + ((v0_v x1) % (1920 : Int32)))), .unset, .unset, .unset, .unset, .unset] []))
      refine g_goto X0 hx 76 (hb hby at_43) (by decide) rfl ?_
      show Go p e below s _ _ _ (T0.setTop (mkF m 76 #[.val (.int x0), .val (.int x1), .val (.int x2), .val (.int x3), .val (.int (v0_kind x0)), .val (.int (v0_v x1)), .val (.int ((128 : Int32) + ((v0_v x1) % (1920 : Int32)))), .unset, .unset, .unset, .unset, .unset] []))
      have q1 := J1
      simp only [z0_76_l6_1, if_neg h29, if_pos h30] at q1
      exact q1
    · show Go p e below s _ _ _ (T0.setTop (mkF m 46 #[.val (.int x0), .val (.int x1), .val (.int x2), .val (.int x3), .val (.int (v0_kind x0)), .val (.int (v0_v x1)), .unset, .unset, .unset, .unset, .unset, .unset] []))
      refine g_iload X0 hx 48 (hb hby at_46) rfl rfl ?_
      show Go p e below s _ _ _ (T0.setTop (mkF m 48 #[.val (.int x0), .val (.int x1), .val (.int x2), .val (.int x3), .val (.int (v0_kind x0)), .val (.int (v0_v x1)), .unset, .unset, .unset, .unset, .unset, .unset] [(.int (v0_kind x0))]))
      refine g_iconst X0 hx (2 : Int32) 49 (hb hby at_48) rfl rfl ?_
      show Go p e below s _ _ _ (T0.setTop (mkF m 49 #[.val (.int x0), .val (.int x1), .val (.int x2), .val (.int x3), .val (.int (v0_kind x0)), .val (.int (v0_v x1)), .unset, .unset, .unset, .unset, .unset, .unset] [(.int (2 : Int32)), (.int (v0_kind x0))]))
      refine g_icmp_ne X0 hx 66 52 (hb hby at_49) (by decide) rfl rfl (fun h31 => ?_) (fun h31 => ?_)
      · show Go p e below s _ _ _ (T0.setTop (mkF m 52 #[.val (.int x0), .val (.int x1), .val (.int x2), .val (.int x3), .val (.int (v0_kind x0)), .val (.int (v0_v x1)), .unset, .unset, .unset, .unset, .unset, .unset] []))
        refine g_sipush X0 hx (2048 : Int32) 55 (hb hby at_52) rfl rfl ?_
        show Go p e below s _ _ _ (T0.setTop (mkF m 55 #[.val (.int x0), .val (.int x1), .val (.int x2), .val (.int x3), .val (.int (v0_kind x0)), .val (.int (v0_v x1)), .unset, .unset, .unset, .unset, .unset, .unset] [(.int (2048 : Int32))]))
        refine g_iload X0 hx 57 (hb hby at_55) rfl rfl ?_
        show Go p e below s _ _ _ (T0.setTop (mkF m 57 #[.val (.int x0), .val (.int x1), .val (.int x2), .val (.int x3), .val (.int (v0_kind x0)), .val (.int (v0_v x1)), .unset, .unset, .unset, .unset, .unset, .unset] [(.int (v0_v x1)), (.int (2048 : Int32))]))
        refine g_ldc X0 hx hZ hown (hw _ (List.mem_of_getElem? (i := 20) rfl)) 59 (hb hby at_57) rfl ?_
        show Go p e below s _ _ _ (T0.setTop (mkF m 59 #[.val (.int x0), .val (.int x1), .val (.int x2), .val (.int x3), .val (.int (v0_kind x0)), .val (.int (v0_v x1)), .unset, .unset, .unset, .unset, .unset, .unset] [(.int (63488 : Int32)), (.int (v0_v x1)), (.int (2048 : Int32))]))
        refine g_irem X0 hx 60 (hb hby at_59) (by decide) rfl ?_
        show Go p e below s _ _ _ (T0.setTop (mkF m 60 #[.val (.int x0), .val (.int x1), .val (.int x2), .val (.int x3), .val (.int (v0_kind x0)), .val (.int (v0_v x1)), .unset, .unset, .unset, .unset, .unset, .unset] [(.int ((v0_v x1) % (63488 : Int32))), (.int (2048 : Int32))]))
        refine g_iadd X0 hx 61 (hb hby at_60) rfl ?_
        show Go p e below s _ _ _ (T0.setTop (mkF m 61 #[.val (.int x0), .val (.int x1), .val (.int x2), .val (.int x3), .val (.int (v0_kind x0)), .val (.int (v0_v x1)), .unset, .unset, .unset, .unset, .unset, .unset] [(.int ((2048 : Int32) + ((v0_v x1) % (63488 : Int32))))]))
        refine g_istore X0 hx #[.val (.int x0), .val (.int x1), .val (.int x2), .val (.int x3), .val (.int (v0_kind x0)), .val (.int (v0_v x1)), .val (.int ((2048 : Int32) + ((v0_v x1) % (63488 : Int32)))), .unset, .unset, .unset, .unset, .unset] 63 (hb hby at_61) rfl rfl ?_
        show Go p e below s _ _ _ (T0.setTop (mkF m 63 #[.val (.int x0), .val (.int x1), .val (.int x2), .val (.int x3), .val (.int (v0_kind x0)), .val (.int (v0_v x1)), .val (.int ((2048 : Int32) + ((v0_v x1) % (63488 : Int32)))), .unset, .unset, .unset, .unset, .unset] []))
        refine g_goto X0 hx 76 (hb hby at_63) (by decide) rfl ?_
        show Go p e below s _ _ _ (T0.setTop (mkF m 76 #[.val (.int x0), .val (.int x1), .val (.int x2), .val (.int x3), .val (.int (v0_kind x0)), .val (.int (v0_v x1)), .val (.int ((2048 : Int32) + ((v0_v x1) % (63488 : Int32)))), .unset, .unset, .unset, .unset, .unset] []))
        have q1 := J1
        simp only [z0_76_l6_1, if_neg h29, if_neg h30, if_pos h31] at q1
        exact q1
      · show Go p e below s _ _ _ (T0.setTop (mkF m 66 #[.val (.int x0), .val (.int x1), .val (.int x2), .val (.int x3), .val (.int (v0_kind x0)), .val (.int (v0_v x1)), .unset, .unset, .unset, .unset, .unset, .unset] []))
        refine g_ldc X0 hx hZ hown (hw _ (List.mem_of_getElem? (i := 13) rfl)) 68 (hb hby at_66) rfl ?_
        show Go p e below s _ _ _ (T0.setTop (mkF m 68 #[.val (.int x0), .val (.int x1), .val (.int x2), .val (.int x3), .val (.int (v0_kind x0)), .val (.int (v0_v x1)), .unset, .unset, .unset, .unset, .unset, .unset] [(.int (65536 : Int32))]))
        refine g_iload X0 hx 70 (hb hby at_68) rfl rfl ?_
        show Go p e below s _ _ _ (T0.setTop (mkF m 70 #[.val (.int x0), .val (.int x1), .val (.int x2), .val (.int x3), .val (.int (v0_kind x0)), .val (.int (v0_v x1)), .unset, .unset, .unset, .unset, .unset, .unset] [(.int (v0_v x1)), (.int (65536 : Int32))]))
        refine g_ldc X0 hx hZ hown (hw _ (List.mem_of_getElem? (i := 14) rfl)) 72 (hb hby at_70) rfl ?_
        show Go p e below s _ _ _ (T0.setTop (mkF m 72 #[.val (.int x0), .val (.int x1), .val (.int x2), .val (.int x3), .val (.int (v0_kind x0)), .val (.int (v0_v x1)), .unset, .unset, .unset, .unset, .unset, .unset] [(.int (1048576 : Int32)), (.int (v0_v x1)), (.int (65536 : Int32))]))
        refine g_irem X0 hx 73 (hb hby at_72) (by decide) rfl ?_
        show Go p e below s _ _ _ (T0.setTop (mkF m 73 #[.val (.int x0), .val (.int x1), .val (.int x2), .val (.int x3), .val (.int (v0_kind x0)), .val (.int (v0_v x1)), .unset, .unset, .unset, .unset, .unset, .unset] [(.int ((v0_v x1) % (1048576 : Int32))), (.int (65536 : Int32))]))
        refine g_iadd X0 hx 74 (hb hby at_73) rfl ?_
        show Go p e below s _ _ _ (T0.setTop (mkF m 74 #[.val (.int x0), .val (.int x1), .val (.int x2), .val (.int x3), .val (.int (v0_kind x0)), .val (.int (v0_v x1)), .unset, .unset, .unset, .unset, .unset, .unset] [(.int ((65536 : Int32) + ((v0_v x1) % (1048576 : Int32))))]))
        refine g_istore X0 hx #[.val (.int x0), .val (.int x1), .val (.int x2), .val (.int x3), .val (.int (v0_kind x0)), .val (.int (v0_v x1)), .val (.int ((65536 : Int32) + ((v0_v x1) % (1048576 : Int32)))), .unset, .unset, .unset, .unset, .unset] 76 (hb hby at_74) rfl rfl ?_
        show Go p e below s _ _ _ (T0.setTop (mkF m 76 #[.val (.int x0), .val (.int x1), .val (.int x2), .val (.int x3), .val (.int (v0_kind x0)), .val (.int (v0_v x1)), .val (.int ((65536 : Int32) + ((v0_v x1) % (1048576 : Int32)))), .unset, .unset, .unset, .unset, .unset] []))
        have q1 := J1
        simp only [z0_76_l6_1, if_neg h29, if_neg h30, if_neg h31] at q1
        exact q1
set_option maxRecDepth 65536 in
set_option maxHeartbeats 40000000 in
theorem comes_1 {Post : Tables → Env → Array Value → State → Outcome → State → Prop} (hpost : ∀ tb e args s v u, (limb_1_1.after args s (.returned v) u = true ∧ limb_1_2.after args s (.returned v) u = true ∧ True) → FrameEnd s (.returned v) u (Jvm.fieldLocs frame_1_writes args s ++ Jvm.arrayLocs frame_1_arrays args s ++ Jvm.staticLocs frame_1_statics s) 16 128 → Post tb e args s (.returned v) u) :
    ArmFor flags0 classFile x code maxLocals ret World_1 tables_1 room_1 Calls_1 rest_1 Pre_1 Post := by
  intro l hfl _ _ p e ha hc hk s m args below hf hA hF happ hP
  obtain ⟨hcalls, hrest, hpre⟩ := hP
  obtain ⟨-, -, -, hnamed, -, -, -, hat⟩ := (Spec.applies_iff hf).mp happ
  obtain ⟨hg, hn⟩ := and_e (Cond.before_iff.mp (show (Jvm.Cond.and given_1 narrow_1).before args s = true from hpre))
  obtain ⟨g1, g2⟩ := and_e hg
  obtain ⟨g3, g4⟩ := and_e g2
  obtain ⟨g5, g6⟩ := and_e g4
  obtain ⟨g7, g8⟩ := and_e g6
  obtain ⟨w0, w1, w2, w3, rfl⟩ : ∃ w0 w1 w2 w3 : Value, args = #[w0, w1, w2, w3] := by
    have hs : args.size = 4 := by simpa [Cond.value, given_1] using g1
    obtain ⟨L⟩ := args
    match L, hs with
    | [w0, w1, w2, w3], _ => exact ⟨w0, w1, w2, w3, rfl⟩
  have hw := fun d (hd : d ∈ tables_1) => atoms_spec (ws := Jvm.Cond.code x code maxLocals ret :: tables_1) hat d (List.mem_cons_of_mem _ hd)
  obtain ⟨i0, ei0⟩ := is_v g3
  obtain rfl : w0 = (.int i0) := Option.some.inj ei0
  obtain ⟨i1, ei1⟩ := is_v g5
  obtain rfl : w1 = (.int i1) := Option.some.inj ei1
  obtain ⟨i2, ei2⟩ := is_v g7
  obtain rfl : w2 = (.int i2) := Option.some.inj ei2
  obtain ⟨i3, ei3⟩ := is_v g8
  obtain rfl : w3 = (.int i3) := Option.some.inj ei3
  obtain ⟨n, o, h1, h2, h3, _, L, rfl, ⟨rfl, N⟩, hq⟩ := rm0 l s _ hw tables_1 i0 i1 i2 i3 s.heap s.heap.size (Nat.le_refl _) p e ha hc hk s m _ below hf ((Spec.applies_iff_loose hf).mp happ).1 ⟨rfl, State.Warmed39.refl s, rfl⟩ trivial
  refine ⟨n, _, h1, h2, h3, hpost _ _ _ _ _ _ ⟨Cond.after_iff.mpr rfl, Cond.after_iff.mpr (eq_i res_at (Term.int_eval (1)) rfl), trivial⟩ ⟨hq.1, hq.2.1, (hq.2.2.sift fun y hy => Or.inr (N y hy)).mono (by decide) (by decide)⟩⟩
theorem main_1_1 : Claimed_1_1 := comes_1 fun _ _ _ _ _ _ h hF => ⟨h.1, hF⟩
theorem main_1_2 : Claimed_1_2 := comes_1 fun _ _ _ _ _ _ h hF => ⟨h.2.1, hF⟩
end Jvm.Pilot.@@N@@
namespace Jvm.Pilot.@@N@@
open Jvm Jvm.ClassFile Sem Op Lib Jvm.Free Jvm.Stand Jvm.Pilot.@@N@@.Jvm.D
/-! MADE BY PROGRAM (witnessworld.py) out of the Statement's table words and the real class files: 9 classes; the members and pool entries that the words name. The judged class is class 1, her method 4. -/
namespace start1
open Jvm.ClassFile
def u (s : String) : CpInfo := .utf8 (stringToUtf16 s)
/-- a pool by its gaps: so many unusable entries, then the entry; so many at the end -/
def gap : Nat → List CpInfo → List CpInfo
  | 0, r => r
  | n + 1, r => .unusable :: gap n r
def poolList (es : List (Nat × CpInfo)) (last : Nat) : List CpInfo := es.foldr (fun e r => gap e.1 (e.2 :: r)) (gap last [])
def pool (es : List (Nat × CpInfo)) (last : Nat) : Array CpInfo := ⟨poolList es last⟩
def fileOf (pool : Array CpInfo) (this : Nat) (attrs : Array Attribute := #[]) (ms : Array MethodInfo := #[]) (fl : Nat := 33) (sup : Nat := 0) (ifs : Array Nat := #[]) (fds : Array FieldInfo := #[]) : ClassFile where
  minorVersion := 0
  majorVersion := 65
  constantPool := pool
  accessFlags := fl
  thisClass := this
  superClass := sup
  interfaces := ifs
  fields := fds
  methods := ms
  attributes := attrs
def plain (name : String) (sup : Option ClassId) : Class where
  name := name
  kind := .ordinary
  loader := none
  accessFlags := 33
  super := sup
  interfaces := #[]
  cf := none
  fields := #[]
  methods := #[]
  instanceTypes := #[]
  staticTypes := #[]
  resolved := #[]
  callSites := []
  init := .initialized
  statics := none
  mirror := none

def pool0 : Array CpInfo := pool [(5, u "<init>"), (0, u "()V"), (1, .class_ 10), (1, u "java/lang/Object")] 113

def k0m0 : Method := { name := "<init>", desc := "()V", sig := { parameters := [], returnType := none }, accessFlags := 1, code := none }
/-- java/lang/Object -/
def k0 : Class := { plain "java/lang/Object" none with
  accessFlags := 33
  interfaces := #[]
  cf := some (fileOf pool0 8 #[] #[{ accessFlags := 1, nameIndex := 5, descriptorIndex := 6, attributes := #[] }] 33 0 #[] #[])
  fields := #[]
  methods := #[k0m0]
  instanceTypes := #[]
  staticTypes := #[]
  resolved := Array.replicate 124 none
  statics := none }

def pool1 : Array CpInfo := pool [(2, .class_ 4), (1, u "java/lang/Object"), (0, u "<init>"), (0, u "()V"), (0, .integer 262144), (0, .methodref 9 10), (0, .class_ 11), (0, .nameAndType 12 13), (0, u "com/example/strict_xmlns/strictxmlns/Utf8EncodePinLaw"), (0, u "pow64"), (0, u "(I)I"), (0, .methodref 9 15), (0, .nameAndType 16 17), (0, u "expectedByte"), (0, u "(III)I"), (0, .integer 2147483647), (0, .integer 63488), (0, .integer 65536), (0, .integer 1048576), (0, .methodref 23 24), (0, .class_ 25), (0, .nameAndType 26 27), (0, u "com/example/strict_xmlns/strictxmlns/Utf8"), (0, u "encode"), (0, u "(I[BI)I"), (0, .methodref 9 29), (0, .nameAndType 30 31), (0, u "ok"), (0, u "([BIIIIB)Z"), (3, u "law"), (0, u "(IIII)Z")] 4

def k1m0 : Method := { name := "<init>", desc := "()V", sig := { parameters := [], returnType := none }, accessFlags := 2, code := none }
def k1c1 : Code := { maxStack := 2, maxLocals := 1, code := method_2_code, exceptionTable := #[], attributes := #[] }
def k1m1 : Method := { name := "pow64", desc := "(I)I", sig := { parameters := [.int], returnType := some .int }, accessFlags := 10, code := some k1c1 }
def k1c2 : Code := { maxStack := 3, maxLocals := 5, code := method_3_code, exceptionTable := #[], attributes := #[] }
def k1m2 : Method := { name := "expectedByte", desc := "(III)I", sig := { parameters := [.int, .int, .int], returnType := some .int }, accessFlags := 10, code := some k1c2 }
def k1c3 : Code := { maxStack := 5, maxLocals := 6, code := method_4_code, exceptionTable := #[], attributes := #[] }
def k1m3 : Method := { name := "ok", desc := "([BIIIIB)Z", sig := { parameters := [(.array .byte), .int, .int, .int, .int, .byte], returnType := some .boolean }, accessFlags := 10, code := some k1c3 }
def k1c4 : Code := { maxStack := 6, maxLocals := 12, code := code, exceptionTable := #[], attributes := #[] }
def k1m4 : Method := { name := "law", desc := "(IIII)Z", sig := { parameters := [.int, .int, .int, .int], returnType := some .boolean }, accessFlags := 9, code := some k1c4 }
/-- com/example/strict_xmlns/strictxmlns/Utf8EncodePinLaw -/
def k1 : Class := { plain "com/example/strict_xmlns/strictxmlns/Utf8EncodePinLaw" (some 0) with
  accessFlags := 49
  interfaces := #[]
  cf := some (fileOf pool1 9 #[] #[{ accessFlags := 2, nameIndex := 5, descriptorIndex := 6, attributes := #[] }, { accessFlags := 10, nameIndex := 12, descriptorIndex := 13, attributes := #[] }, { accessFlags := 10, nameIndex := 16, descriptorIndex := 17, attributes := #[] }, { accessFlags := 10, nameIndex := 30, descriptorIndex := 31, attributes := #[] }, { accessFlags := 9, nameIndex := 35, descriptorIndex := 36, attributes := #[] }] 49 2 #[] #[])
  fields := #[]
  methods := #[k1m0, k1m1, k1m2, k1m3, k1m4]
  instanceTypes := #[]
  staticTypes := #[]
  resolved := Array.replicate 41 none
  statics := none }

def pool2 : Array CpInfo := pool [(2, .class_ 4), (1, u "java/lang/Object"), (0, u "<init>"), (0, u "()V"), (0, .class_ 8), (0, u "com/example/strict_xmlns/strictxmlns/Utf8"), (0, .integer 65536), (32, u "LONGEST_SEQUENCE"), (0, u "I"), (2, u "UNDECODABLE"), (1, u "CODE_POINT_BITS"), (9, u "encode"), (0, u "(I[BI)I")] 4

def k2m0 : Method := { name := "<init>", desc := "()V", sig := { parameters := [], returnType := none }, accessFlags := 2, code := none }
def k2c1 : Code := { maxStack := 5, maxLocals := 4, code := prog_41_method_8_code, exceptionTable := #[], attributes := #[] }
def k2m1 : Method := { name := "encode", desc := "(I[BI)I", sig := { parameters := [.int, (.array .byte), .int], returnType := some .int }, accessFlags := 8, code := some k2c1 }
/-- com/example/strict_xmlns/strictxmlns/Utf8 -/
def k2 : Class := { plain "com/example/strict_xmlns/strictxmlns/Utf8" (some 0) with
  accessFlags := 48
  interfaces := #[]
  cf := some (fileOf pool2 7 #[] #[{ accessFlags := 2, nameIndex := 5, descriptorIndex := 6, attributes := #[] }, { accessFlags := 8, nameIndex := 58, descriptorIndex := 59, attributes := #[] }] 48 2 #[] #[{ accessFlags := 24, nameIndex := 42, descriptorIndex := 43, attributes := #[] }, { accessFlags := 24, nameIndex := 46, descriptorIndex := 43, attributes := #[] }, { accessFlags := 26, nameIndex := 48, descriptorIndex := 43, attributes := #[] }])
  fields := #[{ name := "LONGEST_SEQUENCE", type := .int, accessFlags := 24, slot := 0, constantValue := 0 }, { name := "UNDECODABLE", type := .int, accessFlags := 24, slot := 1, constantValue := 0 }, { name := "CODE_POINT_BITS", type := .int, accessFlags := 26, slot := 2, constantValue := 0 }]
  methods := #[k2m0, k2m1]
  instanceTypes := #[]
  staticTypes := #[.int, .int, .int]
  resolved := Array.replicate 64 none
  statics := none }

def pool3 : Array CpInfo := pool [(1, u "java/lang/Cloneable"), (0, .class_ 1), (0, u "java/lang/Object"), (0, .class_ 3)] 3

/-- java/lang/Cloneable -/
def k3 : Class := { plain "java/lang/Cloneable" (some 0) with
  accessFlags := 1537
  interfaces := #[]
  cf := some (fileOf pool3 2 #[] #[] 1537 4 #[] #[])
  fields := #[]
  methods := #[]
  instanceTypes := #[]
  staticTypes := #[]
  resolved := Array.replicate 8 none
  statics := none }

def pool4 : Array CpInfo := pool [(1, u "java/io/Serializable"), (0, .class_ 1), (0, u "java/lang/Object"), (0, .class_ 3)] 3

/-- java/io/Serializable -/
def k4 : Class := { plain "java/io/Serializable" (some 0) with
  accessFlags := 1537
  interfaces := #[]
  cf := some (fileOf pool4 2 #[] #[] 1537 4 #[] #[])
  fields := #[]
  methods := #[]
  instanceTypes := #[]
  staticTypes := #[]
  resolved := Array.replicate 8 none
  statics := none }

/-- the primitive byte -/
def k5 : Class := { plain "byte" none with kind := .primitive 'B', accessFlags := 0x411 }
/-- [B -/
def k6 : Class := { plain "[B" (some 0) with kind := .array 5 .byte, interfaces := #[3, 4], accessFlags := 1041 }

/-- the primitive int -/
def k7 : Class := { plain "int" none with kind := .primitive 'I', accessFlags := 0x411 }
/-- [I -/
def k8 : Class := { plain "[I" (some 0) with kind := .array 7 .int, interfaces := #[3, 4], accessFlags := 1041 }

def heap : Heap := #[]
def classes : Array Class := #[k0, k1, k2, k3, k4, k5, k6, k7, k8]
def interned : List (Array UInt16 × Addr) := []
def slotsUsed : Nat := 0
def theMethod : MethodId := ⟨1, 4⟩
def args0 : Array Value := #[.int 5, .int 6, .int 7, .int 8]
def aboutOver (below : List Frame) : State where
  vm := { classes := classes, interned := interned.toArray }
  heap := heap
  slotsUsed := slotsUsed
  threads := #[{ frames := .invoking theMethod args0 :: below }]
def below0 : List Frame := [.native { method := ⟨0, 0⟩, args := #[] }]
def about1 : State := aboutOver below0
def p0 : Program := .bare "" "" ""
def e0 : Env := launch0.env 0 0 0
theorem w_frames : about1.frames = Frame.invoking theMethod args0 :: below0 := rfl
set_option maxRecDepth 65536 in
theorem w_args : argsFit about1.vm theMethod args0 = true := by decide +kernel
set_option maxRecDepth 65536 in
theorem w_heap : heapFits about1 = true := by decide +kernel
set_option maxRecDepth 65536 in
theorem w_runnable : about1.curStatus? = some .runnable := by decide +kernel
set_option maxRecDepth 65536 in
theorem w_alone : about1.alone = true := by decide +kernel
set_option maxRecDepth 65536 in
theorem w_named : about1.methodNamed? x = some theMethod := by decide +kernel
set_option maxRecDepth 65536 in
theorem w_hears : about1.hears theMethod below0 = true := by decide +kernel
set_option maxRecDepth 65536 in
theorem w_ripe : about1.ripe theMethod args0 below0 = true := by decide +kernel
theorem w_running : about1.status = .running := rfl
set_option maxRecDepth 65536 in
theorem w_room : about1.hasRoom e0.platform room_1 = true :=
  launch0.hasRoom_least _ room_1 (by decide +kernel) (by decide +kernel) (by decide +kernel) (by decide +kernel) (by decide +kernel) (by decide +kernel)
theorem allAtoms_all (ts : List Jvm.Cond) (a : Array Jvm.Value) (st : Jvm.State) : (allAtoms ts).before a st = ts.all (fun c => c.before a st) := by
  induction ts with
  | nil => rfl
  | cons c t ih =>
    show (Jvm.Cond.and c (allAtoms t)).before a st = _
    rw [Jvm.Cond.before_and, ih, List.all_cons]
def words1 : List Jvm.Cond := Jvm.Cond.code x code maxLocals ret :: tables_1
/-- a 'code' word, met by the world's own term for the bytes: nothing is compared byte by byte -/
theorem code_word {y : MethodName} {bytes : ByteArray} {mx : Nat} {rt : Option FieldType} {a : Array Value} {s : State} {m : MethodId} {meth : Method} {c : Code} (h1 : s.methodNamed? y = some m) (h2 : s.vm.method? m = some meth) (h3 : meth.code = some c) (h4 : c.code = bytes)
    (h5 : (c.maxLocals == mx && c.exceptionTable.isEmpty && decide (c.maxStack ≤ mostOperands) && decide (meth.sig.returnType = rt) && !meth.locks && decide (parseMethodDescriptor y.desc = some meth.sig)) = true) : (Jvm.Cond.code y bytes mx rt).before a s = true := by
  simp only [Bool.and_eq_true, beq_iff_eq, Bool.not_eq_true', decide_eq_true_eq] at h5
  obtain ⟨⟨⟨⟨⟨g1, g2⟩, g3⟩, g4⟩, g5⟩, g6⟩ := h5
  simp [Cond.before, Cond.holds, Cond.value, h1, h2, h3, h4, g1, g2, g3, g4, g5, g6]
def isCode : Jvm.Cond → Bool
  | .code _ _ _ _ => true
  | _ => false
theorem all_split {L : List Jvm.Cond} {P : Jvm.Cond → Bool} (h1 : L.all (fun c => isCode c || P c) = true) (h2 : ∀ c ∈ L.filter isCode, P c = true) : L.all P = true := by
  refine List.all_eq_true.mpr fun c hc => ?_
  have h := List.all_eq_true.mp h1 c hc
  rcases Bool.eq_false_or_eq_true (isCode c) with hi | hi
  · exact h2 c (List.mem_filter.mpr ⟨hc, hi⟩)
  · simpa [hi] using h
set_option maxRecDepth 65536 in
theorem w_c0 : (Jvm.Cond.code x code maxLocals ret).before args0 about1 = true := code_word (m := ⟨1, 4⟩) (meth := k1m4) (c := k1c4) (by decide +kernel) rfl rfl rfl (by decide +kernel)
set_option maxRecDepth 65536 in
theorem w_c1 : (Jvm.Cond.code ({ cls := "com/example/strict_xmlns/strictxmlns/Utf8", name := "encode", desc := "(I[BI)I" } : Jvm.MethodName) prog_41_method_8_code (4 : Nat) (Option.some Jvm.ClassFile.FieldType.int)).before args0 about1 = true := code_word (m := ⟨2, 1⟩) (meth := k2m1) (c := k2c1) (by decide +kernel) rfl rfl rfl (by decide +kernel)
set_option maxRecDepth 65536 in
theorem w_c2 : (Jvm.Cond.code ({ cls := "com/example/strict_xmlns/strictxmlns/Utf8EncodePinLaw", name := "ok", desc := "([BIIIIB)Z" } : Jvm.MethodName) method_4_code (6 : Nat) (Option.some Jvm.ClassFile.FieldType.boolean)).before args0 about1 = true := code_word (m := ⟨1, 3⟩) (meth := k1m3) (c := k1c3) (by decide +kernel) rfl rfl rfl (by decide +kernel)
set_option maxRecDepth 65536 in
theorem w_c3 : (Jvm.Cond.code ({ cls := "com/example/strict_xmlns/strictxmlns/Utf8EncodePinLaw", name := "expectedByte", desc := "(III)I" } : Jvm.MethodName) method_3_code (5 : Nat) (Option.some Jvm.ClassFile.FieldType.int)).before args0 about1 = true := code_word (m := ⟨1, 2⟩) (meth := k1m2) (c := k1c2) (by decide +kernel) rfl rfl rfl (by decide +kernel)
set_option maxRecDepth 65536 in
theorem w_c4 : (Jvm.Cond.code ({ cls := "com/example/strict_xmlns/strictxmlns/Utf8EncodePinLaw", name := "pow64", desc := "(I)I" } : Jvm.MethodName) method_2_code (1 : Nat) (Option.some Jvm.ClassFile.FieldType.int)).before args0 about1 = true := code_word (m := ⟨1, 1⟩) (meth := k1m1) (c := k1c1) (by decide +kernel) rfl rfl rfl (by decide +kernel)
def codes1 : List Jvm.Cond := [Jvm.Cond.code x code maxLocals ret, Jvm.Cond.code ({ cls := "com/example/strict_xmlns/strictxmlns/Utf8", name := "encode", desc := "(I[BI)I" } : Jvm.MethodName) prog_41_method_8_code (4 : Nat) (Option.some Jvm.ClassFile.FieldType.int), Jvm.Cond.code ({ cls := "com/example/strict_xmlns/strictxmlns/Utf8EncodePinLaw", name := "ok", desc := "([BIIIIB)Z" } : Jvm.MethodName) method_4_code (6 : Nat) (Option.some Jvm.ClassFile.FieldType.boolean), Jvm.Cond.code ({ cls := "com/example/strict_xmlns/strictxmlns/Utf8EncodePinLaw", name := "expectedByte", desc := "(III)I" } : Jvm.MethodName) method_3_code (5 : Nat) (Option.some Jvm.ClassFile.FieldType.int), Jvm.Cond.code ({ cls := "com/example/strict_xmlns/strictxmlns/Utf8EncodePinLaw", name := "pow64", desc := "(I)I" } : Jvm.MethodName) method_2_code (1 : Nat) (Option.some Jvm.ClassFile.FieldType.int)]
set_option maxRecDepth 65536 in
theorem codes_eq : words1.filter isCode = codes1 := rfl
theorem w_codes : ∀ c ∈ words1.filter isCode, c.before args0 about1 = true := by
  rw [codes_eq]
  intro c hc
  simp only [codes1, List.mem_cons, List.not_mem_nil, or_false] at hc
  rcases hc with rfl | rfl | rfl | rfl | rfl
  · exact w_c0
  · exact w_c1
  · exact w_c2
  · exact w_c3
  · exact w_c4
set_option maxRecDepth 65536 in
theorem w_t1 : words1.all (fun c => isCode c || c.before args0 about1) = true := by decide +kernel
theorem w_tables : (allAtoms (Jvm.Cond.code x code maxLocals ret :: tables_1)).before args0 about1 = true := by
  rw [allAtoms_all]
  show words1.all (fun c => c.before args0 about1) = true
  refine all_split ?_ w_codes
  rw [w_t1]
set_option maxRecDepth 65536 in
theorem w_case : (Jvm.Cond.and given_1 narrow_1).before args0 about1 = true := by decide +kernel
theorem w_applies : (headSpec (Jvm.Cond.code x code maxLocals ret :: tables_1) room_1).applies x e0.platform about1 = true :=
  (Spec.applies_iff w_frames).mpr ⟨w_running, w_runnable, w_alone, w_named, w_hears, w_ripe, w_room, w_tables⟩
theorem atStart : AtStart classFile x code maxLocals ret World_1 tables_1 room_1 Calls_1 rest_1 Pre_1 launch0 p0 e0 about1 theMethod args0 below0 :=
  ⟨lists_1, trivial, launch0.admits_env _ _ _, launch0.least_env, fairChoices_fair.cas, fairChoices_fair.clock, w_frames, w_args, w_heap, w_applies, trivial, trivial, w_case⟩
end start1
theorem witness_1 : WitnessClaimed_1 := ⟨start1.p0, start1.e0, start1.about1, start1.theMethod, start1.args0, start1.below0, start1.atStart⟩
end Jvm.Pilot.@@N@@
