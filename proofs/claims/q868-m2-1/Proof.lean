import JvmDerived
import JvmDerived.Pilot.@@N@@Statement
import JvmDerived.Pilot.@@N@@Code
set_option linter.unusedVariables false
set_option linter.unusedSimpArgs false
namespace Jvm.RoadKit
open Sem ClassFile Op Lib Jvm.Stand Jvm.Free Jvm.LawKit
section New
variable {p : Program} {l : Launch} {e : Env} {R : Room} {s : State} {m : MethodId} {args : Array Value} {below : List Frame} {meth : Method} {c : Code} {T : State} {locs : List Loc} {cells slots : Nat}
theorem retI (X : Stand p l e R s m args below meth c T locs cells slots) (hx : p.tables.exec = Jvm.exec) {pc : Nat} {Ls : Array Slot} {z : Int32} {rest : List Value} (hret : meth.sig.returnType = some .int) (hd : decode c.code pc = .ok (.ireturn, 1)) {fs : List Frame}
    (hl : ∀ (f : JFrame) (acts : List Action), f.method = m → f.locked = none → f.entered = [] → (doReturn e (T.setTop f) acts (some (.int z))).1 = T.setFrames fs) : Steps p.tables e below (T.setTop (mkF m pc Ls (.int z :: rest))) (T.setFrames fs) := by
  have hm' : T.vm.method? m = some meth := X.method'
  have hn : narrow .int (.int z) = .int z := rfl
  show Steps p.tables e below (T.setTop { method := m, pc := pc, locals := Ls, stack := _ :: rest, locked := none }) _
  jvm_step X.here [X.here.top, hx, hd, hm', hret, hn]
  first | (intro acts; rw [hl _ acts rfl rfl rfl]) | rw [hl _ _ rfl rfl rfl]
  exact Steps.refl _
end New
end Jvm.RoadKit
namespace Jvm.Pilot.@@N@@
open Jvm Jvm.ClassFile Sem Op Lib Jvm.Free Jvm.Stand Jvm.LawKit Jvm.RoadKit Bundle Jvm.Pilot.@@N@@.Jvm.D
section OwnKit
variable {p : Program} {l : Launch} {e : Env} {R : Room} {s : State} {m : MethodId} {args : Array Value} {below : List Frame} {meth : Method} {c : Code} {T : State} {locs : List Loc} {cells slots : Nat} {Z : State} {a0 : Array Value} {h : Heap}
variable {Q : Option Value → Heap → List Loc → Prop} {rc rs pc : Nat} {Ls : Array Slot} {st : List Value}
def Go (p : Program) (e : Env) (below : List Frame) (s : State) (Q : Option Value → Heap → List Loc → Prop) (rc rs : Nat) (F : State) : Prop :=
  ∃ s₂ o, Steps p.tables e below F s₂ ∧ s₂.status = .running ∧ Ended s₂ below o ∧ ∃ v L, o = .returned v ∧ Q v s₂.heap L ∧ FrameEnd s o s₂ L rc rs
theorem Go.by {F F' : State} (g : Go p e below s Q rc rs F') (h : ∀ t, Steps p.tables e below F' t → Steps p.tables e below F t) : Go p e below s Q rc rs F := by
  obtain ⟨s2, o, h1, r⟩ := g
  exact ⟨s2, o, h _ h1, r⟩
def shlI (x y : Int32) : Int32 := x <<< (y &&& 31)
def shrI (x y : Int32) : Int32 := x >>> (y &&& 31)
def ushrI (x y : Int32) : Int32 := (x.toUInt32 >>> (y &&& 31).toUInt32).toInt32
def shlJ (x : Int64) (y : Int32) : Int64 := x <<< (y &&& 0x3f).toInt64
def shrJ (x : Int64) (y : Int32) : Int64 := x >>> (y &&& 0x3f).toInt64
def ushrJ (x : Int64) (y : Int32) : Int64 := (x.toUInt64 >>> (y &&& 0x3f).toInt64.toUInt64).toInt64
def i2bI (x : Int32) : Int32 := x.toInt8.toInt32
def i2cI (x : Int32) : Int32 := x.toUInt32.toUInt16.toUInt32.toInt32
def i2sI (x : Int32) : Int32 := x.toInt16.toInt32
theorem g_iload (X : Stand p l e R s m args below meth c T locs cells slots) (hx : p.tables.exec = Jvm.exec) {k : Nat} {v : Int32} (pc' : Nat) (hd : decode c.code pc = .ok (.iload k, 2)) (hl : Ls[k]? = some (.val (.int v))) (hp : pc + 2 = pc') (g : Go p e below s Q rc rs (T.setTop (mkF m pc' Ls (.int v :: st)))) : Go p e below s Q rc rs (T.setTop (mkF m pc Ls st)) := by
  subst hp; exact g.by fun t k => XS.iload X.here hx rfl hd hl k
theorem g_iloadN (X : Stand p l e R s m args below meth c T locs cells slots) (hx : p.tables.exec = Jvm.exec) {k : Fin 4} {v : Int32} (pc' : Nat) (hd : decode c.code pc = .ok (.iload_n k, 1)) (hl : Ls[k.val]? = some (.val (.int v))) (hp : pc + 1 = pc') (g : Go p e below s Q rc rs (T.setTop (mkF m pc' Ls (.int v :: st)))) : Go p e below s Q rc rs (T.setTop (mkF m pc Ls st)) := by
  subst hp; exact g.by fun t k => XS.iloadN X.here hx rfl hd hl k
theorem g_istore (X : Stand p l e R s m args below meth c T locs cells slots) (hx : p.tables.exec = Jvm.exec) {k : Nat} {v : Int32} (l' : Array Slot) (pc' : Nat) (hd : decode c.code pc = .ok (.istore k, 2)) (hl : storeLocals Ls k (.int v) = some l') (hp : pc + 2 = pc') (g : Go p e below s Q rc rs (T.setTop (mkF m pc' l' st))) : Go p e below s Q rc rs (T.setTop (mkF m pc Ls (.int v :: st))) := by
  subst hp; exact g.by fun t k => XS.istore X.here hx rfl hd rfl hl k
theorem g_istoreN (X : Stand p l e R s m args below meth c T locs cells slots) (hx : p.tables.exec = Jvm.exec) {k : Fin 4} {v : Int32} (l' : Array Slot) (pc' : Nat) (hd : decode c.code pc = .ok (.istore_n k, 1)) (hl : storeLocals Ls k.val (.int v) = some l') (hp : pc + 1 = pc') (g : Go p e below s Q rc rs (T.setTop (mkF m pc' l' st))) : Go p e below s Q rc rs (T.setTop (mkF m pc Ls (.int v :: st))) := by
  subst hp; exact g.by fun t k => XS.istoreN X.here hx rfl hd rfl hl k
theorem g_lload (X : Stand p l e R s m args below meth c T locs cells slots) (hx : p.tables.exec = Jvm.exec) {k : Nat} {v : Int64} (pc' : Nat) (hd : decode c.code pc = .ok (.lload k, 2)) (hl : Ls[k]? = some (.val (.long v))) (hp : pc + 2 = pc') (g : Go p e below s Q rc rs (T.setTop (mkF m pc' Ls (.long v :: st)))) : Go p e below s Q rc rs (T.setTop (mkF m pc Ls st)) := by
  subst hp; exact g.by fun t k => XS.lload X.here hx rfl hd hl k
theorem g_lloadN (X : Stand p l e R s m args below meth c T locs cells slots) (hx : p.tables.exec = Jvm.exec) {k : Fin 4} {v : Int64} (pc' : Nat) (hd : decode c.code pc = .ok (.lload_n k, 1)) (hl : Ls[k.val]? = some (.val (.long v))) (hp : pc + 1 = pc') (g : Go p e below s Q rc rs (T.setTop (mkF m pc' Ls (.long v :: st)))) : Go p e below s Q rc rs (T.setTop (mkF m pc Ls st)) := by
  subst hp; exact g.by fun t k => XS.lloadN X.here hx rfl hd hl k
theorem g_lstore (X : Stand p l e R s m args below meth c T locs cells slots) (hx : p.tables.exec = Jvm.exec) {k : Nat} {v : Int64} (l' : Array Slot) (pc' : Nat) (hd : decode c.code pc = .ok (.lstore k, 2)) (hl : storeLocals Ls k (.long v) = some l') (hp : pc + 2 = pc') (g : Go p e below s Q rc rs (T.setTop (mkF m pc' l' st))) : Go p e below s Q rc rs (T.setTop (mkF m pc Ls (.long v :: st))) := by
  subst hp; exact g.by fun t k => XS.lstore X.here hx rfl hd rfl hl k
theorem g_lstoreN (X : Stand p l e R s m args below meth c T locs cells slots) (hx : p.tables.exec = Jvm.exec) {k : Fin 4} {v : Int64} (l' : Array Slot) (pc' : Nat) (hd : decode c.code pc = .ok (.lstore_n k, 1)) (hl : storeLocals Ls k.val (.long v) = some l') (hp : pc + 1 = pc') (g : Go p e below s Q rc rs (T.setTop (mkF m pc' l' st))) : Go p e below s Q rc rs (T.setTop (mkF m pc Ls (.long v :: st))) := by
  subst hp; exact g.by fun t k => XS.lstoreN X.here hx rfl hd rfl hl k
theorem g_aload (X : Stand p l e R s m args below meth c T locs cells slots) (hx : p.tables.exec = Jvm.exec) {k : Nat} {v : Value} (pc' : Nat) (hd : decode c.code pc = .ok (.aload k, 2)) (hl : Ls[k]? = some (.val v)) (hv : v.isRef = true) (hp : pc + 2 = pc') (g : Go p e below s Q rc rs (T.setTop (mkF m pc' Ls (v :: st)))) : Go p e below s Q rc rs (T.setTop (mkF m pc Ls st)) := by
  subst hp; exact g.by fun t k => XS.aload X.here hx rfl hd hl hv k
theorem g_aloadN (X : Stand p l e R s m args below meth c T locs cells slots) (hx : p.tables.exec = Jvm.exec) {k : Fin 4} {v : Value} (pc' : Nat) (hd : decode c.code pc = .ok (.aload_n k, 1)) (hl : Ls[k.val]? = some (.val v)) (hv : v.isRef = true) (hp : pc + 1 = pc') (g : Go p e below s Q rc rs (T.setTop (mkF m pc' Ls (v :: st)))) : Go p e below s Q rc rs (T.setTop (mkF m pc Ls st)) := by
  subst hp; exact g.by fun t k => XS.aloadN X.here hx rfl hd hl hv k
theorem g_astore (X : Stand p l e R s m args below meth c T locs cells slots) (hx : p.tables.exec = Jvm.exec) {k : Nat} {v : Value} (l' : Array Slot) (pc' : Nat) (hd : decode c.code pc = .ok (.astore k, 2)) (hl : storeLocals Ls k v = some l') (hv : v.isRef = true) (hp : pc + 2 = pc') (g : Go p e below s Q rc rs (T.setTop (mkF m pc' l' st))) : Go p e below s Q rc rs (T.setTop (mkF m pc Ls (v :: st))) := by
  subst hp; exact g.by fun t k => XS.astore X.here hx rfl hd rfl hv hl k
theorem g_astoreN (X : Stand p l e R s m args below meth c T locs cells slots) (hx : p.tables.exec = Jvm.exec) {k : Fin 4} {v : Value} (l' : Array Slot) (pc' : Nat) (hd : decode c.code pc = .ok (.astore_n k, 1)) (hl : storeLocals Ls k.val v = some l') (hv : v.isRef = true) (hp : pc + 1 = pc') (g : Go p e below s Q rc rs (T.setTop (mkF m pc' l' st))) : Go p e below s Q rc rs (T.setTop (mkF m pc Ls (v :: st))) := by
  subst hp; exact g.by fun t k => XS.astoreN X.here hx rfl hd rfl hv hl k
theorem g_istoreS (X : Stand p l e R s m args below meth c T locs cells slots) (hx : p.tables.exec = Jvm.exec) {k : Nat} {v : Int32} {os : Slot} (l' : Array Slot) (pc' : Nat) (hd : decode c.code pc = .ok (.istore k, 2)) (hold : Ls[k]? = some os) (ho : One os) (hl : Ls.setIfInBounds k (.val (.int v)) = l') (hp : pc + 2 = pc') (g : Go p e below s Q rc rs (T.setTop (mkF m pc' l' st))) : Go p e below s Q rc rs (T.setTop (mkF m pc Ls ((.int v) :: st))) := by
  subst hp; exact g.by fun t k => XS.istore X.here hx rfl hd rfl (hl ▸ XS.store1 hold ho rfl) k
theorem g_istoreNS (X : Stand p l e R s m args below meth c T locs cells slots) (hx : p.tables.exec = Jvm.exec) {k : Fin 4} {v : Int32} {os : Slot} (l' : Array Slot) (pc' : Nat) (hd : decode c.code pc = .ok (.istore_n k, 1)) (hold : Ls[k.val]? = some os) (ho : One os) (hl : Ls.setIfInBounds k.val (.val (.int v)) = l') (hp : pc + 1 = pc') (g : Go p e below s Q rc rs (T.setTop (mkF m pc' l' st))) : Go p e below s Q rc rs (T.setTop (mkF m pc Ls ((.int v) :: st))) := by
  subst hp; exact g.by fun t k => XS.istoreN X.here hx rfl hd rfl (hl ▸ XS.store1 hold ho rfl) k
theorem g_astoreS (X : Stand p l e R s m args below meth c T locs cells slots) (hx : p.tables.exec = Jvm.exec) {k : Nat} {v : Value} {os : Slot} (l' : Array Slot) (pc' : Nat) (hd : decode c.code pc = .ok (.astore k, 2)) (hold : Ls[k]? = some os) (ho : One os) (hl : Ls.setIfInBounds k (.val v) = l') (hv : v.isRef = true) (hp : pc + 2 = pc') (g : Go p e below s Q rc rs (T.setTop (mkF m pc' l' st))) : Go p e below s Q rc rs (T.setTop (mkF m pc Ls (v :: st))) := by
  subst hp; exact g.by fun t k => XS.astore X.here hx rfl hd rfl hv (hl ▸ XS.store1 hold ho (by cases v <;> first | rfl | simp_all [Value.isRef])) k
theorem g_astoreNS (X : Stand p l e R s m args below meth c T locs cells slots) (hx : p.tables.exec = Jvm.exec) {k : Fin 4} {v : Value} {os : Slot} (l' : Array Slot) (pc' : Nat) (hd : decode c.code pc = .ok (.astore_n k, 1)) (hold : Ls[k.val]? = some os) (ho : One os) (hl : Ls.setIfInBounds k.val (.val v) = l') (hv : v.isRef = true) (hp : pc + 1 = pc') (g : Go p e below s Q rc rs (T.setTop (mkF m pc' l' st))) : Go p e below s Q rc rs (T.setTop (mkF m pc Ls (v :: st))) := by
  subst hp; exact g.by fun t k => XS.astoreN X.here hx rfl hd rfl hv (hl ▸ XS.store1 hold ho (by cases v <;> first | rfl | simp_all [Value.isRef])) k
theorem g_iconst (X : Stand p l e R s m args below meth c T locs cells slots) (hx : p.tables.exec = Jvm.exec) {i : Int} (v : Int32) (pc' : Nat) (hd : decode c.code pc = .ok (.iconst i, 1)) (hv : Int32.ofInt i = v) (hp : pc + 1 = pc') (g : Go p e below s Q rc rs (T.setTop (mkF m pc' Ls (.int v :: st)))) : Go p e below s Q rc rs (T.setTop (mkF m pc Ls st)) := by
  subst hp hv; exact g.by fun t k => XS.iconst X.here hx rfl hd k
theorem g_bipush (X : Stand p l e R s m args below meth c T locs cells slots) (hx : p.tables.exec = Jvm.exec) {i : Int} (v : Int32) (pc' : Nat) (hd : decode c.code pc = .ok (.bipush i, 2)) (hv : (Int8.ofInt i).toInt32 = v) (hp : pc + 2 = pc') (g : Go p e below s Q rc rs (T.setTop (mkF m pc' Ls (.int v :: st)))) : Go p e below s Q rc rs (T.setTop (mkF m pc Ls st)) := by
  subst hp hv; exact g.by fun t k => XS.bipush X.here hx rfl hd k
theorem g_sipush (X : Stand p l e R s m args below meth c T locs cells slots) (hx : p.tables.exec = Jvm.exec) {i : Int} (v : Int32) (pc' : Nat) (hd : decode c.code pc = .ok (.sipush i, 3)) (hv : (Int16.ofInt i).toInt32 = v) (hp : pc + 3 = pc') (g : Go p e below s Q rc rs (T.setTop (mkF m pc' Ls (.int v :: st)))) : Go p e below s Q rc rs (T.setTop (mkF m pc Ls st)) := by
  subst hp hv; exact g.by fun t k => XS.sipush X.here hx rfl hd k
theorem g_lconst (X : Stand p l e R s m args below meth c T locs cells slots) (hx : p.tables.exec = Jvm.exec) {i : Fin 2} (v : Int64) (pc' : Nat) (hd : decode c.code pc = .ok (.lconst i, 1)) (hv : Int64.ofNat i = v) (hp : pc + 1 = pc') (g : Go p e below s Q rc rs (T.setTop (mkF m pc' Ls (.long v :: st)))) : Go p e below s Q rc rs (T.setTop (mkF m pc Ls st)) := by
  subst hp hv; exact g.by fun t k => XS.lconst X.here hx rfl hd k
theorem g_aconst_null (X : Stand p l e R s m args below meth c T locs cells slots) (hx : p.tables.exec = Jvm.exec) (pc' : Nat) (hd : decode c.code pc = .ok (.aconst_null, 1)) (hp : pc + 1 = pc') (g : Go p e below s Q rc rs (T.setTop (mkF m pc' Ls (.null :: st)))) : Go p e below s Q rc rs (T.setTop (mkF m pc Ls st)) := by
  subst hp; exact g.by fun t k => XS.aconstNull X.here hx rfl hd k
theorem g_ldc (X : Stand p l e R s m args below meth c T locs cells slots) (hx : p.tables.exec = Jvm.exec) (hZ : Z.Warmed39 s.vm) {own : String} {i : Nat} {v : Int32} (hown : s.vm.findClass own = some m.cls) (w : (Cond.constant own i v).before a0 Z = true) (pc' : Nat) (hd : decode c.code pc = .ok (.ldc i, 2)) (hp : pc + 2 = pc') (g : Go p e below s Q rc rs (T.setTop (mkF m pc' Ls (.int v :: st)))) : Go p e below s Q rc rs (T.setTop (mkF m pc Ls st)) := by
  subst hp; exact g.by fun t k => X.ldcInt hx hown (mvT hZ w) (g := mkF m pc Ls st) rfl hd t k
theorem g_ldc_w (X : Stand p l e R s m args below meth c T locs cells slots) (hx : p.tables.exec = Jvm.exec) (hZ : Z.Warmed39 s.vm) {own : String} {i : Nat} {v : Int32} (hown : s.vm.findClass own = some m.cls) (w : (Cond.constant own i v).before a0 Z = true) (pc' : Nat) (hd : decode c.code pc = .ok (.ldc_w i, 3)) (hp : pc + 3 = pc') (g : Go p e below s Q rc rs (T.setTop (mkF m pc' Ls (.int v :: st)))) : Go p e below s Q rc rs (T.setTop (mkF m pc Ls st)) := by
  subst hp; exact g.by fun t k => X.ldcwInt hx hown (mvT hZ w) (g := mkF m pc Ls st) rfl hd t k
theorem g_ldc2_w (X : Stand p l e R s m args below meth c T locs cells slots) (hx : p.tables.exec = Jvm.exec) (hZ : Z.Warmed39 s.vm) {own : String} {i : Nat} {v : Int64} (hown : s.vm.findClass own = some m.cls) (w : (Cond.constantLong own i v).before a0 Z = true) (pc' : Nat) (hd : decode c.code pc = .ok (.ldc2_w i, 3)) (hp : pc + 3 = pc') (g : Go p e below s Q rc rs (T.setTop (mkF m pc' Ls (.long v :: st)))) : Go p e below s Q rc rs (T.setTop (mkF m pc Ls st)) := by
  subst hp; exact g.by fun t k => X.ldc2Long hx hown (mvT hZ w) (g := mkF m pc Ls st) rfl hd t k
theorem g_iadd (X : Stand p l e R s m args below meth c T locs cells slots) (hx : p.tables.exec = Jvm.exec) {x y : Int32} (pc' : Nat) (hd : decode c.code pc = .ok (.iadd, 1)) (hp : pc + 1 = pc') (g : Go p e below s Q rc rs (T.setTop (mkF m pc' Ls (.int (x + y) :: st)))) : Go p e below s Q rc rs (T.setTop (mkF m pc Ls (.int y :: .int x :: st))) := by
  subst hp; exact g.by fun t k => XS.iadd X.here hx rfl hd rfl k
theorem g_isub (X : Stand p l e R s m args below meth c T locs cells slots) (hx : p.tables.exec = Jvm.exec) {x y : Int32} (pc' : Nat) (hd : decode c.code pc = .ok (.isub, 1)) (hp : pc + 1 = pc') (g : Go p e below s Q rc rs (T.setTop (mkF m pc' Ls (.int (x - y) :: st)))) : Go p e below s Q rc rs (T.setTop (mkF m pc Ls (.int y :: .int x :: st))) := by
  subst hp; exact g.by fun t k => XS.isub X.here hx rfl hd rfl k
theorem g_imul (X : Stand p l e R s m args below meth c T locs cells slots) (hx : p.tables.exec = Jvm.exec) {x y : Int32} (pc' : Nat) (hd : decode c.code pc = .ok (.imul, 1)) (hp : pc + 1 = pc') (g : Go p e below s Q rc rs (T.setTop (mkF m pc' Ls (.int (x * y) :: st)))) : Go p e below s Q rc rs (T.setTop (mkF m pc Ls (.int y :: .int x :: st))) := by
  subst hp; exact g.by fun t k => XS.imul X.here hx rfl hd rfl k
theorem g_iand (X : Stand p l e R s m args below meth c T locs cells slots) (hx : p.tables.exec = Jvm.exec) {x y : Int32} (pc' : Nat) (hd : decode c.code pc = .ok (.iand, 1)) (hp : pc + 1 = pc') (g : Go p e below s Q rc rs (T.setTop (mkF m pc' Ls (.int (x &&& y) :: st)))) : Go p e below s Q rc rs (T.setTop (mkF m pc Ls (.int y :: .int x :: st))) := by
  subst hp; exact g.by fun t k => XS.iand X.here hx rfl hd rfl k
theorem g_ior (X : Stand p l e R s m args below meth c T locs cells slots) (hx : p.tables.exec = Jvm.exec) {x y : Int32} (pc' : Nat) (hd : decode c.code pc = .ok (.ior, 1)) (hp : pc + 1 = pc') (g : Go p e below s Q rc rs (T.setTop (mkF m pc' Ls (.int (x ||| y) :: st)))) : Go p e below s Q rc rs (T.setTop (mkF m pc Ls (.int y :: .int x :: st))) := by
  subst hp; exact g.by fun t k => XS.ior X.here hx rfl hd rfl k
theorem g_ixor (X : Stand p l e R s m args below meth c T locs cells slots) (hx : p.tables.exec = Jvm.exec) {x y : Int32} (pc' : Nat) (hd : decode c.code pc = .ok (.ixor, 1)) (hp : pc + 1 = pc') (g : Go p e below s Q rc rs (T.setTop (mkF m pc' Ls (.int (x ^^^ y) :: st)))) : Go p e below s Q rc rs (T.setTop (mkF m pc Ls (.int y :: .int x :: st))) := by
  subst hp; exact g.by fun t k => XS.ixor X.here hx rfl hd rfl k
theorem g_ineg (X : Stand p l e R s m args below meth c T locs cells slots) (hx : p.tables.exec = Jvm.exec) {x : Int32} (pc' : Nat) (hd : decode c.code pc = .ok (.ineg, 1)) (hp : pc + 1 = pc') (g : Go p e below s Q rc rs (T.setTop (mkF m pc' Ls (.int (-x) :: st)))) : Go p e below s Q rc rs (T.setTop (mkF m pc Ls (.int x :: st))) := by
  subst hp; exact g.by fun t k => XS.ineg X.here hx rfl hd rfl k
theorem g_idiv (X : Stand p l e R s m args below meth c T locs cells slots) (hx : p.tables.exec = Jvm.exec) {x y : Int32} (pc' : Nat) (hd : decode c.code pc = .ok (.idiv, 1)) (hy : y ≠ 0) (hp : pc + 1 = pc') (g : Go p e below s Q rc rs (T.setTop (mkF m pc' Ls (.int (x / y) :: st)))) : Go p e below s Q rc rs (T.setTop (mkF m pc Ls (.int y :: .int x :: st))) := by
  subst hp; exact g.by fun t k => XS.idiv X.here hx rfl hd rfl hy k
theorem g_ladd (X : Stand p l e R s m args below meth c T locs cells slots) (hx : p.tables.exec = Jvm.exec) {x y : Int64} (pc' : Nat) (hd : decode c.code pc = .ok (.ladd, 1)) (hp : pc + 1 = pc') (g : Go p e below s Q rc rs (T.setTop (mkF m pc' Ls (.long (x + y) :: st)))) : Go p e below s Q rc rs (T.setTop (mkF m pc Ls (.long y :: .long x :: st))) := by
  subst hp; exact g.by fun t k => XS.ladd X.here hx rfl hd rfl k
theorem g_lsub (X : Stand p l e R s m args below meth c T locs cells slots) (hx : p.tables.exec = Jvm.exec) {x y : Int64} (pc' : Nat) (hd : decode c.code pc = .ok (.lsub, 1)) (hp : pc + 1 = pc') (g : Go p e below s Q rc rs (T.setTop (mkF m pc' Ls (.long (x - y) :: st)))) : Go p e below s Q rc rs (T.setTop (mkF m pc Ls (.long y :: .long x :: st))) := by
  subst hp; exact g.by fun t k => XS.lsub X.here hx rfl hd rfl k
theorem g_lmul (X : Stand p l e R s m args below meth c T locs cells slots) (hx : p.tables.exec = Jvm.exec) {x y : Int64} (pc' : Nat) (hd : decode c.code pc = .ok (.lmul, 1)) (hp : pc + 1 = pc') (g : Go p e below s Q rc rs (T.setTop (mkF m pc' Ls (.long (x * y) :: st)))) : Go p e below s Q rc rs (T.setTop (mkF m pc Ls (.long y :: .long x :: st))) := by
  subst hp; exact g.by fun t k => XS.lmul X.here hx rfl hd rfl k
theorem g_land (X : Stand p l e R s m args below meth c T locs cells slots) (hx : p.tables.exec = Jvm.exec) {x y : Int64} (pc' : Nat) (hd : decode c.code pc = .ok (.land, 1)) (hp : pc + 1 = pc') (g : Go p e below s Q rc rs (T.setTop (mkF m pc' Ls (.long (x &&& y) :: st)))) : Go p e below s Q rc rs (T.setTop (mkF m pc Ls (.long y :: .long x :: st))) := by
  subst hp; exact g.by fun t k => XS.land X.here hx rfl hd rfl k
theorem g_lor (X : Stand p l e R s m args below meth c T locs cells slots) (hx : p.tables.exec = Jvm.exec) {x y : Int64} (pc' : Nat) (hd : decode c.code pc = .ok (.lor, 1)) (hp : pc + 1 = pc') (g : Go p e below s Q rc rs (T.setTop (mkF m pc' Ls (.long (x ||| y) :: st)))) : Go p e below s Q rc rs (T.setTop (mkF m pc Ls (.long y :: .long x :: st))) := by
  subst hp; exact g.by fun t k => XS.lor X.here hx rfl hd rfl k
theorem g_lxor (X : Stand p l e R s m args below meth c T locs cells slots) (hx : p.tables.exec = Jvm.exec) {x y : Int64} (pc' : Nat) (hd : decode c.code pc = .ok (.lxor, 1)) (hp : pc + 1 = pc') (g : Go p e below s Q rc rs (T.setTop (mkF m pc' Ls (.long (x ^^^ y) :: st)))) : Go p e below s Q rc rs (T.setTop (mkF m pc Ls (.long y :: .long x :: st))) := by
  subst hp; exact g.by fun t k => XS.lxor X.here hx rfl hd rfl k
theorem g_lneg (X : Stand p l e R s m args below meth c T locs cells slots) (hx : p.tables.exec = Jvm.exec) {x : Int64} (pc' : Nat) (hd : decode c.code pc = .ok (.lneg, 1)) (hp : pc + 1 = pc') (g : Go p e below s Q rc rs (T.setTop (mkF m pc' Ls (.long (-x) :: st)))) : Go p e below s Q rc rs (T.setTop (mkF m pc Ls (.long x :: st))) := by
  subst hp; exact g.by fun t k => XS.lneg X.here hx rfl hd rfl k
theorem g_ldiv (X : Stand p l e R s m args below meth c T locs cells slots) (hx : p.tables.exec = Jvm.exec) {x y : Int64} (pc' : Nat) (hd : decode c.code pc = .ok (.ldiv, 1)) (hy : y ≠ 0) (hp : pc + 1 = pc') (g : Go p e below s Q rc rs (T.setTop (mkF m pc' Ls (.long (x / y) :: st)))) : Go p e below s Q rc rs (T.setTop (mkF m pc Ls (.long y :: .long x :: st))) := by
  subst hp; exact g.by fun t k => XS.ldiv X.here hx rfl hd rfl hy k
theorem g_irem (X : Stand p l e R s m args below meth c T locs cells slots) (hx : p.tables.exec = Jvm.exec) {x y : Int32} (pc' : Nat) (hd : decode c.code pc = .ok (.irem, 1)) (hy : y ≠ 0) (hp : pc + 1 = pc') (g : Go p e below s Q rc rs (T.setTop (mkF m pc' Ls (.int (x % y) :: st)))) : Go p e below s Q rc rs (T.setTop (mkF m pc Ls (.int y :: .int x :: st))) := by
  subst hp; exact g.by fun t k => iremM X hx rfl hd rfl hy k
theorem g_lrem (X : Stand p l e R s m args below meth c T locs cells slots) (hx : p.tables.exec = Jvm.exec) {x y : Int64} (pc' : Nat) (hd : decode c.code pc = .ok (.lrem, 1)) (hy : y ≠ 0) (hp : pc + 1 = pc') (g : Go p e below s Q rc rs (T.setTop (mkF m pc' Ls (.long (x % y) :: st)))) : Go p e below s Q rc rs (T.setTop (mkF m pc Ls (.long y :: .long x :: st))) := by
  subst hp; exact g.by fun t k => XS.lrem X.here hx rfl hd rfl hy (by rw [lrem_mod]; exact k)
theorem g_ishl (X : Stand p l e R s m args below meth c T locs cells slots) (hx : p.tables.exec = Jvm.exec) {x : Int32} {y : Int32} (pc' : Nat) (hd : decode c.code pc = .ok (.ishl, 1)) (hp : pc + 1 = pc') (g : Go p e below s Q rc rs (T.setTop (mkF m pc' Ls (.int (shlI x y) :: st)))) : Go p e below s Q rc rs (T.setTop (mkF m pc Ls (.int y :: .int x :: st))) := by
  subst hp; exact g.by fun t k => XS.ishl X.here hx rfl hd rfl k
theorem g_ishr (X : Stand p l e R s m args below meth c T locs cells slots) (hx : p.tables.exec = Jvm.exec) {x : Int32} {y : Int32} (pc' : Nat) (hd : decode c.code pc = .ok (.ishr, 1)) (hp : pc + 1 = pc') (g : Go p e below s Q rc rs (T.setTop (mkF m pc' Ls (.int (shrI x y) :: st)))) : Go p e below s Q rc rs (T.setTop (mkF m pc Ls (.int y :: .int x :: st))) := by
  subst hp; exact g.by fun t k => XS.ishr X.here hx rfl hd rfl k
theorem g_iushr (X : Stand p l e R s m args below meth c T locs cells slots) (hx : p.tables.exec = Jvm.exec) {x : Int32} {y : Int32} (pc' : Nat) (hd : decode c.code pc = .ok (.iushr, 1)) (hp : pc + 1 = pc') (g : Go p e below s Q rc rs (T.setTop (mkF m pc' Ls (.int (ushrI x y) :: st)))) : Go p e below s Q rc rs (T.setTop (mkF m pc Ls (.int y :: .int x :: st))) := by
  subst hp; exact g.by fun t k => XS.iushr X.here hx rfl hd rfl k
theorem g_lshl (X : Stand p l e R s m args below meth c T locs cells slots) (hx : p.tables.exec = Jvm.exec) {x : Int64} {y : Int32} (pc' : Nat) (hd : decode c.code pc = .ok (.lshl, 1)) (hp : pc + 1 = pc') (g : Go p e below s Q rc rs (T.setTop (mkF m pc' Ls (.long (shlJ x y) :: st)))) : Go p e below s Q rc rs (T.setTop (mkF m pc Ls (.int y :: .long x :: st))) := by
  subst hp; exact g.by fun t k => XS.lshl X.here hx rfl hd rfl k
theorem g_lshr (X : Stand p l e R s m args below meth c T locs cells slots) (hx : p.tables.exec = Jvm.exec) {x : Int64} {y : Int32} (pc' : Nat) (hd : decode c.code pc = .ok (.lshr, 1)) (hp : pc + 1 = pc') (g : Go p e below s Q rc rs (T.setTop (mkF m pc' Ls (.long (shrJ x y) :: st)))) : Go p e below s Q rc rs (T.setTop (mkF m pc Ls (.int y :: .long x :: st))) := by
  subst hp; exact g.by fun t k => XS.lshr X.here hx rfl hd rfl k
theorem g_lushr (X : Stand p l e R s m args below meth c T locs cells slots) (hx : p.tables.exec = Jvm.exec) {x : Int64} {y : Int32} (pc' : Nat) (hd : decode c.code pc = .ok (.lushr, 1)) (hp : pc + 1 = pc') (g : Go p e below s Q rc rs (T.setTop (mkF m pc' Ls (.long (ushrJ x y) :: st)))) : Go p e below s Q rc rs (T.setTop (mkF m pc Ls (.int y :: .long x :: st))) := by
  subst hp; exact g.by fun t k => XS.lushr X.here hx rfl hd rfl k
theorem g_i2l (X : Stand p l e R s m args below meth c T locs cells slots) (hx : p.tables.exec = Jvm.exec) {x : Int32} (pc' : Nat) (hd : decode c.code pc = .ok (.i2l, 1)) (hp : pc + 1 = pc') (g : Go p e below s Q rc rs (T.setTop (mkF m pc' Ls (.long (x.toInt64) :: st)))) : Go p e below s Q rc rs (T.setTop (mkF m pc Ls (.int x :: st))) := by
  subst hp; exact g.by fun t k => XS.i2l X.here hx rfl hd rfl k
theorem g_l2i (X : Stand p l e R s m args below meth c T locs cells slots) (hx : p.tables.exec = Jvm.exec) {x : Int64} (pc' : Nat) (hd : decode c.code pc = .ok (.l2i, 1)) (hp : pc + 1 = pc') (g : Go p e below s Q rc rs (T.setTop (mkF m pc' Ls (.int (x.toInt32) :: st)))) : Go p e below s Q rc rs (T.setTop (mkF m pc Ls (.long x :: st))) := by
  subst hp; exact g.by fun t k => XS.l2i X.here hx rfl hd rfl k
theorem g_i2b (X : Stand p l e R s m args below meth c T locs cells slots) (hx : p.tables.exec = Jvm.exec) {x : Int32} (pc' : Nat) (hd : decode c.code pc = .ok (.i2b, 1)) (hp : pc + 1 = pc') (g : Go p e below s Q rc rs (T.setTop (mkF m pc' Ls (.int (i2bI x) :: st)))) : Go p e below s Q rc rs (T.setTop (mkF m pc Ls (.int x :: st))) := by
  subst hp; exact g.by fun t k => XS.i2b X.here hx rfl hd rfl k
theorem g_i2c (X : Stand p l e R s m args below meth c T locs cells slots) (hx : p.tables.exec = Jvm.exec) {x : Int32} (pc' : Nat) (hd : decode c.code pc = .ok (.i2c, 1)) (hp : pc + 1 = pc') (g : Go p e below s Q rc rs (T.setTop (mkF m pc' Ls (.int (i2cI x) :: st)))) : Go p e below s Q rc rs (T.setTop (mkF m pc Ls (.int x :: st))) := by
  subst hp; exact g.by fun t k => XS.i2c X.here hx rfl hd rfl k
theorem g_i2s (X : Stand p l e R s m args below meth c T locs cells slots) (hx : p.tables.exec = Jvm.exec) {x : Int32} (pc' : Nat) (hd : decode c.code pc = .ok (.i2s, 1)) (hp : pc + 1 = pc') (g : Go p e below s Q rc rs (T.setTop (mkF m pc' Ls (.int (i2sI x) :: st)))) : Go p e below s Q rc rs (T.setTop (mkF m pc Ls (.int x :: st))) := by
  subst hp; exact g.by fun t k => XS.i2s X.here hx rfl hd rfl k
theorem g_lcmp (X : Stand p l e R s m args below meth c T locs cells slots) (hx : p.tables.exec = Jvm.exec) {x y : Int64} (pc' : Nat) (hd : decode c.code pc = .ok (.lcmp, 1)) (hp : pc + 1 = pc') (g : Go p e below s Q rc rs (T.setTop (mkF m pc' Ls (.int (lcmpW x y) :: st)))) : Go p e below s Q rc rs (T.setTop (mkF m pc Ls (.long y :: .long x :: st))) := by
  subst hp; exact g.by fun t k => XS.lcmp X.here hx rfl hd rfl k
theorem g_iinc (X : Stand p l e R s m args below meth c T locs cells slots) (hx : p.tables.exec = Jvm.exec) {k : Nat} {i : Int} {x : Int32} (v : Int32) (l' : Array Slot) (pc' : Nat) (hd : decode c.code pc = .ok (.iinc k i, 3)) (hv : Int32.ofInt i = v) (hl : Ls[k]? = some (.val (.int x))) (hl' : storeLocals Ls k (.int (x + v)) = some l') (hp : pc + 3 = pc') (g : Go p e below s Q rc rs (T.setTop (mkF m pc' l' st))) : Go p e below s Q rc rs (T.setTop (mkF m pc Ls st)) := by
  subst hp hv; exact g.by fun t k => XS.iinc X.here hx rfl hd hl hl' k
theorem g_dup (X : Stand p l e R s m args below meth c T locs cells slots) (hx : p.tables.exec = Jvm.exec) {x : Value} (pc' : Nat) (hd : decode c.code pc = .ok (.dup, 1)) (hc : x.category = 1) (hp : pc + 1 = pc') (g : Go p e below s Q rc rs (T.setTop (mkF m pc' Ls (x :: x :: st)))) : Go p e below s Q rc rs (T.setTop (mkF m pc Ls (x :: st))) := by
  subst hp; exact g.by fun t k => XS.dup X.here hx rfl hd rfl hc k
theorem g_pop (X : Stand p l e R s m args below meth c T locs cells slots) (hx : p.tables.exec = Jvm.exec) {x : Value} (pc' : Nat) (hd : decode c.code pc = .ok (.pop, 1)) (hc : x.category = 1) (hp : pc + 1 = pc') (g : Go p e below s Q rc rs (T.setTop (mkF m pc' Ls st))) : Go p e below s Q rc rs (T.setTop (mkF m pc Ls (x :: st))) := by
  subst hp; exact g.by fun t k => XS.pop X.here hx rfl hd rfl hc k
theorem g_dup_x1 (X : Stand p l e R s m args below meth c T locs cells slots) (hx : p.tables.exec = Jvm.exec) {x y : Value} (pc' : Nat) (hd : decode c.code pc = .ok (.dup_x1, 1)) (hc : x.category = 1) (hc2 : y.category = 1) (hp : pc + 1 = pc') (g : Go p e below s Q rc rs (T.setTop (mkF m pc' Ls (x :: y :: x :: st)))) : Go p e below s Q rc rs (T.setTop (mkF m pc Ls (x :: y :: st))) := by
  subst hp; exact g.by fun t k => XS.dupX1 X.here hx rfl hd rfl hc hc2 k
theorem g_dup2 (X : Stand p l e R s m args below meth c T locs cells slots) (hx : p.tables.exec = Jvm.exec) {x y : Value} (pc' : Nat) (hd : decode c.code pc = .ok (.dup2, 1)) (hc : x.category = 1) (hc2 : y.category = 1) (hp : pc + 1 = pc') (g : Go p e below s Q rc rs (T.setTop (mkF m pc' Ls (x :: y :: x :: y :: st)))) : Go p e below s Q rc rs (T.setTop (mkF m pc Ls (x :: y :: st))) := by
  subst hp; exact g.by fun t k => XT.dup2 X.here hx rfl hd rfl hc hc2 k
theorem g_dup2L (X : Stand p l e R s m args below meth c T locs cells slots) (hx : p.tables.exec = Jvm.exec) {x : Int64} (pc' : Nat) (hd : decode c.code pc = .ok (.dup2, 1)) (hp : pc + 1 = pc') (g : Go p e below s Q rc rs (T.setTop (mkF m pc' Ls (.long x :: .long x :: st)))) : Go p e below s Q rc rs (T.setTop (mkF m pc Ls (.long x :: st))) := by
  subst hp; exact g.by fun t k => XT.dup2L X.here hx rfl hd rfl k
theorem g_pop2L (X : Stand p l e R s m args below meth c T locs cells slots) (hx : p.tables.exec = Jvm.exec) {x : Int64} (pc' : Nat) (hd : decode c.code pc = .ok (.pop2, 1)) (hp : pc + 1 = pc') (g : Go p e below s Q rc rs (T.setTop (mkF m pc' Ls st))) : Go p e below s Q rc rs (T.setTop (mkF m pc Ls (.long x :: st))) := by
  subst hp; refine g.by fun t k => ?_
  jvm_step X.here [X.here.top, hx, hd, Value.category]
  exact k
theorem g_goto (X : Stand p l e R s m args below meth c T locs cells slots) (hx : p.tables.exec = Jvm.exec) {o : Int} (pc' : Nat) (hd : decode c.code pc = .ok (.goto o, 3)) (ho : 0 ≤ (pc : Int) + o) (hp : ((pc : Int) + o).toNat = pc') (g : Go p e below s Q rc rs (T.setTop (mkF m pc' Ls st))) : Go p e below s Q rc rs (T.setTop (mkF m pc Ls st)) := by
  subst hp; exact g.by fun t k => XS.goto X.here hx rfl rfl hd ho rfl k
theorem g_icmp_lt (X : Stand p l e R s m args below meth c T locs cells slots) (hx : p.tables.exec = Jvm.exec) {x y : Int32} {o : Int} (pcY pcN : Nat) (hd : decode c.code pc = .ok (.if_icmp .lt o, 3)) (ho : 0 ≤ (pc : Int) + o) (hY : ((pc : Int) + o).toNat = pcY) (hN : pc + 3 = pcN) (gp : x < y → Go p e below s Q rc rs (T.setTop (mkF m pcY Ls st))) (gn : ¬ x < y → Go p e below s Q rc rs (T.setTop (mkF m pcN Ls st))) : Go p e below s Q rc rs (T.setTop (mkF m pc Ls (.int y :: .int x :: st))) := by
  subst hY hN
  by_cases q : x < y
  · exact (gp q).by fun t k => XS.icmpYes X.here hx rfl rfl hd rfl (tlt q).1 ho rfl k
  · exact (gn q).by fun t k => XS.icmpNo X.here hx rfl hd rfl (flt q).1 k
theorem g_if0_lt (X : Stand p l e R s m args below meth c T locs cells slots) (hx : p.tables.exec = Jvm.exec) {x : Int32} {o : Int} (pcY pcN : Nat) (hd : decode c.code pc = .ok (.ifCond .lt o, 3)) (ho : 0 ≤ (pc : Int) + o) (hY : ((pc : Int) + o).toNat = pcY) (hN : pc + 3 = pcN) (gp : x < 0 → Go p e below s Q rc rs (T.setTop (mkF m pcY Ls st))) (gn : ¬ x < 0 → Go p e below s Q rc rs (T.setTop (mkF m pcN Ls st))) : Go p e below s Q rc rs (T.setTop (mkF m pc Ls (.int x :: st))) := by
  subst hY hN
  by_cases q : x < 0
  · exact (gp q).by fun t k => XS.ifYes X.here hx rfl rfl hd rfl ((if0 _ _).trans (tlt q).1) ho rfl k
  · exact (gn q).by fun t k => XS.ifNo X.here hx rfl hd rfl ((if0 _ _).trans (flt q).1) k
theorem g_lc_lt (X : Stand p l e R s m args below meth c T locs cells slots) (hx : p.tables.exec = Jvm.exec) {x y : Int64} {o : Int} (pcY pcN : Nat) (hd : decode c.code pc = .ok (.ifCond .lt o, 3)) (ho : 0 ≤ (pc : Int) + o) (hY : ((pc : Int) + o).toNat = pcY) (hN : pc + 3 = pcN) (gp : x < y → Go p e below s Q rc rs (T.setTop (mkF m pcY Ls st))) (gn : ¬ x < y → Go p e below s Q rc rs (T.setTop (mkF m pcN Ls st))) : Go p e below s Q rc rs (T.setTop (mkF m pc Ls (.int (lcmpW x y) :: st))) :=
  g_if0_lt X hx pcY pcN hd ho hY hN (fun q => gp ((lw_lt x y).1 q)) (fun q => gn fun r => q ((lw_lt x y).2 r))
theorem g_icmp_ge (X : Stand p l e R s m args below meth c T locs cells slots) (hx : p.tables.exec = Jvm.exec) {x y : Int32} {o : Int} (pcY pcN : Nat) (hd : decode c.code pc = .ok (.if_icmp .ge o, 3)) (ho : 0 ≤ (pc : Int) + o) (hY : ((pc : Int) + o).toNat = pcY) (hN : pc + 3 = pcN) (gp : x < y → Go p e below s Q rc rs (T.setTop (mkF m pcN Ls st))) (gn : ¬ x < y → Go p e below s Q rc rs (T.setTop (mkF m pcY Ls st))) : Go p e below s Q rc rs (T.setTop (mkF m pc Ls (.int y :: .int x :: st))) := by
  subst hY hN
  by_cases q : x < y
  · exact (gp q).by fun t k => XS.icmpNo X.here hx rfl hd rfl (tlt q).2.1 k
  · exact (gn q).by fun t k => XS.icmpYes X.here hx rfl rfl hd rfl (flt q).2.1 ho rfl k
theorem g_if0_ge (X : Stand p l e R s m args below meth c T locs cells slots) (hx : p.tables.exec = Jvm.exec) {x : Int32} {o : Int} (pcY pcN : Nat) (hd : decode c.code pc = .ok (.ifCond .ge o, 3)) (ho : 0 ≤ (pc : Int) + o) (hY : ((pc : Int) + o).toNat = pcY) (hN : pc + 3 = pcN) (gp : x < 0 → Go p e below s Q rc rs (T.setTop (mkF m pcN Ls st))) (gn : ¬ x < 0 → Go p e below s Q rc rs (T.setTop (mkF m pcY Ls st))) : Go p e below s Q rc rs (T.setTop (mkF m pc Ls (.int x :: st))) := by
  subst hY hN
  by_cases q : x < 0
  · exact (gp q).by fun t k => XS.ifNo X.here hx rfl hd rfl ((if0 _ _).trans (tlt q).2.1) k
  · exact (gn q).by fun t k => XS.ifYes X.here hx rfl rfl hd rfl ((if0 _ _).trans (flt q).2.1) ho rfl k
theorem g_lc_ge (X : Stand p l e R s m args below meth c T locs cells slots) (hx : p.tables.exec = Jvm.exec) {x y : Int64} {o : Int} (pcY pcN : Nat) (hd : decode c.code pc = .ok (.ifCond .ge o, 3)) (ho : 0 ≤ (pc : Int) + o) (hY : ((pc : Int) + o).toNat = pcY) (hN : pc + 3 = pcN) (gp : x < y → Go p e below s Q rc rs (T.setTop (mkF m pcN Ls st))) (gn : ¬ x < y → Go p e below s Q rc rs (T.setTop (mkF m pcY Ls st))) : Go p e below s Q rc rs (T.setTop (mkF m pc Ls (.int (lcmpW x y) :: st))) :=
  g_if0_ge X hx pcY pcN hd ho hY hN (fun q => gp ((lw_lt x y).1 q)) (fun q => gn fun r => q ((lw_lt x y).2 r))
theorem g_icmp_gt (X : Stand p l e R s m args below meth c T locs cells slots) (hx : p.tables.exec = Jvm.exec) {x y : Int32} {o : Int} (pcY pcN : Nat) (hd : decode c.code pc = .ok (.if_icmp .gt o, 3)) (ho : 0 ≤ (pc : Int) + o) (hY : ((pc : Int) + o).toNat = pcY) (hN : pc + 3 = pcN) (gp : y < x → Go p e below s Q rc rs (T.setTop (mkF m pcY Ls st))) (gn : ¬ y < x → Go p e below s Q rc rs (T.setTop (mkF m pcN Ls st))) : Go p e below s Q rc rs (T.setTop (mkF m pc Ls (.int y :: .int x :: st))) := by
  subst hY hN
  by_cases q : y < x
  · exact (gp q).by fun t k => XS.icmpYes X.here hx rfl rfl hd rfl (tlt q).2.2.1 ho rfl k
  · exact (gn q).by fun t k => XS.icmpNo X.here hx rfl hd rfl (flt q).2.2.1 k
theorem g_if0_gt (X : Stand p l e R s m args below meth c T locs cells slots) (hx : p.tables.exec = Jvm.exec) {x : Int32} {o : Int} (pcY pcN : Nat) (hd : decode c.code pc = .ok (.ifCond .gt o, 3)) (ho : 0 ≤ (pc : Int) + o) (hY : ((pc : Int) + o).toNat = pcY) (hN : pc + 3 = pcN) (gp : 0 < x → Go p e below s Q rc rs (T.setTop (mkF m pcY Ls st))) (gn : ¬ 0 < x → Go p e below s Q rc rs (T.setTop (mkF m pcN Ls st))) : Go p e below s Q rc rs (T.setTop (mkF m pc Ls (.int x :: st))) := by
  subst hY hN
  by_cases q : 0 < x
  · exact (gp q).by fun t k => XS.ifYes X.here hx rfl rfl hd rfl ((if0 _ _).trans (tlt q).2.2.1) ho rfl k
  · exact (gn q).by fun t k => XS.ifNo X.here hx rfl hd rfl ((if0 _ _).trans (flt q).2.2.1) k
theorem g_lc_gt (X : Stand p l e R s m args below meth c T locs cells slots) (hx : p.tables.exec = Jvm.exec) {x y : Int64} {o : Int} (pcY pcN : Nat) (hd : decode c.code pc = .ok (.ifCond .gt o, 3)) (ho : 0 ≤ (pc : Int) + o) (hY : ((pc : Int) + o).toNat = pcY) (hN : pc + 3 = pcN) (gp : y < x → Go p e below s Q rc rs (T.setTop (mkF m pcY Ls st))) (gn : ¬ y < x → Go p e below s Q rc rs (T.setTop (mkF m pcN Ls st))) : Go p e below s Q rc rs (T.setTop (mkF m pc Ls (.int (lcmpW x y) :: st))) :=
  g_if0_gt X hx pcY pcN hd ho hY hN (fun q => gp ((lw_gt x y).1 q)) (fun q => gn fun r => q ((lw_gt x y).2 r))
theorem g_icmp_le (X : Stand p l e R s m args below meth c T locs cells slots) (hx : p.tables.exec = Jvm.exec) {x y : Int32} {o : Int} (pcY pcN : Nat) (hd : decode c.code pc = .ok (.if_icmp .le o, 3)) (ho : 0 ≤ (pc : Int) + o) (hY : ((pc : Int) + o).toNat = pcY) (hN : pc + 3 = pcN) (gp : y < x → Go p e below s Q rc rs (T.setTop (mkF m pcN Ls st))) (gn : ¬ y < x → Go p e below s Q rc rs (T.setTop (mkF m pcY Ls st))) : Go p e below s Q rc rs (T.setTop (mkF m pc Ls (.int y :: .int x :: st))) := by
  subst hY hN
  by_cases q : y < x
  · exact (gp q).by fun t k => XS.icmpNo X.here hx rfl hd rfl (tlt q).2.2.2 k
  · exact (gn q).by fun t k => XS.icmpYes X.here hx rfl rfl hd rfl (flt q).2.2.2 ho rfl k
theorem g_if0_le (X : Stand p l e R s m args below meth c T locs cells slots) (hx : p.tables.exec = Jvm.exec) {x : Int32} {o : Int} (pcY pcN : Nat) (hd : decode c.code pc = .ok (.ifCond .le o, 3)) (ho : 0 ≤ (pc : Int) + o) (hY : ((pc : Int) + o).toNat = pcY) (hN : pc + 3 = pcN) (gp : 0 < x → Go p e below s Q rc rs (T.setTop (mkF m pcN Ls st))) (gn : ¬ 0 < x → Go p e below s Q rc rs (T.setTop (mkF m pcY Ls st))) : Go p e below s Q rc rs (T.setTop (mkF m pc Ls (.int x :: st))) := by
  subst hY hN
  by_cases q : 0 < x
  · exact (gp q).by fun t k => XS.ifNo X.here hx rfl hd rfl ((if0 _ _).trans (tlt q).2.2.2) k
  · exact (gn q).by fun t k => XS.ifYes X.here hx rfl rfl hd rfl ((if0 _ _).trans (flt q).2.2.2) ho rfl k
theorem g_lc_le (X : Stand p l e R s m args below meth c T locs cells slots) (hx : p.tables.exec = Jvm.exec) {x y : Int64} {o : Int} (pcY pcN : Nat) (hd : decode c.code pc = .ok (.ifCond .le o, 3)) (ho : 0 ≤ (pc : Int) + o) (hY : ((pc : Int) + o).toNat = pcY) (hN : pc + 3 = pcN) (gp : y < x → Go p e below s Q rc rs (T.setTop (mkF m pcN Ls st))) (gn : ¬ y < x → Go p e below s Q rc rs (T.setTop (mkF m pcY Ls st))) : Go p e below s Q rc rs (T.setTop (mkF m pc Ls (.int (lcmpW x y) :: st))) :=
  g_if0_le X hx pcY pcN hd ho hY hN (fun q => gp ((lw_gt x y).1 q)) (fun q => gn fun r => q ((lw_gt x y).2 r))
theorem g_icmp_eq (X : Stand p l e R s m args below meth c T locs cells slots) (hx : p.tables.exec = Jvm.exec) {x y : Int32} {o : Int} (pcY pcN : Nat) (hd : decode c.code pc = .ok (.if_icmp .eq o, 3)) (ho : 0 ≤ (pc : Int) + o) (hY : ((pc : Int) + o).toNat = pcY) (hN : pc + 3 = pcN) (gp : x = y → Go p e below s Q rc rs (T.setTop (mkF m pcY Ls st))) (gn : ¬ x = y → Go p e below s Q rc rs (T.setTop (mkF m pcN Ls st))) : Go p e below s Q rc rs (T.setTop (mkF m pc Ls (.int y :: .int x :: st))) := by
  subst hY hN
  by_cases q : x = y
  · exact (gp q).by fun t k => XS.icmpYes X.here hx rfl rfl hd rfl (teq q).1 ho rfl k
  · exact (gn q).by fun t k => XS.icmpNo X.here hx rfl hd rfl (feq q).1 k
theorem g_if0_eq (X : Stand p l e R s m args below meth c T locs cells slots) (hx : p.tables.exec = Jvm.exec) {x : Int32} {o : Int} (pcY pcN : Nat) (hd : decode c.code pc = .ok (.ifCond .eq o, 3)) (ho : 0 ≤ (pc : Int) + o) (hY : ((pc : Int) + o).toNat = pcY) (hN : pc + 3 = pcN) (gp : x = 0 → Go p e below s Q rc rs (T.setTop (mkF m pcY Ls st))) (gn : ¬ x = 0 → Go p e below s Q rc rs (T.setTop (mkF m pcN Ls st))) : Go p e below s Q rc rs (T.setTop (mkF m pc Ls (.int x :: st))) := by
  subst hY hN
  by_cases q : x = 0
  · exact (gp q).by fun t k => XS.ifYes X.here hx rfl rfl hd rfl ((if0 _ _).trans (teq q).1) ho rfl k
  · exact (gn q).by fun t k => XS.ifNo X.here hx rfl hd rfl ((if0 _ _).trans (feq q).1) k
theorem g_lc_eq (X : Stand p l e R s m args below meth c T locs cells slots) (hx : p.tables.exec = Jvm.exec) {x y : Int64} {o : Int} (pcY pcN : Nat) (hd : decode c.code pc = .ok (.ifCond .eq o, 3)) (ho : 0 ≤ (pc : Int) + o) (hY : ((pc : Int) + o).toNat = pcY) (hN : pc + 3 = pcN) (gp : x = y → Go p e below s Q rc rs (T.setTop (mkF m pcY Ls st))) (gn : ¬ x = y → Go p e below s Q rc rs (T.setTop (mkF m pcN Ls st))) : Go p e below s Q rc rs (T.setTop (mkF m pc Ls (.int (lcmpW x y) :: st))) :=
  g_if0_eq X hx pcY pcN hd ho hY hN (fun q => gp ((lw_eq x y).1 q)) (fun q => gn fun r => q ((lw_eq x y).2 r))
theorem g_icmp_ne (X : Stand p l e R s m args below meth c T locs cells slots) (hx : p.tables.exec = Jvm.exec) {x y : Int32} {o : Int} (pcY pcN : Nat) (hd : decode c.code pc = .ok (.if_icmp .ne o, 3)) (ho : 0 ≤ (pc : Int) + o) (hY : ((pc : Int) + o).toNat = pcY) (hN : pc + 3 = pcN) (gp : x = y → Go p e below s Q rc rs (T.setTop (mkF m pcN Ls st))) (gn : ¬ x = y → Go p e below s Q rc rs (T.setTop (mkF m pcY Ls st))) : Go p e below s Q rc rs (T.setTop (mkF m pc Ls (.int y :: .int x :: st))) := by
  subst hY hN
  by_cases q : x = y
  · exact (gp q).by fun t k => XS.icmpNo X.here hx rfl hd rfl (teq q).2 k
  · exact (gn q).by fun t k => XS.icmpYes X.here hx rfl rfl hd rfl (feq q).2 ho rfl k
theorem g_if0_ne (X : Stand p l e R s m args below meth c T locs cells slots) (hx : p.tables.exec = Jvm.exec) {x : Int32} {o : Int} (pcY pcN : Nat) (hd : decode c.code pc = .ok (.ifCond .ne o, 3)) (ho : 0 ≤ (pc : Int) + o) (hY : ((pc : Int) + o).toNat = pcY) (hN : pc + 3 = pcN) (gp : x = 0 → Go p e below s Q rc rs (T.setTop (mkF m pcN Ls st))) (gn : ¬ x = 0 → Go p e below s Q rc rs (T.setTop (mkF m pcY Ls st))) : Go p e below s Q rc rs (T.setTop (mkF m pc Ls (.int x :: st))) := by
  subst hY hN
  by_cases q : x = 0
  · exact (gp q).by fun t k => XS.ifNo X.here hx rfl hd rfl ((if0 _ _).trans (teq q).2) k
  · exact (gn q).by fun t k => XS.ifYes X.here hx rfl rfl hd rfl ((if0 _ _).trans (feq q).2) ho rfl k
theorem g_lc_ne (X : Stand p l e R s m args below meth c T locs cells slots) (hx : p.tables.exec = Jvm.exec) {x y : Int64} {o : Int} (pcY pcN : Nat) (hd : decode c.code pc = .ok (.ifCond .ne o, 3)) (ho : 0 ≤ (pc : Int) + o) (hY : ((pc : Int) + o).toNat = pcY) (hN : pc + 3 = pcN) (gp : x = y → Go p e below s Q rc rs (T.setTop (mkF m pcN Ls st))) (gn : ¬ x = y → Go p e below s Q rc rs (T.setTop (mkF m pcY Ls st))) : Go p e below s Q rc rs (T.setTop (mkF m pc Ls (.int (lcmpW x y) :: st))) :=
  g_if0_ne X hx pcY pcN hd ho hY hN (fun q => gp ((lw_eq x y).1 q)) (fun q => gn fun r => q ((lw_eq x y).2 r))
theorem g_ifnull_no (X : Stand p l e R s m args below meth c T locs cells slots) (hx : p.tables.exec = Jvm.exec) {b : Addr} {o : Int} (pc' : Nat) (hd : decode c.code pc = .ok (.ifnull o, 3)) (hp : pc + 3 = pc') (g : Go p e below s Q rc rs (T.setTop (mkF m pc' Ls st))) : Go p e below s Q rc rs (T.setTop (mkF m pc Ls (.ref b :: st))) := by
  subst hp; exact g.by fun t k => XS.ifnullNo X.here hx rfl hd rfl k
theorem g_ifnonnull_yes (X : Stand p l e R s m args below meth c T locs cells slots) (hx : p.tables.exec = Jvm.exec) {b : Addr} {o : Int} (pc' : Nat) (hd : decode c.code pc = .ok (.ifnonnull o, 3)) (ho : 0 ≤ (pc : Int) + o) (hp : ((pc : Int) + o).toNat = pc') (g : Go p e below s Q rc rs (T.setTop (mkF m pc' Ls st))) : Go p e below s Q rc rs (T.setTop (mkF m pc Ls (.ref b :: st))) := by
  subst hp; exact g.by fun t k => XS.ifnonnullYes X.here hx rfl rfl hd rfl ho rfl k
theorem g_retI (X : Stand p l e R s m args below meth c T locs cells slots) (hx : p.tables.exec = Jvm.exec) (hret : meth.sig.returnType = some .int) (hlk : meth.locks = false) {z : Int32} (hd : decode c.code pc = .ok (.ireturn, 1)) (hc : cells ≤ rc) (hs : slots ≤ rs) (hQ : Q (some (.int z)) T.heap locs) : Go p e below s Q rc rs (T.setTop (mkF m pc Ls (.int z :: st))) := by
  obtain ⟨fs, hr, hrun, hended, hW, hsame⟩ := X.leave (v := some (.int z)) (fun q => by rw [hret] at q; cases q) hlk
  exact ⟨_, _, retI X hx hret hd hr, hrun, hended, _, _, rfl, hQ, ⟨_, rfl⟩, hW, hsame.mono hc hs⟩
theorem g_retN (X : Stand p l e R s m args below meth c T locs cells slots) (hx : p.tables.exec = Jvm.exec) {ty : FieldType} (hret : meth.sig.returnType = some ty) (ht : ty = .boolean ∨ ty = .byte ∨ ty = .char ∨ ty = .short) (hlk : meth.locks = false) {z : Int32} (hd : decode c.code pc = .ok (.ireturn, 1)) (hc : cells ≤ rc) (hs : slots ≤ rs) (hQ : Q (some (.int (nar ty z))) T.heap locs) : Go p e below s Q rc rs (T.setTop (mkF m pc Ls (.int z :: st))) := by
  obtain ⟨fs, hr, hrun, hended, hW, hsame⟩ := X.leave (v := some (.int (nar ty z))) (fun q => by rw [hret] at q; cases q) hlk
  exact ⟨_, _, retN X hx hret ht hd hr, hrun, hended, _, _, rfl, hQ, ⟨_, rfl⟩, hW, hsame.mono hc hs⟩
theorem g_retJ (X : Stand p l e R s m args below meth c T locs cells slots) (hx : p.tables.exec = Jvm.exec) (hret : meth.sig.returnType = some .long) (hlk : meth.locks = false) {z : Int64} (hd : decode c.code pc = .ok (.lreturn, 1)) (hc : cells ≤ rc) (hs : slots ≤ rs) (hQ : Q (some (.long z)) T.heap locs) : Go p e below s Q rc rs (T.setTop (mkF m pc Ls (.long z :: st))) := by
  obtain ⟨fs, hr, hrun, hended, hW, hsame⟩ := X.leave (v := some (.long z)) (fun q => by rw [hret] at q; cases q) hlk
  exact ⟨_, _, retOut X hx hret rfl (Or.inr (Or.inl ⟨rfl, rfl, z, rfl⟩)) hd hr, hrun, hended, _, _, rfl, hQ, ⟨_, rfl⟩, hW, hsame.mono hc hs⟩
theorem g_retA (X : Stand p l e R s m args below meth c T locs cells slots) (hx : p.tables.exec = Jvm.exec) {ty : FieldType} (hret : meth.sig.returnType = some ty) (ht : ty.isReference = true) (hlk : meth.locks = false) {b : Addr} (hd : decode c.code pc = .ok (.areturn, 1)) (hc : cells ≤ rc) (hs : slots ≤ rs) (hQ : Q (some (.ref b)) T.heap locs) : Go p e below s Q rc rs (T.setTop (mkF m pc Ls [.ref b])) := by
  obtain ⟨fs, hr, hrun, hended, hW, hsame⟩ := X.leave (v := some (.ref b)) (fun q => by rw [hret] at q; cases q) hlk
  exact ⟨_, _, X.areturnOut hx rfl hret ht hd hr, hrun, hended, _, _, rfl, hQ, ⟨_, rfl⟩, hW, hsame.mono hc hs⟩
theorem g_retV (X : Stand p l e R s m args below meth c T locs cells slots) (hx : p.tables.exec = Jvm.exec) (hret : meth.sig.returnType = none) (hlk : meth.locks = false) (hd : decode c.code pc = .ok (.return_, 1)) (hc : cells ≤ rc) (hs : slots ≤ rs) (hQ : Q none T.heap locs) : Go p e below s Q rc rs (T.setTop (mkF m pc Ls [])) := by
  obtain ⟨fs, hr, hrun, hended, hW, hsame⟩ := X.leave (v := none) (fun _ => rfl) hlk
  exact ⟨_, _, X.returnOut hx hret hd hr, hrun, hended, _, _, rfl, hQ, ⟨_, rfl⟩, hW, hsame.mono hc hs⟩
theorem g_body {y : MethodName} {bytes : ByteArray} {maxL : Nat} {ret : Option FieldType} {ws : List Jvm.Cond} {rm : Room} {as : Array Value} (hpn : plainFor y = true)
    (body : ∀ p e s m below meth c T, Stand p l e rm s m as below meth c T [] 0 0 → p.tables.exec = Jvm.exec → c.code = bytes → c.maxLocals = maxL → meth.sig.returnType = ret → meth.locks = false → s.vm.findClass y.cls = some m.cls → meth.name = y.name → Z.Warmed39 s.vm → T.heap = h → Go p e below s Q rc rs (T.setTop (entryFrame m as maxL))) :
    MetFree l y (head1 (Jvm.Cond.code y bytes maxL ret :: ws) rm) (fun a U => a = as ∧ Z.Warmed39 U.vm ∧ U.heap = h) (fun _ _ _ _ _ => True) (fun _ U o U' => ∃ v L, o = .returned v ∧ Q v U'.heap L ∧ FrameEnd U o U' L rc rs) := by
  refine MetFree.of_bodySF hpn hisR ?_
  intro p e s m args below meth c s₁ Bd hml hP hK
  obtain ⟨rfl, hZ, hh⟩ := hP
  exact body p e s m below meth c s₁ (Stand.of_body Bd) Bd.exec Bd.bytes hml Bd.returns Bd.notSynchronized (findClass_of_methodNamed Bd.named) (name_of_methodNamed Bd.named Bd.method).1 hZ (by rw [← hh, Bd.state]; rfl)
theorem g_callS (X : Stand p l e R s m args below meth c T locs cells slots) (hx : p.tables.exec = Jvm.exec) (hZ : Z.Warmed39 s.vm) {own : String} {i : Nat} {y : MethodName} {bytes : ByteArray} {maxL : Nat} {ret : Option FieldType} {rm : Room} {as : Array Value} {Q' : Option Value → Heap → List Loc → Prop} (hown : s.vm.findClass own = some m.cls) (w1 : (Jvm.Cond.methodLink own i y).before a0 Z = true) (w2 : (Jvm.Cond.static y).before a0 Z = true) (w3 : (Jvm.Cond.initialized y.cls).before a0 Z = true) (w4 : (Jvm.Cond.code y bytes maxL ret).before a0 Z = true) (hy : y.cls ≠ "java/lang/invoke/MethodHandle" ∧ y.cls ≠ "java/lang/invoke/VarHandle") (eT : T.heap = h) (hM : MetFree l y (head1 [Jvm.Cond.code y bytes maxL ret] rm) (fun a U => a = as ∧ Z.Warmed39 U.vm ∧ U.heap = h) (fun _ _ _ _ _ => True) (fun _ U o U' => ∃ v L, o = .returned v ∧ Q' v U'.heap L ∧ FrameEnd U o U' L rm.cells rm.slots)) (argsL rest : List Value) (W : Nat) (has : argsL.toArray = as) (hlen : ∀ sig, parseMethodDescriptor y.desc = some sig → argsL.length = sig.parameters.length) (hst : st = argsL.reverse ++ rest) (hW : (rest.map fun v => v.category).sum ≤ W) (hf : rm.frames + 1 ≤ R.frames) (hlo : W + (maxL + 11) + rm.locals ≤ R.locals) (hcl : cells + rm.cells ≤ R.cells) (hsl : slots + rm.slots ≤ R.slots) (hsz : Ls.size = c.maxLocals) (hd : decode c.code pc = .ok (.invokestatic i, 3)) (k : ∀ T' L v, Stand p l e R s m args below meth c T' (locs ++ L) (cells + rm.cells) (slots + rm.slots) → Q' v T'.heap L → Go p e below s Q rc rs (T'.setTop (mkF m (pc + 3) Ls (v.toList ++ rest)))) : Go p e below s Q rc rs (T.setTop (mkF m pc Ls st)) := by
  subst hst has
  obtain ⟨_, _, ⟨T', L', k', n'⟩, -, X', ⟨Lc, hQ, e1, e2, e3⟩, stp⟩ := Jvm.LawKit.callS X hx (y := y) hown (mvT hZ w1) (mvT hZ w2) (mvT hZ w3) (mvT hZ w4) hy (backOf (W := W) hM hZ w4 w3 hf hlo) (g := mkF m pc Ls (argsL.reverse ++ rest)) rfl hsz (argsL := argsL) (rest := rest) hlen rfl (by show 2 * 0 + _ ≤ _; omega) hd (fun _ _ => ⟨rfl, eT, hcl, hsl⟩)
  dsimp only [Pt.U, Pt.locs, Pt.cells, Pt.slots] at X' e1 e2 e3 stp hQ
  subst e1 e2 e3
  exact (k _ _ _ X' hQ).by stp
theorem g_callI (X : Stand p l e R s m args below meth c T locs cells slots) (hx : p.tables.exec = Jvm.exec) (hZ : Z.Warmed39 s.vm) {own : String} {i : Nat} {y : MethodName} {bytes : ByteArray} {maxL : Nat} {rm : Room} {as : Array Value} {Q' : Option Value → Heap → List Loc → Prop} (hy1 : y.name = "<init>") (hown : s.vm.findClass own = some m.cls) (w1 : (Jvm.Cond.methodLink own i y).before a0 Z = true) (w2 : (Jvm.Cond.instanceMethod y).before a0 Z = true) (w3 : (Jvm.Cond.initialized y.cls).before a0 Z = true) (w4 : (Jvm.Cond.code y bytes maxL none).before a0 Z = true) (hy : y.cls ≠ "java/lang/invoke/MethodHandle" ∧ y.cls ≠ "java/lang/invoke/VarHandle") (eT : T.heap = h) (hM : MetFree l y (head1 [Jvm.Cond.code y bytes maxL none] rm) (fun a U => a = as ∧ Z.Warmed39 U.vm ∧ U.heap = h) (fun _ _ _ _ _ => True) (fun _ U o U' => ∃ v L, o = .returned v ∧ Q' v U'.heap L ∧ FrameEnd U o U' L rm.cells rm.slots)) (b : Addr) (argsL rest : List Value) (W : Nat) (has : (.ref b :: argsL : List Value).toArray = as) (hlen : ∀ sig, parseMethodDescriptor y.desc = some sig → argsL.length = sig.parameters.length) (hst : st = argsL.reverse ++ .ref b :: rest) (hW : (rest.map fun v => v.category).sum ≤ W) (hf : rm.frames + 1 ≤ R.frames) (hlo : W + (maxL + 11) + rm.locals ≤ R.locals) (hcl : cells + rm.cells ≤ R.cells) (hsl : slots + rm.slots ≤ R.slots) (hsz : Ls.size = c.maxLocals) (hd : decode c.code pc = .ok (.invokespecial i, 3)) (k : ∀ T' L v, Stand p l e R s m args below meth c T' (locs ++ L) (cells + rm.cells) (slots + rm.slots) → Q' v T'.heap L → Go p e below s Q rc rs (T'.setTop (mkF m (pc + 3) Ls (v.toList ++ rest)))) : Go p e below s Q rc rs (T.setTop (mkF m pc Ls st)) := by
  subst hst has
  obtain ⟨_, _, ⟨T', L', k', n'⟩, -, X', ⟨Lc, hQ, e1, e2, e3⟩, stp⟩ := X.specialBack hx (y := y) hy1 hown (mvT hZ w1) (mvT hZ w2) (mvT hZ w4) hy (backOf (W := W) hM hZ w4 w3 hf hlo) (g := mkF m pc Ls (argsL.reverse ++ .ref b :: rest)) rfl hsz (Steps.refl _) (a := b) (argsL := argsL) (rest := rest) hlen rfl (by show 2 * 0 + _ ≤ _; omega) hd (fun _ _ => ⟨rfl, eT, hcl, hsl⟩)
  dsimp only [Pt.U, Pt.locs, Pt.cells, Pt.slots] at X' e1 e2 e3 stp hQ
  subst e1 e2 e3
  exact (k _ _ _ X' hQ).by fun t k => stp.trans k
theorem g_callV (X : Stand p l e R s m args below meth c T locs cells slots) (hx : p.tables.exec = Jvm.exec) (hZ : Z.Warmed39 s.vm) {own C : String} {i : Nat} {y : MethodName} {bytes : ByteArray} {maxL : Nat} {ret : Option FieldType} {rm : Room} {as : Array Value} {Q' : Option Value → Heap → List Loc → Prop} (hown : s.vm.findClass own = some m.cls) (w1 : (Jvm.Cond.methodLink own i y).before a0 Z = true) (w2 : (Jvm.Cond.declares y).before a0 Z = true) (w5 : (Jvm.Cond.selects C y y).before a0 Z = true) (w6 : (Jvm.Cond.instanceMethod y).before a0 Z = true) (w3 : (Jvm.Cond.initialized y.cls).before a0 Z = true) (w4 : (Jvm.Cond.code y bytes maxL ret).before a0 Z = true) (hy : y.cls ≠ "java/lang/invoke/MethodHandle" ∧ y.cls ≠ "java/lang/invoke/VarHandle") (eT : T.heap = h) (b : Addr) (E : Exa Z h b C) (hM : MetFree l y (head1 [Jvm.Cond.code y bytes maxL ret] rm) (fun a U => a = as ∧ Z.Warmed39 U.vm ∧ U.heap = h) (fun _ _ _ _ _ => True) (fun _ U o U' => ∃ v L, o = .returned v ∧ Q' v U'.heap L ∧ FrameEnd U o U' L rm.cells rm.slots)) (argsL rest : List Value) (W : Nat) (has : (.ref b :: argsL : List Value).toArray = as) (hlen : ∀ sig, parseMethodDescriptor y.desc = some sig → argsL.length = sig.parameters.length) (hst : st = argsL.reverse ++ .ref b :: rest) (hW : (rest.map fun v => v.category).sum ≤ W) (hf : rm.frames + 1 ≤ R.frames) (hlo : W + (maxL + 11) + rm.locals ≤ R.locals) (hcl : cells + rm.cells ≤ R.cells) (hsl : slots + rm.slots ≤ R.slots) (hsz : Ls.size = c.maxLocals) (hd : decode c.code pc = .ok (.invokevirtual i, 3)) (k : ∀ T' L v, Stand p l e R s m args below meth c T' (locs ++ L) (cells + rm.cells) (slots + rm.slots) → Q' v T'.heap L → Go p e below s Q rc rs (T'.setTop (mkF m (pc + 3) Ls (v.toList ++ rest)))) : Go p e below s Q rc rs (T.setTop (mkF m pc Ls st)) := by
  subst hst has
  obtain ⟨cq, kq, qa, qb, qc⟩ := isOf hZ eT E
  obtain ⟨_, _, ⟨T', L', k', n'⟩, -, X', ⟨Lc, hQ, e1, e2, e3⟩, stp⟩ := X.virtualBack hx (y := y) (z := y) hown (mvT hZ w1) (mvT hZ w2) (notFace_of_selects (args := #[]) (mvT hZ w5)) (mvT hZ w5) (mvT hZ w6) hy (backOf (W := W) hM hZ w4 w3 hf hlo) qa qc (g := mkF m pc Ls (argsL.reverse ++ .ref b :: rest)) rfl hsz (Steps.refl _) (argsL := argsL) (rest := rest) hlen rfl (by show 2 * 0 + _ ≤ _; omega) hd (fun _ _ => ⟨rfl, eT, hcl, hsl⟩)
  dsimp only [Pt.U, Pt.locs, Pt.cells, Pt.slots] at X' e1 e2 e3 stp hQ
  subst e1 e2 e3
  exact (k _ _ _ X' hQ).by fun t k => stp.trans k
theorem g_callP (X : Stand p l e R s m args below meth c T locs cells slots) (hx : p.tables.exec = Jvm.exec) (hZ : Z.Warmed39 s.vm) {own C : String} {i : Nat} {y : MethodName} {bytes : ByteArray} {maxL : Nat} {ret : Option FieldType} {rm : Room} {as : Array Value} {Q' : Option Value → Heap → List Loc → Prop} (hown : s.vm.findClass own = some m.cls) (w1 : (Jvm.Cond.methodLink own i y).before a0 Z = true) (w2 : (Jvm.Cond.instanceMethod y).before a0 Z = true) (w5 : (Jvm.Cond.selects y.cls y y).before a0 Z = true) (w6 : (Jvm.Cond.privateMethod y).before a0 Z = true) (w3 : (Jvm.Cond.initialized y.cls).before a0 Z = true) (w4 : (Jvm.Cond.code y bytes maxL ret).before a0 Z = true) (hy : y.cls ≠ "java/lang/invoke/MethodHandle" ∧ y.cls ≠ "java/lang/invoke/VarHandle") (eT : T.heap = h) (b : Addr) (E : Exa Z h b C) (hM : MetFree l y (head1 [Jvm.Cond.code y bytes maxL ret] rm) (fun a U => a = as ∧ Z.Warmed39 U.vm ∧ U.heap = h) (fun _ _ _ _ _ => True) (fun _ U o U' => ∃ v L, o = .returned v ∧ Q' v U'.heap L ∧ FrameEnd U o U' L rm.cells rm.slots)) (argsL rest : List Value) (W : Nat) (has : (.ref b :: argsL : List Value).toArray = as) (hlen : ∀ sig, parseMethodDescriptor y.desc = some sig → argsL.length = sig.parameters.length) (hst : st = argsL.reverse ++ .ref b :: rest) (hW : (rest.map fun v => v.category).sum ≤ W) (hf : rm.frames + 1 ≤ R.frames) (hlo : W + (maxL + 11) + rm.locals ≤ R.locals) (hcl : cells + rm.cells ≤ R.cells) (hsl : slots + rm.slots ≤ R.slots) (hsz : Ls.size = c.maxLocals) (hd : decode c.code pc = .ok (.invokevirtual i, 3)) (k : ∀ T' L v, Stand p l e R s m args below meth c T' (locs ++ L) (cells + rm.cells) (slots + rm.slots) → Q' v T'.heap L → Go p e below s Q rc rs (T'.setTop (mkF m (pc + 3) Ls (v.toList ++ rest)))) : Go p e below s Q rc rs (T.setTop (mkF m pc Ls st)) := by
  subst hst has
  obtain ⟨cq, q, q'⟩ := E.cell
  obtain ⟨_, _, ⟨T', L', k', n'⟩, -, X', ⟨Lc, hQ, e1, e2, e3⟩, stp⟩ := X.privateBack hx (y := y) hown (mvT hZ w1) (mvT hZ w2) (mvT hZ w5) (Cond.privateMethod_at (mvP hZ w6 (args := #[]))) (mvT hZ w4) hy (backOf (W := W) hM hZ w4 w3 hf hlo) (g := mkF m pc Ls (argsL.reverse ++ .ref b :: rest)) rfl hsz (Steps.refl _) (a := b) (by rw [eT]; exact q) q' (argsL := argsL) (rest := rest) hlen rfl (by show 2 * 0 + _ ≤ _; omega) hd (fun _ _ => ⟨rfl, eT, hcl, hsl⟩)
  dsimp only [Pt.U, Pt.locs, Pt.cells, Pt.slots] at X' e1 e2 e3 stp hQ
  subst e1 e2 e3
  exact (k _ _ _ X' hQ).by fun t k => stp.trans k
theorem g_initO (X : Stand p l e R s m args below meth c T locs cells slots) (hx : p.tables.exec = Jvm.exec) (hZ : Z.Warmed39 s.vm) {own : String} {i : Nat} (hown : s.vm.findClass own = some m.cls) (w1 : (Jvm.Cond.methodLink own i Lib.objectInit).before a0 Z = true) (w2 : (Jvm.Cond.instanceMethod Lib.objectInit).before a0 Z = true) (w3 : (Jvm.Cond.code Lib.objectInit ⟨#[0xb1]⟩ 1 none).before a0 Z = true) (eT : T.heap = h) {b : Addr} (pc' : Nat) (hsz : Ls.size = c.maxLocals) (hd : decode c.code pc = .ok (.invokespecial i, 3)) (hf : 1 ≤ R.frames) (W : Nat) (hW : (st.map fun v => v.category).sum ≤ W) (hlo : W + 12 ≤ R.locals) (hp : pc + 3 = pc') (k : ∀ T', Stand p l e R s m args below meth c T' locs cells slots → T'.heap = h → Go p e below s Q rc rs (T'.setTop (mkF m pc' Ls st))) : Go p e below s Q rc rs (T.setTop (mkF m pc Ls (.ref b :: st))) := by
  subst hp
  obtain ⟨T', X', e', stp⟩ := initO X hx hZ hown w1 w2 w3 eT (g := mkF m pc Ls (.ref b :: st)) rfl hsz rfl hd hf (W := W) (by show 2 * 0 + _ ≤ _; omega) hlo
  exact (k _ X' e').by stp
theorem g_getF (X : Stand p l e R s m args below meth c T locs cells slots) (hx : p.tables.exec = Jvm.exec) (hZ : Z.Warmed39 s.vm) {own R0 O n d : String} {i : Nat} (hown : s.vm.findClass own = some m.cls) (w : (Jvm.Cond.fieldLink own i R0 n d).before a0 Z = true) (via : Via Z R0 O n d) (eT : T.heap = h) {b : Addr} {v : Value} (F : Fld Z h b O n d v) (pc' : Nat) (hd : decode c.code pc = .ok (.getfield i, 3)) (hp : pc + 3 = pc') (k : ∀ T', Stand p l e R s m args below meth c T' locs cells slots → T'.heap = h → Go p e below s Q rc rs (T'.setTop (mkF m pc' Ls (v :: st)))) : Go p e below s Q rc rs (T.setTop (mkF m pc Ls (.ref b :: st))) := by
  subst hp
  obtain ⟨T', X', e', stp⟩ := getF X hx hZ hown (host := "") (Or.inl w) via eT F (g := mkF m pc Ls (.ref b :: st)) rfl rfl hd
  exact (k _ X' e').by stp
theorem g_putF (X : Stand p l e R s m args below meth c T locs cells slots) (hx : p.tables.exec = Jvm.exec) (hZ : Z.Warmed39 s.vm) {own R0 O n d C : String} {i kk : Nat} {ty : FieldType} (hown : s.vm.findClass own = some m.cls) (w : (Jvm.Cond.fieldLink own i R0 n d).before a0 Z = true) (via : Via Z R0 O n d) (eT : T.heap = h) {b : Addr} {v old : Value} (F : Fld Z h b O n d old) (E : Exa Z h b C) (L : (Jvm.Cond.lays C O n d).before a0 Z = true ∨ ((Jvm.Cond.laysFinal C O n d).before a0 Z = true ∧ own = O ∧ meth.name = "<init>")) (wi : (Jvm.Cond.instantiable C kk).before a0 Z = true) (hty : parseFieldDescriptor d = some ty) (hn : narrow ty v = v) (hf : fits ty v = true) (pc' : Nat) (hd : decode c.code pc = .ok (.putfield i, 3)) (hp : pc + 3 = pc') (k : ∀ T' h', Stand p l e R s m args below meth c T' (locs ++ [⟨b, Jvm.RoadKit.slotOf Z O n d⟩]) cells slots → T'.heap = h' → Wr h h' b (Jvm.RoadKit.slotOf Z O n d) v → Go p e below s Q rc rs (T'.setTop (mkF m pc' Ls st))) : Go p e below s Q rc rs (T.setTop (mkF m pc Ls (v :: .ref b :: st))) := by
  subst hp
  obtain ⟨T', h', X', e', W', stp⟩ := putF X hx hZ hown (host := "") (Or.inl w) via eT F E L wi hty hn hf (g := mkF m pc Ls (v :: .ref b :: st)) rfl rfl hd
  exact (k _ _ X' e' W').by stp
theorem g_new (X : Stand p l e R s m args below meth c T locs cells slots) (hx : p.tables.exec = Jvm.exec) (hZ : Z.Warmed39 s.vm) {own C : String} {i n : Nat} (hown : s.vm.findClass own = some m.cls) (w : (Jvm.Cond.classLink own i C).before a0 Z = true) (wi : (Jvm.Cond.instantiable C n).before a0 Z = true) (wz : (Jvm.Cond.initialized C).before a0 Z = true) (eT : T.heap = h) (pc' : Nat) (hd : decode c.code pc = .ok (.new i, 3)) (hcl : cells + 1 ≤ R.cells) (hsl : slots + n ≤ R.slots) (hp : pc + 3 = pc') (k : ∀ T' h' b, b = h.size → Stand p l e R s m args below meth c T' locs (cells + 1) (slots + n) → T'.heap = h' → Ext h h' → Exa Z h' b C → (∀ {O nm d : String} {ty : FieldType}, Laid Z a0 C O nm d → parseFieldDescriptor d = some ty → Fld Z h' b O nm d (defaultValue ty)) → Go p e below s Q rc rs (T'.setTop (mkF m pc' Ls (.ref b :: st)))) : Go p e below s Q rc rs (T.setTop (mkF m pc Ls st)) := by
  subst hp
  obtain ⟨T', h', X', e', E', A', D', -, stp⟩ := newO X hx hZ hown w wi wz eT (g := mkF m pc Ls st) rfl hd hcl hsl
  exact (k _ _ _ rfl X' e' E' A' D').by stp
/-- an array of n places whose j-th holds f j -/
def AV (Z : State) (h : Heap) (a : Addr) (ty : FieldType) (n : Nat) (f : Nat → Value) : Prop := ∃ c : Cell, Arr Z h a c ty ∧ c.slots.size = n ∧ n < 2 ^ 31 ∧ ∀ j, j < n → c.slots[j]? = some (f j)
theorem AV.ext {h' : Heap} {a : Addr} {ty : FieldType} {n : Nat} {f : Nat → Value} (F : AV Z h a ty n f) (E : Ext h h') : AV Z h' a ty n f := by obtain ⟨c, A, r⟩ := F; exact ⟨c, A.ext E, r⟩
theorem AV.other {h' : Heap} {a b : Addr} {ty : FieldType} {n sl : Nat} {f : Nat → Value} {v : Value} (F : AV Z h a ty n f) (W : Wr h h' b sl v) (q : a ≠ b) : AV Z h' a ty n f := by obtain ⟨c, A, r⟩ := F; exact ⟨c, A.other W q, r⟩
theorem AV.keep {h' : Heap} {a : Addr} {ws : List Addr} {ty : FieldType} {n : Nat} {f : Nat → Value} (F : AV Z h a ty n f) (K : Keep h h' ws) (q : a ∉ ws) : AV Z h' a ty n f := by obtain ⟨c, A, r⟩ := F; exact ⟨c, ⟨K.2.1 a c A.1 q, A.2⟩, r⟩
theorem AV.lt {a : Addr} {ty : FieldType} {n : Nat} {f : Nat → Value} (F : AV Z h a ty n f) : a < h.size := by obtain ⟨c, A, -⟩ := F; exact A.lt
theorem AV.small {a : Addr} {ty : FieldType} {n : Nat} {f : Nat → Value} (F : AV Z h a ty n f) : n < 2 ^ 31 := by obtain ⟨c, -, -, q, -⟩ := F; exact q
theorem AV.congr {a : Addr} {ty : FieldType} {n : Nat} {f g : Nat → Value} (F : AV Z h a ty n f) (q : ∀ j, j < n → f j = g j) : AV Z h a ty n g := by obtain ⟨c, A, r1, r2, r3⟩ := F; exact ⟨c, A, r1, r2, fun j hj => by rw [r3 j hj, q j hj]⟩
theorem own_idx {j : Int32} {i : Nat} (q : j.toInt = i) : ¬ j < 0 ∧ j.toNatClampNeg = i := by
  refine ⟨?_, ?_⟩
  · rw [Int32.lt_iff_toInt_lt, q]; simp
  · show j.toInt.toNat = i; omega
theorem own_in {j : Int32} {i : Nat} {cl : Cell} (q : j.toInt = i) (hi : i < cl.slots.size) : ¬ (j < 0 ∨ cl.slots.size ≤ j.toNatClampNeg) := by
  obtain ⟨q1, q2⟩ := own_idx q
  rintro (z | z)
  · exact q1 z
  · omega
def upd {α : Type} (g : Nat → α) (j : Nat) (x : α) : Nat → α := fun q => if q = j then x else g q
def AI (Z : State) (h : Heap) (a : Addr) (n : Nat) (g : Nat → Int32) : Prop := AV Z h a .int n (fun j => .int (g j))
def AJ (Z : State) (h : Heap) (a : Addr) (n : Nat) (g : Nat → Int64) : Prop := AV Z h a .long n (fun j => .long (g j))
def AB (Z : State) (h : Heap) (a : Addr) (n : Nat) (g : Nat → Int32) : Prop := AV Z h a .byte n (fun j => .int (g j))
theorem nm0 {a : Addr} : a ∉ ([] : List Addr) := nofun
theorem nm1 {a b : Addr} {ws : List Addr} (q : a ≠ b) (r : a ∉ ws) : a ∉ b :: ws := fun z => by
  rcases List.mem_cons.mp z with z | z
  · exact q z
  · exact r z
theorem AI.ext {h' : Heap} {a : Addr} {n : Nat} {g : Nat → Int32} (F : AI Z h a n g) (E : Ext h h') : AI Z h' a n g := AV.ext F E
theorem AI.other {h' : Heap} {a b : Addr} {n sl : Nat} {g : Nat → Int32} {v : Value} (F : AI Z h a n g) (W : Wr h h' b sl v) (q : a ≠ b) : AI Z h' a n g := AV.other F W q
theorem AI.keep {h' : Heap} {a : Addr} {ws : List Addr} {n : Nat} {g : Nat → Int32} (F : AI Z h a n g) (K : Keep h h' ws) (q : a ∉ ws) : AI Z h' a n g := AV.keep F K q
theorem AI.lt {a : Addr} {n : Nat} {g : Nat → Int32} (F : AI Z h a n g) : a < h.size := AV.lt F
theorem AI.small {a : Addr} {n : Nat} {g : Nat → Int32} (F : AI Z h a n g) : n < 2 ^ 31 := AV.small F
theorem AI.congr {a : Addr} {n : Nat} {g g' : Nat → Int32} (F : AI Z h a n g) (q : ∀ j, j < n → g j = g' j) : AI Z h a n g' := AV.congr F fun j hj => by rw [q j hj]
theorem AJ.ext {h' : Heap} {a : Addr} {n : Nat} {g : Nat → Int64} (F : AJ Z h a n g) (E : Ext h h') : AJ Z h' a n g := AV.ext F E
theorem AJ.other {h' : Heap} {a b : Addr} {n sl : Nat} {g : Nat → Int64} {v : Value} (F : AJ Z h a n g) (W : Wr h h' b sl v) (q : a ≠ b) : AJ Z h' a n g := AV.other F W q
theorem AJ.keep {h' : Heap} {a : Addr} {ws : List Addr} {n : Nat} {g : Nat → Int64} (F : AJ Z h a n g) (K : Keep h h' ws) (q : a ∉ ws) : AJ Z h' a n g := AV.keep F K q
theorem AJ.lt {a : Addr} {n : Nat} {g : Nat → Int64} (F : AJ Z h a n g) : a < h.size := AV.lt F
theorem AJ.small {a : Addr} {n : Nat} {g : Nat → Int64} (F : AJ Z h a n g) : n < 2 ^ 31 := AV.small F
theorem AJ.congr {a : Addr} {n : Nat} {g g' : Nat → Int64} (F : AJ Z h a n g) (q : ∀ j, j < n → g j = g' j) : AJ Z h a n g' := AV.congr F fun j hj => by rw [q j hj]
theorem AB.ext {h' : Heap} {a : Addr} {n : Nat} {g : Nat → Int32} (F : AB Z h a n g) (E : Ext h h') : AB Z h' a n g := AV.ext F E
theorem AB.other {h' : Heap} {a b : Addr} {n sl : Nat} {g : Nat → Int32} {v : Value} (F : AB Z h a n g) (W : Wr h h' b sl v) (q : a ≠ b) : AB Z h' a n g := AV.other F W q
theorem AB.keep {h' : Heap} {a : Addr} {ws : List Addr} {n : Nat} {g : Nat → Int32} (F : AB Z h a n g) (K : Keep h h' ws) (q : a ∉ ws) : AB Z h' a n g := AV.keep F K q
theorem AB.lt {a : Addr} {n : Nat} {g : Nat → Int32} (F : AB Z h a n g) : a < h.size := AV.lt F
theorem AB.small {a : Addr} {n : Nat} {g : Nat → Int32} (F : AB Z h a n g) : n < 2 ^ 31 := AV.small F
theorem AB.congr {a : Addr} {n : Nat} {g g' : Nat → Int32} (F : AB Z h a n g) (q : ∀ j, j < n → g j = g' j) : AB Z h a n g' := AV.congr F fun j hj => by rw [q j hj]
theorem g_iaload (X : Stand p l e R s m args below meth c T locs cells slots) (hx : p.tables.exec = Jvm.exec) (hZ : Z.Warmed39 s.vm) (eT : T.heap = h) {b : Addr} {n : Nat} {g : Nat → Int32} (A : AI Z h b n g) {j : Int32} (jn : Nat) (hj : j.toInt = jn) (hlt : jn < n) (pc' : Nat) (hd : decode c.code pc = .ok (.iaload, 1)) (hp : pc + 1 = pc') (k : Go p e below s Q rc rs (T.setTop (mkF m pc' Ls (.int (g jn) :: st)))) : Go p e below s Q rc rs (T.setTop (mkF m pc Ls (.int j :: .ref b :: st))) := by
  subst hp
  obtain ⟨cl, A1, A2, A3, A4⟩ := A
  exact k.by fun t k => X.iaload hx (j := j) (by rw [eT]; exact A1.1) (State.isArrayOf_alike hZ.alike A1.2.1) A1.2.2 (own_in hj (by omega)) (by rw [(own_idx hj).2]; exact A4 _ hlt) (g := mkF m pc Ls (.int j :: .ref b :: st)) rfl rfl hd t k
theorem g_laload (X : Stand p l e R s m args below meth c T locs cells slots) (hx : p.tables.exec = Jvm.exec) (hZ : Z.Warmed39 s.vm) (eT : T.heap = h) {b : Addr} {n : Nat} {g : Nat → Int64} (A : AJ Z h b n g) {j : Int32} (jn : Nat) (hj : j.toInt = jn) (hlt : jn < n) (pc' : Nat) (hd : decode c.code pc = .ok (.laload, 1)) (hp : pc + 1 = pc') (k : Go p e below s Q rc rs (T.setTop (mkF m pc' Ls (.long (g jn) :: st)))) : Go p e below s Q rc rs (T.setTop (mkF m pc Ls (.int j :: .ref b :: st))) := by
  subst hp
  obtain ⟨cl, A1, A2, A3, A4⟩ := A
  exact k.by fun t k => X.laload hx (j := j) (by rw [eT]; exact A1.1) (State.isArrayOf_alike hZ.alike A1.2.1) A1.2.2 (own_in hj (by omega)) (by rw [(own_idx hj).2]; exact A4 _ hlt) (g := mkF m pc Ls (.int j :: .ref b :: st)) rfl rfl hd t k
theorem g_baload (X : Stand p l e R s m args below meth c T locs cells slots) (hx : p.tables.exec = Jvm.exec) (hZ : Z.Warmed39 s.vm) (eT : T.heap = h) {b : Addr} {n : Nat} {g : Nat → Int32} (A : AB Z h b n g) {j : Int32} (jn : Nat) (hj : j.toInt = jn) (hlt : jn < n) (pc' : Nat) (hd : decode c.code pc = .ok (.baload, 1)) (hp : pc + 1 = pc') (k : Go p e below s Q rc rs (T.setTop (mkF m pc' Ls (.int (g jn) :: st)))) : Go p e below s Q rc rs (T.setTop (mkF m pc Ls (.int j :: .ref b :: st))) := by
  subst hp
  obtain ⟨cl, A1, A2, A3, A4⟩ := A
  exact k.by fun t k => X.baloadBytes hx (j := j) (by rw [eT]; exact A1.1) (State.isArrayOf_alike hZ.alike A1.2.1) A1.2.2 (own_in hj (by omega)) (by rw [(own_idx hj).2]; exact A4 _ hlt) (g := mkF m pc Ls (.int j :: .ref b :: st)) rfl rfl hd t k
theorem g_iastore (X : Stand p l e R s m args below meth c T locs cells slots) (hx : p.tables.exec = Jvm.exec) (hZ : Z.Warmed39 s.vm) (eT : T.heap = h) {b : Addr} {n : Nat} {g : Nat → Int32} (A : AI Z h b n g) {j : Int32} {x : Int32} (jn : Nat) (hj : j.toInt = jn) (hlt : jn < n) (pc' : Nat) (hd : decode c.code pc = .ok (.iastore, 1)) (hp : pc + 1 = pc') (k : ∀ T' h', Stand p l e R s m args below meth c T' (locs ++ [⟨b, jn⟩]) cells slots → T'.heap = h' → Wr h h' b jn (.int x) → AI Z h' b n (upd g jn x) → Go p e below s Q rc rs (T'.setTop (mkF m pc' Ls st))) : Go p e below s Q rc rs (T.setTop (mkF m pc Ls (.int x :: .int j :: .ref b :: st))) := by
  subst hp
  obtain ⟨cl, A1, A2, A3, A4⟩ := A
  obtain ⟨T', h', X', e', W', stp⟩ := stI X hx hZ eT A1 (j := j) (x := x) (own_in hj (by omega)) (g := mkF m pc Ls (.int x :: .int j :: .ref b :: st)) rfl rfl hd
  rw [(own_idx hj).2] at X' W'
  refine (k _ _ X' e' W' ⟨_, A1.same W', by rw [sz_set]; exact A2, A3, fun q hq => ?_⟩).by stp
  by_cases z : q = jn
  · subst z; simp [Cell.setSlot, A2, hq, upd]; try rfl
  · simp only [upd, z, if_false]; rw [← A4 q hq]; simp only [Cell.setSlot]; rw [Array.getElem?_setIfInBounds_ne (Ne.symm z)]
theorem g_lastore (X : Stand p l e R s m args below meth c T locs cells slots) (hx : p.tables.exec = Jvm.exec) (hZ : Z.Warmed39 s.vm) (eT : T.heap = h) {b : Addr} {n : Nat} {g : Nat → Int64} (A : AJ Z h b n g) {j : Int32} {x : Int64} (jn : Nat) (hj : j.toInt = jn) (hlt : jn < n) (pc' : Nat) (hd : decode c.code pc = .ok (.lastore, 1)) (hp : pc + 1 = pc') (k : ∀ T' h', Stand p l e R s m args below meth c T' (locs ++ [⟨b, jn⟩]) cells slots → T'.heap = h' → Wr h h' b jn (.long x) → AJ Z h' b n (upd g jn x) → Go p e below s Q rc rs (T'.setTop (mkF m pc' Ls st))) : Go p e below s Q rc rs (T.setTop (mkF m pc Ls (.long x :: .int j :: .ref b :: st))) := by
  subst hp
  obtain ⟨cl, A1, A2, A3, A4⟩ := A
  obtain ⟨T', h', X', e', W', stp⟩ := stJ X hx hZ eT A1 (j := j) (x := x) (own_in hj (by omega)) (g := mkF m pc Ls (.long x :: .int j :: .ref b :: st)) rfl rfl hd
  rw [(own_idx hj).2] at X' W'
  refine (k _ _ X' e' W' ⟨_, A1.same W', by rw [sz_set]; exact A2, A3, fun q hq => ?_⟩).by stp
  by_cases z : q = jn
  · subst z; simp [Cell.setSlot, A2, hq, upd]; try rfl
  · simp only [upd, z, if_false]; rw [← A4 q hq]; simp only [Cell.setSlot]; rw [Array.getElem?_setIfInBounds_ne (Ne.symm z)]
theorem g_bastore (X : Stand p l e R s m args below meth c T locs cells slots) (hx : p.tables.exec = Jvm.exec) (hZ : Z.Warmed39 s.vm) (eT : T.heap = h) {b : Addr} {n : Nat} {g : Nat → Int32} (A : AB Z h b n g) {j : Int32} {x : Int32} (jn : Nat) (hj : j.toInt = jn) (hlt : jn < n) (pc' : Nat) (hd : decode c.code pc = .ok (.bastore, 1)) (hp : pc + 1 = pc') (k : ∀ T' h', Stand p l e R s m args below meth c T' (locs ++ [⟨b, jn⟩]) cells slots → T'.heap = h' → Wr h h' b jn (.int (nar .byte x)) → AB Z h' b n (upd g jn (i2bI x)) → Go p e below s Q rc rs (T'.setTop (mkF m pc' Ls st))) : Go p e below s Q rc rs (T.setTop (mkF m pc Ls (.int x :: .int j :: .ref b :: st))) := by
  subst hp
  obtain ⟨cl, A1, A2, A3, A4⟩ := A
  obtain ⟨T', h', X', e', W', stp⟩ := stB X hx hZ eT A1 (j := j) (x := x) (own_in hj (by omega)) (g := mkF m pc Ls (.int x :: .int j :: .ref b :: st)) rfl rfl hd
  rw [(own_idx hj).2] at X' W'
  refine (k _ _ X' e' W' ⟨_, A1.same W', by rw [sz_set]; exact A2, A3, fun q hq => ?_⟩).by stp
  by_cases z : q = jn
  · subst z; simp [Cell.setSlot, A2, hq, upd]; try rfl
  · simp only [upd, z, if_false]; rw [← A4 q hq]; simp only [Cell.setSlot]; rw [Array.getElem?_setIfInBounds_ne (Ne.symm z)]
theorem g_arraylengthI (X : Stand p l e R s m args below meth c T locs cells slots) (hx : p.tables.exec = Jvm.exec) (hZ : Z.Warmed39 s.vm) (eT : T.heap = h) {b : Addr} {n : Nat} {g : Nat → Int32} (A : AI Z h b n g) (v : Int32) (hv : n.toInt32 = v) (pc' : Nat) (hd : decode c.code pc = .ok (.arraylength, 1)) (hp : pc + 1 = pc') (k : Go p e below s Q rc rs (T.setTop (mkF m pc' Ls (.int v :: st)))) : Go p e below s Q rc rs (T.setTop (mkF m pc Ls (.ref b :: st))) := by
  subst hp hv
  obtain ⟨cl, A1, A2, A3, A4⟩ := A
  subst A2
  exact k.by fun t k => X.arraylength hx (by rw [eT]; exact A1.1) (State.isArrayOf_alike hZ.alike A1.2.1) (g := mkF m pc Ls (.ref b :: st)) rfl rfl hd t k
theorem g_arraylengthJ (X : Stand p l e R s m args below meth c T locs cells slots) (hx : p.tables.exec = Jvm.exec) (hZ : Z.Warmed39 s.vm) (eT : T.heap = h) {b : Addr} {n : Nat} {g : Nat → Int64} (A : AJ Z h b n g) (v : Int32) (hv : n.toInt32 = v) (pc' : Nat) (hd : decode c.code pc = .ok (.arraylength, 1)) (hp : pc + 1 = pc') (k : Go p e below s Q rc rs (T.setTop (mkF m pc' Ls (.int v :: st)))) : Go p e below s Q rc rs (T.setTop (mkF m pc Ls (.ref b :: st))) := by
  subst hp hv
  obtain ⟨cl, A1, A2, A3, A4⟩ := A
  subst A2
  exact k.by fun t k => X.arraylength hx (by rw [eT]; exact A1.1) (State.isArrayOf_alike hZ.alike A1.2.1) (g := mkF m pc Ls (.ref b :: st)) rfl rfl hd t k
theorem g_arraylengthB (X : Stand p l e R s m args below meth c T locs cells slots) (hx : p.tables.exec = Jvm.exec) (hZ : Z.Warmed39 s.vm) (eT : T.heap = h) {b : Addr} {n : Nat} {g : Nat → Int32} (A : AB Z h b n g) (v : Int32) (hv : n.toInt32 = v) (pc' : Nat) (hd : decode c.code pc = .ok (.arraylength, 1)) (hp : pc + 1 = pc') (k : Go p e below s Q rc rs (T.setTop (mkF m pc' Ls (.int v :: st)))) : Go p e below s Q rc rs (T.setTop (mkF m pc Ls (.ref b :: st))) := by
  subst hp hv
  obtain ⟨cl, A1, A2, A3, A4⟩ := A
  subst A2
  exact k.by fun t k => X.arraylength hx (by rw [eT]; exact A1.1) (State.isArrayOf_alike hZ.alike A1.2.1) (g := mkF m pc Ls (.ref b :: st)) rfl rfl hd t k
theorem g_newarr (X : Stand p l e R s m args below meth c T locs cells slots) (hx : p.tables.exec = Jvm.exec) (hZ : Z.Warmed39 s.vm) {aty : ArrayType} (w : (Jvm.Cond.arrayClass (newarray.typeOf aty)).before a0 Z = true) (eT : T.heap = h) {n : Int32} (N cap : Nat) (hn : n.toInt = N) (hcap : N ≤ cap) (hb : cap * 8 ≤ 536870912) (pc' : Nat) (hd : decode c.code pc = .ok (.newarray aty, 2)) (hcl : cells + 1 ≤ R.cells) (hsl : slots + cap ≤ R.slots) (hp : pc + 2 = pc') (k : ∀ T' h' b, b = h.size → Stand p l e R s m args below meth c T' locs (cells + 1) (slots + cap) → T'.heap = h' → Ext h h' → AV Z h' b (newarray.typeOf aty) N (fun _ => defaultValue (newarray.typeOf aty)) → Go p e below s Q rc rs (T'.setTop (mkF m pc' Ls (.ref b :: st)))) : Go p e below s Q rc rs (T.setTop (mkF m pc Ls (.int n :: st))) := by
  subst hp
  obtain ⟨q1, q2⟩ := own_idx hn
  obtain ⟨T', h', kA, X', e', E', A', stp⟩ := newP X hx hZ w eT (g := mkF m pc Ls (.int n :: st)) rfl hd rfl q1 (cap := cap) (by rw [q2]; exact hcap) hb hcl hsl
  have hN : N < 2 ^ 31 := by have := n.toInt_lt; omega
  refine (k _ _ _ rfl X' e' E' ⟨_, A', by rw [sz_new, q2], hN, fun j hj => ?_⟩).by stp
  simp [newA, q2, hj]
theorem g_newarrayI (X : Stand p l e R s m args below meth c T locs cells slots) (hx : p.tables.exec = Jvm.exec) (hZ : Z.Warmed39 s.vm) (w : (Jvm.Cond.arrayClass .int).before a0 Z = true) (eT : T.heap = h) {n : Int32} (N cap : Nat) (hn : n.toInt = N) (hcap : N ≤ cap) (hb : cap * 8 ≤ 536870912) (pc' : Nat) (hd : decode c.code pc = .ok (.newarray .int, 2)) (hcl : cells + 1 ≤ R.cells) (hsl : slots + cap ≤ R.slots) (hp : pc + 2 = pc') (k : ∀ T' h' b, b = h.size → Stand p l e R s m args below meth c T' locs (cells + 1) (slots + cap) → T'.heap = h' → Ext h h' → AI Z h' b N (fun _ => (0 : Int32)) → Go p e below s Q rc rs (T'.setTop (mkF m pc' Ls (.ref b :: st)))) : Go p e below s Q rc rs (T.setTop (mkF m pc Ls (.int n :: st))) :=
  g_newarr X hx hZ (aty := .int) w eT N cap hn hcap hb pc' hd hcl hsl hp fun T' h' b q1 q2 q3 q4 q5 => k T' h' b q1 q2 q3 q4 q5
theorem g_newarrayJ (X : Stand p l e R s m args below meth c T locs cells slots) (hx : p.tables.exec = Jvm.exec) (hZ : Z.Warmed39 s.vm) (w : (Jvm.Cond.arrayClass .long).before a0 Z = true) (eT : T.heap = h) {n : Int32} (N cap : Nat) (hn : n.toInt = N) (hcap : N ≤ cap) (hb : cap * 8 ≤ 536870912) (pc' : Nat) (hd : decode c.code pc = .ok (.newarray .long, 2)) (hcl : cells + 1 ≤ R.cells) (hsl : slots + cap ≤ R.slots) (hp : pc + 2 = pc') (k : ∀ T' h' b, b = h.size → Stand p l e R s m args below meth c T' locs (cells + 1) (slots + cap) → T'.heap = h' → Ext h h' → AJ Z h' b N (fun _ => (0 : Int64)) → Go p e below s Q rc rs (T'.setTop (mkF m pc' Ls (.ref b :: st)))) : Go p e below s Q rc rs (T.setTop (mkF m pc Ls (.int n :: st))) :=
  g_newarr X hx hZ (aty := .long) w eT N cap hn hcap hb pc' hd hcl hsl hp fun T' h' b q1 q2 q3 q4 q5 => k T' h' b q1 q2 q3 q4 q5
theorem g_newarrayB (X : Stand p l e R s m args below meth c T locs cells slots) (hx : p.tables.exec = Jvm.exec) (hZ : Z.Warmed39 s.vm) (w : (Jvm.Cond.arrayClass .byte).before a0 Z = true) (eT : T.heap = h) {n : Int32} (N cap : Nat) (hn : n.toInt = N) (hcap : N ≤ cap) (hb : cap * 8 ≤ 536870912) (pc' : Nat) (hd : decode c.code pc = .ok (.newarray .byte, 2)) (hcl : cells + 1 ≤ R.cells) (hsl : slots + cap ≤ R.slots) (hp : pc + 2 = pc') (k : ∀ T' h' b, b = h.size → Stand p l e R s m args below meth c T' locs (cells + 1) (slots + cap) → T'.heap = h' → Ext h h' → AB Z h' b N (fun _ => (0 : Int32)) → Go p e below s Q rc rs (T'.setTop (mkF m pc' Ls (.ref b :: st)))) : Go p e below s Q rc rs (T.setTop (mkF m pc Ls (.int n :: st))) :=
  g_newarr X hx hZ (aty := .byte) w eT N cap hn hcap hb pc' hd hcl hsl hp fun T' h' b q1 q2 q3 q4 q5 => k T' h' b q1 q2 q3 q4 q5
end OwnKit
theorem own_add {x y : Int32} {i j : Nat} (h : x.toInt = i) (hy : y.toInt = j) (hb : i + j < 2 ^ 31) : (x + y).toInt = ((i + j : Nat) : Int) := by
  rw [Int32.toInt_add, h, hy]
  exact Int.bmod_eq_of_le (by omega) (by omega)
theorem d2_0 : decode method_3_code 0 = .ok (.iload_n 0, 1) := by decide +kernel
theorem d2_1 : decode method_3_code 1 = .ok (.sipush 128, 3) := by decide +kernel
theorem d2_4 : decode method_3_code 4 = .ok (.if_icmp .lt 14, 3) := by decide +kernel
theorem d2_7 : decode method_3_code 7 = .ok (.iload_n 0, 1) := by decide +kernel
theorem d2_8 : decode method_3_code 8 = .ok (.sipush 191, 3) := by decide +kernel
theorem d2_11 : decode method_3_code 11 = .ok (.if_icmp .gt 7, 3) := by decide +kernel
theorem d2_14 : decode method_3_code 14 = .ok (.iconst 1, 1) := by decide +kernel
theorem d2_15 : decode method_3_code 15 = .ok (.goto 4, 3) := by decide +kernel
theorem d2_18 : decode method_3_code 18 = .ok (.iconst 0, 1) := by decide +kernel
theorem d2_19 : decode method_3_code 19 = .ok (.ireturn, 1) := by decide +kernel
theorem pn_2 : plainName "com/example/strict_xmlns/strictxmlns/Utf8DecodeSequencePinLaw" = true := by first | (simp [plainName, overriddenIn]; done) | decide +kernel
theorem ef_2 (m : MethodId) (x0 : Int32) : entryFrame m #[(.int x0)] 1 = mkF m 0 #[.val (.int x0)] [] := by first | (simp [entryFrame, mkF, argsToLocals, Value.category]; done) | rfl
def f2 (x0 : Int32) : Int32 := if x0 < (128 : Int32) then (0 : Int32) else if (191 : Int32) < x0 then (0 : Int32) else (1 : Int32)
def Q2 (x0 : Int32) (h0 : Heap) (v : Option Value) (h : Heap) (L : List Loc) : Prop := v = some (.int (f2 x0)) ∧ L = [] ∧ h = h0
set_option maxRecDepth 65536 in
set_option maxHeartbeats 40000000 in
theorem rm2 (l : Launch) (Z : State) (a0 : Array Value) (hw : ∀ d ∈ tables_1, d.before a0 Z = true) (ws : List Jvm.Cond) (x0 : Int32) (h0 : Heap) :
    MetFree l (⟨"com/example/strict_xmlns/strictxmlns/Utf8DecodeSequencePinLaw", "cont", "(I)Z"⟩ : MethodName) (head1 (Jvm.Cond.code (⟨"com/example/strict_xmlns/strictxmlns/Utf8DecodeSequencePinLaw", "cont", "(I)Z"⟩ : MethodName) method_3_code 1 (some .boolean) :: ws) ({ frames := 0, cells := 0, slots := 0, locals := 0 } : Room)) (fun a U => a = #[(.int x0)] ∧ Z.Warmed39 U.vm ∧ U.heap = h0) (fun _ _ _ _ _ => True) (fun _ U o U' => ∃ v L, o = .returned v ∧ Q2 x0 h0 v U'.heap L ∧ FrameEnd U o U' L ({ frames := 0, cells := 0, slots := 0, locals := 0 } : Room).cells ({ frames := 0, cells := 0, slots := 0, locals := 0 } : Room).slots) := by
  refine g_body (plainFor_of_name pn_2) ?_
  intro p e s m below meth c T0 X0 hx hby hml hret hlk hown hnm hZ e0
  rw [ef_2]
  show Go p e below s _ _ _ (T0.setTop (mkF m 0 #[.val (.int x0)] []))
  refine g_iloadN X0 hx 1 (hb hby d2_0) rfl rfl ?_
  show Go p e below s _ _ _ (T0.setTop (mkF m 1 #[.val (.int x0)] [(.int x0)]))
  refine g_sipush X0 hx (128 : Int32) 4 (hb hby d2_1) rfl rfl ?_
  show Go p e below s _ _ _ (T0.setTop (mkF m 4 #[.val (.int x0)] [(.int (128 : Int32)), (.int x0)]))
  refine g_icmp_lt X0 hx 18 7 (hb hby d2_4) (by decide) rfl rfl (fun h1 => ?_) (fun h1 => ?_)
  · show Go p e below s _ _ _ (T0.setTop (mkF m 18 #[.val (.int x0)] []))
    refine g_iconst X0 hx (0 : Int32) 19 (hb hby d2_18) rfl rfl ?_
    show Go p e below s _ _ _ (T0.setTop (mkF m 19 #[.val (.int x0)] [(.int (0 : Int32))]))
    exact g_retN X0 hx hret (by simp) hlk (hb hby d2_19) (by decide) (by decide) ⟨congrArg (fun z => some (Value.int z)) (show (0 : Int32) = (f2 x0) from by rw [f2, if_pos h1]), rfl, e0⟩
  · show Go p e below s _ _ _ (T0.setTop (mkF m 7 #[.val (.int x0)] []))
    refine g_iloadN X0 hx 8 (hb hby d2_7) rfl rfl ?_
    show Go p e below s _ _ _ (T0.setTop (mkF m 8 #[.val (.int x0)] [(.int x0)]))
    refine g_sipush X0 hx (191 : Int32) 11 (hb hby d2_8) rfl rfl ?_
    show Go p e below s _ _ _ (T0.setTop (mkF m 11 #[.val (.int x0)] [(.int (191 : Int32)), (.int x0)]))
    refine g_icmp_gt X0 hx 18 14 (hb hby d2_11) (by decide) rfl rfl (fun h2 => ?_) (fun h2 => ?_)
    · show Go p e below s _ _ _ (T0.setTop (mkF m 18 #[.val (.int x0)] []))
      refine g_iconst X0 hx (0 : Int32) 19 (hb hby d2_18) rfl rfl ?_
      show Go p e below s _ _ _ (T0.setTop (mkF m 19 #[.val (.int x0)] [(.int (0 : Int32))]))
      exact g_retN X0 hx hret (by simp) hlk (hb hby d2_19) (by decide) (by decide) ⟨congrArg (fun z => some (Value.int z)) (show (0 : Int32) = (f2 x0) from by rw [f2, if_neg h1, if_pos h2]), rfl, e0⟩
    · show Go p e below s _ _ _ (T0.setTop (mkF m 14 #[.val (.int x0)] []))
      refine g_iconst X0 hx (1 : Int32) 15 (hb hby d2_14) rfl rfl ?_
      show Go p e below s _ _ _ (T0.setTop (mkF m 15 #[.val (.int x0)] [(.int (1 : Int32))]))
      refine g_goto X0 hx 19 (hb hby d2_15) (by decide) rfl ?_
      show Go p e below s _ _ _ (T0.setTop (mkF m 19 #[.val (.int x0)] [(.int (1 : Int32))]))
      exact g_retN X0 hx hret (by simp) hlk (hb hby d2_19) (by decide) (by decide) ⟨congrArg (fun z => some (Value.int z)) (show (1 : Int32) = (f2 x0) from by rw [f2, if_neg h1, if_neg h2]), rfl, e0⟩
theorem pd__28I_29Z : parseMethodDescriptor "(I)Z" = some ⟨[.int], some .boolean⟩ := by decide +kernel
theorem d1_0 : decode method_4_code 0 = .ok (.iload_n 0, 1) := by decide +kernel
theorem d1_1 : decode method_4_code 1 = .ok (.iconst 2, 1) := by decide +kernel
theorem d1_2 : decode method_4_code 2 = .ok (.if_icmp .ne 50, 3) := by decide +kernel
theorem d1_5 : decode method_4_code 5 = .ok (.iload_n 2, 1) := by decide +kernel
theorem d1_6 : decode method_4_code 6 = .ok (.invokestatic 19, 3) := by decide +kernel
theorem d1_9 : decode method_4_code 9 = .ok (.ifCond .ne 10, 3) := by decide +kernel
theorem d1_12 : decode method_4_code 12 = .ok (.bipush (-2), 2) := by decide +kernel
theorem d1_14 : decode method_4_code 14 = .ok (.istore 5, 2) := by decide +kernel
theorem d1_16 : decode method_4_code 16 = .ok (.goto 198, 3) := by decide +kernel
theorem d1_19 : decode method_4_code 19 = .ok (.iload_n 1, 1) := by decide +kernel
theorem d1_20 : decode method_4_code 20 = .ok (.sipush 194, 3) := by decide +kernel
theorem d1_23 : decode method_4_code 23 = .ok (.if_icmp .ge 10, 3) := by decide +kernel
theorem d1_26 : decode method_4_code 26 = .ok (.bipush (-2), 2) := by decide +kernel
theorem d1_28 : decode method_4_code 28 = .ok (.istore 5, 2) := by decide +kernel
theorem d1_30 : decode method_4_code 30 = .ok (.goto 184, 3) := by decide +kernel
theorem d1_33 : decode method_4_code 33 = .ok (.iload_n 1, 1) := by decide +kernel
theorem d1_34 : decode method_4_code 34 = .ok (.sipush 192, 3) := by decide +kernel
theorem d1_37 : decode method_4_code 37 = .ok (.isub, 1) := by decide +kernel
theorem d1_38 : decode method_4_code 38 = .ok (.bipush 64, 2) := by decide +kernel
theorem d1_40 : decode method_4_code 40 = .ok (.imul, 1) := by decide +kernel
theorem d1_41 : decode method_4_code 41 = .ok (.iload_n 2, 1) := by decide +kernel
theorem d1_42 : decode method_4_code 42 = .ok (.sipush 128, 3) := by decide +kernel
theorem d1_45 : decode method_4_code 45 = .ok (.isub, 1) := by decide +kernel
theorem d1_46 : decode method_4_code 46 = .ok (.iadd, 1) := by decide +kernel
theorem d1_47 : decode method_4_code 47 = .ok (.istore 5, 2) := by decide +kernel
theorem d1_49 : decode method_4_code 49 = .ok (.goto 165, 3) := by decide +kernel
theorem d1_52 : decode method_4_code 52 = .ok (.iload_n 0, 1) := by decide +kernel
theorem d1_53 : decode method_4_code 53 = .ok (.iconst 3, 1) := by decide +kernel
theorem d1_54 : decode method_4_code 54 = .ok (.if_icmp .ne 74, 3) := by decide +kernel
theorem d1_57 : decode method_4_code 57 = .ok (.iload_n 2, 1) := by decide +kernel
theorem d1_58 : decode method_4_code 58 = .ok (.invokestatic 19, 3) := by decide +kernel
theorem d1_61 : decode method_4_code 61 = .ok (.ifCond .eq 10, 3) := by decide +kernel
theorem d1_64 : decode method_4_code 64 = .ok (.iload_n 3, 1) := by decide +kernel
theorem d1_65 : decode method_4_code 65 = .ok (.invokestatic 19, 3) := by decide +kernel
theorem d1_68 : decode method_4_code 68 = .ok (.ifCond .ne 10, 3) := by decide +kernel
theorem d1_71 : decode method_4_code 71 = .ok (.bipush (-2), 2) := by decide +kernel
theorem d1_73 : decode method_4_code 73 = .ok (.istore 5, 2) := by decide +kernel
theorem d1_75 : decode method_4_code 75 = .ok (.goto 139, 3) := by decide +kernel
theorem d1_78 : decode method_4_code 78 = .ok (.iload_n 1, 1) := by decide +kernel
theorem d1_79 : decode method_4_code 79 = .ok (.sipush 224, 3) := by decide +kernel
theorem d1_82 : decode method_4_code 82 = .ok (.if_icmp .ne 17, 3) := by decide +kernel
theorem d1_85 : decode method_4_code 85 = .ok (.iload_n 2, 1) := by decide +kernel
theorem d1_86 : decode method_4_code 86 = .ok (.sipush 160, 3) := by decide +kernel
theorem d1_89 : decode method_4_code 89 = .ok (.if_icmp .ge 10, 3) := by decide +kernel
theorem d1_92 : decode method_4_code 92 = .ok (.bipush (-2), 2) := by decide +kernel
theorem d1_94 : decode method_4_code 94 = .ok (.istore 5, 2) := by decide +kernel
theorem d1_96 : decode method_4_code 96 = .ok (.goto 118, 3) := by decide +kernel
theorem d1_99 : decode method_4_code 99 = .ok (.iload_n 1, 1) := by decide +kernel
theorem d1_100 : decode method_4_code 100 = .ok (.sipush 224, 3) := by decide +kernel
theorem d1_103 : decode method_4_code 103 = .ok (.isub, 1) := by decide +kernel
theorem d1_104 : decode method_4_code 104 = .ok (.sipush 4096, 3) := by decide +kernel
theorem d1_107 : decode method_4_code 107 = .ok (.imul, 1) := by decide +kernel
theorem d1_108 : decode method_4_code 108 = .ok (.iload_n 2, 1) := by decide +kernel
theorem d1_109 : decode method_4_code 109 = .ok (.sipush 128, 3) := by decide +kernel
theorem d1_112 : decode method_4_code 112 = .ok (.isub, 1) := by decide +kernel
theorem d1_113 : decode method_4_code 113 = .ok (.bipush 64, 2) := by decide +kernel
theorem d1_115 : decode method_4_code 115 = .ok (.imul, 1) := by decide +kernel
theorem d1_116 : decode method_4_code 116 = .ok (.iadd, 1) := by decide +kernel
theorem d1_117 : decode method_4_code 117 = .ok (.iload_n 3, 1) := by decide +kernel
theorem d1_118 : decode method_4_code 118 = .ok (.sipush 128, 3) := by decide +kernel
theorem d1_121 : decode method_4_code 121 = .ok (.isub, 1) := by decide +kernel
theorem d1_122 : decode method_4_code 122 = .ok (.iadd, 1) := by decide +kernel
theorem d1_123 : decode method_4_code 123 = .ok (.istore 5, 2) := by decide +kernel
theorem d1_125 : decode method_4_code 125 = .ok (.goto 89, 3) := by decide +kernel
theorem d1_128 : decode method_4_code 128 = .ok (.iload_n 2, 1) := by decide +kernel
theorem d1_129 : decode method_4_code 129 = .ok (.invokestatic 19, 3) := by decide +kernel
theorem d1_132 : decode method_4_code 132 = .ok (.ifCond .eq 18, 3) := by decide +kernel
theorem d1_135 : decode method_4_code 135 = .ok (.iload_n 3, 1) := by decide +kernel
theorem d1_136 : decode method_4_code 136 = .ok (.invokestatic 19, 3) := by decide +kernel
theorem d1_139 : decode method_4_code 139 = .ok (.ifCond .eq 11, 3) := by decide +kernel
theorem d1_142 : decode method_4_code 142 = .ok (.iload 4, 2) := by decide +kernel
theorem d1_144 : decode method_4_code 144 = .ok (.invokestatic 19, 3) := by decide +kernel
theorem d1_147 : decode method_4_code 147 = .ok (.ifCond .ne 10, 3) := by decide +kernel
theorem d1_150 : decode method_4_code 150 = .ok (.bipush (-2), 2) := by decide +kernel
theorem d1_152 : decode method_4_code 152 = .ok (.istore 5, 2) := by decide +kernel
theorem d1_154 : decode method_4_code 154 = .ok (.goto 60, 3) := by decide +kernel
theorem d1_157 : decode method_4_code 157 = .ok (.iload_n 1, 1) := by decide +kernel
theorem d1_158 : decode method_4_code 158 = .ok (.sipush 240, 3) := by decide +kernel
theorem d1_161 : decode method_4_code 161 = .ok (.if_icmp .ne 17, 3) := by decide +kernel
theorem d1_164 : decode method_4_code 164 = .ok (.iload_n 2, 1) := by decide +kernel
theorem d1_165 : decode method_4_code 165 = .ok (.sipush 144, 3) := by decide +kernel
theorem d1_168 : decode method_4_code 168 = .ok (.if_icmp .ge 10, 3) := by decide +kernel
theorem d1_171 : decode method_4_code 171 = .ok (.bipush (-2), 2) := by decide +kernel
theorem d1_173 : decode method_4_code 173 = .ok (.istore 5, 2) := by decide +kernel
theorem d1_175 : decode method_4_code 175 = .ok (.goto 39, 3) := by decide +kernel
theorem d1_178 : decode method_4_code 178 = .ok (.iload_n 1, 1) := by decide +kernel
theorem d1_179 : decode method_4_code 179 = .ok (.sipush 240, 3) := by decide +kernel
theorem d1_182 : decode method_4_code 182 = .ok (.isub, 1) := by decide +kernel
theorem d1_183 : decode method_4_code 183 = .ok (.ldc 23, 2) := by decide +kernel
theorem d1_185 : decode method_4_code 185 = .ok (.imul, 1) := by decide +kernel
theorem d1_186 : decode method_4_code 186 = .ok (.iload_n 2, 1) := by decide +kernel
theorem d1_187 : decode method_4_code 187 = .ok (.sipush 128, 3) := by decide +kernel
theorem d1_190 : decode method_4_code 190 = .ok (.isub, 1) := by decide +kernel
theorem d1_191 : decode method_4_code 191 = .ok (.sipush 4096, 3) := by decide +kernel
theorem d1_194 : decode method_4_code 194 = .ok (.imul, 1) := by decide +kernel
theorem d1_195 : decode method_4_code 195 = .ok (.iadd, 1) := by decide +kernel
theorem d1_196 : decode method_4_code 196 = .ok (.iload_n 3, 1) := by decide +kernel
theorem d1_197 : decode method_4_code 197 = .ok (.sipush 128, 3) := by decide +kernel
theorem d1_200 : decode method_4_code 200 = .ok (.isub, 1) := by decide +kernel
theorem d1_201 : decode method_4_code 201 = .ok (.bipush 64, 2) := by decide +kernel
theorem d1_203 : decode method_4_code 203 = .ok (.imul, 1) := by decide +kernel
theorem d1_204 : decode method_4_code 204 = .ok (.iadd, 1) := by decide +kernel
theorem d1_205 : decode method_4_code 205 = .ok (.iload 4, 2) := by decide +kernel
theorem d1_207 : decode method_4_code 207 = .ok (.sipush 128, 3) := by decide +kernel
theorem d1_210 : decode method_4_code 210 = .ok (.isub, 1) := by decide +kernel
theorem d1_211 : decode method_4_code 211 = .ok (.iadd, 1) := by decide +kernel
theorem d1_212 : decode method_4_code 212 = .ok (.istore 5, 2) := by decide +kernel
theorem d1_214 : decode method_4_code 214 = .ok (.iload 5, 2) := by decide +kernel
theorem d1_216 : decode method_4_code 216 = .ok (.ireturn, 1) := by decide +kernel
theorem ef_1 (m : MethodId) (x0 : Int32) (x1 : Int32) (x2 : Int32) (x3 : Int32) (x4 : Int32) : entryFrame m #[(.int x0), (.int x1), (.int x2), (.int x3), (.int x4)] 6 = mkF m 0 #[.val (.int x0), .val (.int x1), .val (.int x2), .val (.int x3), .val (.int x4), .unset] [] := by first | (simp [entryFrame, mkF, argsToLocals, Value.category]; done) | rfl
def f1 (x0 : Int32) (x1 : Int32) (x2 : Int32) (x3 : Int32) (x4 : Int32) : Int32 := if x0 = (2 : Int32) then (if (f2 x2) = (0 : Int32) then (-2 : Int32) else if x1 < (194 : Int32) then (-2 : Int32) else (((x1 - (192 : Int32)) * (64 : Int32)) + (x2 - (128 : Int32)))) else if x0 = (3 : Int32) then (if (f2 x2) = (0 : Int32) then (-2 : Int32) else if (f2 x3) = (0 : Int32) then (-2 : Int32) else if x1 = (224 : Int32) then (if x2 < (160 : Int32) then (-2 : Int32) else ((((x1 - (224 : Int32)) * (4096 : Int32)) + ((x2 - (128 : Int32)) * (64 : Int32))) + (x3 - (128 : Int32)))) else ((((x1 - (224 : Int32)) * (4096 : Int32)) + ((x2 - (128 : Int32)) * (64 : Int32))) + (x3 - (128 : Int32)))) else if (f2 x2) = (0 : Int32) then (-2 : Int32) else if (f2 x3) = (0 : Int32) then (-2 : Int32) else if (f2 x4) = (0 : Int32) then (-2 : Int32) else if x1 = (240 : Int32) then (if x2 < (144 : Int32) then (-2 : Int32) else (((((x1 - (240 : Int32)) * (262144 : Int32)) + ((x2 - (128 : Int32)) * (4096 : Int32))) + ((x3 - (128 : Int32)) * (64 : Int32))) + (x4 - (128 : Int32)))) else (((((x1 - (240 : Int32)) * (262144 : Int32)) + ((x2 - (128 : Int32)) * (4096 : Int32))) + ((x3 - (128 : Int32)) * (64 : Int32))) + (x4 - (128 : Int32)))
def Q1 (x0 : Int32) (x1 : Int32) (x2 : Int32) (x3 : Int32) (x4 : Int32) (h0 : Heap) (v : Option Value) (h : Heap) (L : List Loc) : Prop := v = some (.int (f1 x0 x1 x2 x3 x4)) ∧ L = [] ∧ h = h0
set_option maxRecDepth 65536 in
set_option maxHeartbeats 40000000 in
theorem rm1 (l : Launch) (Z : State) (a0 : Array Value) (hw : ∀ d ∈ tables_1, d.before a0 Z = true) (ws : List Jvm.Cond) (x0 : Int32) (x1 : Int32) (x2 : Int32) (x3 : Int32) (x4 : Int32) (h0 : Heap) :
    MetFree l (⟨"com/example/strict_xmlns/strictxmlns/Utf8DecodeSequencePinLaw", "reference", "(IIIII)I"⟩ : MethodName) (head1 (Jvm.Cond.code (⟨"com/example/strict_xmlns/strictxmlns/Utf8DecodeSequencePinLaw", "reference", "(IIIII)I"⟩ : MethodName) method_4_code 6 (some .int) :: ws) ({ frames := 1, cells := 0, slots := 0, locals := 12 } : Room)) (fun a U => a = #[(.int x0), (.int x1), (.int x2), (.int x3), (.int x4)] ∧ Z.Warmed39 U.vm ∧ U.heap = h0) (fun _ _ _ _ _ => True) (fun _ U o U' => ∃ v L, o = .returned v ∧ Q1 x0 x1 x2 x3 x4 h0 v U'.heap L ∧ FrameEnd U o U' L ({ frames := 1, cells := 0, slots := 0, locals := 12 } : Room).cells ({ frames := 1, cells := 0, slots := 0, locals := 12 } : Room).slots) := by
  refine g_body (plainFor_of_name pn_2) ?_
  intro p e s m below meth c T0 X0 hx hby hml hret hlk hown hnm hZ e0
  rw [ef_1]
  show Go p e below s _ _ _ (T0.setTop (mkF m 0 #[.val (.int x0), .val (.int x1), .val (.int x2), .val (.int x3), .val (.int x4), .unset] []))
  refine g_iloadN X0 hx 1 (hb hby d1_0) rfl rfl ?_
  show Go p e below s _ _ _ (T0.setTop (mkF m 1 #[.val (.int x0), .val (.int x1), .val (.int x2), .val (.int x3), .val (.int x4), .unset] [(.int x0)]))
  refine g_iconst X0 hx (2 : Int32) 2 (hb hby d1_1) rfl rfl ?_
  show Go p e below s _ _ _ (T0.setTop (mkF m 2 #[.val (.int x0), .val (.int x1), .val (.int x2), .val (.int x3), .val (.int x4), .unset] [(.int (2 : Int32)), (.int x0)]))
  refine g_icmp_ne X0 hx 52 5 (hb hby d1_2) (by decide) rfl rfl (fun h1 => ?_) (fun h1 => ?_)
  · show Go p e below s _ _ _ (T0.setTop (mkF m 5 #[.val (.int x0), .val (.int x1), .val (.int x2), .val (.int x3), .val (.int x4), .unset] []))
    refine g_iloadN X0 hx 6 (hb hby d1_5) rfl rfl ?_
    show Go p e below s _ _ _ (T0.setTop (mkF m 6 #[.val (.int x0), .val (.int x1), .val (.int x2), .val (.int x3), .val (.int x4), .unset] [(.int x2)]))
    refine g_callS X0 hx hZ hown (hw _ (List.mem_of_getElem? (i := 5) rfl)) (hw _ (List.mem_of_getElem? (i := 6) rfl)) (hw _ (List.mem_of_getElem? (i := 3) rfl)) (hw _ (List.mem_of_getElem? (i := 7) rfl)) (by decide) e0 (rm2 l Z a0 hw [] x2 h0) [(.int x2)] [] 0 rfl (lenOf pd__28I_29Z rfl) rfl (Nat.le_of_eq rfl) (by decide) (by decide) (by decide) (by decide) (by rw [hml]; rfl) (hb hby d1_6) ?_
    intro T2 L2 v2 X2 q2
    obtain ⟨rfl, rfl, e2⟩ := q2
    show Go p e below s _ _ _ (T2.setTop (mkF m 9 #[.val (.int x0), .val (.int x1), .val (.int x2), .val (.int x3), .val (.int x4), .unset] [(.int (f2 x2))]))
    refine g_if0_ne X2 hx 19 12 (hb hby d1_9) (by decide) rfl rfl (fun h3 => ?_) (fun h3 => ?_)
    · show Go p e below s _ _ _ (T2.setTop (mkF m 12 #[.val (.int x0), .val (.int x1), .val (.int x2), .val (.int x3), .val (.int x4), .unset] []))
      refine g_bipush X2 hx (-2 : Int32) 14 (hb hby d1_12) rfl rfl ?_
      show Go p e below s _ _ _ (T2.setTop (mkF m 14 #[.val (.int x0), .val (.int x1), .val (.int x2), .val (.int x3), .val (.int x4), .unset] [(.int (-2 : Int32))]))
      refine g_istore X2 hx #[.val (.int x0), .val (.int x1), .val (.int x2), .val (.int x3), .val (.int x4), .val (.int (-2 : Int32))] 16 (hb hby d1_14) rfl rfl ?_
      show Go p e below s _ _ _ (T2.setTop (mkF m 16 #[.val (.int x0), .val (.int x1), .val (.int x2), .val (.int x3), .val (.int x4), .val (.int (-2 : Int32))] []))
      refine g_goto X2 hx 214 (hb hby d1_16) (by decide) rfl ?_
      show Go p e below s _ _ _ (T2.setTop (mkF m 214 #[.val (.int x0), .val (.int x1), .val (.int x2), .val (.int x3), .val (.int x4), .val (.int (-2 : Int32))] []))
      refine g_iload X2 hx 216 (hb hby d1_214) rfl rfl ?_
      show Go p e below s _ _ _ (T2.setTop (mkF m 216 #[.val (.int x0), .val (.int x1), .val (.int x2), .val (.int x3), .val (.int x4), .val (.int (-2 : Int32))] [(.int (-2 : Int32))]))
      exact g_retI X2 hx hret hlk (hb hby d1_216) (by decide) (by decide) ⟨congrArg (fun z => some (Value.int z)) (show (-2 : Int32) = (f1 x0 x1 x2 x3 x4) from by rw [f1, if_pos h1, if_pos h3]), rfl, e2⟩
    · show Go p e below s _ _ _ (T2.setTop (mkF m 19 #[.val (.int x0), .val (.int x1), .val (.int x2), .val (.int x3), .val (.int x4), .unset] []))
      refine g_iloadN X2 hx 20 (hb hby d1_19) rfl rfl ?_
      show Go p e below s _ _ _ (T2.setTop (mkF m 20 #[.val (.int x0), .val (.int x1), .val (.int x2), .val (.int x3), .val (.int x4), .unset] [(.int x1)]))
      refine g_sipush X2 hx (194 : Int32) 23 (hb hby d1_20) rfl rfl ?_
      show Go p e below s _ _ _ (T2.setTop (mkF m 23 #[.val (.int x0), .val (.int x1), .val (.int x2), .val (.int x3), .val (.int x4), .unset] [(.int (194 : Int32)), (.int x1)]))
      refine g_icmp_ge X2 hx 33 26 (hb hby d1_23) (by decide) rfl rfl (fun h4 => ?_) (fun h4 => ?_)
      · show Go p e below s _ _ _ (T2.setTop (mkF m 26 #[.val (.int x0), .val (.int x1), .val (.int x2), .val (.int x3), .val (.int x4), .unset] []))
        refine g_bipush X2 hx (-2 : Int32) 28 (hb hby d1_26) rfl rfl ?_
        show Go p e below s _ _ _ (T2.setTop (mkF m 28 #[.val (.int x0), .val (.int x1), .val (.int x2), .val (.int x3), .val (.int x4), .unset] [(.int (-2 : Int32))]))
        refine g_istore X2 hx #[.val (.int x0), .val (.int x1), .val (.int x2), .val (.int x3), .val (.int x4), .val (.int (-2 : Int32))] 30 (hb hby d1_28) rfl rfl ?_
        show Go p e below s _ _ _ (T2.setTop (mkF m 30 #[.val (.int x0), .val (.int x1), .val (.int x2), .val (.int x3), .val (.int x4), .val (.int (-2 : Int32))] []))
        refine g_goto X2 hx 214 (hb hby d1_30) (by decide) rfl ?_
        show Go p e below s _ _ _ (T2.setTop (mkF m 214 #[.val (.int x0), .val (.int x1), .val (.int x2), .val (.int x3), .val (.int x4), .val (.int (-2 : Int32))] []))
        refine g_iload X2 hx 216 (hb hby d1_214) rfl rfl ?_
        show Go p e below s _ _ _ (T2.setTop (mkF m 216 #[.val (.int x0), .val (.int x1), .val (.int x2), .val (.int x3), .val (.int x4), .val (.int (-2 : Int32))] [(.int (-2 : Int32))]))
        exact g_retI X2 hx hret hlk (hb hby d1_216) (by decide) (by decide) ⟨congrArg (fun z => some (Value.int z)) (show (-2 : Int32) = (f1 x0 x1 x2 x3 x4) from by rw [f1, if_pos h1, if_neg h3, if_pos h4]), rfl, e2⟩
      · show Go p e below s _ _ _ (T2.setTop (mkF m 33 #[.val (.int x0), .val (.int x1), .val (.int x2), .val (.int x3), .val (.int x4), .unset] []))
        refine g_iloadN X2 hx 34 (hb hby d1_33) rfl rfl ?_
        show Go p e below s _ _ _ (T2.setTop (mkF m 34 #[.val (.int x0), .val (.int x1), .val (.int x2), .val (.int x3), .val (.int x4), .unset] [(.int x1)]))
        refine g_sipush X2 hx (192 : Int32) 37 (hb hby d1_34) rfl rfl ?_
        show Go p e below s _ _ _ (T2.setTop (mkF m 37 #[.val (.int x0), .val (.int x1), .val (.int x2), .val (.int x3), .val (.int x4), .unset] [(.int (192 : Int32)), (.int x1)]))
        refine g_isub X2 hx 38 (hb hby d1_37) rfl ?_
        show Go p e below s _ _ _ (T2.setTop (mkF m 38 #[.val (.int x0), .val (.int x1), .val (.int x2), .val (.int x3), .val (.int x4), .unset] [(.int (x1 - (192 : Int32)))]))
        refine g_bipush X2 hx (64 : Int32) 40 (hb hby d1_38) rfl rfl ?_
        show Go p e below s _ _ _ (T2.setTop (mkF m 40 #[.val (.int x0), .val (.int x1), .val (.int x2), .val (.int x3), .val (.int x4), .unset] [(.int (64 : Int32)), (.int (x1 - (192 : Int32)))]))
        refine g_imul X2 hx 41 (hb hby d1_40) rfl ?_
        show Go p e below s _ _ _ (T2.setTop (mkF m 41 #[.val (.int x0), .val (.int x1), .val (.int x2), .val (.int x3), .val (.int x4), .unset] [(.int ((x1 - (192 : Int32)) * (64 : Int32)))]))
        refine g_iloadN X2 hx 42 (hb hby d1_41) rfl rfl ?_
        show Go p e below s _ _ _ (T2.setTop (mkF m 42 #[.val (.int x0), .val (.int x1), .val (.int x2), .val (.int x3), .val (.int x4), .unset] [(.int x2), (.int ((x1 - (192 : Int32)) * (64 : Int32)))]))
        refine g_sipush X2 hx (128 : Int32) 45 (hb hby d1_42) rfl rfl ?_
        show Go p e below s _ _ _ (T2.setTop (mkF m 45 #[.val (.int x0), .val (.int x1), .val (.int x2), .val (.int x3), .val (.int x4), .unset] [(.int (128 : Int32)), (.int x2), (.int ((x1 - (192 : Int32)) * (64 : Int32)))]))
        refine g_isub X2 hx 46 (hb hby d1_45) rfl ?_
        show Go p e below s _ _ _ (T2.setTop (mkF m 46 #[.val (.int x0), .val (.int x1), .val (.int x2), .val (.int x3), .val (.int x4), .unset] [(.int (x2 - (128 : Int32))), (.int ((x1 - (192 : Int32)) * (64 : Int32)))]))
        refine g_iadd X2 hx 47 (hb hby d1_46) rfl ?_
        show Go p e below s _ _ _ (T2.setTop (mkF m 47 #[.val (.int x0), .val (.int x1), .val (.int x2), .val (.int x3), .val (.int x4), .unset] [(.int (((x1 - (192 : Int32)) * (64 : Int32)) + (x2 - (128 : Int32))))]))
        refine g_istore X2 hx #[.val (.int x0), .val (.int x1), .val (.int x2), .val (.int x3), .val (.int x4), .val (.int (((x1 - (192 : Int32)) * (64 : Int32)) + (x2 - (128 : Int32))))] 49 (hb hby d1_47) rfl rfl ?_
        show Go p e below s _ _ _ (T2.setTop (mkF m 49 #[.val (.int x0), .val (.int x1), .val (.int x2), .val (.int x3), .val (.int x4), .val (.int (((x1 - (192 : Int32)) * (64 : Int32)) + (x2 - (128 : Int32))))] []))
        refine g_goto X2 hx 214 (hb hby d1_49) (by decide) rfl ?_
        show Go p e below s _ _ _ (T2.setTop (mkF m 214 #[.val (.int x0), .val (.int x1), .val (.int x2), .val (.int x3), .val (.int x4), .val (.int (((x1 - (192 : Int32)) * (64 : Int32)) + (x2 - (128 : Int32))))] []))
        refine g_iload X2 hx 216 (hb hby d1_214) rfl rfl ?_
        show Go p e below s _ _ _ (T2.setTop (mkF m 216 #[.val (.int x0), .val (.int x1), .val (.int x2), .val (.int x3), .val (.int x4), .val (.int (((x1 - (192 : Int32)) * (64 : Int32)) + (x2 - (128 : Int32))))] [(.int (((x1 - (192 : Int32)) * (64 : Int32)) + (x2 - (128 : Int32))))]))
        exact g_retI X2 hx hret hlk (hb hby d1_216) (by decide) (by decide) ⟨congrArg (fun z => some (Value.int z)) (show (((x1 - (192 : Int32)) * (64 : Int32)) + (x2 - (128 : Int32))) = (f1 x0 x1 x2 x3 x4) from by rw [f1, if_pos h1, if_neg h3, if_neg h4]), rfl, e2⟩
  · show Go p e below s _ _ _ (T0.setTop (mkF m 52 #[.val (.int x0), .val (.int x1), .val (.int x2), .val (.int x3), .val (.int x4), .unset] []))
    refine g_iloadN X0 hx 53 (hb hby d1_52) rfl rfl ?_
    show Go p e below s _ _ _ (T0.setTop (mkF m 53 #[.val (.int x0), .val (.int x1), .val (.int x2), .val (.int x3), .val (.int x4), .unset] [(.int x0)]))
    refine g_iconst X0 hx (3 : Int32) 54 (hb hby d1_53) rfl rfl ?_
    show Go p e below s _ _ _ (T0.setTop (mkF m 54 #[.val (.int x0), .val (.int x1), .val (.int x2), .val (.int x3), .val (.int x4), .unset] [(.int (3 : Int32)), (.int x0)]))
    refine g_icmp_ne X0 hx 128 57 (hb hby d1_54) (by decide) rfl rfl (fun h5 => ?_) (fun h5 => ?_)
    · show Go p e below s _ _ _ (T0.setTop (mkF m 57 #[.val (.int x0), .val (.int x1), .val (.int x2), .val (.int x3), .val (.int x4), .unset] []))
      refine g_iloadN X0 hx 58 (hb hby d1_57) rfl rfl ?_
      show Go p e below s _ _ _ (T0.setTop (mkF m 58 #[.val (.int x0), .val (.int x1), .val (.int x2), .val (.int x3), .val (.int x4), .unset] [(.int x2)]))
      refine g_callS X0 hx hZ hown (hw _ (List.mem_of_getElem? (i := 5) rfl)) (hw _ (List.mem_of_getElem? (i := 6) rfl)) (hw _ (List.mem_of_getElem? (i := 3) rfl)) (hw _ (List.mem_of_getElem? (i := 7) rfl)) (by decide) e0 (rm2 l Z a0 hw [] x2 h0) [(.int x2)] [] 0 rfl (lenOf pd__28I_29Z rfl) rfl (Nat.le_of_eq rfl) (by decide) (by decide) (by decide) (by decide) (by rw [hml]; rfl) (hb hby d1_58) ?_
      intro T6 L6 v6 X6 q6
      obtain ⟨rfl, rfl, e6⟩ := q6
      show Go p e below s _ _ _ (T6.setTop (mkF m 61 #[.val (.int x0), .val (.int x1), .val (.int x2), .val (.int x3), .val (.int x4), .unset] [(.int (f2 x2))]))
      refine g_if0_eq X6 hx 71 64 (hb hby d1_61) (by decide) rfl rfl (fun h7 => ?_) (fun h7 => ?_)
      · show Go p e below s _ _ _ (T6.setTop (mkF m 71 #[.val (.int x0), .val (.int x1), .val (.int x2), .val (.int x3), .val (.int x4), .unset] []))
        refine g_bipush X6 hx (-2 : Int32) 73 (hb hby d1_71) rfl rfl ?_
        show Go p e below s _ _ _ (T6.setTop (mkF m 73 #[.val (.int x0), .val (.int x1), .val (.int x2), .val (.int x3), .val (.int x4), .unset] [(.int (-2 : Int32))]))
        refine g_istore X6 hx #[.val (.int x0), .val (.int x1), .val (.int x2), .val (.int x3), .val (.int x4), .val (.int (-2 : Int32))] 75 (hb hby d1_73) rfl rfl ?_
        show Go p e below s _ _ _ (T6.setTop (mkF m 75 #[.val (.int x0), .val (.int x1), .val (.int x2), .val (.int x3), .val (.int x4), .val (.int (-2 : Int32))] []))
        refine g_goto X6 hx 214 (hb hby d1_75) (by decide) rfl ?_
        show Go p e below s _ _ _ (T6.setTop (mkF m 214 #[.val (.int x0), .val (.int x1), .val (.int x2), .val (.int x3), .val (.int x4), .val (.int (-2 : Int32))] []))
        refine g_iload X6 hx 216 (hb hby d1_214) rfl rfl ?_
        show Go p e below s _ _ _ (T6.setTop (mkF m 216 #[.val (.int x0), .val (.int x1), .val (.int x2), .val (.int x3), .val (.int x4), .val (.int (-2 : Int32))] [(.int (-2 : Int32))]))
        exact g_retI X6 hx hret hlk (hb hby d1_216) (by decide) (by decide) ⟨congrArg (fun z => some (Value.int z)) (show (-2 : Int32) = (f1 x0 x1 x2 x3 x4) from by rw [f1, if_neg h1, if_pos h5, if_pos h7]), rfl, e6⟩
      · show Go p e below s _ _ _ (T6.setTop (mkF m 64 #[.val (.int x0), .val (.int x1), .val (.int x2), .val (.int x3), .val (.int x4), .unset] []))
        refine g_iloadN X6 hx 65 (hb hby d1_64) rfl rfl ?_
        show Go p e below s _ _ _ (T6.setTop (mkF m 65 #[.val (.int x0), .val (.int x1), .val (.int x2), .val (.int x3), .val (.int x4), .unset] [(.int x3)]))
        refine g_callS X6 hx hZ hown (hw _ (List.mem_of_getElem? (i := 5) rfl)) (hw _ (List.mem_of_getElem? (i := 6) rfl)) (hw _ (List.mem_of_getElem? (i := 3) rfl)) (hw _ (List.mem_of_getElem? (i := 7) rfl)) (by decide) e6 (rm2 l Z a0 hw [] x3 h0) [(.int x3)] [] 0 rfl (lenOf pd__28I_29Z rfl) rfl (Nat.le_of_eq rfl) (by decide) (by decide) (by decide) (by decide) (by rw [hml]; rfl) (hb hby d1_65) ?_
        intro T8 L8 v8 X8 q8
        obtain ⟨rfl, rfl, e8⟩ := q8
        show Go p e below s _ _ _ (T8.setTop (mkF m 68 #[.val (.int x0), .val (.int x1), .val (.int x2), .val (.int x3), .val (.int x4), .unset] [(.int (f2 x3))]))
        refine g_if0_ne X8 hx 78 71 (hb hby d1_68) (by decide) rfl rfl (fun h9 => ?_) (fun h9 => ?_)
        · show Go p e below s _ _ _ (T8.setTop (mkF m 71 #[.val (.int x0), .val (.int x1), .val (.int x2), .val (.int x3), .val (.int x4), .unset] []))
          refine g_bipush X8 hx (-2 : Int32) 73 (hb hby d1_71) rfl rfl ?_
          show Go p e below s _ _ _ (T8.setTop (mkF m 73 #[.val (.int x0), .val (.int x1), .val (.int x2), .val (.int x3), .val (.int x4), .unset] [(.int (-2 : Int32))]))
          refine g_istore X8 hx #[.val (.int x0), .val (.int x1), .val (.int x2), .val (.int x3), .val (.int x4), .val (.int (-2 : Int32))] 75 (hb hby d1_73) rfl rfl ?_
          show Go p e below s _ _ _ (T8.setTop (mkF m 75 #[.val (.int x0), .val (.int x1), .val (.int x2), .val (.int x3), .val (.int x4), .val (.int (-2 : Int32))] []))
          refine g_goto X8 hx 214 (hb hby d1_75) (by decide) rfl ?_
          show Go p e below s _ _ _ (T8.setTop (mkF m 214 #[.val (.int x0), .val (.int x1), .val (.int x2), .val (.int x3), .val (.int x4), .val (.int (-2 : Int32))] []))
          refine g_iload X8 hx 216 (hb hby d1_214) rfl rfl ?_
          show Go p e below s _ _ _ (T8.setTop (mkF m 216 #[.val (.int x0), .val (.int x1), .val (.int x2), .val (.int x3), .val (.int x4), .val (.int (-2 : Int32))] [(.int (-2 : Int32))]))
          exact g_retI X8 hx hret hlk (hb hby d1_216) (by decide) (by decide) ⟨congrArg (fun z => some (Value.int z)) (show (-2 : Int32) = (f1 x0 x1 x2 x3 x4) from by rw [f1, if_neg h1, if_pos h5, if_neg h7, if_pos h9]), rfl, e8⟩
        · show Go p e below s _ _ _ (T8.setTop (mkF m 78 #[.val (.int x0), .val (.int x1), .val (.int x2), .val (.int x3), .val (.int x4), .unset] []))
          refine g_iloadN X8 hx 79 (hb hby d1_78) rfl rfl ?_
          show Go p e below s _ _ _ (T8.setTop (mkF m 79 #[.val (.int x0), .val (.int x1), .val (.int x2), .val (.int x3), .val (.int x4), .unset] [(.int x1)]))
          refine g_sipush X8 hx (224 : Int32) 82 (hb hby d1_79) rfl rfl ?_
          show Go p e below s _ _ _ (T8.setTop (mkF m 82 #[.val (.int x0), .val (.int x1), .val (.int x2), .val (.int x3), .val (.int x4), .unset] [(.int (224 : Int32)), (.int x1)]))
          refine g_icmp_ne X8 hx 99 85 (hb hby d1_82) (by decide) rfl rfl (fun h10 => ?_) (fun h10 => ?_)
          · show Go p e below s _ _ _ (T8.setTop (mkF m 85 #[.val (.int x0), .val (.int x1), .val (.int x2), .val (.int x3), .val (.int x4), .unset] []))
            refine g_iloadN X8 hx 86 (hb hby d1_85) rfl rfl ?_
            show Go p e below s _ _ _ (T8.setTop (mkF m 86 #[.val (.int x0), .val (.int x1), .val (.int x2), .val (.int x3), .val (.int x4), .unset] [(.int x2)]))
            refine g_sipush X8 hx (160 : Int32) 89 (hb hby d1_86) rfl rfl ?_
            show Go p e below s _ _ _ (T8.setTop (mkF m 89 #[.val (.int x0), .val (.int x1), .val (.int x2), .val (.int x3), .val (.int x4), .unset] [(.int (160 : Int32)), (.int x2)]))
            refine g_icmp_ge X8 hx 99 92 (hb hby d1_89) (by decide) rfl rfl (fun h11 => ?_) (fun h11 => ?_)
            · show Go p e below s _ _ _ (T8.setTop (mkF m 92 #[.val (.int x0), .val (.int x1), .val (.int x2), .val (.int x3), .val (.int x4), .unset] []))
              refine g_bipush X8 hx (-2 : Int32) 94 (hb hby d1_92) rfl rfl ?_
              show Go p e below s _ _ _ (T8.setTop (mkF m 94 #[.val (.int x0), .val (.int x1), .val (.int x2), .val (.int x3), .val (.int x4), .unset] [(.int (-2 : Int32))]))
              refine g_istore X8 hx #[.val (.int x0), .val (.int x1), .val (.int x2), .val (.int x3), .val (.int x4), .val (.int (-2 : Int32))] 96 (hb hby d1_94) rfl rfl ?_
              show Go p e below s _ _ _ (T8.setTop (mkF m 96 #[.val (.int x0), .val (.int x1), .val (.int x2), .val (.int x3), .val (.int x4), .val (.int (-2 : Int32))] []))
              refine g_goto X8 hx 214 (hb hby d1_96) (by decide) rfl ?_
              show Go p e below s _ _ _ (T8.setTop (mkF m 214 #[.val (.int x0), .val (.int x1), .val (.int x2), .val (.int x3), .val (.int x4), .val (.int (-2 : Int32))] []))
              refine g_iload X8 hx 216 (hb hby d1_214) rfl rfl ?_
              show Go p e below s _ _ _ (T8.setTop (mkF m 216 #[.val (.int x0), .val (.int x1), .val (.int x2), .val (.int x3), .val (.int x4), .val (.int (-2 : Int32))] [(.int (-2 : Int32))]))
              exact g_retI X8 hx hret hlk (hb hby d1_216) (by decide) (by decide) ⟨congrArg (fun z => some (Value.int z)) (show (-2 : Int32) = (f1 x0 x1 x2 x3 x4) from by rw [f1, if_neg h1, if_pos h5, if_neg h7, if_neg h9, if_pos h10, if_pos h11]), rfl, e8⟩
            · show Go p e below s _ _ _ (T8.setTop (mkF m 99 #[.val (.int x0), .val (.int x1), .val (.int x2), .val (.int x3), .val (.int x4), .unset] []))
              refine g_iloadN X8 hx 100 (hb hby d1_99) rfl rfl ?_
              show Go p e below s _ _ _ (T8.setTop (mkF m 100 #[.val (.int x0), .val (.int x1), .val (.int x2), .val (.int x3), .val (.int x4), .unset] [(.int x1)]))
              refine g_sipush X8 hx (224 : Int32) 103 (hb hby d1_100) rfl rfl ?_
              show Go p e below s _ _ _ (T8.setTop (mkF m 103 #[.val (.int x0), .val (.int x1), .val (.int x2), .val (.int x3), .val (.int x4), .unset] [(.int (224 : Int32)), (.int x1)]))
              refine g_isub X8 hx 104 (hb hby d1_103) rfl ?_
              show Go p e below s _ _ _ (T8.setTop (mkF m 104 #[.val (.int x0), .val (.int x1), .val (.int x2), .val (.int x3), .val (.int x4), .unset] [(.int (x1 - (224 : Int32)))]))
              refine g_sipush X8 hx (4096 : Int32) 107 (hb hby d1_104) rfl rfl ?_
              show Go p e below s _ _ _ (T8.setTop (mkF m 107 #[.val (.int x0), .val (.int x1), .val (.int x2), .val (.int x3), .val (.int x4), .unset] [(.int (4096 : Int32)), (.int (x1 - (224 : Int32)))]))
              refine g_imul X8 hx 108 (hb hby d1_107) rfl ?_
              show Go p e below s _ _ _ (T8.setTop (mkF m 108 #[.val (.int x0), .val (.int x1), .val (.int x2), .val (.int x3), .val (.int x4), .unset] [(.int ((x1 - (224 : Int32)) * (4096 : Int32)))]))
              refine g_iloadN X8 hx 109 (hb hby d1_108) rfl rfl ?_
              show Go p e below s _ _ _ (T8.setTop (mkF m 109 #[.val (.int x0), .val (.int x1), .val (.int x2), .val (.int x3), .val (.int x4), .unset] [(.int x2), (.int ((x1 - (224 : Int32)) * (4096 : Int32)))]))
              refine g_sipush X8 hx (128 : Int32) 112 (hb hby d1_109) rfl rfl ?_
              show Go p e below s _ _ _ (T8.setTop (mkF m 112 #[.val (.int x0), .val (.int x1), .val (.int x2), .val (.int x3), .val (.int x4), .unset] [(.int (128 : Int32)), (.int x2), (.int ((x1 - (224 : Int32)) * (4096 : Int32)))]))
              refine g_isub X8 hx 113 (hb hby d1_112) rfl ?_
              show Go p e below s _ _ _ (T8.setTop (mkF m 113 #[.val (.int x0), .val (.int x1), .val (.int x2), .val (.int x3), .val (.int x4), .unset] [(.int (x2 - (128 : Int32))), (.int ((x1 - (224 : Int32)) * (4096 : Int32)))]))
              refine g_bipush X8 hx (64 : Int32) 115 (hb hby d1_113) rfl rfl ?_
              show Go p e below s _ _ _ (T8.setTop (mkF m 115 #[.val (.int x0), .val (.int x1), .val (.int x2), .val (.int x3), .val (.int x4), .unset] [(.int (64 : Int32)), (.int (x2 - (128 : Int32))), (.int ((x1 - (224 : Int32)) * (4096 : Int32)))]))
              refine g_imul X8 hx 116 (hb hby d1_115) rfl ?_
              show Go p e below s _ _ _ (T8.setTop (mkF m 116 #[.val (.int x0), .val (.int x1), .val (.int x2), .val (.int x3), .val (.int x4), .unset] [(.int ((x2 - (128 : Int32)) * (64 : Int32))), (.int ((x1 - (224 : Int32)) * (4096 : Int32)))]))
              refine g_iadd X8 hx 117 (hb hby d1_116) rfl ?_
              show Go p e below s _ _ _ (T8.setTop (mkF m 117 #[.val (.int x0), .val (.int x1), .val (.int x2), .val (.int x3), .val (.int x4), .unset] [(.int (((x1 - (224 : Int32)) * (4096 : Int32)) + ((x2 - (128 : Int32)) * (64 : Int32))))]))
              refine g_iloadN X8 hx 118 (hb hby d1_117) rfl rfl ?_
              show Go p e below s _ _ _ (T8.setTop (mkF m 118 #[.val (.int x0), .val (.int x1), .val (.int x2), .val (.int x3), .val (.int x4), .unset] [(.int x3), (.int (((x1 - (224 : Int32)) * (4096 : Int32)) + ((x2 - (128 : Int32)) * (64 : Int32))))]))
              refine g_sipush X8 hx (128 : Int32) 121 (hb hby d1_118) rfl rfl ?_
              show Go p e below s _ _ _ (T8.setTop (mkF m 121 #[.val (.int x0), .val (.int x1), .val (.int x2), .val (.int x3), .val (.int x4), .unset] [(.int (128 : Int32)), (.int x3), (.int (((x1 - (224 : Int32)) * (4096 : Int32)) + ((x2 - (128 : Int32)) * (64 : Int32))))]))
              refine g_isub X8 hx 122 (hb hby d1_121) rfl ?_
              show Go p e below s _ _ _ (T8.setTop (mkF m 122 #[.val (.int x0), .val (.int x1), .val (.int x2), .val (.int x3), .val (.int x4), .unset] [(.int (x3 - (128 : Int32))), (.int (((x1 - (224 : Int32)) * (4096 : Int32)) + ((x2 - (128 : Int32)) * (64 : Int32))))]))
              refine g_iadd X8 hx 123 (hb hby d1_122) rfl ?_
              show Go p e below s _ _ _ (T8.setTop (mkF m 123 #[.val (.int x0), .val (.int x1), .val (.int x2), .val (.int x3), .val (.int x4), .unset] [(.int ((((x1 - (224 : Int32)) * (4096 : Int32)) + ((x2 - (128 : Int32)) * (64 : Int32))) + (x3 - (128 : Int32))))]))
              refine g_istore X8 hx #[.val (.int x0), .val (.int x1), .val (.int x2), .val (.int x3), .val (.int x4), .val (.int ((((x1 - (224 : Int32)) * (4096 : Int32)) + ((x2 - (128 : Int32)) * (64 : Int32))) + (x3 - (128 : Int32))))] 125 (hb hby d1_123) rfl rfl ?_
              show Go p e below s _ _ _ (T8.setTop (mkF m 125 #[.val (.int x0), .val (.int x1), .val (.int x2), .val (.int x3), .val (.int x4), .val (.int ((((x1 - (224 : Int32)) * (4096 : Int32)) + ((x2 - (128 : Int32)) * (64 : Int32))) + (x3 - (128 : Int32))))] []))
              refine g_goto X8 hx 214 (hb hby d1_125) (by decide) rfl ?_
              show Go p e below s _ _ _ (T8.setTop (mkF m 214 #[.val (.int x0), .val (.int x1), .val (.int x2), .val (.int x3), .val (.int x4), .val (.int ((((x1 - (224 : Int32)) * (4096 : Int32)) + ((x2 - (128 : Int32)) * (64 : Int32))) + (x3 - (128 : Int32))))] []))
              refine g_iload X8 hx 216 (hb hby d1_214) rfl rfl ?_
              show Go p e below s _ _ _ (T8.setTop (mkF m 216 #[.val (.int x0), .val (.int x1), .val (.int x2), .val (.int x3), .val (.int x4), .val (.int ((((x1 - (224 : Int32)) * (4096 : Int32)) + ((x2 - (128 : Int32)) * (64 : Int32))) + (x3 - (128 : Int32))))] [(.int ((((x1 - (224 : Int32)) * (4096 : Int32)) + ((x2 - (128 : Int32)) * (64 : Int32))) + (x3 - (128 : Int32))))]))
              exact g_retI X8 hx hret hlk (hb hby d1_216) (by decide) (by decide) ⟨congrArg (fun z => some (Value.int z)) (show ((((x1 - (224 : Int32)) * (4096 : Int32)) + ((x2 - (128 : Int32)) * (64 : Int32))) + (x3 - (128 : Int32))) = (f1 x0 x1 x2 x3 x4) from by rw [f1, if_neg h1, if_pos h5, if_neg h7, if_neg h9, if_pos h10, if_neg h11]), rfl, e8⟩
          · show Go p e below s _ _ _ (T8.setTop (mkF m 99 #[.val (.int x0), .val (.int x1), .val (.int x2), .val (.int x3), .val (.int x4), .unset] []))
            refine g_iloadN X8 hx 100 (hb hby d1_99) rfl rfl ?_
            show Go p e below s _ _ _ (T8.setTop (mkF m 100 #[.val (.int x0), .val (.int x1), .val (.int x2), .val (.int x3), .val (.int x4), .unset] [(.int x1)]))
            refine g_sipush X8 hx (224 : Int32) 103 (hb hby d1_100) rfl rfl ?_
            show Go p e below s _ _ _ (T8.setTop (mkF m 103 #[.val (.int x0), .val (.int x1), .val (.int x2), .val (.int x3), .val (.int x4), .unset] [(.int (224 : Int32)), (.int x1)]))
            refine g_isub X8 hx 104 (hb hby d1_103) rfl ?_
            show Go p e below s _ _ _ (T8.setTop (mkF m 104 #[.val (.int x0), .val (.int x1), .val (.int x2), .val (.int x3), .val (.int x4), .unset] [(.int (x1 - (224 : Int32)))]))
            refine g_sipush X8 hx (4096 : Int32) 107 (hb hby d1_104) rfl rfl ?_
            show Go p e below s _ _ _ (T8.setTop (mkF m 107 #[.val (.int x0), .val (.int x1), .val (.int x2), .val (.int x3), .val (.int x4), .unset] [(.int (4096 : Int32)), (.int (x1 - (224 : Int32)))]))
            refine g_imul X8 hx 108 (hb hby d1_107) rfl ?_
            show Go p e below s _ _ _ (T8.setTop (mkF m 108 #[.val (.int x0), .val (.int x1), .val (.int x2), .val (.int x3), .val (.int x4), .unset] [(.int ((x1 - (224 : Int32)) * (4096 : Int32)))]))
            refine g_iloadN X8 hx 109 (hb hby d1_108) rfl rfl ?_
            show Go p e below s _ _ _ (T8.setTop (mkF m 109 #[.val (.int x0), .val (.int x1), .val (.int x2), .val (.int x3), .val (.int x4), .unset] [(.int x2), (.int ((x1 - (224 : Int32)) * (4096 : Int32)))]))
            refine g_sipush X8 hx (128 : Int32) 112 (hb hby d1_109) rfl rfl ?_
            show Go p e below s _ _ _ (T8.setTop (mkF m 112 #[.val (.int x0), .val (.int x1), .val (.int x2), .val (.int x3), .val (.int x4), .unset] [(.int (128 : Int32)), (.int x2), (.int ((x1 - (224 : Int32)) * (4096 : Int32)))]))
            refine g_isub X8 hx 113 (hb hby d1_112) rfl ?_
            show Go p e below s _ _ _ (T8.setTop (mkF m 113 #[.val (.int x0), .val (.int x1), .val (.int x2), .val (.int x3), .val (.int x4), .unset] [(.int (x2 - (128 : Int32))), (.int ((x1 - (224 : Int32)) * (4096 : Int32)))]))
            refine g_bipush X8 hx (64 : Int32) 115 (hb hby d1_113) rfl rfl ?_
            show Go p e below s _ _ _ (T8.setTop (mkF m 115 #[.val (.int x0), .val (.int x1), .val (.int x2), .val (.int x3), .val (.int x4), .unset] [(.int (64 : Int32)), (.int (x2 - (128 : Int32))), (.int ((x1 - (224 : Int32)) * (4096 : Int32)))]))
            refine g_imul X8 hx 116 (hb hby d1_115) rfl ?_
            show Go p e below s _ _ _ (T8.setTop (mkF m 116 #[.val (.int x0), .val (.int x1), .val (.int x2), .val (.int x3), .val (.int x4), .unset] [(.int ((x2 - (128 : Int32)) * (64 : Int32))), (.int ((x1 - (224 : Int32)) * (4096 : Int32)))]))
            refine g_iadd X8 hx 117 (hb hby d1_116) rfl ?_
            show Go p e below s _ _ _ (T8.setTop (mkF m 117 #[.val (.int x0), .val (.int x1), .val (.int x2), .val (.int x3), .val (.int x4), .unset] [(.int (((x1 - (224 : Int32)) * (4096 : Int32)) + ((x2 - (128 : Int32)) * (64 : Int32))))]))
            refine g_iloadN X8 hx 118 (hb hby d1_117) rfl rfl ?_
            show Go p e below s _ _ _ (T8.setTop (mkF m 118 #[.val (.int x0), .val (.int x1), .val (.int x2), .val (.int x3), .val (.int x4), .unset] [(.int x3), (.int (((x1 - (224 : Int32)) * (4096 : Int32)) + ((x2 - (128 : Int32)) * (64 : Int32))))]))
            refine g_sipush X8 hx (128 : Int32) 121 (hb hby d1_118) rfl rfl ?_
            show Go p e below s _ _ _ (T8.setTop (mkF m 121 #[.val (.int x0), .val (.int x1), .val (.int x2), .val (.int x3), .val (.int x4), .unset] [(.int (128 : Int32)), (.int x3), (.int (((x1 - (224 : Int32)) * (4096 : Int32)) + ((x2 - (128 : Int32)) * (64 : Int32))))]))
            refine g_isub X8 hx 122 (hb hby d1_121) rfl ?_
            show Go p e below s _ _ _ (T8.setTop (mkF m 122 #[.val (.int x0), .val (.int x1), .val (.int x2), .val (.int x3), .val (.int x4), .unset] [(.int (x3 - (128 : Int32))), (.int (((x1 - (224 : Int32)) * (4096 : Int32)) + ((x2 - (128 : Int32)) * (64 : Int32))))]))
            refine g_iadd X8 hx 123 (hb hby d1_122) rfl ?_
            show Go p e below s _ _ _ (T8.setTop (mkF m 123 #[.val (.int x0), .val (.int x1), .val (.int x2), .val (.int x3), .val (.int x4), .unset] [(.int ((((x1 - (224 : Int32)) * (4096 : Int32)) + ((x2 - (128 : Int32)) * (64 : Int32))) + (x3 - (128 : Int32))))]))
            refine g_istore X8 hx #[.val (.int x0), .val (.int x1), .val (.int x2), .val (.int x3), .val (.int x4), .val (.int ((((x1 - (224 : Int32)) * (4096 : Int32)) + ((x2 - (128 : Int32)) * (64 : Int32))) + (x3 - (128 : Int32))))] 125 (hb hby d1_123) rfl rfl ?_
            show Go p e below s _ _ _ (T8.setTop (mkF m 125 #[.val (.int x0), .val (.int x1), .val (.int x2), .val (.int x3), .val (.int x4), .val (.int ((((x1 - (224 : Int32)) * (4096 : Int32)) + ((x2 - (128 : Int32)) * (64 : Int32))) + (x3 - (128 : Int32))))] []))
            refine g_goto X8 hx 214 (hb hby d1_125) (by decide) rfl ?_
            show Go p e below s _ _ _ (T8.setTop (mkF m 214 #[.val (.int x0), .val (.int x1), .val (.int x2), .val (.int x3), .val (.int x4), .val (.int ((((x1 - (224 : Int32)) * (4096 : Int32)) + ((x2 - (128 : Int32)) * (64 : Int32))) + (x3 - (128 : Int32))))] []))
            refine g_iload X8 hx 216 (hb hby d1_214) rfl rfl ?_
            show Go p e below s _ _ _ (T8.setTop (mkF m 216 #[.val (.int x0), .val (.int x1), .val (.int x2), .val (.int x3), .val (.int x4), .val (.int ((((x1 - (224 : Int32)) * (4096 : Int32)) + ((x2 - (128 : Int32)) * (64 : Int32))) + (x3 - (128 : Int32))))] [(.int ((((x1 - (224 : Int32)) * (4096 : Int32)) + ((x2 - (128 : Int32)) * (64 : Int32))) + (x3 - (128 : Int32))))]))
            exact g_retI X8 hx hret hlk (hb hby d1_216) (by decide) (by decide) ⟨congrArg (fun z => some (Value.int z)) (show ((((x1 - (224 : Int32)) * (4096 : Int32)) + ((x2 - (128 : Int32)) * (64 : Int32))) + (x3 - (128 : Int32))) = (f1 x0 x1 x2 x3 x4) from by rw [f1, if_neg h1, if_pos h5, if_neg h7, if_neg h9, if_neg h10]), rfl, e8⟩
    · show Go p e below s _ _ _ (T0.setTop (mkF m 128 #[.val (.int x0), .val (.int x1), .val (.int x2), .val (.int x3), .val (.int x4), .unset] []))
      refine g_iloadN X0 hx 129 (hb hby d1_128) rfl rfl ?_
      show Go p e below s _ _ _ (T0.setTop (mkF m 129 #[.val (.int x0), .val (.int x1), .val (.int x2), .val (.int x3), .val (.int x4), .unset] [(.int x2)]))
      refine g_callS X0 hx hZ hown (hw _ (List.mem_of_getElem? (i := 5) rfl)) (hw _ (List.mem_of_getElem? (i := 6) rfl)) (hw _ (List.mem_of_getElem? (i := 3) rfl)) (hw _ (List.mem_of_getElem? (i := 7) rfl)) (by decide) e0 (rm2 l Z a0 hw [] x2 h0) [(.int x2)] [] 0 rfl (lenOf pd__28I_29Z rfl) rfl (Nat.le_of_eq rfl) (by decide) (by decide) (by decide) (by decide) (by rw [hml]; rfl) (hb hby d1_129) ?_
      intro T12 L12 v12 X12 q12
      obtain ⟨rfl, rfl, e12⟩ := q12
      show Go p e below s _ _ _ (T12.setTop (mkF m 132 #[.val (.int x0), .val (.int x1), .val (.int x2), .val (.int x3), .val (.int x4), .unset] [(.int (f2 x2))]))
      refine g_if0_eq X12 hx 150 135 (hb hby d1_132) (by decide) rfl rfl (fun h13 => ?_) (fun h13 => ?_)
      · show Go p e below s _ _ _ (T12.setTop (mkF m 150 #[.val (.int x0), .val (.int x1), .val (.int x2), .val (.int x3), .val (.int x4), .unset] []))
        refine g_bipush X12 hx (-2 : Int32) 152 (hb hby d1_150) rfl rfl ?_
        show Go p e below s _ _ _ (T12.setTop (mkF m 152 #[.val (.int x0), .val (.int x1), .val (.int x2), .val (.int x3), .val (.int x4), .unset] [(.int (-2 : Int32))]))
        refine g_istore X12 hx #[.val (.int x0), .val (.int x1), .val (.int x2), .val (.int x3), .val (.int x4), .val (.int (-2 : Int32))] 154 (hb hby d1_152) rfl rfl ?_
        show Go p e below s _ _ _ (T12.setTop (mkF m 154 #[.val (.int x0), .val (.int x1), .val (.int x2), .val (.int x3), .val (.int x4), .val (.int (-2 : Int32))] []))
        refine g_goto X12 hx 214 (hb hby d1_154) (by decide) rfl ?_
        show Go p e below s _ _ _ (T12.setTop (mkF m 214 #[.val (.int x0), .val (.int x1), .val (.int x2), .val (.int x3), .val (.int x4), .val (.int (-2 : Int32))] []))
        refine g_iload X12 hx 216 (hb hby d1_214) rfl rfl ?_
        show Go p e below s _ _ _ (T12.setTop (mkF m 216 #[.val (.int x0), .val (.int x1), .val (.int x2), .val (.int x3), .val (.int x4), .val (.int (-2 : Int32))] [(.int (-2 : Int32))]))
        exact g_retI X12 hx hret hlk (hb hby d1_216) (by decide) (by decide) ⟨congrArg (fun z => some (Value.int z)) (show (-2 : Int32) = (f1 x0 x1 x2 x3 x4) from by rw [f1, if_neg h1, if_neg h5, if_pos h13]), rfl, e12⟩
      · show Go p e below s _ _ _ (T12.setTop (mkF m 135 #[.val (.int x0), .val (.int x1), .val (.int x2), .val (.int x3), .val (.int x4), .unset] []))
        refine g_iloadN X12 hx 136 (hb hby d1_135) rfl rfl ?_
        show Go p e below s _ _ _ (T12.setTop (mkF m 136 #[.val (.int x0), .val (.int x1), .val (.int x2), .val (.int x3), .val (.int x4), .unset] [(.int x3)]))
        refine g_callS X12 hx hZ hown (hw _ (List.mem_of_getElem? (i := 5) rfl)) (hw _ (List.mem_of_getElem? (i := 6) rfl)) (hw _ (List.mem_of_getElem? (i := 3) rfl)) (hw _ (List.mem_of_getElem? (i := 7) rfl)) (by decide) e12 (rm2 l Z a0 hw [] x3 h0) [(.int x3)] [] 0 rfl (lenOf pd__28I_29Z rfl) rfl (Nat.le_of_eq rfl) (by decide) (by decide) (by decide) (by decide) (by rw [hml]; rfl) (hb hby d1_136) ?_
        intro T14 L14 v14 X14 q14
        obtain ⟨rfl, rfl, e14⟩ := q14
        show Go p e below s _ _ _ (T14.setTop (mkF m 139 #[.val (.int x0), .val (.int x1), .val (.int x2), .val (.int x3), .val (.int x4), .unset] [(.int (f2 x3))]))
        refine g_if0_eq X14 hx 150 142 (hb hby d1_139) (by decide) rfl rfl (fun h15 => ?_) (fun h15 => ?_)
        · show Go p e below s _ _ _ (T14.setTop (mkF m 150 #[.val (.int x0), .val (.int x1), .val (.int x2), .val (.int x3), .val (.int x4), .unset] []))
          refine g_bipush X14 hx (-2 : Int32) 152 (hb hby d1_150) rfl rfl ?_
          show Go p e below s _ _ _ (T14.setTop (mkF m 152 #[.val (.int x0), .val (.int x1), .val (.int x2), .val (.int x3), .val (.int x4), .unset] [(.int (-2 : Int32))]))
          refine g_istore X14 hx #[.val (.int x0), .val (.int x1), .val (.int x2), .val (.int x3), .val (.int x4), .val (.int (-2 : Int32))] 154 (hb hby d1_152) rfl rfl ?_
          show Go p e below s _ _ _ (T14.setTop (mkF m 154 #[.val (.int x0), .val (.int x1), .val (.int x2), .val (.int x3), .val (.int x4), .val (.int (-2 : Int32))] []))
          refine g_goto X14 hx 214 (hb hby d1_154) (by decide) rfl ?_
          show Go p e below s _ _ _ (T14.setTop (mkF m 214 #[.val (.int x0), .val (.int x1), .val (.int x2), .val (.int x3), .val (.int x4), .val (.int (-2 : Int32))] []))
          refine g_iload X14 hx 216 (hb hby d1_214) rfl rfl ?_
          show Go p e below s _ _ _ (T14.setTop (mkF m 216 #[.val (.int x0), .val (.int x1), .val (.int x2), .val (.int x3), .val (.int x4), .val (.int (-2 : Int32))] [(.int (-2 : Int32))]))
          exact g_retI X14 hx hret hlk (hb hby d1_216) (by decide) (by decide) ⟨congrArg (fun z => some (Value.int z)) (show (-2 : Int32) = (f1 x0 x1 x2 x3 x4) from by rw [f1, if_neg h1, if_neg h5, if_neg h13, if_pos h15]), rfl, e14⟩
        · show Go p e below s _ _ _ (T14.setTop (mkF m 142 #[.val (.int x0), .val (.int x1), .val (.int x2), .val (.int x3), .val (.int x4), .unset] []))
          refine g_iload X14 hx 144 (hb hby d1_142) rfl rfl ?_
          show Go p e below s _ _ _ (T14.setTop (mkF m 144 #[.val (.int x0), .val (.int x1), .val (.int x2), .val (.int x3), .val (.int x4), .unset] [(.int x4)]))
          refine g_callS X14 hx hZ hown (hw _ (List.mem_of_getElem? (i := 5) rfl)) (hw _ (List.mem_of_getElem? (i := 6) rfl)) (hw _ (List.mem_of_getElem? (i := 3) rfl)) (hw _ (List.mem_of_getElem? (i := 7) rfl)) (by decide) e14 (rm2 l Z a0 hw [] x4 h0) [(.int x4)] [] 0 rfl (lenOf pd__28I_29Z rfl) rfl (Nat.le_of_eq rfl) (by decide) (by decide) (by decide) (by decide) (by rw [hml]; rfl) (hb hby d1_144) ?_
          intro T16 L16 v16 X16 q16
          obtain ⟨rfl, rfl, e16⟩ := q16
          show Go p e below s _ _ _ (T16.setTop (mkF m 147 #[.val (.int x0), .val (.int x1), .val (.int x2), .val (.int x3), .val (.int x4), .unset] [(.int (f2 x4))]))
          refine g_if0_ne X16 hx 157 150 (hb hby d1_147) (by decide) rfl rfl (fun h17 => ?_) (fun h17 => ?_)
          · show Go p e below s _ _ _ (T16.setTop (mkF m 150 #[.val (.int x0), .val (.int x1), .val (.int x2), .val (.int x3), .val (.int x4), .unset] []))
            refine g_bipush X16 hx (-2 : Int32) 152 (hb hby d1_150) rfl rfl ?_
            show Go p e below s _ _ _ (T16.setTop (mkF m 152 #[.val (.int x0), .val (.int x1), .val (.int x2), .val (.int x3), .val (.int x4), .unset] [(.int (-2 : Int32))]))
            refine g_istore X16 hx #[.val (.int x0), .val (.int x1), .val (.int x2), .val (.int x3), .val (.int x4), .val (.int (-2 : Int32))] 154 (hb hby d1_152) rfl rfl ?_
            show Go p e below s _ _ _ (T16.setTop (mkF m 154 #[.val (.int x0), .val (.int x1), .val (.int x2), .val (.int x3), .val (.int x4), .val (.int (-2 : Int32))] []))
            refine g_goto X16 hx 214 (hb hby d1_154) (by decide) rfl ?_
            show Go p e below s _ _ _ (T16.setTop (mkF m 214 #[.val (.int x0), .val (.int x1), .val (.int x2), .val (.int x3), .val (.int x4), .val (.int (-2 : Int32))] []))
            refine g_iload X16 hx 216 (hb hby d1_214) rfl rfl ?_
            show Go p e below s _ _ _ (T16.setTop (mkF m 216 #[.val (.int x0), .val (.int x1), .val (.int x2), .val (.int x3), .val (.int x4), .val (.int (-2 : Int32))] [(.int (-2 : Int32))]))
            exact g_retI X16 hx hret hlk (hb hby d1_216) (by decide) (by decide) ⟨congrArg (fun z => some (Value.int z)) (show (-2 : Int32) = (f1 x0 x1 x2 x3 x4) from by rw [f1, if_neg h1, if_neg h5, if_neg h13, if_neg h15, if_pos h17]), rfl, e16⟩
          · show Go p e below s _ _ _ (T16.setTop (mkF m 157 #[.val (.int x0), .val (.int x1), .val (.int x2), .val (.int x3), .val (.int x4), .unset] []))
            refine g_iloadN X16 hx 158 (hb hby d1_157) rfl rfl ?_
            show Go p e below s _ _ _ (T16.setTop (mkF m 158 #[.val (.int x0), .val (.int x1), .val (.int x2), .val (.int x3), .val (.int x4), .unset] [(.int x1)]))
            refine g_sipush X16 hx (240 : Int32) 161 (hb hby d1_158) rfl rfl ?_
            show Go p e below s _ _ _ (T16.setTop (mkF m 161 #[.val (.int x0), .val (.int x1), .val (.int x2), .val (.int x3), .val (.int x4), .unset] [(.int (240 : Int32)), (.int x1)]))
            refine g_icmp_ne X16 hx 178 164 (hb hby d1_161) (by decide) rfl rfl (fun h18 => ?_) (fun h18 => ?_)
            · show Go p e below s _ _ _ (T16.setTop (mkF m 164 #[.val (.int x0), .val (.int x1), .val (.int x2), .val (.int x3), .val (.int x4), .unset] []))
              refine g_iloadN X16 hx 165 (hb hby d1_164) rfl rfl ?_
              show Go p e below s _ _ _ (T16.setTop (mkF m 165 #[.val (.int x0), .val (.int x1), .val (.int x2), .val (.int x3), .val (.int x4), .unset] [(.int x2)]))
              refine g_sipush X16 hx (144 : Int32) 168 (hb hby d1_165) rfl rfl ?_
              show Go p e below s _ _ _ (T16.setTop (mkF m 168 #[.val (.int x0), .val (.int x1), .val (.int x2), .val (.int x3), .val (.int x4), .unset] [(.int (144 : Int32)), (.int x2)]))
              refine g_icmp_ge X16 hx 178 171 (hb hby d1_168) (by decide) rfl rfl (fun h19 => ?_) (fun h19 => ?_)
              · show Go p e below s _ _ _ (T16.setTop (mkF m 171 #[.val (.int x0), .val (.int x1), .val (.int x2), .val (.int x3), .val (.int x4), .unset] []))
                refine g_bipush X16 hx (-2 : Int32) 173 (hb hby d1_171) rfl rfl ?_
                show Go p e below s _ _ _ (T16.setTop (mkF m 173 #[.val (.int x0), .val (.int x1), .val (.int x2), .val (.int x3), .val (.int x4), .unset] [(.int (-2 : Int32))]))
                refine g_istore X16 hx #[.val (.int x0), .val (.int x1), .val (.int x2), .val (.int x3), .val (.int x4), .val (.int (-2 : Int32))] 175 (hb hby d1_173) rfl rfl ?_
                show Go p e below s _ _ _ (T16.setTop (mkF m 175 #[.val (.int x0), .val (.int x1), .val (.int x2), .val (.int x3), .val (.int x4), .val (.int (-2 : Int32))] []))
                refine g_goto X16 hx 214 (hb hby d1_175) (by decide) rfl ?_
                show Go p e below s _ _ _ (T16.setTop (mkF m 214 #[.val (.int x0), .val (.int x1), .val (.int x2), .val (.int x3), .val (.int x4), .val (.int (-2 : Int32))] []))
                refine g_iload X16 hx 216 (hb hby d1_214) rfl rfl ?_
                show Go p e below s _ _ _ (T16.setTop (mkF m 216 #[.val (.int x0), .val (.int x1), .val (.int x2), .val (.int x3), .val (.int x4), .val (.int (-2 : Int32))] [(.int (-2 : Int32))]))
                exact g_retI X16 hx hret hlk (hb hby d1_216) (by decide) (by decide) ⟨congrArg (fun z => some (Value.int z)) (show (-2 : Int32) = (f1 x0 x1 x2 x3 x4) from by rw [f1, if_neg h1, if_neg h5, if_neg h13, if_neg h15, if_neg h17, if_pos h18, if_pos h19]), rfl, e16⟩
              · show Go p e below s _ _ _ (T16.setTop (mkF m 178 #[.val (.int x0), .val (.int x1), .val (.int x2), .val (.int x3), .val (.int x4), .unset] []))
                refine g_iloadN X16 hx 179 (hb hby d1_178) rfl rfl ?_
                show Go p e below s _ _ _ (T16.setTop (mkF m 179 #[.val (.int x0), .val (.int x1), .val (.int x2), .val (.int x3), .val (.int x4), .unset] [(.int x1)]))
                refine g_sipush X16 hx (240 : Int32) 182 (hb hby d1_179) rfl rfl ?_
                show Go p e below s _ _ _ (T16.setTop (mkF m 182 #[.val (.int x0), .val (.int x1), .val (.int x2), .val (.int x3), .val (.int x4), .unset] [(.int (240 : Int32)), (.int x1)]))
                refine g_isub X16 hx 183 (hb hby d1_182) rfl ?_
                show Go p e below s _ _ _ (T16.setTop (mkF m 183 #[.val (.int x0), .val (.int x1), .val (.int x2), .val (.int x3), .val (.int x4), .unset] [(.int (x1 - (240 : Int32)))]))
                refine g_ldc X16 hx hZ hown (hw _ (List.mem_of_getElem? (i := 12) rfl)) 185 (hb hby d1_183) rfl ?_
                show Go p e below s _ _ _ (T16.setTop (mkF m 185 #[.val (.int x0), .val (.int x1), .val (.int x2), .val (.int x3), .val (.int x4), .unset] [(.int (262144 : Int32)), (.int (x1 - (240 : Int32)))]))
                refine g_imul X16 hx 186 (hb hby d1_185) rfl ?_
                show Go p e below s _ _ _ (T16.setTop (mkF m 186 #[.val (.int x0), .val (.int x1), .val (.int x2), .val (.int x3), .val (.int x4), .unset] [(.int ((x1 - (240 : Int32)) * (262144 : Int32)))]))
                refine g_iloadN X16 hx 187 (hb hby d1_186) rfl rfl ?_
                show Go p e below s _ _ _ (T16.setTop (mkF m 187 #[.val (.int x0), .val (.int x1), .val (.int x2), .val (.int x3), .val (.int x4), .unset] [(.int x2), (.int ((x1 - (240 : Int32)) * (262144 : Int32)))]))
                refine g_sipush X16 hx (128 : Int32) 190 (hb hby d1_187) rfl rfl ?_
                show Go p e below s _ _ _ (T16.setTop (mkF m 190 #[.val (.int x0), .val (.int x1), .val (.int x2), .val (.int x3), .val (.int x4), .unset] [(.int (128 : Int32)), (.int x2), (.int ((x1 - (240 : Int32)) * (262144 : Int32)))]))
                refine g_isub X16 hx 191 (hb hby d1_190) rfl ?_
                show Go p e below s _ _ _ (T16.setTop (mkF m 191 #[.val (.int x0), .val (.int x1), .val (.int x2), .val (.int x3), .val (.int x4), .unset] [(.int (x2 - (128 : Int32))), (.int ((x1 - (240 : Int32)) * (262144 : Int32)))]))
                refine g_sipush X16 hx (4096 : Int32) 194 (hb hby d1_191) rfl rfl ?_
                show Go p e below s _ _ _ (T16.setTop (mkF m 194 #[.val (.int x0), .val (.int x1), .val (.int x2), .val (.int x3), .val (.int x4), .unset] [(.int (4096 : Int32)), (.int (x2 - (128 : Int32))), (.int ((x1 - (240 : Int32)) * (262144 : Int32)))]))
                refine g_imul X16 hx 195 (hb hby d1_194) rfl ?_
                show Go p e below s _ _ _ (T16.setTop (mkF m 195 #[.val (.int x0), .val (.int x1), .val (.int x2), .val (.int x3), .val (.int x4), .unset] [(.int ((x2 - (128 : Int32)) * (4096 : Int32))), (.int ((x1 - (240 : Int32)) * (262144 : Int32)))]))
                refine g_iadd X16 hx 196 (hb hby d1_195) rfl ?_
                show Go p e below s _ _ _ (T16.setTop (mkF m 196 #[.val (.int x0), .val (.int x1), .val (.int x2), .val (.int x3), .val (.int x4), .unset] [(.int (((x1 - (240 : Int32)) * (262144 : Int32)) + ((x2 - (128 : Int32)) * (4096 : Int32))))]))
                refine g_iloadN X16 hx 197 (hb hby d1_196) rfl rfl ?_
                show Go p e below s _ _ _ (T16.setTop (mkF m 197 #[.val (.int x0), .val (.int x1), .val (.int x2), .val (.int x3), .val (.int x4), .unset] [(.int x3), (.int (((x1 - (240 : Int32)) * (262144 : Int32)) + ((x2 - (128 : Int32)) * (4096 : Int32))))]))
                refine g_sipush X16 hx (128 : Int32) 200 (hb hby d1_197) rfl rfl ?_
                show Go p e below s _ _ _ (T16.setTop (mkF m 200 #[.val (.int x0), .val (.int x1), .val (.int x2), .val (.int x3), .val (.int x4), .unset] [(.int (128 : Int32)), (.int x3), (.int (((x1 - (240 : Int32)) * (262144 : Int32)) + ((x2 - (128 : Int32)) * (4096 : Int32))))]))
                refine g_isub X16 hx 201 (hb hby d1_200) rfl ?_
                show Go p e below s _ _ _ (T16.setTop (mkF m 201 #[.val (.int x0), .val (.int x1), .val (.int x2), .val (.int x3), .val (.int x4), .unset] [(.int (x3 - (128 : Int32))), (.int (((x1 - (240 : Int32)) * (262144 : Int32)) + ((x2 - (128 : Int32)) * (4096 : Int32))))]))
                refine g_bipush X16 hx (64 : Int32) 203 (hb hby d1_201) rfl rfl ?_
                show Go p e below s _ _ _ (T16.setTop (mkF m 203 #[.val (.int x0), .val (.int x1), .val (.int x2), .val (.int x3), .val (.int x4), .unset] [(.int (64 : Int32)), (.int (x3 - (128 : Int32))), (.int (((x1 - (240 : Int32)) * (262144 : Int32)) + ((x2 - (128 : Int32)) * (4096 : Int32))))]))
                refine g_imul X16 hx 204 (hb hby d1_203) rfl ?_
                show Go p e below s _ _ _ (T16.setTop (mkF m 204 #[.val (.int x0), .val (.int x1), .val (.int x2), .val (.int x3), .val (.int x4), .unset] [(.int ((x3 - (128 : Int32)) * (64 : Int32))), (.int (((x1 - (240 : Int32)) * (262144 : Int32)) + ((x2 - (128 : Int32)) * (4096 : Int32))))]))
                refine g_iadd X16 hx 205 (hb hby d1_204) rfl ?_
                show Go p e below s _ _ _ (T16.setTop (mkF m 205 #[.val (.int x0), .val (.int x1), .val (.int x2), .val (.int x3), .val (.int x4), .unset] [(.int ((((x1 - (240 : Int32)) * (262144 : Int32)) + ((x2 - (128 : Int32)) * (4096 : Int32))) + ((x3 - (128 : Int32)) * (64 : Int32))))]))
                refine g_iload X16 hx 207 (hb hby d1_205) rfl rfl ?_
                show Go p e below s _ _ _ (T16.setTop (mkF m 207 #[.val (.int x0), .val (.int x1), .val (.int x2), .val (.int x3), .val (.int x4), .unset] [(.int x4), (.int ((((x1 - (240 : Int32)) * (262144 : Int32)) + ((x2 - (128 : Int32)) * (4096 : Int32))) + ((x3 - (128 : Int32)) * (64 : Int32))))]))
                refine g_sipush X16 hx (128 : Int32) 210 (hb hby d1_207) rfl rfl ?_
                show Go p e below s _ _ _ (T16.setTop (mkF m 210 #[.val (.int x0), .val (.int x1), .val (.int x2), .val (.int x3), .val (.int x4), .unset] [(.int (128 : Int32)), (.int x4), (.int ((((x1 - (240 : Int32)) * (262144 : Int32)) + ((x2 - (128 : Int32)) * (4096 : Int32))) + ((x3 - (128 : Int32)) * (64 : Int32))))]))
                refine g_isub X16 hx 211 (hb hby d1_210) rfl ?_
                show Go p e below s _ _ _ (T16.setTop (mkF m 211 #[.val (.int x0), .val (.int x1), .val (.int x2), .val (.int x3), .val (.int x4), .unset] [(.int (x4 - (128 : Int32))), (.int ((((x1 - (240 : Int32)) * (262144 : Int32)) + ((x2 - (128 : Int32)) * (4096 : Int32))) + ((x3 - (128 : Int32)) * (64 : Int32))))]))
                refine g_iadd X16 hx 212 (hb hby d1_211) rfl ?_
                show Go p e below s _ _ _ (T16.setTop (mkF m 212 #[.val (.int x0), .val (.int x1), .val (.int x2), .val (.int x3), .val (.int x4), .unset] [(.int (((((x1 - (240 : Int32)) * (262144 : Int32)) + ((x2 - (128 : Int32)) * (4096 : Int32))) + ((x3 - (128 : Int32)) * (64 : Int32))) + (x4 - (128 : Int32))))]))
                refine g_istore X16 hx #[.val (.int x0), .val (.int x1), .val (.int x2), .val (.int x3), .val (.int x4), .val (.int (((((x1 - (240 : Int32)) * (262144 : Int32)) + ((x2 - (128 : Int32)) * (4096 : Int32))) + ((x3 - (128 : Int32)) * (64 : Int32))) + (x4 - (128 : Int32))))] 214 (hb hby d1_212) rfl rfl ?_
                show Go p e below s _ _ _ (T16.setTop (mkF m 214 #[.val (.int x0), .val (.int x1), .val (.int x2), .val (.int x3), .val (.int x4), .val (.int (((((x1 - (240 : Int32)) * (262144 : Int32)) + ((x2 - (128 : Int32)) * (4096 : Int32))) + ((x3 - (128 : Int32)) * (64 : Int32))) + (x4 - (128 : Int32))))] []))
                refine g_iload X16 hx 216 (hb hby d1_214) rfl rfl ?_
                show Go p e below s _ _ _ (T16.setTop (mkF m 216 #[.val (.int x0), .val (.int x1), .val (.int x2), .val (.int x3), .val (.int x4), .val (.int (((((x1 - (240 : Int32)) * (262144 : Int32)) + ((x2 - (128 : Int32)) * (4096 : Int32))) + ((x3 - (128 : Int32)) * (64 : Int32))) + (x4 - (128 : Int32))))] [(.int (((((x1 - (240 : Int32)) * (262144 : Int32)) + ((x2 - (128 : Int32)) * (4096 : Int32))) + ((x3 - (128 : Int32)) * (64 : Int32))) + (x4 - (128 : Int32))))]))
                exact g_retI X16 hx hret hlk (hb hby d1_216) (by decide) (by decide) ⟨congrArg (fun z => some (Value.int z)) (show (((((x1 - (240 : Int32)) * (262144 : Int32)) + ((x2 - (128 : Int32)) * (4096 : Int32))) + ((x3 - (128 : Int32)) * (64 : Int32))) + (x4 - (128 : Int32))) = (f1 x0 x1 x2 x3 x4) from by rw [f1, if_neg h1, if_neg h5, if_neg h13, if_neg h15, if_neg h17, if_pos h18, if_neg h19]), rfl, e16⟩
            · show Go p e below s _ _ _ (T16.setTop (mkF m 178 #[.val (.int x0), .val (.int x1), .val (.int x2), .val (.int x3), .val (.int x4), .unset] []))
              refine g_iloadN X16 hx 179 (hb hby d1_178) rfl rfl ?_
              show Go p e below s _ _ _ (T16.setTop (mkF m 179 #[.val (.int x0), .val (.int x1), .val (.int x2), .val (.int x3), .val (.int x4), .unset] [(.int x1)]))
              refine g_sipush X16 hx (240 : Int32) 182 (hb hby d1_179) rfl rfl ?_
              show Go p e below s _ _ _ (T16.setTop (mkF m 182 #[.val (.int x0), .val (.int x1), .val (.int x2), .val (.int x3), .val (.int x4), .unset] [(.int (240 : Int32)), (.int x1)]))
              refine g_isub X16 hx 183 (hb hby d1_182) rfl ?_
              show Go p e below s _ _ _ (T16.setTop (mkF m 183 #[.val (.int x0), .val (.int x1), .val (.int x2), .val (.int x3), .val (.int x4), .unset] [(.int (x1 - (240 : Int32)))]))
              refine g_ldc X16 hx hZ hown (hw _ (List.mem_of_getElem? (i := 12) rfl)) 185 (hb hby d1_183) rfl ?_
              show Go p e below s _ _ _ (T16.setTop (mkF m 185 #[.val (.int x0), .val (.int x1), .val (.int x2), .val (.int x3), .val (.int x4), .unset] [(.int (262144 : Int32)), (.int (x1 - (240 : Int32)))]))
              refine g_imul X16 hx 186 (hb hby d1_185) rfl ?_
              show Go p e below s _ _ _ (T16.setTop (mkF m 186 #[.val (.int x0), .val (.int x1), .val (.int x2), .val (.int x3), .val (.int x4), .unset] [(.int ((x1 - (240 : Int32)) * (262144 : Int32)))]))
              refine g_iloadN X16 hx 187 (hb hby d1_186) rfl rfl ?_
              show Go p e below s _ _ _ (T16.setTop (mkF m 187 #[.val (.int x0), .val (.int x1), .val (.int x2), .val (.int x3), .val (.int x4), .unset] [(.int x2), (.int ((x1 - (240 : Int32)) * (262144 : Int32)))]))
              refine g_sipush X16 hx (128 : Int32) 190 (hb hby d1_187) rfl rfl ?_
              show Go p e below s _ _ _ (T16.setTop (mkF m 190 #[.val (.int x0), .val (.int x1), .val (.int x2), .val (.int x3), .val (.int x4), .unset] [(.int (128 : Int32)), (.int x2), (.int ((x1 - (240 : Int32)) * (262144 : Int32)))]))
              refine g_isub X16 hx 191 (hb hby d1_190) rfl ?_
              show Go p e below s _ _ _ (T16.setTop (mkF m 191 #[.val (.int x0), .val (.int x1), .val (.int x2), .val (.int x3), .val (.int x4), .unset] [(.int (x2 - (128 : Int32))), (.int ((x1 - (240 : Int32)) * (262144 : Int32)))]))
              refine g_sipush X16 hx (4096 : Int32) 194 (hb hby d1_191) rfl rfl ?_
              show Go p e below s _ _ _ (T16.setTop (mkF m 194 #[.val (.int x0), .val (.int x1), .val (.int x2), .val (.int x3), .val (.int x4), .unset] [(.int (4096 : Int32)), (.int (x2 - (128 : Int32))), (.int ((x1 - (240 : Int32)) * (262144 : Int32)))]))
              refine g_imul X16 hx 195 (hb hby d1_194) rfl ?_
              show Go p e below s _ _ _ (T16.setTop (mkF m 195 #[.val (.int x0), .val (.int x1), .val (.int x2), .val (.int x3), .val (.int x4), .unset] [(.int ((x2 - (128 : Int32)) * (4096 : Int32))), (.int ((x1 - (240 : Int32)) * (262144 : Int32)))]))
              refine g_iadd X16 hx 196 (hb hby d1_195) rfl ?_
              show Go p e below s _ _ _ (T16.setTop (mkF m 196 #[.val (.int x0), .val (.int x1), .val (.int x2), .val (.int x3), .val (.int x4), .unset] [(.int (((x1 - (240 : Int32)) * (262144 : Int32)) + ((x2 - (128 : Int32)) * (4096 : Int32))))]))
              refine g_iloadN X16 hx 197 (hb hby d1_196) rfl rfl ?_
              show Go p e below s _ _ _ (T16.setTop (mkF m 197 #[.val (.int x0), .val (.int x1), .val (.int x2), .val (.int x3), .val (.int x4), .unset] [(.int x3), (.int (((x1 - (240 : Int32)) * (262144 : Int32)) + ((x2 - (128 : Int32)) * (4096 : Int32))))]))
              refine g_sipush X16 hx (128 : Int32) 200 (hb hby d1_197) rfl rfl ?_
              show Go p e below s _ _ _ (T16.setTop (mkF m 200 #[.val (.int x0), .val (.int x1), .val (.int x2), .val (.int x3), .val (.int x4), .unset] [(.int (128 : Int32)), (.int x3), (.int (((x1 - (240 : Int32)) * (262144 : Int32)) + ((x2 - (128 : Int32)) * (4096 : Int32))))]))
              refine g_isub X16 hx 201 (hb hby d1_200) rfl ?_
              show Go p e below s _ _ _ (T16.setTop (mkF m 201 #[.val (.int x0), .val (.int x1), .val (.int x2), .val (.int x3), .val (.int x4), .unset] [(.int (x3 - (128 : Int32))), (.int (((x1 - (240 : Int32)) * (262144 : Int32)) + ((x2 - (128 : Int32)) * (4096 : Int32))))]))
              refine g_bipush X16 hx (64 : Int32) 203 (hb hby d1_201) rfl rfl ?_
              show Go p e below s _ _ _ (T16.setTop (mkF m 203 #[.val (.int x0), .val (.int x1), .val (.int x2), .val (.int x3), .val (.int x4), .unset] [(.int (64 : Int32)), (.int (x3 - (128 : Int32))), (.int (((x1 - (240 : Int32)) * (262144 : Int32)) + ((x2 - (128 : Int32)) * (4096 : Int32))))]))
              refine g_imul X16 hx 204 (hb hby d1_203) rfl ?_
              show Go p e below s _ _ _ (T16.setTop (mkF m 204 #[.val (.int x0), .val (.int x1), .val (.int x2), .val (.int x3), .val (.int x4), .unset] [(.int ((x3 - (128 : Int32)) * (64 : Int32))), (.int (((x1 - (240 : Int32)) * (262144 : Int32)) + ((x2 - (128 : Int32)) * (4096 : Int32))))]))
              refine g_iadd X16 hx 205 (hb hby d1_204) rfl ?_
              show Go p e below s _ _ _ (T16.setTop (mkF m 205 #[.val (.int x0), .val (.int x1), .val (.int x2), .val (.int x3), .val (.int x4), .unset] [(.int ((((x1 - (240 : Int32)) * (262144 : Int32)) + ((x2 - (128 : Int32)) * (4096 : Int32))) + ((x3 - (128 : Int32)) * (64 : Int32))))]))
              refine g_iload X16 hx 207 (hb hby d1_205) rfl rfl ?_
              show Go p e below s _ _ _ (T16.setTop (mkF m 207 #[.val (.int x0), .val (.int x1), .val (.int x2), .val (.int x3), .val (.int x4), .unset] [(.int x4), (.int ((((x1 - (240 : Int32)) * (262144 : Int32)) + ((x2 - (128 : Int32)) * (4096 : Int32))) + ((x3 - (128 : Int32)) * (64 : Int32))))]))
              refine g_sipush X16 hx (128 : Int32) 210 (hb hby d1_207) rfl rfl ?_
              show Go p e below s _ _ _ (T16.setTop (mkF m 210 #[.val (.int x0), .val (.int x1), .val (.int x2), .val (.int x3), .val (.int x4), .unset] [(.int (128 : Int32)), (.int x4), (.int ((((x1 - (240 : Int32)) * (262144 : Int32)) + ((x2 - (128 : Int32)) * (4096 : Int32))) + ((x3 - (128 : Int32)) * (64 : Int32))))]))
              refine g_isub X16 hx 211 (hb hby d1_210) rfl ?_
              show Go p e below s _ _ _ (T16.setTop (mkF m 211 #[.val (.int x0), .val (.int x1), .val (.int x2), .val (.int x3), .val (.int x4), .unset] [(.int (x4 - (128 : Int32))), (.int ((((x1 - (240 : Int32)) * (262144 : Int32)) + ((x2 - (128 : Int32)) * (4096 : Int32))) + ((x3 - (128 : Int32)) * (64 : Int32))))]))
              refine g_iadd X16 hx 212 (hb hby d1_211) rfl ?_
              show Go p e below s _ _ _ (T16.setTop (mkF m 212 #[.val (.int x0), .val (.int x1), .val (.int x2), .val (.int x3), .val (.int x4), .unset] [(.int (((((x1 - (240 : Int32)) * (262144 : Int32)) + ((x2 - (128 : Int32)) * (4096 : Int32))) + ((x3 - (128 : Int32)) * (64 : Int32))) + (x4 - (128 : Int32))))]))
              refine g_istore X16 hx #[.val (.int x0), .val (.int x1), .val (.int x2), .val (.int x3), .val (.int x4), .val (.int (((((x1 - (240 : Int32)) * (262144 : Int32)) + ((x2 - (128 : Int32)) * (4096 : Int32))) + ((x3 - (128 : Int32)) * (64 : Int32))) + (x4 - (128 : Int32))))] 214 (hb hby d1_212) rfl rfl ?_
              show Go p e below s _ _ _ (T16.setTop (mkF m 214 #[.val (.int x0), .val (.int x1), .val (.int x2), .val (.int x3), .val (.int x4), .val (.int (((((x1 - (240 : Int32)) * (262144 : Int32)) + ((x2 - (128 : Int32)) * (4096 : Int32))) + ((x3 - (128 : Int32)) * (64 : Int32))) + (x4 - (128 : Int32))))] []))
              refine g_iload X16 hx 216 (hb hby d1_214) rfl rfl ?_
              show Go p e below s _ _ _ (T16.setTop (mkF m 216 #[.val (.int x0), .val (.int x1), .val (.int x2), .val (.int x3), .val (.int x4), .val (.int (((((x1 - (240 : Int32)) * (262144 : Int32)) + ((x2 - (128 : Int32)) * (4096 : Int32))) + ((x3 - (128 : Int32)) * (64 : Int32))) + (x4 - (128 : Int32))))] [(.int (((((x1 - (240 : Int32)) * (262144 : Int32)) + ((x2 - (128 : Int32)) * (4096 : Int32))) + ((x3 - (128 : Int32)) * (64 : Int32))) + (x4 - (128 : Int32))))]))
              exact g_retI X16 hx hret hlk (hb hby d1_216) (by decide) (by decide) ⟨congrArg (fun z => some (Value.int z)) (show (((((x1 - (240 : Int32)) * (262144 : Int32)) + ((x2 - (128 : Int32)) * (4096 : Int32))) + ((x3 - (128 : Int32)) * (64 : Int32))) + (x4 - (128 : Int32))) = (f1 x0 x1 x2 x3 x4) from by rw [f1, if_neg h1, if_neg h5, if_neg h13, if_neg h15, if_neg h17, if_neg h18]), rfl, e16⟩
theorem d3_0 : decode prog_41_method_3_code 0 = .ok (.aload_n 0, 1) := by decide +kernel
theorem d3_1 : decode prog_41_method_3_code 1 = .ok (.iload_n 1, 1) := by decide +kernel
theorem d3_2 : decode prog_41_method_3_code 2 = .ok (.baload, 1) := by decide +kernel
theorem d3_3 : decode prog_41_method_3_code 3 = .ok (.bipush 127, 2) := by decide +kernel
theorem d3_5 : decode prog_41_method_3_code 5 = .ok (.iload_n 2, 1) := by decide +kernel
theorem d3_6 : decode prog_41_method_3_code 6 = .ok (.ishr, 1) := by decide +kernel
theorem d3_7 : decode prog_41_method_3_code 7 = .ok (.iand, 1) := by decide +kernel
theorem d3_8 : decode prog_41_method_3_code 8 = .ok (.istore_n 3, 1) := by decide +kernel
theorem d3_9 : decode prog_41_method_3_code 9 = .ok (.iconst 1, 1) := by decide +kernel
theorem d3_10 : decode prog_41_method_3_code 10 = .ok (.istore 4, 2) := by decide +kernel
theorem d3_12 : decode prog_41_method_3_code 12 = .ok (.iload 4, 2) := by decide +kernel
theorem d3_14 : decode prog_41_method_3_code 14 = .ok (.iload_n 2, 1) := by decide +kernel
theorem d3_15 : decode prog_41_method_3_code 15 = .ok (.if_icmp .ge 43, 3) := by decide +kernel
theorem d3_18 : decode prog_41_method_3_code 18 = .ok (.aload_n 0, 1) := by decide +kernel
theorem d3_19 : decode prog_41_method_3_code 19 = .ok (.iload_n 1, 1) := by decide +kernel
theorem d3_20 : decode prog_41_method_3_code 20 = .ok (.iload 4, 2) := by decide +kernel
theorem d3_22 : decode prog_41_method_3_code 22 = .ok (.iadd, 1) := by decide +kernel
theorem d3_23 : decode prog_41_method_3_code 23 = .ok (.baload, 1) := by decide +kernel
theorem d3_24 : decode prog_41_method_3_code 24 = .ok (.istore 5, 2) := by decide +kernel
theorem d3_26 : decode prog_41_method_3_code 26 = .ok (.iload 5, 2) := by decide +kernel
theorem d3_28 : decode prog_41_method_3_code 28 = .ok (.sipush 192, 3) := by decide +kernel
theorem d3_31 : decode prog_41_method_3_code 31 = .ok (.iand, 1) := by decide +kernel
theorem d3_32 : decode prog_41_method_3_code 32 = .ok (.sipush 128, 3) := by decide +kernel
theorem d3_35 : decode prog_41_method_3_code 35 = .ok (.if_icmp .eq 6, 3) := by decide +kernel
theorem d3_38 : decode prog_41_method_3_code 38 = .ok (.bipush (-2), 2) := by decide +kernel
theorem d3_40 : decode prog_41_method_3_code 40 = .ok (.ireturn, 1) := by decide +kernel
theorem d3_41 : decode prog_41_method_3_code 41 = .ok (.iload_n 3, 1) := by decide +kernel
theorem d3_42 : decode prog_41_method_3_code 42 = .ok (.bipush 6, 2) := by decide +kernel
theorem d3_44 : decode prog_41_method_3_code 44 = .ok (.ishl, 1) := by decide +kernel
theorem d3_45 : decode prog_41_method_3_code 45 = .ok (.iload 5, 2) := by decide +kernel
theorem d3_47 : decode prog_41_method_3_code 47 = .ok (.bipush 63, 2) := by decide +kernel
theorem d3_49 : decode prog_41_method_3_code 49 = .ok (.iand, 1) := by decide +kernel
theorem d3_50 : decode prog_41_method_3_code 50 = .ok (.ior, 1) := by decide +kernel
theorem d3_51 : decode prog_41_method_3_code 51 = .ok (.istore_n 3, 1) := by decide +kernel
theorem d3_52 : decode prog_41_method_3_code 52 = .ok (.iinc 4 1, 3) := by decide +kernel
theorem d3_55 : decode prog_41_method_3_code 55 = .ok (.goto (-43), 3) := by decide +kernel
theorem d3_58 : decode prog_41_method_3_code 58 = .ok (.iload_n 2, 1) := by decide +kernel
theorem d3_59 : decode prog_41_method_3_code 59 = .ok (.iconst 2, 1) := by decide +kernel
theorem d3_60 : decode prog_41_method_3_code 60 = .ok (.if_icmp .ne 11, 3) := by decide +kernel
theorem d3_63 : decode prog_41_method_3_code 63 = .ok (.sipush 128, 3) := by decide +kernel
theorem d3_66 : decode prog_41_method_3_code 66 = .ok (.istore 4, 2) := by decide +kernel
theorem d3_68 : decode prog_41_method_3_code 68 = .ok (.goto 20, 3) := by decide +kernel
theorem d3_71 : decode prog_41_method_3_code 71 = .ok (.iload_n 2, 1) := by decide +kernel
theorem d3_72 : decode prog_41_method_3_code 72 = .ok (.iconst 3, 1) := by decide +kernel
theorem d3_73 : decode prog_41_method_3_code 73 = .ok (.if_icmp .ne 11, 3) := by decide +kernel
theorem d3_76 : decode prog_41_method_3_code 76 = .ok (.sipush 2048, 3) := by decide +kernel
theorem d3_79 : decode prog_41_method_3_code 79 = .ok (.istore 4, 2) := by decide +kernel
theorem d3_81 : decode prog_41_method_3_code 81 = .ok (.goto 7, 3) := by decide +kernel
theorem d3_84 : decode prog_41_method_3_code 84 = .ok (.ldc 9, 2) := by decide +kernel
theorem d3_86 : decode prog_41_method_3_code 86 = .ok (.istore 4, 2) := by decide +kernel
theorem d3_88 : decode prog_41_method_3_code 88 = .ok (.iload_n 3, 1) := by decide +kernel
theorem d3_89 : decode prog_41_method_3_code 89 = .ok (.iload 4, 2) := by decide +kernel
theorem d3_91 : decode prog_41_method_3_code 91 = .ok (.if_icmp .ge 8, 3) := by decide +kernel
theorem d3_94 : decode prog_41_method_3_code 94 = .ok (.bipush (-2), 2) := by decide +kernel
theorem d3_96 : decode prog_41_method_3_code 96 = .ok (.goto 4, 3) := by decide +kernel
theorem d3_99 : decode prog_41_method_3_code 99 = .ok (.iload_n 3, 1) := by decide +kernel
theorem d3_100 : decode prog_41_method_3_code 100 = .ok (.ireturn, 1) := by decide +kernel
theorem pn_3 : plainName "com/example/strict_xmlns/strictxmlns/Utf8" = true := by first | (simp [plainName, overriddenIn]; done) | decide +kernel
theorem ef_3 (m : MethodId) (x0 : Addr) (x1 : Int32) (x2 : Int32) : entryFrame m #[(.ref x0), (.int x1), (.int x2)] 6 = mkF m 0 #[.val (.ref x0), .val (.int x1), .val (.int x2), .unset, .unset, .unset] [] := by first | (simp [entryFrame, mkF, argsToLocals, Value.category]; done) | rfl
def f3 (x2 : Int32) (g : Nat → Int32) (an : Nat) : Int32 := if ((g (an + 1)) &&& (192 : Int32)) = (128 : Int32) then (if ((1 : Int32) + (1 : Int32)) < x2 then (if ((g (an + 2)) &&& (192 : Int32)) = (128 : Int32) then (if (((1 : Int32) + (1 : Int32)) + (1 : Int32)) < x2 then (if ((g (an + 3)) &&& (192 : Int32)) = (128 : Int32) then (if x2 = (2 : Int32) then (if ((shlI ((shlI ((shlI ((g an) &&& (shrI (127 : Int32) x2)) (6 : Int32)) ||| ((g (an + 1)) &&& (63 : Int32))) (6 : Int32)) ||| ((g (an + 2)) &&& (63 : Int32))) (6 : Int32)) ||| ((g (an + 3)) &&& (63 : Int32))) < (128 : Int32) then (-2 : Int32) else ((shlI ((shlI ((shlI ((g an) &&& (shrI (127 : Int32) x2)) (6 : Int32)) ||| ((g (an + 1)) &&& (63 : Int32))) (6 : Int32)) ||| ((g (an + 2)) &&& (63 : Int32))) (6 : Int32)) ||| ((g (an + 3)) &&& (63 : Int32)))) else if x2 = (3 : Int32) then (if ((shlI ((shlI ((shlI ((g an) &&& (shrI (127 : Int32) x2)) (6 : Int32)) ||| ((g (an + 1)) &&& (63 : Int32))) (6 : Int32)) ||| ((g (an + 2)) &&& (63 : Int32))) (6 : Int32)) ||| ((g (an + 3)) &&& (63 : Int32))) < (2048 : Int32) then (-2 : Int32) else ((shlI ((shlI ((shlI ((g an) &&& (shrI (127 : Int32) x2)) (6 : Int32)) ||| ((g (an + 1)) &&& (63 : Int32))) (6 : Int32)) ||| ((g (an + 2)) &&& (63 : Int32))) (6 : Int32)) ||| ((g (an + 3)) &&& (63 : Int32)))) else if ((shlI ((shlI ((shlI ((g an) &&& (shrI (127 : Int32) x2)) (6 : Int32)) ||| ((g (an + 1)) &&& (63 : Int32))) (6 : Int32)) ||| ((g (an + 2)) &&& (63 : Int32))) (6 : Int32)) ||| ((g (an + 3)) &&& (63 : Int32))) < (65536 : Int32) then (-2 : Int32) else ((shlI ((shlI ((shlI ((g an) &&& (shrI (127 : Int32) x2)) (6 : Int32)) ||| ((g (an + 1)) &&& (63 : Int32))) (6 : Int32)) ||| ((g (an + 2)) &&& (63 : Int32))) (6 : Int32)) ||| ((g (an + 3)) &&& (63 : Int32)))) else (-2 : Int32)) else if x2 = (2 : Int32) then (if ((shlI ((shlI ((g an) &&& (shrI (127 : Int32) x2)) (6 : Int32)) ||| ((g (an + 1)) &&& (63 : Int32))) (6 : Int32)) ||| ((g (an + 2)) &&& (63 : Int32))) < (128 : Int32) then (-2 : Int32) else ((shlI ((shlI ((g an) &&& (shrI (127 : Int32) x2)) (6 : Int32)) ||| ((g (an + 1)) &&& (63 : Int32))) (6 : Int32)) ||| ((g (an + 2)) &&& (63 : Int32)))) else if x2 = (3 : Int32) then (if ((shlI ((shlI ((g an) &&& (shrI (127 : Int32) x2)) (6 : Int32)) ||| ((g (an + 1)) &&& (63 : Int32))) (6 : Int32)) ||| ((g (an + 2)) &&& (63 : Int32))) < (2048 : Int32) then (-2 : Int32) else ((shlI ((shlI ((g an) &&& (shrI (127 : Int32) x2)) (6 : Int32)) ||| ((g (an + 1)) &&& (63 : Int32))) (6 : Int32)) ||| ((g (an + 2)) &&& (63 : Int32)))) else if ((shlI ((shlI ((g an) &&& (shrI (127 : Int32) x2)) (6 : Int32)) ||| ((g (an + 1)) &&& (63 : Int32))) (6 : Int32)) ||| ((g (an + 2)) &&& (63 : Int32))) < (65536 : Int32) then (-2 : Int32) else ((shlI ((shlI ((g an) &&& (shrI (127 : Int32) x2)) (6 : Int32)) ||| ((g (an + 1)) &&& (63 : Int32))) (6 : Int32)) ||| ((g (an + 2)) &&& (63 : Int32)))) else (-2 : Int32)) else if x2 = (2 : Int32) then (if ((shlI ((g an) &&& (shrI (127 : Int32) x2)) (6 : Int32)) ||| ((g (an + 1)) &&& (63 : Int32))) < (128 : Int32) then (-2 : Int32) else ((shlI ((g an) &&& (shrI (127 : Int32) x2)) (6 : Int32)) ||| ((g (an + 1)) &&& (63 : Int32)))) else if x2 = (3 : Int32) then (if ((shlI ((g an) &&& (shrI (127 : Int32) x2)) (6 : Int32)) ||| ((g (an + 1)) &&& (63 : Int32))) < (2048 : Int32) then (-2 : Int32) else ((shlI ((g an) &&& (shrI (127 : Int32) x2)) (6 : Int32)) ||| ((g (an + 1)) &&& (63 : Int32)))) else if ((shlI ((g an) &&& (shrI (127 : Int32) x2)) (6 : Int32)) ||| ((g (an + 1)) &&& (63 : Int32))) < (65536 : Int32) then (-2 : Int32) else ((shlI ((g an) &&& (shrI (127 : Int32) x2)) (6 : Int32)) ||| ((g (an + 1)) &&& (63 : Int32)))) else (-2 : Int32)
def Q3 (Z : State) (x0 : Addr) (x1 : Int32) (x2 : Int32) (n : Nat) (g : Nat → Int32) (an : Nat) (h0 : Heap) (v : Option Value) (h : Heap) (L : List Loc) : Prop := v = some (.int (f3 x2 g an)) ∧ L = [] ∧ h = h0
set_option maxRecDepth 65536 in
set_option maxHeartbeats 40000000 in
theorem rm3 (l : Launch) (Z : State) (a0 : Array Value) (hw : ∀ d ∈ tables_1, d.before a0 Z = true) (ws : List Jvm.Cond) (x0 : Addr) (x1 : Int32) (x2 : Int32) (n : Nat) (g : Nat → Int32) (an : Nat) (h0 : Heap) (P0 : AB Z h0 x0 n g) (ha : x1.toInt = an) (hn : an + 3 < n) (hs : an < 1000) (h2 : 2 ≤ x2.toInt) (h4 : x2.toInt ≤ 4) :
    MetFree l (⟨"com/example/strict_xmlns/strictxmlns/Utf8", "decodeSequence", "([BII)I"⟩ : MethodName) (head1 (Jvm.Cond.code (⟨"com/example/strict_xmlns/strictxmlns/Utf8", "decodeSequence", "([BII)I"⟩ : MethodName) prog_41_method_3_code 6 (some .int) :: ws) ({ frames := 0, cells := 0, slots := 0, locals := 0 } : Room)) (fun a U => a = #[(.ref x0), (.int x1), (.int x2)] ∧ Z.Warmed39 U.vm ∧ U.heap = h0) (fun _ _ _ _ _ => True) (fun _ U o U' => ∃ v L, o = .returned v ∧ Q3 Z x0 x1 x2 n g an h0 v U'.heap L ∧ FrameEnd U o U' L ({ frames := 0, cells := 0, slots := 0, locals := 0 } : Room).cells ({ frames := 0, cells := 0, slots := 0, locals := 0 } : Room).slots) := by
  refine g_body (plainFor_of_name pn_3) ?_
  intro p e s m below meth c T0 X0 hx hby hml hret hlk hown hnm hZ e0
  rw [ef_3]
  show Go p e below s _ _ _ (T0.setTop (mkF m 0 #[.val (.ref x0), .val (.int x1), .val (.int x2), .unset, .unset, .unset] []))
  refine g_aloadN X0 hx 1 (hb hby d3_0) rfl rfl rfl ?_
  show Go p e below s _ _ _ (T0.setTop (mkF m 1 #[.val (.ref x0), .val (.int x1), .val (.int x2), .unset, .unset, .unset] [(.ref x0)]))
  refine g_iloadN X0 hx 2 (hb hby d3_1) rfl rfl ?_
  show Go p e below s _ _ _ (T0.setTop (mkF m 2 #[.val (.ref x0), .val (.int x1), .val (.int x2), .unset, .unset, .unset] [(.int x1), (.ref x0)]))
  refine g_baload X0 hx hZ e0 P0 an ha (by omega) 3 (hb hby d3_2) rfl ?_
  show Go p e below s _ _ _ (T0.setTop (mkF m 3 #[.val (.ref x0), .val (.int x1), .val (.int x2), .unset, .unset, .unset] [(.int (g an))]))
  refine g_bipush X0 hx (127 : Int32) 5 (hb hby d3_3) rfl rfl ?_
  show Go p e below s _ _ _ (T0.setTop (mkF m 5 #[.val (.ref x0), .val (.int x1), .val (.int x2), .unset, .unset, .unset] [(.int (127 : Int32)), (.int (g an))]))
  refine g_iloadN X0 hx 6 (hb hby d3_5) rfl rfl ?_
  show Go p e below s _ _ _ (T0.setTop (mkF m 6 #[.val (.ref x0), .val (.int x1), .val (.int x2), .unset, .unset, .unset] [(.int x2), (.int (127 : Int32)), (.int (g an))]))
  refine g_ishr X0 hx 7 (hb hby d3_6) rfl ?_
  show Go p e below s _ _ _ (T0.setTop (mkF m 7 #[.val (.ref x0), .val (.int x1), .val (.int x2), .unset, .unset, .unset] [(.int (shrI (127 : Int32) x2)), (.int (g an))]))
  refine g_iand X0 hx 8 (hb hby d3_7) rfl ?_
  show Go p e below s _ _ _ (T0.setTop (mkF m 8 #[.val (.ref x0), .val (.int x1), .val (.int x2), .unset, .unset, .unset] [(.int ((g an) &&& (shrI (127 : Int32) x2)))]))
  refine g_istoreN X0 hx #[.val (.ref x0), .val (.int x1), .val (.int x2), .val (.int ((g an) &&& (shrI (127 : Int32) x2))), .unset, .unset] 9 (hb hby d3_8) rfl rfl ?_
  show Go p e below s _ _ _ (T0.setTop (mkF m 9 #[.val (.ref x0), .val (.int x1), .val (.int x2), .val (.int ((g an) &&& (shrI (127 : Int32) x2))), .unset, .unset] []))
  refine g_iconst X0 hx (1 : Int32) 10 (hb hby d3_9) rfl rfl ?_
  show Go p e below s _ _ _ (T0.setTop (mkF m 10 #[.val (.ref x0), .val (.int x1), .val (.int x2), .val (.int ((g an) &&& (shrI (127 : Int32) x2))), .unset, .unset] [(.int (1 : Int32))]))
  refine g_istore X0 hx #[.val (.ref x0), .val (.int x1), .val (.int x2), .val (.int ((g an) &&& (shrI (127 : Int32) x2))), .val (.int (1 : Int32)), .unset] 12 (hb hby d3_10) rfl rfl ?_
  show Go p e below s _ _ _ (T0.setTop (mkF m 12 #[.val (.ref x0), .val (.int x1), .val (.int x2), .val (.int ((g an) &&& (shrI (127 : Int32) x2))), .val (.int (1 : Int32)), .unset] []))
  refine g_iload X0 hx 14 (hb hby d3_12) rfl rfl ?_
  show Go p e below s _ _ _ (T0.setTop (mkF m 14 #[.val (.ref x0), .val (.int x1), .val (.int x2), .val (.int ((g an) &&& (shrI (127 : Int32) x2))), .val (.int (1 : Int32)), .unset] [(.int (1 : Int32))]))
  refine g_iloadN X0 hx 15 (hb hby d3_14) rfl rfl ?_
  show Go p e below s _ _ _ (T0.setTop (mkF m 15 #[.val (.ref x0), .val (.int x1), .val (.int x2), .val (.int ((g an) &&& (shrI (127 : Int32) x2))), .val (.int (1 : Int32)), .unset] [(.int x2), (.int (1 : Int32))]))
  have h2 : (1 : Int32) < x2 := by rw [Int32.lt_iff_toInt_lt]; show 1 < x2.toInt; omega
  refine g_icmp_ge X0 hx 58 18 (hb hby d3_15) (by decide) rfl rfl (fun _ => ?_) (fun q => absurd h2 q)
  show Go p e below s _ _ _ (T0.setTop (mkF m 18 #[.val (.ref x0), .val (.int x1), .val (.int x2), .val (.int ((g an) &&& (shrI (127 : Int32) x2))), .val (.int (1 : Int32)), .unset] []))
  refine g_aloadN X0 hx 19 (hb hby d3_18) rfl rfl rfl ?_
  show Go p e below s _ _ _ (T0.setTop (mkF m 19 #[.val (.ref x0), .val (.int x1), .val (.int x2), .val (.int ((g an) &&& (shrI (127 : Int32) x2))), .val (.int (1 : Int32)), .unset] [(.ref x0)]))
  refine g_iloadN X0 hx 20 (hb hby d3_19) rfl rfl ?_
  show Go p e below s _ _ _ (T0.setTop (mkF m 20 #[.val (.ref x0), .val (.int x1), .val (.int x2), .val (.int ((g an) &&& (shrI (127 : Int32) x2))), .val (.int (1 : Int32)), .unset] [(.int x1), (.ref x0)]))
  refine g_iload X0 hx 22 (hb hby d3_20) rfl rfl ?_
  show Go p e below s _ _ _ (T0.setTop (mkF m 22 #[.val (.ref x0), .val (.int x1), .val (.int x2), .val (.int ((g an) &&& (shrI (127 : Int32) x2))), .val (.int (1 : Int32)), .unset] [(.int (1 : Int32)), (.int x1), (.ref x0)]))
  refine g_iadd X0 hx 23 (hb hby d3_22) rfl ?_
  show Go p e below s _ _ _ (T0.setTop (mkF m 23 #[.val (.ref x0), .val (.int x1), .val (.int x2), .val (.int ((g an) &&& (shrI (127 : Int32) x2))), .val (.int (1 : Int32)), .unset] [(.int (x1 + (1 : Int32))), (.ref x0)]))
  refine g_baload X0 hx hZ e0 P0 (an + 1) (own_add ha (j := 1) rfl (by omega)) (by omega) 24 (hb hby d3_23) rfl ?_
  show Go p e below s _ _ _ (T0.setTop (mkF m 24 #[.val (.ref x0), .val (.int x1), .val (.int x2), .val (.int ((g an) &&& (shrI (127 : Int32) x2))), .val (.int (1 : Int32)), .unset] [(.int (g (an + 1)))]))
  refine g_istore X0 hx #[.val (.ref x0), .val (.int x1), .val (.int x2), .val (.int ((g an) &&& (shrI (127 : Int32) x2))), .val (.int (1 : Int32)), .val (.int (g (an + 1)))] 26 (hb hby d3_24) rfl rfl ?_
  show Go p e below s _ _ _ (T0.setTop (mkF m 26 #[.val (.ref x0), .val (.int x1), .val (.int x2), .val (.int ((g an) &&& (shrI (127 : Int32) x2))), .val (.int (1 : Int32)), .val (.int (g (an + 1)))] []))
  refine g_iload X0 hx 28 (hb hby d3_26) rfl rfl ?_
  show Go p e below s _ _ _ (T0.setTop (mkF m 28 #[.val (.ref x0), .val (.int x1), .val (.int x2), .val (.int ((g an) &&& (shrI (127 : Int32) x2))), .val (.int (1 : Int32)), .val (.int (g (an + 1)))] [(.int (g (an + 1)))]))
  refine g_sipush X0 hx (192 : Int32) 31 (hb hby d3_28) rfl rfl ?_
  show Go p e below s _ _ _ (T0.setTop (mkF m 31 #[.val (.ref x0), .val (.int x1), .val (.int x2), .val (.int ((g an) &&& (shrI (127 : Int32) x2))), .val (.int (1 : Int32)), .val (.int (g (an + 1)))] [(.int (192 : Int32)), (.int (g (an + 1)))]))
  refine g_iand X0 hx 32 (hb hby d3_31) rfl ?_
  show Go p e below s _ _ _ (T0.setTop (mkF m 32 #[.val (.ref x0), .val (.int x1), .val (.int x2), .val (.int ((g an) &&& (shrI (127 : Int32) x2))), .val (.int (1 : Int32)), .val (.int (g (an + 1)))] [(.int ((g (an + 1)) &&& (192 : Int32)))]))
  refine g_sipush X0 hx (128 : Int32) 35 (hb hby d3_32) rfl rfl ?_
  show Go p e below s _ _ _ (T0.setTop (mkF m 35 #[.val (.ref x0), .val (.int x1), .val (.int x2), .val (.int ((g an) &&& (shrI (127 : Int32) x2))), .val (.int (1 : Int32)), .val (.int (g (an + 1)))] [(.int (128 : Int32)), (.int ((g (an + 1)) &&& (192 : Int32)))]))
  refine g_icmp_eq X0 hx 41 38 (hb hby d3_35) (by decide) rfl rfl (fun h4 => ?_) (fun h4 => ?_)
  · show Go p e below s _ _ _ (T0.setTop (mkF m 41 #[.val (.ref x0), .val (.int x1), .val (.int x2), .val (.int ((g an) &&& (shrI (127 : Int32) x2))), .val (.int (1 : Int32)), .val (.int (g (an + 1)))] []))
    refine g_iloadN X0 hx 42 (hb hby d3_41) rfl rfl ?_
    show Go p e below s _ _ _ (T0.setTop (mkF m 42 #[.val (.ref x0), .val (.int x1), .val (.int x2), .val (.int ((g an) &&& (shrI (127 : Int32) x2))), .val (.int (1 : Int32)), .val (.int (g (an + 1)))] [(.int ((g an) &&& (shrI (127 : Int32) x2)))]))
    refine g_bipush X0 hx (6 : Int32) 44 (hb hby d3_42) rfl rfl ?_
    show Go p e below s _ _ _ (T0.setTop (mkF m 44 #[.val (.ref x0), .val (.int x1), .val (.int x2), .val (.int ((g an) &&& (shrI (127 : Int32) x2))), .val (.int (1 : Int32)), .val (.int (g (an + 1)))] [(.int (6 : Int32)), (.int ((g an) &&& (shrI (127 : Int32) x2)))]))
    refine g_ishl X0 hx 45 (hb hby d3_44) rfl ?_
    show Go p e below s _ _ _ (T0.setTop (mkF m 45 #[.val (.ref x0), .val (.int x1), .val (.int x2), .val (.int ((g an) &&& (shrI (127 : Int32) x2))), .val (.int (1 : Int32)), .val (.int (g (an + 1)))] [(.int (shlI ((g an) &&& (shrI (127 : Int32) x2)) (6 : Int32)))]))
    refine g_iload X0 hx 47 (hb hby d3_45) rfl rfl ?_
    show Go p e below s _ _ _ (T0.setTop (mkF m 47 #[.val (.ref x0), .val (.int x1), .val (.int x2), .val (.int ((g an) &&& (shrI (127 : Int32) x2))), .val (.int (1 : Int32)), .val (.int (g (an + 1)))] [(.int (g (an + 1))), (.int (shlI ((g an) &&& (shrI (127 : Int32) x2)) (6 : Int32)))]))
    refine g_bipush X0 hx (63 : Int32) 49 (hb hby d3_47) rfl rfl ?_
    show Go p e below s _ _ _ (T0.setTop (mkF m 49 #[.val (.ref x0), .val (.int x1), .val (.int x2), .val (.int ((g an) &&& (shrI (127 : Int32) x2))), .val (.int (1 : Int32)), .val (.int (g (an + 1)))] [(.int (63 : Int32)), (.int (g (an + 1))), (.int (shlI ((g an) &&& (shrI (127 : Int32) x2)) (6 : Int32)))]))
    refine g_iand X0 hx 50 (hb hby d3_49) rfl ?_
    show Go p e below s _ _ _ (T0.setTop (mkF m 50 #[.val (.ref x0), .val (.int x1), .val (.int x2), .val (.int ((g an) &&& (shrI (127 : Int32) x2))), .val (.int (1 : Int32)), .val (.int (g (an + 1)))] [(.int ((g (an + 1)) &&& (63 : Int32))), (.int (shlI ((g an) &&& (shrI (127 : Int32) x2)) (6 : Int32)))]))
    refine g_ior X0 hx 51 (hb hby d3_50) rfl ?_
    show Go p e below s _ _ _ (T0.setTop (mkF m 51 #[.val (.ref x0), .val (.int x1), .val (.int x2), .val (.int ((g an) &&& (shrI (127 : Int32) x2))), .val (.int (1 : Int32)), .val (.int (g (an + 1)))] [(.int ((shlI ((g an) &&& (shrI (127 : Int32) x2)) (6 : Int32)) ||| ((g (an + 1)) &&& (63 : Int32))))]))
    refine g_istoreN X0 hx #[.val (.ref x0), .val (.int x1), .val (.int x2), .val (.int ((shlI ((g an) &&& (shrI (127 : Int32) x2)) (6 : Int32)) ||| ((g (an + 1)) &&& (63 : Int32)))), .val (.int (1 : Int32)), .val (.int (g (an + 1)))] 52 (hb hby d3_51) rfl rfl ?_
    show Go p e below s _ _ _ (T0.setTop (mkF m 52 #[.val (.ref x0), .val (.int x1), .val (.int x2), .val (.int ((shlI ((g an) &&& (shrI (127 : Int32) x2)) (6 : Int32)) ||| ((g (an + 1)) &&& (63 : Int32)))), .val (.int (1 : Int32)), .val (.int (g (an + 1)))] []))
    refine g_iinc X0 hx (1 : Int32) #[.val (.ref x0), .val (.int x1), .val (.int x2), .val (.int ((shlI ((g an) &&& (shrI (127 : Int32) x2)) (6 : Int32)) ||| ((g (an + 1)) &&& (63 : Int32)))), .val (.int ((1 : Int32) + (1 : Int32))), .val (.int (g (an + 1)))] 55 (hb hby d3_52) rfl rfl rfl rfl ?_
    show Go p e below s _ _ _ (T0.setTop (mkF m 55 #[.val (.ref x0), .val (.int x1), .val (.int x2), .val (.int ((shlI ((g an) &&& (shrI (127 : Int32) x2)) (6 : Int32)) ||| ((g (an + 1)) &&& (63 : Int32)))), .val (.int ((1 : Int32) + (1 : Int32))), .val (.int (g (an + 1)))] []))
    refine g_goto X0 hx 12 (hb hby d3_55) (by decide) rfl ?_
    show Go p e below s _ _ _ (T0.setTop (mkF m 12 #[.val (.ref x0), .val (.int x1), .val (.int x2), .val (.int ((shlI ((g an) &&& (shrI (127 : Int32) x2)) (6 : Int32)) ||| ((g (an + 1)) &&& (63 : Int32)))), .val (.int ((1 : Int32) + (1 : Int32))), .val (.int (g (an + 1)))] []))
    refine g_iload X0 hx 14 (hb hby d3_12) rfl rfl ?_
    show Go p e below s _ _ _ (T0.setTop (mkF m 14 #[.val (.ref x0), .val (.int x1), .val (.int x2), .val (.int ((shlI ((g an) &&& (shrI (127 : Int32) x2)) (6 : Int32)) ||| ((g (an + 1)) &&& (63 : Int32)))), .val (.int ((1 : Int32) + (1 : Int32))), .val (.int (g (an + 1)))] [(.int ((1 : Int32) + (1 : Int32)))]))
    refine g_iloadN X0 hx 15 (hb hby d3_14) rfl rfl ?_
    show Go p e below s _ _ _ (T0.setTop (mkF m 15 #[.val (.ref x0), .val (.int x1), .val (.int x2), .val (.int ((shlI ((g an) &&& (shrI (127 : Int32) x2)) (6 : Int32)) ||| ((g (an + 1)) &&& (63 : Int32)))), .val (.int ((1 : Int32) + (1 : Int32))), .val (.int (g (an + 1)))] [(.int x2), (.int ((1 : Int32) + (1 : Int32)))]))
    refine g_icmp_ge X0 hx 58 18 (hb hby d3_15) (by decide) rfl rfl (fun h5 => ?_) (fun h5 => ?_)
    · show Go p e below s _ _ _ (T0.setTop (mkF m 18 #[.val (.ref x0), .val (.int x1), .val (.int x2), .val (.int ((shlI ((g an) &&& (shrI (127 : Int32) x2)) (6 : Int32)) ||| ((g (an + 1)) &&& (63 : Int32)))), .val (.int ((1 : Int32) + (1 : Int32))), .val (.int (g (an + 1)))] []))
      refine g_aloadN X0 hx 19 (hb hby d3_18) rfl rfl rfl ?_
      show Go p e below s _ _ _ (T0.setTop (mkF m 19 #[.val (.ref x0), .val (.int x1), .val (.int x2), .val (.int ((shlI ((g an) &&& (shrI (127 : Int32) x2)) (6 : Int32)) ||| ((g (an + 1)) &&& (63 : Int32)))), .val (.int ((1 : Int32) + (1 : Int32))), .val (.int (g (an + 1)))] [(.ref x0)]))
      refine g_iloadN X0 hx 20 (hb hby d3_19) rfl rfl ?_
      show Go p e below s _ _ _ (T0.setTop (mkF m 20 #[.val (.ref x0), .val (.int x1), .val (.int x2), .val (.int ((shlI ((g an) &&& (shrI (127 : Int32) x2)) (6 : Int32)) ||| ((g (an + 1)) &&& (63 : Int32)))), .val (.int ((1 : Int32) + (1 : Int32))), .val (.int (g (an + 1)))] [(.int x1), (.ref x0)]))
      refine g_iload X0 hx 22 (hb hby d3_20) rfl rfl ?_
      show Go p e below s _ _ _ (T0.setTop (mkF m 22 #[.val (.ref x0), .val (.int x1), .val (.int x2), .val (.int ((shlI ((g an) &&& (shrI (127 : Int32) x2)) (6 : Int32)) ||| ((g (an + 1)) &&& (63 : Int32)))), .val (.int ((1 : Int32) + (1 : Int32))), .val (.int (g (an + 1)))] [(.int ((1 : Int32) + (1 : Int32))), (.int x1), (.ref x0)]))
      refine g_iadd X0 hx 23 (hb hby d3_22) rfl ?_
      show Go p e below s _ _ _ (T0.setTop (mkF m 23 #[.val (.ref x0), .val (.int x1), .val (.int x2), .val (.int ((shlI ((g an) &&& (shrI (127 : Int32) x2)) (6 : Int32)) ||| ((g (an + 1)) &&& (63 : Int32)))), .val (.int ((1 : Int32) + (1 : Int32))), .val (.int (g (an + 1)))] [(.int (x1 + ((1 : Int32) + (1 : Int32)))), (.ref x0)]))
      refine g_baload X0 hx hZ e0 P0 (an + 2) (own_add ha (j := 2) rfl (by omega)) (by omega) 24 (hb hby d3_23) rfl ?_
      show Go p e below s _ _ _ (T0.setTop (mkF m 24 #[.val (.ref x0), .val (.int x1), .val (.int x2), .val (.int ((shlI ((g an) &&& (shrI (127 : Int32) x2)) (6 : Int32)) ||| ((g (an + 1)) &&& (63 : Int32)))), .val (.int ((1 : Int32) + (1 : Int32))), .val (.int (g (an + 1)))] [(.int (g (an + 2)))]))
      refine g_istore X0 hx #[.val (.ref x0), .val (.int x1), .val (.int x2), .val (.int ((shlI ((g an) &&& (shrI (127 : Int32) x2)) (6 : Int32)) ||| ((g (an + 1)) &&& (63 : Int32)))), .val (.int ((1 : Int32) + (1 : Int32))), .val (.int (g (an + 2)))] 26 (hb hby d3_24) rfl rfl ?_
      show Go p e below s _ _ _ (T0.setTop (mkF m 26 #[.val (.ref x0), .val (.int x1), .val (.int x2), .val (.int ((shlI ((g an) &&& (shrI (127 : Int32) x2)) (6 : Int32)) ||| ((g (an + 1)) &&& (63 : Int32)))), .val (.int ((1 : Int32) + (1 : Int32))), .val (.int (g (an + 2)))] []))
      refine g_iload X0 hx 28 (hb hby d3_26) rfl rfl ?_
      show Go p e below s _ _ _ (T0.setTop (mkF m 28 #[.val (.ref x0), .val (.int x1), .val (.int x2), .val (.int ((shlI ((g an) &&& (shrI (127 : Int32) x2)) (6 : Int32)) ||| ((g (an + 1)) &&& (63 : Int32)))), .val (.int ((1 : Int32) + (1 : Int32))), .val (.int (g (an + 2)))] [(.int (g (an + 2)))]))
      refine g_sipush X0 hx (192 : Int32) 31 (hb hby d3_28) rfl rfl ?_
      show Go p e below s _ _ _ (T0.setTop (mkF m 31 #[.val (.ref x0), .val (.int x1), .val (.int x2), .val (.int ((shlI ((g an) &&& (shrI (127 : Int32) x2)) (6 : Int32)) ||| ((g (an + 1)) &&& (63 : Int32)))), .val (.int ((1 : Int32) + (1 : Int32))), .val (.int (g (an + 2)))] [(.int (192 : Int32)), (.int (g (an + 2)))]))
      refine g_iand X0 hx 32 (hb hby d3_31) rfl ?_
      show Go p e below s _ _ _ (T0.setTop (mkF m 32 #[.val (.ref x0), .val (.int x1), .val (.int x2), .val (.int ((shlI ((g an) &&& (shrI (127 : Int32) x2)) (6 : Int32)) ||| ((g (an + 1)) &&& (63 : Int32)))), .val (.int ((1 : Int32) + (1 : Int32))), .val (.int (g (an + 2)))] [(.int ((g (an + 2)) &&& (192 : Int32)))]))
      refine g_sipush X0 hx (128 : Int32) 35 (hb hby d3_32) rfl rfl ?_
      show Go p e below s _ _ _ (T0.setTop (mkF m 35 #[.val (.ref x0), .val (.int x1), .val (.int x2), .val (.int ((shlI ((g an) &&& (shrI (127 : Int32) x2)) (6 : Int32)) ||| ((g (an + 1)) &&& (63 : Int32)))), .val (.int ((1 : Int32) + (1 : Int32))), .val (.int (g (an + 2)))] [(.int (128 : Int32)), (.int ((g (an + 2)) &&& (192 : Int32)))]))
      refine g_icmp_eq X0 hx 41 38 (hb hby d3_35) (by decide) rfl rfl (fun h7 => ?_) (fun h7 => ?_)
      · show Go p e below s _ _ _ (T0.setTop (mkF m 41 #[.val (.ref x0), .val (.int x1), .val (.int x2), .val (.int ((shlI ((g an) &&& (shrI (127 : Int32) x2)) (6 : Int32)) ||| ((g (an + 1)) &&& (63 : Int32)))), .val (.int ((1 : Int32) + (1 : Int32))), .val (.int (g (an + 2)))] []))
        refine g_iloadN X0 hx 42 (hb hby d3_41) rfl rfl ?_
        show Go p e below s _ _ _ (T0.setTop (mkF m 42 #[.val (.ref x0), .val (.int x1), .val (.int x2), .val (.int ((shlI ((g an) &&& (shrI (127 : Int32) x2)) (6 : Int32)) ||| ((g (an + 1)) &&& (63 : Int32)))), .val (.int ((1 : Int32) + (1 : Int32))), .val (.int (g (an + 2)))] [(.int ((shlI ((g an) &&& (shrI (127 : Int32) x2)) (6 : Int32)) ||| ((g (an + 1)) &&& (63 : Int32))))]))
        refine g_bipush X0 hx (6 : Int32) 44 (hb hby d3_42) rfl rfl ?_
        show Go p e below s _ _ _ (T0.setTop (mkF m 44 #[.val (.ref x0), .val (.int x1), .val (.int x2), .val (.int ((shlI ((g an) &&& (shrI (127 : Int32) x2)) (6 : Int32)) ||| ((g (an + 1)) &&& (63 : Int32)))), .val (.int ((1 : Int32) + (1 : Int32))), .val (.int (g (an + 2)))] [(.int (6 : Int32)), (.int ((shlI ((g an) &&& (shrI (127 : Int32) x2)) (6 : Int32)) ||| ((g (an + 1)) &&& (63 : Int32))))]))
        refine g_ishl X0 hx 45 (hb hby d3_44) rfl ?_
        show Go p e below s _ _ _ (T0.setTop (mkF m 45 #[.val (.ref x0), .val (.int x1), .val (.int x2), .val (.int ((shlI ((g an) &&& (shrI (127 : Int32) x2)) (6 : Int32)) ||| ((g (an + 1)) &&& (63 : Int32)))), .val (.int ((1 : Int32) + (1 : Int32))), .val (.int (g (an + 2)))] [(.int (shlI ((shlI ((g an) &&& (shrI (127 : Int32) x2)) (6 : Int32)) ||| ((g (an + 1)) &&& (63 : Int32))) (6 : Int32)))]))
        refine g_iload X0 hx 47 (hb hby d3_45) rfl rfl ?_
        show Go p e below s _ _ _ (T0.setTop (mkF m 47 #[.val (.ref x0), .val (.int x1), .val (.int x2), .val (.int ((shlI ((g an) &&& (shrI (127 : Int32) x2)) (6 : Int32)) ||| ((g (an + 1)) &&& (63 : Int32)))), .val (.int ((1 : Int32) + (1 : Int32))), .val (.int (g (an + 2)))] [(.int (g (an + 2))), (.int (shlI ((shlI ((g an) &&& (shrI (127 : Int32) x2)) (6 : Int32)) ||| ((g (an + 1)) &&& (63 : Int32))) (6 : Int32)))]))
        refine g_bipush X0 hx (63 : Int32) 49 (hb hby d3_47) rfl rfl ?_
        show Go p e below s _ _ _ (T0.setTop (mkF m 49 #[.val (.ref x0), .val (.int x1), .val (.int x2), .val (.int ((shlI ((g an) &&& (shrI (127 : Int32) x2)) (6 : Int32)) ||| ((g (an + 1)) &&& (63 : Int32)))), .val (.int ((1 : Int32) + (1 : Int32))), .val (.int (g (an + 2)))] [(.int (63 : Int32)), (.int (g (an + 2))), (.int (shlI ((shlI ((g an) &&& (shrI (127 : Int32) x2)) (6 : Int32)) ||| ((g (an + 1)) &&& (63 : Int32))) (6 : Int32)))]))
        refine g_iand X0 hx 50 (hb hby d3_49) rfl ?_
        show Go p e below s _ _ _ (T0.setTop (mkF m 50 #[.val (.ref x0), .val (.int x1), .val (.int x2), .val (.int ((shlI ((g an) &&& (shrI (127 : Int32) x2)) (6 : Int32)) ||| ((g (an + 1)) &&& (63 : Int32)))), .val (.int ((1 : Int32) + (1 : Int32))), .val (.int (g (an + 2)))] [(.int ((g (an + 2)) &&& (63 : Int32))), (.int (shlI ((shlI ((g an) &&& (shrI (127 : Int32) x2)) (6 : Int32)) ||| ((g (an + 1)) &&& (63 : Int32))) (6 : Int32)))]))
        refine g_ior X0 hx 51 (hb hby d3_50) rfl ?_
        show Go p e below s _ _ _ (T0.setTop (mkF m 51 #[.val (.ref x0), .val (.int x1), .val (.int x2), .val (.int ((shlI ((g an) &&& (shrI (127 : Int32) x2)) (6 : Int32)) ||| ((g (an + 1)) &&& (63 : Int32)))), .val (.int ((1 : Int32) + (1 : Int32))), .val (.int (g (an + 2)))] [(.int ((shlI ((shlI ((g an) &&& (shrI (127 : Int32) x2)) (6 : Int32)) ||| ((g (an + 1)) &&& (63 : Int32))) (6 : Int32)) ||| ((g (an + 2)) &&& (63 : Int32))))]))
        refine g_istoreN X0 hx #[.val (.ref x0), .val (.int x1), .val (.int x2), .val (.int ((shlI ((shlI ((g an) &&& (shrI (127 : Int32) x2)) (6 : Int32)) ||| ((g (an + 1)) &&& (63 : Int32))) (6 : Int32)) ||| ((g (an + 2)) &&& (63 : Int32)))), .val (.int ((1 : Int32) + (1 : Int32))), .val (.int (g (an + 2)))] 52 (hb hby d3_51) rfl rfl ?_
        show Go p e below s _ _ _ (T0.setTop (mkF m 52 #[.val (.ref x0), .val (.int x1), .val (.int x2), .val (.int ((shlI ((shlI ((g an) &&& (shrI (127 : Int32) x2)) (6 : Int32)) ||| ((g (an + 1)) &&& (63 : Int32))) (6 : Int32)) ||| ((g (an + 2)) &&& (63 : Int32)))), .val (.int ((1 : Int32) + (1 : Int32))), .val (.int (g (an + 2)))] []))
        refine g_iinc X0 hx (1 : Int32) #[.val (.ref x0), .val (.int x1), .val (.int x2), .val (.int ((shlI ((shlI ((g an) &&& (shrI (127 : Int32) x2)) (6 : Int32)) ||| ((g (an + 1)) &&& (63 : Int32))) (6 : Int32)) ||| ((g (an + 2)) &&& (63 : Int32)))), .val (.int (((1 : Int32) + (1 : Int32)) + (1 : Int32))), .val (.int (g (an + 2)))] 55 (hb hby d3_52) rfl rfl rfl rfl ?_
        show Go p e below s _ _ _ (T0.setTop (mkF m 55 #[.val (.ref x0), .val (.int x1), .val (.int x2), .val (.int ((shlI ((shlI ((g an) &&& (shrI (127 : Int32) x2)) (6 : Int32)) ||| ((g (an + 1)) &&& (63 : Int32))) (6 : Int32)) ||| ((g (an + 2)) &&& (63 : Int32)))), .val (.int (((1 : Int32) + (1 : Int32)) + (1 : Int32))), .val (.int (g (an + 2)))] []))
        refine g_goto X0 hx 12 (hb hby d3_55) (by decide) rfl ?_
        show Go p e below s _ _ _ (T0.setTop (mkF m 12 #[.val (.ref x0), .val (.int x1), .val (.int x2), .val (.int ((shlI ((shlI ((g an) &&& (shrI (127 : Int32) x2)) (6 : Int32)) ||| ((g (an + 1)) &&& (63 : Int32))) (6 : Int32)) ||| ((g (an + 2)) &&& (63 : Int32)))), .val (.int (((1 : Int32) + (1 : Int32)) + (1 : Int32))), .val (.int (g (an + 2)))] []))
        refine g_iload X0 hx 14 (hb hby d3_12) rfl rfl ?_
        show Go p e below s _ _ _ (T0.setTop (mkF m 14 #[.val (.ref x0), .val (.int x1), .val (.int x2), .val (.int ((shlI ((shlI ((g an) &&& (shrI (127 : Int32) x2)) (6 : Int32)) ||| ((g (an + 1)) &&& (63 : Int32))) (6 : Int32)) ||| ((g (an + 2)) &&& (63 : Int32)))), .val (.int (((1 : Int32) + (1 : Int32)) + (1 : Int32))), .val (.int (g (an + 2)))] [(.int (((1 : Int32) + (1 : Int32)) + (1 : Int32)))]))
        refine g_iloadN X0 hx 15 (hb hby d3_14) rfl rfl ?_
        show Go p e below s _ _ _ (T0.setTop (mkF m 15 #[.val (.ref x0), .val (.int x1), .val (.int x2), .val (.int ((shlI ((shlI ((g an) &&& (shrI (127 : Int32) x2)) (6 : Int32)) ||| ((g (an + 1)) &&& (63 : Int32))) (6 : Int32)) ||| ((g (an + 2)) &&& (63 : Int32)))), .val (.int (((1 : Int32) + (1 : Int32)) + (1 : Int32))), .val (.int (g (an + 2)))] [(.int x2), (.int (((1 : Int32) + (1 : Int32)) + (1 : Int32)))]))
        refine g_icmp_ge X0 hx 58 18 (hb hby d3_15) (by decide) rfl rfl (fun h8 => ?_) (fun h8 => ?_)
        · show Go p e below s _ _ _ (T0.setTop (mkF m 18 #[.val (.ref x0), .val (.int x1), .val (.int x2), .val (.int ((shlI ((shlI ((g an) &&& (shrI (127 : Int32) x2)) (6 : Int32)) ||| ((g (an + 1)) &&& (63 : Int32))) (6 : Int32)) ||| ((g (an + 2)) &&& (63 : Int32)))), .val (.int (((1 : Int32) + (1 : Int32)) + (1 : Int32))), .val (.int (g (an + 2)))] []))
          refine g_aloadN X0 hx 19 (hb hby d3_18) rfl rfl rfl ?_
          show Go p e below s _ _ _ (T0.setTop (mkF m 19 #[.val (.ref x0), .val (.int x1), .val (.int x2), .val (.int ((shlI ((shlI ((g an) &&& (shrI (127 : Int32) x2)) (6 : Int32)) ||| ((g (an + 1)) &&& (63 : Int32))) (6 : Int32)) ||| ((g (an + 2)) &&& (63 : Int32)))), .val (.int (((1 : Int32) + (1 : Int32)) + (1 : Int32))), .val (.int (g (an + 2)))] [(.ref x0)]))
          refine g_iloadN X0 hx 20 (hb hby d3_19) rfl rfl ?_
          show Go p e below s _ _ _ (T0.setTop (mkF m 20 #[.val (.ref x0), .val (.int x1), .val (.int x2), .val (.int ((shlI ((shlI ((g an) &&& (shrI (127 : Int32) x2)) (6 : Int32)) ||| ((g (an + 1)) &&& (63 : Int32))) (6 : Int32)) ||| ((g (an + 2)) &&& (63 : Int32)))), .val (.int (((1 : Int32) + (1 : Int32)) + (1 : Int32))), .val (.int (g (an + 2)))] [(.int x1), (.ref x0)]))
          refine g_iload X0 hx 22 (hb hby d3_20) rfl rfl ?_
          show Go p e below s _ _ _ (T0.setTop (mkF m 22 #[.val (.ref x0), .val (.int x1), .val (.int x2), .val (.int ((shlI ((shlI ((g an) &&& (shrI (127 : Int32) x2)) (6 : Int32)) ||| ((g (an + 1)) &&& (63 : Int32))) (6 : Int32)) ||| ((g (an + 2)) &&& (63 : Int32)))), .val (.int (((1 : Int32) + (1 : Int32)) + (1 : Int32))), .val (.int (g (an + 2)))] [(.int (((1 : Int32) + (1 : Int32)) + (1 : Int32))), (.int x1), (.ref x0)]))
          refine g_iadd X0 hx 23 (hb hby d3_22) rfl ?_
          show Go p e below s _ _ _ (T0.setTop (mkF m 23 #[.val (.ref x0), .val (.int x1), .val (.int x2), .val (.int ((shlI ((shlI ((g an) &&& (shrI (127 : Int32) x2)) (6 : Int32)) ||| ((g (an + 1)) &&& (63 : Int32))) (6 : Int32)) ||| ((g (an + 2)) &&& (63 : Int32)))), .val (.int (((1 : Int32) + (1 : Int32)) + (1 : Int32))), .val (.int (g (an + 2)))] [(.int (x1 + (((1 : Int32) + (1 : Int32)) + (1 : Int32)))), (.ref x0)]))
          refine g_baload X0 hx hZ e0 P0 (an + 3) (own_add ha (j := 3) rfl (by omega)) (by omega) 24 (hb hby d3_23) rfl ?_
          show Go p e below s _ _ _ (T0.setTop (mkF m 24 #[.val (.ref x0), .val (.int x1), .val (.int x2), .val (.int ((shlI ((shlI ((g an) &&& (shrI (127 : Int32) x2)) (6 : Int32)) ||| ((g (an + 1)) &&& (63 : Int32))) (6 : Int32)) ||| ((g (an + 2)) &&& (63 : Int32)))), .val (.int (((1 : Int32) + (1 : Int32)) + (1 : Int32))), .val (.int (g (an + 2)))] [(.int (g (an + 3)))]))
          refine g_istore X0 hx #[.val (.ref x0), .val (.int x1), .val (.int x2), .val (.int ((shlI ((shlI ((g an) &&& (shrI (127 : Int32) x2)) (6 : Int32)) ||| ((g (an + 1)) &&& (63 : Int32))) (6 : Int32)) ||| ((g (an + 2)) &&& (63 : Int32)))), .val (.int (((1 : Int32) + (1 : Int32)) + (1 : Int32))), .val (.int (g (an + 3)))] 26 (hb hby d3_24) rfl rfl ?_
          show Go p e below s _ _ _ (T0.setTop (mkF m 26 #[.val (.ref x0), .val (.int x1), .val (.int x2), .val (.int ((shlI ((shlI ((g an) &&& (shrI (127 : Int32) x2)) (6 : Int32)) ||| ((g (an + 1)) &&& (63 : Int32))) (6 : Int32)) ||| ((g (an + 2)) &&& (63 : Int32)))), .val (.int (((1 : Int32) + (1 : Int32)) + (1 : Int32))), .val (.int (g (an + 3)))] []))
          refine g_iload X0 hx 28 (hb hby d3_26) rfl rfl ?_
          show Go p e below s _ _ _ (T0.setTop (mkF m 28 #[.val (.ref x0), .val (.int x1), .val (.int x2), .val (.int ((shlI ((shlI ((g an) &&& (shrI (127 : Int32) x2)) (6 : Int32)) ||| ((g (an + 1)) &&& (63 : Int32))) (6 : Int32)) ||| ((g (an + 2)) &&& (63 : Int32)))), .val (.int (((1 : Int32) + (1 : Int32)) + (1 : Int32))), .val (.int (g (an + 3)))] [(.int (g (an + 3)))]))
          refine g_sipush X0 hx (192 : Int32) 31 (hb hby d3_28) rfl rfl ?_
          show Go p e below s _ _ _ (T0.setTop (mkF m 31 #[.val (.ref x0), .val (.int x1), .val (.int x2), .val (.int ((shlI ((shlI ((g an) &&& (shrI (127 : Int32) x2)) (6 : Int32)) ||| ((g (an + 1)) &&& (63 : Int32))) (6 : Int32)) ||| ((g (an + 2)) &&& (63 : Int32)))), .val (.int (((1 : Int32) + (1 : Int32)) + (1 : Int32))), .val (.int (g (an + 3)))] [(.int (192 : Int32)), (.int (g (an + 3)))]))
          refine g_iand X0 hx 32 (hb hby d3_31) rfl ?_
          show Go p e below s _ _ _ (T0.setTop (mkF m 32 #[.val (.ref x0), .val (.int x1), .val (.int x2), .val (.int ((shlI ((shlI ((g an) &&& (shrI (127 : Int32) x2)) (6 : Int32)) ||| ((g (an + 1)) &&& (63 : Int32))) (6 : Int32)) ||| ((g (an + 2)) &&& (63 : Int32)))), .val (.int (((1 : Int32) + (1 : Int32)) + (1 : Int32))), .val (.int (g (an + 3)))] [(.int ((g (an + 3)) &&& (192 : Int32)))]))
          refine g_sipush X0 hx (128 : Int32) 35 (hb hby d3_32) rfl rfl ?_
          show Go p e below s _ _ _ (T0.setTop (mkF m 35 #[.val (.ref x0), .val (.int x1), .val (.int x2), .val (.int ((shlI ((shlI ((g an) &&& (shrI (127 : Int32) x2)) (6 : Int32)) ||| ((g (an + 1)) &&& (63 : Int32))) (6 : Int32)) ||| ((g (an + 2)) &&& (63 : Int32)))), .val (.int (((1 : Int32) + (1 : Int32)) + (1 : Int32))), .val (.int (g (an + 3)))] [(.int (128 : Int32)), (.int ((g (an + 3)) &&& (192 : Int32)))]))
          refine g_icmp_eq X0 hx 41 38 (hb hby d3_35) (by decide) rfl rfl (fun h10 => ?_) (fun h10 => ?_)
          · show Go p e below s _ _ _ (T0.setTop (mkF m 41 #[.val (.ref x0), .val (.int x1), .val (.int x2), .val (.int ((shlI ((shlI ((g an) &&& (shrI (127 : Int32) x2)) (6 : Int32)) ||| ((g (an + 1)) &&& (63 : Int32))) (6 : Int32)) ||| ((g (an + 2)) &&& (63 : Int32)))), .val (.int (((1 : Int32) + (1 : Int32)) + (1 : Int32))), .val (.int (g (an + 3)))] []))
            refine g_iloadN X0 hx 42 (hb hby d3_41) rfl rfl ?_
            show Go p e below s _ _ _ (T0.setTop (mkF m 42 #[.val (.ref x0), .val (.int x1), .val (.int x2), .val (.int ((shlI ((shlI ((g an) &&& (shrI (127 : Int32) x2)) (6 : Int32)) ||| ((g (an + 1)) &&& (63 : Int32))) (6 : Int32)) ||| ((g (an + 2)) &&& (63 : Int32)))), .val (.int (((1 : Int32) + (1 : Int32)) + (1 : Int32))), .val (.int (g (an + 3)))] [(.int ((shlI ((shlI ((g an) &&& (shrI (127 : Int32) x2)) (6 : Int32)) ||| ((g (an + 1)) &&& (63 : Int32))) (6 : Int32)) ||| ((g (an + 2)) &&& (63 : Int32))))]))
            refine g_bipush X0 hx (6 : Int32) 44 (hb hby d3_42) rfl rfl ?_
            show Go p e below s _ _ _ (T0.setTop (mkF m 44 #[.val (.ref x0), .val (.int x1), .val (.int x2), .val (.int ((shlI ((shlI ((g an) &&& (shrI (127 : Int32) x2)) (6 : Int32)) ||| ((g (an + 1)) &&& (63 : Int32))) (6 : Int32)) ||| ((g (an + 2)) &&& (63 : Int32)))), .val (.int (((1 : Int32) + (1 : Int32)) + (1 : Int32))), .val (.int (g (an + 3)))] [(.int (6 : Int32)), (.int ((shlI ((shlI ((g an) &&& (shrI (127 : Int32) x2)) (6 : Int32)) ||| ((g (an + 1)) &&& (63 : Int32))) (6 : Int32)) ||| ((g (an + 2)) &&& (63 : Int32))))]))
            refine g_ishl X0 hx 45 (hb hby d3_44) rfl ?_
            show Go p e below s _ _ _ (T0.setTop (mkF m 45 #[.val (.ref x0), .val (.int x1), .val (.int x2), .val (.int ((shlI ((shlI ((g an) &&& (shrI (127 : Int32) x2)) (6 : Int32)) ||| ((g (an + 1)) &&& (63 : Int32))) (6 : Int32)) ||| ((g (an + 2)) &&& (63 : Int32)))), .val (.int (((1 : Int32) + (1 : Int32)) + (1 : Int32))), .val (.int (g (an + 3)))] [(.int (shlI ((shlI ((shlI ((g an) &&& (shrI (127 : Int32) x2)) (6 : Int32)) ||| ((g (an + 1)) &&& (63 : Int32))) (6 : Int32)) ||| ((g (an + 2)) &&& (63 : Int32))) (6 : Int32)))]))
            refine g_iload X0 hx 47 (hb hby d3_45) rfl rfl ?_
            show Go p e below s _ _ _ (T0.setTop (mkF m 47 #[.val (.ref x0), .val (.int x1), .val (.int x2), .val (.int ((shlI ((shlI ((g an) &&& (shrI (127 : Int32) x2)) (6 : Int32)) ||| ((g (an + 1)) &&& (63 : Int32))) (6 : Int32)) ||| ((g (an + 2)) &&& (63 : Int32)))), .val (.int (((1 : Int32) + (1 : Int32)) + (1 : Int32))), .val (.int (g (an + 3)))] [(.int (g (an + 3))), (.int (shlI ((shlI ((shlI ((g an) &&& (shrI (127 : Int32) x2)) (6 : Int32)) ||| ((g (an + 1)) &&& (63 : Int32))) (6 : Int32)) ||| ((g (an + 2)) &&& (63 : Int32))) (6 : Int32)))]))
            refine g_bipush X0 hx (63 : Int32) 49 (hb hby d3_47) rfl rfl ?_
            show Go p e below s _ _ _ (T0.setTop (mkF m 49 #[.val (.ref x0), .val (.int x1), .val (.int x2), .val (.int ((shlI ((shlI ((g an) &&& (shrI (127 : Int32) x2)) (6 : Int32)) ||| ((g (an + 1)) &&& (63 : Int32))) (6 : Int32)) ||| ((g (an + 2)) &&& (63 : Int32)))), .val (.int (((1 : Int32) + (1 : Int32)) + (1 : Int32))), .val (.int (g (an + 3)))] [(.int (63 : Int32)), (.int (g (an + 3))), (.int (shlI ((shlI ((shlI ((g an) &&& (shrI (127 : Int32) x2)) (6 : Int32)) ||| ((g (an + 1)) &&& (63 : Int32))) (6 : Int32)) ||| ((g (an + 2)) &&& (63 : Int32))) (6 : Int32)))]))
            refine g_iand X0 hx 50 (hb hby d3_49) rfl ?_
            show Go p e below s _ _ _ (T0.setTop (mkF m 50 #[.val (.ref x0), .val (.int x1), .val (.int x2), .val (.int ((shlI ((shlI ((g an) &&& (shrI (127 : Int32) x2)) (6 : Int32)) ||| ((g (an + 1)) &&& (63 : Int32))) (6 : Int32)) ||| ((g (an + 2)) &&& (63 : Int32)))), .val (.int (((1 : Int32) + (1 : Int32)) + (1 : Int32))), .val (.int (g (an + 3)))] [(.int ((g (an + 3)) &&& (63 : Int32))), (.int (shlI ((shlI ((shlI ((g an) &&& (shrI (127 : Int32) x2)) (6 : Int32)) ||| ((g (an + 1)) &&& (63 : Int32))) (6 : Int32)) ||| ((g (an + 2)) &&& (63 : Int32))) (6 : Int32)))]))
            refine g_ior X0 hx 51 (hb hby d3_50) rfl ?_
            show Go p e below s _ _ _ (T0.setTop (mkF m 51 #[.val (.ref x0), .val (.int x1), .val (.int x2), .val (.int ((shlI ((shlI ((g an) &&& (shrI (127 : Int32) x2)) (6 : Int32)) ||| ((g (an + 1)) &&& (63 : Int32))) (6 : Int32)) ||| ((g (an + 2)) &&& (63 : Int32)))), .val (.int (((1 : Int32) + (1 : Int32)) + (1 : Int32))), .val (.int (g (an + 3)))] [(.int ((shlI ((shlI ((shlI ((g an) &&& (shrI (127 : Int32) x2)) (6 : Int32)) ||| ((g (an + 1)) &&& (63 : Int32))) (6 : Int32)) ||| ((g (an + 2)) &&& (63 : Int32))) (6 : Int32)) ||| ((g (an + 3)) &&& (63 : Int32))))]))
            refine g_istoreN X0 hx #[.val (.ref x0), .val (.int x1), .val (.int x2), .val (.int ((shlI ((shlI ((shlI ((g an) &&& (shrI (127 : Int32) x2)) (6 : Int32)) ||| ((g (an + 1)) &&& (63 : Int32))) (6 : Int32)) ||| ((g (an + 2)) &&& (63 : Int32))) (6 : Int32)) ||| ((g (an + 3)) &&& (63 : Int32)))), .val (.int (((1 : Int32) + (1 : Int32)) + (1 : Int32))), .val (.int (g (an + 3)))] 52 (hb hby d3_51) rfl rfl ?_
            show Go p e below s _ _ _ (T0.setTop (mkF m 52 #[.val (.ref x0), .val (.int x1), .val (.int x2), .val (.int ((shlI ((shlI ((shlI ((g an) &&& (shrI (127 : Int32) x2)) (6 : Int32)) ||| ((g (an + 1)) &&& (63 : Int32))) (6 : Int32)) ||| ((g (an + 2)) &&& (63 : Int32))) (6 : Int32)) ||| ((g (an + 3)) &&& (63 : Int32)))), .val (.int (((1 : Int32) + (1 : Int32)) + (1 : Int32))), .val (.int (g (an + 3)))] []))
            refine g_iinc X0 hx (1 : Int32) #[.val (.ref x0), .val (.int x1), .val (.int x2), .val (.int ((shlI ((shlI ((shlI ((g an) &&& (shrI (127 : Int32) x2)) (6 : Int32)) ||| ((g (an + 1)) &&& (63 : Int32))) (6 : Int32)) ||| ((g (an + 2)) &&& (63 : Int32))) (6 : Int32)) ||| ((g (an + 3)) &&& (63 : Int32)))), .val (.int ((((1 : Int32) + (1 : Int32)) + (1 : Int32)) + (1 : Int32))), .val (.int (g (an + 3)))] 55 (hb hby d3_52) rfl rfl rfl rfl ?_
            show Go p e below s _ _ _ (T0.setTop (mkF m 55 #[.val (.ref x0), .val (.int x1), .val (.int x2), .val (.int ((shlI ((shlI ((shlI ((g an) &&& (shrI (127 : Int32) x2)) (6 : Int32)) ||| ((g (an + 1)) &&& (63 : Int32))) (6 : Int32)) ||| ((g (an + 2)) &&& (63 : Int32))) (6 : Int32)) ||| ((g (an + 3)) &&& (63 : Int32)))), .val (.int ((((1 : Int32) + (1 : Int32)) + (1 : Int32)) + (1 : Int32))), .val (.int (g (an + 3)))] []))
            refine g_goto X0 hx 12 (hb hby d3_55) (by decide) rfl ?_
            show Go p e below s _ _ _ (T0.setTop (mkF m 12 #[.val (.ref x0), .val (.int x1), .val (.int x2), .val (.int ((shlI ((shlI ((shlI ((g an) &&& (shrI (127 : Int32) x2)) (6 : Int32)) ||| ((g (an + 1)) &&& (63 : Int32))) (6 : Int32)) ||| ((g (an + 2)) &&& (63 : Int32))) (6 : Int32)) ||| ((g (an + 3)) &&& (63 : Int32)))), .val (.int ((((1 : Int32) + (1 : Int32)) + (1 : Int32)) + (1 : Int32))), .val (.int (g (an + 3)))] []))
            refine g_iload X0 hx 14 (hb hby d3_12) rfl rfl ?_
            show Go p e below s _ _ _ (T0.setTop (mkF m 14 #[.val (.ref x0), .val (.int x1), .val (.int x2), .val (.int ((shlI ((shlI ((shlI ((g an) &&& (shrI (127 : Int32) x2)) (6 : Int32)) ||| ((g (an + 1)) &&& (63 : Int32))) (6 : Int32)) ||| ((g (an + 2)) &&& (63 : Int32))) (6 : Int32)) ||| ((g (an + 3)) &&& (63 : Int32)))), .val (.int ((((1 : Int32) + (1 : Int32)) + (1 : Int32)) + (1 : Int32))), .val (.int (g (an + 3)))] [(.int ((((1 : Int32) + (1 : Int32)) + (1 : Int32)) + (1 : Int32)))]))
            refine g_iloadN X0 hx 15 (hb hby d3_14) rfl rfl ?_
            show Go p e below s _ _ _ (T0.setTop (mkF m 15 #[.val (.ref x0), .val (.int x1), .val (.int x2), .val (.int ((shlI ((shlI ((shlI ((g an) &&& (shrI (127 : Int32) x2)) (6 : Int32)) ||| ((g (an + 1)) &&& (63 : Int32))) (6 : Int32)) ||| ((g (an + 2)) &&& (63 : Int32))) (6 : Int32)) ||| ((g (an + 3)) &&& (63 : Int32)))), .val (.int ((((1 : Int32) + (1 : Int32)) + (1 : Int32)) + (1 : Int32))), .val (.int (g (an + 3)))] [(.int x2), (.int ((((1 : Int32) + (1 : Int32)) + (1 : Int32)) + (1 : Int32)))]))
            have h11 : ¬ (((((1 : Int32) + (1 : Int32)) + (1 : Int32)) + (1 : Int32)) < x2) := by rw [Int32.lt_iff_toInt_lt]; show ¬ 4 < x2.toInt; omega
            refine g_icmp_ge X0 hx 58 18 (hb hby d3_15) (by decide) rfl rfl (fun q => absurd q h11) (fun _ => ?_)
            show Go p e below s _ _ _ (T0.setTop (mkF m 58 #[.val (.ref x0), .val (.int x1), .val (.int x2), .val (.int ((shlI ((shlI ((shlI ((g an) &&& (shrI (127 : Int32) x2)) (6 : Int32)) ||| ((g (an + 1)) &&& (63 : Int32))) (6 : Int32)) ||| ((g (an + 2)) &&& (63 : Int32))) (6 : Int32)) ||| ((g (an + 3)) &&& (63 : Int32)))), .val (.int ((((1 : Int32) + (1 : Int32)) + (1 : Int32)) + (1 : Int32))), .val (.int (g (an + 3)))] []))
            refine g_iloadN X0 hx 59 (hb hby d3_58) rfl rfl ?_
            show Go p e below s _ _ _ (T0.setTop (mkF m 59 #[.val (.ref x0), .val (.int x1), .val (.int x2), .val (.int ((shlI ((shlI ((shlI ((g an) &&& (shrI (127 : Int32) x2)) (6 : Int32)) ||| ((g (an + 1)) &&& (63 : Int32))) (6 : Int32)) ||| ((g (an + 2)) &&& (63 : Int32))) (6 : Int32)) ||| ((g (an + 3)) &&& (63 : Int32)))), .val (.int ((((1 : Int32) + (1 : Int32)) + (1 : Int32)) + (1 : Int32))), .val (.int (g (an + 3)))] [(.int x2)]))
            refine g_iconst X0 hx (2 : Int32) 60 (hb hby d3_59) rfl rfl ?_
            show Go p e below s _ _ _ (T0.setTop (mkF m 60 #[.val (.ref x0), .val (.int x1), .val (.int x2), .val (.int ((shlI ((shlI ((shlI ((g an) &&& (shrI (127 : Int32) x2)) (6 : Int32)) ||| ((g (an + 1)) &&& (63 : Int32))) (6 : Int32)) ||| ((g (an + 2)) &&& (63 : Int32))) (6 : Int32)) ||| ((g (an + 3)) &&& (63 : Int32)))), .val (.int ((((1 : Int32) + (1 : Int32)) + (1 : Int32)) + (1 : Int32))), .val (.int (g (an + 3)))] [(.int (2 : Int32)), (.int x2)]))
            refine g_icmp_ne X0 hx 71 63 (hb hby d3_60) (by decide) rfl rfl (fun h12 => ?_) (fun h12 => ?_)
            · show Go p e below s _ _ _ (T0.setTop (mkF m 63 #[.val (.ref x0), .val (.int x1), .val (.int x2), .val (.int ((shlI ((shlI ((shlI ((g an) &&& (shrI (127 : Int32) x2)) (6 : Int32)) ||| ((g (an + 1)) &&& (63 : Int32))) (6 : Int32)) ||| ((g (an + 2)) &&& (63 : Int32))) (6 : Int32)) ||| ((g (an + 3)) &&& (63 : Int32)))), .val (.int ((((1 : Int32) + (1 : Int32)) + (1 : Int32)) + (1 : Int32))), .val (.int (g (an + 3)))] []))
              refine g_sipush X0 hx (128 : Int32) 66 (hb hby d3_63) rfl rfl ?_
              show Go p e below s _ _ _ (T0.setTop (mkF m 66 #[.val (.ref x0), .val (.int x1), .val (.int x2), .val (.int ((shlI ((shlI ((shlI ((g an) &&& (shrI (127 : Int32) x2)) (6 : Int32)) ||| ((g (an + 1)) &&& (63 : Int32))) (6 : Int32)) ||| ((g (an + 2)) &&& (63 : Int32))) (6 : Int32)) ||| ((g (an + 3)) &&& (63 : Int32)))), .val (.int ((((1 : Int32) + (1 : Int32)) + (1 : Int32)) + (1 : Int32))), .val (.int (g (an + 3)))] [(.int (128 : Int32))]))
              refine g_istore X0 hx #[.val (.ref x0), .val (.int x1), .val (.int x2), .val (.int ((shlI ((shlI ((shlI ((g an) &&& (shrI (127 : Int32) x2)) (6 : Int32)) ||| ((g (an + 1)) &&& (63 : Int32))) (6 : Int32)) ||| ((g (an + 2)) &&& (63 : Int32))) (6 : Int32)) ||| ((g (an + 3)) &&& (63 : Int32)))), .val (.int (128 : Int32)), .val (.int (g (an + 3)))] 68 (hb hby d3_66) rfl rfl ?_
              show Go p e below s _ _ _ (T0.setTop (mkF m 68 #[.val (.ref x0), .val (.int x1), .val (.int x2), .val (.int ((shlI ((shlI ((shlI ((g an) &&& (shrI (127 : Int32) x2)) (6 : Int32)) ||| ((g (an + 1)) &&& (63 : Int32))) (6 : Int32)) ||| ((g (an + 2)) &&& (63 : Int32))) (6 : Int32)) ||| ((g (an + 3)) &&& (63 : Int32)))), .val (.int (128 : Int32)), .val (.int (g (an + 3)))] []))
              refine g_goto X0 hx 88 (hb hby d3_68) (by decide) rfl ?_
              show Go p e below s _ _ _ (T0.setTop (mkF m 88 #[.val (.ref x0), .val (.int x1), .val (.int x2), .val (.int ((shlI ((shlI ((shlI ((g an) &&& (shrI (127 : Int32) x2)) (6 : Int32)) ||| ((g (an + 1)) &&& (63 : Int32))) (6 : Int32)) ||| ((g (an + 2)) &&& (63 : Int32))) (6 : Int32)) ||| ((g (an + 3)) &&& (63 : Int32)))), .val (.int (128 : Int32)), .val (.int (g (an + 3)))] []))
              refine g_iloadN X0 hx 89 (hb hby d3_88) rfl rfl ?_
              show Go p e below s _ _ _ (T0.setTop (mkF m 89 #[.val (.ref x0), .val (.int x1), .val (.int x2), .val (.int ((shlI ((shlI ((shlI ((g an) &&& (shrI (127 : Int32) x2)) (6 : Int32)) ||| ((g (an + 1)) &&& (63 : Int32))) (6 : Int32)) ||| ((g (an + 2)) &&& (63 : Int32))) (6 : Int32)) ||| ((g (an + 3)) &&& (63 : Int32)))), .val (.int (128 : Int32)), .val (.int (g (an + 3)))] [(.int ((shlI ((shlI ((shlI ((g an) &&& (shrI (127 : Int32) x2)) (6 : Int32)) ||| ((g (an + 1)) &&& (63 : Int32))) (6 : Int32)) ||| ((g (an + 2)) &&& (63 : Int32))) (6 : Int32)) ||| ((g (an + 3)) &&& (63 : Int32))))]))
              refine g_iload X0 hx 91 (hb hby d3_89) rfl rfl ?_
              show Go p e below s _ _ _ (T0.setTop (mkF m 91 #[.val (.ref x0), .val (.int x1), .val (.int x2), .val (.int ((shlI ((shlI ((shlI ((g an) &&& (shrI (127 : Int32) x2)) (6 : Int32)) ||| ((g (an + 1)) &&& (63 : Int32))) (6 : Int32)) ||| ((g (an + 2)) &&& (63 : Int32))) (6 : Int32)) ||| ((g (an + 3)) &&& (63 : Int32)))), .val (.int (128 : Int32)), .val (.int (g (an + 3)))] [(.int (128 : Int32)), (.int ((shlI ((shlI ((shlI ((g an) &&& (shrI (127 : Int32) x2)) (6 : Int32)) ||| ((g (an + 1)) &&& (63 : Int32))) (6 : Int32)) ||| ((g (an + 2)) &&& (63 : Int32))) (6 : Int32)) ||| ((g (an + 3)) &&& (63 : Int32))))]))
              refine g_icmp_ge X0 hx 99 94 (hb hby d3_91) (by decide) rfl rfl (fun h13 => ?_) (fun h13 => ?_)
              · show Go p e below s _ _ _ (T0.setTop (mkF m 94 #[.val (.ref x0), .val (.int x1), .val (.int x2), .val (.int ((shlI ((shlI ((shlI ((g an) &&& (shrI (127 : Int32) x2)) (6 : Int32)) ||| ((g (an + 1)) &&& (63 : Int32))) (6 : Int32)) ||| ((g (an + 2)) &&& (63 : Int32))) (6 : Int32)) ||| ((g (an + 3)) &&& (63 : Int32)))), .val (.int (128 : Int32)), .val (.int (g (an + 3)))] []))
                refine g_bipush X0 hx (-2 : Int32) 96 (hb hby d3_94) rfl rfl ?_
                show Go p e below s _ _ _ (T0.setTop (mkF m 96 #[.val (.ref x0), .val (.int x1), .val (.int x2), .val (.int ((shlI ((shlI ((shlI ((g an) &&& (shrI (127 : Int32) x2)) (6 : Int32)) ||| ((g (an + 1)) &&& (63 : Int32))) (6 : Int32)) ||| ((g (an + 2)) &&& (63 : Int32))) (6 : Int32)) ||| ((g (an + 3)) &&& (63 : Int32)))), .val (.int (128 : Int32)), .val (.int (g (an + 3)))] [(.int (-2 : Int32))]))
                refine g_goto X0 hx 100 (hb hby d3_96) (by decide) rfl ?_
                show Go p e below s _ _ _ (T0.setTop (mkF m 100 #[.val (.ref x0), .val (.int x1), .val (.int x2), .val (.int ((shlI ((shlI ((shlI ((g an) &&& (shrI (127 : Int32) x2)) (6 : Int32)) ||| ((g (an + 1)) &&& (63 : Int32))) (6 : Int32)) ||| ((g (an + 2)) &&& (63 : Int32))) (6 : Int32)) ||| ((g (an + 3)) &&& (63 : Int32)))), .val (.int (128 : Int32)), .val (.int (g (an + 3)))] [(.int (-2 : Int32))]))
                exact g_retI X0 hx hret hlk (hb hby d3_100) (by decide) (by decide) ⟨congrArg (fun z => some (Value.int z)) (show (-2 : Int32) = (f3 x2 g an) from by rw [f3, if_pos h4, if_pos h5, if_pos h7, if_pos h8, if_pos h10, if_pos h12, if_pos h13]), rfl, e0⟩
              · show Go p e below s _ _ _ (T0.setTop (mkF m 99 #[.val (.ref x0), .val (.int x1), .val (.int x2), .val (.int ((shlI ((shlI ((shlI ((g an) &&& (shrI (127 : Int32) x2)) (6 : Int32)) ||| ((g (an + 1)) &&& (63 : Int32))) (6 : Int32)) ||| ((g (an + 2)) &&& (63 : Int32))) (6 : Int32)) ||| ((g (an + 3)) &&& (63 : Int32)))), .val (.int (128 : Int32)), .val (.int (g (an + 3)))] []))
                refine g_iloadN X0 hx 100 (hb hby d3_99) rfl rfl ?_
                show Go p e below s _ _ _ (T0.setTop (mkF m 100 #[.val (.ref x0), .val (.int x1), .val (.int x2), .val (.int ((shlI ((shlI ((shlI ((g an) &&& (shrI (127 : Int32) x2)) (6 : Int32)) ||| ((g (an + 1)) &&& (63 : Int32))) (6 : Int32)) ||| ((g (an + 2)) &&& (63 : Int32))) (6 : Int32)) ||| ((g (an + 3)) &&& (63 : Int32)))), .val (.int (128 : Int32)), .val (.int (g (an + 3)))] [(.int ((shlI ((shlI ((shlI ((g an) &&& (shrI (127 : Int32) x2)) (6 : Int32)) ||| ((g (an + 1)) &&& (63 : Int32))) (6 : Int32)) ||| ((g (an + 2)) &&& (63 : Int32))) (6 : Int32)) ||| ((g (an + 3)) &&& (63 : Int32))))]))
                exact g_retI X0 hx hret hlk (hb hby d3_100) (by decide) (by decide) ⟨congrArg (fun z => some (Value.int z)) (show ((shlI ((shlI ((shlI ((g an) &&& (shrI (127 : Int32) x2)) (6 : Int32)) ||| ((g (an + 1)) &&& (63 : Int32))) (6 : Int32)) ||| ((g (an + 2)) &&& (63 : Int32))) (6 : Int32)) ||| ((g (an + 3)) &&& (63 : Int32))) = (f3 x2 g an) from by rw [f3, if_pos h4, if_pos h5, if_pos h7, if_pos h8, if_pos h10, if_pos h12, if_neg h13]), rfl, e0⟩
            · show Go p e below s _ _ _ (T0.setTop (mkF m 71 #[.val (.ref x0), .val (.int x1), .val (.int x2), .val (.int ((shlI ((shlI ((shlI ((g an) &&& (shrI (127 : Int32) x2)) (6 : Int32)) ||| ((g (an + 1)) &&& (63 : Int32))) (6 : Int32)) ||| ((g (an + 2)) &&& (63 : Int32))) (6 : Int32)) ||| ((g (an + 3)) &&& (63 : Int32)))), .val (.int ((((1 : Int32) + (1 : Int32)) + (1 : Int32)) + (1 : Int32))), .val (.int (g (an + 3)))] []))
              refine g_iloadN X0 hx 72 (hb hby d3_71) rfl rfl ?_
              show Go p e below s _ _ _ (T0.setTop (mkF m 72 #[.val (.ref x0), .val (.int x1), .val (.int x2), .val (.int ((shlI ((shlI ((shlI ((g an) &&& (shrI (127 : Int32) x2)) (6 : Int32)) ||| ((g (an + 1)) &&& (63 : Int32))) (6 : Int32)) ||| ((g (an + 2)) &&& (63 : Int32))) (6 : Int32)) ||| ((g (an + 3)) &&& (63 : Int32)))), .val (.int ((((1 : Int32) + (1 : Int32)) + (1 : Int32)) + (1 : Int32))), .val (.int (g (an + 3)))] [(.int x2)]))
              refine g_iconst X0 hx (3 : Int32) 73 (hb hby d3_72) rfl rfl ?_
              show Go p e below s _ _ _ (T0.setTop (mkF m 73 #[.val (.ref x0), .val (.int x1), .val (.int x2), .val (.int ((shlI ((shlI ((shlI ((g an) &&& (shrI (127 : Int32) x2)) (6 : Int32)) ||| ((g (an + 1)) &&& (63 : Int32))) (6 : Int32)) ||| ((g (an + 2)) &&& (63 : Int32))) (6 : Int32)) ||| ((g (an + 3)) &&& (63 : Int32)))), .val (.int ((((1 : Int32) + (1 : Int32)) + (1 : Int32)) + (1 : Int32))), .val (.int (g (an + 3)))] [(.int (3 : Int32)), (.int x2)]))
              refine g_icmp_ne X0 hx 84 76 (hb hby d3_73) (by decide) rfl rfl (fun h14 => ?_) (fun h14 => ?_)
              · show Go p e below s _ _ _ (T0.setTop (mkF m 76 #[.val (.ref x0), .val (.int x1), .val (.int x2), .val (.int ((shlI ((shlI ((shlI ((g an) &&& (shrI (127 : Int32) x2)) (6 : Int32)) ||| ((g (an + 1)) &&& (63 : Int32))) (6 : Int32)) ||| ((g (an + 2)) &&& (63 : Int32))) (6 : Int32)) ||| ((g (an + 3)) &&& (63 : Int32)))), .val (.int ((((1 : Int32) + (1 : Int32)) + (1 : Int32)) + (1 : Int32))), .val (.int (g (an + 3)))] []))
                refine g_sipush X0 hx (2048 : Int32) 79 (hb hby d3_76) rfl rfl ?_
                show Go p e below s _ _ _ (T0.setTop (mkF m 79 #[.val (.ref x0), .val (.int x1), .val (.int x2), .val (.int ((shlI ((shlI ((shlI ((g an) &&& (shrI (127 : Int32) x2)) (6 : Int32)) ||| ((g (an + 1)) &&& (63 : Int32))) (6 : Int32)) ||| ((g (an + 2)) &&& (63 : Int32))) (6 : Int32)) ||| ((g (an + 3)) &&& (63 : Int32)))), .val (.int ((((1 : Int32) + (1 : Int32)) + (1 : Int32)) + (1 : Int32))), .val (.int (g (an + 3)))] [(.int (2048 : Int32))]))
                refine g_istore X0 hx #[.val (.ref x0), .val (.int x1), .val (.int x2), .val (.int ((shlI ((shlI ((shlI ((g an) &&& (shrI (127 : Int32) x2)) (6 : Int32)) ||| ((g (an + 1)) &&& (63 : Int32))) (6 : Int32)) ||| ((g (an + 2)) &&& (63 : Int32))) (6 : Int32)) ||| ((g (an + 3)) &&& (63 : Int32)))), .val (.int (2048 : Int32)), .val (.int (g (an + 3)))] 81 (hb hby d3_79) rfl rfl ?_
                show Go p e below s _ _ _ (T0.setTop (mkF m 81 #[.val (.ref x0), .val (.int x1), .val (.int x2), .val (.int ((shlI ((shlI ((shlI ((g an) &&& (shrI (127 : Int32) x2)) (6 : Int32)) ||| ((g (an + 1)) &&& (63 : Int32))) (6 : Int32)) ||| ((g (an + 2)) &&& (63 : Int32))) (6 : Int32)) ||| ((g (an + 3)) &&& (63 : Int32)))), .val (.int (2048 : Int32)), .val (.int (g (an + 3)))] []))
                refine g_goto X0 hx 88 (hb hby d3_81) (by decide) rfl ?_
                show Go p e below s _ _ _ (T0.setTop (mkF m 88 #[.val (.ref x0), .val (.int x1), .val (.int x2), .val (.int ((shlI ((shlI ((shlI ((g an) &&& (shrI (127 : Int32) x2)) (6 : Int32)) ||| ((g (an + 1)) &&& (63 : Int32))) (6 : Int32)) ||| ((g (an + 2)) &&& (63 : Int32))) (6 : Int32)) ||| ((g (an + 3)) &&& (63 : Int32)))), .val (.int (2048 : Int32)), .val (.int (g (an + 3)))] []))
                refine g_iloadN X0 hx 89 (hb hby d3_88) rfl rfl ?_
                show Go p e below s _ _ _ (T0.setTop (mkF m 89 #[.val (.ref x0), .val (.int x1), .val (.int x2), .val (.int ((shlI ((shlI ((shlI ((g an) &&& (shrI (127 : Int32) x2)) (6 : Int32)) ||| ((g (an + 1)) &&& (63 : Int32))) (6 : Int32)) ||| ((g (an + 2)) &&& (63 : Int32))) (6 : Int32)) ||| ((g (an + 3)) &&& (63 : Int32)))), .val (.int (2048 : Int32)), .val (.int (g (an + 3)))] [(.int ((shlI ((shlI ((shlI ((g an) &&& (shrI (127 : Int32) x2)) (6 : Int32)) ||| ((g (an + 1)) &&& (63 : Int32))) (6 : Int32)) ||| ((g (an + 2)) &&& (63 : Int32))) (6 : Int32)) ||| ((g (an + 3)) &&& (63 : Int32))))]))
                refine g_iload X0 hx 91 (hb hby d3_89) rfl rfl ?_
                show Go p e below s _ _ _ (T0.setTop (mkF m 91 #[.val (.ref x0), .val (.int x1), .val (.int x2), .val (.int ((shlI ((shlI ((shlI ((g an) &&& (shrI (127 : Int32) x2)) (6 : Int32)) ||| ((g (an + 1)) &&& (63 : Int32))) (6 : Int32)) ||| ((g (an + 2)) &&& (63 : Int32))) (6 : Int32)) ||| ((g (an + 3)) &&& (63 : Int32)))), .val (.int (2048 : Int32)), .val (.int (g (an + 3)))] [(.int (2048 : Int32)), (.int ((shlI ((shlI ((shlI ((g an) &&& (shrI (127 : Int32) x2)) (6 : Int32)) ||| ((g (an + 1)) &&& (63 : Int32))) (6 : Int32)) ||| ((g (an + 2)) &&& (63 : Int32))) (6 : Int32)) ||| ((g (an + 3)) &&& (63 : Int32))))]))
                refine g_icmp_ge X0 hx 99 94 (hb hby d3_91) (by decide) rfl rfl (fun h15 => ?_) (fun h15 => ?_)
                · show Go p e below s _ _ _ (T0.setTop (mkF m 94 #[.val (.ref x0), .val (.int x1), .val (.int x2), .val (.int ((shlI ((shlI ((shlI ((g an) &&& (shrI (127 : Int32) x2)) (6 : Int32)) ||| ((g (an + 1)) &&& (63 : Int32))) (6 : Int32)) ||| ((g (an + 2)) &&& (63 : Int32))) (6 : Int32)) ||| ((g (an + 3)) &&& (63 : Int32)))), .val (.int (2048 : Int32)), .val (.int (g (an + 3)))] []))
                  refine g_bipush X0 hx (-2 : Int32) 96 (hb hby d3_94) rfl rfl ?_
                  show Go p e below s _ _ _ (T0.setTop (mkF m 96 #[.val (.ref x0), .val (.int x1), .val (.int x2), .val (.int ((shlI ((shlI ((shlI ((g an) &&& (shrI (127 : Int32) x2)) (6 : Int32)) ||| ((g (an + 1)) &&& (63 : Int32))) (6 : Int32)) ||| ((g (an + 2)) &&& (63 : Int32))) (6 : Int32)) ||| ((g (an + 3)) &&& (63 : Int32)))), .val (.int (2048 : Int32)), .val (.int (g (an + 3)))] [(.int (-2 : Int32))]))
                  refine g_goto X0 hx 100 (hb hby d3_96) (by decide) rfl ?_
                  show Go p e below s _ _ _ (T0.setTop (mkF m 100 #[.val (.ref x0), .val (.int x1), .val (.int x2), .val (.int ((shlI ((shlI ((shlI ((g an) &&& (shrI (127 : Int32) x2)) (6 : Int32)) ||| ((g (an + 1)) &&& (63 : Int32))) (6 : Int32)) ||| ((g (an + 2)) &&& (63 : Int32))) (6 : Int32)) ||| ((g (an + 3)) &&& (63 : Int32)))), .val (.int (2048 : Int32)), .val (.int (g (an + 3)))] [(.int (-2 : Int32))]))
                  exact g_retI X0 hx hret hlk (hb hby d3_100) (by decide) (by decide) ⟨congrArg (fun z => some (Value.int z)) (show (-2 : Int32) = (f3 x2 g an) from by rw [f3, if_pos h4, if_pos h5, if_pos h7, if_pos h8, if_pos h10, if_neg h12, if_pos h14, if_pos h15]), rfl, e0⟩
                · show Go p e below s _ _ _ (T0.setTop (mkF m 99 #[.val (.ref x0), .val (.int x1), .val (.int x2), .val (.int ((shlI ((shlI ((shlI ((g an) &&& (shrI (127 : Int32) x2)) (6 : Int32)) ||| ((g (an + 1)) &&& (63 : Int32))) (6 : Int32)) ||| ((g (an + 2)) &&& (63 : Int32))) (6 : Int32)) ||| ((g (an + 3)) &&& (63 : Int32)))), .val (.int (2048 : Int32)), .val (.int (g (an + 3)))] []))
                  refine g_iloadN X0 hx 100 (hb hby d3_99) rfl rfl ?_
                  show Go p e below s _ _ _ (T0.setTop (mkF m 100 #[.val (.ref x0), .val (.int x1), .val (.int x2), .val (.int ((shlI ((shlI ((shlI ((g an) &&& (shrI (127 : Int32) x2)) (6 : Int32)) ||| ((g (an + 1)) &&& (63 : Int32))) (6 : Int32)) ||| ((g (an + 2)) &&& (63 : Int32))) (6 : Int32)) ||| ((g (an + 3)) &&& (63 : Int32)))), .val (.int (2048 : Int32)), .val (.int (g (an + 3)))] [(.int ((shlI ((shlI ((shlI ((g an) &&& (shrI (127 : Int32) x2)) (6 : Int32)) ||| ((g (an + 1)) &&& (63 : Int32))) (6 : Int32)) ||| ((g (an + 2)) &&& (63 : Int32))) (6 : Int32)) ||| ((g (an + 3)) &&& (63 : Int32))))]))
                  exact g_retI X0 hx hret hlk (hb hby d3_100) (by decide) (by decide) ⟨congrArg (fun z => some (Value.int z)) (show ((shlI ((shlI ((shlI ((g an) &&& (shrI (127 : Int32) x2)) (6 : Int32)) ||| ((g (an + 1)) &&& (63 : Int32))) (6 : Int32)) ||| ((g (an + 2)) &&& (63 : Int32))) (6 : Int32)) ||| ((g (an + 3)) &&& (63 : Int32))) = (f3 x2 g an) from by rw [f3, if_pos h4, if_pos h5, if_pos h7, if_pos h8, if_pos h10, if_neg h12, if_pos h14, if_neg h15]), rfl, e0⟩
              · show Go p e below s _ _ _ (T0.setTop (mkF m 84 #[.val (.ref x0), .val (.int x1), .val (.int x2), .val (.int ((shlI ((shlI ((shlI ((g an) &&& (shrI (127 : Int32) x2)) (6 : Int32)) ||| ((g (an + 1)) &&& (63 : Int32))) (6 : Int32)) ||| ((g (an + 2)) &&& (63 : Int32))) (6 : Int32)) ||| ((g (an + 3)) &&& (63 : Int32)))), .val (.int ((((1 : Int32) + (1 : Int32)) + (1 : Int32)) + (1 : Int32))), .val (.int (g (an + 3)))] []))
                refine g_ldc X0 hx hZ hown (hw _ (List.mem_of_getElem? (i := 13) rfl)) 86 (hb hby d3_84) rfl ?_
                show Go p e below s _ _ _ (T0.setTop (mkF m 86 #[.val (.ref x0), .val (.int x1), .val (.int x2), .val (.int ((shlI ((shlI ((shlI ((g an) &&& (shrI (127 : Int32) x2)) (6 : Int32)) ||| ((g (an + 1)) &&& (63 : Int32))) (6 : Int32)) ||| ((g (an + 2)) &&& (63 : Int32))) (6 : Int32)) ||| ((g (an + 3)) &&& (63 : Int32)))), .val (.int ((((1 : Int32) + (1 : Int32)) + (1 : Int32)) + (1 : Int32))), .val (.int (g (an + 3)))] [(.int (65536 : Int32))]))
                refine g_istore X0 hx #[.val (.ref x0), .val (.int x1), .val (.int x2), .val (.int ((shlI ((shlI ((shlI ((g an) &&& (shrI (127 : Int32) x2)) (6 : Int32)) ||| ((g (an + 1)) &&& (63 : Int32))) (6 : Int32)) ||| ((g (an + 2)) &&& (63 : Int32))) (6 : Int32)) ||| ((g (an + 3)) &&& (63 : Int32)))), .val (.int (65536 : Int32)), .val (.int (g (an + 3)))] 88 (hb hby d3_86) rfl rfl ?_
                show Go p e below s _ _ _ (T0.setTop (mkF m 88 #[.val (.ref x0), .val (.int x1), .val (.int x2), .val (.int ((shlI ((shlI ((shlI ((g an) &&& (shrI (127 : Int32) x2)) (6 : Int32)) ||| ((g (an + 1)) &&& (63 : Int32))) (6 : Int32)) ||| ((g (an + 2)) &&& (63 : Int32))) (6 : Int32)) ||| ((g (an + 3)) &&& (63 : Int32)))), .val (.int (65536 : Int32)), .val (.int (g (an + 3)))] []))
                refine g_iloadN X0 hx 89 (hb hby d3_88) rfl rfl ?_
                show Go p e below s _ _ _ (T0.setTop (mkF m 89 #[.val (.ref x0), .val (.int x1), .val (.int x2), .val (.int ((shlI ((shlI ((shlI ((g an) &&& (shrI (127 : Int32) x2)) (6 : Int32)) ||| ((g (an + 1)) &&& (63 : Int32))) (6 : Int32)) ||| ((g (an + 2)) &&& (63 : Int32))) (6 : Int32)) ||| ((g (an + 3)) &&& (63 : Int32)))), .val (.int (65536 : Int32)), .val (.int (g (an + 3)))] [(.int ((shlI ((shlI ((shlI ((g an) &&& (shrI (127 : Int32) x2)) (6 : Int32)) ||| ((g (an + 1)) &&& (63 : Int32))) (6 : Int32)) ||| ((g (an + 2)) &&& (63 : Int32))) (6 : Int32)) ||| ((g (an + 3)) &&& (63 : Int32))))]))
                refine g_iload X0 hx 91 (hb hby d3_89) rfl rfl ?_
                show Go p e below s _ _ _ (T0.setTop (mkF m 91 #[.val (.ref x0), .val (.int x1), .val (.int x2), .val (.int ((shlI ((shlI ((shlI ((g an) &&& (shrI (127 : Int32) x2)) (6 : Int32)) ||| ((g (an + 1)) &&& (63 : Int32))) (6 : Int32)) ||| ((g (an + 2)) &&& (63 : Int32))) (6 : Int32)) ||| ((g (an + 3)) &&& (63 : Int32)))), .val (.int (65536 : Int32)), .val (.int (g (an + 3)))] [(.int (65536 : Int32)), (.int ((shlI ((shlI ((shlI ((g an) &&& (shrI (127 : Int32) x2)) (6 : Int32)) ||| ((g (an + 1)) &&& (63 : Int32))) (6 : Int32)) ||| ((g (an + 2)) &&& (63 : Int32))) (6 : Int32)) ||| ((g (an + 3)) &&& (63 : Int32))))]))
                refine g_icmp_ge X0 hx 99 94 (hb hby d3_91) (by decide) rfl rfl (fun h16 => ?_) (fun h16 => ?_)
                · show Go p e below s _ _ _ (T0.setTop (mkF m 94 #[.val (.ref x0), .val (.int x1), .val (.int x2), .val (.int ((shlI ((shlI ((shlI ((g an) &&& (shrI (127 : Int32) x2)) (6 : Int32)) ||| ((g (an + 1)) &&& (63 : Int32))) (6 : Int32)) ||| ((g (an + 2)) &&& (63 : Int32))) (6 : Int32)) ||| ((g (an + 3)) &&& (63 : Int32)))), .val (.int (65536 : Int32)), .val (.int (g (an + 3)))] []))
                  refine g_bipush X0 hx (-2 : Int32) 96 (hb hby d3_94) rfl rfl ?_
                  show Go p e below s _ _ _ (T0.setTop (mkF m 96 #[.val (.ref x0), .val (.int x1), .val (.int x2), .val (.int ((shlI ((shlI ((shlI ((g an) &&& (shrI (127 : Int32) x2)) (6 : Int32)) ||| ((g (an + 1)) &&& (63 : Int32))) (6 : Int32)) ||| ((g (an + 2)) &&& (63 : Int32))) (6 : Int32)) ||| ((g (an + 3)) &&& (63 : Int32)))), .val (.int (65536 : Int32)), .val (.int (g (an + 3)))] [(.int (-2 : Int32))]))
                  refine g_goto X0 hx 100 (hb hby d3_96) (by decide) rfl ?_
                  show Go p e below s _ _ _ (T0.setTop (mkF m 100 #[.val (.ref x0), .val (.int x1), .val (.int x2), .val (.int ((shlI ((shlI ((shlI ((g an) &&& (shrI (127 : Int32) x2)) (6 : Int32)) ||| ((g (an + 1)) &&& (63 : Int32))) (6 : Int32)) ||| ((g (an + 2)) &&& (63 : Int32))) (6 : Int32)) ||| ((g (an + 3)) &&& (63 : Int32)))), .val (.int (65536 : Int32)), .val (.int (g (an + 3)))] [(.int (-2 : Int32))]))
                  exact g_retI X0 hx hret hlk (hb hby d3_100) (by decide) (by decide) ⟨congrArg (fun z => some (Value.int z)) (show (-2 : Int32) = (f3 x2 g an) from by rw [f3, if_pos h4, if_pos h5, if_pos h7, if_pos h8, if_pos h10, if_neg h12, if_neg h14, if_pos h16]), rfl, e0⟩
                · show Go p e below s _ _ _ (T0.setTop (mkF m 99 #[.val (.ref x0), .val (.int x1), .val (.int x2), .val (.int ((shlI ((shlI ((shlI ((g an) &&& (shrI (127 : Int32) x2)) (6 : Int32)) ||| ((g (an + 1)) &&& (63 : Int32))) (6 : Int32)) ||| ((g (an + 2)) &&& (63 : Int32))) (6 : Int32)) ||| ((g (an + 3)) &&& (63 : Int32)))), .val (.int (65536 : Int32)), .val (.int (g (an + 3)))] []))
                  refine g_iloadN X0 hx 100 (hb hby d3_99) rfl rfl ?_
                  show Go p e below s _ _ _ (T0.setTop (mkF m 100 #[.val (.ref x0), .val (.int x1), .val (.int x2), .val (.int ((shlI ((shlI ((shlI ((g an) &&& (shrI (127 : Int32) x2)) (6 : Int32)) ||| ((g (an + 1)) &&& (63 : Int32))) (6 : Int32)) ||| ((g (an + 2)) &&& (63 : Int32))) (6 : Int32)) ||| ((g (an + 3)) &&& (63 : Int32)))), .val (.int (65536 : Int32)), .val (.int (g (an + 3)))] [(.int ((shlI ((shlI ((shlI ((g an) &&& (shrI (127 : Int32) x2)) (6 : Int32)) ||| ((g (an + 1)) &&& (63 : Int32))) (6 : Int32)) ||| ((g (an + 2)) &&& (63 : Int32))) (6 : Int32)) ||| ((g (an + 3)) &&& (63 : Int32))))]))
                  exact g_retI X0 hx hret hlk (hb hby d3_100) (by decide) (by decide) ⟨congrArg (fun z => some (Value.int z)) (show ((shlI ((shlI ((shlI ((g an) &&& (shrI (127 : Int32) x2)) (6 : Int32)) ||| ((g (an + 1)) &&& (63 : Int32))) (6 : Int32)) ||| ((g (an + 2)) &&& (63 : Int32))) (6 : Int32)) ||| ((g (an + 3)) &&& (63 : Int32))) = (f3 x2 g an) from by rw [f3, if_pos h4, if_pos h5, if_pos h7, if_pos h8, if_pos h10, if_neg h12, if_neg h14, if_neg h16]), rfl, e0⟩
          · show Go p e below s _ _ _ (T0.setTop (mkF m 38 #[.val (.ref x0), .val (.int x1), .val (.int x2), .val (.int ((shlI ((shlI ((g an) &&& (shrI (127 : Int32) x2)) (6 : Int32)) ||| ((g (an + 1)) &&& (63 : Int32))) (6 : Int32)) ||| ((g (an + 2)) &&& (63 : Int32)))), .val (.int (((1 : Int32) + (1 : Int32)) + (1 : Int32))), .val (.int (g (an + 3)))] []))
            refine g_bipush X0 hx (-2 : Int32) 40 (hb hby d3_38) rfl rfl ?_
            show Go p e below s _ _ _ (T0.setTop (mkF m 40 #[.val (.ref x0), .val (.int x1), .val (.int x2), .val (.int ((shlI ((shlI ((g an) &&& (shrI (127 : Int32) x2)) (6 : Int32)) ||| ((g (an + 1)) &&& (63 : Int32))) (6 : Int32)) ||| ((g (an + 2)) &&& (63 : Int32)))), .val (.int (((1 : Int32) + (1 : Int32)) + (1 : Int32))), .val (.int (g (an + 3)))] [(.int (-2 : Int32))]))
            exact g_retI X0 hx hret hlk (hb hby d3_40) (by decide) (by decide) ⟨congrArg (fun z => some (Value.int z)) (show (-2 : Int32) = (f3 x2 g an) from by rw [f3, if_pos h4, if_pos h5, if_pos h7, if_pos h8, if_neg h10]), rfl, e0⟩
        · show Go p e below s _ _ _ (T0.setTop (mkF m 58 #[.val (.ref x0), .val (.int x1), .val (.int x2), .val (.int ((shlI ((shlI ((g an) &&& (shrI (127 : Int32) x2)) (6 : Int32)) ||| ((g (an + 1)) &&& (63 : Int32))) (6 : Int32)) ||| ((g (an + 2)) &&& (63 : Int32)))), .val (.int (((1 : Int32) + (1 : Int32)) + (1 : Int32))), .val (.int (g (an + 2)))] []))
          refine g_iloadN X0 hx 59 (hb hby d3_58) rfl rfl ?_
          show Go p e below s _ _ _ (T0.setTop (mkF m 59 #[.val (.ref x0), .val (.int x1), .val (.int x2), .val (.int ((shlI ((shlI ((g an) &&& (shrI (127 : Int32) x2)) (6 : Int32)) ||| ((g (an + 1)) &&& (63 : Int32))) (6 : Int32)) ||| ((g (an + 2)) &&& (63 : Int32)))), .val (.int (((1 : Int32) + (1 : Int32)) + (1 : Int32))), .val (.int (g (an + 2)))] [(.int x2)]))
          refine g_iconst X0 hx (2 : Int32) 60 (hb hby d3_59) rfl rfl ?_
          show Go p e below s _ _ _ (T0.setTop (mkF m 60 #[.val (.ref x0), .val (.int x1), .val (.int x2), .val (.int ((shlI ((shlI ((g an) &&& (shrI (127 : Int32) x2)) (6 : Int32)) ||| ((g (an + 1)) &&& (63 : Int32))) (6 : Int32)) ||| ((g (an + 2)) &&& (63 : Int32)))), .val (.int (((1 : Int32) + (1 : Int32)) + (1 : Int32))), .val (.int (g (an + 2)))] [(.int (2 : Int32)), (.int x2)]))
          refine g_icmp_ne X0 hx 71 63 (hb hby d3_60) (by decide) rfl rfl (fun h17 => ?_) (fun h17 => ?_)
          · show Go p e below s _ _ _ (T0.setTop (mkF m 63 #[.val (.ref x0), .val (.int x1), .val (.int x2), .val (.int ((shlI ((shlI ((g an) &&& (shrI (127 : Int32) x2)) (6 : Int32)) ||| ((g (an + 1)) &&& (63 : Int32))) (6 : Int32)) ||| ((g (an + 2)) &&& (63 : Int32)))), .val (.int (((1 : Int32) + (1 : Int32)) + (1 : Int32))), .val (.int (g (an + 2)))] []))
            refine g_sipush X0 hx (128 : Int32) 66 (hb hby d3_63) rfl rfl ?_
            show Go p e below s _ _ _ (T0.setTop (mkF m 66 #[.val (.ref x0), .val (.int x1), .val (.int x2), .val (.int ((shlI ((shlI ((g an) &&& (shrI (127 : Int32) x2)) (6 : Int32)) ||| ((g (an + 1)) &&& (63 : Int32))) (6 : Int32)) ||| ((g (an + 2)) &&& (63 : Int32)))), .val (.int (((1 : Int32) + (1 : Int32)) + (1 : Int32))), .val (.int (g (an + 2)))] [(.int (128 : Int32))]))
            refine g_istore X0 hx #[.val (.ref x0), .val (.int x1), .val (.int x2), .val (.int ((shlI ((shlI ((g an) &&& (shrI (127 : Int32) x2)) (6 : Int32)) ||| ((g (an + 1)) &&& (63 : Int32))) (6 : Int32)) ||| ((g (an + 2)) &&& (63 : Int32)))), .val (.int (128 : Int32)), .val (.int (g (an + 2)))] 68 (hb hby d3_66) rfl rfl ?_
            show Go p e below s _ _ _ (T0.setTop (mkF m 68 #[.val (.ref x0), .val (.int x1), .val (.int x2), .val (.int ((shlI ((shlI ((g an) &&& (shrI (127 : Int32) x2)) (6 : Int32)) ||| ((g (an + 1)) &&& (63 : Int32))) (6 : Int32)) ||| ((g (an + 2)) &&& (63 : Int32)))), .val (.int (128 : Int32)), .val (.int (g (an + 2)))] []))
            refine g_goto X0 hx 88 (hb hby d3_68) (by decide) rfl ?_
            show Go p e below s _ _ _ (T0.setTop (mkF m 88 #[.val (.ref x0), .val (.int x1), .val (.int x2), .val (.int ((shlI ((shlI ((g an) &&& (shrI (127 : Int32) x2)) (6 : Int32)) ||| ((g (an + 1)) &&& (63 : Int32))) (6 : Int32)) ||| ((g (an + 2)) &&& (63 : Int32)))), .val (.int (128 : Int32)), .val (.int (g (an + 2)))] []))
            refine g_iloadN X0 hx 89 (hb hby d3_88) rfl rfl ?_
            show Go p e below s _ _ _ (T0.setTop (mkF m 89 #[.val (.ref x0), .val (.int x1), .val (.int x2), .val (.int ((shlI ((shlI ((g an) &&& (shrI (127 : Int32) x2)) (6 : Int32)) ||| ((g (an + 1)) &&& (63 : Int32))) (6 : Int32)) ||| ((g (an + 2)) &&& (63 : Int32)))), .val (.int (128 : Int32)), .val (.int (g (an + 2)))] [(.int ((shlI ((shlI ((g an) &&& (shrI (127 : Int32) x2)) (6 : Int32)) ||| ((g (an + 1)) &&& (63 : Int32))) (6 : Int32)) ||| ((g (an + 2)) &&& (63 : Int32))))]))
            refine g_iload X0 hx 91 (hb hby d3_89) rfl rfl ?_
            show Go p e below s _ _ _ (T0.setTop (mkF m 91 #[.val (.ref x0), .val (.int x1), .val (.int x2), .val (.int ((shlI ((shlI ((g an) &&& (shrI (127 : Int32) x2)) (6 : Int32)) ||| ((g (an + 1)) &&& (63 : Int32))) (6 : Int32)) ||| ((g (an + 2)) &&& (63 : Int32)))), .val (.int (128 : Int32)), .val (.int (g (an + 2)))] [(.int (128 : Int32)), (.int ((shlI ((shlI ((g an) &&& (shrI (127 : Int32) x2)) (6 : Int32)) ||| ((g (an + 1)) &&& (63 : Int32))) (6 : Int32)) ||| ((g (an + 2)) &&& (63 : Int32))))]))
            refine g_icmp_ge X0 hx 99 94 (hb hby d3_91) (by decide) rfl rfl (fun h18 => ?_) (fun h18 => ?_)
            · show Go p e below s _ _ _ (T0.setTop (mkF m 94 #[.val (.ref x0), .val (.int x1), .val (.int x2), .val (.int ((shlI ((shlI ((g an) &&& (shrI (127 : Int32) x2)) (6 : Int32)) ||| ((g (an + 1)) &&& (63 : Int32))) (6 : Int32)) ||| ((g (an + 2)) &&& (63 : Int32)))), .val (.int (128 : Int32)), .val (.int (g (an + 2)))] []))
              refine g_bipush X0 hx (-2 : Int32) 96 (hb hby d3_94) rfl rfl ?_
              show Go p e below s _ _ _ (T0.setTop (mkF m 96 #[.val (.ref x0), .val (.int x1), .val (.int x2), .val (.int ((shlI ((shlI ((g an) &&& (shrI (127 : Int32) x2)) (6 : Int32)) ||| ((g (an + 1)) &&& (63 : Int32))) (6 : Int32)) ||| ((g (an + 2)) &&& (63 : Int32)))), .val (.int (128 : Int32)), .val (.int (g (an + 2)))] [(.int (-2 : Int32))]))
              refine g_goto X0 hx 100 (hb hby d3_96) (by decide) rfl ?_
              show Go p e below s _ _ _ (T0.setTop (mkF m 100 #[.val (.ref x0), .val (.int x1), .val (.int x2), .val (.int ((shlI ((shlI ((g an) &&& (shrI (127 : Int32) x2)) (6 : Int32)) ||| ((g (an + 1)) &&& (63 : Int32))) (6 : Int32)) ||| ((g (an + 2)) &&& (63 : Int32)))), .val (.int (128 : Int32)), .val (.int (g (an + 2)))] [(.int (-2 : Int32))]))
              exact g_retI X0 hx hret hlk (hb hby d3_100) (by decide) (by decide) ⟨congrArg (fun z => some (Value.int z)) (show (-2 : Int32) = (f3 x2 g an) from by rw [f3, if_pos h4, if_pos h5, if_pos h7, if_neg h8, if_pos h17, if_pos h18]), rfl, e0⟩
            · show Go p e below s _ _ _ (T0.setTop (mkF m 99 #[.val (.ref x0), .val (.int x1), .val (.int x2), .val (.int ((shlI ((shlI ((g an) &&& (shrI (127 : Int32) x2)) (6 : Int32)) ||| ((g (an + 1)) &&& (63 : Int32))) (6 : Int32)) ||| ((g (an + 2)) &&& (63 : Int32)))), .val (.int (128 : Int32)), .val (.int (g (an + 2)))] []))
              refine g_iloadN X0 hx 100 (hb hby d3_99) rfl rfl ?_
              show Go p e below s _ _ _ (T0.setTop (mkF m 100 #[.val (.ref x0), .val (.int x1), .val (.int x2), .val (.int ((shlI ((shlI ((g an) &&& (shrI (127 : Int32) x2)) (6 : Int32)) ||| ((g (an + 1)) &&& (63 : Int32))) (6 : Int32)) ||| ((g (an + 2)) &&& (63 : Int32)))), .val (.int (128 : Int32)), .val (.int (g (an + 2)))] [(.int ((shlI ((shlI ((g an) &&& (shrI (127 : Int32) x2)) (6 : Int32)) ||| ((g (an + 1)) &&& (63 : Int32))) (6 : Int32)) ||| ((g (an + 2)) &&& (63 : Int32))))]))
              exact g_retI X0 hx hret hlk (hb hby d3_100) (by decide) (by decide) ⟨congrArg (fun z => some (Value.int z)) (show ((shlI ((shlI ((g an) &&& (shrI (127 : Int32) x2)) (6 : Int32)) ||| ((g (an + 1)) &&& (63 : Int32))) (6 : Int32)) ||| ((g (an + 2)) &&& (63 : Int32))) = (f3 x2 g an) from by rw [f3, if_pos h4, if_pos h5, if_pos h7, if_neg h8, if_pos h17, if_neg h18]), rfl, e0⟩
          · show Go p e below s _ _ _ (T0.setTop (mkF m 71 #[.val (.ref x0), .val (.int x1), .val (.int x2), .val (.int ((shlI ((shlI ((g an) &&& (shrI (127 : Int32) x2)) (6 : Int32)) ||| ((g (an + 1)) &&& (63 : Int32))) (6 : Int32)) ||| ((g (an + 2)) &&& (63 : Int32)))), .val (.int (((1 : Int32) + (1 : Int32)) + (1 : Int32))), .val (.int (g (an + 2)))] []))
            refine g_iloadN X0 hx 72 (hb hby d3_71) rfl rfl ?_
            show Go p e below s _ _ _ (T0.setTop (mkF m 72 #[.val (.ref x0), .val (.int x1), .val (.int x2), .val (.int ((shlI ((shlI ((g an) &&& (shrI (127 : Int32) x2)) (6 : Int32)) ||| ((g (an + 1)) &&& (63 : Int32))) (6 : Int32)) ||| ((g (an + 2)) &&& (63 : Int32)))), .val (.int (((1 : Int32) + (1 : Int32)) + (1 : Int32))), .val (.int (g (an + 2)))] [(.int x2)]))
            refine g_iconst X0 hx (3 : Int32) 73 (hb hby d3_72) rfl rfl ?_
            show Go p e below s _ _ _ (T0.setTop (mkF m 73 #[.val (.ref x0), .val (.int x1), .val (.int x2), .val (.int ((shlI ((shlI ((g an) &&& (shrI (127 : Int32) x2)) (6 : Int32)) ||| ((g (an + 1)) &&& (63 : Int32))) (6 : Int32)) ||| ((g (an + 2)) &&& (63 : Int32)))), .val (.int (((1 : Int32) + (1 : Int32)) + (1 : Int32))), .val (.int (g (an + 2)))] [(.int (3 : Int32)), (.int x2)]))
            refine g_icmp_ne X0 hx 84 76 (hb hby d3_73) (by decide) rfl rfl (fun h19 => ?_) (fun h19 => ?_)
            · show Go p e below s _ _ _ (T0.setTop (mkF m 76 #[.val (.ref x0), .val (.int x1), .val (.int x2), .val (.int ((shlI ((shlI ((g an) &&& (shrI (127 : Int32) x2)) (6 : Int32)) ||| ((g (an + 1)) &&& (63 : Int32))) (6 : Int32)) ||| ((g (an + 2)) &&& (63 : Int32)))), .val (.int (((1 : Int32) + (1 : Int32)) + (1 : Int32))), .val (.int (g (an + 2)))] []))
              refine g_sipush X0 hx (2048 : Int32) 79 (hb hby d3_76) rfl rfl ?_
              show Go p e below s _ _ _ (T0.setTop (mkF m 79 #[.val (.ref x0), .val (.int x1), .val (.int x2), .val (.int ((shlI ((shlI ((g an) &&& (shrI (127 : Int32) x2)) (6 : Int32)) ||| ((g (an + 1)) &&& (63 : Int32))) (6 : Int32)) ||| ((g (an + 2)) &&& (63 : Int32)))), .val (.int (((1 : Int32) + (1 : Int32)) + (1 : Int32))), .val (.int (g (an + 2)))] [(.int (2048 : Int32))]))
              refine g_istore X0 hx #[.val (.ref x0), .val (.int x1), .val (.int x2), .val (.int ((shlI ((shlI ((g an) &&& (shrI (127 : Int32) x2)) (6 : Int32)) ||| ((g (an + 1)) &&& (63 : Int32))) (6 : Int32)) ||| ((g (an + 2)) &&& (63 : Int32)))), .val (.int (2048 : Int32)), .val (.int (g (an + 2)))] 81 (hb hby d3_79) rfl rfl ?_
              show Go p e below s _ _ _ (T0.setTop (mkF m 81 #[.val (.ref x0), .val (.int x1), .val (.int x2), .val (.int ((shlI ((shlI ((g an) &&& (shrI (127 : Int32) x2)) (6 : Int32)) ||| ((g (an + 1)) &&& (63 : Int32))) (6 : Int32)) ||| ((g (an + 2)) &&& (63 : Int32)))), .val (.int (2048 : Int32)), .val (.int (g (an + 2)))] []))
              refine g_goto X0 hx 88 (hb hby d3_81) (by decide) rfl ?_
              show Go p e below s _ _ _ (T0.setTop (mkF m 88 #[.val (.ref x0), .val (.int x1), .val (.int x2), .val (.int ((shlI ((shlI ((g an) &&& (shrI (127 : Int32) x2)) (6 : Int32)) ||| ((g (an + 1)) &&& (63 : Int32))) (6 : Int32)) ||| ((g (an + 2)) &&& (63 : Int32)))), .val (.int (2048 : Int32)), .val (.int (g (an + 2)))] []))
              refine g_iloadN X0 hx 89 (hb hby d3_88) rfl rfl ?_
              show Go p e below s _ _ _ (T0.setTop (mkF m 89 #[.val (.ref x0), .val (.int x1), .val (.int x2), .val (.int ((shlI ((shlI ((g an) &&& (shrI (127 : Int32) x2)) (6 : Int32)) ||| ((g (an + 1)) &&& (63 : Int32))) (6 : Int32)) ||| ((g (an + 2)) &&& (63 : Int32)))), .val (.int (2048 : Int32)), .val (.int (g (an + 2)))] [(.int ((shlI ((shlI ((g an) &&& (shrI (127 : Int32) x2)) (6 : Int32)) ||| ((g (an + 1)) &&& (63 : Int32))) (6 : Int32)) ||| ((g (an + 2)) &&& (63 : Int32))))]))
              refine g_iload X0 hx 91 (hb hby d3_89) rfl rfl ?_
              show Go p e below s _ _ _ (T0.setTop (mkF m 91 #[.val (.ref x0), .val (.int x1), .val (.int x2), .val (.int ((shlI ((shlI ((g an) &&& (shrI (127 : Int32) x2)) (6 : Int32)) ||| ((g (an + 1)) &&& (63 : Int32))) (6 : Int32)) ||| ((g (an + 2)) &&& (63 : Int32)))), .val (.int (2048 : Int32)), .val (.int (g (an + 2)))] [(.int (2048 : Int32)), (.int ((shlI ((shlI ((g an) &&& (shrI (127 : Int32) x2)) (6 : Int32)) ||| ((g (an + 1)) &&& (63 : Int32))) (6 : Int32)) ||| ((g (an + 2)) &&& (63 : Int32))))]))
              refine g_icmp_ge X0 hx 99 94 (hb hby d3_91) (by decide) rfl rfl (fun h20 => ?_) (fun h20 => ?_)
              · show Go p e below s _ _ _ (T0.setTop (mkF m 94 #[.val (.ref x0), .val (.int x1), .val (.int x2), .val (.int ((shlI ((shlI ((g an) &&& (shrI (127 : Int32) x2)) (6 : Int32)) ||| ((g (an + 1)) &&& (63 : Int32))) (6 : Int32)) ||| ((g (an + 2)) &&& (63 : Int32)))), .val (.int (2048 : Int32)), .val (.int (g (an + 2)))] []))
                refine g_bipush X0 hx (-2 : Int32) 96 (hb hby d3_94) rfl rfl ?_
                show Go p e below s _ _ _ (T0.setTop (mkF m 96 #[.val (.ref x0), .val (.int x1), .val (.int x2), .val (.int ((shlI ((shlI ((g an) &&& (shrI (127 : Int32) x2)) (6 : Int32)) ||| ((g (an + 1)) &&& (63 : Int32))) (6 : Int32)) ||| ((g (an + 2)) &&& (63 : Int32)))), .val (.int (2048 : Int32)), .val (.int (g (an + 2)))] [(.int (-2 : Int32))]))
                refine g_goto X0 hx 100 (hb hby d3_96) (by decide) rfl ?_
                show Go p e below s _ _ _ (T0.setTop (mkF m 100 #[.val (.ref x0), .val (.int x1), .val (.int x2), .val (.int ((shlI ((shlI ((g an) &&& (shrI (127 : Int32) x2)) (6 : Int32)) ||| ((g (an + 1)) &&& (63 : Int32))) (6 : Int32)) ||| ((g (an + 2)) &&& (63 : Int32)))), .val (.int (2048 : Int32)), .val (.int (g (an + 2)))] [(.int (-2 : Int32))]))
                exact g_retI X0 hx hret hlk (hb hby d3_100) (by decide) (by decide) ⟨congrArg (fun z => some (Value.int z)) (show (-2 : Int32) = (f3 x2 g an) from by rw [f3, if_pos h4, if_pos h5, if_pos h7, if_neg h8, if_neg h17, if_pos h19, if_pos h20]), rfl, e0⟩
              · show Go p e below s _ _ _ (T0.setTop (mkF m 99 #[.val (.ref x0), .val (.int x1), .val (.int x2), .val (.int ((shlI ((shlI ((g an) &&& (shrI (127 : Int32) x2)) (6 : Int32)) ||| ((g (an + 1)) &&& (63 : Int32))) (6 : Int32)) ||| ((g (an + 2)) &&& (63 : Int32)))), .val (.int (2048 : Int32)), .val (.int (g (an + 2)))] []))
                refine g_iloadN X0 hx 100 (hb hby d3_99) rfl rfl ?_
                show Go p e below s _ _ _ (T0.setTop (mkF m 100 #[.val (.ref x0), .val (.int x1), .val (.int x2), .val (.int ((shlI ((shlI ((g an) &&& (shrI (127 : Int32) x2)) (6 : Int32)) ||| ((g (an + 1)) &&& (63 : Int32))) (6 : Int32)) ||| ((g (an + 2)) &&& (63 : Int32)))), .val (.int (2048 : Int32)), .val (.int (g (an + 2)))] [(.int ((shlI ((shlI ((g an) &&& (shrI (127 : Int32) x2)) (6 : Int32)) ||| ((g (an + 1)) &&& (63 : Int32))) (6 : Int32)) ||| ((g (an + 2)) &&& (63 : Int32))))]))
                exact g_retI X0 hx hret hlk (hb hby d3_100) (by decide) (by decide) ⟨congrArg (fun z => some (Value.int z)) (show ((shlI ((shlI ((g an) &&& (shrI (127 : Int32) x2)) (6 : Int32)) ||| ((g (an + 1)) &&& (63 : Int32))) (6 : Int32)) ||| ((g (an + 2)) &&& (63 : Int32))) = (f3 x2 g an) from by rw [f3, if_pos h4, if_pos h5, if_pos h7, if_neg h8, if_neg h17, if_pos h19, if_neg h20]), rfl, e0⟩
            · show Go p e below s _ _ _ (T0.setTop (mkF m 84 #[.val (.ref x0), .val (.int x1), .val (.int x2), .val (.int ((shlI ((shlI ((g an) &&& (shrI (127 : Int32) x2)) (6 : Int32)) ||| ((g (an + 1)) &&& (63 : Int32))) (6 : Int32)) ||| ((g (an + 2)) &&& (63 : Int32)))), .val (.int (((1 : Int32) + (1 : Int32)) + (1 : Int32))), .val (.int (g (an + 2)))] []))
              refine g_ldc X0 hx hZ hown (hw _ (List.mem_of_getElem? (i := 13) rfl)) 86 (hb hby d3_84) rfl ?_
              show Go p e below s _ _ _ (T0.setTop (mkF m 86 #[.val (.ref x0), .val (.int x1), .val (.int x2), .val (.int ((shlI ((shlI ((g an) &&& (shrI (127 : Int32) x2)) (6 : Int32)) ||| ((g (an + 1)) &&& (63 : Int32))) (6 : Int32)) ||| ((g (an + 2)) &&& (63 : Int32)))), .val (.int (((1 : Int32) + (1 : Int32)) + (1 : Int32))), .val (.int (g (an + 2)))] [(.int (65536 : Int32))]))
              refine g_istore X0 hx #[.val (.ref x0), .val (.int x1), .val (.int x2), .val (.int ((shlI ((shlI ((g an) &&& (shrI (127 : Int32) x2)) (6 : Int32)) ||| ((g (an + 1)) &&& (63 : Int32))) (6 : Int32)) ||| ((g (an + 2)) &&& (63 : Int32)))), .val (.int (65536 : Int32)), .val (.int (g (an + 2)))] 88 (hb hby d3_86) rfl rfl ?_
              show Go p e below s _ _ _ (T0.setTop (mkF m 88 #[.val (.ref x0), .val (.int x1), .val (.int x2), .val (.int ((shlI ((shlI ((g an) &&& (shrI (127 : Int32) x2)) (6 : Int32)) ||| ((g (an + 1)) &&& (63 : Int32))) (6 : Int32)) ||| ((g (an + 2)) &&& (63 : Int32)))), .val (.int (65536 : Int32)), .val (.int (g (an + 2)))] []))
              refine g_iloadN X0 hx 89 (hb hby d3_88) rfl rfl ?_
              show Go p e below s _ _ _ (T0.setTop (mkF m 89 #[.val (.ref x0), .val (.int x1), .val (.int x2), .val (.int ((shlI ((shlI ((g an) &&& (shrI (127 : Int32) x2)) (6 : Int32)) ||| ((g (an + 1)) &&& (63 : Int32))) (6 : Int32)) ||| ((g (an + 2)) &&& (63 : Int32)))), .val (.int (65536 : Int32)), .val (.int (g (an + 2)))] [(.int ((shlI ((shlI ((g an) &&& (shrI (127 : Int32) x2)) (6 : Int32)) ||| ((g (an + 1)) &&& (63 : Int32))) (6 : Int32)) ||| ((g (an + 2)) &&& (63 : Int32))))]))
              refine g_iload X0 hx 91 (hb hby d3_89) rfl rfl ?_
              show Go p e below s _ _ _ (T0.setTop (mkF m 91 #[.val (.ref x0), .val (.int x1), .val (.int x2), .val (.int ((shlI ((shlI ((g an) &&& (shrI (127 : Int32) x2)) (6 : Int32)) ||| ((g (an + 1)) &&& (63 : Int32))) (6 : Int32)) ||| ((g (an + 2)) &&& (63 : Int32)))), .val (.int (65536 : Int32)), .val (.int (g (an + 2)))] [(.int (65536 : Int32)), (.int ((shlI ((shlI ((g an) &&& (shrI (127 : Int32) x2)) (6 : Int32)) ||| ((g (an + 1)) &&& (63 : Int32))) (6 : Int32)) ||| ((g (an + 2)) &&& (63 : Int32))))]))
              refine g_icmp_ge X0 hx 99 94 (hb hby d3_91) (by decide) rfl rfl (fun h21 => ?_) (fun h21 => ?_)
              · show Go p e below s _ _ _ (T0.setTop (mkF m 94 #[.val (.ref x0), .val (.int x1), .val (.int x2), .val (.int ((shlI ((shlI ((g an) &&& (shrI (127 : Int32) x2)) (6 : Int32)) ||| ((g (an + 1)) &&& (63 : Int32))) (6 : Int32)) ||| ((g (an + 2)) &&& (63 : Int32)))), .val (.int (65536 : Int32)), .val (.int (g (an + 2)))] []))
                refine g_bipush X0 hx (-2 : Int32) 96 (hb hby d3_94) rfl rfl ?_
                show Go p e below s _ _ _ (T0.setTop (mkF m 96 #[.val (.ref x0), .val (.int x1), .val (.int x2), .val (.int ((shlI ((shlI ((g an) &&& (shrI (127 : Int32) x2)) (6 : Int32)) ||| ((g (an + 1)) &&& (63 : Int32))) (6 : Int32)) ||| ((g (an + 2)) &&& (63 : Int32)))), .val (.int (65536 : Int32)), .val (.int (g (an + 2)))] [(.int (-2 : Int32))]))
                refine g_goto X0 hx 100 (hb hby d3_96) (by decide) rfl ?_
                show Go p e below s _ _ _ (T0.setTop (mkF m 100 #[.val (.ref x0), .val (.int x1), .val (.int x2), .val (.int ((shlI ((shlI ((g an) &&& (shrI (127 : Int32) x2)) (6 : Int32)) ||| ((g (an + 1)) &&& (63 : Int32))) (6 : Int32)) ||| ((g (an + 2)) &&& (63 : Int32)))), .val (.int (65536 : Int32)), .val (.int (g (an + 2)))] [(.int (-2 : Int32))]))
                exact g_retI X0 hx hret hlk (hb hby d3_100) (by decide) (by decide) ⟨congrArg (fun z => some (Value.int z)) (show (-2 : Int32) = (f3 x2 g an) from by rw [f3, if_pos h4, if_pos h5, if_pos h7, if_neg h8, if_neg h17, if_neg h19, if_pos h21]), rfl, e0⟩
              · show Go p e below s _ _ _ (T0.setTop (mkF m 99 #[.val (.ref x0), .val (.int x1), .val (.int x2), .val (.int ((shlI ((shlI ((g an) &&& (shrI (127 : Int32) x2)) (6 : Int32)) ||| ((g (an + 1)) &&& (63 : Int32))) (6 : Int32)) ||| ((g (an + 2)) &&& (63 : Int32)))), .val (.int (65536 : Int32)), .val (.int (g (an + 2)))] []))
                refine g_iloadN X0 hx 100 (hb hby d3_99) rfl rfl ?_
                show Go p e below s _ _ _ (T0.setTop (mkF m 100 #[.val (.ref x0), .val (.int x1), .val (.int x2), .val (.int ((shlI ((shlI ((g an) &&& (shrI (127 : Int32) x2)) (6 : Int32)) ||| ((g (an + 1)) &&& (63 : Int32))) (6 : Int32)) ||| ((g (an + 2)) &&& (63 : Int32)))), .val (.int (65536 : Int32)), .val (.int (g (an + 2)))] [(.int ((shlI ((shlI ((g an) &&& (shrI (127 : Int32) x2)) (6 : Int32)) ||| ((g (an + 1)) &&& (63 : Int32))) (6 : Int32)) ||| ((g (an + 2)) &&& (63 : Int32))))]))
                exact g_retI X0 hx hret hlk (hb hby d3_100) (by decide) (by decide) ⟨congrArg (fun z => some (Value.int z)) (show ((shlI ((shlI ((g an) &&& (shrI (127 : Int32) x2)) (6 : Int32)) ||| ((g (an + 1)) &&& (63 : Int32))) (6 : Int32)) ||| ((g (an + 2)) &&& (63 : Int32))) = (f3 x2 g an) from by rw [f3, if_pos h4, if_pos h5, if_pos h7, if_neg h8, if_neg h17, if_neg h19, if_neg h21]), rfl, e0⟩
      · show Go p e below s _ _ _ (T0.setTop (mkF m 38 #[.val (.ref x0), .val (.int x1), .val (.int x2), .val (.int ((shlI ((g an) &&& (shrI (127 : Int32) x2)) (6 : Int32)) ||| ((g (an + 1)) &&& (63 : Int32)))), .val (.int ((1 : Int32) + (1 : Int32))), .val (.int (g (an + 2)))] []))
        refine g_bipush X0 hx (-2 : Int32) 40 (hb hby d3_38) rfl rfl ?_
        show Go p e below s _ _ _ (T0.setTop (mkF m 40 #[.val (.ref x0), .val (.int x1), .val (.int x2), .val (.int ((shlI ((g an) &&& (shrI (127 : Int32) x2)) (6 : Int32)) ||| ((g (an + 1)) &&& (63 : Int32)))), .val (.int ((1 : Int32) + (1 : Int32))), .val (.int (g (an + 2)))] [(.int (-2 : Int32))]))
        exact g_retI X0 hx hret hlk (hb hby d3_40) (by decide) (by decide) ⟨congrArg (fun z => some (Value.int z)) (show (-2 : Int32) = (f3 x2 g an) from by rw [f3, if_pos h4, if_pos h5, if_neg h7]), rfl, e0⟩
    · show Go p e below s _ _ _ (T0.setTop (mkF m 58 #[.val (.ref x0), .val (.int x1), .val (.int x2), .val (.int ((shlI ((g an) &&& (shrI (127 : Int32) x2)) (6 : Int32)) ||| ((g (an + 1)) &&& (63 : Int32)))), .val (.int ((1 : Int32) + (1 : Int32))), .val (.int (g (an + 1)))] []))
      refine g_iloadN X0 hx 59 (hb hby d3_58) rfl rfl ?_
      show Go p e below s _ _ _ (T0.setTop (mkF m 59 #[.val (.ref x0), .val (.int x1), .val (.int x2), .val (.int ((shlI ((g an) &&& (shrI (127 : Int32) x2)) (6 : Int32)) ||| ((g (an + 1)) &&& (63 : Int32)))), .val (.int ((1 : Int32) + (1 : Int32))), .val (.int (g (an + 1)))] [(.int x2)]))
      refine g_iconst X0 hx (2 : Int32) 60 (hb hby d3_59) rfl rfl ?_
      show Go p e below s _ _ _ (T0.setTop (mkF m 60 #[.val (.ref x0), .val (.int x1), .val (.int x2), .val (.int ((shlI ((g an) &&& (shrI (127 : Int32) x2)) (6 : Int32)) ||| ((g (an + 1)) &&& (63 : Int32)))), .val (.int ((1 : Int32) + (1 : Int32))), .val (.int (g (an + 1)))] [(.int (2 : Int32)), (.int x2)]))
      refine g_icmp_ne X0 hx 71 63 (hb hby d3_60) (by decide) rfl rfl (fun h22 => ?_) (fun h22 => ?_)
      · show Go p e below s _ _ _ (T0.setTop (mkF m 63 #[.val (.ref x0), .val (.int x1), .val (.int x2), .val (.int ((shlI ((g an) &&& (shrI (127 : Int32) x2)) (6 : Int32)) ||| ((g (an + 1)) &&& (63 : Int32)))), .val (.int ((1 : Int32) + (1 : Int32))), .val (.int (g (an + 1)))] []))
        refine g_sipush X0 hx (128 : Int32) 66 (hb hby d3_63) rfl rfl ?_
        show Go p e below s _ _ _ (T0.setTop (mkF m 66 #[.val (.ref x0), .val (.int x1), .val (.int x2), .val (.int ((shlI ((g an) &&& (shrI (127 : Int32) x2)) (6 : Int32)) ||| ((g (an + 1)) &&& (63 : Int32)))), .val (.int ((1 : Int32) + (1 : Int32))), .val (.int (g (an + 1)))] [(.int (128 : Int32))]))
        refine g_istore X0 hx #[.val (.ref x0), .val (.int x1), .val (.int x2), .val (.int ((shlI ((g an) &&& (shrI (127 : Int32) x2)) (6 : Int32)) ||| ((g (an + 1)) &&& (63 : Int32)))), .val (.int (128 : Int32)), .val (.int (g (an + 1)))] 68 (hb hby d3_66) rfl rfl ?_
        show Go p e below s _ _ _ (T0.setTop (mkF m 68 #[.val (.ref x0), .val (.int x1), .val (.int x2), .val (.int ((shlI ((g an) &&& (shrI (127 : Int32) x2)) (6 : Int32)) ||| ((g (an + 1)) &&& (63 : Int32)))), .val (.int (128 : Int32)), .val (.int (g (an + 1)))] []))
        refine g_goto X0 hx 88 (hb hby d3_68) (by decide) rfl ?_
        show Go p e below s _ _ _ (T0.setTop (mkF m 88 #[.val (.ref x0), .val (.int x1), .val (.int x2), .val (.int ((shlI ((g an) &&& (shrI (127 : Int32) x2)) (6 : Int32)) ||| ((g (an + 1)) &&& (63 : Int32)))), .val (.int (128 : Int32)), .val (.int (g (an + 1)))] []))
        refine g_iloadN X0 hx 89 (hb hby d3_88) rfl rfl ?_
        show Go p e below s _ _ _ (T0.setTop (mkF m 89 #[.val (.ref x0), .val (.int x1), .val (.int x2), .val (.int ((shlI ((g an) &&& (shrI (127 : Int32) x2)) (6 : Int32)) ||| ((g (an + 1)) &&& (63 : Int32)))), .val (.int (128 : Int32)), .val (.int (g (an + 1)))] [(.int ((shlI ((g an) &&& (shrI (127 : Int32) x2)) (6 : Int32)) ||| ((g (an + 1)) &&& (63 : Int32))))]))
        refine g_iload X0 hx 91 (hb hby d3_89) rfl rfl ?_
        show Go p e below s _ _ _ (T0.setTop (mkF m 91 #[.val (.ref x0), .val (.int x1), .val (.int x2), .val (.int ((shlI ((g an) &&& (shrI (127 : Int32) x2)) (6 : Int32)) ||| ((g (an + 1)) &&& (63 : Int32)))), .val (.int (128 : Int32)), .val (.int (g (an + 1)))] [(.int (128 : Int32)), (.int ((shlI ((g an) &&& (shrI (127 : Int32) x2)) (6 : Int32)) ||| ((g (an + 1)) &&& (63 : Int32))))]))
        refine g_icmp_ge X0 hx 99 94 (hb hby d3_91) (by decide) rfl rfl (fun h23 => ?_) (fun h23 => ?_)
        · show Go p e below s _ _ _ (T0.setTop (mkF m 94 #[.val (.ref x0), .val (.int x1), .val (.int x2), .val (.int ((shlI ((g an) &&& (shrI (127 : Int32) x2)) (6 : Int32)) ||| ((g (an + 1)) &&& (63 : Int32)))), .val (.int (128 : Int32)), .val (.int (g (an + 1)))] []))
          refine g_bipush X0 hx (-2 : Int32) 96 (hb hby d3_94) rfl rfl ?_
          show Go p e below s _ _ _ (T0.setTop (mkF m 96 #[.val (.ref x0), .val (.int x1), .val (.int x2), .val (.int ((shlI ((g an) &&& (shrI (127 : Int32) x2)) (6 : Int32)) ||| ((g (an + 1)) &&& (63 : Int32)))), .val (.int (128 : Int32)), .val (.int (g (an + 1)))] [(.int (-2 : Int32))]))
          refine g_goto X0 hx 100 (hb hby d3_96) (by decide) rfl ?_
          show Go p e below s _ _ _ (T0.setTop (mkF m 100 #[.val (.ref x0), .val (.int x1), .val (.int x2), .val (.int ((shlI ((g an) &&& (shrI (127 : Int32) x2)) (6 : Int32)) ||| ((g (an + 1)) &&& (63 : Int32)))), .val (.int (128 : Int32)), .val (.int (g (an + 1)))] [(.int (-2 : Int32))]))
          exact g_retI X0 hx hret hlk (hb hby d3_100) (by decide) (by decide) ⟨congrArg (fun z => some (Value.int z)) (show (-2 : Int32) = (f3 x2 g an) from by rw [f3, if_pos h4, if_neg h5, if_pos h22, if_pos h23]), rfl, e0⟩
        · show Go p e below s _ _ _ (T0.setTop (mkF m 99 #[.val (.ref x0), .val (.int x1), .val (.int x2), .val (.int ((shlI ((g an) &&& (shrI (127 : Int32) x2)) (6 : Int32)) ||| ((g (an + 1)) &&& (63 : Int32)))), .val (.int (128 : Int32)), .val (.int (g (an + 1)))] []))
          refine g_iloadN X0 hx 100 (hb hby d3_99) rfl rfl ?_
          show Go p e below s _ _ _ (T0.setTop (mkF m 100 #[.val (.ref x0), .val (.int x1), .val (.int x2), .val (.int ((shlI ((g an) &&& (shrI (127 : Int32) x2)) (6 : Int32)) ||| ((g (an + 1)) &&& (63 : Int32)))), .val (.int (128 : Int32)), .val (.int (g (an + 1)))] [(.int ((shlI ((g an) &&& (shrI (127 : Int32) x2)) (6 : Int32)) ||| ((g (an + 1)) &&& (63 : Int32))))]))
          exact g_retI X0 hx hret hlk (hb hby d3_100) (by decide) (by decide) ⟨congrArg (fun z => some (Value.int z)) (show ((shlI ((g an) &&& (shrI (127 : Int32) x2)) (6 : Int32)) ||| ((g (an + 1)) &&& (63 : Int32))) = (f3 x2 g an) from by rw [f3, if_pos h4, if_neg h5, if_pos h22, if_neg h23]), rfl, e0⟩
      · show Go p e below s _ _ _ (T0.setTop (mkF m 71 #[.val (.ref x0), .val (.int x1), .val (.int x2), .val (.int ((shlI ((g an) &&& (shrI (127 : Int32) x2)) (6 : Int32)) ||| ((g (an + 1)) &&& (63 : Int32)))), .val (.int ((1 : Int32) + (1 : Int32))), .val (.int (g (an + 1)))] []))
        refine g_iloadN X0 hx 72 (hb hby d3_71) rfl rfl ?_
        show Go p e below s _ _ _ (T0.setTop (mkF m 72 #[.val (.ref x0), .val (.int x1), .val (.int x2), .val (.int ((shlI ((g an) &&& (shrI (127 : Int32) x2)) (6 : Int32)) ||| ((g (an + 1)) &&& (63 : Int32)))), .val (.int ((1 : Int32) + (1 : Int32))), .val (.int (g (an + 1)))] [(.int x2)]))
        refine g_iconst X0 hx (3 : Int32) 73 (hb hby d3_72) rfl rfl ?_
        show Go p e below s _ _ _ (T0.setTop (mkF m 73 #[.val (.ref x0), .val (.int x1), .val (.int x2), .val (.int ((shlI ((g an) &&& (shrI (127 : Int32) x2)) (6 : Int32)) ||| ((g (an + 1)) &&& (63 : Int32)))), .val (.int ((1 : Int32) + (1 : Int32))), .val (.int (g (an + 1)))] [(.int (3 : Int32)), (.int x2)]))
        refine g_icmp_ne X0 hx 84 76 (hb hby d3_73) (by decide) rfl rfl (fun h24 => ?_) (fun h24 => ?_)
        · show Go p e below s _ _ _ (T0.setTop (mkF m 76 #[.val (.ref x0), .val (.int x1), .val (.int x2), .val (.int ((shlI ((g an) &&& (shrI (127 : Int32) x2)) (6 : Int32)) ||| ((g (an + 1)) &&& (63 : Int32)))), .val (.int ((1 : Int32) + (1 : Int32))), .val (.int (g (an + 1)))] []))
          refine g_sipush X0 hx (2048 : Int32) 79 (hb hby d3_76) rfl rfl ?_
          show Go p e below s _ _ _ (T0.setTop (mkF m 79 #[.val (.ref x0), .val (.int x1), .val (.int x2), .val (.int ((shlI ((g an) &&& (shrI (127 : Int32) x2)) (6 : Int32)) ||| ((g (an + 1)) &&& (63 : Int32)))), .val (.int ((1 : Int32) + (1 : Int32))), .val (.int (g (an + 1)))] [(.int (2048 : Int32))]))
          refine g_istore X0 hx #[.val (.ref x0), .val (.int x1), .val (.int x2), .val (.int ((shlI ((g an) &&& (shrI (127 : Int32) x2)) (6 : Int32)) ||| ((g (an + 1)) &&& (63 : Int32)))), .val (.int (2048 : Int32)), .val (.int (g (an + 1)))] 81 (hb hby d3_79) rfl rfl ?_
          show Go p e below s _ _ _ (T0.setTop (mkF m 81 #[.val (.ref x0), .val (.int x1), .val (.int x2), .val (.int ((shlI ((g an) &&& (shrI (127 : Int32) x2)) (6 : Int32)) ||| ((g (an + 1)) &&& (63 : Int32)))), .val (.int (2048 : Int32)), .val (.int (g (an + 1)))] []))
          refine g_goto X0 hx 88 (hb hby d3_81) (by decide) rfl ?_
          show Go p e below s _ _ _ (T0.setTop (mkF m 88 #[.val (.ref x0), .val (.int x1), .val (.int x2), .val (.int ((shlI ((g an) &&& (shrI (127 : Int32) x2)) (6 : Int32)) ||| ((g (an + 1)) &&& (63 : Int32)))), .val (.int (2048 : Int32)), .val (.int (g (an + 1)))] []))
          refine g_iloadN X0 hx 89 (hb hby d3_88) rfl rfl ?_
          show Go p e below s _ _ _ (T0.setTop (mkF m 89 #[.val (.ref x0), .val (.int x1), .val (.int x2), .val (.int ((shlI ((g an) &&& (shrI (127 : Int32) x2)) (6 : Int32)) ||| ((g (an + 1)) &&& (63 : Int32)))), .val (.int (2048 : Int32)), .val (.int (g (an + 1)))] [(.int ((shlI ((g an) &&& (shrI (127 : Int32) x2)) (6 : Int32)) ||| ((g (an + 1)) &&& (63 : Int32))))]))
          refine g_iload X0 hx 91 (hb hby d3_89) rfl rfl ?_
          show Go p e below s _ _ _ (T0.setTop (mkF m 91 #[.val (.ref x0), .val (.int x1), .val (.int x2), .val (.int ((shlI ((g an) &&& (shrI (127 : Int32) x2)) (6 : Int32)) ||| ((g (an + 1)) &&& (63 : Int32)))), .val (.int (2048 : Int32)), .val (.int (g (an + 1)))] [(.int (2048 : Int32)), (.int ((shlI ((g an) &&& (shrI (127 : Int32) x2)) (6 : Int32)) ||| ((g (an + 1)) &&& (63 : Int32))))]))
          refine g_icmp_ge X0 hx 99 94 (hb hby d3_91) (by decide) rfl rfl (fun h25 => ?_) (fun h25 => ?_)
          · show Go p e below s _ _ _ (T0.setTop (mkF m 94 #[.val (.ref x0), .val (.int x1), .val (.int x2), .val (.int ((shlI ((g an) &&& (shrI (127 : Int32) x2)) (6 : Int32)) ||| ((g (an + 1)) &&& (63 : Int32)))), .val (.int (2048 : Int32)), .val (.int (g (an + 1)))] []))
            refine g_bipush X0 hx (-2 : Int32) 96 (hb hby d3_94) rfl rfl ?_
            show Go p e below s _ _ _ (T0.setTop (mkF m 96 #[.val (.ref x0), .val (.int x1), .val (.int x2), .val (.int ((shlI ((g an) &&& (shrI (127 : Int32) x2)) (6 : Int32)) ||| ((g (an + 1)) &&& (63 : Int32)))), .val (.int (2048 : Int32)), .val (.int (g (an + 1)))] [(.int (-2 : Int32))]))
            refine g_goto X0 hx 100 (hb hby d3_96) (by decide) rfl ?_
            show Go p e below s _ _ _ (T0.setTop (mkF m 100 #[.val (.ref x0), .val (.int x1), .val (.int x2), .val (.int ((shlI ((g an) &&& (shrI (127 : Int32) x2)) (6 : Int32)) ||| ((g (an + 1)) &&& (63 : Int32)))), .val (.int (2048 : Int32)), .val (.int (g (an + 1)))] [(.int (-2 : Int32))]))
            exact g_retI X0 hx hret hlk (hb hby d3_100) (by decide) (by decide) ⟨congrArg (fun z => some (Value.int z)) (show (-2 : Int32) = (f3 x2 g an) from by rw [f3, if_pos h4, if_neg h5, if_neg h22, if_pos h24, if_pos h25]), rfl, e0⟩
          · show Go p e below s _ _ _ (T0.setTop (mkF m 99 #[.val (.ref x0), .val (.int x1), .val (.int x2), .val (.int ((shlI ((g an) &&& (shrI (127 : Int32) x2)) (6 : Int32)) ||| ((g (an + 1)) &&& (63 : Int32)))), .val (.int (2048 : Int32)), .val (.int (g (an + 1)))] []))
            refine g_iloadN X0 hx 100 (hb hby d3_99) rfl rfl ?_
            show Go p e below s _ _ _ (T0.setTop (mkF m 100 #[.val (.ref x0), .val (.int x1), .val (.int x2), .val (.int ((shlI ((g an) &&& (shrI (127 : Int32) x2)) (6 : Int32)) ||| ((g (an + 1)) &&& (63 : Int32)))), .val (.int (2048 : Int32)), .val (.int (g (an + 1)))] [(.int ((shlI ((g an) &&& (shrI (127 : Int32) x2)) (6 : Int32)) ||| ((g (an + 1)) &&& (63 : Int32))))]))
            exact g_retI X0 hx hret hlk (hb hby d3_100) (by decide) (by decide) ⟨congrArg (fun z => some (Value.int z)) (show ((shlI ((g an) &&& (shrI (127 : Int32) x2)) (6 : Int32)) ||| ((g (an + 1)) &&& (63 : Int32))) = (f3 x2 g an) from by rw [f3, if_pos h4, if_neg h5, if_neg h22, if_pos h24, if_neg h25]), rfl, e0⟩
        · show Go p e below s _ _ _ (T0.setTop (mkF m 84 #[.val (.ref x0), .val (.int x1), .val (.int x2), .val (.int ((shlI ((g an) &&& (shrI (127 : Int32) x2)) (6 : Int32)) ||| ((g (an + 1)) &&& (63 : Int32)))), .val (.int ((1 : Int32) + (1 : Int32))), .val (.int (g (an + 1)))] []))
          refine g_ldc X0 hx hZ hown (hw _ (List.mem_of_getElem? (i := 13) rfl)) 86 (hb hby d3_84) rfl ?_
          show Go p e below s _ _ _ (T0.setTop (mkF m 86 #[.val (.ref x0), .val (.int x1), .val (.int x2), .val (.int ((shlI ((g an) &&& (shrI (127 : Int32) x2)) (6 : Int32)) ||| ((g (an + 1)) &&& (63 : Int32)))), .val (.int ((1 : Int32) + (1 : Int32))), .val (.int (g (an + 1)))] [(.int (65536 : Int32))]))
          refine g_istore X0 hx #[.val (.ref x0), .val (.int x1), .val (.int x2), .val (.int ((shlI ((g an) &&& (shrI (127 : Int32) x2)) (6 : Int32)) ||| ((g (an + 1)) &&& (63 : Int32)))), .val (.int (65536 : Int32)), .val (.int (g (an + 1)))] 88 (hb hby d3_86) rfl rfl ?_
          show Go p e below s _ _ _ (T0.setTop (mkF m 88 #[.val (.ref x0), .val (.int x1), .val (.int x2), .val (.int ((shlI ((g an) &&& (shrI (127 : Int32) x2)) (6 : Int32)) ||| ((g (an + 1)) &&& (63 : Int32)))), .val (.int (65536 : Int32)), .val (.int (g (an + 1)))] []))
          refine g_iloadN X0 hx 89 (hb hby d3_88) rfl rfl ?_
          show Go p e below s _ _ _ (T0.setTop (mkF m 89 #[.val (.ref x0), .val (.int x1), .val (.int x2), .val (.int ((shlI ((g an) &&& (shrI (127 : Int32) x2)) (6 : Int32)) ||| ((g (an + 1)) &&& (63 : Int32)))), .val (.int (65536 : Int32)), .val (.int (g (an + 1)))] [(.int ((shlI ((g an) &&& (shrI (127 : Int32) x2)) (6 : Int32)) ||| ((g (an + 1)) &&& (63 : Int32))))]))
          refine g_iload X0 hx 91 (hb hby d3_89) rfl rfl ?_
          show Go p e below s _ _ _ (T0.setTop (mkF m 91 #[.val (.ref x0), .val (.int x1), .val (.int x2), .val (.int ((shlI ((g an) &&& (shrI (127 : Int32) x2)) (6 : Int32)) ||| ((g (an + 1)) &&& (63 : Int32)))), .val (.int (65536 : Int32)), .val (.int (g (an + 1)))] [(.int (65536 : Int32)), (.int ((shlI ((g an) &&& (shrI (127 : Int32) x2)) (6 : Int32)) ||| ((g (an + 1)) &&& (63 : Int32))))]))
          refine g_icmp_ge X0 hx 99 94 (hb hby d3_91) (by decide) rfl rfl (fun h26 => ?_) (fun h26 => ?_)
          · show Go p e below s _ _ _ (T0.setTop (mkF m 94 #[.val (.ref x0), .val (.int x1), .val (.int x2), .val (.int ((shlI ((g an) &&& (shrI (127 : Int32) x2)) (6 : Int32)) ||| ((g (an + 1)) &&& (63 : Int32)))), .val (.int (65536 : Int32)), .val (.int (g (an + 1)))] []))
            refine g_bipush X0 hx (-2 : Int32) 96 (hb hby d3_94) rfl rfl ?_
            show Go p e below s _ _ _ (T0.setTop (mkF m 96 #[.val (.ref x0), .val (.int x1), .val (.int x2), .val (.int ((shlI ((g an) &&& (shrI (127 : Int32) x2)) (6 : Int32)) ||| ((g (an + 1)) &&& (63 : Int32)))), .val (.int (65536 : Int32)), .val (.int (g (an + 1)))] [(.int (-2 : Int32))]))
            refine g_goto X0 hx 100 (hb hby d3_96) (by decide) rfl ?_
            show Go p e below s _ _ _ (T0.setTop (mkF m 100 #[.val (.ref x0), .val (.int x1), .val (.int x2), .val (.int ((shlI ((g an) &&& (shrI (127 : Int32) x2)) (6 : Int32)) ||| ((g (an + 1)) &&& (63 : Int32)))), .val (.int (65536 : Int32)), .val (.int (g (an + 1)))] [(.int (-2 : Int32))]))
            exact g_retI X0 hx hret hlk (hb hby d3_100) (by decide) (by decide) ⟨congrArg (fun z => some (Value.int z)) (show (-2 : Int32) = (f3 x2 g an) from by rw [f3, if_pos h4, if_neg h5, if_neg h22, if_neg h24, if_pos h26]), rfl, e0⟩
          · show Go p e below s _ _ _ (T0.setTop (mkF m 99 #[.val (.ref x0), .val (.int x1), .val (.int x2), .val (.int ((shlI ((g an) &&& (shrI (127 : Int32) x2)) (6 : Int32)) ||| ((g (an + 1)) &&& (63 : Int32)))), .val (.int (65536 : Int32)), .val (.int (g (an + 1)))] []))
            refine g_iloadN X0 hx 100 (hb hby d3_99) rfl rfl ?_
            show Go p e below s _ _ _ (T0.setTop (mkF m 100 #[.val (.ref x0), .val (.int x1), .val (.int x2), .val (.int ((shlI ((g an) &&& (shrI (127 : Int32) x2)) (6 : Int32)) ||| ((g (an + 1)) &&& (63 : Int32)))), .val (.int (65536 : Int32)), .val (.int (g (an + 1)))] [(.int ((shlI ((g an) &&& (shrI (127 : Int32) x2)) (6 : Int32)) ||| ((g (an + 1)) &&& (63 : Int32))))]))
            exact g_retI X0 hx hret hlk (hb hby d3_100) (by decide) (by decide) ⟨congrArg (fun z => some (Value.int z)) (show ((shlI ((g an) &&& (shrI (127 : Int32) x2)) (6 : Int32)) ||| ((g (an + 1)) &&& (63 : Int32))) = (f3 x2 g an) from by rw [f3, if_pos h4, if_neg h5, if_neg h22, if_neg h24, if_neg h26]), rfl, e0⟩
  · show Go p e below s _ _ _ (T0.setTop (mkF m 38 #[.val (.ref x0), .val (.int x1), .val (.int x2), .val (.int ((g an) &&& (shrI (127 : Int32) x2))), .val (.int (1 : Int32)), .val (.int (g (an + 1)))] []))
    refine g_bipush X0 hx (-2 : Int32) 40 (hb hby d3_38) rfl rfl ?_
    show Go p e below s _ _ _ (T0.setTop (mkF m 40 #[.val (.ref x0), .val (.int x1), .val (.int x2), .val (.int ((g an) &&& (shrI (127 : Int32) x2))), .val (.int (1 : Int32)), .val (.int (g (an + 1)))] [(.int (-2 : Int32))]))
    exact g_retI X0 hx hret hlk (hb hby d3_40) (by decide) (by decide) ⟨congrArg (fun z => some (Value.int z)) (show (-2 : Int32) = (f3 x2 g an) from by rw [f3, if_neg h4]), rfl, e0⟩
def v0_len (x0 : Int32) : Int32 := ((2 : Int32) + ((x0 &&& (3 : Int32)) % (3 : Int32)))
def v0_at (x0 : Int32) : Int32 := ((ushrI x0 (2 : Int32)) &&& (3 : Int32))
def v0_u1 (x0 : Int32) (x2 : Int32) : Int32 := (if ((ushrI x0 (4 : Int32)) &&& (1 : Int32)) = (0 : Int32) then (x2 &&& (255 : Int32)) else ((128 : Int32) ||| (x2 &&& (63 : Int32))))
def v0_u2 (x0 : Int32) (x3 : Int32) : Int32 := (if ((ushrI x0 (5 : Int32)) &&& (1 : Int32)) = (0 : Int32) then (x3 &&& (255 : Int32)) else ((128 : Int32) ||| (x3 &&& (63 : Int32))))
def v0_u3 (x0 : Int32) (x4 : Int32) : Int32 := (if ((ushrI x0 (6 : Int32)) &&& (1 : Int32)) = (0 : Int32) then (x4 &&& (255 : Int32)) else ((128 : Int32) ||| (x4 &&& (63 : Int32))))
def own_lead (x0 : Int32) (x1 : Int32) : Int32 := (if (v0_len x0) = (2 : Int32) then ((192 : Int32) ||| (x1 &&& (31 : Int32))) else (if (v0_len x0) = (3 : Int32) then ((224 : Int32) ||| (x1 &&& (15 : Int32))) else ((240 : Int32) ||| (x1 &&& (7 : Int32)))))
/-- what the loop asks of a byte, and what it takes of it -/
def own_ok (b u : Int32) : Prop := (b &&& 192 = 128 ↔ ¬ f2 u = 0) ∧ (¬ f2 u = 0 → (b &&& 63).toInt = u.toInt - 128 ∧ 128 ≤ u.toInt ∧ u.toInt ≤ 191)
theorem own_fin : ∀ n : Fin 256, ((i2bI (i2bI (Int32.ofNat n.val)) &&& 192 = 128) ↔ ¬ f2 (Int32.ofNat n.val) = 0) ∧ (¬ f2 (Int32.ofNat n.val) = 0 → (i2bI (i2bI (Int32.ofNat n.val)) &&& 63).toInt = (Int32.ofNat n.val).toInt - 128 ∧ 128 ≤ (Int32.ofNat n.val).toInt ∧ (Int32.ofNat n.val).toInt ≤ 191) := by decide +kernel
theorem own_nat {u : Int32} {N : Nat} (hN : N ≤ 256) (h0 : 0 ≤ u.toInt) (h1 : u.toInt < N) : ∃ n : Fin N, u = Int32.ofNat n.val := by
  refine ⟨⟨u.toInt.toNat, by omega⟩, ?_⟩
  apply Int32.toInt_inj.mp
  rw [Int32.toInt_ofNat_of_lt] <;> simp only [] <;> omega
theorem own_byte {u : Int32} (h0 : 0 ≤ u.toInt) (h1 : u.toInt < 256) : own_ok (i2bI (i2bI u)) u := by
  obtain ⟨n, rfl⟩ := own_nat (N := 256) (by decide) h0 h1
  exact own_fin n
theorem own_l2 : ∀ n : Fin 32, (i2bI (i2bI (192 ||| Int32.ofNat n.val)) &&& shrI 127 2).toInt = (192 ||| Int32.ofNat n.val).toInt - 192 ∧ 192 ≤ (192 ||| Int32.ofNat n.val).toInt ∧ (192 ||| Int32.ofNat n.val).toInt < 224 := by decide +kernel
theorem own_l3 : ∀ n : Fin 16, (i2bI (i2bI (224 ||| Int32.ofNat n.val)) &&& shrI 127 3).toInt = (224 ||| Int32.ofNat n.val).toInt - 224 ∧ 224 ≤ (224 ||| Int32.ofNat n.val).toInt ∧ (224 ||| Int32.ofNat n.val).toInt < 240 := by decide +kernel
theorem own_l4 : ∀ n : Fin 8, (i2bI (i2bI (240 ||| Int32.ofNat n.val)) &&& shrI 127 4).toInt = (240 ||| Int32.ofNat n.val).toInt - 240 ∧ 240 ≤ (240 ||| Int32.ofNat n.val).toInt ∧ (240 ||| Int32.ofNat n.val).toInt < 248 := by decide +kernel
theorem own_cat (a b : Int32) (a0 : 0 ≤ a.toInt) (a1 : a.toInt < 1048576) (b0 : 0 ≤ b.toInt) (b1 : b.toInt < 64) : (shlI a 6 ||| b).toInt = a.toInt * 64 + b.toInt := by
  have s := c_ishl a 6 6 (by decide)
  have r := rng32 (shlI a 6)
  have e : (a <<< ((6 : Int32) &&& 31)).toInt = (shlI a 6).toInt := rfl
  rw [e, show ((2 ^ 6 : Nat) : Int) = 64 from rfl] at s
  have o := c_or (shlI a 6) b 6 (by decide) 64 rfl (by omega) b0 b1
  have r2 := rng32 (shlI a 6 ||| b)
  omega
theorem own_f32 (g : Nat → Int32) (an : Nat) : f3 2 g an = if (g (an + 1) &&& 192) = 128 then (if (shlI (g an &&& shrI 127 2) 6 ||| (g (an + 1) &&& 63)) < 128 then -2 else (shlI (g an &&& shrI 127 2) 6 ||| (g (an + 1) &&& 63))) else -2 := by
  unfold f3; simp only [show ((1 : Int32) + 1 < 2) = False from by decide, show ((1 : Int32) + 1 + 1 < 2) = False from by decide, show ((2 : Int32) = 2) = True from by decide, show ((2 : Int32) = 3) = False from by decide, if_true, if_false]
theorem own_f33 (g : Nat → Int32) (an : Nat) : f3 3 g an = if (g (an + 1) &&& 192) = 128 then (if (g (an + 2) &&& 192) = 128 then (if (shlI (shlI (g an &&& shrI 127 3) 6 ||| (g (an + 1) &&& 63)) 6 ||| (g (an + 2) &&& 63)) < 2048 then -2 else (shlI (shlI (g an &&& shrI 127 3) 6 ||| (g (an + 1) &&& 63)) 6 ||| (g (an + 2) &&& 63))) else -2) else -2 := by
  unfold f3; simp only [show ((1 : Int32) + 1 < 3) = True from by decide, show ((1 : Int32) + 1 + 1 < 3) = False from by decide, show ((3 : Int32) = 2) = False from by decide, show ((3 : Int32) = 3) = True from by decide, if_true, if_false]
theorem own_f34 (g : Nat → Int32) (an : Nat) : f3 4 g an = if (g (an + 1) &&& 192) = 128 then (if (g (an + 2) &&& 192) = 128 then (if (g (an + 3) &&& 192) = 128 then (if (shlI (shlI (shlI (g an &&& shrI 127 4) 6 ||| (g (an + 1) &&& 63)) 6 ||| (g (an + 2) &&& 63)) 6 ||| (g (an + 3) &&& 63)) < 65536 then -2 else (shlI (shlI (shlI (g an &&& shrI 127 4) 6 ||| (g (an + 1) &&& 63)) 6 ||| (g (an + 2) &&& 63)) 6 ||| (g (an + 3) &&& 63))) else -2) else -2) else -2 := by
  unfold f3; simp only [show ((1 : Int32) + 1 < 4) = True from by decide, show ((1 : Int32) + 1 + 1 < 4) = True from by decide, show ((4 : Int32) = 2) = False from by decide, show ((4 : Int32) = 3) = False from by decide, if_true, if_false]
theorem own_f12 (l u v w : Int32) : f1 2 l u v w = if f2 u = 0 then -2 else if l < 194 then -2 else (l - 192) * 64 + (u - 128) := by
  unfold f1; simp only [show ((2 : Int32) = 2) = True from by decide, show ((2 : Int32) = 3) = False from by decide, if_true, if_false]
theorem own_f13 (l u v w : Int32) : f1 3 l u v w = if f2 u = 0 then -2 else if f2 v = 0 then -2 else if l = 224 then (if u < 160 then -2 else (l - 224) * 4096 + (u - 128) * 64 + (v - 128)) else (l - 224) * 4096 + (u - 128) * 64 + (v - 128) := by
  unfold f1; simp only [show ((3 : Int32) = 2) = False from by decide, show ((3 : Int32) = 3) = True from by decide, if_true, if_false]
theorem own_f14 (l u v w : Int32) : f1 4 l u v w = if f2 u = 0 then -2 else if f2 v = 0 then -2 else if f2 w = 0 then -2 else if l = 240 then (if u < 144 then -2 else (l - 240) * 262144 + (u - 128) * 4096 + (v - 128) * 64 + (w - 128)) else (l - 240) * 262144 + (u - 128) * 4096 + (v - 128) * 64 + (w - 128) := by
  unfold f1; simp only [show ((4 : Int32) = 2) = False from by decide, show ((4 : Int32) = 3) = False from by decide, if_true, if_false]
set_option maxHeartbeats 4000000 in
theorem own_d2 (lead u1 u2 u3 : Int32) (g : Nat → Int32) (an : Nat) (h0 : (g an &&& shrI 127 2).toInt = lead.toInt - 192 ∧ 192 ≤ lead.toInt ∧ lead.toInt < 224) (h1 : own_ok (g (an + 1)) u1) : f3 2 g an = f1 2 lead u1 u2 u3 := by
  rw [own_f32, own_f12]
  obtain ⟨c1, v1⟩ := h1
  have e194 : (194 : Int32).toInt = 194 := rfl
  have e128 : (128 : Int32).toInt = 128 := rfl
  have e192 : (192 : Int32).toInt = 192 := rfl
  have e64 : (64 : Int32).toInt = 64 := rfl
  by_cases q1 : f2 u1 = 0
  · rw [if_neg (fun z => (c1.1 z) q1), if_pos q1]
  · rw [if_pos (c1.2 q1), if_neg q1]
    obtain ⟨w1, w2, w3⟩ := v1 q1
    have ct := own_cat (g an &&& shrI 127 2) (g (an + 1) &&& 63) (by omega) (by omega) (by omega) (by omega)
    generalize (shlI (g an &&& shrI 127 2) 6 ||| (g (an + 1) &&& 63)) = v at *
    have s1 := c_isub lead 192; have r1 := rng32 (lead - 192)
    have m1 := c_imul (lead - 192) 64; have rm1 := rng32 ((lead - 192) * 64)
    have s2 := c_isub u1 128; have r2 := rng32 (u1 - 128)
    have a := c_iadd ((lead - 192) * 64) (u1 - 128); have ra := rng32 ((lead - 192) * 64 + (u1 - 128))
    by_cases z : lead < 194
    · rw [if_pos z, if_pos]
      rw [Int32.lt_iff_toInt_lt] at z ⊢; omega
    · rw [if_neg z, if_neg]
      · apply Int32.toInt_inj.mp
        rw [e64] at m1; omega
      · rw [Int32.lt_iff_toInt_lt] at z ⊢; omega
set_option maxHeartbeats 4000000 in
theorem own_d3 (lead u1 u2 u3 : Int32) (g : Nat → Int32) (an : Nat) (h0 : (g an &&& shrI 127 3).toInt = lead.toInt - 224 ∧ 224 ≤ lead.toInt ∧ lead.toInt < 240) (h1 : own_ok (g (an + 1)) u1) (h2 : own_ok (g (an + 2)) u2) : f3 3 g an = f1 3 lead u1 u2 u3 := by
  rw [own_f33, own_f13]
  obtain ⟨c1, v1⟩ := h1
  obtain ⟨c2, v2⟩ := h2
  have e224 : (224 : Int32).toInt = 224 := rfl
  have e128 : (128 : Int32).toInt = 128 := rfl
  have e160 : (160 : Int32).toInt = 160 := rfl
  have e64 : (64 : Int32).toInt = 64 := rfl
  have e4096 : (4096 : Int32).toInt = 4096 := rfl
  have e2048 : (2048 : Int32).toInt = 2048 := rfl
  by_cases q1 : f2 u1 = 0
  · rw [if_neg (fun z => (c1.1 z) q1), if_pos q1]
  · rw [if_pos (c1.2 q1), if_neg q1]
    by_cases q2 : f2 u2 = 0
    · rw [if_neg (fun z => (c2.1 z) q2), if_pos q2]
    · rw [if_pos (c2.2 q2), if_neg q2]
      obtain ⟨w1, w2, w3⟩ := v1 q1
      obtain ⟨w4, w5, w6⟩ := v2 q2
      have ct := own_cat (g an &&& shrI 127 3) (g (an + 1) &&& 63) (by omega) (by omega) (by omega) (by omega)
      generalize (shlI (g an &&& shrI 127 3) 6 ||| (g (an + 1) &&& 63)) = v at *
      have ct2 := own_cat v (g (an + 2) &&& 63) (by omega) (by omega) (by omega) (by omega)
      generalize (shlI v 6 ||| (g (an + 2) &&& 63)) = v2 at *
      have s1 := c_isub lead 224; have r1 := rng32 (lead - 224)
      have m1 := c_imul (lead - 224) 4096; have rm1 := rng32 ((lead - 224) * 4096)
      have s2 := c_isub u1 128; have r2 := rng32 (u1 - 128)
      have m2 := c_imul (u1 - 128) 64; have rm2 := rng32 ((u1 - 128) * 64)
      have s3 := c_isub u2 128; have r3 := rng32 (u2 - 128)
      have a := c_iadd ((lead - 224) * 4096) ((u1 - 128) * 64); have ra := rng32 ((lead - 224) * 4096 + (u1 - 128) * 64)
      have a2 := c_iadd ((lead - 224) * 4096 + (u1 - 128) * 64) (u2 - 128); have ra2 := rng32 ((lead - 224) * 4096 + (u1 - 128) * 64 + (u2 - 128))
      rw [e4096] at m1; rw [e64] at m2
      have tot : ((lead - 224) * 4096 + (u1 - 128) * 64 + (u2 - 128)).toInt = v2.toInt := by omega
      by_cases z : lead = 224
      · rw [if_pos z]
        have zl : lead.toInt = 224 := by rw [z]; rfl
        by_cases y : u1 < 160
        · rw [if_pos y, if_pos]
          rw [Int32.lt_iff_toInt_lt] at y ⊢; omega
        · rw [if_neg y, if_neg]
          · exact (Int32.toInt_inj.mp tot).symm
          · rw [Int32.lt_iff_toInt_lt] at y ⊢; omega
      · rw [if_neg z, if_neg]
        · exact (Int32.toInt_inj.mp tot).symm
        · have zl : ¬ lead.toInt = 224 := fun q => z (Int32.toInt_inj.mp q)
          rw [Int32.lt_iff_toInt_lt]; omega
set_option maxHeartbeats 4000000 in
theorem own_d4 (lead u1 u2 u3 : Int32) (g : Nat → Int32) (an : Nat) (h0 : (g an &&& shrI 127 4).toInt = lead.toInt - 240 ∧ 240 ≤ lead.toInt ∧ lead.toInt < 248) (h1 : own_ok (g (an + 1)) u1) (h2 : own_ok (g (an + 2)) u2) (h3 : own_ok (g (an + 3)) u3) : f3 4 g an = f1 4 lead u1 u2 u3 := by
  rw [own_f34, own_f14]
  obtain ⟨c1, v1⟩ := h1
  obtain ⟨c2, v2⟩ := h2
  obtain ⟨c3, v3⟩ := h3
  have e240 : (240 : Int32).toInt = 240 := rfl
  have e128 : (128 : Int32).toInt = 128 := rfl
  have e144 : (144 : Int32).toInt = 144 := rfl
  have e64 : (64 : Int32).toInt = 64 := rfl
  have e4096 : (4096 : Int32).toInt = 4096 := rfl
  have e18 : (262144 : Int32).toInt = 262144 := rfl
  have e16 : (65536 : Int32).toInt = 65536 := rfl
  by_cases q1 : f2 u1 = 0
  · rw [if_neg (fun z => (c1.1 z) q1), if_pos q1]
  · rw [if_pos (c1.2 q1), if_neg q1]
    by_cases q2 : f2 u2 = 0
    · rw [if_neg (fun z => (c2.1 z) q2), if_pos q2]
    · rw [if_pos (c2.2 q2), if_neg q2]
      by_cases q3 : f2 u3 = 0
      · rw [if_neg (fun z => (c3.1 z) q3), if_pos q3]
      · rw [if_pos (c3.2 q3), if_neg q3]
        obtain ⟨w1, w2, w3⟩ := v1 q1
        obtain ⟨w4, w5, w6⟩ := v2 q2
        obtain ⟨w7, w8, w9⟩ := v3 q3
        have ct := own_cat (g an &&& shrI 127 4) (g (an + 1) &&& 63) (by omega) (by omega) (by omega) (by omega)
        generalize (shlI (g an &&& shrI 127 4) 6 ||| (g (an + 1) &&& 63)) = v at *
        have ct2 := own_cat v (g (an + 2) &&& 63) (by omega) (by omega) (by omega) (by omega)
        generalize (shlI v 6 ||| (g (an + 2) &&& 63)) = v2 at *
        have ct3 := own_cat v2 (g (an + 3) &&& 63) (by omega) (by omega) (by omega) (by omega)
        generalize (shlI v2 6 ||| (g (an + 3) &&& 63)) = v3 at *
        have s1 := c_isub lead 240; have r1 := rng32 (lead - 240)
        have m1 := c_imul (lead - 240) 262144; have rm1 := rng32 ((lead - 240) * 262144)
        have s2 := c_isub u1 128; have r2 := rng32 (u1 - 128)
        have m2 := c_imul (u1 - 128) 4096; have rm2 := rng32 ((u1 - 128) * 4096)
        have s3 := c_isub u2 128; have r3 := rng32 (u2 - 128)
        have m3 := c_imul (u2 - 128) 64; have rm3 := rng32 ((u2 - 128) * 64)
        have s4 := c_isub u3 128; have r4 := rng32 (u3 - 128)
        rw [e18] at m1; rw [e4096] at m2; rw [e64] at m3
        have t1 : ((lead - 240) * 262144).toInt = (lead.toInt - 240) * 262144 := by omega
        have t2 : ((u1 - 128) * 4096).toInt = (u1.toInt - 128) * 4096 := by omega
        have t3 : ((u2 - 128) * 64).toInt = (u2.toInt - 128) * 64 := by omega
        have t4 : (u3 - 128).toInt = u3.toInt - 128 := by omega
        have a := c_iadd ((lead - 240) * 262144) ((u1 - 128) * 4096); have ra := rng32 ((lead - 240) * 262144 + (u1 - 128) * 4096)
        have a2 := c_iadd ((lead - 240) * 262144 + (u1 - 128) * 4096) ((u2 - 128) * 64); have ra2 := rng32 ((lead - 240) * 262144 + (u1 - 128) * 4096 + (u2 - 128) * 64)
        have a3 := c_iadd ((lead - 240) * 262144 + (u1 - 128) * 4096 + (u2 - 128) * 64) (u3 - 128); have ra3 := rng32 ((lead - 240) * 262144 + (u1 - 128) * 4096 + (u2 - 128) * 64 + (u3 - 128))
        clear m1 m2 m3 rm1 rm2 rm3 s1 s2 s3 s4 r1 r2 r3 r4
        have b1 : ((lead - 240) * 262144 + (u1 - 128) * 4096).toInt = (lead.toInt - 240) * 262144 + (u1.toInt - 128) * 4096 := by omega
        have b2 : ((lead - 240) * 262144 + (u1 - 128) * 4096 + (u2 - 128) * 64).toInt = (lead.toInt - 240) * 262144 + (u1.toInt - 128) * 4096 + (u2.toInt - 128) * 64 := by omega
        have tot : ((lead - 240) * 262144 + (u1 - 128) * 4096 + (u2 - 128) * 64 + (u3 - 128)).toInt = v3.toInt := by omega
        by_cases z : lead = 240
        · rw [if_pos z]
          have zl : lead.toInt = 240 := by rw [z]; rfl
          by_cases y : u1 < 144
          · rw [if_pos y, if_pos]
            rw [Int32.lt_iff_toInt_lt] at y ⊢; omega
          · rw [if_neg y, if_neg]
            · exact (Int32.toInt_inj.mp tot).symm
            · rw [Int32.lt_iff_toInt_lt] at y ⊢; omega
        · rw [if_neg z, if_neg]
          · exact (Int32.toInt_inj.mp tot).symm
          · have zl : ¬ lead.toInt = 240 := fun q => z (Int32.toInt_inj.mp q)
            rw [Int32.lt_iff_toInt_lt]; omega
theorem own_mk (x m : Int32) (k : Nat) (hk : k ≤ 31) (hm : m.toBitVec.toNat = 2 ^ k - 1) : 0 ≤ (x &&& m).toInt ∧ (x &&& m).toInt < ((2 ^ k : Nat) : Int) := by
  rw [c_mask x m k hk hm]
  have hp : 0 < ((2 ^ k : Nat) : Int) := by have := Nat.two_pow_pos k; omega
  exact ⟨Int.emod_nonneg _ (by omega), Int.emod_lt_of_pos _ hp⟩
theorem own_mn (x m : Int32) (k : Nat) (hk : k ≤ 8) (hm : m.toBitVec.toNat = 2 ^ k - 1) : ∃ n : Fin (2 ^ k), x &&& m = Int32.ofNat n.val := by
  have h := own_mk x m k (by omega) hm
  exact own_nat (Nat.le_trans (Nat.pow_le_pow_right (by decide) hk) (by decide)) h.1 h.2
theorem own_u (x y : Int32) : 0 ≤ (if y = 0 then x &&& 255 else 128 ||| (x &&& 63)).toInt ∧ (if y = 0 then x &&& 255 else 128 ||| (x &&& 63)).toInt < 256 := by
  split
  · have := own_mk x 255 8 (by decide) (by decide); rw [show ((2 ^ 8 : Nat) : Int) = 256 from rfl] at this; exact this
  · have m := own_mk x 63 6 (by decide) (by decide)
    rw [show ((2 ^ 6 : Nat) : Int) = 64 from rfl] at m
    have o := c_or 128 (x &&& 63) 6 (by decide) 64 rfl (by decide) m.1 m.2
    have r := rng32 (128 ||| (x &&& 63)); have e : (128 : Int32).toInt = 128 := rfl
    omega
theorem own_len (x : Int32) : v0_len x = 2 ∨ v0_len x = 3 ∨ v0_len x = 4 := by
  unfold v0_len
  obtain ⟨n, hn⟩ := own_mn x 3 2 (by decide) (by decide)
  rw [hn]; clear hn; revert n; decide
theorem own_lb (x : Int32) : 2 ≤ (v0_len x).toInt ∧ (v0_len x).toInt ≤ 4 := by
  rcases own_len x with h | h | h <;> rw [h] <;> decide
def own_an (x : Int32) : Nat := (v0_at x).toInt.toNat
theorem own_at (x : Int32) : (v0_at x).toInt = own_an x ∧ own_an x < 4 := by
  have h := own_mk (ushrI x 2) 3 2 (by decide) (by decide)
  rw [show ((2 ^ 2 : Nat) : Int) = 4 from rfl] at h
  have e : v0_at x = ushrI x 2 &&& 3 := rfl
  unfold own_an; rw [e]; omega
theorem own_at1 (x : Int32) (k : Int32) (kn : Nat) (hk : k.toInt = kn) (h4 : kn < 4) : (v0_at x + k).toInt = ((own_an x + kn : Nat) : Int) ∧ own_an x + kn < 8 := by
  have h := own_at x
  exact ⟨own_add h.1 hk (by omega), by omega⟩
/-- the four bytes at 'at' and behind -/
theorem own_law (x0 x1 x2 x3 x4 : Int32) (base : Nat → Int32) (g : Nat → Int32) (h0 : g (own_an x0) = i2bI (i2bI (own_lead x0 x1))) (h1 : g (own_an x0 + 1) = i2bI (i2bI (v0_u1 x0 x2))) (h2 : g (own_an x0 + 2) = i2bI (i2bI (v0_u2 x0 x3))) (h3 : g (own_an x0 + 3) = i2bI (i2bI (v0_u3 x0 x4))) :
    f3 (v0_len x0) g (own_an x0) = f1 (v0_len x0) (own_lead x0 x1) (v0_u1 x0 x2) (v0_u2 x0 x3) (v0_u3 x0 x4) := by
  have b1 : own_ok (g (own_an x0 + 1)) (v0_u1 x0 x2) := by rw [h1]; exact own_byte (own_u x2 _).1 (own_u x2 _).2
  have b2 : own_ok (g (own_an x0 + 2)) (v0_u2 x0 x3) := by rw [h2]; exact own_byte (own_u x3 _).1 (own_u x3 _).2
  have b3 : own_ok (g (own_an x0 + 3)) (v0_u3 x0 x4) := by rw [h3]; exact own_byte (own_u x4 _).1 (own_u x4 _).2
  rcases own_len x0 with h | h | h
  · rw [h]
    have e : own_lead x0 x1 = 192 ||| (x1 &&& 31) := by unfold own_lead; rw [if_pos h]
    rw [e] at h0 ⊢
    obtain ⟨n, hn⟩ := own_mn x1 31 5 (by decide) (by decide)
    rw [hn] at h0 ⊢
    exact own_d2 _ _ _ _ g _ (by rw [h0]; exact own_l2 n) b1
  · rw [h]
    have e : own_lead x0 x1 = 224 ||| (x1 &&& 15) := by unfold own_lead; rw [if_neg (by rw [h]; decide), if_pos h]
    rw [e] at h0 ⊢
    obtain ⟨n, hn⟩ := own_mn x1 15 4 (by decide) (by decide)
    rw [hn] at h0 ⊢
    exact own_d3 _ _ _ _ g _ (by rw [h0]; exact own_l3 n) b1 b2
  · rw [h]
    have e : own_lead x0 x1 = 240 ||| (x1 &&& 7) := by unfold own_lead; rw [if_neg (by rw [h]; decide), if_neg (by rw [h]; decide)]
    rw [e] at h0 ⊢
    obtain ⟨n, hn⟩ := own_mn x1 7 3 (by decide) (by decide)
    rw [hn] at h0 ⊢
    exact own_d4 _ _ _ _ g _ (by rw [h0]; exact own_l4 n) b1 b2 b3

theorem pd__28IIIII_29I : parseMethodDescriptor "(IIIII)I" = some ⟨[.int, .int, .int, .int, .int], some .int⟩ := by decide +kernel
theorem pd__28_5bBII_29I : parseMethodDescriptor "([BII)I" = some ⟨[(.array .byte), .int, .int], some .int⟩ := by decide +kernel
theorem ef_0 (m : MethodId) (x0 : Int32) (x1 : Int32) (x2 : Int32) (x3 : Int32) (x4 : Int32) (x5 : Int32) : entryFrame m #[(.int x0), (.int x1), (.int x2), (.int x3), (.int x4), (.int x5)] maxLocals = mkF m 0 #[.val (.int x0), .val (.int x1), .val (.int x2), .val (.int x3), .val (.int x4), .val (.int x5), .unset, .unset, .unset, .unset, .unset, .unset, .unset, .unset, .unset] [] := by first | (simp [entryFrame, mkF, argsToLocals, Value.category, maxLocals]; done) | rfl
theorem own_lz (x0 x1 : Int32) : own_lead x0 x1 = (if (v0_len x0) = (2 : Int32) then ((192 : Int32) ||| (x1 &&& (31 : Int32))) else (if (v0_len x0) = (3 : Int32) then ((224 : Int32) ||| (x1 &&& (15 : Int32))) else ((240 : Int32) ||| (x1 &&& (7 : Int32))))) := rfl
def z0_64_l8_1 (x0 : Int32) (x1 : Int32) : Int32 := (if (v0_len x0) = (2 : Int32) then ((192 : Int32) ||| (x1 &&& (31 : Int32))) else (if (v0_len x0) = (3 : Int32) then ((224 : Int32) ||| (x1 &&& (15 : Int32))) else ((240 : Int32) ||| (x1 &&& (7 : Int32)))))
def z0_88_s0_2 (x0 : Int32) (x2 : Int32) : Int32 := (if ((ushrI x0 (4 : Int32)) &&& (1 : Int32)) = (0 : Int32) then (x2 &&& (255 : Int32)) else ((128 : Int32) ||| (x2 &&& (63 : Int32))))
def z0_114_s0_3 (x0 : Int32) (x3 : Int32) : Int32 := (if ((ushrI x0 (5 : Int32)) &&& (1 : Int32)) = (0 : Int32) then (x3 &&& (255 : Int32)) else ((128 : Int32) ||| (x3 &&& (63 : Int32))))
def z0_143_s0_4 (x0 : Int32) (x4 : Int32) : Int32 := (if ((ushrI x0 (6 : Int32)) &&& (1 : Int32)) = (0 : Int32) then (x4 &&& (255 : Int32)) else ((128 : Int32) ||| (x4 &&& (63 : Int32))))
def Q0 (Z : State) (x0 : Int32) (x1 : Int32) (x2 : Int32) (x3 : Int32) (x4 : Int32) (x5 : Int32) (h0 : Heap) (n0 : Nat) (v : Option Value) (h : Heap) (L : List Loc) : Prop := v = some (.int (1 : Int32)) ∧ Fr n0 L
set_option maxRecDepth 65536 in
set_option maxHeartbeats 40000000 in
theorem rm0 (l : Launch) (Z : State) (a0 : Array Value) (hw : ∀ d ∈ tables_1, d.before a0 Z = true) (ws : List Jvm.Cond) (x0 : Int32) (x1 : Int32) (x2 : Int32) (x3 : Int32) (x4 : Int32) (x5 : Int32) (h0 : Heap) (n0 : Nat) (Z0 : n0 ≤ h0.size) :
    MetFree l x (head1 (Jvm.Cond.code x code maxLocals ret :: ws) room_1) (fun a U => a = #[(.int x0), (.int x1), (.int x2), (.int x3), (.int x4), (.int x5)] ∧ Z.Warmed39 U.vm ∧ U.heap = h0) (fun _ _ _ _ _ => True) (fun _ U o U' => ∃ v L, o = .returned v ∧ Q0 Z x0 x1 x2 x3 x4 x5 h0 n0 v U'.heap L ∧ FrameEnd U o U' L room_1.cells room_1.slots) := by
  refine g_body (plainFor_of_name pn_2) ?_
  intro p e s m below meth c T0 X0 hx hby hml hret hlk hown hnm hZ e0
  rw [ef_0]
  have N0 := Fr.nil n0
  show Go p e below s _ _ _ (T0.setTop (mkF m 0 #[.val (.int x0), .val (.int x1), .val (.int x2), .val (.int x3), .val (.int x4), .val (.int x5), .unset, .unset, .unset, .unset, .unset, .unset, .unset, .unset, .unset] []))
  refine g_iconst X0 hx (2 : Int32) 1 (hb hby at_0) rfl rfl ?_
  show Go p e below s _ _ _ (T0.setTop (mkF m 1 #[.val (.int x0), .val (.int x1), .val (.int x2), .val (.int x3), .val (.int x4), .val (.int x5), .unset, .unset, .unset, .unset, .unset, .unset, .unset, .unset, .unset] [(.int (2 : Int32))]))
  refine g_iloadN X0 hx 2 (hb hby at_1) rfl rfl ?_
  show Go p e below s _ _ _ (T0.setTop (mkF m 2 #[.val (.int x0), .val (.int x1), .val (.int x2), .val (.int x3), .val (.int x4), .val (.int x5), .unset, .unset, .unset, .unset, .unset, .unset, .unset, .unset, .unset] [(.int x0), (.int (2 : Int32))]))
  refine g_iconst X0 hx (3 : Int32) 3 (hb hby at_2) rfl rfl ?_
  show Go p e below s _ _ _ (T0.setTop (mkF m 3 #[.val (.int x0), .val (.int x1), .val (.int x2), .val (.int x3), .val (.int x4), .val (.int x5), .unset, .unset, .unset, .unset, .unset, .unset, .unset, .unset, .unset] [(.int (3 : Int32)), (.int x0), (.int (2 : Int32))]))
  refine g_iand X0 hx 4 (hb hby at_3) rfl ?_
  show Go p e below s _ _ _ (T0.setTop (mkF m 4 #[.val (.int x0), .val (.int x1), .val (.int x2), .val (.int x3), .val (.int x4), .val (.int x5), .unset, .unset, .unset, .unset, .unset, .unset, .unset, .unset, .unset] [(.int (x0 &&& (3 : Int32))), (.int (2 : Int32))]))
  refine g_iconst X0 hx (3 : Int32) 5 (hb hby at_4) rfl rfl ?_
  show Go p e below s _ _ _ (T0.setTop (mkF m 5 #[.val (.int x0), .val (.int x1), .val (.int x2), .val (.int x3), .val (.int x4), .val (.int x5), .unset, .unset, .unset, .unset, .unset, .unset, .unset, .unset, .unset] [(.int (3 : Int32)), (.int (x0 &&& (3 : Int32))), (.int (2 : Int32))]))
  refine g_irem X0 hx 6 (hb hby at_5) (by decide) rfl ?_
  show Go p e below s _ _ _ (T0.setTop (mkF m 6 #[.val (.int x0), .val (.int x1), .val (.int x2), .val (.int x3), .val (.int x4), .val (.int x5), .unset, .unset, .unset, .unset, .unset, .unset, .unset, .unset, .unset] [(.int ((x0 &&& (3 : Int32)) % (3 : Int32))), (.int (2 : Int32))]))
  refine g_iadd X0 hx 7 (hb hby at_6) rfl ?_
  show Go p e below s _ _ _ (T0.setTop (mkF m 7 #[.val (.int x0), .val (.int x1), .val (.int x2), .val (.int x3), .val (.int x4), .val (.int x5), .unset, .unset, .unset, .unset, .unset, .unset, .unset, .unset, .unset] [(.int ((2 : Int32) + ((x0 &&& (3 : Int32)) % (3 : Int32))))]))
  refine g_istore X0 hx #[.val (.int x0), .val (.int x1), .val (.int x2), .val (.int x3), .val (.int x4), .val (.int x5), .val (.int (v0_len x0)), .unset, .unset, .unset, .unset, .unset, .unset, .unset, .unset] 9 (hb hby at_7) rfl rfl ?_
  show Go p e below s _ _ _ (T0.setTop (mkF m 9 #[.val (.int x0), .val (.int x1), .val (.int x2), .val (.int x3), .val (.int x4), .val (.int x5), .val (.int (v0_len x0)), .unset, .unset, .unset, .unset, .unset, .unset, .unset, .unset] []))
  refine g_iloadN X0 hx 10 (hb hby at_9) rfl rfl ?_
  show Go p e below s _ _ _ (T0.setTop (mkF m 10 #[.val (.int x0), .val (.int x1), .val (.int x2), .val (.int x3), .val (.int x4), .val (.int x5), .val (.int (v0_len x0)), .unset, .unset, .unset, .unset, .unset, .unset, .unset, .unset] [(.int x0)]))
  refine g_iconst X0 hx (2 : Int32) 11 (hb hby at_10) rfl rfl ?_
  show Go p e below s _ _ _ (T0.setTop (mkF m 11 #[.val (.int x0), .val (.int x1), .val (.int x2), .val (.int x3), .val (.int x4), .val (.int x5), .val (.int (v0_len x0)), .unset, .unset, .unset, .unset, .unset, .unset, .unset, .unset] [(.int (2 : Int32)), (.int x0)]))
  refine g_iushr X0 hx 12 (hb hby at_11) rfl ?_
  show Go p e below s _ _ _ (T0.setTop (mkF m 12 #[.val (.int x0), .val (.int x1), .val (.int x2), .val (.int x3), .val (.int x4), .val (.int x5), .val (.int (v0_len x0)), .unset, .unset, .unset, .unset, .unset, .unset, .unset, .unset] [(.int (ushrI x0 (2 : Int32)))]))
  refine g_iconst X0 hx (3 : Int32) 13 (hb hby at_12) rfl rfl ?_
  show Go p e below s _ _ _ (T0.setTop (mkF m 13 #[.val (.int x0), .val (.int x1), .val (.int x2), .val (.int x3), .val (.int x4), .val (.int x5), .val (.int (v0_len x0)), .unset, .unset, .unset, .unset, .unset, .unset, .unset, .unset] [(.int (3 : Int32)), (.int (ushrI x0 (2 : Int32)))]))
  refine g_iand X0 hx 14 (hb hby at_13) rfl ?_
  show Go p e below s _ _ _ (T0.setTop (mkF m 14 #[.val (.int x0), .val (.int x1), .val (.int x2), .val (.int x3), .val (.int x4), .val (.int x5), .val (.int (v0_len x0)), .unset, .unset, .unset, .unset, .unset, .unset, .unset, .unset] [(.int ((ushrI x0 (2 : Int32)) &&& (3 : Int32)))]))
  refine g_istore X0 hx #[.val (.int x0), .val (.int x1), .val (.int x2), .val (.int x3), .val (.int x4), .val (.int x5), .val (.int (v0_len x0)), .val (.int (v0_at x0)), .unset, .unset, .unset, .unset, .unset, .unset, .unset] 16 (hb hby at_14) rfl rfl ?_
  show Go p e below s _ _ _ (T0.setTop (mkF m 16 #[.val (.int x0), .val (.int x1), .val (.int x2), .val (.int x3), .val (.int x4), .val (.int x5), .val (.int (v0_len x0)), .val (.int (v0_at x0)), .unset, .unset, .unset, .unset, .unset, .unset, .unset] []))
  refine g_iload X0 hx 18 (hb hby at_16) rfl rfl ?_
  show Go p e below s _ _ _ (T0.setTop (mkF m 18 #[.val (.int x0), .val (.int x1), .val (.int x2), .val (.int x3), .val (.int x4), .val (.int x5), .val (.int (v0_len x0)), .val (.int (v0_at x0)), .unset, .unset, .unset, .unset, .unset, .unset, .unset] [(.int (v0_len x0))]))
  refine g_iconst X0 hx (2 : Int32) 19 (hb hby at_18) rfl rfl ?_
  show Go p e below s _ _ _ (T0.setTop (mkF m 19 #[.val (.int x0), .val (.int x1), .val (.int x2), .val (.int x3), .val (.int x4), .val (.int x5), .val (.int (v0_len x0)), .val (.int (v0_at x0)), .unset, .unset, .unset, .unset, .unset, .unset, .unset] [(.int (2 : Int32)), (.int (v0_len x0))]))
  have J1 : Go p e below s (Q0 Z x0 x1 x2 x3 x4 x5 h0 n0) room_1.cells room_1.slots (T0.setTop (mkF m 64 #[.val (.int x0), .val (.int x1), .val (.int x2), .val (.int x3), .val (.int x4), .val (.int x5), .val (.int (v0_len x0)), .val (.int (v0_at x0)), .val (.int (z0_64_l8_1 x0 x1)), .unset, .unset, .unset, .unset, .unset, .unset] [])) := by
    refine g_iloadN X0 hx 65 (hb hby at_64) rfl rfl ?_
    show Go p e below s _ _ _ (T0.setTop (mkF m 65 #[.val (.int x0), .val (.int x1), .val (.int x2), .val (.int x3), .val (.int x4), .val (.int x5), .val (.int (v0_len x0)), .val (.int (v0_at x0)), .val (.int (z0_64_l8_1 x0 x1)), .unset, .unset, .unset, .unset, .unset, .unset] [(.int x0)]))
    refine g_iconst X0 hx (4 : Int32) 66 (hb hby at_65) rfl rfl ?_
    show Go p e below s _ _ _ (T0.setTop (mkF m 66 #[.val (.int x0), .val (.int x1), .val (.int x2), .val (.int x3), .val (.int x4), .val (.int x5), .val (.int (v0_len x0)), .val (.int (v0_at x0)), .val (.int (z0_64_l8_1 x0 x1)), .unset, .unset, .unset, .unset, .unset, .unset] [(.int (4 : Int32)), (.int x0)]))
    refine g_iushr X0 hx 67 (hb hby at_66) rfl ?_
    show Go p e below s _ _ _ (T0.setTop (mkF m 67 #[.val (.int x0), .val (.int x1), .val (.int x2), .val (.int x3), .val (.int x4), .val (.int x5), .val (.int (v0_len x0)), .val (.int (v0_at x0)), .val (.int (z0_64_l8_1 x0 x1)), .unset, .unset, .unset, .unset, .unset, .unset] [(.int (ushrI x0 (4 : Int32)))]))
    refine g_iconst X0 hx (1 : Int32) 68 (hb hby at_67) rfl rfl ?_
    show Go p e below s _ _ _ (T0.setTop (mkF m 68 #[.val (.int x0), .val (.int x1), .val (.int x2), .val (.int x3), .val (.int x4), .val (.int x5), .val (.int (v0_len x0)), .val (.int (v0_at x0)), .val (.int (z0_64_l8_1 x0 x1)), .unset, .unset, .unset, .unset, .unset, .unset] [(.int (1 : Int32)), (.int (ushrI x0 (4 : Int32)))]))
    refine g_iand X0 hx 69 (hb hby at_68) rfl ?_
    show Go p e below s _ _ _ (T0.setTop (mkF m 69 #[.val (.int x0), .val (.int x1), .val (.int x2), .val (.int x3), .val (.int x4), .val (.int x5), .val (.int (v0_len x0)), .val (.int (v0_at x0)), .val (.int (z0_64_l8_1 x0 x1)), .unset, .unset, .unset, .unset, .unset, .unset] [(.int ((ushrI x0 (4 : Int32)) &&& (1 : Int32)))]))
    have J2 : Go p e below s (Q0 Z x0 x1 x2 x3 x4 x5 h0 n0) room_1.cells room_1.slots (T0.setTop (mkF m 88 #[.val (.int x0), .val (.int x1), .val (.int x2), .val (.int x3), .val (.int x4), .val (.int x5), .val (.int (v0_len x0)), .val (.int (v0_at x0)), .val (.int (z0_64_l8_1 x0 x1)), .unset, .unset, .unset, .unset, .unset, .unset] [(.int (z0_88_s0_2 x0 x2))])) := by
      refine g_istore X0 hx #[.val (.int x0), .val (.int x1), .val (.int x2), .val (.int x3), .val (.int x4), .val (.int x5), .val (.int (v0_len x0)), .val (.int (v0_at x0)), .val (.int (z0_64_l8_1 x0 x1)), .val (.int (v0_u1 x0 x2)), .unset, .unset, .unset, .unset, .unset] 90 (hb hby at_88) rfl rfl ?_
      show Go p e below s _ _ _ (T0.setTop (mkF m 90 #[.val (.int x0), .val (.int x1), .val (.int x2), .val (.int x3), .val (.int x4), .val (.int x5), .val (.int (v0_len x0)), .val (.int (v0_at x0)), .val (.int (z0_64_l8_1 x0 x1)), .val (.int (v0_u1 x0 x2)), .unset, .unset, .unset, .unset, .unset] []))
      refine g_iloadN X0 hx 91 (hb hby at_90) rfl rfl ?_
      show Go p e below s _ _ _ (T0.setTop (mkF m 91 #[.val (.int x0), .val (.int x1), .val (.int x2), .val (.int x3), .val (.int x4), .val (.int x5), .val (.int (v0_len x0)), .val (.int (v0_at x0)), .val (.int (z0_64_l8_1 x0 x1)), .val (.int (v0_u1 x0 x2)), .unset, .unset, .unset, .unset, .unset] [(.int x0)]))
      refine g_iconst X0 hx (5 : Int32) 92 (hb hby at_91) rfl rfl ?_
      show Go p e below s _ _ _ (T0.setTop (mkF m 92 #[.val (.int x0), .val (.int x1), .val (.int x2), .val (.int x3), .val (.int x4), .val (.int x5), .val (.int (v0_len x0)), .val (.int (v0_at x0)), .val (.int (z0_64_l8_1 x0 x1)), .val (.int (v0_u1 x0 x2)), .unset, .unset, .unset, .unset, .unset] [(.int (5 : Int32)), (.int x0)]))
      refine g_iushr X0 hx 93 (hb hby at_92) rfl ?_
      show Go p e below s _ _ _ (T0.setTop (mkF m 93 #[.val (.int x0), .val (.int x1), .val (.int x2), .val (.int x3), .val (.int x4), .val (.int x5), .val (.int (v0_len x0)), .val (.int (v0_at x0)), .val (.int (z0_64_l8_1 x0 x1)), .val (.int (v0_u1 x0 x2)), .unset, .unset, .unset, .unset, .unset] [(.int (ushrI x0 (5 : Int32)))]))
      refine g_iconst X0 hx (1 : Int32) 94 (hb hby at_93) rfl rfl ?_
      show Go p e below s _ _ _ (T0.setTop (mkF m 94 #[.val (.int x0), .val (.int x1), .val (.int x2), .val (.int x3), .val (.int x4), .val (.int x5), .val (.int (v0_len x0)), .val (.int (v0_at x0)), .val (.int (z0_64_l8_1 x0 x1)), .val (.int (v0_u1 x0 x2)), .unset, .unset, .unset, .unset, .unset] [(.int (1 : Int32)), (.int (ushrI x0 (5 : Int32)))]))
      refine g_iand X0 hx 95 (hb hby at_94) rfl ?_
      show Go p e below s _ _ _ (T0.setTop (mkF m 95 #[.val (.int x0), .val (.int x1), .val (.int x2), .val (.int x3), .val (.int x4), .val (.int x5), .val (.int (v0_len x0)), .val (.int (v0_at x0)), .val (.int (z0_64_l8_1 x0 x1)), .val (.int (v0_u1 x0 x2)), .unset, .unset, .unset, .unset, .unset] [(.int ((ushrI x0 (5 : Int32)) &&& (1 : Int32)))]))
      have J3 : Go p e below s (Q0 Z x0 x1 x2 x3 x4 x5 h0 n0) room_1.cells room_1.slots (T0.setTop (mkF m 114 #[.val (.int x0), .val (.int x1), .val (.int x2), .val (.int x3), .val (.int x4), .val (.int x5), .val (.int (v0_len x0)), .val (.int (v0_at x0)), .val (.int (z0_64_l8_1 x0 x1)), .val (.int (v0_u1 x0 x2)), .unset, .unset, .unset, .unset, .unset] [(.int (z0_114_s0_3 x0 x3))])) := by
        refine g_istore X0 hx #[.val (.int x0), .val (.int x1), .val (.int x2), .val (.int x3), .val (.int x4), .val (.int x5), .val (.int (v0_len x0)), .val (.int (v0_at x0)), .val (.int (z0_64_l8_1 x0 x1)), .val (.int (v0_u1 x0 x2)), .val (.int (v0_u2 x0 x3)), .unset, .unset, .unset, .unset] 116 (hb hby at_114) rfl rfl ?_
        show Go p e below s _ _ _ (T0.setTop (mkF m 116 #[.val (.int x0), .val (.int x1), .val (.int x2), .val (.int x3), .val (.int x4), .val (.int x5), .val (.int (v0_len x0)), .val (.int (v0_at x0)), .val (.int (z0_64_l8_1 x0 x1)), .val (.int (v0_u1 x0 x2)), .val (.int (v0_u2 x0 x3)), .unset, .unset, .unset, .unset] []))
        refine g_iloadN X0 hx 117 (hb hby at_116) rfl rfl ?_
        show Go p e below s _ _ _ (T0.setTop (mkF m 117 #[.val (.int x0), .val (.int x1), .val (.int x2), .val (.int x3), .val (.int x4), .val (.int x5), .val (.int (v0_len x0)), .val (.int (v0_at x0)), .val (.int (z0_64_l8_1 x0 x1)), .val (.int (v0_u1 x0 x2)), .val (.int (v0_u2 x0 x3)), .unset, .unset, .unset, .unset] [(.int x0)]))
        refine g_bipush X0 hx (6 : Int32) 119 (hb hby at_117) rfl rfl ?_
        show Go p e below s _ _ _ (T0.setTop (mkF m 119 #[.val (.int x0), .val (.int x1), .val (.int x2), .val (.int x3), .val (.int x4), .val (.int x5), .val (.int (v0_len x0)), .val (.int (v0_at x0)), .val (.int (z0_64_l8_1 x0 x1)), .val (.int (v0_u1 x0 x2)), .val (.int (v0_u2 x0 x3)), .unset, .unset, .unset, .unset] [(.int (6 : Int32)), (.int x0)]))
        refine g_iushr X0 hx 120 (hb hby at_119) rfl ?_
        show Go p e below s _ _ _ (T0.setTop (mkF m 120 #[.val (.int x0), .val (.int x1), .val (.int x2), .val (.int x3), .val (.int x4), .val (.int x5), .val (.int (v0_len x0)), .val (.int (v0_at x0)), .val (.int (z0_64_l8_1 x0 x1)), .val (.int (v0_u1 x0 x2)), .val (.int (v0_u2 x0 x3)), .unset, .unset, .unset, .unset] [(.int (ushrI x0 (6 : Int32)))]))
        refine g_iconst X0 hx (1 : Int32) 121 (hb hby at_120) rfl rfl ?_
        show Go p e below s _ _ _ (T0.setTop (mkF m 121 #[.val (.int x0), .val (.int x1), .val (.int x2), .val (.int x3), .val (.int x4), .val (.int x5), .val (.int (v0_len x0)), .val (.int (v0_at x0)), .val (.int (z0_64_l8_1 x0 x1)), .val (.int (v0_u1 x0 x2)), .val (.int (v0_u2 x0 x3)), .unset, .unset, .unset, .unset] [(.int (1 : Int32)), (.int (ushrI x0 (6 : Int32)))]))
        refine g_iand X0 hx 122 (hb hby at_121) rfl ?_
        show Go p e below s _ _ _ (T0.setTop (mkF m 122 #[.val (.int x0), .val (.int x1), .val (.int x2), .val (.int x3), .val (.int x4), .val (.int x5), .val (.int (v0_len x0)), .val (.int (v0_at x0)), .val (.int (z0_64_l8_1 x0 x1)), .val (.int (v0_u1 x0 x2)), .val (.int (v0_u2 x0 x3)), .unset, .unset, .unset, .unset] [(.int ((ushrI x0 (6 : Int32)) &&& (1 : Int32)))]))
        have J4 : Go p e below s (Q0 Z x0 x1 x2 x3 x4 x5 h0 n0) room_1.cells room_1.slots (T0.setTop (mkF m 143 #[.val (.int x0), .val (.int x1), .val (.int x2), .val (.int x3), .val (.int x4), .val (.int x5), .val (.int (v0_len x0)), .val (.int (v0_at x0)), .val (.int (z0_64_l8_1 x0 x1)), .val (.int (v0_u1 x0 x2)), .val (.int (v0_u2 x0 x3)), .unset, .unset, .unset, .unset] [(.int (z0_143_s0_4 x0 x4))])) := by
          refine g_istore X0 hx #[.val (.int x0), .val (.int x1), .val (.int x2), .val (.int x3), .val (.int x4), .val (.int x5), .val (.int (v0_len x0)), .val (.int (v0_at x0)), .val (.int (z0_64_l8_1 x0 x1)), .val (.int (v0_u1 x0 x2)), .val (.int (v0_u2 x0 x3)), .val (.int (v0_u3 x0 x4)), .unset, .unset, .unset] 145 (hb hby at_143) rfl rfl ?_
          show Go p e below s _ _ _ (T0.setTop (mkF m 145 #[.val (.int x0), .val (.int x1), .val (.int x2), .val (.int x3), .val (.int x4), .val (.int x5), .val (.int (v0_len x0)), .val (.int (v0_at x0)), .val (.int (z0_64_l8_1 x0 x1)), .val (.int (v0_u1 x0 x2)), .val (.int (v0_u2 x0 x3)), .val (.int (v0_u3 x0 x4)), .unset, .unset, .unset] []))
          refine g_bipush X0 hx (8 : Int32) 147 (hb hby at_145) rfl rfl ?_
          show Go p e below s _ _ _ (T0.setTop (mkF m 147 #[.val (.int x0), .val (.int x1), .val (.int x2), .val (.int x3), .val (.int x4), .val (.int x5), .val (.int (v0_len x0)), .val (.int (v0_at x0)), .val (.int (z0_64_l8_1 x0 x1)), .val (.int (v0_u1 x0 x2)), .val (.int (v0_u2 x0 x3)), .val (.int (v0_u3 x0 x4)), .unset, .unset, .unset] [(.int (8 : Int32))]))
          refine g_newarrayB X0 hx hZ (hw _ (List.mem_of_getElem? (i := 0) rfl)) e0 8 8 rfl (by decide) (by decide) 149 (hb hby at_147) (by decide) (by decide) rfl ?_
          intro T5 h5 b5 g5 X5 e5 E5 A5
          have N_b5 : n0 ≤ b5 := Nat.le_trans Z0 (Nat.le_of_eq g5.symm)
          have Z5 : n0 ≤ h5.size := Nat.le_trans Z0 E5.1
          show Go p e below s _ _ _ (T5.setTop (mkF m 149 #[.val (.int x0), .val (.int x1), .val (.int x2), .val (.int x3), .val (.int x4), .val (.int x5), .val (.int (v0_len x0)), .val (.int (v0_at x0)), .val (.int (z0_64_l8_1 x0 x1)), .val (.int (v0_u1 x0 x2)), .val (.int (v0_u2 x0 x3)), .val (.int (v0_u3 x0 x4)), .unset, .unset, .unset] [(.ref b5)]))
          refine g_astore X5 hx #[.val (.int x0), .val (.int x1), .val (.int x2), .val (.int x3), .val (.int x4), .val (.int x5), .val (.int (v0_len x0)), .val (.int (v0_at x0)), .val (.int (z0_64_l8_1 x0 x1)), .val (.int (v0_u1 x0 x2)), .val (.int (v0_u2 x0 x3)), .val (.int (v0_u3 x0 x4)), .val (.ref b5), .unset, .unset] 151 (hb hby at_149) rfl rfl rfl ?_
          show Go p e below s _ _ _ (T5.setTop (mkF m 151 #[.val (.int x0), .val (.int x1), .val (.int x2), .val (.int x3), .val (.int x4), .val (.int x5), .val (.int (v0_len x0)), .val (.int (v0_at x0)), .val (.int (z0_64_l8_1 x0 x1)), .val (.int (v0_u1 x0 x2)), .val (.int (v0_u2 x0 x3)), .val (.int (v0_u3 x0 x4)), .val (.ref b5), .unset, .unset] []))
          refine g_iload X5 hx 153 (hb hby at_151) rfl rfl ?_
          show Go p e below s _ _ _ (T5.setTop (mkF m 153 #[.val (.int x0), .val (.int x1), .val (.int x2), .val (.int x3), .val (.int x4), .val (.int x5), .val (.int (v0_len x0)), .val (.int (v0_at x0)), .val (.int (z0_64_l8_1 x0 x1)), .val (.int (v0_u1 x0 x2)), .val (.int (v0_u2 x0 x3)), .val (.int (v0_u3 x0 x4)), .val (.ref b5), .unset, .unset] [(.int x5)]))
          refine g_i2b X5 hx 154 (hb hby at_153) rfl ?_
          show Go p e below s _ _ _ (T5.setTop (mkF m 154 #[.val (.int x0), .val (.int x1), .val (.int x2), .val (.int x3), .val (.int x4), .val (.int x5), .val (.int (v0_len x0)), .val (.int (v0_at x0)), .val (.int (z0_64_l8_1 x0 x1)), .val (.int (v0_u1 x0 x2)), .val (.int (v0_u2 x0 x3)), .val (.int (v0_u3 x0 x4)), .val (.ref b5), .unset, .unset] [(.int (i2bI x5))]))
          refine g_istore X5 hx #[.val (.int x0), .val (.int x1), .val (.int x2), .val (.int x3), .val (.int x4), .val (.int x5), .val (.int (v0_len x0)), .val (.int (v0_at x0)), .val (.int (z0_64_l8_1 x0 x1)), .val (.int (v0_u1 x0 x2)), .val (.int (v0_u2 x0 x3)), .val (.int (v0_u3 x0 x4)), .val (.ref b5), .val (.int (i2bI x5)), .unset] 156 (hb hby at_154) rfl rfl ?_
          show Go p e below s _ _ _ (T5.setTop (mkF m 156 #[.val (.int x0), .val (.int x1), .val (.int x2), .val (.int x3), .val (.int x4), .val (.int x5), .val (.int (v0_len x0)), .val (.int (v0_at x0)), .val (.int (z0_64_l8_1 x0 x1)), .val (.int (v0_u1 x0 x2)), .val (.int (v0_u2 x0 x3)), .val (.int (v0_u3 x0 x4)), .val (.ref b5), .val (.int (i2bI x5)), .unset] []))
          refine g_aload X5 hx 158 (hb hby at_156) rfl rfl rfl ?_
          show Go p e below s _ _ _ (T5.setTop (mkF m 158 #[.val (.int x0), .val (.int x1), .val (.int x2), .val (.int x3), .val (.int x4), .val (.int x5), .val (.int (v0_len x0)), .val (.int (v0_at x0)), .val (.int (z0_64_l8_1 x0 x1)), .val (.int (v0_u1 x0 x2)), .val (.int (v0_u2 x0 x3)), .val (.int (v0_u3 x0 x4)), .val (.ref b5), .val (.int (i2bI x5)), .unset] [(.ref b5)]))
          refine g_iconst X5 hx (0 : Int32) 159 (hb hby at_158) rfl rfl ?_
          show Go p e below s _ _ _ (T5.setTop (mkF m 159 #[.val (.int x0), .val (.int x1), .val (.int x2), .val (.int x3), .val (.int x4), .val (.int x5), .val (.int (v0_len x0)), .val (.int (v0_at x0)), .val (.int (z0_64_l8_1 x0 x1)), .val (.int (v0_u1 x0 x2)), .val (.int (v0_u2 x0 x3)), .val (.int (v0_u3 x0 x4)), .val (.ref b5), .val (.int (i2bI x5)), .unset] [(.int (0 : Int32)), (.ref b5)]))
          refine g_iload X5 hx 161 (hb hby at_159) rfl rfl ?_
          show Go p e below s _ _ _ (T5.setTop (mkF m 161 #[.val (.int x0), .val (.int x1), .val (.int x2), .val (.int x3), .val (.int x4), .val (.int x5), .val (.int (v0_len x0)), .val (.int (v0_at x0)), .val (.int (z0_64_l8_1 x0 x1)), .val (.int (v0_u1 x0 x2)), .val (.int (v0_u2 x0 x3)), .val (.int (v0_u3 x0 x4)), .val (.ref b5), .val (.int (i2bI x5)), .unset] [(.int (i2bI x5)), (.int (0 : Int32)), (.ref b5)]))
          refine g_bastore X5 hx hZ e5 A5 0 rfl (by decide) 162 (hb hby at_161) rfl ?_
          intro T6 h6 X6 e6 W6 A6
          have N6 := Fr.snoc X6 N0 N_b5
          have Z6 : n0 ≤ h6.size := by rw [W6.size]; exact Z5
          show Go p e below s _ _ _ (T6.setTop (mkF m 162 #[.val (.int x0), .val (.int x1), .val (.int x2), .val (.int x3), .val (.int x4), .val (.int x5), .val (.int (v0_len x0)), .val (.int (v0_at x0)), .val (.int (z0_64_l8_1 x0 x1)), .val (.int (v0_u1 x0 x2)), .val (.int (v0_u2 x0 x3)), .val (.int (v0_u3 x0 x4)), .val (.ref b5), .val (.int (i2bI x5)), .unset] []))
          refine g_aload X6 hx 164 (hb hby at_162) rfl rfl rfl ?_
          show Go p e below s _ _ _ (T6.setTop (mkF m 164 #[.val (.int x0), .val (.int x1), .val (.int x2), .val (.int x3), .val (.int x4), .val (.int x5), .val (.int (v0_len x0)), .val (.int (v0_at x0)), .val (.int (z0_64_l8_1 x0 x1)), .val (.int (v0_u1 x0 x2)), .val (.int (v0_u2 x0 x3)), .val (.int (v0_u3 x0 x4)), .val (.ref b5), .val (.int (i2bI x5)), .unset] [(.ref b5)]))
          refine g_iconst X6 hx (1 : Int32) 165 (hb hby at_164) rfl rfl ?_
          show Go p e below s _ _ _ (T6.setTop (mkF m 165 #[.val (.int x0), .val (.int x1), .val (.int x2), .val (.int x3), .val (.int x4), .val (.int x5), .val (.int (v0_len x0)), .val (.int (v0_at x0)), .val (.int (z0_64_l8_1 x0 x1)), .val (.int (v0_u1 x0 x2)), .val (.int (v0_u2 x0 x3)), .val (.int (v0_u3 x0 x4)), .val (.ref b5), .val (.int (i2bI x5)), .unset] [(.int (1 : Int32)), (.ref b5)]))
          refine g_iload X6 hx 167 (hb hby at_165) rfl rfl ?_
          show Go p e below s _ _ _ (T6.setTop (mkF m 167 #[.val (.int x0), .val (.int x1), .val (.int x2), .val (.int x3), .val (.int x4), .val (.int x5), .val (.int (v0_len x0)), .val (.int (v0_at x0)), .val (.int (z0_64_l8_1 x0 x1)), .val (.int (v0_u1 x0 x2)), .val (.int (v0_u2 x0 x3)), .val (.int (v0_u3 x0 x4)), .val (.ref b5), .val (.int (i2bI x5)), .unset] [(.int (i2bI x5)), (.int (1 : Int32)), (.ref b5)]))
          refine g_bastore X6 hx hZ e6 A6 1 rfl (by decide) 168 (hb hby at_167) rfl ?_
          intro T7 h7 X7 e7 W7 A7
          have N7 := Fr.snoc X7 N6 N_b5
          have Z7 : n0 ≤ h7.size := by rw [W7.size]; exact Z6
          show Go p e below s _ _ _ (T7.setTop (mkF m 168 #[.val (.int x0), .val (.int x1), .val (.int x2), .val (.int x3), .val (.int x4), .val (.int x5), .val (.int (v0_len x0)), .val (.int (v0_at x0)), .val (.int (z0_64_l8_1 x0 x1)), .val (.int (v0_u1 x0 x2)), .val (.int (v0_u2 x0 x3)), .val (.int (v0_u3 x0 x4)), .val (.ref b5), .val (.int (i2bI x5)), .unset] []))
          refine g_aload X7 hx 170 (hb hby at_168) rfl rfl rfl ?_
          show Go p e below s _ _ _ (T7.setTop (mkF m 170 #[.val (.int x0), .val (.int x1), .val (.int x2), .val (.int x3), .val (.int x4), .val (.int x5), .val (.int (v0_len x0)), .val (.int (v0_at x0)), .val (.int (z0_64_l8_1 x0 x1)), .val (.int (v0_u1 x0 x2)), .val (.int (v0_u2 x0 x3)), .val (.int (v0_u3 x0 x4)), .val (.ref b5), .val (.int (i2bI x5)), .unset] [(.ref b5)]))
          refine g_iconst X7 hx (2 : Int32) 171 (hb hby at_170) rfl rfl ?_
          show Go p e below s _ _ _ (T7.setTop (mkF m 171 #[.val (.int x0), .val (.int x1), .val (.int x2), .val (.int x3), .val (.int x4), .val (.int x5), .val (.int (v0_len x0)), .val (.int (v0_at x0)), .val (.int (z0_64_l8_1 x0 x1)), .val (.int (v0_u1 x0 x2)), .val (.int (v0_u2 x0 x3)), .val (.int (v0_u3 x0 x4)), .val (.ref b5), .val (.int (i2bI x5)), .unset] [(.int (2 : Int32)), (.ref b5)]))
          refine g_iload X7 hx 173 (hb hby at_171) rfl rfl ?_
          show Go p e below s _ _ _ (T7.setTop (mkF m 173 #[.val (.int x0), .val (.int x1), .val (.int x2), .val (.int x3), .val (.int x4), .val (.int x5), .val (.int (v0_len x0)), .val (.int (v0_at x0)), .val (.int (z0_64_l8_1 x0 x1)), .val (.int (v0_u1 x0 x2)), .val (.int (v0_u2 x0 x3)), .val (.int (v0_u3 x0 x4)), .val (.ref b5), .val (.int (i2bI x5)), .unset] [(.int (i2bI x5)), (.int (2 : Int32)), (.ref b5)]))
          refine g_bastore X7 hx hZ e7 A7 2 rfl (by decide) 174 (hb hby at_173) rfl ?_
          intro T8 h8 X8 e8 W8 A8
          have N8 := Fr.snoc X8 N7 N_b5
          have Z8 : n0 ≤ h8.size := by rw [W8.size]; exact Z7
          show Go p e below s _ _ _ (T8.setTop (mkF m 174 #[.val (.int x0), .val (.int x1), .val (.int x2), .val (.int x3), .val (.int x4), .val (.int x5), .val (.int (v0_len x0)), .val (.int (v0_at x0)), .val (.int (z0_64_l8_1 x0 x1)), .val (.int (v0_u1 x0 x2)), .val (.int (v0_u2 x0 x3)), .val (.int (v0_u3 x0 x4)), .val (.ref b5), .val (.int (i2bI x5)), .unset] []))
          refine g_aload X8 hx 176 (hb hby at_174) rfl rfl rfl ?_
          show Go p e below s _ _ _ (T8.setTop (mkF m 176 #[.val (.int x0), .val (.int x1), .val (.int x2), .val (.int x3), .val (.int x4), .val (.int x5), .val (.int (v0_len x0)), .val (.int (v0_at x0)), .val (.int (z0_64_l8_1 x0 x1)), .val (.int (v0_u1 x0 x2)), .val (.int (v0_u2 x0 x3)), .val (.int (v0_u3 x0 x4)), .val (.ref b5), .val (.int (i2bI x5)), .unset] [(.ref b5)]))
          refine g_iconst X8 hx (3 : Int32) 177 (hb hby at_176) rfl rfl ?_
          show Go p e below s _ _ _ (T8.setTop (mkF m 177 #[.val (.int x0), .val (.int x1), .val (.int x2), .val (.int x3), .val (.int x4), .val (.int x5), .val (.int (v0_len x0)), .val (.int (v0_at x0)), .val (.int (z0_64_l8_1 x0 x1)), .val (.int (v0_u1 x0 x2)), .val (.int (v0_u2 x0 x3)), .val (.int (v0_u3 x0 x4)), .val (.ref b5), .val (.int (i2bI x5)), .unset] [(.int (3 : Int32)), (.ref b5)]))
          refine g_iload X8 hx 179 (hb hby at_177) rfl rfl ?_
          show Go p e below s _ _ _ (T8.setTop (mkF m 179 #[.val (.int x0), .val (.int x1), .val (.int x2), .val (.int x3), .val (.int x4), .val (.int x5), .val (.int (v0_len x0)), .val (.int (v0_at x0)), .val (.int (z0_64_l8_1 x0 x1)), .val (.int (v0_u1 x0 x2)), .val (.int (v0_u2 x0 x3)), .val (.int (v0_u3 x0 x4)), .val (.ref b5), .val (.int (i2bI x5)), .unset] [(.int (i2bI x5)), (.int (3 : Int32)), (.ref b5)]))
          refine g_bastore X8 hx hZ e8 A8 3 rfl (by decide) 180 (hb hby at_179) rfl ?_
          intro T9 h9 X9 e9 W9 A9
          have N9 := Fr.snoc X9 N8 N_b5
          have Z9 : n0 ≤ h9.size := by rw [W9.size]; exact Z8
          show Go p e below s _ _ _ (T9.setTop (mkF m 180 #[.val (.int x0), .val (.int x1), .val (.int x2), .val (.int x3), .val (.int x4), .val (.int x5), .val (.int (v0_len x0)), .val (.int (v0_at x0)), .val (.int (z0_64_l8_1 x0 x1)), .val (.int (v0_u1 x0 x2)), .val (.int (v0_u2 x0 x3)), .val (.int (v0_u3 x0 x4)), .val (.ref b5), .val (.int (i2bI x5)), .unset] []))
          refine g_aload X9 hx 182 (hb hby at_180) rfl rfl rfl ?_
          show Go p e below s _ _ _ (T9.setTop (mkF m 182 #[.val (.int x0), .val (.int x1), .val (.int x2), .val (.int x3), .val (.int x4), .val (.int x5), .val (.int (v0_len x0)), .val (.int (v0_at x0)), .val (.int (z0_64_l8_1 x0 x1)), .val (.int (v0_u1 x0 x2)), .val (.int (v0_u2 x0 x3)), .val (.int (v0_u3 x0 x4)), .val (.ref b5), .val (.int (i2bI x5)), .unset] [(.ref b5)]))
          refine g_iconst X9 hx (4 : Int32) 183 (hb hby at_182) rfl rfl ?_
          show Go p e below s _ _ _ (T9.setTop (mkF m 183 #[.val (.int x0), .val (.int x1), .val (.int x2), .val (.int x3), .val (.int x4), .val (.int x5), .val (.int (v0_len x0)), .val (.int (v0_at x0)), .val (.int (z0_64_l8_1 x0 x1)), .val (.int (v0_u1 x0 x2)), .val (.int (v0_u2 x0 x3)), .val (.int (v0_u3 x0 x4)), .val (.ref b5), .val (.int (i2bI x5)), .unset] [(.int (4 : Int32)), (.ref b5)]))
          refine g_iload X9 hx 185 (hb hby at_183) rfl rfl ?_
          show Go p e below s _ _ _ (T9.setTop (mkF m 185 #[.val (.int x0), .val (.int x1), .val (.int x2), .val (.int x3), .val (.int x4), .val (.int x5), .val (.int (v0_len x0)), .val (.int (v0_at x0)), .val (.int (z0_64_l8_1 x0 x1)), .val (.int (v0_u1 x0 x2)), .val (.int (v0_u2 x0 x3)), .val (.int (v0_u3 x0 x4)), .val (.ref b5), .val (.int (i2bI x5)), .unset] [(.int (i2bI x5)), (.int (4 : Int32)), (.ref b5)]))
          refine g_bastore X9 hx hZ e9 A9 4 rfl (by decide) 186 (hb hby at_185) rfl ?_
          intro T10 h10 X10 e10 W10 A10
          have N10 := Fr.snoc X10 N9 N_b5
          have Z10 : n0 ≤ h10.size := by rw [W10.size]; exact Z9
          show Go p e below s _ _ _ (T10.setTop (mkF m 186 #[.val (.int x0), .val (.int x1), .val (.int x2), .val (.int x3), .val (.int x4), .val (.int x5), .val (.int (v0_len x0)), .val (.int (v0_at x0)), .val (.int (z0_64_l8_1 x0 x1)), .val (.int (v0_u1 x0 x2)), .val (.int (v0_u2 x0 x3)), .val (.int (v0_u3 x0 x4)), .val (.ref b5), .val (.int (i2bI x5)), .unset] []))
          refine g_aload X10 hx 188 (hb hby at_186) rfl rfl rfl ?_
          show Go p e below s _ _ _ (T10.setTop (mkF m 188 #[.val (.int x0), .val (.int x1), .val (.int x2), .val (.int x3), .val (.int x4), .val (.int x5), .val (.int (v0_len x0)), .val (.int (v0_at x0)), .val (.int (z0_64_l8_1 x0 x1)), .val (.int (v0_u1 x0 x2)), .val (.int (v0_u2 x0 x3)), .val (.int (v0_u3 x0 x4)), .val (.ref b5), .val (.int (i2bI x5)), .unset] [(.ref b5)]))
          refine g_iconst X10 hx (5 : Int32) 189 (hb hby at_188) rfl rfl ?_
          show Go p e below s _ _ _ (T10.setTop (mkF m 189 #[.val (.int x0), .val (.int x1), .val (.int x2), .val (.int x3), .val (.int x4), .val (.int x5), .val (.int (v0_len x0)), .val (.int (v0_at x0)), .val (.int (z0_64_l8_1 x0 x1)), .val (.int (v0_u1 x0 x2)), .val (.int (v0_u2 x0 x3)), .val (.int (v0_u3 x0 x4)), .val (.ref b5), .val (.int (i2bI x5)), .unset] [(.int (5 : Int32)), (.ref b5)]))
          refine g_iload X10 hx 191 (hb hby at_189) rfl rfl ?_
          show Go p e below s _ _ _ (T10.setTop (mkF m 191 #[.val (.int x0), .val (.int x1), .val (.int x2), .val (.int x3), .val (.int x4), .val (.int x5), .val (.int (v0_len x0)), .val (.int (v0_at x0)), .val (.int (z0_64_l8_1 x0 x1)), .val (.int (v0_u1 x0 x2)), .val (.int (v0_u2 x0 x3)), .val (.int (v0_u3 x0 x4)), .val (.ref b5), .val (.int (i2bI x5)), .unset] [(.int (i2bI x5)), (.int (5 : Int32)), (.ref b5)]))
          refine g_bastore X10 hx hZ e10 A10 5 rfl (by decide) 192 (hb hby at_191) rfl ?_
          intro T11 h11 X11 e11 W11 A11
          have N11 := Fr.snoc X11 N10 N_b5
          have Z11 : n0 ≤ h11.size := by rw [W11.size]; exact Z10
          show Go p e below s _ _ _ (T11.setTop (mkF m 192 #[.val (.int x0), .val (.int x1), .val (.int x2), .val (.int x3), .val (.int x4), .val (.int x5), .val (.int (v0_len x0)), .val (.int (v0_at x0)), .val (.int (z0_64_l8_1 x0 x1)), .val (.int (v0_u1 x0 x2)), .val (.int (v0_u2 x0 x3)), .val (.int (v0_u3 x0 x4)), .val (.ref b5), .val (.int (i2bI x5)), .unset] []))
          refine g_aload X11 hx 194 (hb hby at_192) rfl rfl rfl ?_
          show Go p e below s _ _ _ (T11.setTop (mkF m 194 #[.val (.int x0), .val (.int x1), .val (.int x2), .val (.int x3), .val (.int x4), .val (.int x5), .val (.int (v0_len x0)), .val (.int (v0_at x0)), .val (.int (z0_64_l8_1 x0 x1)), .val (.int (v0_u1 x0 x2)), .val (.int (v0_u2 x0 x3)), .val (.int (v0_u3 x0 x4)), .val (.ref b5), .val (.int (i2bI x5)), .unset] [(.ref b5)]))
          refine g_bipush X11 hx (6 : Int32) 196 (hb hby at_194) rfl rfl ?_
          show Go p e below s _ _ _ (T11.setTop (mkF m 196 #[.val (.int x0), .val (.int x1), .val (.int x2), .val (.int x3), .val (.int x4), .val (.int x5), .val (.int (v0_len x0)), .val (.int (v0_at x0)), .val (.int (z0_64_l8_1 x0 x1)), .val (.int (v0_u1 x0 x2)), .val (.int (v0_u2 x0 x3)), .val (.int (v0_u3 x0 x4)), .val (.ref b5), .val (.int (i2bI x5)), .unset] [(.int (6 : Int32)), (.ref b5)]))
          refine g_iload X11 hx 198 (hb hby at_196) rfl rfl ?_
          show Go p e below s _ _ _ (T11.setTop (mkF m 198 #[.val (.int x0), .val (.int x1), .val (.int x2), .val (.int x3), .val (.int x4), .val (.int x5), .val (.int (v0_len x0)), .val (.int (v0_at x0)), .val (.int (z0_64_l8_1 x0 x1)), .val (.int (v0_u1 x0 x2)), .val (.int (v0_u2 x0 x3)), .val (.int (v0_u3 x0 x4)), .val (.ref b5), .val (.int (i2bI x5)), .unset] [(.int (i2bI x5)), (.int (6 : Int32)), (.ref b5)]))
          refine g_bastore X11 hx hZ e11 A11 6 rfl (by decide) 199 (hb hby at_198) rfl ?_
          intro T12 h12 X12 e12 W12 A12
          have N12 := Fr.snoc X12 N11 N_b5
          have Z12 : n0 ≤ h12.size := by rw [W12.size]; exact Z11
          show Go p e below s _ _ _ (T12.setTop (mkF m 199 #[.val (.int x0), .val (.int x1), .val (.int x2), .val (.int x3), .val (.int x4), .val (.int x5), .val (.int (v0_len x0)), .val (.int (v0_at x0)), .val (.int (z0_64_l8_1 x0 x1)), .val (.int (v0_u1 x0 x2)), .val (.int (v0_u2 x0 x3)), .val (.int (v0_u3 x0 x4)), .val (.ref b5), .val (.int (i2bI x5)), .unset] []))
          refine g_aload X12 hx 201 (hb hby at_199) rfl rfl rfl ?_
          show Go p e below s _ _ _ (T12.setTop (mkF m 201 #[.val (.int x0), .val (.int x1), .val (.int x2), .val (.int x3), .val (.int x4), .val (.int x5), .val (.int (v0_len x0)), .val (.int (v0_at x0)), .val (.int (z0_64_l8_1 x0 x1)), .val (.int (v0_u1 x0 x2)), .val (.int (v0_u2 x0 x3)), .val (.int (v0_u3 x0 x4)), .val (.ref b5), .val (.int (i2bI x5)), .unset] [(.ref b5)]))
          refine g_bipush X12 hx (7 : Int32) 203 (hb hby at_201) rfl rfl ?_
          show Go p e below s _ _ _ (T12.setTop (mkF m 203 #[.val (.int x0), .val (.int x1), .val (.int x2), .val (.int x3), .val (.int x4), .val (.int x5), .val (.int (v0_len x0)), .val (.int (v0_at x0)), .val (.int (z0_64_l8_1 x0 x1)), .val (.int (v0_u1 x0 x2)), .val (.int (v0_u2 x0 x3)), .val (.int (v0_u3 x0 x4)), .val (.ref b5), .val (.int (i2bI x5)), .unset] [(.int (7 : Int32)), (.ref b5)]))
          refine g_iload X12 hx 205 (hb hby at_203) rfl rfl ?_
          show Go p e below s _ _ _ (T12.setTop (mkF m 205 #[.val (.int x0), .val (.int x1), .val (.int x2), .val (.int x3), .val (.int x4), .val (.int x5), .val (.int (v0_len x0)), .val (.int (v0_at x0)), .val (.int (z0_64_l8_1 x0 x1)), .val (.int (v0_u1 x0 x2)), .val (.int (v0_u2 x0 x3)), .val (.int (v0_u3 x0 x4)), .val (.ref b5), .val (.int (i2bI x5)), .unset] [(.int (i2bI x5)), (.int (7 : Int32)), (.ref b5)]))
          refine g_bastore X12 hx hZ e12 A12 7 rfl (by decide) 206 (hb hby at_205) rfl ?_
          intro T13 h13 X13 e13 W13 A13
          have N13 := Fr.snoc X13 N12 N_b5
          have Z13 : n0 ≤ h13.size := by rw [W13.size]; exact Z12
          show Go p e below s _ _ _ (T13.setTop (mkF m 206 #[.val (.int x0), .val (.int x1), .val (.int x2), .val (.int x3), .val (.int x4), .val (.int x5), .val (.int (v0_len x0)), .val (.int (v0_at x0)), .val (.int (z0_64_l8_1 x0 x1)), .val (.int (v0_u1 x0 x2)), .val (.int (v0_u2 x0 x3)), .val (.int (v0_u3 x0 x4)), .val (.ref b5), .val (.int (i2bI x5)), .unset] []))
          refine g_aload X13 hx 208 (hb hby at_206) rfl rfl rfl ?_
          show Go p e below s _ _ _ (T13.setTop (mkF m 208 #[.val (.int x0), .val (.int x1), .val (.int x2), .val (.int x3), .val (.int x4), .val (.int x5), .val (.int (v0_len x0)), .val (.int (v0_at x0)), .val (.int (z0_64_l8_1 x0 x1)), .val (.int (v0_u1 x0 x2)), .val (.int (v0_u2 x0 x3)), .val (.int (v0_u3 x0 x4)), .val (.ref b5), .val (.int (i2bI x5)), .unset] [(.ref b5)]))
          refine g_iload X13 hx 210 (hb hby at_208) rfl rfl ?_
          show Go p e below s _ _ _ (T13.setTop (mkF m 210 #[.val (.int x0), .val (.int x1), .val (.int x2), .val (.int x3), .val (.int x4), .val (.int x5), .val (.int (v0_len x0)), .val (.int (v0_at x0)), .val (.int (z0_64_l8_1 x0 x1)), .val (.int (v0_u1 x0 x2)), .val (.int (v0_u2 x0 x3)), .val (.int (v0_u3 x0 x4)), .val (.ref b5), .val (.int (i2bI x5)), .unset] [(.int (v0_at x0)), (.ref b5)]))
          refine g_iload X13 hx 212 (hb hby at_210) rfl rfl ?_
          show Go p e below s _ _ _ (T13.setTop (mkF m 212 #[.val (.int x0), .val (.int x1), .val (.int x2), .val (.int x3), .val (.int x4), .val (.int x5), .val (.int (v0_len x0)), .val (.int (v0_at x0)), .val (.int (z0_64_l8_1 x0 x1)), .val (.int (v0_u1 x0 x2)), .val (.int (v0_u2 x0 x3)), .val (.int (v0_u3 x0 x4)), .val (.ref b5), .val (.int (i2bI x5)), .unset] [(.int (z0_64_l8_1 x0 x1)), (.int (v0_at x0)), (.ref b5)]))
          refine g_i2b X13 hx 213 (hb hby at_212) rfl ?_
          show Go p e below s _ _ _ (T13.setTop (mkF m 213 #[.val (.int x0), .val (.int x1), .val (.int x2), .val (.int x3), .val (.int x4), .val (.int x5), .val (.int (v0_len x0)), .val (.int (v0_at x0)), .val (.int (z0_64_l8_1 x0 x1)), .val (.int (v0_u1 x0 x2)), .val (.int (v0_u2 x0 x3)), .val (.int (v0_u3 x0 x4)), .val (.ref b5), .val (.int (i2bI x5)), .unset] [(.int (i2bI (z0_64_l8_1 x0 x1))), (.int (v0_at x0)), (.ref b5)]))
          refine g_bastore X13 hx hZ e13 A13 (own_an x0) (own_at x0).1 (Nat.lt_trans (own_at x0).2 (by decide)) 214 (hb hby at_213) rfl ?_
          intro T14 h14 X14 e14 W14 A14
          have N14 := Fr.snoc X14 N13 N_b5
          have Z14 : n0 ≤ h14.size := by rw [W14.size]; exact Z13
          show Go p e below s _ _ _ (T14.setTop (mkF m 214 #[.val (.int x0), .val (.int x1), .val (.int x2), .val (.int x3), .val (.int x4), .val (.int x5), .val (.int (v0_len x0)), .val (.int (v0_at x0)), .val (.int (z0_64_l8_1 x0 x1)), .val (.int (v0_u1 x0 x2)), .val (.int (v0_u2 x0 x3)), .val (.int (v0_u3 x0 x4)), .val (.ref b5), .val (.int (i2bI x5)), .unset] []))
          refine g_aload X14 hx 216 (hb hby at_214) rfl rfl rfl ?_
          show Go p e below s _ _ _ (T14.setTop (mkF m 216 #[.val (.int x0), .val (.int x1), .val (.int x2), .val (.int x3), .val (.int x4), .val (.int x5), .val (.int (v0_len x0)), .val (.int (v0_at x0)), .val (.int (z0_64_l8_1 x0 x1)), .val (.int (v0_u1 x0 x2)), .val (.int (v0_u2 x0 x3)), .val (.int (v0_u3 x0 x4)), .val (.ref b5), .val (.int (i2bI x5)), .unset] [(.ref b5)]))
          refine g_iload X14 hx 218 (hb hby at_216) rfl rfl ?_
          show Go p e below s _ _ _ (T14.setTop (mkF m 218 #[.val (.int x0), .val (.int x1), .val (.int x2), .val (.int x3), .val (.int x4), .val (.int x5), .val (.int (v0_len x0)), .val (.int (v0_at x0)), .val (.int (z0_64_l8_1 x0 x1)), .val (.int (v0_u1 x0 x2)), .val (.int (v0_u2 x0 x3)), .val (.int (v0_u3 x0 x4)), .val (.ref b5), .val (.int (i2bI x5)), .unset] [(.int (v0_at x0)), (.ref b5)]))
          refine g_iconst X14 hx (1 : Int32) 219 (hb hby at_218) rfl rfl ?_
          show Go p e below s _ _ _ (T14.setTop (mkF m 219 #[.val (.int x0), .val (.int x1), .val (.int x2), .val (.int x3), .val (.int x4), .val (.int x5), .val (.int (v0_len x0)), .val (.int (v0_at x0)), .val (.int (z0_64_l8_1 x0 x1)), .val (.int (v0_u1 x0 x2)), .val (.int (v0_u2 x0 x3)), .val (.int (v0_u3 x0 x4)), .val (.ref b5), .val (.int (i2bI x5)), .unset] [(.int (1 : Int32)), (.int (v0_at x0)), (.ref b5)]))
          refine g_iadd X14 hx 220 (hb hby at_219) rfl ?_
          show Go p e below s _ _ _ (T14.setTop (mkF m 220 #[.val (.int x0), .val (.int x1), .val (.int x2), .val (.int x3), .val (.int x4), .val (.int x5), .val (.int (v0_len x0)), .val (.int (v0_at x0)), .val (.int (z0_64_l8_1 x0 x1)), .val (.int (v0_u1 x0 x2)), .val (.int (v0_u2 x0 x3)), .val (.int (v0_u3 x0 x4)), .val (.ref b5), .val (.int (i2bI x5)), .unset] [(.int ((v0_at x0) + (1 : Int32))), (.ref b5)]))
          refine g_iload X14 hx 222 (hb hby at_220) rfl rfl ?_
          show Go p e below s _ _ _ (T14.setTop (mkF m 222 #[.val (.int x0), .val (.int x1), .val (.int x2), .val (.int x3), .val (.int x4), .val (.int x5), .val (.int (v0_len x0)), .val (.int (v0_at x0)), .val (.int (z0_64_l8_1 x0 x1)), .val (.int (v0_u1 x0 x2)), .val (.int (v0_u2 x0 x3)), .val (.int (v0_u3 x0 x4)), .val (.ref b5), .val (.int (i2bI x5)), .unset] [(.int (v0_u1 x0 x2)), (.int ((v0_at x0) + (1 : Int32))), (.ref b5)]))
          refine g_i2b X14 hx 223 (hb hby at_222) rfl ?_
          show Go p e below s _ _ _ (T14.setTop (mkF m 223 #[.val (.int x0), .val (.int x1), .val (.int x2), .val (.int x3), .val (.int x4), .val (.int x5), .val (.int (v0_len x0)), .val (.int (v0_at x0)), .val (.int (z0_64_l8_1 x0 x1)), .val (.int (v0_u1 x0 x2)), .val (.int (v0_u2 x0 x3)), .val (.int (v0_u3 x0 x4)), .val (.ref b5), .val (.int (i2bI x5)), .unset] [(.int (i2bI (v0_u1 x0 x2))), (.int ((v0_at x0) + (1 : Int32))), (.ref b5)]))
          refine g_bastore X14 hx hZ e14 A14 (own_an x0 + 1) (own_at1 x0 1 1 rfl (by decide)).1 (own_at1 x0 1 1 rfl (by decide)).2 224 (hb hby at_223) rfl ?_
          intro T15 h15 X15 e15 W15 A15
          have N15 := Fr.snoc X15 N14 N_b5
          have Z15 : n0 ≤ h15.size := by rw [W15.size]; exact Z14
          show Go p e below s _ _ _ (T15.setTop (mkF m 224 #[.val (.int x0), .val (.int x1), .val (.int x2), .val (.int x3), .val (.int x4), .val (.int x5), .val (.int (v0_len x0)), .val (.int (v0_at x0)), .val (.int (z0_64_l8_1 x0 x1)), .val (.int (v0_u1 x0 x2)), .val (.int (v0_u2 x0 x3)), .val (.int (v0_u3 x0 x4)), .val (.ref b5), .val (.int (i2bI x5)), .unset] []))
          refine g_aload X15 hx 226 (hb hby at_224) rfl rfl rfl ?_
          show Go p e below s _ _ _ (T15.setTop (mkF m 226 #[.val (.int x0), .val (.int x1), .val (.int x2), .val (.int x3), .val (.int x4), .val (.int x5), .val (.int (v0_len x0)), .val (.int (v0_at x0)), .val (.int (z0_64_l8_1 x0 x1)), .val (.int (v0_u1 x0 x2)), .val (.int (v0_u2 x0 x3)), .val (.int (v0_u3 x0 x4)), .val (.ref b5), .val (.int (i2bI x5)), .unset] [(.ref b5)]))
          refine g_iload X15 hx 228 (hb hby at_226) rfl rfl ?_
          show Go p e below s _ _ _ (T15.setTop (mkF m 228 #[.val (.int x0), .val (.int x1), .val (.int x2), .val (.int x3), .val (.int x4), .val (.int x5), .val (.int (v0_len x0)), .val (.int (v0_at x0)), .val (.int (z0_64_l8_1 x0 x1)), .val (.int (v0_u1 x0 x2)), .val (.int (v0_u2 x0 x3)), .val (.int (v0_u3 x0 x4)), .val (.ref b5), .val (.int (i2bI x5)), .unset] [(.int (v0_at x0)), (.ref b5)]))
          refine g_iconst X15 hx (2 : Int32) 229 (hb hby at_228) rfl rfl ?_
          show Go p e below s _ _ _ (T15.setTop (mkF m 229 #[.val (.int x0), .val (.int x1), .val (.int x2), .val (.int x3), .val (.int x4), .val (.int x5), .val (.int (v0_len x0)), .val (.int (v0_at x0)), .val (.int (z0_64_l8_1 x0 x1)), .val (.int (v0_u1 x0 x2)), .val (.int (v0_u2 x0 x3)), .val (.int (v0_u3 x0 x4)), .val (.ref b5), .val (.int (i2bI x5)), .unset] [(.int (2 : Int32)), (.int (v0_at x0)), (.ref b5)]))
          refine g_iadd X15 hx 230 (hb hby at_229) rfl ?_
          show Go p e below s _ _ _ (T15.setTop (mkF m 230 #[.val (.int x0), .val (.int x1), .val (.int x2), .val (.int x3), .val (.int x4), .val (.int x5), .val (.int (v0_len x0)), .val (.int (v0_at x0)), .val (.int (z0_64_l8_1 x0 x1)), .val (.int (v0_u1 x0 x2)), .val (.int (v0_u2 x0 x3)), .val (.int (v0_u3 x0 x4)), .val (.ref b5), .val (.int (i2bI x5)), .unset] [(.int ((v0_at x0) + (2 : Int32))), (.ref b5)]))
          refine g_iload X15 hx 232 (hb hby at_230) rfl rfl ?_
          show Go p e below s _ _ _ (T15.setTop (mkF m 232 #[.val (.int x0), .val (.int x1), .val (.int x2), .val (.int x3), .val (.int x4), .val (.int x5), .val (.int (v0_len x0)), .val (.int (v0_at x0)), .val (.int (z0_64_l8_1 x0 x1)), .val (.int (v0_u1 x0 x2)), .val (.int (v0_u2 x0 x3)), .val (.int (v0_u3 x0 x4)), .val (.ref b5), .val (.int (i2bI x5)), .unset] [(.int (v0_u2 x0 x3)), (.int ((v0_at x0) + (2 : Int32))), (.ref b5)]))
          refine g_i2b X15 hx 233 (hb hby at_232) rfl ?_
          show Go p e below s _ _ _ (T15.setTop (mkF m 233 #[.val (.int x0), .val (.int x1), .val (.int x2), .val (.int x3), .val (.int x4), .val (.int x5), .val (.int (v0_len x0)), .val (.int (v0_at x0)), .val (.int (z0_64_l8_1 x0 x1)), .val (.int (v0_u1 x0 x2)), .val (.int (v0_u2 x0 x3)), .val (.int (v0_u3 x0 x4)), .val (.ref b5), .val (.int (i2bI x5)), .unset] [(.int (i2bI (v0_u2 x0 x3))), (.int ((v0_at x0) + (2 : Int32))), (.ref b5)]))
          refine g_bastore X15 hx hZ e15 A15 (own_an x0 + 2) (own_at1 x0 2 2 rfl (by decide)).1 (own_at1 x0 2 2 rfl (by decide)).2 234 (hb hby at_233) rfl ?_
          intro T16 h16 X16 e16 W16 A16
          have N16 := Fr.snoc X16 N15 N_b5
          have Z16 : n0 ≤ h16.size := by rw [W16.size]; exact Z15
          show Go p e below s _ _ _ (T16.setTop (mkF m 234 #[.val (.int x0), .val (.int x1), .val (.int x2), .val (.int x3), .val (.int x4), .val (.int x5), .val (.int (v0_len x0)), .val (.int (v0_at x0)), .val (.int (z0_64_l8_1 x0 x1)), .val (.int (v0_u1 x0 x2)), .val (.int (v0_u2 x0 x3)), .val (.int (v0_u3 x0 x4)), .val (.ref b5), .val (.int (i2bI x5)), .unset] []))
          refine g_aload X16 hx 236 (hb hby at_234) rfl rfl rfl ?_
          show Go p e below s _ _ _ (T16.setTop (mkF m 236 #[.val (.int x0), .val (.int x1), .val (.int x2), .val (.int x3), .val (.int x4), .val (.int x5), .val (.int (v0_len x0)), .val (.int (v0_at x0)), .val (.int (z0_64_l8_1 x0 x1)), .val (.int (v0_u1 x0 x2)), .val (.int (v0_u2 x0 x3)), .val (.int (v0_u3 x0 x4)), .val (.ref b5), .val (.int (i2bI x5)), .unset] [(.ref b5)]))
          refine g_iload X16 hx 238 (hb hby at_236) rfl rfl ?_
          show Go p e below s _ _ _ (T16.setTop (mkF m 238 #[.val (.int x0), .val (.int x1), .val (.int x2), .val (.int x3), .val (.int x4), .val (.int x5), .val (.int (v0_len x0)), .val (.int (v0_at x0)), .val (.int (z0_64_l8_1 x0 x1)), .val (.int (v0_u1 x0 x2)), .val (.int (v0_u2 x0 x3)), .val (.int (v0_u3 x0 x4)), .val (.ref b5), .val (.int (i2bI x5)), .unset] [(.int (v0_at x0)), (.ref b5)]))
          refine g_iconst X16 hx (3 : Int32) 239 (hb hby at_238) rfl rfl ?_
          show Go p e below s _ _ _ (T16.setTop (mkF m 239 #[.val (.int x0), .val (.int x1), .val (.int x2), .val (.int x3), .val (.int x4), .val (.int x5), .val (.int (v0_len x0)), .val (.int (v0_at x0)), .val (.int (z0_64_l8_1 x0 x1)), .val (.int (v0_u1 x0 x2)), .val (.int (v0_u2 x0 x3)), .val (.int (v0_u3 x0 x4)), .val (.ref b5), .val (.int (i2bI x5)), .unset] [(.int (3 : Int32)), (.int (v0_at x0)), (.ref b5)]))
          refine g_iadd X16 hx 240 (hb hby at_239) rfl ?_
          show Go p e below s _ _ _ (T16.setTop (mkF m 240 #[.val (.int x0), .val (.int x1), .val (.int x2), .val (.int x3), .val (.int x4), .val (.int x5), .val (.int (v0_len x0)), .val (.int (v0_at x0)), .val (.int (z0_64_l8_1 x0 x1)), .val (.int (v0_u1 x0 x2)), .val (.int (v0_u2 x0 x3)), .val (.int (v0_u3 x0 x4)), .val (.ref b5), .val (.int (i2bI x5)), .unset] [(.int ((v0_at x0) + (3 : Int32))), (.ref b5)]))
          refine g_iload X16 hx 242 (hb hby at_240) rfl rfl ?_
          show Go p e below s _ _ _ (T16.setTop (mkF m 242 #[.val (.int x0), .val (.int x1), .val (.int x2), .val (.int x3), .val (.int x4), .val (.int x5), .val (.int (v0_len x0)), .val (.int (v0_at x0)), .val (.int (z0_64_l8_1 x0 x1)), .val (.int (v0_u1 x0 x2)), .val (.int (v0_u2 x0 x3)), .val (.int (v0_u3 x0 x4)), .val (.ref b5), .val (.int (i2bI x5)), .unset] [(.int (v0_u3 x0 x4)), (.int ((v0_at x0) + (3 : Int32))), (.ref b5)]))
          refine g_i2b X16 hx 243 (hb hby at_242) rfl ?_
          show Go p e below s _ _ _ (T16.setTop (mkF m 243 #[.val (.int x0), .val (.int x1), .val (.int x2), .val (.int x3), .val (.int x4), .val (.int x5), .val (.int (v0_len x0)), .val (.int (v0_at x0)), .val (.int (z0_64_l8_1 x0 x1)), .val (.int (v0_u1 x0 x2)), .val (.int (v0_u2 x0 x3)), .val (.int (v0_u3 x0 x4)), .val (.ref b5), .val (.int (i2bI x5)), .unset] [(.int (i2bI (v0_u3 x0 x4))), (.int ((v0_at x0) + (3 : Int32))), (.ref b5)]))
          refine g_bastore X16 hx hZ e16 A16 (own_an x0 + 3) (own_at1 x0 3 3 rfl (by decide)).1 (own_at1 x0 3 3 rfl (by decide)).2 244 (hb hby at_243) rfl ?_
          intro T17 h17 X17 e17 W17 A17
          have N17 := Fr.snoc X17 N16 N_b5
          have Z17 : n0 ≤ h17.size := by rw [W17.size]; exact Z16
          show Go p e below s _ _ _ (T17.setTop (mkF m 244 #[.val (.int x0), .val (.int x1), .val (.int x2), .val (.int x3), .val (.int x4), .val (.int x5), .val (.int (v0_len x0)), .val (.int (v0_at x0)), .val (.int (z0_64_l8_1 x0 x1)), .val (.int (v0_u1 x0 x2)), .val (.int (v0_u2 x0 x3)), .val (.int (v0_u3 x0 x4)), .val (.ref b5), .val (.int (i2bI x5)), .unset] []))
          refine g_iload X17 hx 246 (hb hby at_244) rfl rfl ?_
          show Go p e below s _ _ _ (T17.setTop (mkF m 246 #[.val (.int x0), .val (.int x1), .val (.int x2), .val (.int x3), .val (.int x4), .val (.int x5), .val (.int (v0_len x0)), .val (.int (v0_at x0)), .val (.int (z0_64_l8_1 x0 x1)), .val (.int (v0_u1 x0 x2)), .val (.int (v0_u2 x0 x3)), .val (.int (v0_u3 x0 x4)), .val (.ref b5), .val (.int (i2bI x5)), .unset] [(.int (v0_len x0))]))
          refine g_iload X17 hx 248 (hb hby at_246) rfl rfl ?_
          show Go p e below s _ _ _ (T17.setTop (mkF m 248 #[.val (.int x0), .val (.int x1), .val (.int x2), .val (.int x3), .val (.int x4), .val (.int x5), .val (.int (v0_len x0)), .val (.int (v0_at x0)), .val (.int (z0_64_l8_1 x0 x1)), .val (.int (v0_u1 x0 x2)), .val (.int (v0_u2 x0 x3)), .val (.int (v0_u3 x0 x4)), .val (.ref b5), .val (.int (i2bI x5)), .unset] [(.int (z0_64_l8_1 x0 x1)), (.int (v0_len x0))]))
          refine g_iload X17 hx 250 (hb hby at_248) rfl rfl ?_
          show Go p e below s _ _ _ (T17.setTop (mkF m 250 #[.val (.int x0), .val (.int x1), .val (.int x2), .val (.int x3), .val (.int x4), .val (.int x5), .val (.int (v0_len x0)), .val (.int (v0_at x0)), .val (.int (z0_64_l8_1 x0 x1)), .val (.int (v0_u1 x0 x2)), .val (.int (v0_u2 x0 x3)), .val (.int (v0_u3 x0 x4)), .val (.ref b5), .val (.int (i2bI x5)), .unset] [(.int (v0_u1 x0 x2)), (.int (z0_64_l8_1 x0 x1)), (.int (v0_len x0))]))
          refine g_iload X17 hx 252 (hb hby at_250) rfl rfl ?_
          show Go p e below s _ _ _ (T17.setTop (mkF m 252 #[.val (.int x0), .val (.int x1), .val (.int x2), .val (.int x3), .val (.int x4), .val (.int x5), .val (.int (v0_len x0)), .val (.int (v0_at x0)), .val (.int (z0_64_l8_1 x0 x1)), .val (.int (v0_u1 x0 x2)), .val (.int (v0_u2 x0 x3)), .val (.int (v0_u3 x0 x4)), .val (.ref b5), .val (.int (i2bI x5)), .unset] [(.int (v0_u2 x0 x3)), (.int (v0_u1 x0 x2)), (.int (z0_64_l8_1 x0 x1)), (.int (v0_len x0))]))
          refine g_iload X17 hx 254 (hb hby at_252) rfl rfl ?_
          show Go p e below s _ _ _ (T17.setTop (mkF m 254 #[.val (.int x0), .val (.int x1), .val (.int x2), .val (.int x3), .val (.int x4), .val (.int x5), .val (.int (v0_len x0)), .val (.int (v0_at x0)), .val (.int (z0_64_l8_1 x0 x1)), .val (.int (v0_u1 x0 x2)), .val (.int (v0_u2 x0 x3)), .val (.int (v0_u3 x0 x4)), .val (.ref b5), .val (.int (i2bI x5)), .unset] [(.int (v0_u3 x0 x4)), (.int (v0_u2 x0 x3)), (.int (v0_u1 x0 x2)), (.int (z0_64_l8_1 x0 x1)), (.int (v0_len x0))]))
          refine g_callS X17 hx hZ hown (hw _ (List.mem_of_getElem? (i := 1) rfl)) (hw _ (List.mem_of_getElem? (i := 2) rfl)) (hw _ (List.mem_of_getElem? (i := 3) rfl)) (hw _ (List.mem_of_getElem? (i := 4) rfl)) (by decide) e17 (rm1 l Z a0 hw [] (v0_len x0) (z0_64_l8_1 x0 x1) (v0_u1 x0 x2) (v0_u2 x0 x3) (v0_u3 x0 x4) h17) [(.int (v0_len x0)), (.int (z0_64_l8_1 x0 x1)), (.int (v0_u1 x0 x2)), (.int (v0_u2 x0 x3)), (.int (v0_u3 x0 x4))] [] 0 rfl (lenOf pd__28IIIII_29I rfl) rfl (Nat.le_of_eq rfl) (by decide) (by decide) (by decide) (by decide) (by rw [hml]; rfl) (hb hby at_254) ?_
          intro T18 L18 v18 X18 q18
          obtain ⟨rfl, rfl, e18⟩ := q18
          have NS18 := Fr.app N17 (Fr.nil n0)
          show Go p e below s _ _ _ (T18.setTop (mkF m 257 #[.val (.int x0), .val (.int x1), .val (.int x2), .val (.int x3), .val (.int x4), .val (.int x5), .val (.int (v0_len x0)), .val (.int (v0_at x0)), .val (.int (z0_64_l8_1 x0 x1)), .val (.int (v0_u1 x0 x2)), .val (.int (v0_u2 x0 x3)), .val (.int (v0_u3 x0 x4)), .val (.ref b5), .val (.int (i2bI x5)), .unset] [(.int (f1 (v0_len x0) (z0_64_l8_1 x0 x1) (v0_u1 x0 x2) (v0_u2 x0 x3) (v0_u3 x0 x4)))]))
          refine g_istore X18 hx #[.val (.int x0), .val (.int x1), .val (.int x2), .val (.int x3), .val (.int x4), .val (.int x5), .val (.int (v0_len x0)), .val (.int (v0_at x0)), .val (.int (z0_64_l8_1 x0 x1)), .val (.int (v0_u1 x0 x2)), .val (.int (v0_u2 x0 x3)), .val (.int (v0_u3 x0 x4)), .val (.ref b5), .val (.int (i2bI x5)), .val (.int (f1 (v0_len x0) (z0_64_l8_1 x0 x1) (v0_u1 x0 x2) (v0_u2 x0 x3) (v0_u3 x0 x4)))] 259 (hb hby at_257) rfl rfl ?_
          show Go p e below s _ _ _ (T18.setTop (mkF m 259 #[.val (.int x0), .val (.int x1), .val (.int x2), .val (.int x3), .val (.int x4), .val (.int x5), .val (.int (v0_len x0)), .val (.int (v0_at x0)), .val (.int (z0_64_l8_1 x0 x1)), .val (.int (v0_u1 x0 x2)), .val (.int (v0_u2 x0 x3)), .val (.int (v0_u3 x0 x4)), .val (.ref b5), .val (.int (i2bI x5)), .val (.int (f1 (v0_len x0) (z0_64_l8_1 x0 x1) (v0_u1 x0 x2) (v0_u2 x0 x3) (v0_u3 x0 x4)))] []))
          refine g_aload X18 hx 261 (hb hby at_259) rfl rfl rfl ?_
          show Go p e below s _ _ _ (T18.setTop (mkF m 261 #[.val (.int x0), .val (.int x1), .val (.int x2), .val (.int x3), .val (.int x4), .val (.int x5), .val (.int (v0_len x0)), .val (.int (v0_at x0)), .val (.int (z0_64_l8_1 x0 x1)), .val (.int (v0_u1 x0 x2)), .val (.int (v0_u2 x0 x3)), .val (.int (v0_u3 x0 x4)), .val (.ref b5), .val (.int (i2bI x5)), .val (.int (f1 (v0_len x0) (z0_64_l8_1 x0 x1) (v0_u1 x0 x2) (v0_u2 x0 x3) (v0_u3 x0 x4)))] [(.ref b5)]))
          refine g_iload X18 hx 263 (hb hby at_261) rfl rfl ?_
          show Go p e below s _ _ _ (T18.setTop (mkF m 263 #[.val (.int x0), .val (.int x1), .val (.int x2), .val (.int x3), .val (.int x4), .val (.int x5), .val (.int (v0_len x0)), .val (.int (v0_at x0)), .val (.int (z0_64_l8_1 x0 x1)), .val (.int (v0_u1 x0 x2)), .val (.int (v0_u2 x0 x3)), .val (.int (v0_u3 x0 x4)), .val (.ref b5), .val (.int (i2bI x5)), .val (.int (f1 (v0_len x0) (z0_64_l8_1 x0 x1) (v0_u1 x0 x2) (v0_u2 x0 x3) (v0_u3 x0 x4)))] [(.int (v0_at x0)), (.ref b5)]))
          refine g_iload X18 hx 265 (hb hby at_263) rfl rfl ?_
          show Go p e below s _ _ _ (T18.setTop (mkF m 265 #[.val (.int x0), .val (.int x1), .val (.int x2), .val (.int x3), .val (.int x4), .val (.int x5), .val (.int (v0_len x0)), .val (.int (v0_at x0)), .val (.int (z0_64_l8_1 x0 x1)), .val (.int (v0_u1 x0 x2)), .val (.int (v0_u2 x0 x3)), .val (.int (v0_u3 x0 x4)), .val (.ref b5), .val (.int (i2bI x5)), .val (.int (f1 (v0_len x0) (z0_64_l8_1 x0 x1) (v0_u1 x0 x2) (v0_u2 x0 x3) (v0_u3 x0 x4)))] [(.int (v0_len x0)), (.int (v0_at x0)), (.ref b5)]))
          refine g_callS X18 hx hZ hown (hw _ (List.mem_of_getElem? (i := 8) rfl)) (hw _ (List.mem_of_getElem? (i := 9) rfl)) (hw _ (List.mem_of_getElem? (i := 10) rfl)) (hw _ (List.mem_of_getElem? (i := 11) rfl)) (by decide) e18 (rm3 l Z a0 hw [] b5 (v0_at x0) (v0_len x0) 8 (upd (upd (upd (upd (upd (upd (upd (upd (upd (upd (upd (upd (fun _ => (0 : Int32)) 0 (i2bI (i2bI x5))) 1 (i2bI (i2bI x5))) 2 (i2bI (i2bI x5))) 3 (i2bI (i2bI x5))) 4 (i2bI (i2bI x5))) 5 (i2bI (i2bI x5))) 6 (i2bI (i2bI x5))) 7 (i2bI (i2bI x5))) (own_an x0) (i2bI (i2bI (z0_64_l8_1 x0 x1)))) (own_an x0 + 1) (i2bI (i2bI (v0_u1 x0 x2)))) (own_an x0 + 2) (i2bI (i2bI (v0_u2 x0 x3)))) (own_an x0 + 3) (i2bI (i2bI (v0_u3 x0 x4)))) (own_an x0) h17 A17 ((own_at x0).1 : (v0_at x0).toInt = (own_an x0)) (by have := (own_at x0).2; omega : (own_an x0) + 3 < 8) (Nat.lt_trans (own_at x0).2 (by decide) : (own_an x0) < 1000) ((own_lb x0).1 : 2 ≤ (v0_len x0).toInt) ((own_lb x0).2 : (v0_len x0).toInt ≤ 4)) [(.ref b5), (.int (v0_at x0)), (.int (v0_len x0))] [] 0 rfl (lenOf pd__28_5bBII_29I rfl) rfl (Nat.le_of_eq rfl) (by decide) (by decide) (by decide) (by decide) (by rw [hml]; rfl) (hb hby at_265) ?_
          intro T19 L19 v19 X19 q19
          obtain ⟨rfl, rfl, e19⟩ := q19
          have NS19 := Fr.app NS18 (Fr.nil n0)
          show Go p e below s _ _ _ (T19.setTop (mkF m 268 #[.val (.int x0), .val (.int x1), .val (.int x2), .val (.int x3), .val (.int x4), .val (.int x5), .val (.int (v0_len x0)), .val (.int (v0_at x0)), .val (.int (z0_64_l8_1 x0 x1)), .val (.int (v0_u1 x0 x2)), .val (.int (v0_u2 x0 x3)), .val (.int (v0_u3 x0 x4)), .val (.ref b5), .val (.int (i2bI x5)), .val (.int (f1 (v0_len x0) (z0_64_l8_1 x0 x1) (v0_u1 x0 x2) (v0_u2 x0 x3) (v0_u3 x0 x4)))] [(.int (f3 (v0_len x0) (upd (upd (upd (upd (upd (upd (upd (upd (upd (upd (upd (upd (fun _ => (0 : Int32)) 0 (i2bI (i2bI x5))) 1 (i2bI (i2bI x5))) 2 (i2bI (i2bI x5))) 3 (i2bI (i2bI x5))) 4 (i2bI (i2bI x5))) 5 (i2bI (i2bI x5))) 6 (i2bI (i2bI x5))) 7 (i2bI (i2bI x5))) (own_an x0) (i2bI (i2bI (z0_64_l8_1 x0 x1)))) (own_an x0 + 1) (i2bI (i2bI (v0_u1 x0 x2)))) (own_an x0 + 2) (i2bI (i2bI (v0_u2 x0 x3)))) (own_an x0 + 3) (i2bI (i2bI (v0_u3 x0 x4)))) (own_an x0)))]))
          refine g_iload X19 hx 270 (hb hby at_268) rfl rfl ?_
          show Go p e below s _ _ _ (T19.setTop (mkF m 270 #[.val (.int x0), .val (.int x1), .val (.int x2), .val (.int x3), .val (.int x4), .val (.int x5), .val (.int (v0_len x0)), .val (.int (v0_at x0)), .val (.int (z0_64_l8_1 x0 x1)), .val (.int (v0_u1 x0 x2)), .val (.int (v0_u2 x0 x3)), .val (.int (v0_u3 x0 x4)), .val (.ref b5), .val (.int (i2bI x5)), .val (.int (f1 (v0_len x0) (z0_64_l8_1 x0 x1) (v0_u1 x0 x2) (v0_u2 x0 x3) (v0_u3 x0 x4)))] [(.int (f1 (v0_len x0) (z0_64_l8_1 x0 x1) (v0_u1 x0 x2) (v0_u2 x0 x3) (v0_u3 x0 x4))), (.int (f3 (v0_len x0) (upd (upd (upd (upd (upd (upd (upd (upd (upd (upd (upd (upd (fun _ => (0 : Int32)) 0 (i2bI (i2bI x5))) 1 (i2bI (i2bI x5))) 2 (i2bI (i2bI x5))) 3 (i2bI (i2bI x5))) 4 (i2bI (i2bI x5))) 5 (i2bI (i2bI x5))) 6 (i2bI (i2bI x5))) 7 (i2bI (i2bI x5))) (own_an x0) (i2bI (i2bI (z0_64_l8_1 x0 x1)))) (own_an x0 + 1) (i2bI (i2bI (v0_u1 x0 x2)))) (own_an x0 + 2) (i2bI (i2bI (v0_u2 x0 x3)))) (own_an x0 + 3) (i2bI (i2bI (v0_u3 x0 x4)))) (own_an x0)))]))
          have h20 : (f3 (v0_len x0) (upd (upd (upd (upd (upd (upd (upd (upd (upd (upd (upd (upd (fun _ => (0 : Int32)) 0 (i2bI (i2bI x5))) 1 (i2bI (i2bI x5))) 2 (i2bI (i2bI x5))) 3 (i2bI (i2bI x5))) 4 (i2bI (i2bI x5))) 5 (i2bI (i2bI x5))) 6 (i2bI (i2bI x5))) 7 (i2bI (i2bI x5))) (own_an x0) (i2bI (i2bI (z0_64_l8_1 x0 x1)))) (own_an x0 + 1) (i2bI (i2bI (v0_u1 x0 x2)))) (own_an x0 + 2) (i2bI (i2bI (v0_u2 x0 x3)))) (own_an x0 + 3) (i2bI (i2bI (v0_u3 x0 x4)))) (own_an x0)) = (f1 (v0_len x0) (z0_64_l8_1 x0 x1) (v0_u1 x0 x2) (v0_u2 x0 x3) (v0_u3 x0 x4)) := own_law x0 x1 x2 x3 x4 (fun _ => 0) _ (by simp [upd] <;> rfl) (by simp [upd] <;> rfl) (by simp [upd] <;> rfl) (by simp [upd] <;> rfl)
          refine g_icmp_ne X19 hx 277 273 (hb hby at_270) (by decide) rfl rfl (fun _ => ?_) (fun q => absurd h20 q)
          show Go p e below s _ _ _ (T19.setTop (mkF m 273 #[.val (.int x0), .val (.int x1), .val (.int x2), .val (.int x3), .val (.int x4), .val (.int x5), .val (.int (v0_len x0)), .val (.int (v0_at x0)), .val (.int (z0_64_l8_1 x0 x1)), .val (.int (v0_u1 x0 x2)), .val (.int (v0_u2 x0 x3)), .val (.int (v0_u3 x0 x4)), .val (.ref b5), .val (.int (i2bI x5)), .val (.int (f1 (v0_len x0) (z0_64_l8_1 x0 x1) (v0_u1 x0 x2) (v0_u2 x0 x3) (v0_u3 x0 x4)))] []))
          refine g_iconst X19 hx (1 : Int32) 274 (hb hby at_273) rfl rfl ?_
          show Go p e below s _ _ _ (T19.setTop (mkF m 274 #[.val (.int x0), .val (.int x1), .val (.int x2), .val (.int x3), .val (.int x4), .val (.int x5), .val (.int (v0_len x0)), .val (.int (v0_at x0)), .val (.int (z0_64_l8_1 x0 x1)), .val (.int (v0_u1 x0 x2)), .val (.int (v0_u2 x0 x3)), .val (.int (v0_u3 x0 x4)), .val (.ref b5), .val (.int (i2bI x5)), .val (.int (f1 (v0_len x0) (z0_64_l8_1 x0 x1) (v0_u1 x0 x2) (v0_u2 x0 x3) (v0_u3 x0 x4)))] [(.int (1 : Int32))]))
          refine g_goto X19 hx 278 (hb hby at_274) (by decide) rfl ?_
          show Go p e below s _ _ _ (T19.setTop (mkF m 278 #[.val (.int x0), .val (.int x1), .val (.int x2), .val (.int x3), .val (.int x4), .val (.int x5), .val (.int (v0_len x0)), .val (.int (v0_at x0)), .val (.int (z0_64_l8_1 x0 x1)), .val (.int (v0_u1 x0 x2)), .val (.int (v0_u2 x0 x3)), .val (.int (v0_u3 x0 x4)), .val (.ref b5), .val (.int (i2bI x5)), .val (.int (f1 (v0_len x0) (z0_64_l8_1 x0 x1) (v0_u1 x0 x2) (v0_u2 x0 x3) (v0_u3 x0 x4)))] [(.int (1 : Int32))]))
          exact g_retN X19 hx hret (by simp) hlk (hb hby at_278) (by decide) (by decide) ⟨rfl, NS19⟩
        refine g_if0_eq X0 hx 137 125 (hb hby at_122) (by decide) rfl rfl (fun h21 => ?_) (fun h21 => ?_)
        · show Go p e below s _ _ _ (T0.setTop (mkF m 137 #[.val (.int x0), .val (.int x1), .val (.int x2), .val (.int x3), .val (.int x4), .val (.int x5), .val (.int (v0_len x0)), .val (.int (v0_at x0)), .val (.int (z0_64_l8_1 x0 x1)), .val (.int (v0_u1 x0 x2)), .val (.int (v0_u2 x0 x3)), .unset, .unset, .unset, .unset] []))
          refine g_iload X0 hx 139 (hb hby at_137) rfl rfl ?_
          show Go p e below s _ _ _ (T0.setTop (mkF m 139 #[.val (.int x0), .val (.int x1), .val (.int x2), .val (.int x3), .val (.int x4), .val (.int x5), .val (.int (v0_len x0)), .val (.int (v0_at x0)), .val (.int (z0_64_l8_1 x0 x1)), .val (.int (v0_u1 x0 x2)), .val (.int (v0_u2 x0 x3)), .unset, .unset, .unset, .unset] [(.int x4)]))
          refine g_sipush X0 hx (255 : Int32) 142 (hb hby at_139) rfl rfl ?_
          show Go p e below s _ _ _ (T0.setTop (mkF m 142 #[.val (.int x0), .val (.int x1), .val (.int x2), .val (.int x3), .val (.int x4), .val (.int x5), .val (.int (v0_len x0)), .val (.int (v0_at x0)), .val (.int (z0_64_l8_1 x0 x1)), .val (.int (v0_u1 x0 x2)), .val (.int (v0_u2 x0 x3)), .unset, .unset, .unset, .unset] [(.int (255 : Int32)), (.int x4)]))
          refine g_iand X0 hx 143 (hb hby at_142) rfl ?_
          show Go p e below s _ _ _ (T0.setTop (mkF m 143 #[.val (.int x0), .val (.int x1), .val (.int x2), .val (.int x3), .val (.int x4), .val (.int x5), .val (.int (v0_len x0)), .val (.int (v0_at x0)), .val (.int (z0_64_l8_1 x0 x1)), .val (.int (v0_u1 x0 x2)), .val (.int (v0_u2 x0 x3)), .unset, .unset, .unset, .unset] [(.int (x4 &&& (255 : Int32)))]))
          have q4 := J4
          simp only [z0_143_s0_4, if_pos h21] at q4
          exact q4
        · show Go p e below s _ _ _ (T0.setTop (mkF m 125 #[.val (.int x0), .val (.int x1), .val (.int x2), .val (.int x3), .val (.int x4), .val (.int x5), .val (.int (v0_len x0)), .val (.int (v0_at x0)), .val (.int (z0_64_l8_1 x0 x1)), .val (.int (v0_u1 x0 x2)), .val (.int (v0_u2 x0 x3)), .unset, .unset, .unset, .unset] []))
          refine g_sipush X0 hx (128 : Int32) 128 (hb hby at_125) rfl rfl ?_
          show Go p e below s _ _ _ (T0.setTop (mkF m 128 #[.val (.int x0), .val (.int x1), .val (.int x2), .val (.int x3), .val (.int x4), .val (.int x5), .val (.int (v0_len x0)), .val (.int (v0_at x0)), .val (.int (z0_64_l8_1 x0 x1)), .val (.int (v0_u1 x0 x2)), .val (.int (v0_u2 x0 x3)), .unset, .unset, .unset, .unset] [(.int (128 : Int32))]))
          refine g_iload X0 hx 130 (hb hby at_128) rfl rfl ?_
          show Go p e below s _ _ _ (T0.setTop (mkF m 130 #[.val (.int x0), .val (.int x1), .val (.int x2), .val (.int x3), .val (.int x4), .val (.int x5), .val (.int (v0_len x0)), .val (.int (v0_at x0)), .val (.int (z0_64_l8_1 x0 x1)), .val (.int (v0_u1 x0 x2)), .val (.int (v0_u2 x0 x3)), .unset, .unset, .unset, .unset] [(.int x4), (.int (128 : Int32))]))
          refine g_bipush X0 hx (63 : Int32) 132 (hb hby at_130) rfl rfl ?_
          show Go p e below s _ _ _ (T0.setTop (mkF m 132 #[.val (.int x0), .val (.int x1), .val (.int x2), .val (.int x3), .val (.int x4), .val (.int x5), .val (.int (v0_len x0)), .val (.int (v0_at x0)), .val (.int (z0_64_l8_1 x0 x1)), .val (.int (v0_u1 x0 x2)), .val (.int (v0_u2 x0 x3)), .unset, .unset, .unset, .unset] [(.int (63 : Int32)), (.int x4), (.int (128 : Int32))]))
          refine g_iand X0 hx 133 (hb hby at_132) rfl ?_
          show Go p e below s _ _ _ (T0.setTop (mkF m 133 #[.val (.int x0), .val (.int x1), .val (.int x2), .val (.int x3), .val (.int x4), .val (.int x5), .val (.int (v0_len x0)), .val (.int (v0_at x0)), .val (.int (z0_64_l8_1 x0 x1)), .val (.int (v0_u1 x0 x2)), .val (.int (v0_u2 x0 x3)), .unset, .unset, .unset, .unset] [(.int (x4 &&& (63 : Int32))), (.int (128 : Int32))]))
          refine g_ior X0 hx 134 (hb hby at_133) rfl ?_
          show Go p e below s _ _ _ (T0.setTop (mkF m 134 #[.val (.int x0), .val (.int x1), .val (.int x2), .val (.int x3), .val (.int x4), .val (.int x5), .val (.int (v0_len x0)), .val (.int (v0_at x0)), .val (.int (z0_64_l8_1 x0 x1)), .val (.int (v0_u1 x0 x2)), .val (.int (v0_u2 x0 x3)), .unset, .unset, .unset, .unset] [(.int ((128 : Int32) ||| (x4 &&& (63 : Int32))))]))
          refine g_goto X0 hx 143 (hb hby at_134) (by decide) rfl ?_
          show Go p e below s _ _ _ (T0.setTop (mkF m 143 #[.val (.int x0), .val (.int x1), .val (.int x2), .val (.int x3), .val (.int x4), .val (.int x5), .val (.int (v0_len x0)), .val (.int (v0_at x0)), .val (.int (z0_64_l8_1 x0 x1)), .val (.int (v0_u1 x0 x2)), .val (.int (v0_u2 x0 x3)), .unset, .unset, .unset, .unset] [(.int ((128 : Int32) ||| (x4 &&& (63 : Int32))))]))
          have q4 := J4
          simp only [z0_143_s0_4, if_neg h21] at q4
          exact q4
      refine g_if0_eq X0 hx 109 98 (hb hby at_95) (by decide) rfl rfl (fun h22 => ?_) (fun h22 => ?_)
      · show Go p e below s _ _ _ (T0.setTop (mkF m 109 #[.val (.int x0), .val (.int x1), .val (.int x2), .val (.int x3), .val (.int x4), .val (.int x5), .val (.int (v0_len x0)), .val (.int (v0_at x0)), .val (.int (z0_64_l8_1 x0 x1)), .val (.int (v0_u1 x0 x2)), .unset, .unset, .unset, .unset, .unset] []))
        refine g_iloadN X0 hx 110 (hb hby at_109) rfl rfl ?_
        show Go p e below s _ _ _ (T0.setTop (mkF m 110 #[.val (.int x0), .val (.int x1), .val (.int x2), .val (.int x3), .val (.int x4), .val (.int x5), .val (.int (v0_len x0)), .val (.int (v0_at x0)), .val (.int (z0_64_l8_1 x0 x1)), .val (.int (v0_u1 x0 x2)), .unset, .unset, .unset, .unset, .unset] [(.int x3)]))
        refine g_sipush X0 hx (255 : Int32) 113 (hb hby at_110) rfl rfl ?_
        show Go p e below s _ _ _ (T0.setTop (mkF m 113 #[.val (.int x0), .val (.int x1), .val (.int x2), .val (.int x3), .val (.int x4), .val (.int x5), .val (.int (v0_len x0)), .val (.int (v0_at x0)), .val (.int (z0_64_l8_1 x0 x1)), .val (.int (v0_u1 x0 x2)), .unset, .unset, .unset, .unset, .unset] [(.int (255 : Int32)), (.int x3)]))
        refine g_iand X0 hx 114 (hb hby at_113) rfl ?_
        show Go p e below s _ _ _ (T0.setTop (mkF m 114 #[.val (.int x0), .val (.int x1), .val (.int x2), .val (.int x3), .val (.int x4), .val (.int x5), .val (.int (v0_len x0)), .val (.int (v0_at x0)), .val (.int (z0_64_l8_1 x0 x1)), .val (.int (v0_u1 x0 x2)), .unset, .unset, .unset, .unset, .unset] [(.int (x3 &&& (255 : Int32)))]))
        have q3 := J3
        simp only [z0_114_s0_3, if_pos h22] at q3
        exact q3
      · show Go p e below s _ _ _ (T0.setTop (mkF m 98 #[.val (.int x0), .val (.int x1), .val (.int x2), .val (.int x3), .val (.int x4), .val (.int x5), .val (.int (v0_len x0)), .val (.int (v0_at x0)), .val (.int (z0_64_l8_1 x0 x1)), .val (.int (v0_u1 x0 x2)), .unset, .unset, .unset, .unset, .unset] []))
        refine g_sipush X0 hx (128 : Int32) 101 (hb hby at_98) rfl rfl ?_
        show Go p e below s _ _ _ (T0.setTop (mkF m 101 #[.val (.int x0), .val (.int x1), .val (.int x2), .val (.int x3), .val (.int x4), .val (.int x5), .val (.int (v0_len x0)), .val (.int (v0_at x0)), .val (.int (z0_64_l8_1 x0 x1)), .val (.int (v0_u1 x0 x2)), .unset, .unset, .unset, .unset, .unset] [(.int (128 : Int32))]))
        refine g_iloadN X0 hx 102 (hb hby at_101) rfl rfl ?_
        show Go p e below s _ _ _ (T0.setTop (mkF m 102 #[.val (.int x0), .val (.int x1), .val (.int x2), .val (.int x3), .val (.int x4), .val (.int x5), .val (.int (v0_len x0)), .val (.int (v0_at x0)), .val (.int (z0_64_l8_1 x0 x1)), .val (.int (v0_u1 x0 x2)), .unset, .unset, .unset, .unset, .unset] [(.int x3), (.int (128 : Int32))]))
        refine g_bipush X0 hx (63 : Int32) 104 (hb hby at_102) rfl rfl ?_
        show Go p e below s _ _ _ (T0.setTop (mkF m 104 #[.val (.int x0), .val (.int x1), .val (.int x2), .val (.int x3), .val (.int x4), .val (.int x5), .val (.int (v0_len x0)), .val (.int (v0_at x0)), .val (.int (z0_64_l8_1 x0 x1)), .val (.int (v0_u1 x0 x2)), .unset, .unset, .unset, .unset, .unset] [(.int (63 : Int32)), (.int x3), (.int (128 : Int32))]))
        refine g_iand X0 hx 105 (hb hby at_104) rfl ?_
        show Go p e below s _ _ _ (T0.setTop (mkF m 105 #[.val (.int x0), .val (.int x1), .val (.int x2), .val (.int x3), .val (.int x4), .val (.int x5), .val (.int (v0_len x0)), .val (.int (v0_at x0)), .val (.int (z0_64_l8_1 x0 x1)), .val (.int (v0_u1 x0 x2)), .unset, .unset, .unset, .unset, .unset] [(.int (x3 &&& (63 : Int32))), (.int (128 : Int32))]))
        refine g_ior X0 hx 106 (hb hby at_105) rfl ?_
        show Go p e below s _ _ _ (T0.setTop (mkF m 106 #[.val (.int x0), .val (.int x1), .val (.int x2), .val (.int x3), .val (.int x4), .val (.int x5), .val (.int (v0_len x0)), .val (.int (v0_at x0)), .val (.int (z0_64_l8_1 x0 x1)), .val (.int (v0_u1 x0 x2)), .unset, .unset, .unset, .unset, .unset] [(.int ((128 : Int32) ||| (x3 &&& (63 : Int32))))]))
        refine g_goto X0 hx 114 (hb hby at_106) (by decide) rfl ?_
        show Go p e below s _ _ _ (T0.setTop (mkF m 114 #[.val (.int x0), .val (.int x1), .val (.int x2), .val (.int x3), .val (.int x4), .val (.int x5), .val (.int (v0_len x0)), .val (.int (v0_at x0)), .val (.int (z0_64_l8_1 x0 x1)), .val (.int (v0_u1 x0 x2)), .unset, .unset, .unset, .unset, .unset] [(.int ((128 : Int32) ||| (x3 &&& (63 : Int32))))]))
        have q3 := J3
        simp only [z0_114_s0_3, if_neg h22] at q3
        exact q3
    refine g_if0_eq X0 hx 83 72 (hb hby at_69) (by decide) rfl rfl (fun h23 => ?_) (fun h23 => ?_)
    · show Go p e below s _ _ _ (T0.setTop (mkF m 83 #[.val (.int x0), .val (.int x1), .val (.int x2), .val (.int x3), .val (.int x4), .val (.int x5), .val (.int (v0_len x0)), .val (.int (v0_at x0)), .val (.int (z0_64_l8_1 x0 x1)), .unset, .unset, .unset, .unset, .unset, .unset] []))
      refine g_iloadN X0 hx 84 (hb hby at_83) rfl rfl ?_
      show Go p e below s _ _ _ (T0.setTop (mkF m 84 #[.val (.int x0), .val (.int x1), .val (.int x2), .val (.int x3), .val (.int x4), .val (.int x5), .val (.int (v0_len x0)), .val (.int (v0_at x0)), .val (.int (z0_64_l8_1 x0 x1)), .unset, .unset, .unset, .unset, .unset, .unset] [(.int x2)]))
      refine g_sipush X0 hx (255 : Int32) 87 (hb hby at_84) rfl rfl ?_
      show Go p e below s _ _ _ (T0.setTop (mkF m 87 #[.val (.int x0), .val (.int x1), .val (.int x2), .val (.int x3), .val (.int x4), .val (.int x5), .val (.int (v0_len x0)), .val (.int (v0_at x0)), .val (.int (z0_64_l8_1 x0 x1)), .unset, .unset, .unset, .unset, .unset, .unset] [(.int (255 : Int32)), (.int x2)]))
      refine g_iand X0 hx 88 (hb hby at_87) rfl ?_
      show Go p e below s _ _ _ (T0.setTop (mkF m 88 #[.val (.int x0), .val (.int x1), .val (.int x2), .val (.int x3), .val (.int x4), .val (.int x5), .val (.int (v0_len x0)), .val (.int (v0_at x0)), .val (.int (z0_64_l8_1 x0 x1)), .unset, .unset, .unset, .unset, .unset, .unset] [(.int (x2 &&& (255 : Int32)))]))
      have q2 := J2
      simp only [z0_88_s0_2, if_pos h23] at q2
      exact q2
    · show Go p e below s _ _ _ (T0.setTop (mkF m 72 #[.val (.int x0), .val (.int x1), .val (.int x2), .val (.int x3), .val (.int x4), .val (.int x5), .val (.int (v0_len x0)), .val (.int (v0_at x0)), .val (.int (z0_64_l8_1 x0 x1)), .unset, .unset, .unset, .unset, .unset, .unset] []))
      refine g_sipush X0 hx (128 : Int32) 75 (hb hby at_72) rfl rfl ?_
      show Go p e below s _ _ _ (T0.setTop (mkF m 75 #[.val (.int x0), .val (.int x1), .val (.int x2), .val (.int x3), .val (.int x4), .val (.int x5), .val (.int (v0_len x0)), .val (.int (v0_at x0)), .val (.int (z0_64_l8_1 x0 x1)), .unset, .unset, .unset, .unset, .unset, .unset] [(.int (128 : Int32))]))
      refine g_iloadN X0 hx 76 (hb hby at_75) rfl rfl ?_
      show Go p e below s _ _ _ (T0.setTop (mkF m 76 #[.val (.int x0), .val (.int x1), .val (.int x2), .val (.int x3), .val (.int x4), .val (.int x5), .val (.int (v0_len x0)), .val (.int (v0_at x0)), .val (.int (z0_64_l8_1 x0 x1)), .unset, .unset, .unset, .unset, .unset, .unset] [(.int x2), (.int (128 : Int32))]))
      refine g_bipush X0 hx (63 : Int32) 78 (hb hby at_76) rfl rfl ?_
      show Go p e below s _ _ _ (T0.setTop (mkF m 78 #[.val (.int x0), .val (.int x1), .val (.int x2), .val (.int x3), .val (.int x4), .val (.int x5), .val (.int (v0_len x0)), .val (.int (v0_at x0)), .val (.int (z0_64_l8_1 x0 x1)), .unset, .unset, .unset, .unset, .unset, .unset] [(.int (63 : Int32)), (.int x2), (.int (128 : Int32))]))
      refine g_iand X0 hx 79 (hb hby at_78) rfl ?_
      show Go p e below s _ _ _ (T0.setTop (mkF m 79 #[.val (.int x0), .val (.int x1), .val (.int x2), .val (.int x3), .val (.int x4), .val (.int x5), .val (.int (v0_len x0)), .val (.int (v0_at x0)), .val (.int (z0_64_l8_1 x0 x1)), .unset, .unset, .unset, .unset, .unset, .unset] [(.int (x2 &&& (63 : Int32))), (.int (128 : Int32))]))
      refine g_ior X0 hx 80 (hb hby at_79) rfl ?_
      show Go p e below s _ _ _ (T0.setTop (mkF m 80 #[.val (.int x0), .val (.int x1), .val (.int x2), .val (.int x3), .val (.int x4), .val (.int x5), .val (.int (v0_len x0)), .val (.int (v0_at x0)), .val (.int (z0_64_l8_1 x0 x1)), .unset, .unset, .unset, .unset, .unset, .unset] [(.int ((128 : Int32) ||| (x2 &&& (63 : Int32))))]))
      refine g_goto X0 hx 88 (hb hby at_80) (by decide) rfl ?_
      show Go p e below s _ _ _ (T0.setTop (mkF m 88 #[.val (.int x0), .val (.int x1), .val (.int x2), .val (.int x3), .val (.int x4), .val (.int x5), .val (.int (v0_len x0)), .val (.int (v0_at x0)), .val (.int (z0_64_l8_1 x0 x1)), .unset, .unset, .unset, .unset, .unset, .unset] [(.int ((128 : Int32) ||| (x2 &&& (63 : Int32))))]))
      have q2 := J2
      simp only [z0_88_s0_2, if_neg h23] at q2
      exact q2
  refine g_icmp_ne X0 hx 35 22 (hb hby at_19) (by decide) rfl rfl (fun h24 => ?_) (fun h24 => ?_)
  · show Go p e below s _ _ _ (T0.setTop (mkF m 22 #[.val (.int x0), .val (.int x1), .val (.int x2), .val (.int x3), .val (.int x4), .val (.int x5), .val (.int (v0_len x0)), .val (.int (v0_at x0)), .unset, .unset, .unset, .unset, .unset, .unset, .unset] []))
    refine g_sipush X0 hx (192 : Int32) 25 (hb hby at_22) rfl rfl ?_
    show Go p e below s _ _ _ (T0.setTop (mkF m 25 #[.val (.int x0), .val (.int x1), .val (.int x2), .val (.int x3), .val (.int x4), .val (.int x5), .val (.int (v0_len x0)), .val (.int (v0_at x0)), .unset, .unset, .unset, .unset, .unset, .unset, .unset] [(.int (192 : Int32))]))
    refine g_iloadN X0 hx 26 (hb hby at_25) rfl rfl ?_
    show Go p e below s _ _ _ (T0.setTop (mkF m 26 #[.val (.int x0), .val (.int x1), .val (.int x2), .val (.int x3), .val (.int x4), .val (.int x5), .val (.int (v0_len x0)), .val (.int (v0_at x0)), .unset, .unset, .unset, .unset, .unset, .unset, .unset] [(.int x1), (.int (192 : Int32))]))
    refine g_bipush X0 hx (31 : Int32) 28 (hb hby at_26) rfl rfl ?_
    show Go p e below s _ _ _ (T0.setTop (mkF m 28 #[.val (.int x0), .val (.int x1), .val (.int x2), .val (.int x3), .val (.int x4), .val (.int x5), .val (.int (v0_len x0)), .val (.int (v0_at x0)), .unset, .unset, .unset, .unset, .unset, .unset, .unset] [(.int (31 : Int32)), (.int x1), (.int (192 : Int32))]))
    refine g_iand X0 hx 29 (hb hby at_28) rfl ?_
    show Go p e below s _ _ _ (T0.setTop (mkF m 29 #[.val (.int x0), .val (.int x1), .val (.int x2), .val (.int x3), .val (.int x4), .val (.int x5), .val (.int (v0_len x0)), .val (.int (v0_at x0)), .unset, .unset, .unset, .unset, .unset, .unset, .unset] [(.int (x1 &&& (31 : Int32))), (.int (192 : Int32))]))
    refine g_ior X0 hx 30 (hb hby at_29) rfl ?_
    show Go p e below s _ _ _ (T0.setTop (mkF m 30 #[.val (.int x0), .val (.int x1), .val (.int x2), .val (.int x3), .val (.int x4), .val (.int x5), .val (.int (v0_len x0)), .val (.int (v0_at x0)), .unset, .unset, .unset, .unset, .unset, .unset, .unset] [(.int ((192 : Int32) ||| (x1 &&& (31 : Int32))))]))
    refine g_istore X0 hx #[.val (.int x0), .val (.int x1), .val (.int x2), .val (.int x3), .val (.int x4), .val (.int x5), .val (.int (v0_len x0)), .val (.int (v0_at x0)), .val (.int ((192 : Int32) ||| (x1 &&& (31 : Int32)))), .unset, .unset, .unset, .unset, .unset, .unset] 32 (hb hby at_30) rfl rfl ?_
    show Go p e below s _ _ _ (T0.setTop (mkF m 32 #[.val (.int x0), .val (.int x1), .val (.int x2), .val (.int x3), .val (.int x4), .val (.int x5), .val (.int (v0_len x0)), .val (.int (v0_at x0)), .val (.int ((192 : Int32) ||| (x1 &&& (31 : Int32)))), .unset, .unset, .unset, .unset, .unset, .unset] []))
    refine g_goto X0 hx 64 (hb hby at_32) (by decide) rfl ?_
    show Go p e below s _ _ _ (T0.setTop (mkF m 64 #[.val (.int x0), .val (.int x1), .val (.int x2), .val (.int x3), .val (.int x4), .val (.int x5), .val (.int (v0_len x0)), .val (.int (v0_at x0)), .val (.int ((192 : Int32) ||| (x1 &&& (31 : Int32)))), .unset, .unset, .unset, .unset, .unset, .unset] []))
    have q1 := J1
    simp only [z0_64_l8_1, if_pos h24] at q1
    exact q1
  · show Go p e below s _ _ _ (T0.setTop (mkF m 35 #[.val (.int x0), .val (.int x1), .val (.int x2), .val (.int x3), .val (.int x4), .val (.int x5), .val (.int (v0_len x0)), .val (.int (v0_at x0)), .unset, .unset, .unset, .unset, .unset, .unset, .unset] []))
    refine g_iload X0 hx 37 (hb hby at_35) rfl rfl ?_
    show Go p e below s _ _ _ (T0.setTop (mkF m 37 #[.val (.int x0), .val (.int x1), .val (.int x2), .val (.int x3), .val (.int x4), .val (.int x5), .val (.int (v0_len x0)), .val (.int (v0_at x0)), .unset, .unset, .unset, .unset, .unset, .unset, .unset] [(.int (v0_len x0))]))
    refine g_iconst X0 hx (3 : Int32) 38 (hb hby at_37) rfl rfl ?_
    show Go p e below s _ _ _ (T0.setTop (mkF m 38 #[.val (.int x0), .val (.int x1), .val (.int x2), .val (.int x3), .val (.int x4), .val (.int x5), .val (.int (v0_len x0)), .val (.int (v0_at x0)), .unset, .unset, .unset, .unset, .unset, .unset, .unset] [(.int (3 : Int32)), (.int (v0_len x0))]))
    refine g_icmp_ne X0 hx 54 41 (hb hby at_38) (by decide) rfl rfl (fun h25 => ?_) (fun h25 => ?_)
    · show Go p e below s _ _ _ (T0.setTop (mkF m 41 #[.val (.int x0), .val (.int x1), .val (.int x2), .val (.int x3), .val (.int x4), .val (.int x5), .val (.int (v0_len x0)), .val (.int (v0_at x0)), .unset, .unset, .unset, .unset, .unset, .unset, .unset] []))
      refine g_sipush X0 hx (224 : Int32) 44 (hb hby at_41) rfl rfl ?_
      show Go p e below s _ _ _ (T0.setTop (mkF m 44 #[.val (.int x0), .val (.int x1), .val (.int x2), .val (.int x3), .val (.int x4), .val (.int x5), .val (.int (v0_len x0)), .val (.int (v0_at x0)), .unset, .unset, .unset, .unset, .unset, .unset, .unset] [(.int (224 : Int32))]))
      refine g_iloadN X0 hx 45 (hb hby at_44) rfl rfl ?_
      show Go p e below s _ _ _ (T0.setTop (mkF m 45 #[.val (.int x0), .val (.int x1), .val (.int x2), .val (.int x3), .val (.int x4), .val (.int x5), .val (.int (v0_len x0)), .val (.int (v0_at x0)), .unset, .unset, .unset, .unset, .unset, .unset, .unset] [(.int x1), (.int (224 : Int32))]))
      refine g_bipush X0 hx (15 : Int32) 47 (hb hby at_45) rfl rfl ?_
      show Go p e below s _ _ _ (T0.setTop (mkF m 47 #[.val (.int x0), .val (.int x1), .val (.int x2), .val (.int x3), .val (.int x4), .val (.int x5), .val (.int (v0_len x0)), .val (.int (v0_at x0)), .unset, .unset, .unset, .unset, .unset, .unset, .unset] [(.int (15 : Int32)), (.int x1), (.int (224 : Int32))]))
      refine g_iand X0 hx 48 (hb hby at_47) rfl ?_
      show Go p e below s _ _ _ (T0.setTop (mkF m 48 #[.val (.int x0), .val (.int x1), .val (.int x2), .val (.int x3), .val (.int x4), .val (.int x5), .val (.int (v0_len x0)), .val (.int (v0_at x0)), .unset, .unset, .unset, .unset, .unset, .unset, .unset] [(.int (x1 &&& (15 : Int32))), (.int (224 : Int32))]))
      refine g_ior X0 hx 49 (hb hby at_48) rfl ?_
      show Go p e below s _ _ _ (T0.setTop (mkF m 49 #[.val (.int x0), .val (.int x1), .val (.int x2), .val (.int x3), .val (.int x4), .val (.int x5), .val (.int (v0_len x0)), .val (.int (v0_at x0)), .unset, .unset, .unset, .unset, .unset, .unset, .unset] [(.int ((224 : Int32) ||| (x1 &&& (15 : Int32))))]))
      refine g_istore X0 hx #[.val (.int x0), .val (.int x1), .val (.int x2), .val (.int x3), .val (.int x4), .val (.int x5), .val (.int (v0_len x0)), .val (.int (v0_at x0)), .val (.int ((224 : Int32) ||| (x1 &&& (15 : Int32)))), .unset, .unset, .unset, .unset, .unset, .unset] 51 (hb hby at_49) rfl rfl ?_
      show Go p e below s _ _ _ (T0.setTop (mkF m 51 #[.val (.int x0), .val (.int x1), .val (.int x2), .val (.int x3), .val (.int x4), .val (.int x5), .val (.int (v0_len x0)), .val (.int (v0_at x0)), .val (.int ((224 : Int32) ||| (x1 &&& (15 : Int32)))), .unset, .unset, .unset, .unset, .unset, .unset] []))
      refine g_goto X0 hx 64 (hb hby at_51) (by decide) rfl ?_
      show Go p e below s _ _ _ (T0.setTop (mkF m 64 #[.val (.int x0), .val (.int x1), .val (.int x2), .val (.int x3), .val (.int x4), .val (.int x5), .val (.int (v0_len x0)), .val (.int (v0_at x0)), .val (.int ((224 : Int32) ||| (x1 &&& (15 : Int32)))), .unset, .unset, .unset, .unset, .unset, .unset] []))
      have q1 := J1
      simp only [z0_64_l8_1, if_neg h24, if_pos h25] at q1
      exact q1
    · show Go p e below s _ _ _ (T0.setTop (mkF m 54 #[.val (.int x0), .val (.int x1), .val (.int x2), .val (.int x3), .val (.int x4), .val (.int x5), .val (.int (v0_len x0)), .val (.int (v0_at x0)), .unset, .unset, .unset, .unset, .unset, .unset, .unset] []))
      refine g_sipush X0 hx (240 : Int32) 57 (hb hby at_54) rfl rfl ?_
      show Go p e below s _ _ _ (T0.setTop (mkF m 57 #[.val (.int x0), .val (.int x1), .val (.int x2), .val (.int x3), .val (.int x4), .val (.int x5), .val (.int (v0_len x0)), .val (.int (v0_at x0)), .unset, .unset, .unset, .unset, .unset, .unset, .unset] [(.int (240 : Int32))]))
      refine g_iloadN X0 hx 58 (hb hby at_57) rfl rfl ?_
      show Go p e below s _ _ _ (T0.setTop (mkF m 58 #[.val (.int x0), .val (.int x1), .val (.int x2), .val (.int x3), .val (.int x4), .val (.int x5), .val (.int (v0_len x0)), .val (.int (v0_at x0)), .unset, .unset, .unset, .unset, .unset, .unset, .unset] [(.int x1), (.int (240 : Int32))]))
      refine g_bipush X0 hx (7 : Int32) 60 (hb hby at_58) rfl rfl ?_
      show Go p e below s _ _ _ (T0.setTop (mkF m 60 #[.val (.int x0), .val (.int x1), .val (.int x2), .val (.int x3), .val (.int x4), .val (.int x5), .val (.int (v0_len x0)), .val (.int (v0_at x0)), .unset, .unset, .unset, .unset, .unset, .unset, .unset] [(.int (7 : Int32)), (.int x1), (.int (240 : Int32))]))
      refine g_iand X0 hx 61 (hb hby at_60) rfl ?_
      show Go p e below s _ _ _ (T0.setTop (mkF m 61 #[.val (.int x0), .val (.int x1), .val (.int x2), .val (.int x3), .val (.int x4), .val (.int x5), .val (.int (v0_len x0)), .val (.int (v0_at x0)), .unset, .unset, .unset, .unset, .unset, .unset, .unset] [(.int (x1 &&& (7 : Int32))), (.int (240 : Int32))]))
      refine g_ior X0 hx 62 (hb hby at_61) rfl ?_
      show Go p e below s _ _ _ (T0.setTop (mkF m 62 #[.val (.int x0), .val (.int x1), .val (.int x2), .val (.int x3), .val (.int x4), .val (.int x5), .val (.int (v0_len x0)), .val (.int (v0_at x0)), .unset, .unset, .unset, .unset, .unset, .unset, .unset] [(.int ((240 : Int32) ||| (x1 &&& (7 : Int32))))]))
      refine g_istore X0 hx #[.val (.int x0), .val (.int x1), .val (.int x2), .val (.int x3), .val (.int x4), .val (.int x5), .val (.int (v0_len x0)), .val (.int (v0_at x0)), .val (.int ((240 : Int32) ||| (x1 &&& (7 : Int32)))), .unset, .unset, .unset, .unset, .unset, .unset] 64 (hb hby at_62) rfl rfl ?_
      show Go p e below s _ _ _ (T0.setTop (mkF m 64 #[.val (.int x0), .val (.int x1), .val (.int x2), .val (.int x3), .val (.int x4), .val (.int x5), .val (.int (v0_len x0)), .val (.int (v0_at x0)), .val (.int ((240 : Int32) ||| (x1 &&& (7 : Int32)))), .unset, .unset, .unset, .unset, .unset, .unset] []))
      have q1 := J1
      simp only [z0_64_l8_1, if_neg h24, if_neg h25] at q1
      exact q1
set_option maxRecDepth 65536 in
set_option maxHeartbeats 40000000 in
theorem comes_1 {Post : Tables → Env → Array Value → State → Outcome → State → Prop} (hpost : ∀ tb e args s v u, (limb_1_1.after args s (.returned v) u = true ∧ limb_1_2.after args s (.returned v) u = true ∧ True) → FrameEnd s (.returned v) u (Jvm.fieldLocs frame_1_writes args s ++ Jvm.arrayLocs frame_1_arrays args s ++ Jvm.staticLocs frame_1_statics s) 16 128 → Post tb e args s (.returned v) u) :
    ArmFor flags0 classFile x code maxLocals ret World_1 tables_1 room_1 Calls_1 rest_1 Pre_1 Post := by
  intro l hfl _ _ p e ha hc hk s m args below hf hA hF happ hP
  obtain ⟨hcalls, hrest, hpre⟩ := hP
  obtain ⟨-, -, -, hnamed, -, -, -, hat⟩ := (Spec.applies_iff hf).mp happ
  obtain ⟨hg, hn⟩ := and_e (Cond.before_iff.mp (show (Jvm.Cond.and given_1 narrow_1).before args s = true from hpre))
  obtain ⟨g1, g2⟩ := and_e hg
  obtain ⟨g3, g4⟩ := and_e g2
  obtain ⟨g5, g6⟩ := and_e g4
  obtain ⟨g7, g8⟩ := and_e g6
  obtain ⟨g9, g10⟩ := and_e g8
  obtain ⟨g11, g12⟩ := and_e g10
  obtain ⟨w0, w1, w2, w3, w4, w5, rfl⟩ : ∃ w0 w1 w2 w3 w4 w5 : Value, args = #[w0, w1, w2, w3, w4, w5] := by
    have hs : args.size = 6 := by simpa [Cond.value, given_1] using g1
    obtain ⟨L⟩ := args
    match L, hs with
    | [w0, w1, w2, w3, w4, w5], _ => exact ⟨w0, w1, w2, w3, w4, w5, rfl⟩
  have hw := fun d (hd : d ∈ tables_1) => atoms_spec (ws := Jvm.Cond.code x code maxLocals ret :: tables_1) hat d (List.mem_cons_of_mem _ hd)
  obtain ⟨i0, ei0⟩ := is_v g3
  obtain rfl : w0 = (.int i0) := Option.some.inj ei0
  obtain ⟨i1, ei1⟩ := is_v g5
  obtain rfl : w1 = (.int i1) := Option.some.inj ei1
  obtain ⟨i2, ei2⟩ := is_v g7
  obtain rfl : w2 = (.int i2) := Option.some.inj ei2
  obtain ⟨i3, ei3⟩ := is_v g9
  obtain rfl : w3 = (.int i3) := Option.some.inj ei3
  obtain ⟨i4, ei4⟩ := is_v g11
  obtain rfl : w4 = (.int i4) := Option.some.inj ei4
  obtain ⟨i5, ei5⟩ := is_v g12
  obtain rfl : w5 = (.int i5) := Option.some.inj ei5
  obtain ⟨n, o, h1, h2, h3, _, L, rfl, ⟨rfl, N⟩, hq⟩ := rm0 l s _ hw tables_1 i0 i1 i2 i3 i4 i5 s.heap s.heap.size (Nat.le_refl _) p e ha hc hk s m _ below hf ((Spec.applies_iff_loose hf).mp happ).1 ⟨rfl, State.Warmed39.refl s, rfl⟩ trivial
  refine ⟨n, _, h1, h2, h3, hpost _ _ _ _ _ _ ⟨Cond.after_iff.mpr rfl, Cond.after_iff.mpr (eq_i res_at (Term.int_eval (1)) rfl), trivial⟩ ⟨hq.1, hq.2.1, (hq.2.2.sift fun y hy => Or.inr (N y hy)).mono (by decide) (by decide)⟩⟩
theorem main_1_1 : Claimed_1_1 := comes_1 fun _ _ _ _ _ _ h hF => ⟨h.1, hF⟩
theorem main_1_2 : Claimed_1_2 := comes_1 fun _ _ _ _ _ _ h hF => ⟨h.2.1, hF⟩
end Jvm.Pilot.@@N@@
namespace Jvm.Pilot.@@N@@
open Jvm Jvm.ClassFile Sem Op Lib Jvm.Free Jvm.Stand Jvm.Pilot.@@N@@.Jvm.D
/-! MADE BY PROGRAM (witnessworld.py) out of the Statement's table words and the real class files: 9 classes; the members and pool entries that the words name. The judged class is class 1, her method 1. -/
namespace start1
open Jvm.ClassFile
def u (s : String) : CpInfo := .utf8 (stringToUtf16 s)
/-- a pool by its gaps: so many unusable entries, then the entry; so many at the end -/
def gap : Nat → List CpInfo → List CpInfo
  | 0, r => r
  | n + 1, r => .unusable :: gap n r
def poolList (es : List (Nat × CpInfo)) (last : Nat) : List CpInfo := es.foldr (fun e r => gap e.1 (e.2 :: r)) (gap last [])
def pool (es : List (Nat × CpInfo)) (last : Nat) : Array CpInfo := ⟨poolList es last⟩
def fileOf (pool : Array CpInfo) (this : Nat) (attrs : Array Attribute := #[]) (ms : Array MethodInfo := #[]) (fl : Nat := 33) (sup : Nat := 0) (ifs : Array Nat := #[]) (fds : Array FieldInfo := #[]) : ClassFile where
  minorVersion := 0
  majorVersion := 65
  constantPool := pool
  accessFlags := fl
  thisClass := this
  superClass := sup
  interfaces := ifs
  fields := fds
  methods := ms
  attributes := attrs
def plain (name : String) (sup : Option ClassId) : Class where
  name := name
  kind := .ordinary
  loader := none
  accessFlags := 33
  super := sup
  interfaces := #[]
  cf := none
  fields := #[]
  methods := #[]
  instanceTypes := #[]
  staticTypes := #[]
  resolved := #[]
  callSites := []
  init := .initialized
  statics := none
  mirror := none

def pool0 : Array CpInfo := pool [(5, u "<init>"), (0, u "()V"), (1, .class_ 10), (1, u "java/lang/Object")] 113

def k0m0 : Method := { name := "<init>", desc := "()V", sig := { parameters := [], returnType := none }, accessFlags := 1, code := none }
/-- java/lang/Object -/
def k0 : Class := { plain "java/lang/Object" none with
  accessFlags := 33
  interfaces := #[]
  cf := some (fileOf pool0 8 #[] #[{ accessFlags := 1, nameIndex := 5, descriptorIndex := 6, attributes := #[] }] 33 0 #[] #[])
  fields := #[]
  methods := #[k0m0]
  instanceTypes := #[]
  staticTypes := #[]
  resolved := Array.replicate 124 none
  statics := none }

def pool1 : Array CpInfo := pool [(2, .class_ 4), (1, u "java/lang/Object"), (0, u "<init>"), (0, u "()V"), (0, .methodref 8 9), (0, .class_ 10), (0, .nameAndType 11 12), (0, u "com/example/strict_xmlns/strictxmlns/Utf8DecodeSequencePinLaw"), (0, u "reference"), (0, u "(IIIII)I"), (0, .methodref 14 15), (0, .class_ 16), (0, .nameAndType 17 18), (0, u "com/example/strict_xmlns/strictxmlns/Utf8"), (0, u "decodeSequence"), (0, u "([BII)I"), (0, .methodref 8 20), (0, .nameAndType 21 22), (0, u "cont"), (0, u "(I)Z"), (0, .integer 262144), (2, u "law"), (0, u "(IIIIII)Z")] 5

def k1m0 : Method := { name := "<init>", desc := "()V", sig := { parameters := [], returnType := none }, accessFlags := 2, code := none }
def k1c1 : Code := { maxStack := 5, maxLocals := 15, code := code, exceptionTable := #[], attributes := #[] }
def k1m1 : Method := { name := "law", desc := "(IIIIII)Z", sig := { parameters := [.int, .int, .int, .int, .int, .int], returnType := some .boolean }, accessFlags := 9, code := some k1c1 }
def k1c2 : Code := { maxStack := 2, maxLocals := 1, code := method_3_code, exceptionTable := #[], attributes := #[] }
def k1m2 : Method := { name := "cont", desc := "(I)Z", sig := { parameters := [.int], returnType := some .boolean }, accessFlags := 10, code := some k1c2 }
def k1c3 : Code := { maxStack := 3, maxLocals := 6, code := method_4_code, exceptionTable := #[], attributes := #[] }
def k1m3 : Method := { name := "reference", desc := "(IIIII)I", sig := { parameters := [.int, .int, .int, .int, .int], returnType := some .int }, accessFlags := 10, code := some k1c3 }
/-- com/example/strict_xmlns/strictxmlns/Utf8DecodeSequencePinLaw -/
def k1 : Class := { plain "com/example/strict_xmlns/strictxmlns/Utf8DecodeSequencePinLaw" (some 0) with
  accessFlags := 49
  interfaces := #[]
  cf := some (fileOf pool1 8 #[] #[{ accessFlags := 2, nameIndex := 5, descriptorIndex := 6, attributes := #[] }, { accessFlags := 9, nameIndex := 26, descriptorIndex := 27, attributes := #[] }, { accessFlags := 10, nameIndex := 21, descriptorIndex := 22, attributes := #[] }, { accessFlags := 10, nameIndex := 11, descriptorIndex := 12, attributes := #[] }] 49 2 #[] #[])
  fields := #[]
  methods := #[k1m0, k1m1, k1m2, k1m3]
  instanceTypes := #[]
  staticTypes := #[]
  resolved := Array.replicate 33 none
  statics := none }

def pool2 : Array CpInfo := pool [(2, .class_ 4), (1, u "java/lang/Object"), (0, u "<init>"), (0, u "()V"), (0, .class_ 8), (0, u "com/example/strict_xmlns/strictxmlns/Utf8"), (0, .integer 65536), (11, u "decodeSequence"), (0, u "([BII)I"), (19, u "LONGEST_SEQUENCE"), (0, u "I"), (2, u "UNDECODABLE"), (1, u "CODE_POINT_BITS")] 15

def k2m0 : Method := { name := "<init>", desc := "()V", sig := { parameters := [], returnType := none }, accessFlags := 2, code := none }
def k2c1 : Code := { maxStack := 3, maxLocals := 6, code := prog_41_method_3_code, exceptionTable := #[], attributes := #[] }
def k2m1 : Method := { name := "decodeSequence", desc := "([BII)I", sig := { parameters := [(.array .byte), .int, .int], returnType := some .int }, accessFlags := 8, code := some k2c1 }
/-- com/example/strict_xmlns/strictxmlns/Utf8 -/
def k2 : Class := { plain "com/example/strict_xmlns/strictxmlns/Utf8" (some 0) with
  accessFlags := 48
  interfaces := #[]
  cf := some (fileOf pool2 7 #[] #[{ accessFlags := 2, nameIndex := 5, descriptorIndex := 6, attributes := #[] }, { accessFlags := 8, nameIndex := 21, descriptorIndex := 22, attributes := #[] }] 48 2 #[] #[{ accessFlags := 24, nameIndex := 42, descriptorIndex := 43, attributes := #[] }, { accessFlags := 24, nameIndex := 46, descriptorIndex := 43, attributes := #[] }, { accessFlags := 26, nameIndex := 48, descriptorIndex := 43, attributes := #[] }])
  fields := #[{ name := "LONGEST_SEQUENCE", type := .int, accessFlags := 24, slot := 0, constantValue := 0 }, { name := "UNDECODABLE", type := .int, accessFlags := 24, slot := 1, constantValue := 0 }, { name := "CODE_POINT_BITS", type := .int, accessFlags := 26, slot := 2, constantValue := 0 }]
  methods := #[k2m0, k2m1]
  instanceTypes := #[]
  staticTypes := #[.int, .int, .int]
  resolved := Array.replicate 64 none
  statics := none }

def pool3 : Array CpInfo := pool [(1, u "java/lang/Cloneable"), (0, .class_ 1), (0, u "java/lang/Object"), (0, .class_ 3)] 3

/-- java/lang/Cloneable -/
def k3 : Class := { plain "java/lang/Cloneable" (some 0) with
  accessFlags := 1537
  interfaces := #[]
  cf := some (fileOf pool3 2 #[] #[] 1537 4 #[] #[])
  fields := #[]
  methods := #[]
  instanceTypes := #[]
  staticTypes := #[]
  resolved := Array.replicate 8 none
  statics := none }

def pool4 : Array CpInfo := pool [(1, u "java/io/Serializable"), (0, .class_ 1), (0, u "java/lang/Object"), (0, .class_ 3)] 3

/-- java/io/Serializable -/
def k4 : Class := { plain "java/io/Serializable" (some 0) with
  accessFlags := 1537
  interfaces := #[]
  cf := some (fileOf pool4 2 #[] #[] 1537 4 #[] #[])
  fields := #[]
  methods := #[]
  instanceTypes := #[]
  staticTypes := #[]
  resolved := Array.replicate 8 none
  statics := none }

/-- the primitive byte -/
def k5 : Class := { plain "byte" none with kind := .primitive 'B', accessFlags := 0x411 }
/-- [B -/
def k6 : Class := { plain "[B" (some 0) with kind := .array 5 .byte, interfaces := #[3, 4], accessFlags := 1041 }

/-- the primitive int -/
def k7 : Class := { plain "int" none with kind := .primitive 'I', accessFlags := 0x411 }
/-- [I -/
def k8 : Class := { plain "[I" (some 0) with kind := .array 7 .int, interfaces := #[3, 4], accessFlags := 1041 }

def heap : Heap := #[]
def classes : Array Class := #[k0, k1, k2, k3, k4, k5, k6, k7, k8]
def interned : List (Array UInt16 × Addr) := []
def slotsUsed : Nat := 0
def theMethod : MethodId := ⟨1, 1⟩
def args0 : Array Value := #[.int 5, .int 6, .int 7, .int 8, .int 9, .int 10]
def aboutOver (below : List Frame) : State where
  vm := { classes := classes, interned := interned.toArray }
  heap := heap
  slotsUsed := slotsUsed
  threads := #[{ frames := .invoking theMethod args0 :: below }]
def below0 : List Frame := [.native { method := ⟨0, 0⟩, args := #[] }]
def about1 : State := aboutOver below0
def p0 : Program := .bare "" "" ""
def e0 : Env := launch0.env 0 0 0
theorem w_frames : about1.frames = Frame.invoking theMethod args0 :: below0 := rfl
set_option maxRecDepth 65536 in
theorem w_args : argsFit about1.vm theMethod args0 = true := by decide +kernel
set_option maxRecDepth 65536 in
theorem w_heap : heapFits about1 = true := by decide +kernel
set_option maxRecDepth 65536 in
theorem w_runnable : about1.curStatus? = some .runnable := by decide +kernel
set_option maxRecDepth 65536 in
theorem w_alone : about1.alone = true := by decide +kernel
set_option maxRecDepth 65536 in
theorem w_named : about1.methodNamed? x = some theMethod := by decide +kernel
set_option maxRecDepth 65536 in
theorem w_hears : about1.hears theMethod below0 = true := by decide +kernel
set_option maxRecDepth 65536 in
theorem w_ripe : about1.ripe theMethod args0 below0 = true := by decide +kernel
theorem w_running : about1.status = .running := rfl
set_option maxRecDepth 65536 in
theorem w_room : about1.hasRoom e0.platform room_1 = true :=
  launch0.hasRoom_least _ room_1 (by decide +kernel) (by decide +kernel) (by decide +kernel) (by decide +kernel) (by decide +kernel) (by decide +kernel)
theorem allAtoms_all (ts : List Jvm.Cond) (a : Array Jvm.Value) (st : Jvm.State) : (allAtoms ts).before a st = ts.all (fun c => c.before a st) := by
  induction ts with
  | nil => rfl
  | cons c t ih =>
    show (Jvm.Cond.and c (allAtoms t)).before a st = _
    rw [Jvm.Cond.before_and, ih, List.all_cons]
def words1 : List Jvm.Cond := Jvm.Cond.code x code maxLocals ret :: tables_1
/-- a 'code' word, met by the world's own term for the bytes: nothing is compared byte by byte -/
theorem code_word {y : MethodName} {bytes : ByteArray} {mx : Nat} {rt : Option FieldType} {a : Array Value} {s : State} {m : MethodId} {meth : Method} {c : Code} (h1 : s.methodNamed? y = some m) (h2 : s.vm.method? m = some meth) (h3 : meth.code = some c) (h4 : c.code = bytes)
    (h5 : (c.maxLocals == mx && c.exceptionTable.isEmpty && decide (c.maxStack ≤ mostOperands) && decide (meth.sig.returnType = rt) && !meth.locks && decide (parseMethodDescriptor y.desc = some meth.sig)) = true) : (Jvm.Cond.code y bytes mx rt).before a s = true := by
  simp only [Bool.and_eq_true, beq_iff_eq, Bool.not_eq_true', decide_eq_true_eq] at h5
  obtain ⟨⟨⟨⟨⟨g1, g2⟩, g3⟩, g4⟩, g5⟩, g6⟩ := h5
  simp [Cond.before, Cond.holds, Cond.value, h1, h2, h3, h4, g1, g2, g3, g4, g5, g6]
def isCode : Jvm.Cond → Bool
  | .code _ _ _ _ => true
  | _ => false
theorem all_split {L : List Jvm.Cond} {P : Jvm.Cond → Bool} (h1 : L.all (fun c => isCode c || P c) = true) (h2 : ∀ c ∈ L.filter isCode, P c = true) : L.all P = true := by
  refine List.all_eq_true.mpr fun c hc => ?_
  have h := List.all_eq_true.mp h1 c hc
  rcases Bool.eq_false_or_eq_true (isCode c) with hi | hi
  · exact h2 c (List.mem_filter.mpr ⟨hc, hi⟩)
  · simpa [hi] using h
set_option maxRecDepth 65536 in
theorem w_c0 : (Jvm.Cond.code x code maxLocals ret).before args0 about1 = true := code_word (m := ⟨1, 1⟩) (meth := k1m1) (c := k1c1) (by decide +kernel) rfl rfl rfl (by decide +kernel)
set_option maxRecDepth 65536 in
theorem w_c1 : (Jvm.Cond.code ({ cls := "com/example/strict_xmlns/strictxmlns/Utf8DecodeSequencePinLaw", name := "reference", desc := "(IIIII)I" } : Jvm.MethodName) method_4_code (6 : Nat) (Option.some Jvm.ClassFile.FieldType.int)).before args0 about1 = true := code_word (m := ⟨1, 3⟩) (meth := k1m3) (c := k1c3) (by decide +kernel) rfl rfl rfl (by decide +kernel)
set_option maxRecDepth 65536 in
theorem w_c2 : (Jvm.Cond.code ({ cls := "com/example/strict_xmlns/strictxmlns/Utf8DecodeSequencePinLaw", name := "cont", desc := "(I)Z" } : Jvm.MethodName) method_3_code (1 : Nat) (Option.some Jvm.ClassFile.FieldType.boolean)).before args0 about1 = true := code_word (m := ⟨1, 2⟩) (meth := k1m2) (c := k1c2) (by decide +kernel) rfl rfl rfl (by decide +kernel)
set_option maxRecDepth 65536 in
theorem w_c3 : (Jvm.Cond.code ({ cls := "com/example/strict_xmlns/strictxmlns/Utf8", name := "decodeSequence", desc := "([BII)I" } : Jvm.MethodName) prog_41_method_3_code (6 : Nat) (Option.some Jvm.ClassFile.FieldType.int)).before args0 about1 = true := code_word (m := ⟨2, 1⟩) (meth := k2m1) (c := k2c1) (by decide +kernel) rfl rfl rfl (by decide +kernel)
def codes1 : List Jvm.Cond := [Jvm.Cond.code x code maxLocals ret, Jvm.Cond.code ({ cls := "com/example/strict_xmlns/strictxmlns/Utf8DecodeSequencePinLaw", name := "reference", desc := "(IIIII)I" } : Jvm.MethodName) method_4_code (6 : Nat) (Option.some Jvm.ClassFile.FieldType.int), Jvm.Cond.code ({ cls := "com/example/strict_xmlns/strictxmlns/Utf8DecodeSequencePinLaw", name := "cont", desc := "(I)Z" } : Jvm.MethodName) method_3_code (1 : Nat) (Option.some Jvm.ClassFile.FieldType.boolean), Jvm.Cond.code ({ cls := "com/example/strict_xmlns/strictxmlns/Utf8", name := "decodeSequence", desc := "([BII)I" } : Jvm.MethodName) prog_41_method_3_code (6 : Nat) (Option.some Jvm.ClassFile.FieldType.int)]
set_option maxRecDepth 65536 in
theorem codes_eq : words1.filter isCode = codes1 := rfl
theorem w_codes : ∀ c ∈ words1.filter isCode, c.before args0 about1 = true := by
  rw [codes_eq]
  intro c hc
  simp only [codes1, List.mem_cons, List.not_mem_nil, or_false] at hc
  rcases hc with rfl | rfl | rfl | rfl
  · exact w_c0
  · exact w_c1
  · exact w_c2
  · exact w_c3
set_option maxRecDepth 65536 in
theorem w_t1 : words1.all (fun c => isCode c || c.before args0 about1) = true := by decide +kernel
theorem w_tables : (allAtoms (Jvm.Cond.code x code maxLocals ret :: tables_1)).before args0 about1 = true := by
  rw [allAtoms_all]
  show words1.all (fun c => c.before args0 about1) = true
  refine all_split ?_ w_codes
  rw [w_t1]
set_option maxRecDepth 65536 in
theorem w_case : (Jvm.Cond.and given_1 narrow_1).before args0 about1 = true := by decide +kernel
theorem w_applies : (headSpec (Jvm.Cond.code x code maxLocals ret :: tables_1) room_1).applies x e0.platform about1 = true :=
  (Spec.applies_iff w_frames).mpr ⟨w_running, w_runnable, w_alone, w_named, w_hears, w_ripe, w_room, w_tables⟩
theorem atStart : AtStart classFile x code maxLocals ret World_1 tables_1 room_1 Calls_1 rest_1 Pre_1 launch0 p0 e0 about1 theMethod args0 below0 :=
  ⟨lists_1, trivial, launch0.admits_env _ _ _, launch0.least_env, fairChoices_fair.cas, fairChoices_fair.clock, w_frames, w_args, w_heap, w_applies, trivial, trivial, w_case⟩
end start1
theorem witness_1 : WitnessClaimed_1 := ⟨start1.p0, start1.e0, start1.about1, start1.theMethod, start1.args0, start1.below0, start1.atStart⟩
end Jvm.Pilot.@@N@@
