import JvmDerived
import JvmDerived.Pilot.@@N@@Statement
import JvmDerived.Pilot.@@N@@Code
set_option linter.unusedVariables false
set_option linter.unusedSimpArgs false
namespace Jvm.RoadKit
open Sem ClassFile Op Lib Jvm.Stand Jvm.Free Jvm.LawKit
section New
variable {p : Program} {l : Launch} {e : Env} {R : Room} {s : State} {m : MethodId} {args : Array Value} {below : List Frame} {meth : Method} {c : Code} {T : State} {locs : List Loc} {cells slots : Nat}
theorem retI (X : Stand p l e R s m args below meth c T locs cells slots) (hx : p.tables.exec = Jvm.exec) {pc : Nat} {Ls : Array Slot} {z : Int32} {rest : List Value} (hret : meth.sig.returnType = some .int) (hd : decode c.code pc = .ok (.ireturn, 1)) {fs : List Frame}
    (hl : ∀ (f : JFrame) (acts : List Action), f.method = m → f.locked = none → f.entered = [] → (doReturn e (T.setTop f) acts (some (.int z))).1 = T.setFrames fs) : Steps p.tables e below (T.setTop (mkF m pc Ls (.int z :: rest))) (T.setFrames fs) := by
  have hm' : T.vm.method? m = some meth := X.method'
  have hn : narrow .int (.int z) = .int z := rfl
  show Steps p.tables e below (T.setTop { method := m, pc := pc, locals := Ls, stack := _ :: rest, locked := none }) _
  jvm_step X.here [X.here.top, hx, hd, hm', hret, hn]
  first | (intro acts; rw [hl _ acts rfl rfl rfl]) | rw [hl _ _ rfl rfl rfl]
  exact Steps.refl _
end New
end Jvm.RoadKit
namespace Jvm.Pilot.@@N@@
open Jvm Jvm.ClassFile Sem Op Lib Jvm.Free Jvm.Stand Jvm.LawKit Jvm.RoadKit Bundle Jvm.Pilot.@@N@@.Jvm.D
section OwnKit
variable {p : Program} {l : Launch} {e : Env} {R : Room} {s : State} {m : MethodId} {args : Array Value} {below : List Frame} {meth : Method} {c : Code} {T : State} {locs : List Loc} {cells slots : Nat} {Z : State} {a0 : Array Value} {h : Heap}
variable {Q : Option Value → Heap → List Loc → Prop} {rc rs pc : Nat} {Ls : Array Slot} {st : List Value}
def Go (p : Program) (e : Env) (below : List Frame) (s : State) (Q : Option Value → Heap → List Loc → Prop) (rc rs : Nat) (F : State) : Prop :=
  ∃ s₂ o, Steps p.tables e below F s₂ ∧ s₂.status = .running ∧ Ended s₂ below o ∧ ∃ v L, o = .returned v ∧ Q v s₂.heap L ∧ FrameEnd s o s₂ L rc rs
theorem Go.by {F F' : State} (g : Go p e below s Q rc rs F') (h : ∀ t, Steps p.tables e below F' t → Steps p.tables e below F t) : Go p e below s Q rc rs F := by
  obtain ⟨s2, o, h1, r⟩ := g
  exact ⟨s2, o, h _ h1, r⟩
def shlI (x y : Int32) : Int32 := x <<< (y &&& 31)
def shrI (x y : Int32) : Int32 := x >>> (y &&& 31)
def ushrI (x y : Int32) : Int32 := (x.toUInt32 >>> (y &&& 31).toUInt32).toInt32
def shlJ (x : Int64) (y : Int32) : Int64 := x <<< (y &&& 0x3f).toInt64
def shrJ (x : Int64) (y : Int32) : Int64 := x >>> (y &&& 0x3f).toInt64
def ushrJ (x : Int64) (y : Int32) : Int64 := (x.toUInt64 >>> (y &&& 0x3f).toInt64.toUInt64).toInt64
def i2bI (x : Int32) : Int32 := x.toInt8.toInt32
def i2cI (x : Int32) : Int32 := x.toUInt32.toUInt16.toUInt32.toInt32
def i2sI (x : Int32) : Int32 := x.toInt16.toInt32
theorem g_iload (X : Stand p l e R s m args below meth c T locs cells slots) (hx : p.tables.exec = Jvm.exec) {k : Nat} {v : Int32} (pc' : Nat) (hd : decode c.code pc = .ok (.iload k, 2)) (hl : Ls[k]? = some (.val (.int v))) (hp : pc + 2 = pc') (g : Go p e below s Q rc rs (T.setTop (mkF m pc' Ls (.int v :: st)))) : Go p e below s Q rc rs (T.setTop (mkF m pc Ls st)) := by
  subst hp; exact g.by fun t k => XS.iload X.here hx rfl hd hl k
theorem g_iloadN (X : Stand p l e R s m args below meth c T locs cells slots) (hx : p.tables.exec = Jvm.exec) {k : Fin 4} {v : Int32} (pc' : Nat) (hd : decode c.code pc = .ok (.iload_n k, 1)) (hl : Ls[k.val]? = some (.val (.int v))) (hp : pc + 1 = pc') (g : Go p e below s Q rc rs (T.setTop (mkF m pc' Ls (.int v :: st)))) : Go p e below s Q rc rs (T.setTop (mkF m pc Ls st)) := by
  subst hp; exact g.by fun t k => XS.iloadN X.here hx rfl hd hl k
theorem g_istore (X : Stand p l e R s m args below meth c T locs cells slots) (hx : p.tables.exec = Jvm.exec) {k : Nat} {v : Int32} (l' : Array Slot) (pc' : Nat) (hd : decode c.code pc = .ok (.istore k, 2)) (hl : storeLocals Ls k (.int v) = some l') (hp : pc + 2 = pc') (g : Go p e below s Q rc rs (T.setTop (mkF m pc' l' st))) : Go p e below s Q rc rs (T.setTop (mkF m pc Ls (.int v :: st))) := by
  subst hp; exact g.by fun t k => XS.istore X.here hx rfl hd rfl hl k
theorem g_istoreN (X : Stand p l e R s m args below meth c T locs cells slots) (hx : p.tables.exec = Jvm.exec) {k : Fin 4} {v : Int32} (l' : Array Slot) (pc' : Nat) (hd : decode c.code pc = .ok (.istore_n k, 1)) (hl : storeLocals Ls k.val (.int v) = some l') (hp : pc + 1 = pc') (g : Go p e below s Q rc rs (T.setTop (mkF m pc' l' st))) : Go p e below s Q rc rs (T.setTop (mkF m pc Ls (.int v :: st))) := by
  subst hp; exact g.by fun t k => XS.istoreN X.here hx rfl hd rfl hl k
theorem g_lload (X : Stand p l e R s m args below meth c T locs cells slots) (hx : p.tables.exec = Jvm.exec) {k : Nat} {v : Int64} (pc' : Nat) (hd : decode c.code pc = .ok (.lload k, 2)) (hl : Ls[k]? = some (.val (.long v))) (hp : pc + 2 = pc') (g : Go p e below s Q rc rs (T.setTop (mkF m pc' Ls (.long v :: st)))) : Go p e below s Q rc rs (T.setTop (mkF m pc Ls st)) := by
  subst hp; exact g.by fun t k => XS.lload X.here hx rfl hd hl k
theorem g_lloadN (X : Stand p l e R s m args below meth c T locs cells slots) (hx : p.tables.exec = Jvm.exec) {k : Fin 4} {v : Int64} (pc' : Nat) (hd : decode c.code pc = .ok (.lload_n k, 1)) (hl : Ls[k.val]? = some (.val (.long v))) (hp : pc + 1 = pc') (g : Go p e below s Q rc rs (T.setTop (mkF m pc' Ls (.long v :: st)))) : Go p e below s Q rc rs (T.setTop (mkF m pc Ls st)) := by
  subst hp; exact g.by fun t k => XS.lloadN X.here hx rfl hd hl k
theorem g_lstore (X : Stand p l e R s m args below meth c T locs cells slots) (hx : p.tables.exec = Jvm.exec) {k : Nat} {v : Int64} (l' : Array Slot) (pc' : Nat) (hd : decode c.code pc = .ok (.lstore k, 2)) (hl : storeLocals Ls k (.long v) = some l') (hp : pc + 2 = pc') (g : Go p e below s Q rc rs (T.setTop (mkF m pc' l' st))) : Go p e below s Q rc rs (T.setTop (mkF m pc Ls (.long v :: st))) := by
  subst hp; exact g.by fun t k => XS.lstore X.here hx rfl hd rfl hl k
theorem g_lstoreN (X : Stand p l e R s m args below meth c T locs cells slots) (hx : p.tables.exec = Jvm.exec) {k : Fin 4} {v : Int64} (l' : Array Slot) (pc' : Nat) (hd : decode c.code pc = .ok (.lstore_n k, 1)) (hl : storeLocals Ls k.val (.long v) = some l') (hp : pc + 1 = pc') (g : Go p e below s Q rc rs (T.setTop (mkF m pc' l' st))) : Go p e below s Q rc rs (T.setTop (mkF m pc Ls (.long v :: st))) := by
  subst hp; exact g.by fun t k => XS.lstoreN X.here hx rfl hd rfl hl k
theorem g_aload (X : Stand p l e R s m args below meth c T locs cells slots) (hx : p.tables.exec = Jvm.exec) {k : Nat} {v : Value} (pc' : Nat) (hd : decode c.code pc = .ok (.aload k, 2)) (hl : Ls[k]? = some (.val v)) (hv : v.isRef = true) (hp : pc + 2 = pc') (g : Go p e below s Q rc rs (T.setTop (mkF m pc' Ls (v :: st)))) : Go p e below s Q rc rs (T.setTop (mkF m pc Ls st)) := by
  subst hp; exact g.by fun t k => XS.aload X.here hx rfl hd hl hv k
theorem g_aloadN (X : Stand p l e R s m args below meth c T locs cells slots) (hx : p.tables.exec = Jvm.exec) {k : Fin 4} {v : Value} (pc' : Nat) (hd : decode c.code pc = .ok (.aload_n k, 1)) (hl : Ls[k.val]? = some (.val v)) (hv : v.isRef = true) (hp : pc + 1 = pc') (g : Go p e below s Q rc rs (T.setTop (mkF m pc' Ls (v :: st)))) : Go p e below s Q rc rs (T.setTop (mkF m pc Ls st)) := by
  subst hp; exact g.by fun t k => XS.aloadN X.here hx rfl hd hl hv k
theorem g_astore (X : Stand p l e R s m args below meth c T locs cells slots) (hx : p.tables.exec = Jvm.exec) {k : Nat} {v : Value} (l' : Array Slot) (pc' : Nat) (hd : decode c.code pc = .ok (.astore k, 2)) (hl : storeLocals Ls k v = some l') (hv : v.isRef = true) (hp : pc + 2 = pc') (g : Go p e below s Q rc rs (T.setTop (mkF m pc' l' st))) : Go p e below s Q rc rs (T.setTop (mkF m pc Ls (v :: st))) := by
  subst hp; exact g.by fun t k => XS.astore X.here hx rfl hd rfl hv hl k
theorem g_astoreN (X : Stand p l e R s m args below meth c T locs cells slots) (hx : p.tables.exec = Jvm.exec) {k : Fin 4} {v : Value} (l' : Array Slot) (pc' : Nat) (hd : decode c.code pc = .ok (.astore_n k, 1)) (hl : storeLocals Ls k.val v = some l') (hv : v.isRef = true) (hp : pc + 1 = pc') (g : Go p e below s Q rc rs (T.setTop (mkF m pc' l' st))) : Go p e below s Q rc rs (T.setTop (mkF m pc Ls (v :: st))) := by
  subst hp; exact g.by fun t k => XS.astoreN X.here hx rfl hd rfl hv hl k
theorem g_istoreS (X : Stand p l e R s m args below meth c T locs cells slots) (hx : p.tables.exec = Jvm.exec) {k : Nat} {v : Int32} {os : Slot} (l' : Array Slot) (pc' : Nat) (hd : decode c.code pc = .ok (.istore k, 2)) (hold : Ls[k]? = some os) (ho : One os) (hl : Ls.setIfInBounds k (.val (.int v)) = l') (hp : pc + 2 = pc') (g : Go p e below s Q rc rs (T.setTop (mkF m pc' l' st))) : Go p e below s Q rc rs (T.setTop (mkF m pc Ls ((.int v) :: st))) := by
  subst hp; exact g.by fun t k => XS.istore X.here hx rfl hd rfl (hl ▸ XS.store1 hold ho rfl) k
theorem g_istoreNS (X : Stand p l e R s m args below meth c T locs cells slots) (hx : p.tables.exec = Jvm.exec) {k : Fin 4} {v : Int32} {os : Slot} (l' : Array Slot) (pc' : Nat) (hd : decode c.code pc = .ok (.istore_n k, 1)) (hold : Ls[k.val]? = some os) (ho : One os) (hl : Ls.setIfInBounds k.val (.val (.int v)) = l') (hp : pc + 1 = pc') (g : Go p e below s Q rc rs (T.setTop (mkF m pc' l' st))) : Go p e below s Q rc rs (T.setTop (mkF m pc Ls ((.int v) :: st))) := by
  subst hp; exact g.by fun t k => XS.istoreN X.here hx rfl hd rfl (hl ▸ XS.store1 hold ho rfl) k
theorem g_astoreS (X : Stand p l e R s m args below meth c T locs cells slots) (hx : p.tables.exec = Jvm.exec) {k : Nat} {v : Value} {os : Slot} (l' : Array Slot) (pc' : Nat) (hd : decode c.code pc = .ok (.astore k, 2)) (hold : Ls[k]? = some os) (ho : One os) (hl : Ls.setIfInBounds k (.val v) = l') (hv : v.isRef = true) (hp : pc + 2 = pc') (g : Go p e below s Q rc rs (T.setTop (mkF m pc' l' st))) : Go p e below s Q rc rs (T.setTop (mkF m pc Ls (v :: st))) := by
  subst hp; exact g.by fun t k => XS.astore X.here hx rfl hd rfl hv (hl ▸ XS.store1 hold ho (by cases v <;> first | rfl | simp_all [Value.isRef])) k
theorem g_astoreNS (X : Stand p l e R s m args below meth c T locs cells slots) (hx : p.tables.exec = Jvm.exec) {k : Fin 4} {v : Value} {os : Slot} (l' : Array Slot) (pc' : Nat) (hd : decode c.code pc = .ok (.astore_n k, 1)) (hold : Ls[k.val]? = some os) (ho : One os) (hl : Ls.setIfInBounds k.val (.val v) = l') (hv : v.isRef = true) (hp : pc + 1 = pc') (g : Go p e below s Q rc rs (T.setTop (mkF m pc' l' st))) : Go p e below s Q rc rs (T.setTop (mkF m pc Ls (v :: st))) := by
  subst hp; exact g.by fun t k => XS.astoreN X.here hx rfl hd rfl hv (hl ▸ XS.store1 hold ho (by cases v <;> first | rfl | simp_all [Value.isRef])) k
theorem g_iconst (X : Stand p l e R s m args below meth c T locs cells slots) (hx : p.tables.exec = Jvm.exec) {i : Int} (v : Int32) (pc' : Nat) (hd : decode c.code pc = .ok (.iconst i, 1)) (hv : Int32.ofInt i = v) (hp : pc + 1 = pc') (g : Go p e below s Q rc rs (T.setTop (mkF m pc' Ls (.int v :: st)))) : Go p e below s Q rc rs (T.setTop (mkF m pc Ls st)) := by
  subst hp hv; exact g.by fun t k => XS.iconst X.here hx rfl hd k
theorem g_bipush (X : Stand p l e R s m args below meth c T locs cells slots) (hx : p.tables.exec = Jvm.exec) {i : Int} (v : Int32) (pc' : Nat) (hd : decode c.code pc = .ok (.bipush i, 2)) (hv : (Int8.ofInt i).toInt32 = v) (hp : pc + 2 = pc') (g : Go p e below s Q rc rs (T.setTop (mkF m pc' Ls (.int v :: st)))) : Go p e below s Q rc rs (T.setTop (mkF m pc Ls st)) := by
  subst hp hv; exact g.by fun t k => XS.bipush X.here hx rfl hd k
theorem g_sipush (X : Stand p l e R s m args below meth c T locs cells slots) (hx : p.tables.exec = Jvm.exec) {i : Int} (v : Int32) (pc' : Nat) (hd : decode c.code pc = .ok (.sipush i, 3)) (hv : (Int16.ofInt i).toInt32 = v) (hp : pc + 3 = pc') (g : Go p e below s Q rc rs (T.setTop (mkF m pc' Ls (.int v :: st)))) : Go p e below s Q rc rs (T.setTop (mkF m pc Ls st)) := by
  subst hp hv; exact g.by fun t k => XS.sipush X.here hx rfl hd k
theorem g_lconst (X : Stand p l e R s m args below meth c T locs cells slots) (hx : p.tables.exec = Jvm.exec) {i : Fin 2} (v : Int64) (pc' : Nat) (hd : decode c.code pc = .ok (.lconst i, 1)) (hv : Int64.ofNat i = v) (hp : pc + 1 = pc') (g : Go p e below s Q rc rs (T.setTop (mkF m pc' Ls (.long v :: st)))) : Go p e below s Q rc rs (T.setTop (mkF m pc Ls st)) := by
  subst hp hv; exact g.by fun t k => XS.lconst X.here hx rfl hd k
theorem g_aconst_null (X : Stand p l e R s m args below meth c T locs cells slots) (hx : p.tables.exec = Jvm.exec) (pc' : Nat) (hd : decode c.code pc = .ok (.aconst_null, 1)) (hp : pc + 1 = pc') (g : Go p e below s Q rc rs (T.setTop (mkF m pc' Ls (.null :: st)))) : Go p e below s Q rc rs (T.setTop (mkF m pc Ls st)) := by
  subst hp; exact g.by fun t k => XS.aconstNull X.here hx rfl hd k
theorem g_ldc (X : Stand p l e R s m args below meth c T locs cells slots) (hx : p.tables.exec = Jvm.exec) (hZ : Z.Warmed39 s.vm) {own : String} {i : Nat} {v : Int32} (hown : s.vm.findClass own = some m.cls) (w : (Cond.constant own i v).before a0 Z = true) (pc' : Nat) (hd : decode c.code pc = .ok (.ldc i, 2)) (hp : pc + 2 = pc') (g : Go p e below s Q rc rs (T.setTop (mkF m pc' Ls (.int v :: st)))) : Go p e below s Q rc rs (T.setTop (mkF m pc Ls st)) := by
  subst hp; exact g.by fun t k => X.ldcInt hx hown (mvT hZ w) (g := mkF m pc Ls st) rfl hd t k
theorem g_ldc_w (X : Stand p l e R s m args below meth c T locs cells slots) (hx : p.tables.exec = Jvm.exec) (hZ : Z.Warmed39 s.vm) {own : String} {i : Nat} {v : Int32} (hown : s.vm.findClass own = some m.cls) (w : (Cond.constant own i v).before a0 Z = true) (pc' : Nat) (hd : decode c.code pc = .ok (.ldc_w i, 3)) (hp : pc + 3 = pc') (g : Go p e below s Q rc rs (T.setTop (mkF m pc' Ls (.int v :: st)))) : Go p e below s Q rc rs (T.setTop (mkF m pc Ls st)) := by
  subst hp; exact g.by fun t k => X.ldcwInt hx hown (mvT hZ w) (g := mkF m pc Ls st) rfl hd t k
theorem g_ldc2_w (X : Stand p l e R s m args below meth c T locs cells slots) (hx : p.tables.exec = Jvm.exec) (hZ : Z.Warmed39 s.vm) {own : String} {i : Nat} {v : Int64} (hown : s.vm.findClass own = some m.cls) (w : (Cond.constantLong own i v).before a0 Z = true) (pc' : Nat) (hd : decode c.code pc = .ok (.ldc2_w i, 3)) (hp : pc + 3 = pc') (g : Go p e below s Q rc rs (T.setTop (mkF m pc' Ls (.long v :: st)))) : Go p e below s Q rc rs (T.setTop (mkF m pc Ls st)) := by
  subst hp; exact g.by fun t k => X.ldc2Long hx hown (mvT hZ w) (g := mkF m pc Ls st) rfl hd t k
theorem g_iadd (X : Stand p l e R s m args below meth c T locs cells slots) (hx : p.tables.exec = Jvm.exec) {x y : Int32} (pc' : Nat) (hd : decode c.code pc = .ok (.iadd, 1)) (hp : pc + 1 = pc') (g : Go p e below s Q rc rs (T.setTop (mkF m pc' Ls (.int (x + y) :: st)))) : Go p e below s Q rc rs (T.setTop (mkF m pc Ls (.int y :: .int x :: st))) := by
  subst hp; exact g.by fun t k => XS.iadd X.here hx rfl hd rfl k
theorem g_isub (X : Stand p l e R s m args below meth c T locs cells slots) (hx : p.tables.exec = Jvm.exec) {x y : Int32} (pc' : Nat) (hd : decode c.code pc = .ok (.isub, 1)) (hp : pc + 1 = pc') (g : Go p e below s Q rc rs (T.setTop (mkF m pc' Ls (.int (x - y) :: st)))) : Go p e below s Q rc rs (T.setTop (mkF m pc Ls (.int y :: .int x :: st))) := by
  subst hp; exact g.by fun t k => XS.isub X.here hx rfl hd rfl k
theorem g_imul (X : Stand p l e R s m args below meth c T locs cells slots) (hx : p.tables.exec = Jvm.exec) {x y : Int32} (pc' : Nat) (hd : decode c.code pc = .ok (.imul, 1)) (hp : pc + 1 = pc') (g : Go p e below s Q rc rs (T.setTop (mkF m pc' Ls (.int (x * y) :: st)))) : Go p e below s Q rc rs (T.setTop (mkF m pc Ls (.int y :: .int x :: st))) := by
  subst hp; exact g.by fun t k => XS.imul X.here hx rfl hd rfl k
theorem g_iand (X : Stand p l e R s m args below meth c T locs cells slots) (hx : p.tables.exec = Jvm.exec) {x y : Int32} (pc' : Nat) (hd : decode c.code pc = .ok (.iand, 1)) (hp : pc + 1 = pc') (g : Go p e below s Q rc rs (T.setTop (mkF m pc' Ls (.int (x &&& y) :: st)))) : Go p e below s Q rc rs (T.setTop (mkF m pc Ls (.int y :: .int x :: st))) := by
  subst hp; exact g.by fun t k => XS.iand X.here hx rfl hd rfl k
theorem g_ior (X : Stand p l e R s m args below meth c T locs cells slots) (hx : p.tables.exec = Jvm.exec) {x y : Int32} (pc' : Nat) (hd : decode c.code pc = .ok (.ior, 1)) (hp : pc + 1 = pc') (g : Go p e below s Q rc rs (T.setTop (mkF m pc' Ls (.int (x ||| y) :: st)))) : Go p e below s Q rc rs (T.setTop (mkF m pc Ls (.int y :: .int x :: st))) := by
  subst hp; exact g.by fun t k => XS.ior X.here hx rfl hd rfl k
theorem g_ixor (X : Stand p l e R s m args below meth c T locs cells slots) (hx : p.tables.exec = Jvm.exec) {x y : Int32} (pc' : Nat) (hd : decode c.code pc = .ok (.ixor, 1)) (hp : pc + 1 = pc') (g : Go p e below s Q rc rs (T.setTop (mkF m pc' Ls (.int (x ^^^ y) :: st)))) : Go p e below s Q rc rs (T.setTop (mkF m pc Ls (.int y :: .int x :: st))) := by
  subst hp; exact g.by fun t k => XS.ixor X.here hx rfl hd rfl k
theorem g_ineg (X : Stand p l e R s m args below meth c T locs cells slots) (hx : p.tables.exec = Jvm.exec) {x : Int32} (pc' : Nat) (hd : decode c.code pc = .ok (.ineg, 1)) (hp : pc + 1 = pc') (g : Go p e below s Q rc rs (T.setTop (mkF m pc' Ls (.int (-x) :: st)))) : Go p e below s Q rc rs (T.setTop (mkF m pc Ls (.int x :: st))) := by
  subst hp; exact g.by fun t k => XS.ineg X.here hx rfl hd rfl k
theorem g_idiv (X : Stand p l e R s m args below meth c T locs cells slots) (hx : p.tables.exec = Jvm.exec) {x y : Int32} (pc' : Nat) (hd : decode c.code pc = .ok (.idiv, 1)) (hy : y ≠ 0) (hp : pc + 1 = pc') (g : Go p e below s Q rc rs (T.setTop (mkF m pc' Ls (.int (x / y) :: st)))) : Go p e below s Q rc rs (T.setTop (mkF m pc Ls (.int y :: .int x :: st))) := by
  subst hp; exact g.by fun t k => XS.idiv X.here hx rfl hd rfl hy k
theorem g_ladd (X : Stand p l e R s m args below meth c T locs cells slots) (hx : p.tables.exec = Jvm.exec) {x y : Int64} (pc' : Nat) (hd : decode c.code pc = .ok (.ladd, 1)) (hp : pc + 1 = pc') (g : Go p e below s Q rc rs (T.setTop (mkF m pc' Ls (.long (x + y) :: st)))) : Go p e below s Q rc rs (T.setTop (mkF m pc Ls (.long y :: .long x :: st))) := by
  subst hp; exact g.by fun t k => XS.ladd X.here hx rfl hd rfl k
theorem g_lsub (X : Stand p l e R s m args below meth c T locs cells slots) (hx : p.tables.exec = Jvm.exec) {x y : Int64} (pc' : Nat) (hd : decode c.code pc = .ok (.lsub, 1)) (hp : pc + 1 = pc') (g : Go p e below s Q rc rs (T.setTop (mkF m pc' Ls (.long (x - y) :: st)))) : Go p e below s Q rc rs (T.setTop (mkF m pc Ls (.long y :: .long x :: st))) := by
  subst hp; exact g.by fun t k => XS.lsub X.here hx rfl hd rfl k
theorem g_lmul (X : Stand p l e R s m args below meth c T locs cells slots) (hx : p.tables.exec = Jvm.exec) {x y : Int64} (pc' : Nat) (hd : decode c.code pc = .ok (.lmul, 1)) (hp : pc + 1 = pc') (g : Go p e below s Q rc rs (T.setTop (mkF m pc' Ls (.long (x * y) :: st)))) : Go p e below s Q rc rs (T.setTop (mkF m pc Ls (.long y :: .long x :: st))) := by
  subst hp; exact g.by fun t k => XS.lmul X.here hx rfl hd rfl k
theorem g_land (X : Stand p l e R s m args below meth c T locs cells slots) (hx : p.tables.exec = Jvm.exec) {x y : Int64} (pc' : Nat) (hd : decode c.code pc = .ok (.land, 1)) (hp : pc + 1 = pc') (g : Go p e below s Q rc rs (T.setTop (mkF m pc' Ls (.long (x &&& y) :: st)))) : Go p e below s Q rc rs (T.setTop (mkF m pc Ls (.long y :: .long x :: st))) := by
  subst hp; exact g.by fun t k => XS.land X.here hx rfl hd rfl k
theorem g_lor (X : Stand p l e R s m args below meth c T locs cells slots) (hx : p.tables.exec = Jvm.exec) {x y : Int64} (pc' : Nat) (hd : decode c.code pc = .ok (.lor, 1)) (hp : pc + 1 = pc') (g : Go p e below s Q rc rs (T.setTop (mkF m pc' Ls (.long (x ||| y) :: st)))) : Go p e below s Q rc rs (T.setTop (mkF m pc Ls (.long y :: .long x :: st))) := by
  subst hp; exact g.by fun t k => XS.lor X.here hx rfl hd rfl k
theorem g_lxor (X : Stand p l e R s m args below meth c T locs cells slots) (hx : p.tables.exec = Jvm.exec) {x y : Int64} (pc' : Nat) (hd : decode c.code pc = .ok (.lxor, 1)) (hp : pc + 1 = pc') (g : Go p e below s Q rc rs (T.setTop (mkF m pc' Ls (.long (x ^^^ y) :: st)))) : Go p e below s Q rc rs (T.setTop (mkF m pc Ls (.long y :: .long x :: st))) := by
  subst hp; exact g.by fun t k => XS.lxor X.here hx rfl hd rfl k
theorem g_lneg (X : Stand p l e R s m args below meth c T locs cells slots) (hx : p.tables.exec = Jvm.exec) {x : Int64} (pc' : Nat) (hd : decode c.code pc = .ok (.lneg, 1)) (hp : pc + 1 = pc') (g : Go p e below s Q rc rs (T.setTop (mkF m pc' Ls (.long (-x) :: st)))) : Go p e below s Q rc rs (T.setTop (mkF m pc Ls (.long x :: st))) := by
  subst hp; exact g.by fun t k => XS.lneg X.here hx rfl hd rfl k
theorem g_ldiv (X : Stand p l e R s m args below meth c T locs cells slots) (hx : p.tables.exec = Jvm.exec) {x y : Int64} (pc' : Nat) (hd : decode c.code pc = .ok (.ldiv, 1)) (hy : y ≠ 0) (hp : pc + 1 = pc') (g : Go p e below s Q rc rs (T.setTop (mkF m pc' Ls (.long (x / y) :: st)))) : Go p e below s Q rc rs (T.setTop (mkF m pc Ls (.long y :: .long x :: st))) := by
  subst hp; exact g.by fun t k => XS.ldiv X.here hx rfl hd rfl hy k
theorem g_irem (X : Stand p l e R s m args below meth c T locs cells slots) (hx : p.tables.exec = Jvm.exec) {x y : Int32} (pc' : Nat) (hd : decode c.code pc = .ok (.irem, 1)) (hy : y ≠ 0) (hp : pc + 1 = pc') (g : Go p e below s Q rc rs (T.setTop (mkF m pc' Ls (.int (x % y) :: st)))) : Go p e below s Q rc rs (T.setTop (mkF m pc Ls (.int y :: .int x :: st))) := by
  subst hp; exact g.by fun t k => iremM X hx rfl hd rfl hy k
theorem g_lrem (X : Stand p l e R s m args below meth c T locs cells slots) (hx : p.tables.exec = Jvm.exec) {x y : Int64} (pc' : Nat) (hd : decode c.code pc = .ok (.lrem, 1)) (hy : y ≠ 0) (hp : pc + 1 = pc') (g : Go p e below s Q rc rs (T.setTop (mkF m pc' Ls (.long (x % y) :: st)))) : Go p e below s Q rc rs (T.setTop (mkF m pc Ls (.long y :: .long x :: st))) := by
  subst hp; exact g.by fun t k => XS.lrem X.here hx rfl hd rfl hy (by rw [lrem_mod]; exact k)
theorem g_ishl (X : Stand p l e R s m args below meth c T locs cells slots) (hx : p.tables.exec = Jvm.exec) {x : Int32} {y : Int32} (pc' : Nat) (hd : decode c.code pc = .ok (.ishl, 1)) (hp : pc + 1 = pc') (g : Go p e below s Q rc rs (T.setTop (mkF m pc' Ls (.int (shlI x y) :: st)))) : Go p e below s Q rc rs (T.setTop (mkF m pc Ls (.int y :: .int x :: st))) := by
  subst hp; exact g.by fun t k => XS.ishl X.here hx rfl hd rfl k
theorem g_ishr (X : Stand p l e R s m args below meth c T locs cells slots) (hx : p.tables.exec = Jvm.exec) {x : Int32} {y : Int32} (pc' : Nat) (hd : decode c.code pc = .ok (.ishr, 1)) (hp : pc + 1 = pc') (g : Go p e below s Q rc rs (T.setTop (mkF m pc' Ls (.int (shrI x y) :: st)))) : Go p e below s Q rc rs (T.setTop (mkF m pc Ls (.int y :: .int x :: st))) := by
  subst hp; exact g.by fun t k => XS.ishr X.here hx rfl hd rfl k
theorem g_iushr (X : Stand p l e R s m args below meth c T locs cells slots) (hx : p.tables.exec = Jvm.exec) {x : Int32} {y : Int32} (pc' : Nat) (hd : decode c.code pc = .ok (.iushr, 1)) (hp : pc + 1 = pc') (g : Go p e below s Q rc rs (T.setTop (mkF m pc' Ls (.int (ushrI x y) :: st)))) : Go p e below s Q rc rs (T.setTop (mkF m pc Ls (.int y :: .int x :: st))) := by
  subst hp; exact g.by fun t k => XS.iushr X.here hx rfl hd rfl k
theorem g_lshl (X : Stand p l e R s m args below meth c T locs cells slots) (hx : p.tables.exec = Jvm.exec) {x : Int64} {y : Int32} (pc' : Nat) (hd : decode c.code pc = .ok (.lshl, 1)) (hp : pc + 1 = pc') (g : Go p e below s Q rc rs (T.setTop (mkF m pc' Ls (.long (shlJ x y) :: st)))) : Go p e below s Q rc rs (T.setTop (mkF m pc Ls (.int y :: .long x :: st))) := by
  subst hp; exact g.by fun t k => XS.lshl X.here hx rfl hd rfl k
theorem g_lshr (X : Stand p l e R s m args below meth c T locs cells slots) (hx : p.tables.exec = Jvm.exec) {x : Int64} {y : Int32} (pc' : Nat) (hd : decode c.code pc = .ok (.lshr, 1)) (hp : pc + 1 = pc') (g : Go p e below s Q rc rs (T.setTop (mkF m pc' Ls (.long (shrJ x y) :: st)))) : Go p e below s Q rc rs (T.setTop (mkF m pc Ls (.int y :: .long x :: st))) := by
  subst hp; exact g.by fun t k => XS.lshr X.here hx rfl hd rfl k
theorem g_lushr (X : Stand p l e R s m args below meth c T locs cells slots) (hx : p.tables.exec = Jvm.exec) {x : Int64} {y : Int32} (pc' : Nat) (hd : decode c.code pc = .ok (.lushr, 1)) (hp : pc + 1 = pc') (g : Go p e below s Q rc rs (T.setTop (mkF m pc' Ls (.long (ushrJ x y) :: st)))) : Go p e below s Q rc rs (T.setTop (mkF m pc Ls (.int y :: .long x :: st))) := by
  subst hp; exact g.by fun t k => XS.lushr X.here hx rfl hd rfl k
theorem g_i2l (X : Stand p l e R s m args below meth c T locs cells slots) (hx : p.tables.exec = Jvm.exec) {x : Int32} (pc' : Nat) (hd : decode c.code pc = .ok (.i2l, 1)) (hp : pc + 1 = pc') (g : Go p e below s Q rc rs (T.setTop (mkF m pc' Ls (.long (x.toInt64) :: st)))) : Go p e below s Q rc rs (T.setTop (mkF m pc Ls (.int x :: st))) := by
  subst hp; exact g.by fun t k => XS.i2l X.here hx rfl hd rfl k
theorem g_l2i (X : Stand p l e R s m args below meth c T locs cells slots) (hx : p.tables.exec = Jvm.exec) {x : Int64} (pc' : Nat) (hd : decode c.code pc = .ok (.l2i, 1)) (hp : pc + 1 = pc') (g : Go p e below s Q rc rs (T.setTop (mkF m pc' Ls (.int (x.toInt32) :: st)))) : Go p e below s Q rc rs (T.setTop (mkF m pc Ls (.long x :: st))) := by
  subst hp; exact g.by fun t k => XS.l2i X.here hx rfl hd rfl k
theorem g_i2b (X : Stand p l e R s m args below meth c T locs cells slots) (hx : p.tables.exec = Jvm.exec) {x : Int32} (pc' : Nat) (hd : decode c.code pc = .ok (.i2b, 1)) (hp : pc + 1 = pc') (g : Go p e below s Q rc rs (T.setTop (mkF m pc' Ls (.int (i2bI x) :: st)))) : Go p e below s Q rc rs (T.setTop (mkF m pc Ls (.int x :: st))) := by
  subst hp; exact g.by fun t k => XS.i2b X.here hx rfl hd rfl k
theorem g_i2c (X : Stand p l e R s m args below meth c T locs cells slots) (hx : p.tables.exec = Jvm.exec) {x : Int32} (pc' : Nat) (hd : decode c.code pc = .ok (.i2c, 1)) (hp : pc + 1 = pc') (g : Go p e below s Q rc rs (T.setTop (mkF m pc' Ls (.int (i2cI x) :: st)))) : Go p e below s Q rc rs (T.setTop (mkF m pc Ls (.int x :: st))) := by
  subst hp; exact g.by fun t k => XS.i2c X.here hx rfl hd rfl k
theorem g_i2s (X : Stand p l e R s m args below meth c T locs cells slots) (hx : p.tables.exec = Jvm.exec) {x : Int32} (pc' : Nat) (hd : decode c.code pc = .ok (.i2s, 1)) (hp : pc + 1 = pc') (g : Go p e below s Q rc rs (T.setTop (mkF m pc' Ls (.int (i2sI x) :: st)))) : Go p e below s Q rc rs (T.setTop (mkF m pc Ls (.int x :: st))) := by
  subst hp; exact g.by fun t k => XS.i2s X.here hx rfl hd rfl k
theorem g_lcmp (X : Stand p l e R s m args below meth c T locs cells slots) (hx : p.tables.exec = Jvm.exec) {x y : Int64} (pc' : Nat) (hd : decode c.code pc = .ok (.lcmp, 1)) (hp : pc + 1 = pc') (g : Go p e below s Q rc rs (T.setTop (mkF m pc' Ls (.int (lcmpW x y) :: st)))) : Go p e below s Q rc rs (T.setTop (mkF m pc Ls (.long y :: .long x :: st))) := by
  subst hp; exact g.by fun t k => XS.lcmp X.here hx rfl hd rfl k
theorem g_iinc (X : Stand p l e R s m args below meth c T locs cells slots) (hx : p.tables.exec = Jvm.exec) {k : Nat} {i : Int} {x : Int32} (v : Int32) (l' : Array Slot) (pc' : Nat) (hd : decode c.code pc = .ok (.iinc k i, 3)) (hv : Int32.ofInt i = v) (hl : Ls[k]? = some (.val (.int x))) (hl' : storeLocals Ls k (.int (x + v)) = some l') (hp : pc + 3 = pc') (g : Go p e below s Q rc rs (T.setTop (mkF m pc' l' st))) : Go p e below s Q rc rs (T.setTop (mkF m pc Ls st)) := by
  subst hp hv; exact g.by fun t k => XS.iinc X.here hx rfl hd hl hl' k
theorem g_dup (X : Stand p l e R s m args below meth c T locs cells slots) (hx : p.tables.exec = Jvm.exec) {x : Value} (pc' : Nat) (hd : decode c.code pc = .ok (.dup, 1)) (hc : x.category = 1) (hp : pc + 1 = pc') (g : Go p e below s Q rc rs (T.setTop (mkF m pc' Ls (x :: x :: st)))) : Go p e below s Q rc rs (T.setTop (mkF m pc Ls (x :: st))) := by
  subst hp; exact g.by fun t k => XS.dup X.here hx rfl hd rfl hc k
theorem g_pop (X : Stand p l e R s m args below meth c T locs cells slots) (hx : p.tables.exec = Jvm.exec) {x : Value} (pc' : Nat) (hd : decode c.code pc = .ok (.pop, 1)) (hc : x.category = 1) (hp : pc + 1 = pc') (g : Go p e below s Q rc rs (T.setTop (mkF m pc' Ls st))) : Go p e below s Q rc rs (T.setTop (mkF m pc Ls (x :: st))) := by
  subst hp; exact g.by fun t k => XS.pop X.here hx rfl hd rfl hc k
theorem g_dup_x1 (X : Stand p l e R s m args below meth c T locs cells slots) (hx : p.tables.exec = Jvm.exec) {x y : Value} (pc' : Nat) (hd : decode c.code pc = .ok (.dup_x1, 1)) (hc : x.category = 1) (hc2 : y.category = 1) (hp : pc + 1 = pc') (g : Go p e below s Q rc rs (T.setTop (mkF m pc' Ls (x :: y :: x :: st)))) : Go p e below s Q rc rs (T.setTop (mkF m pc Ls (x :: y :: st))) := by
  subst hp; exact g.by fun t k => XS.dupX1 X.here hx rfl hd rfl hc hc2 k
theorem g_dup2 (X : Stand p l e R s m args below meth c T locs cells slots) (hx : p.tables.exec = Jvm.exec) {x y : Value} (pc' : Nat) (hd : decode c.code pc = .ok (.dup2, 1)) (hc : x.category = 1) (hc2 : y.category = 1) (hp : pc + 1 = pc') (g : Go p e below s Q rc rs (T.setTop (mkF m pc' Ls (x :: y :: x :: y :: st)))) : Go p e below s Q rc rs (T.setTop (mkF m pc Ls (x :: y :: st))) := by
  subst hp; exact g.by fun t k => XT.dup2 X.here hx rfl hd rfl hc hc2 k
theorem g_dup2L (X : Stand p l e R s m args below meth c T locs cells slots) (hx : p.tables.exec = Jvm.exec) {x : Int64} (pc' : Nat) (hd : decode c.code pc = .ok (.dup2, 1)) (hp : pc + 1 = pc') (g : Go p e below s Q rc rs (T.setTop (mkF m pc' Ls (.long x :: .long x :: st)))) : Go p e below s Q rc rs (T.setTop (mkF m pc Ls (.long x :: st))) := by
  subst hp; exact g.by fun t k => XT.dup2L X.here hx rfl hd rfl k
theorem g_pop2L (X : Stand p l e R s m args below meth c T locs cells slots) (hx : p.tables.exec = Jvm.exec) {x : Int64} (pc' : Nat) (hd : decode c.code pc = .ok (.pop2, 1)) (hp : pc + 1 = pc') (g : Go p e below s Q rc rs (T.setTop (mkF m pc' Ls st))) : Go p e below s Q rc rs (T.setTop (mkF m pc Ls (.long x :: st))) := by
  subst hp; refine g.by fun t k => ?_
  jvm_step X.here [X.here.top, hx, hd, Value.category]
  exact k
theorem g_goto (X : Stand p l e R s m args below meth c T locs cells slots) (hx : p.tables.exec = Jvm.exec) {o : Int} (pc' : Nat) (hd : decode c.code pc = .ok (.goto o, 3)) (ho : 0 ≤ (pc : Int) + o) (hp : ((pc : Int) + o).toNat = pc') (g : Go p e below s Q rc rs (T.setTop (mkF m pc' Ls st))) : Go p e below s Q rc rs (T.setTop (mkF m pc Ls st)) := by
  subst hp; exact g.by fun t k => XS.goto X.here hx rfl rfl hd ho rfl k
theorem g_icmp_lt (X : Stand p l e R s m args below meth c T locs cells slots) (hx : p.tables.exec = Jvm.exec) {x y : Int32} {o : Int} (pcY pcN : Nat) (hd : decode c.code pc = .ok (.if_icmp .lt o, 3)) (ho : 0 ≤ (pc : Int) + o) (hY : ((pc : Int) + o).toNat = pcY) (hN : pc + 3 = pcN) (gp : x < y → Go p e below s Q rc rs (T.setTop (mkF m pcY Ls st))) (gn : ¬ x < y → Go p e below s Q rc rs (T.setTop (mkF m pcN Ls st))) : Go p e below s Q rc rs (T.setTop (mkF m pc Ls (.int y :: .int x :: st))) := by
  subst hY hN
  by_cases q : x < y
  · exact (gp q).by fun t k => XS.icmpYes X.here hx rfl rfl hd rfl (tlt q).1 ho rfl k
  · exact (gn q).by fun t k => XS.icmpNo X.here hx rfl hd rfl (flt q).1 k
theorem g_if0_lt (X : Stand p l e R s m args below meth c T locs cells slots) (hx : p.tables.exec = Jvm.exec) {x : Int32} {o : Int} (pcY pcN : Nat) (hd : decode c.code pc = .ok (.ifCond .lt o, 3)) (ho : 0 ≤ (pc : Int) + o) (hY : ((pc : Int) + o).toNat = pcY) (hN : pc + 3 = pcN) (gp : x < 0 → Go p e below s Q rc rs (T.setTop (mkF m pcY Ls st))) (gn : ¬ x < 0 → Go p e below s Q rc rs (T.setTop (mkF m pcN Ls st))) : Go p e below s Q rc rs (T.setTop (mkF m pc Ls (.int x :: st))) := by
  subst hY hN
  by_cases q : x < 0
  · exact (gp q).by fun t k => XS.ifYes X.here hx rfl rfl hd rfl ((if0 _ _).trans (tlt q).1) ho rfl k
  · exact (gn q).by fun t k => XS.ifNo X.here hx rfl hd rfl ((if0 _ _).trans (flt q).1) k
theorem g_lc_lt (X : Stand p l e R s m args below meth c T locs cells slots) (hx : p.tables.exec = Jvm.exec) {x y : Int64} {o : Int} (pcY pcN : Nat) (hd : decode c.code pc = .ok (.ifCond .lt o, 3)) (ho : 0 ≤ (pc : Int) + o) (hY : ((pc : Int) + o).toNat = pcY) (hN : pc + 3 = pcN) (gp : x < y → Go p e below s Q rc rs (T.setTop (mkF m pcY Ls st))) (gn : ¬ x < y → Go p e below s Q rc rs (T.setTop (mkF m pcN Ls st))) : Go p e below s Q rc rs (T.setTop (mkF m pc Ls (.int (lcmpW x y) :: st))) :=
  g_if0_lt X hx pcY pcN hd ho hY hN (fun q => gp ((lw_lt x y).1 q)) (fun q => gn fun r => q ((lw_lt x y).2 r))
theorem g_icmp_ge (X : Stand p l e R s m args below meth c T locs cells slots) (hx : p.tables.exec = Jvm.exec) {x y : Int32} {o : Int} (pcY pcN : Nat) (hd : decode c.code pc = .ok (.if_icmp .ge o, 3)) (ho : 0 ≤ (pc : Int) + o) (hY : ((pc : Int) + o).toNat = pcY) (hN : pc + 3 = pcN) (gp : x < y → Go p e below s Q rc rs (T.setTop (mkF m pcN Ls st))) (gn : ¬ x < y → Go p e below s Q rc rs (T.setTop (mkF m pcY Ls st))) : Go p e below s Q rc rs (T.setTop (mkF m pc Ls (.int y :: .int x :: st))) := by
  subst hY hN
  by_cases q : x < y
  · exact (gp q).by fun t k => XS.icmpNo X.here hx rfl hd rfl (tlt q).2.1 k
  · exact (gn q).by fun t k => XS.icmpYes X.here hx rfl rfl hd rfl (flt q).2.1 ho rfl k
theorem g_if0_ge (X : Stand p l e R s m args below meth c T locs cells slots) (hx : p.tables.exec = Jvm.exec) {x : Int32} {o : Int} (pcY pcN : Nat) (hd : decode c.code pc = .ok (.ifCond .ge o, 3)) (ho : 0 ≤ (pc : Int) + o) (hY : ((pc : Int) + o).toNat = pcY) (hN : pc + 3 = pcN) (gp : x < 0 → Go p e below s Q rc rs (T.setTop (mkF m pcN Ls st))) (gn : ¬ x < 0 → Go p e below s Q rc rs (T.setTop (mkF m pcY Ls st))) : Go p e below s Q rc rs (T.setTop (mkF m pc Ls (.int x :: st))) := by
  subst hY hN
  by_cases q : x < 0
  · exact (gp q).by fun t k => XS.ifNo X.here hx rfl hd rfl ((if0 _ _).trans (tlt q).2.1) k
  · exact (gn q).by fun t k => XS.ifYes X.here hx rfl rfl hd rfl ((if0 _ _).trans (flt q).2.1) ho rfl k
theorem g_lc_ge (X : Stand p l e R s m args below meth c T locs cells slots) (hx : p.tables.exec = Jvm.exec) {x y : Int64} {o : Int} (pcY pcN : Nat) (hd : decode c.code pc = .ok (.ifCond .ge o, 3)) (ho : 0 ≤ (pc : Int) + o) (hY : ((pc : Int) + o).toNat = pcY) (hN : pc + 3 = pcN) (gp : x < y → Go p e below s Q rc rs (T.setTop (mkF m pcN Ls st))) (gn : ¬ x < y → Go p e below s Q rc rs (T.setTop (mkF m pcY Ls st))) : Go p e below s Q rc rs (T.setTop (mkF m pc Ls (.int (lcmpW x y) :: st))) :=
  g_if0_ge X hx pcY pcN hd ho hY hN (fun q => gp ((lw_lt x y).1 q)) (fun q => gn fun r => q ((lw_lt x y).2 r))
theorem g_icmp_gt (X : Stand p l e R s m args below meth c T locs cells slots) (hx : p.tables.exec = Jvm.exec) {x y : Int32} {o : Int} (pcY pcN : Nat) (hd : decode c.code pc = .ok (.if_icmp .gt o, 3)) (ho : 0 ≤ (pc : Int) + o) (hY : ((pc : Int) + o).toNat = pcY) (hN : pc + 3 = pcN) (gp : y < x → Go p e below s Q rc rs (T.setTop (mkF m pcY Ls st))) (gn : ¬ y < x → Go p e below s Q rc rs (T.setTop (mkF m pcN Ls st))) : Go p e below s Q rc rs (T.setTop (mkF m pc Ls (.int y :: .int x :: st))) := by
  subst hY hN
  by_cases q : y < x
  · exact (gp q).by fun t k => XS.icmpYes X.here hx rfl rfl hd rfl (tlt q).2.2.1 ho rfl k
  · exact (gn q).by fun t k => XS.icmpNo X.here hx rfl hd rfl (flt q).2.2.1 k
theorem g_if0_gt (X : Stand p l e R s m args below meth c T locs cells slots) (hx : p.tables.exec = Jvm.exec) {x : Int32} {o : Int} (pcY pcN : Nat) (hd : decode c.code pc = .ok (.ifCond .gt o, 3)) (ho : 0 ≤ (pc : Int) + o) (hY : ((pc : Int) + o).toNat = pcY) (hN : pc + 3 = pcN) (gp : 0 < x → Go p e below s Q rc rs (T.setTop (mkF m pcY Ls st))) (gn : ¬ 0 < x → Go p e below s Q rc rs (T.setTop (mkF m pcN Ls st))) : Go p e below s Q rc rs (T.setTop (mkF m pc Ls (.int x :: st))) := by
  subst hY hN
  by_cases q : 0 < x
  · exact (gp q).by fun t k => XS.ifYes X.here hx rfl rfl hd rfl ((if0 _ _).trans (tlt q).2.2.1) ho rfl k
  · exact (gn q).by fun t k => XS.ifNo X.here hx rfl hd rfl ((if0 _ _).trans (flt q).2.2.1) k
theorem g_lc_gt (X : Stand p l e R s m args below meth c T locs cells slots) (hx : p.tables.exec = Jvm.exec) {x y : Int64} {o : Int} (pcY pcN : Nat) (hd : decode c.code pc = .ok (.ifCond .gt o, 3)) (ho : 0 ≤ (pc : Int) + o) (hY : ((pc : Int) + o).toNat = pcY) (hN : pc + 3 = pcN) (gp : y < x → Go p e below s Q rc rs (T.setTop (mkF m pcY Ls st))) (gn : ¬ y < x → Go p e below s Q rc rs (T.setTop (mkF m pcN Ls st))) : Go p e below s Q rc rs (T.setTop (mkF m pc Ls (.int (lcmpW x y) :: st))) :=
  g_if0_gt X hx pcY pcN hd ho hY hN (fun q => gp ((lw_gt x y).1 q)) (fun q => gn fun r => q ((lw_gt x y).2 r))
theorem g_icmp_le (X : Stand p l e R s m args below meth c T locs cells slots) (hx : p.tables.exec = Jvm.exec) {x y : Int32} {o : Int} (pcY pcN : Nat) (hd : decode c.code pc = .ok (.if_icmp .le o, 3)) (ho : 0 ≤ (pc : Int) + o) (hY : ((pc : Int) + o).toNat = pcY) (hN : pc + 3 = pcN) (gp : y < x → Go p e below s Q rc rs (T.setTop (mkF m pcN Ls st))) (gn : ¬ y < x → Go p e below s Q rc rs (T.setTop (mkF m pcY Ls st))) : Go p e below s Q rc rs (T.setTop (mkF m pc Ls (.int y :: .int x :: st))) := by
  subst hY hN
  by_cases q : y < x
  · exact (gp q).by fun t k => XS.icmpNo X.here hx rfl hd rfl (tlt q).2.2.2 k
  · exact (gn q).by fun t k => XS.icmpYes X.here hx rfl rfl hd rfl (flt q).2.2.2 ho rfl k
theorem g_if0_le (X : Stand p l e R s m args below meth c T locs cells slots) (hx : p.tables.exec = Jvm.exec) {x : Int32} {o : Int} (pcY pcN : Nat) (hd : decode c.code pc = .ok (.ifCond .le o, 3)) (ho : 0 ≤ (pc : Int) + o) (hY : ((pc : Int) + o).toNat = pcY) (hN : pc + 3 = pcN) (gp : 0 < x → Go p e below s Q rc rs (T.setTop (mkF m pcN Ls st))) (gn : ¬ 0 < x → Go p e below s Q rc rs (T.setTop (mkF m pcY Ls st))) : Go p e below s Q rc rs (T.setTop (mkF m pc Ls (.int x :: st))) := by
  subst hY hN
  by_cases q : 0 < x
  · exact (gp q).by fun t k => XS.ifNo X.here hx rfl hd rfl ((if0 _ _).trans (tlt q).2.2.2) k
  · exact (gn q).by fun t k => XS.ifYes X.here hx rfl rfl hd rfl ((if0 _ _).trans (flt q).2.2.2) ho rfl k
theorem g_lc_le (X : Stand p l e R s m args below meth c T locs cells slots) (hx : p.tables.exec = Jvm.exec) {x y : Int64} {o : Int} (pcY pcN : Nat) (hd : decode c.code pc = .ok (.ifCond .le o, 3)) (ho : 0 ≤ (pc : Int) + o) (hY : ((pc : Int) + o).toNat = pcY) (hN : pc + 3 = pcN) (gp : y < x → Go p e below s Q rc rs (T.setTop (mkF m pcN Ls st))) (gn : ¬ y < x → Go p e below s Q rc rs (T.setTop (mkF m pcY Ls st))) : Go p e below s Q rc rs (T.setTop (mkF m pc Ls (.int (lcmpW x y) :: st))) :=
  g_if0_le X hx pcY pcN hd ho hY hN (fun q => gp ((lw_gt x y).1 q)) (fun q => gn fun r => q ((lw_gt x y).2 r))
theorem g_icmp_eq (X : Stand p l e R s m args below meth c T locs cells slots) (hx : p.tables.exec = Jvm.exec) {x y : Int32} {o : Int} (pcY pcN : Nat) (hd : decode c.code pc = .ok (.if_icmp .eq o, 3)) (ho : 0 ≤ (pc : Int) + o) (hY : ((pc : Int) + o).toNat = pcY) (hN : pc + 3 = pcN) (gp : x = y → Go p e below s Q rc rs (T.setTop (mkF m pcY Ls st))) (gn : ¬ x = y → Go p e below s Q rc rs (T.setTop (mkF m pcN Ls st))) : Go p e below s Q rc rs (T.setTop (mkF m pc Ls (.int y :: .int x :: st))) := by
  subst hY hN
  by_cases q : x = y
  · exact (gp q).by fun t k => XS.icmpYes X.here hx rfl rfl hd rfl (teq q).1 ho rfl k
  · exact (gn q).by fun t k => XS.icmpNo X.here hx rfl hd rfl (feq q).1 k
theorem g_if0_eq (X : Stand p l e R s m args below meth c T locs cells slots) (hx : p.tables.exec = Jvm.exec) {x : Int32} {o : Int} (pcY pcN : Nat) (hd : decode c.code pc = .ok (.ifCond .eq o, 3)) (ho : 0 ≤ (pc : Int) + o) (hY : ((pc : Int) + o).toNat = pcY) (hN : pc + 3 = pcN) (gp : x = 0 → Go p e below s Q rc rs (T.setTop (mkF m pcY Ls st))) (gn : ¬ x = 0 → Go p e below s Q rc rs (T.setTop (mkF m pcN Ls st))) : Go p e below s Q rc rs (T.setTop (mkF m pc Ls (.int x :: st))) := by
  subst hY hN
  by_cases q : x = 0
  · exact (gp q).by fun t k => XS.ifYes X.here hx rfl rfl hd rfl ((if0 _ _).trans (teq q).1) ho rfl k
  · exact (gn q).by fun t k => XS.ifNo X.here hx rfl hd rfl ((if0 _ _).trans (feq q).1) k
theorem g_lc_eq (X : Stand p l e R s m args below meth c T locs cells slots) (hx : p.tables.exec = Jvm.exec) {x y : Int64} {o : Int} (pcY pcN : Nat) (hd : decode c.code pc = .ok (.ifCond .eq o, 3)) (ho : 0 ≤ (pc : Int) + o) (hY : ((pc : Int) + o).toNat = pcY) (hN : pc + 3 = pcN) (gp : x = y → Go p e below s Q rc rs (T.setTop (mkF m pcY Ls st))) (gn : ¬ x = y → Go p e below s Q rc rs (T.setTop (mkF m pcN Ls st))) : Go p e below s Q rc rs (T.setTop (mkF m pc Ls (.int (lcmpW x y) :: st))) :=
  g_if0_eq X hx pcY pcN hd ho hY hN (fun q => gp ((lw_eq x y).1 q)) (fun q => gn fun r => q ((lw_eq x y).2 r))
theorem g_icmp_ne (X : Stand p l e R s m args below meth c T locs cells slots) (hx : p.tables.exec = Jvm.exec) {x y : Int32} {o : Int} (pcY pcN : Nat) (hd : decode c.code pc = .ok (.if_icmp .ne o, 3)) (ho : 0 ≤ (pc : Int) + o) (hY : ((pc : Int) + o).toNat = pcY) (hN : pc + 3 = pcN) (gp : x = y → Go p e below s Q rc rs (T.setTop (mkF m pcN Ls st))) (gn : ¬ x = y → Go p e below s Q rc rs (T.setTop (mkF m pcY Ls st))) : Go p e below s Q rc rs (T.setTop (mkF m pc Ls (.int y :: .int x :: st))) := by
  subst hY hN
  by_cases q : x = y
  · exact (gp q).by fun t k => XS.icmpNo X.here hx rfl hd rfl (teq q).2 k
  · exact (gn q).by fun t k => XS.icmpYes X.here hx rfl rfl hd rfl (feq q).2 ho rfl k
theorem g_if0_ne (X : Stand p l e R s m args below meth c T locs cells slots) (hx : p.tables.exec = Jvm.exec) {x : Int32} {o : Int} (pcY pcN : Nat) (hd : decode c.code pc = .ok (.ifCond .ne o, 3)) (ho : 0 ≤ (pc : Int) + o) (hY : ((pc : Int) + o).toNat = pcY) (hN : pc + 3 = pcN) (gp : x = 0 → Go p e below s Q rc rs (T.setTop (mkF m pcN Ls st))) (gn : ¬ x = 0 → Go p e below s Q rc rs (T.setTop (mkF m pcY Ls st))) : Go p e below s Q rc rs (T.setTop (mkF m pc Ls (.int x :: st))) := by
  subst hY hN
  by_cases q : x = 0
  · exact (gp q).by fun t k => XS.ifNo X.here hx rfl hd rfl ((if0 _ _).trans (teq q).2) k
  · exact (gn q).by fun t k => XS.ifYes X.here hx rfl rfl hd rfl ((if0 _ _).trans (feq q).2) ho rfl k
theorem g_lc_ne (X : Stand p l e R s m args below meth c T locs cells slots) (hx : p.tables.exec = Jvm.exec) {x y : Int64} {o : Int} (pcY pcN : Nat) (hd : decode c.code pc = .ok (.ifCond .ne o, 3)) (ho : 0 ≤ (pc : Int) + o) (hY : ((pc : Int) + o).toNat = pcY) (hN : pc + 3 = pcN) (gp : x = y → Go p e below s Q rc rs (T.setTop (mkF m pcN Ls st))) (gn : ¬ x = y → Go p e below s Q rc rs (T.setTop (mkF m pcY Ls st))) : Go p e below s Q rc rs (T.setTop (mkF m pc Ls (.int (lcmpW x y) :: st))) :=
  g_if0_ne X hx pcY pcN hd ho hY hN (fun q => gp ((lw_eq x y).1 q)) (fun q => gn fun r => q ((lw_eq x y).2 r))
theorem g_ifnull_no (X : Stand p l e R s m args below meth c T locs cells slots) (hx : p.tables.exec = Jvm.exec) {b : Addr} {o : Int} (pc' : Nat) (hd : decode c.code pc = .ok (.ifnull o, 3)) (hp : pc + 3 = pc') (g : Go p e below s Q rc rs (T.setTop (mkF m pc' Ls st))) : Go p e below s Q rc rs (T.setTop (mkF m pc Ls (.ref b :: st))) := by
  subst hp; exact g.by fun t k => XS.ifnullNo X.here hx rfl hd rfl k
theorem g_ifnonnull_yes (X : Stand p l e R s m args below meth c T locs cells slots) (hx : p.tables.exec = Jvm.exec) {b : Addr} {o : Int} (pc' : Nat) (hd : decode c.code pc = .ok (.ifnonnull o, 3)) (ho : 0 ≤ (pc : Int) + o) (hp : ((pc : Int) + o).toNat = pc') (g : Go p e below s Q rc rs (T.setTop (mkF m pc' Ls st))) : Go p e below s Q rc rs (T.setTop (mkF m pc Ls (.ref b :: st))) := by
  subst hp; exact g.by fun t k => XS.ifnonnullYes X.here hx rfl rfl hd rfl ho rfl k
theorem g_retI (X : Stand p l e R s m args below meth c T locs cells slots) (hx : p.tables.exec = Jvm.exec) (hret : meth.sig.returnType = some .int) (hlk : meth.locks = false) {z : Int32} (hd : decode c.code pc = .ok (.ireturn, 1)) (hc : cells ≤ rc) (hs : slots ≤ rs) (hQ : Q (some (.int z)) T.heap locs) : Go p e below s Q rc rs (T.setTop (mkF m pc Ls (.int z :: st))) := by
  obtain ⟨fs, hr, hrun, hended, hW, hsame⟩ := X.leave (v := some (.int z)) (fun q => by rw [hret] at q; cases q) hlk
  exact ⟨_, _, retI X hx hret hd hr, hrun, hended, _, _, rfl, hQ, ⟨_, rfl⟩, hW, hsame.mono hc hs⟩
theorem g_retN (X : Stand p l e R s m args below meth c T locs cells slots) (hx : p.tables.exec = Jvm.exec) {ty : FieldType} (hret : meth.sig.returnType = some ty) (ht : ty = .boolean ∨ ty = .byte ∨ ty = .char ∨ ty = .short) (hlk : meth.locks = false) {z : Int32} (hd : decode c.code pc = .ok (.ireturn, 1)) (hc : cells ≤ rc) (hs : slots ≤ rs) (hQ : Q (some (.int (nar ty z))) T.heap locs) : Go p e below s Q rc rs (T.setTop (mkF m pc Ls (.int z :: st))) := by
  obtain ⟨fs, hr, hrun, hended, hW, hsame⟩ := X.leave (v := some (.int (nar ty z))) (fun q => by rw [hret] at q; cases q) hlk
  exact ⟨_, _, retN X hx hret ht hd hr, hrun, hended, _, _, rfl, hQ, ⟨_, rfl⟩, hW, hsame.mono hc hs⟩
theorem g_retJ (X : Stand p l e R s m args below meth c T locs cells slots) (hx : p.tables.exec = Jvm.exec) (hret : meth.sig.returnType = some .long) (hlk : meth.locks = false) {z : Int64} (hd : decode c.code pc = .ok (.lreturn, 1)) (hc : cells ≤ rc) (hs : slots ≤ rs) (hQ : Q (some (.long z)) T.heap locs) : Go p e below s Q rc rs (T.setTop (mkF m pc Ls (.long z :: st))) := by
  obtain ⟨fs, hr, hrun, hended, hW, hsame⟩ := X.leave (v := some (.long z)) (fun q => by rw [hret] at q; cases q) hlk
  exact ⟨_, _, retOut X hx hret rfl (Or.inr (Or.inl ⟨rfl, rfl, z, rfl⟩)) hd hr, hrun, hended, _, _, rfl, hQ, ⟨_, rfl⟩, hW, hsame.mono hc hs⟩
theorem g_retA (X : Stand p l e R s m args below meth c T locs cells slots) (hx : p.tables.exec = Jvm.exec) {ty : FieldType} (hret : meth.sig.returnType = some ty) (ht : ty.isReference = true) (hlk : meth.locks = false) {b : Addr} (hd : decode c.code pc = .ok (.areturn, 1)) (hc : cells ≤ rc) (hs : slots ≤ rs) (hQ : Q (some (.ref b)) T.heap locs) : Go p e below s Q rc rs (T.setTop (mkF m pc Ls [.ref b])) := by
  obtain ⟨fs, hr, hrun, hended, hW, hsame⟩ := X.leave (v := some (.ref b)) (fun q => by rw [hret] at q; cases q) hlk
  exact ⟨_, _, X.areturnOut hx rfl hret ht hd hr, hrun, hended, _, _, rfl, hQ, ⟨_, rfl⟩, hW, hsame.mono hc hs⟩
theorem g_retV (X : Stand p l e R s m args below meth c T locs cells slots) (hx : p.tables.exec = Jvm.exec) (hret : meth.sig.returnType = none) (hlk : meth.locks = false) (hd : decode c.code pc = .ok (.return_, 1)) (hc : cells ≤ rc) (hs : slots ≤ rs) (hQ : Q none T.heap locs) : Go p e below s Q rc rs (T.setTop (mkF m pc Ls [])) := by
  obtain ⟨fs, hr, hrun, hended, hW, hsame⟩ := X.leave (v := none) (fun _ => rfl) hlk
  exact ⟨_, _, X.returnOut hx hret hd hr, hrun, hended, _, _, rfl, hQ, ⟨_, rfl⟩, hW, hsame.mono hc hs⟩
theorem g_body {y : MethodName} {bytes : ByteArray} {maxL : Nat} {ret : Option FieldType} {ws : List Jvm.Cond} {rm : Room} {as : Array Value} (hpn : plainFor y = true)
    (body : ∀ p e s m below meth c T, Stand p l e rm s m as below meth c T [] 0 0 → p.tables.exec = Jvm.exec → c.code = bytes → c.maxLocals = maxL → meth.sig.returnType = ret → meth.locks = false → s.vm.findClass y.cls = some m.cls → meth.name = y.name → Z.Warmed39 s.vm → T.heap = h → Go p e below s Q rc rs (T.setTop (entryFrame m as maxL))) :
    MetFree l y (head1 (Jvm.Cond.code y bytes maxL ret :: ws) rm) (fun a U => a = as ∧ Z.Warmed39 U.vm ∧ U.heap = h) (fun _ _ _ _ _ => True) (fun _ U o U' => ∃ v L, o = .returned v ∧ Q v U'.heap L ∧ FrameEnd U o U' L rc rs) := by
  refine MetFree.of_bodySF hpn hisR ?_
  intro p e s m args below meth c s₁ Bd hml hP hK
  obtain ⟨rfl, hZ, hh⟩ := hP
  exact body p e s m below meth c s₁ (Stand.of_body Bd) Bd.exec Bd.bytes hml Bd.returns Bd.notSynchronized (findClass_of_methodNamed Bd.named) (name_of_methodNamed Bd.named Bd.method).1 hZ (by rw [← hh, Bd.state]; rfl)
theorem g_callS (X : Stand p l e R s m args below meth c T locs cells slots) (hx : p.tables.exec = Jvm.exec) (hZ : Z.Warmed39 s.vm) {own : String} {i : Nat} {y : MethodName} {bytes : ByteArray} {maxL : Nat} {ret : Option FieldType} {rm : Room} {as : Array Value} {Q' : Option Value → Heap → List Loc → Prop} (hown : s.vm.findClass own = some m.cls) (w1 : (Jvm.Cond.methodLink own i y).before a0 Z = true) (w2 : (Jvm.Cond.static y).before a0 Z = true) (w3 : (Jvm.Cond.initialized y.cls).before a0 Z = true) (w4 : (Jvm.Cond.code y bytes maxL ret).before a0 Z = true) (hy : y.cls ≠ "java/lang/invoke/MethodHandle" ∧ y.cls ≠ "java/lang/invoke/VarHandle") (eT : T.heap = h) (hM : MetFree l y (head1 [Jvm.Cond.code y bytes maxL ret] rm) (fun a U => a = as ∧ Z.Warmed39 U.vm ∧ U.heap = h) (fun _ _ _ _ _ => True) (fun _ U o U' => ∃ v L, o = .returned v ∧ Q' v U'.heap L ∧ FrameEnd U o U' L rm.cells rm.slots)) (argsL rest : List Value) (W : Nat) (has : argsL.toArray = as) (hlen : ∀ sig, parseMethodDescriptor y.desc = some sig → argsL.length = sig.parameters.length) (hst : st = argsL.reverse ++ rest) (hW : (rest.map fun v => v.category).sum ≤ W) (hf : rm.frames + 1 ≤ R.frames) (hlo : W + (maxL + 11) + rm.locals ≤ R.locals) (hcl : cells + rm.cells ≤ R.cells) (hsl : slots + rm.slots ≤ R.slots) (hsz : Ls.size = c.maxLocals) (hd : decode c.code pc = .ok (.invokestatic i, 3)) (k : ∀ T' L v, Stand p l e R s m args below meth c T' (locs ++ L) (cells + rm.cells) (slots + rm.slots) → Q' v T'.heap L → Go p e below s Q rc rs (T'.setTop (mkF m (pc + 3) Ls (v.toList ++ rest)))) : Go p e below s Q rc rs (T.setTop (mkF m pc Ls st)) := by
  subst hst has
  obtain ⟨_, _, ⟨T', L', k', n'⟩, -, X', ⟨Lc, hQ, e1, e2, e3⟩, stp⟩ := Jvm.LawKit.callS X hx (y := y) hown (mvT hZ w1) (mvT hZ w2) (mvT hZ w3) (mvT hZ w4) hy (backOf (W := W) hM hZ w4 w3 hf hlo) (g := mkF m pc Ls (argsL.reverse ++ rest)) rfl hsz (argsL := argsL) (rest := rest) hlen rfl (by show 2 * 0 + _ ≤ _; omega) hd (fun _ _ => ⟨rfl, eT, hcl, hsl⟩)
  dsimp only [Pt.U, Pt.locs, Pt.cells, Pt.slots] at X' e1 e2 e3 stp hQ
  subst e1 e2 e3
  exact (k _ _ _ X' hQ).by stp
theorem g_callI (X : Stand p l e R s m args below meth c T locs cells slots) (hx : p.tables.exec = Jvm.exec) (hZ : Z.Warmed39 s.vm) {own : String} {i : Nat} {y : MethodName} {bytes : ByteArray} {maxL : Nat} {rm : Room} {as : Array Value} {Q' : Option Value → Heap → List Loc → Prop} (hy1 : y.name = "<init>") (hown : s.vm.findClass own = some m.cls) (w1 : (Jvm.Cond.methodLink own i y).before a0 Z = true) (w2 : (Jvm.Cond.instanceMethod y).before a0 Z = true) (w3 : (Jvm.Cond.initialized y.cls).before a0 Z = true) (w4 : (Jvm.Cond.code y bytes maxL none).before a0 Z = true) (hy : y.cls ≠ "java/lang/invoke/MethodHandle" ∧ y.cls ≠ "java/lang/invoke/VarHandle") (eT : T.heap = h) (hM : MetFree l y (head1 [Jvm.Cond.code y bytes maxL none] rm) (fun a U => a = as ∧ Z.Warmed39 U.vm ∧ U.heap = h) (fun _ _ _ _ _ => True) (fun _ U o U' => ∃ v L, o = .returned v ∧ Q' v U'.heap L ∧ FrameEnd U o U' L rm.cells rm.slots)) (b : Addr) (argsL rest : List Value) (W : Nat) (has : (.ref b :: argsL : List Value).toArray = as) (hlen : ∀ sig, parseMethodDescriptor y.desc = some sig → argsL.length = sig.parameters.length) (hst : st = argsL.reverse ++ .ref b :: rest) (hW : (rest.map fun v => v.category).sum ≤ W) (hf : rm.frames + 1 ≤ R.frames) (hlo : W + (maxL + 11) + rm.locals ≤ R.locals) (hcl : cells + rm.cells ≤ R.cells) (hsl : slots + rm.slots ≤ R.slots) (hsz : Ls.size = c.maxLocals) (hd : decode c.code pc = .ok (.invokespecial i, 3)) (k : ∀ T' L v, Stand p l e R s m args below meth c T' (locs ++ L) (cells + rm.cells) (slots + rm.slots) → Q' v T'.heap L → Go p e below s Q rc rs (T'.setTop (mkF m (pc + 3) Ls (v.toList ++ rest)))) : Go p e below s Q rc rs (T.setTop (mkF m pc Ls st)) := by
  subst hst has
  obtain ⟨_, _, ⟨T', L', k', n'⟩, -, X', ⟨Lc, hQ, e1, e2, e3⟩, stp⟩ := X.specialBack hx (y := y) hy1 hown (mvT hZ w1) (mvT hZ w2) (mvT hZ w4) hy (backOf (W := W) hM hZ w4 w3 hf hlo) (g := mkF m pc Ls (argsL.reverse ++ .ref b :: rest)) rfl hsz (Steps.refl _) (a := b) (argsL := argsL) (rest := rest) hlen rfl (by show 2 * 0 + _ ≤ _; omega) hd (fun _ _ => ⟨rfl, eT, hcl, hsl⟩)
  dsimp only [Pt.U, Pt.locs, Pt.cells, Pt.slots] at X' e1 e2 e3 stp hQ
  subst e1 e2 e3
  exact (k _ _ _ X' hQ).by fun t k => stp.trans k
theorem g_callV (X : Stand p l e R s m args below meth c T locs cells slots) (hx : p.tables.exec = Jvm.exec) (hZ : Z.Warmed39 s.vm) {own C : String} {i : Nat} {y : MethodName} {bytes : ByteArray} {maxL : Nat} {ret : Option FieldType} {rm : Room} {as : Array Value} {Q' : Option Value → Heap → List Loc → Prop} (hown : s.vm.findClass own = some m.cls) (w1 : (Jvm.Cond.methodLink own i y).before a0 Z = true) (w2 : (Jvm.Cond.declares y).before a0 Z = true) (w5 : (Jvm.Cond.selects C y y).before a0 Z = true) (w6 : (Jvm.Cond.instanceMethod y).before a0 Z = true) (w3 : (Jvm.Cond.initialized y.cls).before a0 Z = true) (w4 : (Jvm.Cond.code y bytes maxL ret).before a0 Z = true) (hy : y.cls ≠ "java/lang/invoke/MethodHandle" ∧ y.cls ≠ "java/lang/invoke/VarHandle") (eT : T.heap = h) (b : Addr) (E : Exa Z h b C) (hM : MetFree l y (head1 [Jvm.Cond.code y bytes maxL ret] rm) (fun a U => a = as ∧ Z.Warmed39 U.vm ∧ U.heap = h) (fun _ _ _ _ _ => True) (fun _ U o U' => ∃ v L, o = .returned v ∧ Q' v U'.heap L ∧ FrameEnd U o U' L rm.cells rm.slots)) (argsL rest : List Value) (W : Nat) (has : (.ref b :: argsL : List Value).toArray = as) (hlen : ∀ sig, parseMethodDescriptor y.desc = some sig → argsL.length = sig.parameters.length) (hst : st = argsL.reverse ++ .ref b :: rest) (hW : (rest.map fun v => v.category).sum ≤ W) (hf : rm.frames + 1 ≤ R.frames) (hlo : W + (maxL + 11) + rm.locals ≤ R.locals) (hcl : cells + rm.cells ≤ R.cells) (hsl : slots + rm.slots ≤ R.slots) (hsz : Ls.size = c.maxLocals) (hd : decode c.code pc = .ok (.invokevirtual i, 3)) (k : ∀ T' L v, Stand p l e R s m args below meth c T' (locs ++ L) (cells + rm.cells) (slots + rm.slots) → Q' v T'.heap L → Go p e below s Q rc rs (T'.setTop (mkF m (pc + 3) Ls (v.toList ++ rest)))) : Go p e below s Q rc rs (T.setTop (mkF m pc Ls st)) := by
  subst hst has
  obtain ⟨cq, kq, qa, qb, qc⟩ := isOf hZ eT E
  obtain ⟨_, _, ⟨T', L', k', n'⟩, -, X', ⟨Lc, hQ, e1, e2, e3⟩, stp⟩ := X.virtualBack hx (y := y) (z := y) hown (mvT hZ w1) (mvT hZ w2) (notFace_of_selects (args := #[]) (mvT hZ w5)) (mvT hZ w5) (mvT hZ w6) hy (backOf (W := W) hM hZ w4 w3 hf hlo) qa qc (g := mkF m pc Ls (argsL.reverse ++ .ref b :: rest)) rfl hsz (Steps.refl _) (argsL := argsL) (rest := rest) hlen rfl (by show 2 * 0 + _ ≤ _; omega) hd (fun _ _ => ⟨rfl, eT, hcl, hsl⟩)
  dsimp only [Pt.U, Pt.locs, Pt.cells, Pt.slots] at X' e1 e2 e3 stp hQ
  subst e1 e2 e3
  exact (k _ _ _ X' hQ).by fun t k => stp.trans k
theorem g_callP (X : Stand p l e R s m args below meth c T locs cells slots) (hx : p.tables.exec = Jvm.exec) (hZ : Z.Warmed39 s.vm) {own C : String} {i : Nat} {y : MethodName} {bytes : ByteArray} {maxL : Nat} {ret : Option FieldType} {rm : Room} {as : Array Value} {Q' : Option Value → Heap → List Loc → Prop} (hown : s.vm.findClass own = some m.cls) (w1 : (Jvm.Cond.methodLink own i y).before a0 Z = true) (w2 : (Jvm.Cond.instanceMethod y).before a0 Z = true) {kk : Nat} (w5 : (Jvm.Cond.instantiable y.cls kk).before a0 Z = true) (w6 : (Jvm.Cond.privateMethod y).before a0 Z = true) (w3 : (Jvm.Cond.initialized y.cls).before a0 Z = true) (w4 : (Jvm.Cond.code y bytes maxL ret).before a0 Z = true) (hy : y.cls ≠ "java/lang/invoke/MethodHandle" ∧ y.cls ≠ "java/lang/invoke/VarHandle") (eT : T.heap = h) (b : Addr) (E : Exa Z h b C) (hM : MetFree l y (head1 [Jvm.Cond.code y bytes maxL ret] rm) (fun a U => a = as ∧ Z.Warmed39 U.vm ∧ U.heap = h) (fun _ _ _ _ _ => True) (fun _ U o U' => ∃ v L, o = .returned v ∧ Q' v U'.heap L ∧ FrameEnd U o U' L rm.cells rm.slots)) (argsL rest : List Value) (W : Nat) (has : (.ref b :: argsL : List Value).toArray = as) (hlen : ∀ sig, parseMethodDescriptor y.desc = some sig → argsL.length = sig.parameters.length) (hst : st = argsL.reverse ++ .ref b :: rest) (hW : (rest.map fun v => v.category).sum ≤ W) (hf : rm.frames + 1 ≤ R.frames) (hlo : W + (maxL + 11) + rm.locals ≤ R.locals) (hcl : cells + rm.cells ≤ R.cells) (hsl : slots + rm.slots ≤ R.slots) (hsz : Ls.size = c.maxLocals) (hd : decode c.code pc = .ok (.invokevirtual i, 3)) (k : ∀ T' L v, Stand p l e R s m args below meth c T' (locs ++ L) (cells + rm.cells) (slots + rm.slots) → Q' v T'.heap L → Go p e below s Q rc rs (T'.setTop (mkF m (pc + 3) Ls (v.toList ++ rest)))) : Go p e below s Q rc rs (T.setTop (mkF m pc Ls st)) := by
  subst hst has
  obtain ⟨cq, q, q'⟩ := E.cell
  have hpv := Cond.privateMethod_at (mvP hZ w6 (args := #[]))
  obtain ⟨c1, k1, r1, r2, -, r4, -⟩ := Cond.instantiable_spec (mvT hZ w5 (args := args))
  have hsel : (Jvm.Cond.selects y.cls y y).before args s = true := selects_self_of_private r1 r2 (Bool.or_eq_false_iff.mp r4).1 hpv (mvT hZ w2) hy
  obtain ⟨_, _, ⟨T', L', k', n'⟩, -, X', ⟨Lc, hQ, e1, e2, e3⟩, stp⟩ := X.privateBack hx (y := y) hown (mvT hZ w1) (mvT hZ w2) hsel hpv (mvT hZ w4) hy (backOf (W := W) hM hZ w4 w3 hf hlo) (g := mkF m pc Ls (argsL.reverse ++ .ref b :: rest)) rfl hsz (Steps.refl _) (a := b) (by rw [eT]; exact q) q' (argsL := argsL) (rest := rest) hlen rfl (by show 2 * 0 + _ ≤ _; omega) hd (fun _ _ => ⟨rfl, eT, hcl, hsl⟩)
  dsimp only [Pt.U, Pt.locs, Pt.cells, Pt.slots] at X' e1 e2 e3 stp hQ
  subst e1 e2 e3
  exact (k _ _ _ X' hQ).by fun t k => stp.trans k
theorem g_initO (X : Stand p l e R s m args below meth c T locs cells slots) (hx : p.tables.exec = Jvm.exec) (hZ : Z.Warmed39 s.vm) {own : String} {i : Nat} (hown : s.vm.findClass own = some m.cls) (w1 : (Jvm.Cond.methodLink own i Lib.objectInit).before a0 Z = true) (w2 : (Jvm.Cond.instanceMethod Lib.objectInit).before a0 Z = true) (w3 : (Jvm.Cond.code Lib.objectInit ⟨#[0xb1]⟩ 1 none).before a0 Z = true) (eT : T.heap = h) {b : Addr} (pc' : Nat) (hsz : Ls.size = c.maxLocals) (hd : decode c.code pc = .ok (.invokespecial i, 3)) (hf : 1 ≤ R.frames) (W : Nat) (hW : (st.map fun v => v.category).sum ≤ W) (hlo : W + 12 ≤ R.locals) (hp : pc + 3 = pc') (k : ∀ T', Stand p l e R s m args below meth c T' locs cells slots → T'.heap = h → Go p e below s Q rc rs (T'.setTop (mkF m pc' Ls st))) : Go p e below s Q rc rs (T.setTop (mkF m pc Ls (.ref b :: st))) := by
  subst hp
  obtain ⟨T', X', e', stp⟩ := initO X hx hZ hown w1 w2 w3 eT (g := mkF m pc Ls (.ref b :: st)) rfl hsz rfl hd hf (W := W) (by show 2 * 0 + _ ≤ _; omega) hlo
  exact (k _ X' e').by stp
theorem g_getF (X : Stand p l e R s m args below meth c T locs cells slots) (hx : p.tables.exec = Jvm.exec) (hZ : Z.Warmed39 s.vm) {own R0 O n d : String} {i : Nat} (hown : s.vm.findClass own = some m.cls) (w : (Jvm.Cond.fieldLink own i R0 n d).before a0 Z = true) (via : Via Z R0 O n d) (eT : T.heap = h) {b : Addr} {v : Value} (F : Fld Z h b O n d v) (pc' : Nat) (hd : decode c.code pc = .ok (.getfield i, 3)) (hp : pc + 3 = pc') (k : ∀ T', Stand p l e R s m args below meth c T' locs cells slots → T'.heap = h → Go p e below s Q rc rs (T'.setTop (mkF m pc' Ls (v :: st)))) : Go p e below s Q rc rs (T.setTop (mkF m pc Ls (.ref b :: st))) := by
  subst hp
  obtain ⟨T', X', e', stp⟩ := getF X hx hZ hown (host := "") (Or.inl w) via eT F (g := mkF m pc Ls (.ref b :: st)) rfl rfl hd
  exact (k _ X' e').by stp
theorem g_putF (X : Stand p l e R s m args below meth c T locs cells slots) (hx : p.tables.exec = Jvm.exec) (hZ : Z.Warmed39 s.vm) {own R0 O n d C : String} {i kk : Nat} {ty : FieldType} (hown : s.vm.findClass own = some m.cls) (w : (Jvm.Cond.fieldLink own i R0 n d).before a0 Z = true) (via : Via Z R0 O n d) (eT : T.heap = h) {b : Addr} {v old : Value} (F : Fld Z h b O n d old) (E : Exa Z h b C) (L : (Jvm.Cond.lays C O n d).before a0 Z = true ∨ ((Jvm.Cond.laysFinal C O n d).before a0 Z = true ∧ own = O ∧ meth.name = "<init>")) (wi : (Jvm.Cond.instantiable C kk).before a0 Z = true) (hty : parseFieldDescriptor d = some ty) (hn : narrow ty v = v) (hf : fits ty v = true) (pc' : Nat) (hd : decode c.code pc = .ok (.putfield i, 3)) (hp : pc + 3 = pc') (k : ∀ T' h', Stand p l e R s m args below meth c T' (locs ++ [⟨b, Jvm.RoadKit.slotOf Z O n d⟩]) cells slots → T'.heap = h' → Wr h h' b (Jvm.RoadKit.slotOf Z O n d) v → Go p e below s Q rc rs (T'.setTop (mkF m pc' Ls st))) : Go p e below s Q rc rs (T.setTop (mkF m pc Ls (v :: .ref b :: st))) := by
  subst hp
  obtain ⟨T', h', X', e', W', stp⟩ := putF X hx hZ hown (host := "") (Or.inl w) via eT F E L wi hty hn hf (g := mkF m pc Ls (v :: .ref b :: st)) rfl rfl hd
  exact (k _ _ X' e' W').by stp
theorem g_new (X : Stand p l e R s m args below meth c T locs cells slots) (hx : p.tables.exec = Jvm.exec) (hZ : Z.Warmed39 s.vm) {own C : String} {i n : Nat} (hown : s.vm.findClass own = some m.cls) (w : (Jvm.Cond.classLink own i C).before a0 Z = true) (wi : (Jvm.Cond.instantiable C n).before a0 Z = true) (wz : (Jvm.Cond.initialized C).before a0 Z = true) (eT : T.heap = h) (pc' : Nat) (hd : decode c.code pc = .ok (.new i, 3)) (hcl : cells + 1 ≤ R.cells) (hsl : slots + n ≤ R.slots) (hp : pc + 3 = pc') (k : ∀ T' h' b, b = h.size → Stand p l e R s m args below meth c T' locs (cells + 1) (slots + n) → T'.heap = h' → Ext h h' → Exa Z h' b C → (∀ {O nm d : String} {ty : FieldType}, Laid Z a0 C O nm d → parseFieldDescriptor d = some ty → Fld Z h' b O nm d (defaultValue ty)) → Go p e below s Q rc rs (T'.setTop (mkF m pc' Ls (.ref b :: st)))) : Go p e below s Q rc rs (T.setTop (mkF m pc Ls st)) := by
  subst hp
  obtain ⟨T', h', X', e', E', A', D', -, stp⟩ := newO X hx hZ hown w wi wz eT (g := mkF m pc Ls st) rfl hd hcl hsl
  exact (k _ _ _ rfl X' e' E' A' D').by stp
/-- an array of n places whose j-th holds f j -/
def AV (Z : State) (h : Heap) (a : Addr) (ty : FieldType) (n : Nat) (f : Nat → Value) : Prop := ∃ c : Cell, Arr Z h a c ty ∧ c.slots.size = n ∧ n < 2 ^ 31 ∧ ∀ j, j < n → c.slots[j]? = some (f j)
theorem AV.ext {h' : Heap} {a : Addr} {ty : FieldType} {n : Nat} {f : Nat → Value} (F : AV Z h a ty n f) (E : Ext h h') : AV Z h' a ty n f := by obtain ⟨c, A, r⟩ := F; exact ⟨c, A.ext E, r⟩
theorem AV.other {h' : Heap} {a b : Addr} {ty : FieldType} {n sl : Nat} {f : Nat → Value} {v : Value} (F : AV Z h a ty n f) (W : Wr h h' b sl v) (q : a ≠ b) : AV Z h' a ty n f := by obtain ⟨c, A, r⟩ := F; exact ⟨c, A.other W q, r⟩
theorem AV.keep {h' : Heap} {a : Addr} {ws : List Addr} {ty : FieldType} {n : Nat} {f : Nat → Value} (F : AV Z h a ty n f) (K : Keep h h' ws) (q : a ∉ ws) : AV Z h' a ty n f := by obtain ⟨c, A, r⟩ := F; exact ⟨c, ⟨K.2.1 a c A.1 q, A.2⟩, r⟩
theorem AV.lt {a : Addr} {ty : FieldType} {n : Nat} {f : Nat → Value} (F : AV Z h a ty n f) : a < h.size := by obtain ⟨c, A, -⟩ := F; exact A.lt
theorem AV.small {a : Addr} {ty : FieldType} {n : Nat} {f : Nat → Value} (F : AV Z h a ty n f) : n < 2 ^ 31 := by obtain ⟨c, -, -, q, -⟩ := F; exact q
theorem AV.congr {a : Addr} {ty : FieldType} {n : Nat} {f g : Nat → Value} (F : AV Z h a ty n f) (q : ∀ j, j < n → f j = g j) : AV Z h a ty n g := by obtain ⟨c, A, r1, r2, r3⟩ := F; exact ⟨c, A, r1, r2, fun j hj => by rw [r3 j hj, q j hj]⟩
theorem own_idx {j : Int32} {i : Nat} (q : j.toInt = i) : ¬ j < 0 ∧ j.toNatClampNeg = i := by
  refine ⟨?_, ?_⟩
  · rw [Int32.lt_iff_toInt_lt, q]; simp
  · show j.toInt.toNat = i; omega
theorem own_in {j : Int32} {i : Nat} {cl : Cell} (q : j.toInt = i) (hi : i < cl.slots.size) : ¬ (j < 0 ∨ cl.slots.size ≤ j.toNatClampNeg) := by
  obtain ⟨q1, q2⟩ := own_idx q
  rintro (z | z)
  · exact q1 z
  · omega
def upd {α : Type} (g : Nat → α) (j : Nat) (x : α) : Nat → α := fun q => if q = j then x else g q
def AI (Z : State) (h : Heap) (a : Addr) (n : Nat) (g : Nat → Int32) : Prop := AV Z h a .int n (fun j => .int (g j))
def AJ (Z : State) (h : Heap) (a : Addr) (n : Nat) (g : Nat → Int64) : Prop := AV Z h a .long n (fun j => .long (g j))
def AB (Z : State) (h : Heap) (a : Addr) (n : Nat) (g : Nat → Int32) : Prop := AV Z h a .byte n (fun j => .int (g j))
theorem nm0 {a : Addr} : a ∉ ([] : List Addr) := nofun
theorem nm1 {a b : Addr} {ws : List Addr} (q : a ≠ b) (r : a ∉ ws) : a ∉ b :: ws := fun z => by
  rcases List.mem_cons.mp z with z | z
  · exact q z
  · exact r z
theorem AI.ext {h' : Heap} {a : Addr} {n : Nat} {g : Nat → Int32} (F : AI Z h a n g) (E : Ext h h') : AI Z h' a n g := AV.ext F E
theorem AI.other {h' : Heap} {a b : Addr} {n sl : Nat} {g : Nat → Int32} {v : Value} (F : AI Z h a n g) (W : Wr h h' b sl v) (q : a ≠ b) : AI Z h' a n g := AV.other F W q
theorem AI.keep {h' : Heap} {a : Addr} {ws : List Addr} {n : Nat} {g : Nat → Int32} (F : AI Z h a n g) (K : Keep h h' ws) (q : a ∉ ws) : AI Z h' a n g := AV.keep F K q
theorem AI.lt {a : Addr} {n : Nat} {g : Nat → Int32} (F : AI Z h a n g) : a < h.size := AV.lt F
theorem AI.small {a : Addr} {n : Nat} {g : Nat → Int32} (F : AI Z h a n g) : n < 2 ^ 31 := AV.small F
theorem AI.congr {a : Addr} {n : Nat} {g g' : Nat → Int32} (F : AI Z h a n g) (q : ∀ j, j < n → g j = g' j) : AI Z h a n g' := AV.congr F fun j hj => by rw [q j hj]
theorem AJ.ext {h' : Heap} {a : Addr} {n : Nat} {g : Nat → Int64} (F : AJ Z h a n g) (E : Ext h h') : AJ Z h' a n g := AV.ext F E
theorem AJ.other {h' : Heap} {a b : Addr} {n sl : Nat} {g : Nat → Int64} {v : Value} (F : AJ Z h a n g) (W : Wr h h' b sl v) (q : a ≠ b) : AJ Z h' a n g := AV.other F W q
theorem AJ.keep {h' : Heap} {a : Addr} {ws : List Addr} {n : Nat} {g : Nat → Int64} (F : AJ Z h a n g) (K : Keep h h' ws) (q : a ∉ ws) : AJ Z h' a n g := AV.keep F K q
theorem AJ.lt {a : Addr} {n : Nat} {g : Nat → Int64} (F : AJ Z h a n g) : a < h.size := AV.lt F
theorem AJ.small {a : Addr} {n : Nat} {g : Nat → Int64} (F : AJ Z h a n g) : n < 2 ^ 31 := AV.small F
theorem AJ.congr {a : Addr} {n : Nat} {g g' : Nat → Int64} (F : AJ Z h a n g) (q : ∀ j, j < n → g j = g' j) : AJ Z h a n g' := AV.congr F fun j hj => by rw [q j hj]
theorem AB.ext {h' : Heap} {a : Addr} {n : Nat} {g : Nat → Int32} (F : AB Z h a n g) (E : Ext h h') : AB Z h' a n g := AV.ext F E
theorem AB.other {h' : Heap} {a b : Addr} {n sl : Nat} {g : Nat → Int32} {v : Value} (F : AB Z h a n g) (W : Wr h h' b sl v) (q : a ≠ b) : AB Z h' a n g := AV.other F W q
theorem AB.keep {h' : Heap} {a : Addr} {ws : List Addr} {n : Nat} {g : Nat → Int32} (F : AB Z h a n g) (K : Keep h h' ws) (q : a ∉ ws) : AB Z h' a n g := AV.keep F K q
theorem AB.lt {a : Addr} {n : Nat} {g : Nat → Int32} (F : AB Z h a n g) : a < h.size := AV.lt F
theorem AB.small {a : Addr} {n : Nat} {g : Nat → Int32} (F : AB Z h a n g) : n < 2 ^ 31 := AV.small F
theorem AB.congr {a : Addr} {n : Nat} {g g' : Nat → Int32} (F : AB Z h a n g) (q : ∀ j, j < n → g j = g' j) : AB Z h a n g' := AV.congr F fun j hj => by rw [q j hj]
theorem g_iaload (X : Stand p l e R s m args below meth c T locs cells slots) (hx : p.tables.exec = Jvm.exec) (hZ : Z.Warmed39 s.vm) (eT : T.heap = h) {b : Addr} {n : Nat} {g : Nat → Int32} (A : AI Z h b n g) {j : Int32} (jn : Nat) (hj : j.toInt = jn) (hlt : jn < n) (pc' : Nat) (hd : decode c.code pc = .ok (.iaload, 1)) (hp : pc + 1 = pc') (k : Go p e below s Q rc rs (T.setTop (mkF m pc' Ls (.int (g jn) :: st)))) : Go p e below s Q rc rs (T.setTop (mkF m pc Ls (.int j :: .ref b :: st))) := by
  subst hp
  obtain ⟨cl, A1, A2, A3, A4⟩ := A
  exact k.by fun t k => X.iaload hx (j := j) (by rw [eT]; exact A1.1) (State.isArrayOf_alike hZ.alike A1.2.1) A1.2.2 (own_in hj (by omega)) (by rw [(own_idx hj).2]; exact A4 _ hlt) (g := mkF m pc Ls (.int j :: .ref b :: st)) rfl rfl hd t k
theorem g_laload (X : Stand p l e R s m args below meth c T locs cells slots) (hx : p.tables.exec = Jvm.exec) (hZ : Z.Warmed39 s.vm) (eT : T.heap = h) {b : Addr} {n : Nat} {g : Nat → Int64} (A : AJ Z h b n g) {j : Int32} (jn : Nat) (hj : j.toInt = jn) (hlt : jn < n) (pc' : Nat) (hd : decode c.code pc = .ok (.laload, 1)) (hp : pc + 1 = pc') (k : Go p e below s Q rc rs (T.setTop (mkF m pc' Ls (.long (g jn) :: st)))) : Go p e below s Q rc rs (T.setTop (mkF m pc Ls (.int j :: .ref b :: st))) := by
  subst hp
  obtain ⟨cl, A1, A2, A3, A4⟩ := A
  exact k.by fun t k => X.laload hx (j := j) (by rw [eT]; exact A1.1) (State.isArrayOf_alike hZ.alike A1.2.1) A1.2.2 (own_in hj (by omega)) (by rw [(own_idx hj).2]; exact A4 _ hlt) (g := mkF m pc Ls (.int j :: .ref b :: st)) rfl rfl hd t k
theorem g_baload (X : Stand p l e R s m args below meth c T locs cells slots) (hx : p.tables.exec = Jvm.exec) (hZ : Z.Warmed39 s.vm) (eT : T.heap = h) {b : Addr} {n : Nat} {g : Nat → Int32} (A : AB Z h b n g) {j : Int32} (jn : Nat) (hj : j.toInt = jn) (hlt : jn < n) (pc' : Nat) (hd : decode c.code pc = .ok (.baload, 1)) (hp : pc + 1 = pc') (k : Go p e below s Q rc rs (T.setTop (mkF m pc' Ls (.int (g jn) :: st)))) : Go p e below s Q rc rs (T.setTop (mkF m pc Ls (.int j :: .ref b :: st))) := by
  subst hp
  obtain ⟨cl, A1, A2, A3, A4⟩ := A
  exact k.by fun t k => X.baloadBytes hx (j := j) (by rw [eT]; exact A1.1) (State.isArrayOf_alike hZ.alike A1.2.1) A1.2.2 (own_in hj (by omega)) (by rw [(own_idx hj).2]; exact A4 _ hlt) (g := mkF m pc Ls (.int j :: .ref b :: st)) rfl rfl hd t k
theorem g_iastore (X : Stand p l e R s m args below meth c T locs cells slots) (hx : p.tables.exec = Jvm.exec) (hZ : Z.Warmed39 s.vm) (eT : T.heap = h) {b : Addr} {n : Nat} {g : Nat → Int32} (A : AI Z h b n g) {j : Int32} {x : Int32} (jn : Nat) (hj : j.toInt = jn) (hlt : jn < n) (pc' : Nat) (hd : decode c.code pc = .ok (.iastore, 1)) (hp : pc + 1 = pc') (k : ∀ T' h', Stand p l e R s m args below meth c T' (locs ++ [⟨b, jn⟩]) cells slots → T'.heap = h' → Wr h h' b jn (.int x) → AI Z h' b n (upd g jn x) → Go p e below s Q rc rs (T'.setTop (mkF m pc' Ls st))) : Go p e below s Q rc rs (T.setTop (mkF m pc Ls (.int x :: .int j :: .ref b :: st))) := by
  subst hp
  obtain ⟨cl, A1, A2, A3, A4⟩ := A
  obtain ⟨T', h', X', e', W', stp⟩ := stI X hx hZ eT A1 (j := j) (x := x) (own_in hj (by omega)) (g := mkF m pc Ls (.int x :: .int j :: .ref b :: st)) rfl rfl hd
  rw [(own_idx hj).2] at X' W'
  refine (k _ _ X' e' W' ⟨_, A1.same W', by rw [sz_set]; exact A2, A3, fun q hq => ?_⟩).by stp
  by_cases z : q = jn
  · subst z; simp [Cell.setSlot, A2, hq, upd]; try rfl
  · simp only [upd, z, if_false]; rw [← A4 q hq]; simp only [Cell.setSlot]; rw [Array.getElem?_setIfInBounds_ne (Ne.symm z)]
theorem g_lastore (X : Stand p l e R s m args below meth c T locs cells slots) (hx : p.tables.exec = Jvm.exec) (hZ : Z.Warmed39 s.vm) (eT : T.heap = h) {b : Addr} {n : Nat} {g : Nat → Int64} (A : AJ Z h b n g) {j : Int32} {x : Int64} (jn : Nat) (hj : j.toInt = jn) (hlt : jn < n) (pc' : Nat) (hd : decode c.code pc = .ok (.lastore, 1)) (hp : pc + 1 = pc') (k : ∀ T' h', Stand p l e R s m args below meth c T' (locs ++ [⟨b, jn⟩]) cells slots → T'.heap = h' → Wr h h' b jn (.long x) → AJ Z h' b n (upd g jn x) → Go p e below s Q rc rs (T'.setTop (mkF m pc' Ls st))) : Go p e below s Q rc rs (T.setTop (mkF m pc Ls (.long x :: .int j :: .ref b :: st))) := by
  subst hp
  obtain ⟨cl, A1, A2, A3, A4⟩ := A
  obtain ⟨T', h', X', e', W', stp⟩ := stJ X hx hZ eT A1 (j := j) (x := x) (own_in hj (by omega)) (g := mkF m pc Ls (.long x :: .int j :: .ref b :: st)) rfl rfl hd
  rw [(own_idx hj).2] at X' W'
  refine (k _ _ X' e' W' ⟨_, A1.same W', by rw [sz_set]; exact A2, A3, fun q hq => ?_⟩).by stp
  by_cases z : q = jn
  · subst z; simp [Cell.setSlot, A2, hq, upd]; try rfl
  · simp only [upd, z, if_false]; rw [← A4 q hq]; simp only [Cell.setSlot]; rw [Array.getElem?_setIfInBounds_ne (Ne.symm z)]
theorem g_bastore (X : Stand p l e R s m args below meth c T locs cells slots) (hx : p.tables.exec = Jvm.exec) (hZ : Z.Warmed39 s.vm) (eT : T.heap = h) {b : Addr} {n : Nat} {g : Nat → Int32} (A : AB Z h b n g) {j : Int32} {x : Int32} (jn : Nat) (hj : j.toInt = jn) (hlt : jn < n) (pc' : Nat) (hd : decode c.code pc = .ok (.bastore, 1)) (hp : pc + 1 = pc') (k : ∀ T' h', Stand p l e R s m args below meth c T' (locs ++ [⟨b, jn⟩]) cells slots → T'.heap = h' → Wr h h' b jn (.int (nar .byte x)) → AB Z h' b n (upd g jn (i2bI x)) → Go p e below s Q rc rs (T'.setTop (mkF m pc' Ls st))) : Go p e below s Q rc rs (T.setTop (mkF m pc Ls (.int x :: .int j :: .ref b :: st))) := by
  subst hp
  obtain ⟨cl, A1, A2, A3, A4⟩ := A
  obtain ⟨T', h', X', e', W', stp⟩ := stB X hx hZ eT A1 (j := j) (x := x) (own_in hj (by omega)) (g := mkF m pc Ls (.int x :: .int j :: .ref b :: st)) rfl rfl hd
  rw [(own_idx hj).2] at X' W'
  refine (k _ _ X' e' W' ⟨_, A1.same W', by rw [sz_set]; exact A2, A3, fun q hq => ?_⟩).by stp
  by_cases z : q = jn
  · subst z; simp [Cell.setSlot, A2, hq, upd]; try rfl
  · simp only [upd, z, if_false]; rw [← A4 q hq]; simp only [Cell.setSlot]; rw [Array.getElem?_setIfInBounds_ne (Ne.symm z)]
theorem g_arraylengthI (X : Stand p l e R s m args below meth c T locs cells slots) (hx : p.tables.exec = Jvm.exec) (hZ : Z.Warmed39 s.vm) (eT : T.heap = h) {b : Addr} {n : Nat} {g : Nat → Int32} (A : AI Z h b n g) (v : Int32) (hv : n.toInt32 = v) (pc' : Nat) (hd : decode c.code pc = .ok (.arraylength, 1)) (hp : pc + 1 = pc') (k : Go p e below s Q rc rs (T.setTop (mkF m pc' Ls (.int v :: st)))) : Go p e below s Q rc rs (T.setTop (mkF m pc Ls (.ref b :: st))) := by
  subst hp hv
  obtain ⟨cl, A1, A2, A3, A4⟩ := A
  subst A2
  exact k.by fun t k => X.arraylength hx (by rw [eT]; exact A1.1) (State.isArrayOf_alike hZ.alike A1.2.1) (g := mkF m pc Ls (.ref b :: st)) rfl rfl hd t k
theorem g_arraylengthJ (X : Stand p l e R s m args below meth c T locs cells slots) (hx : p.tables.exec = Jvm.exec) (hZ : Z.Warmed39 s.vm) (eT : T.heap = h) {b : Addr} {n : Nat} {g : Nat → Int64} (A : AJ Z h b n g) (v : Int32) (hv : n.toInt32 = v) (pc' : Nat) (hd : decode c.code pc = .ok (.arraylength, 1)) (hp : pc + 1 = pc') (k : Go p e below s Q rc rs (T.setTop (mkF m pc' Ls (.int v :: st)))) : Go p e below s Q rc rs (T.setTop (mkF m pc Ls (.ref b :: st))) := by
  subst hp hv
  obtain ⟨cl, A1, A2, A3, A4⟩ := A
  subst A2
  exact k.by fun t k => X.arraylength hx (by rw [eT]; exact A1.1) (State.isArrayOf_alike hZ.alike A1.2.1) (g := mkF m pc Ls (.ref b :: st)) rfl rfl hd t k
theorem g_arraylengthB (X : Stand p l e R s m args below meth c T locs cells slots) (hx : p.tables.exec = Jvm.exec) (hZ : Z.Warmed39 s.vm) (eT : T.heap = h) {b : Addr} {n : Nat} {g : Nat → Int32} (A : AB Z h b n g) (v : Int32) (hv : n.toInt32 = v) (pc' : Nat) (hd : decode c.code pc = .ok (.arraylength, 1)) (hp : pc + 1 = pc') (k : Go p e below s Q rc rs (T.setTop (mkF m pc' Ls (.int v :: st)))) : Go p e below s Q rc rs (T.setTop (mkF m pc Ls (.ref b :: st))) := by
  subst hp hv
  obtain ⟨cl, A1, A2, A3, A4⟩ := A
  subst A2
  exact k.by fun t k => X.arraylength hx (by rw [eT]; exact A1.1) (State.isArrayOf_alike hZ.alike A1.2.1) (g := mkF m pc Ls (.ref b :: st)) rfl rfl hd t k
theorem g_newarr (X : Stand p l e R s m args below meth c T locs cells slots) (hx : p.tables.exec = Jvm.exec) (hZ : Z.Warmed39 s.vm) {aty : ArrayType} (w : (Jvm.Cond.arrayClass (newarray.typeOf aty)).before a0 Z = true) (eT : T.heap = h) {n : Int32} (N cap : Nat) (hn : n.toInt = N) (hcap : N ≤ cap) (hb : cap * 8 ≤ 536870912) (pc' : Nat) (hd : decode c.code pc = .ok (.newarray aty, 2)) (hcl : cells + 1 ≤ R.cells) (hsl : slots + cap ≤ R.slots) (hp : pc + 2 = pc') (k : ∀ T' h' b, b = h.size → Stand p l e R s m args below meth c T' locs (cells + 1) (slots + cap) → T'.heap = h' → Ext h h' → AV Z h' b (newarray.typeOf aty) N (fun _ => defaultValue (newarray.typeOf aty)) → Go p e below s Q rc rs (T'.setTop (mkF m pc' Ls (.ref b :: st)))) : Go p e below s Q rc rs (T.setTop (mkF m pc Ls (.int n :: st))) := by
  subst hp
  obtain ⟨q1, q2⟩ := own_idx hn
  obtain ⟨T', h', kA, X', e', E', A', stp⟩ := newP X hx hZ w eT (g := mkF m pc Ls (.int n :: st)) rfl hd rfl q1 (cap := cap) (by rw [q2]; exact hcap) hb hcl hsl
  have hN : N < 2 ^ 31 := by have := n.toInt_lt; omega
  refine (k _ _ _ rfl X' e' E' ⟨_, A', by rw [sz_new, q2], hN, fun j hj => ?_⟩).by stp
  simp [newA, q2, hj]
theorem g_newarrayI (X : Stand p l e R s m args below meth c T locs cells slots) (hx : p.tables.exec = Jvm.exec) (hZ : Z.Warmed39 s.vm) (w : (Jvm.Cond.arrayClass .int).before a0 Z = true) (eT : T.heap = h) {n : Int32} (N cap : Nat) (hn : n.toInt = N) (hcap : N ≤ cap) (hb : cap * 8 ≤ 536870912) (pc' : Nat) (hd : decode c.code pc = .ok (.newarray .int, 2)) (hcl : cells + 1 ≤ R.cells) (hsl : slots + cap ≤ R.slots) (hp : pc + 2 = pc') (k : ∀ T' h' b, b = h.size → Stand p l e R s m args below meth c T' locs (cells + 1) (slots + cap) → T'.heap = h' → Ext h h' → AI Z h' b N (fun _ => (0 : Int32)) → Go p e below s Q rc rs (T'.setTop (mkF m pc' Ls (.ref b :: st)))) : Go p e below s Q rc rs (T.setTop (mkF m pc Ls (.int n :: st))) :=
  g_newarr X hx hZ (aty := .int) w eT N cap hn hcap hb pc' hd hcl hsl hp fun T' h' b q1 q2 q3 q4 q5 => k T' h' b q1 q2 q3 q4 q5
theorem g_newarrayJ (X : Stand p l e R s m args below meth c T locs cells slots) (hx : p.tables.exec = Jvm.exec) (hZ : Z.Warmed39 s.vm) (w : (Jvm.Cond.arrayClass .long).before a0 Z = true) (eT : T.heap = h) {n : Int32} (N cap : Nat) (hn : n.toInt = N) (hcap : N ≤ cap) (hb : cap * 8 ≤ 536870912) (pc' : Nat) (hd : decode c.code pc = .ok (.newarray .long, 2)) (hcl : cells + 1 ≤ R.cells) (hsl : slots + cap ≤ R.slots) (hp : pc + 2 = pc') (k : ∀ T' h' b, b = h.size → Stand p l e R s m args below meth c T' locs (cells + 1) (slots + cap) → T'.heap = h' → Ext h h' → AJ Z h' b N (fun _ => (0 : Int64)) → Go p e below s Q rc rs (T'.setTop (mkF m pc' Ls (.ref b :: st)))) : Go p e below s Q rc rs (T.setTop (mkF m pc Ls (.int n :: st))) :=
  g_newarr X hx hZ (aty := .long) w eT N cap hn hcap hb pc' hd hcl hsl hp fun T' h' b q1 q2 q3 q4 q5 => k T' h' b q1 q2 q3 q4 q5
theorem g_newarrayB (X : Stand p l e R s m args below meth c T locs cells slots) (hx : p.tables.exec = Jvm.exec) (hZ : Z.Warmed39 s.vm) (w : (Jvm.Cond.arrayClass .byte).before a0 Z = true) (eT : T.heap = h) {n : Int32} (N cap : Nat) (hn : n.toInt = N) (hcap : N ≤ cap) (hb : cap * 8 ≤ 536870912) (pc' : Nat) (hd : decode c.code pc = .ok (.newarray .byte, 2)) (hcl : cells + 1 ≤ R.cells) (hsl : slots + cap ≤ R.slots) (hp : pc + 2 = pc') (k : ∀ T' h' b, b = h.size → Stand p l e R s m args below meth c T' locs (cells + 1) (slots + cap) → T'.heap = h' → Ext h h' → AB Z h' b N (fun _ => (0 : Int32)) → Go p e below s Q rc rs (T'.setTop (mkF m pc' Ls (.ref b :: st)))) : Go p e below s Q rc rs (T.setTop (mkF m pc Ls (.int n :: st))) :=
  g_newarr X hx hZ (aty := .byte) w eT N cap hn hcap hb pc' hd hcl hsl hp fun T' h' b q1 q2 q3 q4 q5 => k T' h' b q1 q2 q3 q4 q5
end OwnKit
def own_3 (x : Int32) : Prop := 0 ≤ x.toInt ∧ x.toInt < 3
theorem own_i3 {x : Int32} (h : own_3 x) : x.toInt = (x.toInt.toNat : Int) ∧ x.toInt.toNat < 3 := by unfold own_3 at h; omega
theorem own_half {x : Int32} (h : x.toInt < 3) (h0 : (0 : Int32) < x) : ((x - 1) / 2).toInt = ((0 : Nat) : Int) := by
  rw [Int32.lt_iff_toInt_lt] at h0
  have e0 : (0 : Int32).toInt = 0 := rfl
  have e1 : (1 : Int32).toInt = 1 := rfl
  have a := c_isub x 1; have r := rng32 (x - 1)
  have d := (c_idiv (x - 1) 2 2 rfl (by decide)).1 (by omega)
  omega
theorem own_hz {x : Int32} (h : x.toInt < 3) (h0 : (0 : Int32) < x) : ¬ (0 : Int32) < (x - 1) / 2 := by
  have q := own_half h h0
  rw [Int32.lt_iff_toInt_lt, q]; decide
theorem d3_0 : decode jdk_65_method_103_code 0 = .ok (.iconst 0, 1) := by decide +kernel
theorem d3_1 : decode jdk_65_method_103_code 1 = .ok (.istore_n 2, 1) := by decide +kernel
theorem d3_2 : decode jdk_65_method_103_code 2 = .ok (.aload_n 0, 1) := by decide +kernel
theorem d3_3 : decode jdk_65_method_103_code 3 = .ok (.arraylength, 1) := by decide +kernel
theorem d3_4 : decode jdk_65_method_103_code 4 = .ok (.istore_n 3, 1) := by decide +kernel
theorem d3_5 : decode jdk_65_method_103_code 5 = .ok (.iload_n 2, 1) := by decide +kernel
theorem d3_6 : decode jdk_65_method_103_code 6 = .ok (.iload_n 3, 1) := by decide +kernel
theorem d3_7 : decode jdk_65_method_103_code 7 = .ok (.if_icmp .ge 13, 3) := by decide +kernel
theorem d3_10 : decode jdk_65_method_103_code 10 = .ok (.aload_n 0, 1) := by decide +kernel
theorem d3_11 : decode jdk_65_method_103_code 11 = .ok (.iload_n 2, 1) := by decide +kernel
theorem d3_12 : decode jdk_65_method_103_code 12 = .ok (.iload_n 1, 1) := by decide +kernel
theorem d3_13 : decode jdk_65_method_103_code 13 = .ok (.iastore, 1) := by decide +kernel
theorem d3_14 : decode jdk_65_method_103_code 14 = .ok (.iinc 2 1, 3) := by decide +kernel
theorem d3_17 : decode jdk_65_method_103_code 17 = .ok (.goto (-12), 3) := by decide +kernel
theorem d3_20 : decode jdk_65_method_103_code 20 = .ok (.return_, 1) := by decide +kernel
theorem pn_3 : plainName "java/util/Arrays" = true := by first | (simp [plainName, overriddenIn]; done) | decide +kernel
theorem ef_3 (m : MethodId) (x0 : Addr) (x1 : Int32) : entryFrame m #[(.ref x0), (.int x1)] 4 = mkF m 0 #[.val (.ref x0), .val (.int x1), .unset, .unset] [] := by first | (simp [entryFrame, mkF, argsToLocals, Value.category]; done) | rfl
def Q3 (Z : State) (x0 : Addr) (x1 : Int32) (g : Nat → Int32) (h0 : Heap) (n0 : Nat) (v : Option Value) (h : Heap) (L : List Loc) : Prop := v = none ∧ Fr n0 L ∧ Keep h0 h [x0] ∧ AI Z h x0 3 (upd (upd (upd g 0 x1) 1 x1) 2 x1)
set_option maxRecDepth 65536 in
set_option maxHeartbeats 40000000 in
theorem rm3 (l : Launch) (Z : State) (a0 : Array Value) (hw : ∀ d ∈ tables_1, d.before a0 Z = true) (ws : List Jvm.Cond) (x0 : Addr) (x1 : Int32) (g : Nat → Int32) (h0 : Heap) (n0 : Nat) (Z0 : n0 ≤ h0.size) (P0 : AI Z h0 x0 3 g) (P1 : n0 ≤ x0) :
    MetFree l (⟨"java/util/Arrays", "fill", "([II)V"⟩ : MethodName) (head1 (Jvm.Cond.code (⟨"java/util/Arrays", "fill", "([II)V"⟩ : MethodName) jdk_65_method_103_code 4 none :: ws) ({ frames := 0, cells := 0, slots := 0, locals := 0 } : Room)) (fun a U => a = #[(.ref x0), (.int x1)] ∧ Z.Warmed39 U.vm ∧ U.heap = h0) (fun _ _ _ _ _ => True) (fun _ U o U' => ∃ v L, o = .returned v ∧ Q3 Z x0 x1 g h0 n0 v U'.heap L ∧ FrameEnd U o U' L ({ frames := 0, cells := 0, slots := 0, locals := 0 } : Room).cells ({ frames := 0, cells := 0, slots := 0, locals := 0 } : Room).slots) := by
  refine g_body (plainFor_of_name pn_3) ?_
  intro p e s m below meth c T0 X0 hx hby hml hret hlk hown hnm hZ e0
  rw [ef_3]
  have N0 := Fr.nil n0
  show Go p e below s _ _ _ (T0.setTop (mkF m 0 #[.val (.ref x0), .val (.int x1), .unset, .unset] []))
  refine g_iconst X0 hx (0 : Int32) 1 (hb hby d3_0) rfl rfl ?_
  show Go p e below s _ _ _ (T0.setTop (mkF m 1 #[.val (.ref x0), .val (.int x1), .unset, .unset] [(.int (0 : Int32))]))
  refine g_istoreN X0 hx #[.val (.ref x0), .val (.int x1), .val (.int (0 : Int32)), .unset] 2 (hb hby d3_1) rfl rfl ?_
  show Go p e below s _ _ _ (T0.setTop (mkF m 2 #[.val (.ref x0), .val (.int x1), .val (.int (0 : Int32)), .unset] []))
  refine g_aloadN X0 hx 3 (hb hby d3_2) rfl rfl rfl ?_
  show Go p e below s _ _ _ (T0.setTop (mkF m 3 #[.val (.ref x0), .val (.int x1), .val (.int (0 : Int32)), .unset] [(.ref x0)]))
  refine g_arraylengthI X0 hx hZ e0 P0 (3 : Int32) rfl 4 (hb hby d3_3) rfl ?_
  show Go p e below s _ _ _ (T0.setTop (mkF m 4 #[.val (.ref x0), .val (.int x1), .val (.int (0 : Int32)), .unset] [(.int (3 : Int32))]))
  refine g_istoreN X0 hx #[.val (.ref x0), .val (.int x1), .val (.int (0 : Int32)), .val (.int (3 : Int32))] 5 (hb hby d3_4) rfl rfl ?_
  show Go p e below s _ _ _ (T0.setTop (mkF m 5 #[.val (.ref x0), .val (.int x1), .val (.int (0 : Int32)), .val (.int (3 : Int32))] []))
  refine g_iloadN X0 hx 6 (hb hby d3_5) rfl rfl ?_
  show Go p e below s _ _ _ (T0.setTop (mkF m 6 #[.val (.ref x0), .val (.int x1), .val (.int (0 : Int32)), .val (.int (3 : Int32))] [(.int (0 : Int32))]))
  refine g_iloadN X0 hx 7 (hb hby d3_6) rfl rfl ?_
  show Go p e below s _ _ _ (T0.setTop (mkF m 7 #[.val (.ref x0), .val (.int x1), .val (.int (0 : Int32)), .val (.int (3 : Int32))] [(.int (3 : Int32)), (.int (0 : Int32))]))
  have h2 : (0 : Int32) < (3 : Int32) := by decide
  refine g_icmp_ge X0 hx 20 10 (hb hby d3_7) (by decide) rfl rfl (fun _ => ?_) (fun q => absurd h2 q)
  show Go p e below s _ _ _ (T0.setTop (mkF m 10 #[.val (.ref x0), .val (.int x1), .val (.int (0 : Int32)), .val (.int (3 : Int32))] []))
  refine g_aloadN X0 hx 11 (hb hby d3_10) rfl rfl rfl ?_
  show Go p e below s _ _ _ (T0.setTop (mkF m 11 #[.val (.ref x0), .val (.int x1), .val (.int (0 : Int32)), .val (.int (3 : Int32))] [(.ref x0)]))
  refine g_iloadN X0 hx 12 (hb hby d3_11) rfl rfl ?_
  show Go p e below s _ _ _ (T0.setTop (mkF m 12 #[.val (.ref x0), .val (.int x1), .val (.int (0 : Int32)), .val (.int (3 : Int32))] [(.int (0 : Int32)), (.ref x0)]))
  refine g_iloadN X0 hx 13 (hb hby d3_12) rfl rfl ?_
  show Go p e below s _ _ _ (T0.setTop (mkF m 13 #[.val (.ref x0), .val (.int x1), .val (.int (0 : Int32)), .val (.int (3 : Int32))] [(.int x1), (.int (0 : Int32)), (.ref x0)]))
  refine g_iastore X0 hx hZ e0 P0 0 rfl (by decide) 14 (hb hby d3_13) rfl ?_
  intro T3 h3 X3 e3 W3 A3
  have K3 := (Keep.refl h0 [x0]).wr W3 (Or.inl (List.mem_of_getElem? (i := 0) rfl))
  have N3 := Fr.snoc X3 N0 P1
  have Z3 : n0 ≤ h3.size := by rw [W3.size]; exact Z0
  show Go p e below s _ _ _ (T3.setTop (mkF m 14 #[.val (.ref x0), .val (.int x1), .val (.int (0 : Int32)), .val (.int (3 : Int32))] []))
  refine g_iinc X3 hx (1 : Int32) #[.val (.ref x0), .val (.int x1), .val (.int ((0 : Int32) + (1 : Int32))), .val (.int (3 : Int32))] 17 (hb hby d3_14) rfl rfl rfl rfl ?_
  show Go p e below s _ _ _ (T3.setTop (mkF m 17 #[.val (.ref x0), .val (.int x1), .val (.int ((0 : Int32) + (1 : Int32))), .val (.int (3 : Int32))] []))
  refine g_goto X3 hx 5 (hb hby d3_17) (by decide) rfl ?_
  show Go p e below s _ _ _ (T3.setTop (mkF m 5 #[.val (.ref x0), .val (.int x1), .val (.int ((0 : Int32) + (1 : Int32))), .val (.int (3 : Int32))] []))
  refine g_iloadN X3 hx 6 (hb hby d3_5) rfl rfl ?_
  show Go p e below s _ _ _ (T3.setTop (mkF m 6 #[.val (.ref x0), .val (.int x1), .val (.int ((0 : Int32) + (1 : Int32))), .val (.int (3 : Int32))] [(.int ((0 : Int32) + (1 : Int32)))]))
  refine g_iloadN X3 hx 7 (hb hby d3_6) rfl rfl ?_
  show Go p e below s _ _ _ (T3.setTop (mkF m 7 #[.val (.ref x0), .val (.int x1), .val (.int ((0 : Int32) + (1 : Int32))), .val (.int (3 : Int32))] [(.int (3 : Int32)), (.int ((0 : Int32) + (1 : Int32)))]))
  have h4 : ((0 : Int32) + (1 : Int32)) < (3 : Int32) := by decide
  refine g_icmp_ge X3 hx 20 10 (hb hby d3_7) (by decide) rfl rfl (fun _ => ?_) (fun q => absurd h4 q)
  show Go p e below s _ _ _ (T3.setTop (mkF m 10 #[.val (.ref x0), .val (.int x1), .val (.int ((0 : Int32) + (1 : Int32))), .val (.int (3 : Int32))] []))
  refine g_aloadN X3 hx 11 (hb hby d3_10) rfl rfl rfl ?_
  show Go p e below s _ _ _ (T3.setTop (mkF m 11 #[.val (.ref x0), .val (.int x1), .val (.int ((0 : Int32) + (1 : Int32))), .val (.int (3 : Int32))] [(.ref x0)]))
  refine g_iloadN X3 hx 12 (hb hby d3_11) rfl rfl ?_
  show Go p e below s _ _ _ (T3.setTop (mkF m 12 #[.val (.ref x0), .val (.int x1), .val (.int ((0 : Int32) + (1 : Int32))), .val (.int (3 : Int32))] [(.int ((0 : Int32) + (1 : Int32))), (.ref x0)]))
  refine g_iloadN X3 hx 13 (hb hby d3_12) rfl rfl ?_
  show Go p e below s _ _ _ (T3.setTop (mkF m 13 #[.val (.ref x0), .val (.int x1), .val (.int ((0 : Int32) + (1 : Int32))), .val (.int (3 : Int32))] [(.int x1), (.int ((0 : Int32) + (1 : Int32))), (.ref x0)]))
  refine g_iastore X3 hx hZ e3 A3 1 rfl (by decide) 14 (hb hby d3_13) rfl ?_
  intro T5 h5 X5 e5 W5 A5
  have K5 := K3.wr W5 (Or.inl (List.mem_of_getElem? (i := 0) rfl))
  have N5 := Fr.snoc X5 N3 P1
  have Z5 : n0 ≤ h5.size := by rw [W5.size]; exact Z3
  show Go p e below s _ _ _ (T5.setTop (mkF m 14 #[.val (.ref x0), .val (.int x1), .val (.int ((0 : Int32) + (1 : Int32))), .val (.int (3 : Int32))] []))
  refine g_iinc X5 hx (1 : Int32) #[.val (.ref x0), .val (.int x1), .val (.int (((0 : Int32) + (1 : Int32)) + (1 : Int32))), .val (.int (3 : Int32))] 17 (hb hby d3_14) rfl rfl rfl rfl ?_
  show Go p e below s _ _ _ (T5.setTop (mkF m 17 #[.val (.ref x0), .val (.int x1), .val (.int (((0 : Int32) + (1 : Int32)) + (1 : Int32))), .val (.int (3 : Int32))] []))
  refine g_goto X5 hx 5 (hb hby d3_17) (by decide) rfl ?_
  show Go p e below s _ _ _ (T5.setTop (mkF m 5 #[.val (.ref x0), .val (.int x1), .val (.int (((0 : Int32) + (1 : Int32)) + (1 : Int32))), .val (.int (3 : Int32))] []))
  refine g_iloadN X5 hx 6 (hb hby d3_5) rfl rfl ?_
  show Go p e below s _ _ _ (T5.setTop (mkF m 6 #[.val (.ref x0), .val (.int x1), .val (.int (((0 : Int32) + (1 : Int32)) + (1 : Int32))), .val (.int (3 : Int32))] [(.int (((0 : Int32) + (1 : Int32)) + (1 : Int32)))]))
  refine g_iloadN X5 hx 7 (hb hby d3_6) rfl rfl ?_
  show Go p e below s _ _ _ (T5.setTop (mkF m 7 #[.val (.ref x0), .val (.int x1), .val (.int (((0 : Int32) + (1 : Int32)) + (1 : Int32))), .val (.int (3 : Int32))] [(.int (3 : Int32)), (.int (((0 : Int32) + (1 : Int32)) + (1 : Int32)))]))
  have h6 : (((0 : Int32) + (1 : Int32)) + (1 : Int32)) < (3 : Int32) := by decide
  refine g_icmp_ge X5 hx 20 10 (hb hby d3_7) (by decide) rfl rfl (fun _ => ?_) (fun q => absurd h6 q)
  show Go p e below s _ _ _ (T5.setTop (mkF m 10 #[.val (.ref x0), .val (.int x1), .val (.int (((0 : Int32) + (1 : Int32)) + (1 : Int32))), .val (.int (3 : Int32))] []))
  refine g_aloadN X5 hx 11 (hb hby d3_10) rfl rfl rfl ?_
  show Go p e below s _ _ _ (T5.setTop (mkF m 11 #[.val (.ref x0), .val (.int x1), .val (.int (((0 : Int32) + (1 : Int32)) + (1 : Int32))), .val (.int (3 : Int32))] [(.ref x0)]))
  refine g_iloadN X5 hx 12 (hb hby d3_11) rfl rfl ?_
  show Go p e below s _ _ _ (T5.setTop (mkF m 12 #[.val (.ref x0), .val (.int x1), .val (.int (((0 : Int32) + (1 : Int32)) + (1 : Int32))), .val (.int (3 : Int32))] [(.int (((0 : Int32) + (1 : Int32)) + (1 : Int32))), (.ref x0)]))
  refine g_iloadN X5 hx 13 (hb hby d3_12) rfl rfl ?_
  show Go p e below s _ _ _ (T5.setTop (mkF m 13 #[.val (.ref x0), .val (.int x1), .val (.int (((0 : Int32) + (1 : Int32)) + (1 : Int32))), .val (.int (3 : Int32))] [(.int x1), (.int (((0 : Int32) + (1 : Int32)) + (1 : Int32))), (.ref x0)]))
  refine g_iastore X5 hx hZ e5 A5 2 rfl (by decide) 14 (hb hby d3_13) rfl ?_
  intro T7 h7 X7 e7 W7 A7
  have K7 := K5.wr W7 (Or.inl (List.mem_of_getElem? (i := 0) rfl))
  have N7 := Fr.snoc X7 N5 P1
  have Z7 : n0 ≤ h7.size := by rw [W7.size]; exact Z5
  show Go p e below s _ _ _ (T7.setTop (mkF m 14 #[.val (.ref x0), .val (.int x1), .val (.int (((0 : Int32) + (1 : Int32)) + (1 : Int32))), .val (.int (3 : Int32))] []))
  refine g_iinc X7 hx (1 : Int32) #[.val (.ref x0), .val (.int x1), .val (.int ((((0 : Int32) + (1 : Int32)) + (1 : Int32)) + (1 : Int32))), .val (.int (3 : Int32))] 17 (hb hby d3_14) rfl rfl rfl rfl ?_
  show Go p e below s _ _ _ (T7.setTop (mkF m 17 #[.val (.ref x0), .val (.int x1), .val (.int ((((0 : Int32) + (1 : Int32)) + (1 : Int32)) + (1 : Int32))), .val (.int (3 : Int32))] []))
  refine g_goto X7 hx 5 (hb hby d3_17) (by decide) rfl ?_
  show Go p e below s _ _ _ (T7.setTop (mkF m 5 #[.val (.ref x0), .val (.int x1), .val (.int ((((0 : Int32) + (1 : Int32)) + (1 : Int32)) + (1 : Int32))), .val (.int (3 : Int32))] []))
  refine g_iloadN X7 hx 6 (hb hby d3_5) rfl rfl ?_
  show Go p e below s _ _ _ (T7.setTop (mkF m 6 #[.val (.ref x0), .val (.int x1), .val (.int ((((0 : Int32) + (1 : Int32)) + (1 : Int32)) + (1 : Int32))), .val (.int (3 : Int32))] [(.int ((((0 : Int32) + (1 : Int32)) + (1 : Int32)) + (1 : Int32)))]))
  refine g_iloadN X7 hx 7 (hb hby d3_6) rfl rfl ?_
  show Go p e below s _ _ _ (T7.setTop (mkF m 7 #[.val (.ref x0), .val (.int x1), .val (.int ((((0 : Int32) + (1 : Int32)) + (1 : Int32)) + (1 : Int32))), .val (.int (3 : Int32))] [(.int (3 : Int32)), (.int ((((0 : Int32) + (1 : Int32)) + (1 : Int32)) + (1 : Int32)))]))
  have h8 : ¬ (((((0 : Int32) + (1 : Int32)) + (1 : Int32)) + (1 : Int32)) < (3 : Int32)) := by decide
  refine g_icmp_ge X7 hx 20 10 (hb hby d3_7) (by decide) rfl rfl (fun q => absurd q h8) (fun _ => ?_)
  show Go p e below s _ _ _ (T7.setTop (mkF m 20 #[.val (.ref x0), .val (.int x1), .val (.int ((((0 : Int32) + (1 : Int32)) + (1 : Int32)) + (1 : Int32))), .val (.int (3 : Int32))] []))
  exact g_retV X7 hx hret hlk (hb hby d3_20) (by decide) (by decide) (by rw [e7]; exact ⟨rfl, N7, K7, A7⟩)
theorem pd__28_5bII_29V : parseMethodDescriptor "([II)V" = some ⟨[(.array .int), .int], none⟩ := by decide +kernel
theorem d1_0 : decode prog_27_method_1_code 0 = .ok (.aload_n 0, 1) := by decide +kernel
theorem d1_1 : decode prog_27_method_1_code 1 = .ok (.invokespecial 1, 3) := by decide +kernel
theorem d1_4 : decode prog_27_method_1_code 4 = .ok (.aload_n 0, 1) := by decide +kernel
theorem d1_5 : decode prog_27_method_1_code 5 = .ok (.iload_n 1, 1) := by decide +kernel
theorem d1_6 : decode prog_27_method_1_code 6 = .ok (.newarray .int, 2) := by decide +kernel
theorem d1_8 : decode prog_27_method_1_code 8 = .ok (.putfield 7, 3) := by decide +kernel
theorem d1_11 : decode prog_27_method_1_code 11 = .ok (.aload_n 0, 1) := by decide +kernel
theorem d1_12 : decode prog_27_method_1_code 12 = .ok (.iload_n 1, 1) := by decide +kernel
theorem d1_13 : decode prog_27_method_1_code 13 = .ok (.newarray .int, 2) := by decide +kernel
theorem d1_15 : decode prog_27_method_1_code 15 = .ok (.putfield 13, 3) := by decide +kernel
theorem d1_18 : decode prog_27_method_1_code 18 = .ok (.aload_n 0, 1) := by decide +kernel
theorem d1_19 : decode prog_27_method_1_code 19 = .ok (.getfield 13, 3) := by decide +kernel
theorem d1_22 : decode prog_27_method_1_code 22 = .ok (.iconst (-1), 1) := by decide +kernel
theorem d1_23 : decode prog_27_method_1_code 23 = .ok (.invokestatic 16, 3) := by decide +kernel
theorem d1_26 : decode prog_27_method_1_code 26 = .ok (.aload_n 0, 1) := by decide +kernel
theorem d1_27 : decode prog_27_method_1_code 27 = .ok (.iload_n 1, 1) := by decide +kernel
theorem d1_28 : decode prog_27_method_1_code 28 = .ok (.newarray .long, 2) := by decide +kernel
theorem d1_30 : decode prog_27_method_1_code 30 = .ok (.putfield 22, 3) := by decide +kernel
theorem d1_33 : decode prog_27_method_1_code 33 = .ok (.return_, 1) := by decide +kernel
theorem pn_1 : plainName "com/example/weir/weir/cli/Deadlines" = true := by first | (simp [plainName, overriddenIn]; done) | decide +kernel
theorem ef_1 (m : MethodId) (x0 : Addr) (x1 : Int32) : entryFrame m #[(.ref x0), (.int x1)] 2 = mkF m 0 #[.val (.ref x0), .val (.int x1)] [] := by first | (simp [entryFrame, mkF, argsToLocals, Value.category]; done) | rfl
def Q1 (Z : State) (x0 : Addr) (x1 : Int32) (h0 : Heap) (n0 : Nat) (v : Option Value) (h : Heap) (L : List Loc) : Prop := v = none ∧ Fr n0 L ∧ Keep h0 h [x0] ∧ ∃ b1 b2 b3 : Addr, h0.size ≤ b1 ∧ h0.size ≤ b2 ∧ h0.size ≤ b3 ∧ b1 ≠ b2 ∧ b1 ≠ b3 ∧ b2 ≠ b3 ∧ Fld Z h x0 "com/example/weir/weir/cli/Deadlines" "heap" "[I" (.ref b1) ∧ Fld Z h x0 "com/example/weir/weir/cli/Deadlines" "places" "[I" (.ref b2) ∧ Fld Z h x0 "com/example/weir/weir/cli/Deadlines" "times" "[J" (.ref b3) ∧ Fld Z h x0 "com/example/weir/weir/cli/Deadlines" "size" "I" (.int (0 : Int32)) ∧ AI Z h b1 3 (fun _ => (0 : Int32)) ∧ AI Z h b2 3 (upd (upd (upd (fun _ => (0 : Int32)) 0 (-1 : Int32)) 1 (-1 : Int32)) 2 (-1 : Int32)) ∧ AJ Z h b3 3 (fun _ => (0 : Int64))
set_option maxRecDepth 65536 in
set_option maxHeartbeats 40000000 in
theorem rm1 (l : Launch) (Z : State) (a0 : Array Value) (hw : ∀ d ∈ tables_1, d.before a0 Z = true) (ws : List Jvm.Cond) (x0 : Addr) (x1 : Int32) (h0 : Heap) (n0 : Nat) (Z0 : n0 ≤ h0.size) (P0 : Exa Z h0 x0 "com/example/weir/weir/cli/Deadlines") (P1 : Fld Z h0 x0 "com/example/weir/weir/cli/Deadlines" "heap" "[I" .null) (P2 : Fld Z h0 x0 "com/example/weir/weir/cli/Deadlines" "places" "[I" .null) (P3 : Fld Z h0 x0 "com/example/weir/weir/cli/Deadlines" "times" "[J" .null) (P4 : Fld Z h0 x0 "com/example/weir/weir/cli/Deadlines" "size" "I" (.int (0 : Int32))) (P5 : n0 ≤ x0) (hthree : x1 = (3 : Int32)) :
    MetFree l (⟨"com/example/weir/weir/cli/Deadlines", "<init>", "(I)V"⟩ : MethodName) (head1 (Jvm.Cond.code (⟨"com/example/weir/weir/cli/Deadlines", "<init>", "(I)V"⟩ : MethodName) prog_27_method_1_code 2 none :: ws) ({ frames := 1, cells := 3, slots := 9, locals := 15 } : Room)) (fun a U => a = #[(.ref x0), (.int x1)] ∧ Z.Warmed39 U.vm ∧ U.heap = h0) (fun _ _ _ _ _ => True) (fun _ U o U' => ∃ v L, o = .returned v ∧ Q1 Z x0 x1 h0 n0 v U'.heap L ∧ FrameEnd U o U' L ({ frames := 1, cells := 3, slots := 9, locals := 15 } : Room).cells ({ frames := 1, cells := 3, slots := 9, locals := 15 } : Room).slots) := by
  refine g_body (plainFor_of_name pn_1) ?_
  intro p e s m below meth c T0 X0 hx hby hml hret hlk hown hnm hZ e0
  rw [ef_1]
  have N0 := Fr.nil n0
  show Go p e below s _ _ _ (T0.setTop (mkF m 0 #[.val (.ref x0), .val (.int x1)] []))
  refine g_aloadN X0 hx 1 (hb hby d1_0) rfl rfl rfl ?_
  show Go p e below s _ _ _ (T0.setTop (mkF m 1 #[.val (.ref x0), .val (.int x1)] [(.ref x0)]))
  refine g_initO X0 hx hZ hown (hw _ (List.mem_of_getElem? (i := 6) rfl)) (hw _ (List.mem_of_getElem? (i := 7) rfl)) (hw _ (List.mem_of_getElem? (i := 8) rfl)) e0 4 (by rw [hml]; rfl) (hb hby d1_1) (by decide) 0 (Nat.le_of_eq rfl) (by decide) rfl ?_
  intro T1 X1 e1
  show Go p e below s _ _ _ (T1.setTop (mkF m 4 #[.val (.ref x0), .val (.int x1)] []))
  refine g_aloadN X1 hx 5 (hb hby d1_4) rfl rfl rfl ?_
  show Go p e below s _ _ _ (T1.setTop (mkF m 5 #[.val (.ref x0), .val (.int x1)] [(.ref x0)]))
  refine g_iloadN X1 hx 6 (hb hby d1_5) rfl rfl ?_
  show Go p e below s _ _ _ (T1.setTop (mkF m 6 #[.val (.ref x0), .val (.int x1)] [(.int x1), (.ref x0)]))
  refine g_newarrayI X1 hx hZ (hw _ (List.mem_of_getElem? (i := 9) rfl)) e1 3 3 (by rw [hthree]; rfl) (by decide) (by decide) 8 (hb hby d1_6) (by decide) (by decide) rfl ?_
  intro T2 h2 b2 g2 X2 e2 E2 A2
  have N_b2 : n0 ≤ b2 := Nat.le_trans Z0 (Nat.le_of_eq g2.symm)
  have sz_b2 := Nat.le_trans (Keep.refl h0 [x0]).1 (Nat.le_of_eq g2.symm)
  have ne_x0_b2 : x0 ≠ b2 := Nat.ne_of_lt (Nat.lt_of_lt_of_le P0.lt (Nat.le_of_eq g2.symm))
  have k2_0 := P0.ext E2
  have k2_1 := P1.ext E2
  have k2_2 := P2.ext E2
  have k2_3 := P3.ext E2
  have k2_4 := P4.ext E2
  have Z2 : n0 ≤ h2.size := Nat.le_trans Z0 E2.1
  have K2 := (Keep.refl h0 [x0]).ext E2
  show Go p e below s _ _ _ (T2.setTop (mkF m 8 #[.val (.ref x0), .val (.int x1)] [(.ref b2), (.ref x0)]))
  refine g_putF X2 hx hZ hown (hw _ (List.mem_of_getElem? (i := 10) rfl)) Via.refl e2 k2_1 k2_0 (Or.inr ⟨(hw _ (List.mem_of_getElem? (i := 11) rfl)), rfl, hnm⟩) (hw _ (List.mem_of_getElem? (i := 1) rfl)) (ty := (.array .int)) (by decide) rfl rfl 11 (hb hby d1_8) rfl ?_
  intro T3 h3 X3 e3 W3
  have K3 := K2.wr W3 (Or.inl (List.mem_of_getElem? (i := 0) rfl))
  have N3 := Fr.snoc X3 N0 P5
  have k3_0 := k2_0.wr W3
  have k3_2 := k2_2.other W3 (Or.inr (slot_ne (Or.inr (hw _ (List.mem_of_getElem? (i := 13) rfl))) (Or.inr (hw _ (List.mem_of_getElem? (i := 11) rfl))) (by decide) (t := (.array .int)) (t' := (.array .int)) (by decide) (by decide)))
  have k3_3 := k2_3.other W3 (Or.inr (slot_ne (Or.inr (hw _ (List.mem_of_getElem? (i := 20) rfl))) (Or.inr (hw _ (List.mem_of_getElem? (i := 11) rfl))) (by decide) (t := (.array .long)) (t' := (.array .int)) (by decide) (by decide)))
  have k3_4 := k2_4.other W3 (Or.inr (slot_ne (Or.inl (hw _ (List.mem_of_getElem? (i := 27) rfl))) (Or.inr (hw _ (List.mem_of_getElem? (i := 11) rfl))) (by decide) (t := .int) (t' := (.array .int)) (by decide) (by decide)))
  have k3_8 := A2.other W3 (Ne.symm ne_x0_b2)
  have Z3 : n0 ≤ h3.size := by rw [W3.size]; exact Z2
  have F3 := k2_1.same W3
  show Go p e below s _ _ _ (T3.setTop (mkF m 11 #[.val (.ref x0), .val (.int x1)] []))
  refine g_aloadN X3 hx 12 (hb hby d1_11) rfl rfl rfl ?_
  show Go p e below s _ _ _ (T3.setTop (mkF m 12 #[.val (.ref x0), .val (.int x1)] [(.ref x0)]))
  refine g_iloadN X3 hx 13 (hb hby d1_12) rfl rfl ?_
  show Go p e below s _ _ _ (T3.setTop (mkF m 13 #[.val (.ref x0), .val (.int x1)] [(.int x1), (.ref x0)]))
  refine g_newarrayI X3 hx hZ (hw _ (List.mem_of_getElem? (i := 9) rfl)) e3 3 3 (by rw [hthree]; rfl) (by decide) (by decide) 15 (hb hby d1_13) (by decide) (by decide) rfl ?_
  intro T4 h4 b4 g4 X4 e4 E4 A4
  have N_b4 : n0 ≤ b4 := Nat.le_trans Z3 (Nat.le_of_eq g4.symm)
  have sz_b4 := Nat.le_trans K3.1 (Nat.le_of_eq g4.symm)
  have ne_x0_b4 : x0 ≠ b4 := Nat.ne_of_lt (Nat.lt_of_lt_of_le k3_0.lt (Nat.le_of_eq g4.symm))
  have ne_b2_b4 : b2 ≠ b4 := Nat.ne_of_lt (Nat.lt_of_lt_of_le k3_8.lt (Nat.le_of_eq g4.symm))
  have k4_0 := k3_0.ext E4
  have k4_1 := k3_2.ext E4
  have k4_2 := k3_3.ext E4
  have k4_3 := k3_4.ext E4
  have k4_7 := k3_8.ext E4
  have k4_8 := F3.ext E4
  have Z4 : n0 ≤ h4.size := Nat.le_trans Z3 E4.1
  have K4 := K3.ext E4
  show Go p e below s _ _ _ (T4.setTop (mkF m 15 #[.val (.ref x0), .val (.int x1)] [(.ref b4), (.ref x0)]))
  refine g_putF X4 hx hZ hown (hw _ (List.mem_of_getElem? (i := 12) rfl)) Via.refl e4 k4_1 k4_0 (Or.inr ⟨(hw _ (List.mem_of_getElem? (i := 13) rfl)), rfl, hnm⟩) (hw _ (List.mem_of_getElem? (i := 1) rfl)) (ty := (.array .int)) (by decide) rfl rfl 18 (hb hby d1_15) rfl ?_
  intro T5 h5 X5 e5 W5
  have K5 := K4.wr W5 (Or.inl (List.mem_of_getElem? (i := 0) rfl))
  have N5 := Fr.snoc X5 N3 P5
  have k5_0 := k4_0.wr W5
  have k5_2 := k4_2.other W5 (Or.inr (slot_ne (Or.inr (hw _ (List.mem_of_getElem? (i := 20) rfl))) (Or.inr (hw _ (List.mem_of_getElem? (i := 13) rfl))) (by decide) (t := (.array .long)) (t' := (.array .int)) (by decide) (by decide)))
  have k5_3 := k4_3.other W5 (Or.inr (slot_ne (Or.inl (hw _ (List.mem_of_getElem? (i := 27) rfl))) (Or.inr (hw _ (List.mem_of_getElem? (i := 13) rfl))) (by decide) (t := .int) (t' := (.array .int)) (by decide) (by decide)))
  have k5_7 := k4_7.other W5 (Ne.symm ne_x0_b2)
  have k5_8 := k4_8.other W5 (Or.inr (slot_ne (Or.inr (hw _ (List.mem_of_getElem? (i := 11) rfl))) (Or.inr (hw _ (List.mem_of_getElem? (i := 13) rfl))) (by decide) (t := (.array .int)) (t' := (.array .int)) (by decide) (by decide)))
  have k5_12 := A4.other W5 (Ne.symm ne_x0_b4)
  have Z5 : n0 ≤ h5.size := by rw [W5.size]; exact Z4
  have F5 := k4_1.same W5
  show Go p e below s _ _ _ (T5.setTop (mkF m 18 #[.val (.ref x0), .val (.int x1)] []))
  refine g_aloadN X5 hx 19 (hb hby d1_18) rfl rfl rfl ?_
  show Go p e below s _ _ _ (T5.setTop (mkF m 19 #[.val (.ref x0), .val (.int x1)] [(.ref x0)]))
  refine g_getF X5 hx hZ hown (hw _ (List.mem_of_getElem? (i := 12) rfl)) Via.refl e5 F5 22 (hb hby d1_19) rfl ?_
  intro T6 X6 e6
  show Go p e below s _ _ _ (T6.setTop (mkF m 22 #[.val (.ref x0), .val (.int x1)] [(.ref b4)]))
  refine g_iconst X6 hx (-1 : Int32) 23 (hb hby d1_22) rfl rfl ?_
  show Go p e below s _ _ _ (T6.setTop (mkF m 23 #[.val (.ref x0), .val (.int x1)] [(.int (-1 : Int32)), (.ref b4)]))
  refine g_callS X6 hx hZ hown (hw _ (List.mem_of_getElem? (i := 14) rfl)) (hw _ (List.mem_of_getElem? (i := 15) rfl)) (hw _ (List.mem_of_getElem? (i := 16) rfl)) (hw _ (List.mem_of_getElem? (i := 17) rfl)) (by decide) e6 (rm3 l Z a0 hw [] b4 (-1 : Int32) (fun _ => (0 : Int32)) h5 n0 Z5 k5_12 N_b4) [(.ref b4), (.int (-1 : Int32))] [] 0 rfl (lenOf pd__28_5bII_29V rfl) rfl (Nat.le_of_eq rfl) (by decide) (by decide) (by decide) (by decide) (by rw [hml]; rfl) (hb hby d1_23) ?_
  intro T7 L7 v7 X7 q7
  obtain ⟨rfl, N7, K7, p7_0⟩ := q7
  have NN7 := Fr.app N5 N7
  have KK7 := K5.trans K7 (by intro x hx; cases List.mem_singleton.mp hx; exact (Or.inr sz_b4))
  have k7_0 := k5_0.keep K7
  have k7_1 := k5_2.keep K7 (nm1 ne_x0_b4 nm0)
  have k7_2 := k5_3.keep K7 (nm1 ne_x0_b4 nm0)
  have k7_6 := k5_7.keep K7 (nm1 ne_b2_b4 nm0)
  have k7_7 := k5_8.keep K7 (nm1 ne_x0_b4 nm0)
  have k7_12 := F5.keep K7 (nm1 ne_x0_b4 nm0)
  have Z7 : n0 ≤ T7.heap.size := Nat.le_trans Z5 K7.1
  show Go p e below s _ _ _ (T7.setTop (mkF m 26 #[.val (.ref x0), .val (.int x1)] []))
  refine g_aloadN X7 hx 27 (hb hby d1_26) rfl rfl rfl ?_
  show Go p e below s _ _ _ (T7.setTop (mkF m 27 #[.val (.ref x0), .val (.int x1)] [(.ref x0)]))
  refine g_iloadN X7 hx 28 (hb hby d1_27) rfl rfl ?_
  show Go p e below s _ _ _ (T7.setTop (mkF m 28 #[.val (.ref x0), .val (.int x1)] [(.int x1), (.ref x0)]))
  refine g_newarrayJ X7 hx hZ (hw _ (List.mem_of_getElem? (i := 18) rfl)) rfl 3 3 (by rw [hthree]; rfl) (by decide) (by decide) 30 (hb hby d1_28) (by decide) (by decide) rfl ?_
  intro T8 h8 b8 g8 X8 e8 E8 A8
  have N_b8 : n0 ≤ b8 := Nat.le_trans Z7 (Nat.le_of_eq g8.symm)
  have sz_b8 := Nat.le_trans KK7.1 (Nat.le_of_eq g8.symm)
  have ne_x0_b8 : x0 ≠ b8 := Nat.ne_of_lt (Nat.lt_of_lt_of_le k7_0.lt (Nat.le_of_eq g8.symm))
  have ne_b2_b8 : b2 ≠ b8 := Nat.ne_of_lt (Nat.lt_of_lt_of_le k7_6.lt (Nat.le_of_eq g8.symm))
  have ne_b4_b8 : b4 ≠ b8 := Nat.ne_of_lt (Nat.lt_of_lt_of_le p7_0.lt (Nat.le_of_eq g8.symm))
  have k8_0 := k7_0.ext E8
  have k8_1 := k7_1.ext E8
  have k8_2 := k7_2.ext E8
  have k8_6 := k7_6.ext E8
  have k8_7 := k7_7.ext E8
  have k8_11 := k7_12.ext E8
  have k8_12 := p7_0.ext E8
  have Z8 : n0 ≤ h8.size := Nat.le_trans Z7 E8.1
  have K8 := KK7.ext E8
  show Go p e below s _ _ _ (T8.setTop (mkF m 30 #[.val (.ref x0), .val (.int x1)] [(.ref b8), (.ref x0)]))
  refine g_putF X8 hx hZ hown (hw _ (List.mem_of_getElem? (i := 19) rfl)) Via.refl e8 k8_1 k8_0 (Or.inr ⟨(hw _ (List.mem_of_getElem? (i := 20) rfl)), rfl, hnm⟩) (hw _ (List.mem_of_getElem? (i := 1) rfl)) (ty := (.array .long)) (by decide) rfl rfl 33 (hb hby d1_30) rfl ?_
  intro T9 h9 X9 e9 W9
  have K9 := K8.wr W9 (Or.inl (List.mem_of_getElem? (i := 0) rfl))
  have N9 := Fr.snoc X9 NN7 P5
  have k9_0 := k8_0.wr W9
  have k9_2 := k8_2.other W9 (Or.inr (slot_ne (Or.inl (hw _ (List.mem_of_getElem? (i := 27) rfl))) (Or.inr (hw _ (List.mem_of_getElem? (i := 20) rfl))) (by decide) (t := .int) (t' := (.array .long)) (by decide) (by decide)))
  have k9_6 := k8_6.other W9 (Ne.symm ne_x0_b2)
  have k9_7 := k8_7.other W9 (Or.inr (slot_ne (Or.inr (hw _ (List.mem_of_getElem? (i := 11) rfl))) (Or.inr (hw _ (List.mem_of_getElem? (i := 20) rfl))) (by decide) (t := (.array .int)) (t' := (.array .long)) (by decide) (by decide)))
  have k9_11 := k8_11.other W9 (Or.inr (slot_ne (Or.inr (hw _ (List.mem_of_getElem? (i := 13) rfl))) (Or.inr (hw _ (List.mem_of_getElem? (i := 20) rfl))) (by decide) (t := (.array .int)) (t' := (.array .long)) (by decide) (by decide)))
  have k9_12 := k8_12.other W9 (Ne.symm ne_x0_b4)
  have k9_17 := A8.other W9 (Ne.symm ne_x0_b8)
  have Z9 : n0 ≤ h9.size := by rw [W9.size]; exact Z8
  have F9 := k8_1.same W9
  show Go p e below s _ _ _ (T9.setTop (mkF m 33 #[.val (.ref x0), .val (.int x1)] []))
  exact g_retV X9 hx hret hlk (hb hby d1_33) (by decide) (by decide) (by rw [e9]; exact ⟨rfl, N9, K9, b2, b4, b8, sz_b2, sz_b4, sz_b8, ne_b2_b4, ne_b2_b8, ne_b4_b8, k9_7, k9_11, F9, k9_2, k9_6, k9_12, k9_17⟩)
theorem d4_0 : decode prog_27_method_2_code 0 = .ok (.aload_n 0, 1) := by decide +kernel
theorem d4_1 : decode prog_27_method_2_code 1 = .ok (.getfield 26, 3) := by decide +kernel
theorem d4_4 : decode prog_27_method_2_code 4 = .ok (.ifCond .ne 7, 3) := by decide +kernel
theorem d4_7 : decode prog_27_method_2_code 7 = .ok (.iconst 1, 1) := by decide +kernel
theorem d4_8 : decode prog_27_method_2_code 8 = .ok (.goto 4, 3) := by decide +kernel
theorem d4_11 : decode prog_27_method_2_code 11 = .ok (.iconst 0, 1) := by decide +kernel
theorem d4_12 : decode prog_27_method_2_code 12 = .ok (.ireturn, 1) := by decide +kernel
theorem ef_4 (m : MethodId) (x0 : Addr) : entryFrame m #[(.ref x0)] 1 = mkF m 0 #[.val (.ref x0)] [] := by first | (simp [entryFrame, mkF, argsToLocals, Value.category]; done) | rfl
def f4 (sz : Int32) : Int32 := if sz = (0 : Int32) then (1 : Int32) else (0 : Int32)
def Q4 (Z : State) (x0 : Addr) (sz : Int32) (h0 : Heap) (v : Option Value) (h : Heap) (L : List Loc) : Prop := v = some (.int (f4 sz)) ∧ L = [] ∧ h = h0
set_option maxRecDepth 65536 in
set_option maxHeartbeats 40000000 in
theorem rm4 (l : Launch) (Z : State) (a0 : Array Value) (hw : ∀ d ∈ tables_1, d.before a0 Z = true) (ws : List Jvm.Cond) (x0 : Addr) (sz : Int32) (h0 : Heap) (P0 : Fld Z h0 x0 "com/example/weir/weir/cli/Deadlines" "size" "I" (.int sz)) :
    MetFree l (⟨"com/example/weir/weir/cli/Deadlines", "isEmpty", "()Z"⟩ : MethodName) (head1 (Jvm.Cond.code (⟨"com/example/weir/weir/cli/Deadlines", "isEmpty", "()Z"⟩ : MethodName) prog_27_method_2_code 1 (some .boolean) :: ws) ({ frames := 0, cells := 0, slots := 0, locals := 0 } : Room)) (fun a U => a = #[(.ref x0)] ∧ Z.Warmed39 U.vm ∧ U.heap = h0) (fun _ _ _ _ _ => True) (fun _ U o U' => ∃ v L, o = .returned v ∧ Q4 Z x0 sz h0 v U'.heap L ∧ FrameEnd U o U' L ({ frames := 0, cells := 0, slots := 0, locals := 0 } : Room).cells ({ frames := 0, cells := 0, slots := 0, locals := 0 } : Room).slots) := by
  refine g_body (plainFor_of_name pn_1) ?_
  intro p e s m below meth c T0 X0 hx hby hml hret hlk hown hnm hZ e0
  rw [ef_4]
  show Go p e below s _ _ _ (T0.setTop (mkF m 0 #[.val (.ref x0)] []))
  refine g_aloadN X0 hx 1 (hb hby d4_0) rfl rfl rfl ?_
  show Go p e below s _ _ _ (T0.setTop (mkF m 1 #[.val (.ref x0)] [(.ref x0)]))
  refine g_getF X0 hx hZ hown (hw _ (List.mem_of_getElem? (i := 26) rfl)) Via.refl e0 P0 4 (hb hby d4_1) rfl ?_
  intro T1 X1 e1
  show Go p e below s _ _ _ (T1.setTop (mkF m 4 #[.val (.ref x0)] [(.int sz)]))
  refine g_if0_ne X1 hx 11 7 (hb hby d4_4) (by decide) rfl rfl (fun h2 => ?_) (fun h2 => ?_)
  · show Go p e below s _ _ _ (T1.setTop (mkF m 7 #[.val (.ref x0)] []))
    refine g_iconst X1 hx (1 : Int32) 8 (hb hby d4_7) rfl rfl ?_
    show Go p e below s _ _ _ (T1.setTop (mkF m 8 #[.val (.ref x0)] [(.int (1 : Int32))]))
    refine g_goto X1 hx 12 (hb hby d4_8) (by decide) rfl ?_
    show Go p e below s _ _ _ (T1.setTop (mkF m 12 #[.val (.ref x0)] [(.int (1 : Int32))]))
    exact g_retN X1 hx hret (by simp) hlk (hb hby d4_12) (by decide) (by decide) ⟨congrArg (fun z => some (Value.int z)) (show (1 : Int32) = (f4 sz) from by rw [f4, if_pos h2]), rfl, e1⟩
  · show Go p e below s _ _ _ (T1.setTop (mkF m 11 #[.val (.ref x0)] []))
    refine g_iconst X1 hx (0 : Int32) 12 (hb hby d4_11) rfl rfl ?_
    show Go p e below s _ _ _ (T1.setTop (mkF m 12 #[.val (.ref x0)] [(.int (0 : Int32))]))
    exact g_retN X1 hx hret (by simp) hlk (hb hby d4_12) (by decide) (by decide) ⟨congrArg (fun z => some (Value.int z)) (show (0 : Int32) = (f4 sz) from by rw [f4, if_neg h2]), rfl, e1⟩
theorem d5_0 : decode jdk_29_method_69_code 0 = .ok (.iload_n 0, 1) := by decide +kernel
theorem d5_1 : decode jdk_29_method_69_code 1 = .ok (.iload_n 1, 1) := by decide +kernel
theorem d5_2 : decode jdk_29_method_69_code 2 = .ok (.if_icmp .gt 7, 3) := by decide +kernel
theorem d5_5 : decode jdk_29_method_69_code 5 = .ok (.iload_n 0, 1) := by decide +kernel
theorem d5_6 : decode jdk_29_method_69_code 6 = .ok (.goto 4, 3) := by decide +kernel
theorem d5_9 : decode jdk_29_method_69_code 9 = .ok (.iload_n 1, 1) := by decide +kernel
theorem d5_10 : decode jdk_29_method_69_code 10 = .ok (.ireturn, 1) := by decide +kernel
theorem ef_5 (m : MethodId) (x0 : Int32) (x1 : Int32) : entryFrame m #[(.int x0), (.int x1)] 2 = mkF m 0 #[.val (.int x0), .val (.int x1)] [] := by first | (simp [entryFrame, mkF, argsToLocals, Value.category]; done) | rfl
def f5 (x0 : Int32) (x1 : Int32) : Int32 := if x1 < x0 then x1 else x0
def Q5 (x0 : Int32) (x1 : Int32) (h0 : Heap) (v : Option Value) (h : Heap) (L : List Loc) : Prop := v = some (.int (f5 x0 x1)) ∧ L = [] ∧ h = h0
set_option maxRecDepth 65536 in
set_option maxHeartbeats 40000000 in
theorem rm5 (l : Launch) (Z : State) (a0 : Array Value) (hw : ∀ d ∈ tables_1, d.before a0 Z = true) (ws : List Jvm.Cond) (x0 : Int32) (x1 : Int32) (h0 : Heap) :
    MetFree l (⟨"java/lang/Math", "min", "(II)I"⟩ : MethodName) (head1 (Jvm.Cond.code (⟨"java/lang/Math", "min", "(II)I"⟩ : MethodName) jdk_29_method_69_code 2 (some .int) :: ws) ({ frames := 0, cells := 0, slots := 0, locals := 0 } : Room)) (fun a U => a = #[(.int x0), (.int x1)] ∧ Z.Warmed39 U.vm ∧ U.heap = h0) (fun _ _ _ _ _ => True) (fun _ U o U' => ∃ v L, o = .returned v ∧ Q5 x0 x1 h0 v U'.heap L ∧ FrameEnd U o U' L ({ frames := 0, cells := 0, slots := 0, locals := 0 } : Room).cells ({ frames := 0, cells := 0, slots := 0, locals := 0 } : Room).slots) := by
  refine g_body (Jvm.Free.JP.mathPlain rfl (by decide +kernel)) ?_
  intro p e s m below meth c T0 X0 hx hby hml hret hlk hown hnm hZ e0
  rw [ef_5]
  show Go p e below s _ _ _ (T0.setTop (mkF m 0 #[.val (.int x0), .val (.int x1)] []))
  refine g_iloadN X0 hx 1 (hb hby d5_0) rfl rfl ?_
  show Go p e below s _ _ _ (T0.setTop (mkF m 1 #[.val (.int x0), .val (.int x1)] [(.int x0)]))
  refine g_iloadN X0 hx 2 (hb hby d5_1) rfl rfl ?_
  show Go p e below s _ _ _ (T0.setTop (mkF m 2 #[.val (.int x0), .val (.int x1)] [(.int x1), (.int x0)]))
  refine g_icmp_gt X0 hx 9 5 (hb hby d5_2) (by decide) rfl rfl (fun h1 => ?_) (fun h1 => ?_)
  · show Go p e below s _ _ _ (T0.setTop (mkF m 9 #[.val (.int x0), .val (.int x1)] []))
    refine g_iloadN X0 hx 10 (hb hby d5_9) rfl rfl ?_
    show Go p e below s _ _ _ (T0.setTop (mkF m 10 #[.val (.int x0), .val (.int x1)] [(.int x1)]))
    exact g_retI X0 hx hret hlk (hb hby d5_10) (by decide) (by decide) ⟨congrArg (fun z => some (Value.int z)) (show x1 = (f5 x0 x1) from by rw [f5, if_pos h1]), rfl, e0⟩
  · show Go p e below s _ _ _ (T0.setTop (mkF m 5 #[.val (.int x0), .val (.int x1)] []))
    refine g_iloadN X0 hx 6 (hb hby d5_5) rfl rfl ?_
    show Go p e below s _ _ _ (T0.setTop (mkF m 6 #[.val (.int x0), .val (.int x1)] [(.int x0)]))
    refine g_goto X0 hx 10 (hb hby d5_6) (by decide) rfl ?_
    show Go p e below s _ _ _ (T0.setTop (mkF m 10 #[.val (.int x0), .val (.int x1)] [(.int x0)]))
    exact g_retI X0 hx hret hlk (hb hby d5_10) (by decide) (by decide) ⟨congrArg (fun z => some (Value.int z)) (show x0 = (f5 x0 x1) from by rw [f5, if_neg h1]), rfl, e0⟩
theorem d7_0 : decode prog_27_method_10_code 0 = .ok (.aload_n 0, 1) := by decide +kernel
theorem d7_1 : decode prog_27_method_10_code 1 = .ok (.getfield 7, 3) := by decide +kernel
theorem d7_4 : decode prog_27_method_10_code 4 = .ok (.iload_n 2, 1) := by decide +kernel
theorem d7_5 : decode prog_27_method_10_code 5 = .ok (.iload_n 1, 1) := by decide +kernel
theorem d7_6 : decode prog_27_method_10_code 6 = .ok (.iastore, 1) := by decide +kernel
theorem d7_7 : decode prog_27_method_10_code 7 = .ok (.aload_n 0, 1) := by decide +kernel
theorem d7_8 : decode prog_27_method_10_code 8 = .ok (.getfield 13, 3) := by decide +kernel
theorem d7_11 : decode prog_27_method_10_code 11 = .ok (.iload_n 1, 1) := by decide +kernel
theorem d7_12 : decode prog_27_method_10_code 12 = .ok (.iload_n 2, 1) := by decide +kernel
theorem d7_13 : decode prog_27_method_10_code 13 = .ok (.iastore, 1) := by decide +kernel
theorem d7_14 : decode prog_27_method_10_code 14 = .ok (.return_, 1) := by decide +kernel
theorem ef_7 (m : MethodId) (x0 : Addr) (x1 : Int32) (x2 : Int32) : entryFrame m #[(.ref x0), (.int x1), (.int x2)] 3 = mkF m 0 #[.val (.ref x0), .val (.int x1), .val (.int x2)] [] := by first | (simp [entryFrame, mkF, argsToLocals, Value.category]; done) | rfl
def Q7 (Z : State) (x0 : Addr) (x1 : Int32) (x2 : Int32) (a1 : Addr) (a2 : Addr) (H : Nat → Int32) (P : Nat → Int32) (cn : Nat) (pn : Nat) (h0 : Heap) (n0 : Nat) (v : Option Value) (h : Heap) (L : List Loc) : Prop := v = none ∧ Fr n0 L ∧ Keep h0 h [a1, a2] ∧ AI Z h a1 3 (upd H pn x1) ∧ AI Z h a2 3 (upd P cn x2)
set_option maxRecDepth 65536 in
set_option maxHeartbeats 40000000 in
theorem rm7 (l : Launch) (Z : State) (a0 : Array Value) (hw : ∀ d ∈ tables_1, d.before a0 Z = true) (ws : List Jvm.Cond) (x0 : Addr) (x1 : Int32) (x2 : Int32) (a1 : Addr) (a2 : Addr) (H : Nat → Int32) (P : Nat → Int32) (cn : Nat) (pn : Nat) (h0 : Heap) (n0 : Nat) (Z0 : n0 ≤ h0.size) (P0 : Fld Z h0 x0 "com/example/weir/weir/cli/Deadlines" "heap" "[I" (.ref a1)) (P1 : Fld Z h0 x0 "com/example/weir/weir/cli/Deadlines" "places" "[I" (.ref a2)) (P2 : AI Z h0 a1 3 H) (P3 : AI Z h0 a2 3 P) (P4 : n0 ≤ a1) (P5 : n0 ≤ a2) (P6 : x0 ≠ a1) (P7 : x0 ≠ a2) (P8 : a1 ≠ a2) (hc : x1.toInt = cn) (hcl : cn < 3) (hp : x2.toInt = pn) (hpl : pn < 3) :
    MetFree l (⟨"com/example/weir/weir/cli/Deadlines", "put", "(II)V"⟩ : MethodName) (head1 (Jvm.Cond.code (⟨"com/example/weir/weir/cli/Deadlines", "put", "(II)V"⟩ : MethodName) prog_27_method_10_code 3 none :: ws) ({ frames := 0, cells := 0, slots := 0, locals := 0 } : Room)) (fun a U => a = #[(.ref x0), (.int x1), (.int x2)] ∧ Z.Warmed39 U.vm ∧ U.heap = h0) (fun _ _ _ _ _ => True) (fun _ U o U' => ∃ v L, o = .returned v ∧ Q7 Z x0 x1 x2 a1 a2 H P cn pn h0 n0 v U'.heap L ∧ FrameEnd U o U' L ({ frames := 0, cells := 0, slots := 0, locals := 0 } : Room).cells ({ frames := 0, cells := 0, slots := 0, locals := 0 } : Room).slots) := by
  refine g_body (plainFor_of_name pn_1) ?_
  intro p e s m below meth c T0 X0 hx hby hml hret hlk hown hnm hZ e0
  rw [ef_7]
  have N0 := Fr.nil n0
  show Go p e below s _ _ _ (T0.setTop (mkF m 0 #[.val (.ref x0), .val (.int x1), .val (.int x2)] []))
  refine g_aloadN X0 hx 1 (hb hby d7_0) rfl rfl rfl ?_
  show Go p e below s _ _ _ (T0.setTop (mkF m 1 #[.val (.ref x0), .val (.int x1), .val (.int x2)] [(.ref x0)]))
  refine g_getF X0 hx hZ hown (hw _ (List.mem_of_getElem? (i := 10) rfl)) Via.refl e0 P0 4 (hb hby d7_1) rfl ?_
  intro T1 X1 e1
  show Go p e below s _ _ _ (T1.setTop (mkF m 4 #[.val (.ref x0), .val (.int x1), .val (.int x2)] [(.ref a1)]))
  refine g_iloadN X1 hx 5 (hb hby d7_4) rfl rfl ?_
  show Go p e below s _ _ _ (T1.setTop (mkF m 5 #[.val (.ref x0), .val (.int x1), .val (.int x2)] [(.int x2), (.ref a1)]))
  refine g_iloadN X1 hx 6 (hb hby d7_5) rfl rfl ?_
  show Go p e below s _ _ _ (T1.setTop (mkF m 6 #[.val (.ref x0), .val (.int x1), .val (.int x2)] [(.int x1), (.int x2), (.ref a1)]))
  refine g_iastore X1 hx hZ e1 P2 pn hp hpl 7 (hb hby d7_6) rfl ?_
  intro T2 h2 X2 e2 W2 A2
  have K2 := (Keep.refl h0 [a1, a2]).wr W2 (Or.inl (List.mem_of_getElem? (i := 0) rfl))
  have N2 := Fr.snoc X2 N0 P4
  have k2_0 := P0.other W2 (Or.inl P6)
  have k2_1 := P1.other W2 (Or.inl P6)
  have k2_3 := P3.other W2 (Ne.symm P8)
  have Z2 : n0 ≤ h2.size := by rw [W2.size]; exact Z0
  show Go p e below s _ _ _ (T2.setTop (mkF m 7 #[.val (.ref x0), .val (.int x1), .val (.int x2)] []))
  refine g_aloadN X2 hx 8 (hb hby d7_7) rfl rfl rfl ?_
  show Go p e below s _ _ _ (T2.setTop (mkF m 8 #[.val (.ref x0), .val (.int x1), .val (.int x2)] [(.ref x0)]))
  refine g_getF X2 hx hZ hown (hw _ (List.mem_of_getElem? (i := 12) rfl)) Via.refl e2 k2_1 11 (hb hby d7_8) rfl ?_
  intro T3 X3 e3
  show Go p e below s _ _ _ (T3.setTop (mkF m 11 #[.val (.ref x0), .val (.int x1), .val (.int x2)] [(.ref a2)]))
  refine g_iloadN X3 hx 12 (hb hby d7_11) rfl rfl ?_
  show Go p e below s _ _ _ (T3.setTop (mkF m 12 #[.val (.ref x0), .val (.int x1), .val (.int x2)] [(.int x1), (.ref a2)]))
  refine g_iloadN X3 hx 13 (hb hby d7_12) rfl rfl ?_
  show Go p e below s _ _ _ (T3.setTop (mkF m 13 #[.val (.ref x0), .val (.int x1), .val (.int x2)] [(.int x2), (.int x1), (.ref a2)]))
  refine g_iastore X3 hx hZ e3 k2_3 cn hc hcl 14 (hb hby d7_13) rfl ?_
  intro T4 h4 X4 e4 W4 A4
  have K4 := K2.wr W4 (Or.inl (List.mem_of_getElem? (i := 1) rfl))
  have N4 := Fr.snoc X4 N2 P5
  have k4_0 := k2_0.other W4 (Or.inl P7)
  have k4_1 := k2_1.other W4 (Or.inl P7)
  have k4_8 := A2.other W4 P8
  have Z4 : n0 ≤ h4.size := by rw [W4.size]; exact Z2
  show Go p e below s _ _ _ (T4.setTop (mkF m 14 #[.val (.ref x0), .val (.int x1), .val (.int x2)] []))
  exact g_retV X4 hx hret hlk (hb hby d7_14) (by decide) (by decide) (by rw [e4]; exact ⟨rfl, N4, K4, k4_8, A4⟩)
def own_ch (x1 sz : Int32) : Int32 := (if x1 < (sz / (2 : Int32)) then (((2 : Int32) * x1) + (1 : Int32)) else sz)
theorem own_chb {x sz : Int32} {n : Nat} (hx : 0 ≤ x.toInt ∧ x.toInt < 3) (hs : sz.toInt = n) (hn : n ≤ 3) : 0 ≤ (own_ch x sz).toInt ∧ (own_ch x sz).toInt ≤ n ∧ ((own_ch x sz).toInt < n → x.toInt < (own_ch x sz).toInt) ∧ (1 ≤ x.toInt → (own_ch x sz).toInt = n) := by
  have e1 : (1 : Int32).toInt = 1 := rfl
  have e2 : (2 : Int32).toInt = 2 := rfl
  have d := (c_idiv sz 2 2 rfl (by decide)).1 (by omega)
  have m := c_imul 2 x; have rm := rng32 (2 * x); have a := c_iadd (2 * x) 1; have ra := rng32 (2 * x + 1)
  rw [e2] at m
  unfold own_ch
  by_cases q : x < sz / 2
  · rw [if_pos q]; rw [Int32.lt_iff_toInt_lt] at q; omega
  · rw [if_neg q]; rw [Int32.lt_iff_toInt_lt] at q; omega
theorem own_chn {x sz : Int32} {n : Nat} (hx : 0 ≤ x.toInt ∧ x.toInt < 3) (hs : sz.toInt = n) (hn : n ≤ 3) (q : own_ch x sz + 1 < sz) : own_3 (own_ch x sz) ∧ own_3 (own_ch x sz + 1) := by
  have b := own_chb hx hs hn
  have e1 : (1 : Int32).toInt = 1 := rfl
  have a := c_iadd (own_ch x sz) 1; have ra := rng32 (own_ch x sz + 1)
  rw [Int32.lt_iff_toInt_lt] at q
  unfold own_3; omega
theorem d10_0 : decode prog_27_method_9_code 0 = .ok (.iload_n 1, 1) := by decide +kernel
theorem d10_1 : decode prog_27_method_9_code 1 = .ok (.aload_n 0, 1) := by decide +kernel
theorem d10_2 : decode prog_27_method_9_code 2 = .ok (.getfield 26, 3) := by decide +kernel
theorem d10_5 : decode prog_27_method_9_code 5 = .ok (.iconst 2, 1) := by decide +kernel
theorem d10_6 : decode prog_27_method_9_code 6 = .ok (.idiv, 1) := by decide +kernel
theorem d10_7 : decode prog_27_method_9_code 7 = .ok (.if_icmp .ge 11, 3) := by decide +kernel
theorem d10_10 : decode prog_27_method_9_code 10 = .ok (.iconst 2, 1) := by decide +kernel
theorem d10_11 : decode prog_27_method_9_code 11 = .ok (.iload_n 1, 1) := by decide +kernel
theorem d10_12 : decode prog_27_method_9_code 12 = .ok (.imul, 1) := by decide +kernel
theorem d10_13 : decode prog_27_method_9_code 13 = .ok (.iconst 1, 1) := by decide +kernel
theorem d10_14 : decode prog_27_method_9_code 14 = .ok (.iadd, 1) := by decide +kernel
theorem d10_15 : decode prog_27_method_9_code 15 = .ok (.goto 7, 3) := by decide +kernel
theorem d10_18 : decode prog_27_method_9_code 18 = .ok (.aload_n 0, 1) := by decide +kernel
theorem d10_19 : decode prog_27_method_9_code 19 = .ok (.getfield 26, 3) := by decide +kernel
theorem d10_22 : decode prog_27_method_9_code 22 = .ok (.istore_n 2, 1) := by decide +kernel
theorem d10_23 : decode prog_27_method_9_code 23 = .ok (.iload_n 2, 1) := by decide +kernel
theorem d10_24 : decode prog_27_method_9_code 24 = .ok (.iconst 1, 1) := by decide +kernel
theorem d10_25 : decode prog_27_method_9_code 25 = .ok (.iadd, 1) := by decide +kernel
theorem d10_26 : decode prog_27_method_9_code 26 = .ok (.aload_n 0, 1) := by decide +kernel
theorem d10_27 : decode prog_27_method_9_code 27 = .ok (.getfield 26, 3) := by decide +kernel
theorem d10_30 : decode prog_27_method_9_code 30 = .ok (.if_icmp .ge 34, 3) := by decide +kernel
theorem d10_33 : decode prog_27_method_9_code 33 = .ok (.aload_n 0, 1) := by decide +kernel
theorem d10_34 : decode prog_27_method_9_code 34 = .ok (.getfield 22, 3) := by decide +kernel
theorem d10_37 : decode prog_27_method_9_code 37 = .ok (.aload_n 0, 1) := by decide +kernel
theorem d10_38 : decode prog_27_method_9_code 38 = .ok (.getfield 7, 3) := by decide +kernel
theorem d10_41 : decode prog_27_method_9_code 41 = .ok (.iload_n 2, 1) := by decide +kernel
theorem d10_42 : decode prog_27_method_9_code 42 = .ok (.iconst 1, 1) := by decide +kernel
theorem d10_43 : decode prog_27_method_9_code 43 = .ok (.iadd, 1) := by decide +kernel
theorem d10_44 : decode prog_27_method_9_code 44 = .ok (.iaload, 1) := by decide +kernel
theorem d10_45 : decode prog_27_method_9_code 45 = .ok (.laload, 1) := by decide +kernel
theorem d10_46 : decode prog_27_method_9_code 46 = .ok (.aload_n 0, 1) := by decide +kernel
theorem d10_47 : decode prog_27_method_9_code 47 = .ok (.getfield 22, 3) := by decide +kernel
theorem d10_50 : decode prog_27_method_9_code 50 = .ok (.aload_n 0, 1) := by decide +kernel
theorem d10_51 : decode prog_27_method_9_code 51 = .ok (.getfield 7, 3) := by decide +kernel
theorem d10_54 : decode prog_27_method_9_code 54 = .ok (.iload_n 2, 1) := by decide +kernel
theorem d10_55 : decode prog_27_method_9_code 55 = .ok (.iaload, 1) := by decide +kernel
theorem d10_56 : decode prog_27_method_9_code 56 = .ok (.laload, 1) := by decide +kernel
theorem d10_57 : decode prog_27_method_9_code 57 = .ok (.lcmp, 1) := by decide +kernel
theorem d10_58 : decode prog_27_method_9_code 58 = .ok (.ifCond .ge 6, 3) := by decide +kernel
theorem d10_61 : decode prog_27_method_9_code 61 = .ok (.iinc 2 1, 3) := by decide +kernel
theorem d10_64 : decode prog_27_method_9_code 64 = .ok (.iload_n 2, 1) := by decide +kernel
theorem d10_65 : decode prog_27_method_9_code 65 = .ok (.ireturn, 1) := by decide +kernel
theorem ef_10 (m : MethodId) (x0 : Addr) (x1 : Int32) : entryFrame m #[(.ref x0), (.int x1)] 3 = mkF m 0 #[.val (.ref x0), .val (.int x1), .unset] [] := by first | (simp [entryFrame, mkF, argsToLocals, Value.category]; done) | rfl
def z10_22_s0_2 (x1 : Int32) (sz : Int32) : Int32 := (if x1 < (sz / (2 : Int32)) then (((2 : Int32) * x1) + (1 : Int32)) else sz)
def f10 (x1 : Int32) (sz : Int32) (H : Nat → Int32) (T : Nat → Int64) : Int32 := if ((own_ch x1 sz) + (1 : Int32)) < sz then (if (T ((H (((own_ch x1 sz) + (1 : Int32)).toInt.toNat)).toInt.toNat)) < (T ((H ((own_ch x1 sz).toInt.toNat)).toInt.toNat)) then ((own_ch x1 sz) + (1 : Int32)) else (own_ch x1 sz)) else (own_ch x1 sz)
def Q10 (Z : State) (x0 : Addr) (x1 : Int32) (a1 : Addr) (a3 : Addr) (sz : Int32) (H : Nat → Int32) (T : Nat → Int64) (sn : Nat) (h0 : Heap) (v : Option Value) (h : Heap) (L : List Loc) : Prop := v = some (.int (f10 x1 sz H T)) ∧ L = [] ∧ h = h0
set_option maxRecDepth 65536 in
set_option maxHeartbeats 40000000 in
theorem rm10 (l : Launch) (Z : State) (a0 : Array Value) (hw : ∀ d ∈ tables_1, d.before a0 Z = true) (ws : List Jvm.Cond) (x0 : Addr) (x1 : Int32) (a1 : Addr) (a3 : Addr) (sz : Int32) (H : Nat → Int32) (T : Nat → Int64) (sn : Nat) (h0 : Heap) (P0 : Fld Z h0 x0 "com/example/weir/weir/cli/Deadlines" "heap" "[I" (.ref a1)) (P1 : Fld Z h0 x0 "com/example/weir/weir/cli/Deadlines" "times" "[J" (.ref a3)) (P2 : Fld Z h0 x0 "com/example/weir/weir/cli/Deadlines" "size" "I" (.int sz)) (P3 : AI Z h0 a1 3 H) (P4 : AJ Z h0 a3 3 T) (hxr : 0 ≤ x1.toInt ∧ x1.toInt < 3) (hs : sz.toInt = sn) (hn : sn ≤ 3) (hH : ∀ i, i < 3 → own_3 (H i)) :
    MetFree l (⟨"com/example/weir/weir/cli/Deadlines", "earlierChild", "(I)I"⟩ : MethodName) (head1 (Jvm.Cond.code (⟨"com/example/weir/weir/cli/Deadlines", "earlierChild", "(I)I"⟩ : MethodName) prog_27_method_9_code 3 (some .int) :: ws) ({ frames := 0, cells := 0, slots := 0, locals := 0 } : Room)) (fun a U => a = #[(.ref x0), (.int x1)] ∧ Z.Warmed39 U.vm ∧ U.heap = h0) (fun _ _ _ _ _ => True) (fun _ U o U' => ∃ v L, o = .returned v ∧ Q10 Z x0 x1 a1 a3 sz H T sn h0 v U'.heap L ∧ FrameEnd U o U' L ({ frames := 0, cells := 0, slots := 0, locals := 0 } : Room).cells ({ frames := 0, cells := 0, slots := 0, locals := 0 } : Room).slots) := by
  refine g_body (plainFor_of_name pn_1) ?_
  intro p e s m below meth c T0 X0 hx hby hml hret hlk hown hnm hZ e0
  rw [ef_10]
  show Go p e below s _ _ _ (T0.setTop (mkF m 0 #[.val (.ref x0), .val (.int x1), .unset] []))
  refine g_iloadN X0 hx 1 (hb hby d10_0) rfl rfl ?_
  show Go p e below s _ _ _ (T0.setTop (mkF m 1 #[.val (.ref x0), .val (.int x1), .unset] [(.int x1)]))
  refine g_aloadN X0 hx 2 (hb hby d10_1) rfl rfl rfl ?_
  show Go p e below s _ _ _ (T0.setTop (mkF m 2 #[.val (.ref x0), .val (.int x1), .unset] [(.ref x0), (.int x1)]))
  refine g_getF X0 hx hZ hown (hw _ (List.mem_of_getElem? (i := 26) rfl)) Via.refl e0 P2 5 (hb hby d10_2) rfl ?_
  intro T1 X1 e1
  show Go p e below s _ _ _ (T1.setTop (mkF m 5 #[.val (.ref x0), .val (.int x1), .unset] [(.int sz), (.int x1)]))
  refine g_iconst X1 hx (2 : Int32) 6 (hb hby d10_5) rfl rfl ?_
  show Go p e below s _ _ _ (T1.setTop (mkF m 6 #[.val (.ref x0), .val (.int x1), .unset] [(.int (2 : Int32)), (.int sz), (.int x1)]))
  refine g_idiv X1 hx 7 (hb hby d10_6) (by decide) rfl ?_
  show Go p e below s _ _ _ (T1.setTop (mkF m 7 #[.val (.ref x0), .val (.int x1), .unset] [(.int (sz / (2 : Int32))), (.int x1)]))
  have J2 : ∀ (T2 : State) (L2 : List Loc), Stand p l e ({ frames := 0, cells := 0, slots := 0, locals := 0 } : Room) s m #[(.ref x0), (.int x1)] below meth c T2 L2 0 0 → T2.heap = h0 → L2 = [] → Go p e below s (Q10 Z x0 x1 a1 a3 sz H T sn h0) ({ frames := 0, cells := 0, slots := 0, locals := 0 } : Room).cells ({ frames := 0, cells := 0, slots := 0, locals := 0 } : Room).slots (T2.setTop (mkF m 22 #[.val (.ref x0), .val (.int x1), .unset] [(.int (z10_22_s0_2 x1 sz))])) := by
    intro T2 L2 X2 e2 hL2
    subst hL2
    refine g_istoreN X2 hx #[.val (.ref x0), .val (.int x1), .val (.int (own_ch x1 sz))] 23 (hb hby d10_22) rfl rfl ?_
    show Go p e below s _ _ _ (T2.setTop (mkF m 23 #[.val (.ref x0), .val (.int x1), .val (.int (own_ch x1 sz))] []))
    refine g_iloadN X2 hx 24 (hb hby d10_23) rfl rfl ?_
    show Go p e below s _ _ _ (T2.setTop (mkF m 24 #[.val (.ref x0), .val (.int x1), .val (.int (own_ch x1 sz))] [(.int (own_ch x1 sz))]))
    refine g_iconst X2 hx (1 : Int32) 25 (hb hby d10_24) rfl rfl ?_
    show Go p e below s _ _ _ (T2.setTop (mkF m 25 #[.val (.ref x0), .val (.int x1), .val (.int (own_ch x1 sz))] [(.int (1 : Int32)), (.int (own_ch x1 sz))]))
    refine g_iadd X2 hx 26 (hb hby d10_25) rfl ?_
    show Go p e below s _ _ _ (T2.setTop (mkF m 26 #[.val (.ref x0), .val (.int x1), .val (.int (own_ch x1 sz))] [(.int ((own_ch x1 sz) + (1 : Int32)))]))
    refine g_aloadN X2 hx 27 (hb hby d10_26) rfl rfl rfl ?_
    show Go p e below s _ _ _ (T2.setTop (mkF m 27 #[.val (.ref x0), .val (.int x1), .val (.int (own_ch x1 sz))] [(.ref x0), (.int ((own_ch x1 sz) + (1 : Int32)))]))
    refine g_getF X2 hx hZ hown (hw _ (List.mem_of_getElem? (i := 26) rfl)) Via.refl e2 P2 30 (hb hby d10_27) rfl ?_
    intro T3 X3 e3
    show Go p e below s _ _ _ (T3.setTop (mkF m 30 #[.val (.ref x0), .val (.int x1), .val (.int (own_ch x1 sz))] [(.int sz), (.int ((own_ch x1 sz) + (1 : Int32)))]))
    refine g_icmp_ge X3 hx 64 33 (hb hby d10_30) (by decide) rfl rfl (fun h4 => ?_) (fun h4 => ?_)
    · show Go p e below s _ _ _ (T3.setTop (mkF m 33 #[.val (.ref x0), .val (.int x1), .val (.int (own_ch x1 sz))] []))
      refine g_aloadN X3 hx 34 (hb hby d10_33) rfl rfl rfl ?_
      show Go p e below s _ _ _ (T3.setTop (mkF m 34 #[.val (.ref x0), .val (.int x1), .val (.int (own_ch x1 sz))] [(.ref x0)]))
      refine g_getF X3 hx hZ hown (hw _ (List.mem_of_getElem? (i := 19) rfl)) Via.refl e3 P1 37 (hb hby d10_34) rfl ?_
      intro T5 X5 e5
      show Go p e below s _ _ _ (T5.setTop (mkF m 37 #[.val (.ref x0), .val (.int x1), .val (.int (own_ch x1 sz))] [(.ref a3)]))
      refine g_aloadN X5 hx 38 (hb hby d10_37) rfl rfl rfl ?_
      show Go p e below s _ _ _ (T5.setTop (mkF m 38 #[.val (.ref x0), .val (.int x1), .val (.int (own_ch x1 sz))] [(.ref x0), (.ref a3)]))
      refine g_getF X5 hx hZ hown (hw _ (List.mem_of_getElem? (i := 10) rfl)) Via.refl e5 P0 41 (hb hby d10_38) rfl ?_
      intro T6 X6 e6
      show Go p e below s _ _ _ (T6.setTop (mkF m 41 #[.val (.ref x0), .val (.int x1), .val (.int (own_ch x1 sz))] [(.ref a1), (.ref a3)]))
      refine g_iloadN X6 hx 42 (hb hby d10_41) rfl rfl ?_
      show Go p e below s _ _ _ (T6.setTop (mkF m 42 #[.val (.ref x0), .val (.int x1), .val (.int (own_ch x1 sz))] [(.int (own_ch x1 sz)), (.ref a1), (.ref a3)]))
      refine g_iconst X6 hx (1 : Int32) 43 (hb hby d10_42) rfl rfl ?_
      show Go p e below s _ _ _ (T6.setTop (mkF m 43 #[.val (.ref x0), .val (.int x1), .val (.int (own_ch x1 sz))] [(.int (1 : Int32)), (.int (own_ch x1 sz)), (.ref a1), (.ref a3)]))
      refine g_iadd X6 hx 44 (hb hby d10_43) rfl ?_
      show Go p e below s _ _ _ (T6.setTop (mkF m 44 #[.val (.ref x0), .val (.int x1), .val (.int (own_ch x1 sz))] [(.int ((own_ch x1 sz) + (1 : Int32))), (.ref a1), (.ref a3)]))
      refine g_iaload X6 hx hZ e6 P3 (((own_ch x1 sz) + (1 : Int32)).toInt.toNat) (own_i3 (own_chn hxr hs hn ‹own_ch x1 sz + (1 : Int32) < sz›).2).1 (own_i3 (own_chn hxr hs hn ‹own_ch x1 sz + (1 : Int32) < sz›).2).2 45 (hb hby d10_44) rfl ?_
      show Go p e below s _ _ _ (T6.setTop (mkF m 45 #[.val (.ref x0), .val (.int x1), .val (.int (own_ch x1 sz))] [(.int (H (((own_ch x1 sz) + (1 : Int32)).toInt.toNat))), (.ref a3)]))
      refine g_laload X6 hx hZ e6 P4 ((H (((own_ch x1 sz) + (1 : Int32)).toInt.toNat)).toInt.toNat) (own_i3 (hH _ (own_i3 (own_chn hxr hs hn ‹own_ch x1 sz + (1 : Int32) < sz›).2).2)).1 (own_i3 (hH _ (own_i3 (own_chn hxr hs hn ‹own_ch x1 sz + (1 : Int32) < sz›).2).2)).2 46 (hb hby d10_45) rfl ?_
      show Go p e below s _ _ _ (T6.setTop (mkF m 46 #[.val (.ref x0), .val (.int x1), .val (.int (own_ch x1 sz))] [(.long (T ((H (((own_ch x1 sz) + (1 : Int32)).toInt.toNat)).toInt.toNat)))]))
      refine g_aloadN X6 hx 47 (hb hby d10_46) rfl rfl rfl ?_
      show Go p e below s _ _ _ (T6.setTop (mkF m 47 #[.val (.ref x0), .val (.int x1), .val (.int (own_ch x1 sz))] [(.ref x0), (.long (T ((H (((own_ch x1 sz) + (1 : Int32)).toInt.toNat)).toInt.toNat)))]))
      refine g_getF X6 hx hZ hown (hw _ (List.mem_of_getElem? (i := 19) rfl)) Via.refl e6 P1 50 (hb hby d10_47) rfl ?_
      intro T9 X9 e9
      show Go p e below s _ _ _ (T9.setTop (mkF m 50 #[.val (.ref x0), .val (.int x1), .val (.int (own_ch x1 sz))] [(.ref a3), (.long (T ((H (((own_ch x1 sz) + (1 : Int32)).toInt.toNat)).toInt.toNat)))]))
      refine g_aloadN X9 hx 51 (hb hby d10_50) rfl rfl rfl ?_
      show Go p e below s _ _ _ (T9.setTop (mkF m 51 #[.val (.ref x0), .val (.int x1), .val (.int (own_ch x1 sz))] [(.ref x0), (.ref a3), (.long (T ((H (((own_ch x1 sz) + (1 : Int32)).toInt.toNat)).toInt.toNat)))]))
      refine g_getF X9 hx hZ hown (hw _ (List.mem_of_getElem? (i := 10) rfl)) Via.refl e9 P0 54 (hb hby d10_51) rfl ?_
      intro T10 X10 e10
      show Go p e below s _ _ _ (T10.setTop (mkF m 54 #[.val (.ref x0), .val (.int x1), .val (.int (own_ch x1 sz))] [(.ref a1), (.ref a3), (.long (T ((H (((own_ch x1 sz) + (1 : Int32)).toInt.toNat)).toInt.toNat)))]))
      refine g_iloadN X10 hx 55 (hb hby d10_54) rfl rfl ?_
      show Go p e below s _ _ _ (T10.setTop (mkF m 55 #[.val (.ref x0), .val (.int x1), .val (.int (own_ch x1 sz))] [(.int (own_ch x1 sz)), (.ref a1), (.ref a3), (.long (T ((H (((own_ch x1 sz) + (1 : Int32)).toInt.toNat)).toInt.toNat)))]))
      refine g_iaload X10 hx hZ e10 P3 ((own_ch x1 sz).toInt.toNat) (own_i3 (own_chn hxr hs hn ‹own_ch x1 sz + (1 : Int32) < sz›).1).1 (own_i3 (own_chn hxr hs hn ‹own_ch x1 sz + (1 : Int32) < sz›).1).2 56 (hb hby d10_55) rfl ?_
      show Go p e below s _ _ _ (T10.setTop (mkF m 56 #[.val (.ref x0), .val (.int x1), .val (.int (own_ch x1 sz))] [(.int (H ((own_ch x1 sz).toInt.toNat))), (.ref a3), (.long (T ((H (((own_ch x1 sz) + (1 : Int32)).toInt.toNat)).toInt.toNat)))]))
      refine g_laload X10 hx hZ e10 P4 ((H ((own_ch x1 sz).toInt.toNat)).toInt.toNat) (own_i3 (hH _ (own_i3 (own_chn hxr hs hn ‹own_ch x1 sz + (1 : Int32) < sz›).1).2)).1 (own_i3 (hH _ (own_i3 (own_chn hxr hs hn ‹own_ch x1 sz + (1 : Int32) < sz›).1).2)).2 57 (hb hby d10_56) rfl ?_
      show Go p e below s _ _ _ (T10.setTop (mkF m 57 #[.val (.ref x0), .val (.int x1), .val (.int (own_ch x1 sz))] [(.long (T ((H ((own_ch x1 sz).toInt.toNat)).toInt.toNat))), (.long (T ((H (((own_ch x1 sz) + (1 : Int32)).toInt.toNat)).toInt.toNat)))]))
      refine g_lcmp X10 hx 58 (hb hby d10_57) rfl ?_
      show Go p e below s _ _ _ (T10.setTop (mkF m 58 #[.val (.ref x0), .val (.int x1), .val (.int (own_ch x1 sz))] [(.int (lcmpW (T ((H (((own_ch x1 sz) + (1 : Int32)).toInt.toNat)).toInt.toNat)) (T ((H ((own_ch x1 sz).toInt.toNat)).toInt.toNat))))]))
      refine g_lc_ge X10 hx 64 61 (hb hby d10_58) (by decide) rfl rfl (fun h13 => ?_) (fun h13 => ?_)
      · show Go p e below s _ _ _ (T10.setTop (mkF m 61 #[.val (.ref x0), .val (.int x1), .val (.int (own_ch x1 sz))] []))
        refine g_iinc X10 hx (1 : Int32) #[.val (.ref x0), .val (.int x1), .val (.int ((own_ch x1 sz) + (1 : Int32)))] 64 (hb hby d10_61) rfl rfl rfl rfl ?_
        show Go p e below s _ _ _ (T10.setTop (mkF m 64 #[.val (.ref x0), .val (.int x1), .val (.int ((own_ch x1 sz) + (1 : Int32)))] []))
        refine g_iloadN X10 hx 65 (hb hby d10_64) rfl rfl ?_
        show Go p e below s _ _ _ (T10.setTop (mkF m 65 #[.val (.ref x0), .val (.int x1), .val (.int ((own_ch x1 sz) + (1 : Int32)))] [(.int ((own_ch x1 sz) + (1 : Int32)))]))
        exact g_retI X10 hx hret hlk (hb hby d10_65) (by decide) (by decide) ⟨congrArg (fun z => some (Value.int z)) (show ((own_ch x1 sz) + (1 : Int32)) = (f10 x1 sz H T) from by rw [f10, if_pos h4, if_pos h13]), rfl, e10⟩
      · show Go p e below s _ _ _ (T10.setTop (mkF m 64 #[.val (.ref x0), .val (.int x1), .val (.int (own_ch x1 sz))] []))
        refine g_iloadN X10 hx 65 (hb hby d10_64) rfl rfl ?_
        show Go p e below s _ _ _ (T10.setTop (mkF m 65 #[.val (.ref x0), .val (.int x1), .val (.int (own_ch x1 sz))] [(.int (own_ch x1 sz))]))
        exact g_retI X10 hx hret hlk (hb hby d10_65) (by decide) (by decide) ⟨congrArg (fun z => some (Value.int z)) (show (own_ch x1 sz) = (f10 x1 sz H T) from by rw [f10, if_pos h4, if_neg h13]), rfl, e10⟩
    · show Go p e below s _ _ _ (T3.setTop (mkF m 64 #[.val (.ref x0), .val (.int x1), .val (.int (own_ch x1 sz))] []))
      refine g_iloadN X3 hx 65 (hb hby d10_64) rfl rfl ?_
      show Go p e below s _ _ _ (T3.setTop (mkF m 65 #[.val (.ref x0), .val (.int x1), .val (.int (own_ch x1 sz))] [(.int (own_ch x1 sz))]))
      exact g_retI X3 hx hret hlk (hb hby d10_65) (by decide) (by decide) ⟨congrArg (fun z => some (Value.int z)) (show (own_ch x1 sz) = (f10 x1 sz H T) from by rw [f10, if_neg h4]), rfl, e3⟩
  refine g_icmp_ge X1 hx 18 10 (hb hby d10_7) (by decide) rfl rfl (fun h14 => ?_) (fun h14 => ?_)
  · show Go p e below s _ _ _ (T1.setTop (mkF m 10 #[.val (.ref x0), .val (.int x1), .unset] []))
    refine g_iconst X1 hx (2 : Int32) 11 (hb hby d10_10) rfl rfl ?_
    show Go p e below s _ _ _ (T1.setTop (mkF m 11 #[.val (.ref x0), .val (.int x1), .unset] [(.int (2 : Int32))]))
    refine g_iloadN X1 hx 12 (hb hby d10_11) rfl rfl ?_
    show Go p e below s _ _ _ (T1.setTop (mkF m 12 #[.val (.ref x0), .val (.int x1), .unset] [(.int x1), (.int (2 : Int32))]))
    refine g_imul X1 hx 13 (hb hby d10_12) rfl ?_
    show Go p e below s _ _ _ (T1.setTop (mkF m 13 #[.val (.ref x0), .val (.int x1), .unset] [(.int ((2 : Int32) * x1))]))
    refine g_iconst X1 hx (1 : Int32) 14 (hb hby d10_13) rfl rfl ?_
    show Go p e below s _ _ _ (T1.setTop (mkF m 14 #[.val (.ref x0), .val (.int x1), .unset] [(.int (1 : Int32)), (.int ((2 : Int32) * x1))]))
    refine g_iadd X1 hx 15 (hb hby d10_14) rfl ?_
    show Go p e below s _ _ _ (T1.setTop (mkF m 15 #[.val (.ref x0), .val (.int x1), .unset] [(.int (((2 : Int32) * x1) + (1 : Int32)))]))
    refine g_goto X1 hx 22 (hb hby d10_15) (by decide) rfl ?_
    show Go p e below s _ _ _ (T1.setTop (mkF m 22 #[.val (.ref x0), .val (.int x1), .unset] [(.int (((2 : Int32) * x1) + (1 : Int32)))]))
    have q2 := (J2 _ _ X1 e1 rfl)
    simp only [z10_22_s0_2, if_pos h14] at q2
    exact q2
  · show Go p e below s _ _ _ (T1.setTop (mkF m 18 #[.val (.ref x0), .val (.int x1), .unset] []))
    refine g_aloadN X1 hx 19 (hb hby d10_18) rfl rfl rfl ?_
    show Go p e below s _ _ _ (T1.setTop (mkF m 19 #[.val (.ref x0), .val (.int x1), .unset] [(.ref x0)]))
    refine g_getF X1 hx hZ hown (hw _ (List.mem_of_getElem? (i := 26) rfl)) Via.refl e1 P2 22 (hb hby d10_19) rfl ?_
    intro T15 X15 e15
    show Go p e below s _ _ _ (T15.setTop (mkF m 22 #[.val (.ref x0), .val (.int x1), .unset] [(.int sz)]))
    have q2 := (J2 _ _ X15 e15 rfl)
    simp only [z10_22_s0_2, if_neg h14] at q2
    exact q2
theorem own_ec {x sz : Int32} {n : Nat} (H : Nat → Int32) (T : Nat → Int64) (hx : 0 ≤ x.toInt ∧ x.toInt < 3) (hs : sz.toInt = n) (hn : n ≤ 3) : 0 ≤ (f10 x sz H T).toInt ∧ (f10 x sz H T).toInt ≤ n ∧ ((f10 x sz H T).toInt < n → x.toInt < (f10 x sz H T).toInt) ∧ (1 ≤ x.toInt → (f10 x sz H T).toInt = n) := by
  have b := own_chb hx hs hn
  have e1 : (1 : Int32).toInt = 1 := rfl
  have a := c_iadd (own_ch x sz) 1; have ra := rng32 (own_ch x sz + 1)
  unfold f10
  split
  · rename_i q
    rw [Int32.lt_iff_toInt_lt] at q
    split <;> omega
  · exact b
theorem own_ecl {x sz : Int32} {n : Nat} {H : Nat → Int32} {T : Nat → Int64} (hx : 0 ≤ x.toInt ∧ x.toInt < 3) (hs : sz.toInt = n) (hn : n ≤ 3) (q : f10 x sz H T < sz) : own_3 (f10 x sz H T) ∧ 1 ≤ (f10 x sz H T).toInt := by
  have b := own_ec H T hx hs hn
  rw [Int32.lt_iff_toInt_lt] at q
  unfold own_3; omega
theorem own_ec2 {x sz : Int32} {n : Nat} (H H' : Nat → Int32) (T : Nat → Int64) (hx : 0 ≤ x.toInt ∧ x.toInt < 3) (hs : sz.toInt = n) (hn : n ≤ 3) (q : f10 x sz H T < sz) : ¬ f10 (f10 x sz H T) sz H' T < sz := by
  have l := own_ecl hx hs hn q
  have b := own_ec H' T (x := f10 x sz H T) (by have := l.1; unfold own_3 at this; omega) hs hn
  rw [Int32.lt_iff_toInt_lt]; omega
theorem own_ec1 {x sz : Int32} {n : Nat} (H H' : Nat → Int32) (T : Nat → Int64) (hx : 0 ≤ x.toInt ∧ x.toInt < 3) (hs : sz.toInt = n) (hn : n ≤ 3) (q : f10 x sz H T < sz) : 0 ≤ (f10 x sz H T).toInt ∧ (f10 x sz H T).toInt < 3 := (own_ecl hx hs hn q).1
theorem own_upd3 {H : Nat → Int32} {j : Nat} {x : Int32} (h : ∀ i, i < 3 → own_3 (H i)) (hx : own_3 x) : ∀ i, i < 3 → own_3 (upd H j x i) := fun i hi => by
  unfold upd; split
  · exact hx
  · exact h i hi
theorem pd__28II_29V : parseMethodDescriptor "(II)V" = some ⟨[.int, .int], none⟩ := by decide +kernel
theorem d8_0 : decode prog_27_method_7_code 0 = .ok (.aload_n 0, 1) := by decide +kernel
theorem d8_1 : decode prog_27_method_7_code 1 = .ok (.getfield 7, 3) := by decide +kernel
theorem d8_4 : decode prog_27_method_7_code 4 = .ok (.iload_n 1, 1) := by decide +kernel
theorem d8_5 : decode prog_27_method_7_code 5 = .ok (.iaload, 1) := by decide +kernel
theorem d8_6 : decode prog_27_method_7_code 6 = .ok (.istore_n 2, 1) := by decide +kernel
theorem d8_7 : decode prog_27_method_7_code 7 = .ok (.iload_n 1, 1) := by decide +kernel
theorem d8_8 : decode prog_27_method_7_code 8 = .ok (.ifCond .le 52, 3) := by decide +kernel
theorem d8_11 : decode prog_27_method_7_code 11 = .ok (.aload_n 0, 1) := by decide +kernel
theorem d8_12 : decode prog_27_method_7_code 12 = .ok (.getfield 22, 3) := by decide +kernel
theorem d8_15 : decode prog_27_method_7_code 15 = .ok (.aload_n 0, 1) := by decide +kernel
theorem d8_16 : decode prog_27_method_7_code 16 = .ok (.getfield 7, 3) := by decide +kernel
theorem d8_19 : decode prog_27_method_7_code 19 = .ok (.iload_n 1, 1) := by decide +kernel
theorem d8_20 : decode prog_27_method_7_code 20 = .ok (.iconst 1, 1) := by decide +kernel
theorem d8_21 : decode prog_27_method_7_code 21 = .ok (.isub, 1) := by decide +kernel
theorem d8_22 : decode prog_27_method_7_code 22 = .ok (.iconst 2, 1) := by decide +kernel
theorem d8_23 : decode prog_27_method_7_code 23 = .ok (.idiv, 1) := by decide +kernel
theorem d8_24 : decode prog_27_method_7_code 24 = .ok (.iaload, 1) := by decide +kernel
theorem d8_25 : decode prog_27_method_7_code 25 = .ok (.laload, 1) := by decide +kernel
theorem d8_26 : decode prog_27_method_7_code 26 = .ok (.aload_n 0, 1) := by decide +kernel
theorem d8_27 : decode prog_27_method_7_code 27 = .ok (.getfield 22, 3) := by decide +kernel
theorem d8_30 : decode prog_27_method_7_code 30 = .ok (.iload_n 2, 1) := by decide +kernel
theorem d8_31 : decode prog_27_method_7_code 31 = .ok (.laload, 1) := by decide +kernel
theorem d8_32 : decode prog_27_method_7_code 32 = .ok (.lcmp, 1) := by decide +kernel
theorem d8_33 : decode prog_27_method_7_code 33 = .ok (.ifCond .le 27, 3) := by decide +kernel
theorem d8_36 : decode prog_27_method_7_code 36 = .ok (.aload_n 0, 1) := by decide +kernel
theorem d8_37 : decode prog_27_method_7_code 37 = .ok (.aload_n 0, 1) := by decide +kernel
theorem d8_38 : decode prog_27_method_7_code 38 = .ok (.getfield 7, 3) := by decide +kernel
theorem d8_41 : decode prog_27_method_7_code 41 = .ok (.iload_n 1, 1) := by decide +kernel
theorem d8_42 : decode prog_27_method_7_code 42 = .ok (.iconst 1, 1) := by decide +kernel
theorem d8_43 : decode prog_27_method_7_code 43 = .ok (.isub, 1) := by decide +kernel
theorem d8_44 : decode prog_27_method_7_code 44 = .ok (.iconst 2, 1) := by decide +kernel
theorem d8_45 : decode prog_27_method_7_code 45 = .ok (.idiv, 1) := by decide +kernel
theorem d8_46 : decode prog_27_method_7_code 46 = .ok (.iaload, 1) := by decide +kernel
theorem d8_47 : decode prog_27_method_7_code 47 = .ok (.iload_n 1, 1) := by decide +kernel
theorem d8_48 : decode prog_27_method_7_code 48 = .ok (.invokevirtual 30, 3) := by decide +kernel
theorem d8_51 : decode prog_27_method_7_code 51 = .ok (.iload_n 1, 1) := by decide +kernel
theorem d8_52 : decode prog_27_method_7_code 52 = .ok (.iconst 1, 1) := by decide +kernel
theorem d8_53 : decode prog_27_method_7_code 53 = .ok (.isub, 1) := by decide +kernel
theorem d8_54 : decode prog_27_method_7_code 54 = .ok (.iconst 2, 1) := by decide +kernel
theorem d8_55 : decode prog_27_method_7_code 55 = .ok (.idiv, 1) := by decide +kernel
theorem d8_56 : decode prog_27_method_7_code 56 = .ok (.istore_n 1, 1) := by decide +kernel
theorem d8_57 : decode prog_27_method_7_code 57 = .ok (.goto (-50), 3) := by decide +kernel
theorem d8_60 : decode prog_27_method_7_code 60 = .ok (.aload_n 0, 1) := by decide +kernel
theorem d8_61 : decode prog_27_method_7_code 61 = .ok (.iload_n 2, 1) := by decide +kernel
theorem d8_62 : decode prog_27_method_7_code 62 = .ok (.iload_n 1, 1) := by decide +kernel
theorem d8_63 : decode prog_27_method_7_code 63 = .ok (.invokevirtual 30, 3) := by decide +kernel
theorem d8_66 : decode prog_27_method_7_code 66 = .ok (.iload_n 1, 1) := by decide +kernel
theorem d8_67 : decode prog_27_method_7_code 67 = .ok (.ireturn, 1) := by decide +kernel
theorem ef_8 (m : MethodId) (x0 : Addr) (x1 : Int32) : entryFrame m #[(.ref x0), (.int x1)] 3 = mkF m 0 #[.val (.ref x0), .val (.int x1), .unset] [] := by first | (simp [entryFrame, mkF, argsToLocals, Value.category]; done) | rfl
def f8 (x1 : Int32) (H : Nat → Int32) (T : Nat → Int64) (xn : Nat) : Int32 := if (0 : Int32) < x1 then (if (T ((H xn).toInt.toNat)) < (T ((H 0).toInt.toNat)) then ((x1 - (1 : Int32)) / (2 : Int32)) else x1) else x1
def g8_a1 (x1 : Int32) (H : Nat → Int32) (T : Nat → Int64) (xn : Nat) : Nat → Int32 := if (0 : Int32) < x1 then (if (T ((H xn).toInt.toNat)) < (T ((H 0).toInt.toNat)) then (upd (upd H xn (H 0)) 0 (H xn)) else (upd H xn (H xn))) else (upd H xn (H xn))
def g8_a2 (x1 : Int32) (H : Nat → Int32) (P : Nat → Int32) (T : Nat → Int64) (xn : Nat) : Nat → Int32 := if (0 : Int32) < x1 then (if (T ((H xn).toInt.toNat)) < (T ((H 0).toInt.toNat)) then (upd (upd P ((H 0).toInt.toNat) x1) ((H xn).toInt.toNat) ((x1 - (1 : Int32)) / (2 : Int32))) else (upd P ((H xn).toInt.toNat) x1)) else (upd P ((H xn).toInt.toNat) x1)
def Q8 (Z : State) (x0 : Addr) (x1 : Int32) (a1 : Addr) (a2 : Addr) (a3 : Addr) (sz : Int32) (H : Nat → Int32) (P : Nat → Int32) (T : Nat → Int64) (xn : Nat) (h0 : Heap) (n0 : Nat) (v : Option Value) (h : Heap) (L : List Loc) : Prop := v = some (.int (f8 x1 H T xn)) ∧ Fr n0 L ∧ Keep h0 h [a1, a2] ∧ AI Z h a1 3 (g8_a1 x1 H T xn) ∧ AI Z h a2 3 (g8_a2 x1 H P T xn)
set_option maxRecDepth 65536 in
set_option maxHeartbeats 40000000 in
theorem rm8 (l : Launch) (Z : State) (a0 : Array Value) (hw : ∀ d ∈ tables_1, d.before a0 Z = true) (ws : List Jvm.Cond) (x0 : Addr) (x1 : Int32) (a1 : Addr) (a2 : Addr) (a3 : Addr) (sz : Int32) (H : Nat → Int32) (P : Nat → Int32) (T : Nat → Int64) (xn : Nat) (h0 : Heap) (n0 : Nat) (Z0 : n0 ≤ h0.size) (P0 : Exa Z h0 x0 "com/example/weir/weir/cli/Deadlines") (P1 : Fld Z h0 x0 "com/example/weir/weir/cli/Deadlines" "heap" "[I" (.ref a1)) (P2 : Fld Z h0 x0 "com/example/weir/weir/cli/Deadlines" "places" "[I" (.ref a2)) (P3 : Fld Z h0 x0 "com/example/weir/weir/cli/Deadlines" "times" "[J" (.ref a3)) (P4 : Fld Z h0 x0 "com/example/weir/weir/cli/Deadlines" "size" "I" (.int sz)) (P5 : AI Z h0 a1 3 H) (P6 : AI Z h0 a2 3 P) (P7 : AJ Z h0 a3 3 T) (P8 : n0 ≤ a1) (P9 : n0 ≤ a2) (P10 : x0 ≠ a1) (P11 : x0 ≠ a2) (P12 : x0 ≠ a3) (P13 : a1 ≠ a2) (P14 : a1 ≠ a3) (P15 : a2 ≠ a3) (hx1 : x1.toInt = xn) (hl : xn < 3) (hH : ∀ i, i < 3 → own_3 (H i)) :
    MetFree l (⟨"com/example/weir/weir/cli/Deadlines", "up", "(I)I"⟩ : MethodName) (head1 (Jvm.Cond.code (⟨"com/example/weir/weir/cli/Deadlines", "up", "(I)I"⟩ : MethodName) prog_27_method_7_code 3 (some .int) :: ws) ({ frames := 1, cells := 0, slots := 0, locals := 14 } : Room)) (fun a U => a = #[(.ref x0), (.int x1)] ∧ Z.Warmed39 U.vm ∧ U.heap = h0) (fun _ _ _ _ _ => True) (fun _ U o U' => ∃ v L, o = .returned v ∧ Q8 Z x0 x1 a1 a2 a3 sz H P T xn h0 n0 v U'.heap L ∧ FrameEnd U o U' L ({ frames := 1, cells := 0, slots := 0, locals := 14 } : Room).cells ({ frames := 1, cells := 0, slots := 0, locals := 14 } : Room).slots) := by
  refine g_body (plainFor_of_name pn_1) ?_
  intro p e s m below meth c T0 X0 hx hby hml hret hlk hown hnm hZ e0
  rw [ef_8]
  have N0 := Fr.nil n0
  show Go p e below s _ _ _ (T0.setTop (mkF m 0 #[.val (.ref x0), .val (.int x1), .unset] []))
  refine g_aloadN X0 hx 1 (hb hby d8_0) rfl rfl rfl ?_
  show Go p e below s _ _ _ (T0.setTop (mkF m 1 #[.val (.ref x0), .val (.int x1), .unset] [(.ref x0)]))
  refine g_getF X0 hx hZ hown (hw _ (List.mem_of_getElem? (i := 10) rfl)) Via.refl e0 P1 4 (hb hby d8_1) rfl ?_
  intro T1 X1 e1
  show Go p e below s _ _ _ (T1.setTop (mkF m 4 #[.val (.ref x0), .val (.int x1), .unset] [(.ref a1)]))
  refine g_iloadN X1 hx 5 (hb hby d8_4) rfl rfl ?_
  show Go p e below s _ _ _ (T1.setTop (mkF m 5 #[.val (.ref x0), .val (.int x1), .unset] [(.int x1), (.ref a1)]))
  refine g_iaload X1 hx hZ e1 P5 xn hx1 hl 6 (hb hby d8_5) rfl ?_
  show Go p e below s _ _ _ (T1.setTop (mkF m 6 #[.val (.ref x0), .val (.int x1), .unset] [(.int (H xn))]))
  refine g_istoreN X1 hx #[.val (.ref x0), .val (.int x1), .val (.int (H xn))] 7 (hb hby d8_6) rfl rfl ?_
  show Go p e below s _ _ _ (T1.setTop (mkF m 7 #[.val (.ref x0), .val (.int x1), .val (.int (H xn))] []))
  refine g_iloadN X1 hx 8 (hb hby d8_7) rfl rfl ?_
  show Go p e below s _ _ _ (T1.setTop (mkF m 8 #[.val (.ref x0), .val (.int x1), .val (.int (H xn))] [(.int x1)]))
  refine g_if0_le X1 hx 60 11 (hb hby d8_8) (by decide) rfl rfl (fun h3 => ?_) (fun h3 => ?_)
  · show Go p e below s _ _ _ (T1.setTop (mkF m 11 #[.val (.ref x0), .val (.int x1), .val (.int (H xn))] []))
    refine g_aloadN X1 hx 12 (hb hby d8_11) rfl rfl rfl ?_
    show Go p e below s _ _ _ (T1.setTop (mkF m 12 #[.val (.ref x0), .val (.int x1), .val (.int (H xn))] [(.ref x0)]))
    refine g_getF X1 hx hZ hown (hw _ (List.mem_of_getElem? (i := 19) rfl)) Via.refl e1 P3 15 (hb hby d8_12) rfl ?_
    intro T4 X4 e4
    show Go p e below s _ _ _ (T4.setTop (mkF m 15 #[.val (.ref x0), .val (.int x1), .val (.int (H xn))] [(.ref a3)]))
    refine g_aloadN X4 hx 16 (hb hby d8_15) rfl rfl rfl ?_
    show Go p e below s _ _ _ (T4.setTop (mkF m 16 #[.val (.ref x0), .val (.int x1), .val (.int (H xn))] [(.ref x0), (.ref a3)]))
    refine g_getF X4 hx hZ hown (hw _ (List.mem_of_getElem? (i := 10) rfl)) Via.refl e4 P1 19 (hb hby d8_16) rfl ?_
    intro T5 X5 e5
    show Go p e below s _ _ _ (T5.setTop (mkF m 19 #[.val (.ref x0), .val (.int x1), .val (.int (H xn))] [(.ref a1), (.ref a3)]))
    refine g_iloadN X5 hx 20 (hb hby d8_19) rfl rfl ?_
    show Go p e below s _ _ _ (T5.setTop (mkF m 20 #[.val (.ref x0), .val (.int x1), .val (.int (H xn))] [(.int x1), (.ref a1), (.ref a3)]))
    refine g_iconst X5 hx (1 : Int32) 21 (hb hby d8_20) rfl rfl ?_
    show Go p e below s _ _ _ (T5.setTop (mkF m 21 #[.val (.ref x0), .val (.int x1), .val (.int (H xn))] [(.int (1 : Int32)), (.int x1), (.ref a1), (.ref a3)]))
    refine g_isub X5 hx 22 (hb hby d8_21) rfl ?_
    show Go p e below s _ _ _ (T5.setTop (mkF m 22 #[.val (.ref x0), .val (.int x1), .val (.int (H xn))] [(.int (x1 - (1 : Int32))), (.ref a1), (.ref a3)]))
    refine g_iconst X5 hx (2 : Int32) 23 (hb hby d8_22) rfl rfl ?_
    show Go p e below s _ _ _ (T5.setTop (mkF m 23 #[.val (.ref x0), .val (.int x1), .val (.int (H xn))] [(.int (2 : Int32)), (.int (x1 - (1 : Int32))), (.ref a1), (.ref a3)]))
    refine g_idiv X5 hx 24 (hb hby d8_23) (by decide) rfl ?_
    show Go p e below s _ _ _ (T5.setTop (mkF m 24 #[.val (.ref x0), .val (.int x1), .val (.int (H xn))] [(.int ((x1 - (1 : Int32)) / (2 : Int32))), (.ref a1), (.ref a3)]))
    refine g_iaload X5 hx hZ e5 P5 0 (own_half (by omega) ‹(0 : Int32) < x1›) (by decide) 25 (hb hby d8_24) rfl ?_
    show Go p e below s _ _ _ (T5.setTop (mkF m 25 #[.val (.ref x0), .val (.int x1), .val (.int (H xn))] [(.int (H 0)), (.ref a3)]))
    refine g_laload X5 hx hZ e5 P7 ((H 0).toInt.toNat) (own_i3 (hH 0 (by decide))).1 (own_i3 (hH 0 (by decide))).2 26 (hb hby d8_25) rfl ?_
    show Go p e below s _ _ _ (T5.setTop (mkF m 26 #[.val (.ref x0), .val (.int x1), .val (.int (H xn))] [(.long (T ((H 0).toInt.toNat)))]))
    refine g_aloadN X5 hx 27 (hb hby d8_26) rfl rfl rfl ?_
    show Go p e below s _ _ _ (T5.setTop (mkF m 27 #[.val (.ref x0), .val (.int x1), .val (.int (H xn))] [(.ref x0), (.long (T ((H 0).toInt.toNat)))]))
    refine g_getF X5 hx hZ hown (hw _ (List.mem_of_getElem? (i := 19) rfl)) Via.refl e5 P3 30 (hb hby d8_27) rfl ?_
    intro T8 X8 e8
    show Go p e below s _ _ _ (T8.setTop (mkF m 30 #[.val (.ref x0), .val (.int x1), .val (.int (H xn))] [(.ref a3), (.long (T ((H 0).toInt.toNat)))]))
    refine g_iloadN X8 hx 31 (hb hby d8_30) rfl rfl ?_
    show Go p e below s _ _ _ (T8.setTop (mkF m 31 #[.val (.ref x0), .val (.int x1), .val (.int (H xn))] [(.int (H xn)), (.ref a3), (.long (T ((H 0).toInt.toNat)))]))
    refine g_laload X8 hx hZ e8 P7 ((H xn).toInt.toNat) (own_i3 (hH xn hl)).1 (own_i3 (hH xn hl)).2 32 (hb hby d8_31) rfl ?_
    show Go p e below s _ _ _ (T8.setTop (mkF m 32 #[.val (.ref x0), .val (.int x1), .val (.int (H xn))] [(.long (T ((H xn).toInt.toNat))), (.long (T ((H 0).toInt.toNat)))]))
    refine g_lcmp X8 hx 33 (hb hby d8_32) rfl ?_
    show Go p e below s _ _ _ (T8.setTop (mkF m 33 #[.val (.ref x0), .val (.int x1), .val (.int (H xn))] [(.int (lcmpW (T ((H 0).toInt.toNat)) (T ((H xn).toInt.toNat))))]))
    refine g_lc_le X8 hx 60 36 (hb hby d8_33) (by decide) rfl rfl (fun h10 => ?_) (fun h10 => ?_)
    · show Go p e below s _ _ _ (T8.setTop (mkF m 36 #[.val (.ref x0), .val (.int x1), .val (.int (H xn))] []))
      refine g_aloadN X8 hx 37 (hb hby d8_36) rfl rfl rfl ?_
      show Go p e below s _ _ _ (T8.setTop (mkF m 37 #[.val (.ref x0), .val (.int x1), .val (.int (H xn))] [(.ref x0)]))
      refine g_aloadN X8 hx 38 (hb hby d8_37) rfl rfl rfl ?_
      show Go p e below s _ _ _ (T8.setTop (mkF m 38 #[.val (.ref x0), .val (.int x1), .val (.int (H xn))] [(.ref x0), (.ref x0)]))
      refine g_getF X8 hx hZ hown (hw _ (List.mem_of_getElem? (i := 10) rfl)) Via.refl e8 P1 41 (hb hby d8_38) rfl ?_
      intro T11 X11 e11
      show Go p e below s _ _ _ (T11.setTop (mkF m 41 #[.val (.ref x0), .val (.int x1), .val (.int (H xn))] [(.ref a1), (.ref x0)]))
      refine g_iloadN X11 hx 42 (hb hby d8_41) rfl rfl ?_
      show Go p e below s _ _ _ (T11.setTop (mkF m 42 #[.val (.ref x0), .val (.int x1), .val (.int (H xn))] [(.int x1), (.ref a1), (.ref x0)]))
      refine g_iconst X11 hx (1 : Int32) 43 (hb hby d8_42) rfl rfl ?_
      show Go p e below s _ _ _ (T11.setTop (mkF m 43 #[.val (.ref x0), .val (.int x1), .val (.int (H xn))] [(.int (1 : Int32)), (.int x1), (.ref a1), (.ref x0)]))
      refine g_isub X11 hx 44 (hb hby d8_43) rfl ?_
      show Go p e below s _ _ _ (T11.setTop (mkF m 44 #[.val (.ref x0), .val (.int x1), .val (.int (H xn))] [(.int (x1 - (1 : Int32))), (.ref a1), (.ref x0)]))
      refine g_iconst X11 hx (2 : Int32) 45 (hb hby d8_44) rfl rfl ?_
      show Go p e below s _ _ _ (T11.setTop (mkF m 45 #[.val (.ref x0), .val (.int x1), .val (.int (H xn))] [(.int (2 : Int32)), (.int (x1 - (1 : Int32))), (.ref a1), (.ref x0)]))
      refine g_idiv X11 hx 46 (hb hby d8_45) (by decide) rfl ?_
      show Go p e below s _ _ _ (T11.setTop (mkF m 46 #[.val (.ref x0), .val (.int x1), .val (.int (H xn))] [(.int ((x1 - (1 : Int32)) / (2 : Int32))), (.ref a1), (.ref x0)]))
      refine g_iaload X11 hx hZ e11 P5 0 (own_half (by omega) ‹(0 : Int32) < x1›) (by decide) 47 (hb hby d8_46) rfl ?_
      show Go p e below s _ _ _ (T11.setTop (mkF m 47 #[.val (.ref x0), .val (.int x1), .val (.int (H xn))] [(.int (H 0)), (.ref x0)]))
      refine g_iloadN X11 hx 48 (hb hby d8_47) rfl rfl ?_
      show Go p e below s _ _ _ (T11.setTop (mkF m 48 #[.val (.ref x0), .val (.int x1), .val (.int (H xn))] [(.int x1), (.int (H 0)), (.ref x0)]))
      refine g_callP X11 hx hZ hown (hw _ (List.mem_of_getElem? (i := 37) rfl)) (hw _ (List.mem_of_getElem? (i := 38) rfl)) (hw _ (List.mem_of_getElem? (i := 1) rfl)) (hw _ (List.mem_of_getElem? (i := 39) rfl)) (hw _ (List.mem_of_getElem? (i := 2) rfl)) (hw _ (List.mem_of_getElem? (i := 40) rfl)) (by decide) e11 x0 P0 (rm7 l Z a0 hw [] x0 (H 0) x1 a1 a2 H P ((H 0).toInt.toNat) xn h0 n0 Z0 P1 P2 P5 P6 P8 P9 P10 P11 P13 ((own_i3 (hH 0 (by decide))).1 : (H 0).toInt = ((H 0).toInt.toNat)) ((own_i3 (hH 0 (by decide))).2 : ((H 0).toInt.toNat) < 3) (hx1 : x1.toInt = xn) (hl : xn < 3)) [(.int (H 0)), (.int x1)] [] 0 rfl (lenOf pd__28II_29V rfl) rfl (Nat.le_of_eq rfl) (by decide) (by decide) (by decide) (by decide) (by rw [hml]; rfl) (hb hby d8_48) ?_
      intro T13 L13 v13 X13 q13
      obtain ⟨rfl, N13, K13, p13_0, p13_1⟩ := q13
      have NN13 := Fr.app N0 N13
      have KK13 := (Keep.refl h0 [a1, a2]).trans K13 (by intro x hx; simp only [List.mem_cons, List.not_mem_nil, or_false] at hx; rcases hx with rfl | rfl <;> first | exact (Or.inl (List.mem_of_getElem? (i := 0) rfl)) | exact (Or.inl (List.mem_of_getElem? (i := 1) rfl)))
      have k13_0 := P0.keep K13
      have k13_1 := P1.keep K13 (nm1 P10 (nm1 P11 nm0))
      have k13_2 := P2.keep K13 (nm1 P10 (nm1 P11 nm0))
      have k13_3 := P3.keep K13 (nm1 P10 (nm1 P11 nm0))
      have k13_4 := P4.keep K13 (nm1 P10 (nm1 P11 nm0))
      have k13_7 := P7.keep K13 (nm1 (Ne.symm P14) (nm1 (Ne.symm P15) nm0))
      have Z13 : n0 ≤ T13.heap.size := Nat.le_trans Z0 K13.1
      show Go p e below s _ _ _ (T13.setTop (mkF m 51 #[.val (.ref x0), .val (.int x1), .val (.int (H xn))] []))
      refine g_iloadN X13 hx 52 (hb hby d8_51) rfl rfl ?_
      show Go p e below s _ _ _ (T13.setTop (mkF m 52 #[.val (.ref x0), .val (.int x1), .val (.int (H xn))] [(.int x1)]))
      refine g_iconst X13 hx (1 : Int32) 53 (hb hby d8_52) rfl rfl ?_
      show Go p e below s _ _ _ (T13.setTop (mkF m 53 #[.val (.ref x0), .val (.int x1), .val (.int (H xn))] [(.int (1 : Int32)), (.int x1)]))
      refine g_isub X13 hx 54 (hb hby d8_53) rfl ?_
      show Go p e below s _ _ _ (T13.setTop (mkF m 54 #[.val (.ref x0), .val (.int x1), .val (.int (H xn))] [(.int (x1 - (1 : Int32)))]))
      refine g_iconst X13 hx (2 : Int32) 55 (hb hby d8_54) rfl rfl ?_
      show Go p e below s _ _ _ (T13.setTop (mkF m 55 #[.val (.ref x0), .val (.int x1), .val (.int (H xn))] [(.int (2 : Int32)), (.int (x1 - (1 : Int32)))]))
      refine g_idiv X13 hx 56 (hb hby d8_55) (by decide) rfl ?_
      show Go p e below s _ _ _ (T13.setTop (mkF m 56 #[.val (.ref x0), .val (.int x1), .val (.int (H xn))] [(.int ((x1 - (1 : Int32)) / (2 : Int32)))]))
      refine g_istoreN X13 hx #[.val (.ref x0), .val (.int ((x1 - (1 : Int32)) / (2 : Int32))), .val (.int (H xn))] 57 (hb hby d8_56) rfl rfl ?_
      show Go p e below s _ _ _ (T13.setTop (mkF m 57 #[.val (.ref x0), .val (.int ((x1 - (1 : Int32)) / (2 : Int32))), .val (.int (H xn))] []))
      refine g_goto X13 hx 7 (hb hby d8_57) (by decide) rfl ?_
      show Go p e below s _ _ _ (T13.setTop (mkF m 7 #[.val (.ref x0), .val (.int ((x1 - (1 : Int32)) / (2 : Int32))), .val (.int (H xn))] []))
      refine g_iloadN X13 hx 8 (hb hby d8_7) rfl rfl ?_
      show Go p e below s _ _ _ (T13.setTop (mkF m 8 #[.val (.ref x0), .val (.int ((x1 - (1 : Int32)) / (2 : Int32))), .val (.int (H xn))] [(.int ((x1 - (1 : Int32)) / (2 : Int32)))]))
      have h14 : ¬ ((0 : Int32) < ((x1 - (1 : Int32)) / (2 : Int32))) := own_hz (by omega) ‹(0 : Int32) < x1›
      refine g_if0_le X13 hx 60 11 (hb hby d8_8) (by decide) rfl rfl (fun q => absurd q h14) (fun _ => ?_)
      show Go p e below s _ _ _ (T13.setTop (mkF m 60 #[.val (.ref x0), .val (.int ((x1 - (1 : Int32)) / (2 : Int32))), .val (.int (H xn))] []))
      refine g_aloadN X13 hx 61 (hb hby d8_60) rfl rfl rfl ?_
      show Go p e below s _ _ _ (T13.setTop (mkF m 61 #[.val (.ref x0), .val (.int ((x1 - (1 : Int32)) / (2 : Int32))), .val (.int (H xn))] [(.ref x0)]))
      refine g_iloadN X13 hx 62 (hb hby d8_61) rfl rfl ?_
      show Go p e below s _ _ _ (T13.setTop (mkF m 62 #[.val (.ref x0), .val (.int ((x1 - (1 : Int32)) / (2 : Int32))), .val (.int (H xn))] [(.int (H xn)), (.ref x0)]))
      refine g_iloadN X13 hx 63 (hb hby d8_62) rfl rfl ?_
      show Go p e below s _ _ _ (T13.setTop (mkF m 63 #[.val (.ref x0), .val (.int ((x1 - (1 : Int32)) / (2 : Int32))), .val (.int (H xn))] [(.int ((x1 - (1 : Int32)) / (2 : Int32))), (.int (H xn)), (.ref x0)]))
      refine g_callP X13 hx hZ hown (hw _ (List.mem_of_getElem? (i := 37) rfl)) (hw _ (List.mem_of_getElem? (i := 38) rfl)) (hw _ (List.mem_of_getElem? (i := 1) rfl)) (hw _ (List.mem_of_getElem? (i := 39) rfl)) (hw _ (List.mem_of_getElem? (i := 2) rfl)) (hw _ (List.mem_of_getElem? (i := 40) rfl)) (by decide) rfl x0 k13_0 (rm7 l Z a0 hw [] x0 (H xn) ((x1 - (1 : Int32)) / (2 : Int32)) a1 a2 (upd H xn (H 0)) (upd P ((H 0).toInt.toNat) x1) ((H xn).toInt.toNat) 0 T13.heap n0 Z13 k13_1 k13_2 p13_0 p13_1 P8 P9 P10 P11 P13 ((own_i3 (hH xn hl)).1 : (H xn).toInt = ((H xn).toInt.toNat)) ((own_i3 (hH xn hl)).2 : ((H xn).toInt.toNat) < 3) ((own_half (by omega) ‹(0 : Int32) < x1›) : ((x1 - (1 : Int32)) / (2 : Int32)).toInt = 0) (by decide : 0 < 3)) [(.int (H xn)), (.int ((x1 - (1 : Int32)) / (2 : Int32)))] [] 0 rfl (lenOf pd__28II_29V rfl) rfl (Nat.le_of_eq rfl) (by decide) (by decide) (by decide) (by decide) (by rw [hml]; rfl) (hb hby d8_63) ?_
      intro T15 L15 v15 X15 q15
      obtain ⟨rfl, N15, K15, p15_0, p15_1⟩ := q15
      have NN15 := Fr.app NN13 N15
      have KK15 := KK13.trans K15 (by intro x hx; simp only [List.mem_cons, List.not_mem_nil, or_false] at hx; rcases hx with rfl | rfl <;> first | exact (Or.inl (List.mem_of_getElem? (i := 0) rfl)) | exact (Or.inl (List.mem_of_getElem? (i := 1) rfl)))
      have k15_0 := k13_0.keep K15
      have k15_1 := k13_1.keep K15 (nm1 P10 (nm1 P11 nm0))
      have k15_2 := k13_2.keep K15 (nm1 P10 (nm1 P11 nm0))
      have k15_3 := k13_3.keep K15 (nm1 P10 (nm1 P11 nm0))
      have k15_4 := k13_4.keep K15 (nm1 P10 (nm1 P11 nm0))
      have k15_5 := k13_7.keep K15 (nm1 (Ne.symm P14) (nm1 (Ne.symm P15) nm0))
      have Z15 : n0 ≤ T15.heap.size := Nat.le_trans Z13 K15.1
      show Go p e below s _ _ _ (T15.setTop (mkF m 66 #[.val (.ref x0), .val (.int ((x1 - (1 : Int32)) / (2 : Int32))), .val (.int (H xn))] []))
      refine g_iloadN X15 hx 67 (hb hby d8_66) rfl rfl ?_
      show Go p e below s _ _ _ (T15.setTop (mkF m 67 #[.val (.ref x0), .val (.int ((x1 - (1 : Int32)) / (2 : Int32))), .val (.int (H xn))] [(.int ((x1 - (1 : Int32)) / (2 : Int32)))]))
      exact g_retI X15 hx hret hlk (hb hby d8_67) (by decide) (by decide) ⟨congrArg (fun z => some (Value.int z)) (show ((x1 - (1 : Int32)) / (2 : Int32)) = (f8 x1 H T xn) from by rw [f8, if_pos h3, if_pos h10]), NN15, KK15, (by rw [g8_a1, if_pos h3, if_pos h10]; exact p15_0), (by rw [g8_a2, if_pos h3, if_pos h10]; exact p15_1)⟩
    · show Go p e below s _ _ _ (T8.setTop (mkF m 60 #[.val (.ref x0), .val (.int x1), .val (.int (H xn))] []))
      refine g_aloadN X8 hx 61 (hb hby d8_60) rfl rfl rfl ?_
      show Go p e below s _ _ _ (T8.setTop (mkF m 61 #[.val (.ref x0), .val (.int x1), .val (.int (H xn))] [(.ref x0)]))
      refine g_iloadN X8 hx 62 (hb hby d8_61) rfl rfl ?_
      show Go p e below s _ _ _ (T8.setTop (mkF m 62 #[.val (.ref x0), .val (.int x1), .val (.int (H xn))] [(.int (H xn)), (.ref x0)]))
      refine g_iloadN X8 hx 63 (hb hby d8_62) rfl rfl ?_
      show Go p e below s _ _ _ (T8.setTop (mkF m 63 #[.val (.ref x0), .val (.int x1), .val (.int (H xn))] [(.int x1), (.int (H xn)), (.ref x0)]))
      refine g_callP X8 hx hZ hown (hw _ (List.mem_of_getElem? (i := 37) rfl)) (hw _ (List.mem_of_getElem? (i := 38) rfl)) (hw _ (List.mem_of_getElem? (i := 1) rfl)) (hw _ (List.mem_of_getElem? (i := 39) rfl)) (hw _ (List.mem_of_getElem? (i := 2) rfl)) (hw _ (List.mem_of_getElem? (i := 40) rfl)) (by decide) e8 x0 P0 (rm7 l Z a0 hw [] x0 (H xn) x1 a1 a2 H P ((H xn).toInt.toNat) xn h0 n0 Z0 P1 P2 P5 P6 P8 P9 P10 P11 P13 ((own_i3 (hH xn hl)).1 : (H xn).toInt = ((H xn).toInt.toNat)) ((own_i3 (hH xn hl)).2 : ((H xn).toInt.toNat) < 3) (hx1 : x1.toInt = xn) (hl : xn < 3)) [(.int (H xn)), (.int x1)] [] 0 rfl (lenOf pd__28II_29V rfl) rfl (Nat.le_of_eq rfl) (by decide) (by decide) (by decide) (by decide) (by rw [hml]; rfl) (hb hby d8_63) ?_
      intro T16 L16 v16 X16 q16
      obtain ⟨rfl, N16, K16, p16_0, p16_1⟩ := q16
      have NN16 := Fr.app N0 N16
      have KK16 := (Keep.refl h0 [a1, a2]).trans K16 (by intro x hx; simp only [List.mem_cons, List.not_mem_nil, or_false] at hx; rcases hx with rfl | rfl <;> first | exact (Or.inl (List.mem_of_getElem? (i := 0) rfl)) | exact (Or.inl (List.mem_of_getElem? (i := 1) rfl)))
      have k16_0 := P0.keep K16
      have k16_1 := P1.keep K16 (nm1 P10 (nm1 P11 nm0))
      have k16_2 := P2.keep K16 (nm1 P10 (nm1 P11 nm0))
      have k16_3 := P3.keep K16 (nm1 P10 (nm1 P11 nm0))
      have k16_4 := P4.keep K16 (nm1 P10 (nm1 P11 nm0))
      have k16_7 := P7.keep K16 (nm1 (Ne.symm P14) (nm1 (Ne.symm P15) nm0))
      have Z16 : n0 ≤ T16.heap.size := Nat.le_trans Z0 K16.1
      show Go p e below s _ _ _ (T16.setTop (mkF m 66 #[.val (.ref x0), .val (.int x1), .val (.int (H xn))] []))
      refine g_iloadN X16 hx 67 (hb hby d8_66) rfl rfl ?_
      show Go p e below s _ _ _ (T16.setTop (mkF m 67 #[.val (.ref x0), .val (.int x1), .val (.int (H xn))] [(.int x1)]))
      exact g_retI X16 hx hret hlk (hb hby d8_67) (by decide) (by decide) ⟨congrArg (fun z => some (Value.int z)) (show x1 = (f8 x1 H T xn) from by rw [f8, if_pos h3, if_neg h10]), NN16, KK16, (by rw [g8_a1, if_pos h3, if_neg h10]; exact p16_0), (by rw [g8_a2, if_pos h3, if_neg h10]; exact p16_1)⟩
  · show Go p e below s _ _ _ (T1.setTop (mkF m 60 #[.val (.ref x0), .val (.int x1), .val (.int (H xn))] []))
    refine g_aloadN X1 hx 61 (hb hby d8_60) rfl rfl rfl ?_
    show Go p e below s _ _ _ (T1.setTop (mkF m 61 #[.val (.ref x0), .val (.int x1), .val (.int (H xn))] [(.ref x0)]))
    refine g_iloadN X1 hx 62 (hb hby d8_61) rfl rfl ?_
    show Go p e below s _ _ _ (T1.setTop (mkF m 62 #[.val (.ref x0), .val (.int x1), .val (.int (H xn))] [(.int (H xn)), (.ref x0)]))
    refine g_iloadN X1 hx 63 (hb hby d8_62) rfl rfl ?_
    show Go p e below s _ _ _ (T1.setTop (mkF m 63 #[.val (.ref x0), .val (.int x1), .val (.int (H xn))] [(.int x1), (.int (H xn)), (.ref x0)]))
    refine g_callP X1 hx hZ hown (hw _ (List.mem_of_getElem? (i := 37) rfl)) (hw _ (List.mem_of_getElem? (i := 38) rfl)) (hw _ (List.mem_of_getElem? (i := 1) rfl)) (hw _ (List.mem_of_getElem? (i := 39) rfl)) (hw _ (List.mem_of_getElem? (i := 2) rfl)) (hw _ (List.mem_of_getElem? (i := 40) rfl)) (by decide) e1 x0 P0 (rm7 l Z a0 hw [] x0 (H xn) x1 a1 a2 H P ((H xn).toInt.toNat) xn h0 n0 Z0 P1 P2 P5 P6 P8 P9 P10 P11 P13 ((own_i3 (hH xn hl)).1 : (H xn).toInt = ((H xn).toInt.toNat)) ((own_i3 (hH xn hl)).2 : ((H xn).toInt.toNat) < 3) (hx1 : x1.toInt = xn) (hl : xn < 3)) [(.int (H xn)), (.int x1)] [] 0 rfl (lenOf pd__28II_29V rfl) rfl (Nat.le_of_eq rfl) (by decide) (by decide) (by decide) (by decide) (by rw [hml]; rfl) (hb hby d8_63) ?_
    intro T17 L17 v17 X17 q17
    obtain ⟨rfl, N17, K17, p17_0, p17_1⟩ := q17
    have NN17 := Fr.app N0 N17
    have KK17 := (Keep.refl h0 [a1, a2]).trans K17 (by intro x hx; simp only [List.mem_cons, List.not_mem_nil, or_false] at hx; rcases hx with rfl | rfl <;> first | exact (Or.inl (List.mem_of_getElem? (i := 0) rfl)) | exact (Or.inl (List.mem_of_getElem? (i := 1) rfl)))
    have k17_0 := P0.keep K17
    have k17_1 := P1.keep K17 (nm1 P10 (nm1 P11 nm0))
    have k17_2 := P2.keep K17 (nm1 P10 (nm1 P11 nm0))
    have k17_3 := P3.keep K17 (nm1 P10 (nm1 P11 nm0))
    have k17_4 := P4.keep K17 (nm1 P10 (nm1 P11 nm0))
    have k17_7 := P7.keep K17 (nm1 (Ne.symm P14) (nm1 (Ne.symm P15) nm0))
    have Z17 : n0 ≤ T17.heap.size := Nat.le_trans Z0 K17.1
    show Go p e below s _ _ _ (T17.setTop (mkF m 66 #[.val (.ref x0), .val (.int x1), .val (.int (H xn))] []))
    refine g_iloadN X17 hx 67 (hb hby d8_66) rfl rfl ?_
    show Go p e below s _ _ _ (T17.setTop (mkF m 67 #[.val (.ref x0), .val (.int x1), .val (.int (H xn))] [(.int x1)]))
    exact g_retI X17 hx hret hlk (hb hby d8_67) (by decide) (by decide) ⟨congrArg (fun z => some (Value.int z)) (show x1 = (f8 x1 H T xn) from by rw [f8, if_neg h3]), NN17, KK17, (by rw [g8_a1, if_neg h3]; exact p17_0), (by rw [g8_a2, if_neg h3]; exact p17_1)⟩
theorem pd__28I_29I : parseMethodDescriptor "(I)I" = some ⟨[.int], some .int⟩ := by decide +kernel
theorem d9_0 : decode prog_27_method_8_code 0 = .ok (.aload_n 0, 1) := by decide +kernel
theorem d9_1 : decode prog_27_method_8_code 1 = .ok (.getfield 7, 3) := by decide +kernel
theorem d9_4 : decode prog_27_method_8_code 4 = .ok (.iload_n 1, 1) := by decide +kernel
theorem d9_5 : decode prog_27_method_8_code 5 = .ok (.iaload, 1) := by decide +kernel
theorem d9_6 : decode prog_27_method_8_code 6 = .ok (.istore_n 2, 1) := by decide +kernel
theorem d9_7 : decode prog_27_method_8_code 7 = .ok (.aload_n 0, 1) := by decide +kernel
theorem d9_8 : decode prog_27_method_8_code 8 = .ok (.iload_n 1, 1) := by decide +kernel
theorem d9_9 : decode prog_27_method_8_code 9 = .ok (.invokevirtual 42, 3) := by decide +kernel
theorem d9_12 : decode prog_27_method_8_code 12 = .ok (.istore_n 3, 1) := by decide +kernel
theorem d9_13 : decode prog_27_method_8_code 13 = .ok (.iload_n 3, 1) := by decide +kernel
theorem d9_14 : decode prog_27_method_8_code 14 = .ok (.aload_n 0, 1) := by decide +kernel
theorem d9_15 : decode prog_27_method_8_code 15 = .ok (.getfield 26, 3) := by decide +kernel
theorem d9_18 : decode prog_27_method_8_code 18 = .ok (.if_icmp .ge 46, 3) := by decide +kernel
theorem d9_21 : decode prog_27_method_8_code 21 = .ok (.aload_n 0, 1) := by decide +kernel
theorem d9_22 : decode prog_27_method_8_code 22 = .ok (.getfield 22, 3) := by decide +kernel
theorem d9_25 : decode prog_27_method_8_code 25 = .ok (.aload_n 0, 1) := by decide +kernel
theorem d9_26 : decode prog_27_method_8_code 26 = .ok (.getfield 7, 3) := by decide +kernel
theorem d9_29 : decode prog_27_method_8_code 29 = .ok (.iload_n 3, 1) := by decide +kernel
theorem d9_30 : decode prog_27_method_8_code 30 = .ok (.iaload, 1) := by decide +kernel
theorem d9_31 : decode prog_27_method_8_code 31 = .ok (.laload, 1) := by decide +kernel
theorem d9_32 : decode prog_27_method_8_code 32 = .ok (.aload_n 0, 1) := by decide +kernel
theorem d9_33 : decode prog_27_method_8_code 33 = .ok (.getfield 22, 3) := by decide +kernel
theorem d9_36 : decode prog_27_method_8_code 36 = .ok (.iload_n 2, 1) := by decide +kernel
theorem d9_37 : decode prog_27_method_8_code 37 = .ok (.laload, 1) := by decide +kernel
theorem d9_38 : decode prog_27_method_8_code 38 = .ok (.lcmp, 1) := by decide +kernel
theorem d9_39 : decode prog_27_method_8_code 39 = .ok (.ifCond .ge 25, 3) := by decide +kernel
theorem d9_42 : decode prog_27_method_8_code 42 = .ok (.aload_n 0, 1) := by decide +kernel
theorem d9_43 : decode prog_27_method_8_code 43 = .ok (.aload_n 0, 1) := by decide +kernel
theorem d9_44 : decode prog_27_method_8_code 44 = .ok (.getfield 7, 3) := by decide +kernel
theorem d9_47 : decode prog_27_method_8_code 47 = .ok (.iload_n 3, 1) := by decide +kernel
theorem d9_48 : decode prog_27_method_8_code 48 = .ok (.iaload, 1) := by decide +kernel
theorem d9_49 : decode prog_27_method_8_code 49 = .ok (.iload_n 1, 1) := by decide +kernel
theorem d9_50 : decode prog_27_method_8_code 50 = .ok (.invokevirtual 30, 3) := by decide +kernel
theorem d9_53 : decode prog_27_method_8_code 53 = .ok (.iload_n 3, 1) := by decide +kernel
theorem d9_54 : decode prog_27_method_8_code 54 = .ok (.istore_n 1, 1) := by decide +kernel
theorem d9_55 : decode prog_27_method_8_code 55 = .ok (.aload_n 0, 1) := by decide +kernel
theorem d9_56 : decode prog_27_method_8_code 56 = .ok (.iload_n 1, 1) := by decide +kernel
theorem d9_57 : decode prog_27_method_8_code 57 = .ok (.invokevirtual 42, 3) := by decide +kernel
theorem d9_60 : decode prog_27_method_8_code 60 = .ok (.istore_n 3, 1) := by decide +kernel
theorem d9_61 : decode prog_27_method_8_code 61 = .ok (.goto (-48), 3) := by decide +kernel
theorem d9_64 : decode prog_27_method_8_code 64 = .ok (.aload_n 0, 1) := by decide +kernel
theorem d9_65 : decode prog_27_method_8_code 65 = .ok (.iload_n 2, 1) := by decide +kernel
theorem d9_66 : decode prog_27_method_8_code 66 = .ok (.iload_n 1, 1) := by decide +kernel
theorem d9_67 : decode prog_27_method_8_code 67 = .ok (.invokevirtual 30, 3) := by decide +kernel
theorem d9_70 : decode prog_27_method_8_code 70 = .ok (.return_, 1) := by decide +kernel
theorem ef_9 (m : MethodId) (x0 : Addr) (x1 : Int32) : entryFrame m #[(.ref x0), (.int x1)] 4 = mkF m 0 #[.val (.ref x0), .val (.int x1), .unset, .unset] [] := by first | (simp [entryFrame, mkF, argsToLocals, Value.category]; done) | rfl
def g9_a1 (x1 : Int32) (sz : Int32) (H : Nat → Int32) (T : Nat → Int64) (xn : Nat) : Nat → Int32 := if (f10 x1 sz H T) < sz then (if (T ((H ((f10 x1 sz H T).toInt.toNat)).toInt.toNat)) < (T ((H xn).toInt.toNat)) then (upd (upd H xn (H ((f10 x1 sz H T).toInt.toNat))) ((f10 x1 sz H T).toInt.toNat) (H xn)) else (upd H xn (H xn))) else (upd H xn (H xn))
def g9_a2 (x1 : Int32) (sz : Int32) (H : Nat → Int32) (P : Nat → Int32) (T : Nat → Int64) (xn : Nat) : Nat → Int32 := if (f10 x1 sz H T) < sz then (if (T ((H ((f10 x1 sz H T).toInt.toNat)).toInt.toNat)) < (T ((H xn).toInt.toNat)) then (upd (upd P ((H ((f10 x1 sz H T).toInt.toNat)).toInt.toNat) x1) ((H xn).toInt.toNat) (f10 x1 sz H T)) else (upd P ((H xn).toInt.toNat) x1)) else (upd P ((H xn).toInt.toNat) x1)
def Q9 (Z : State) (x0 : Addr) (x1 : Int32) (a1 : Addr) (a2 : Addr) (a3 : Addr) (sz : Int32) (H : Nat → Int32) (P : Nat → Int32) (T : Nat → Int64) (xn : Nat) (sn : Nat) (h0 : Heap) (n0 : Nat) (v : Option Value) (h : Heap) (L : List Loc) : Prop := v = none ∧ Fr n0 L ∧ Keep h0 h [a1, a2] ∧ AI Z h a1 3 (g9_a1 x1 sz H T xn) ∧ AI Z h a2 3 (g9_a2 x1 sz H P T xn)
set_option maxRecDepth 65536 in
set_option maxHeartbeats 40000000 in
theorem rm9 (l : Launch) (Z : State) (a0 : Array Value) (hw : ∀ d ∈ tables_1, d.before a0 Z = true) (ws : List Jvm.Cond) (x0 : Addr) (x1 : Int32) (a1 : Addr) (a2 : Addr) (a3 : Addr) (sz : Int32) (H : Nat → Int32) (P : Nat → Int32) (T : Nat → Int64) (xn : Nat) (sn : Nat) (h0 : Heap) (n0 : Nat) (Z0 : n0 ≤ h0.size) (P0 : Exa Z h0 x0 "com/example/weir/weir/cli/Deadlines") (P1 : Fld Z h0 x0 "com/example/weir/weir/cli/Deadlines" "heap" "[I" (.ref a1)) (P2 : Fld Z h0 x0 "com/example/weir/weir/cli/Deadlines" "places" "[I" (.ref a2)) (P3 : Fld Z h0 x0 "com/example/weir/weir/cli/Deadlines" "times" "[J" (.ref a3)) (P4 : Fld Z h0 x0 "com/example/weir/weir/cli/Deadlines" "size" "I" (.int sz)) (P5 : AI Z h0 a1 3 H) (P6 : AI Z h0 a2 3 P) (P7 : AJ Z h0 a3 3 T) (P8 : n0 ≤ a1) (P9 : n0 ≤ a2) (P10 : x0 ≠ a1) (P11 : x0 ≠ a2) (P12 : x0 ≠ a3) (P13 : a1 ≠ a2) (P14 : a1 ≠ a3) (P15 : a2 ≠ a3) (hx1 : x1.toInt = xn) (hl : xn < 3) (hs : sz.toInt = sn) (hn : sn ≤ 3) (hH : ∀ i, i < 3 → own_3 (H i)) :
    MetFree l (⟨"com/example/weir/weir/cli/Deadlines", "down", "(I)V"⟩ : MethodName) (head1 (Jvm.Cond.code (⟨"com/example/weir/weir/cli/Deadlines", "down", "(I)V"⟩ : MethodName) prog_27_method_8_code 4 none :: ws) ({ frames := 1, cells := 0, slots := 0, locals := 14 } : Room)) (fun a U => a = #[(.ref x0), (.int x1)] ∧ Z.Warmed39 U.vm ∧ U.heap = h0) (fun _ _ _ _ _ => True) (fun _ U o U' => ∃ v L, o = .returned v ∧ Q9 Z x0 x1 a1 a2 a3 sz H P T xn sn h0 n0 v U'.heap L ∧ FrameEnd U o U' L ({ frames := 1, cells := 0, slots := 0, locals := 14 } : Room).cells ({ frames := 1, cells := 0, slots := 0, locals := 14 } : Room).slots) := by
  refine g_body (plainFor_of_name pn_1) ?_
  intro p e s m below meth c T0 X0 hx hby hml hret hlk hown hnm hZ e0
  rw [ef_9]
  have N0 := Fr.nil n0
  show Go p e below s _ _ _ (T0.setTop (mkF m 0 #[.val (.ref x0), .val (.int x1), .unset, .unset] []))
  refine g_aloadN X0 hx 1 (hb hby d9_0) rfl rfl rfl ?_
  show Go p e below s _ _ _ (T0.setTop (mkF m 1 #[.val (.ref x0), .val (.int x1), .unset, .unset] [(.ref x0)]))
  refine g_getF X0 hx hZ hown (hw _ (List.mem_of_getElem? (i := 10) rfl)) Via.refl e0 P1 4 (hb hby d9_1) rfl ?_
  intro T1 X1 e1
  show Go p e below s _ _ _ (T1.setTop (mkF m 4 #[.val (.ref x0), .val (.int x1), .unset, .unset] [(.ref a1)]))
  refine g_iloadN X1 hx 5 (hb hby d9_4) rfl rfl ?_
  show Go p e below s _ _ _ (T1.setTop (mkF m 5 #[.val (.ref x0), .val (.int x1), .unset, .unset] [(.int x1), (.ref a1)]))
  refine g_iaload X1 hx hZ e1 P5 xn hx1 hl 6 (hb hby d9_5) rfl ?_
  show Go p e below s _ _ _ (T1.setTop (mkF m 6 #[.val (.ref x0), .val (.int x1), .unset, .unset] [(.int (H xn))]))
  refine g_istoreN X1 hx #[.val (.ref x0), .val (.int x1), .val (.int (H xn)), .unset] 7 (hb hby d9_6) rfl rfl ?_
  show Go p e below s _ _ _ (T1.setTop (mkF m 7 #[.val (.ref x0), .val (.int x1), .val (.int (H xn)), .unset] []))
  refine g_aloadN X1 hx 8 (hb hby d9_7) rfl rfl rfl ?_
  show Go p e below s _ _ _ (T1.setTop (mkF m 8 #[.val (.ref x0), .val (.int x1), .val (.int (H xn)), .unset] [(.ref x0)]))
  refine g_iloadN X1 hx 9 (hb hby d9_8) rfl rfl ?_
  show Go p e below s _ _ _ (T1.setTop (mkF m 9 #[.val (.ref x0), .val (.int x1), .val (.int (H xn)), .unset] [(.int x1), (.ref x0)]))
  refine g_callP X1 hx hZ hown (hw _ (List.mem_of_getElem? (i := 49) rfl)) (hw _ (List.mem_of_getElem? (i := 50) rfl)) (hw _ (List.mem_of_getElem? (i := 1) rfl)) (hw _ (List.mem_of_getElem? (i := 51) rfl)) (hw _ (List.mem_of_getElem? (i := 2) rfl)) (hw _ (List.mem_of_getElem? (i := 52) rfl)) (by decide) e1 x0 P0 (rm10 l Z a0 hw [] x0 x1 a1 a3 sz H T sn h0 P1 P3 P4 P5 P7 (by omega : 0 ≤ x1.toInt ∧ x1.toInt < 3) (hs : sz.toInt = sn) (hn : sn ≤ 3) (hH : ∀ i, i < 3 → own_3 (H i))) [(.int x1)] [] 0 rfl (lenOf pd__28I_29I rfl) rfl (Nat.le_of_eq rfl) (by decide) (by decide) (by decide) (by decide) (by rw [hml]; rfl) (hb hby d9_9) ?_
  intro T3 L3 v3 X3 q3
  obtain ⟨rfl, rfl, e3⟩ := q3
  have NS3 := Fr.app N0 (Fr.nil n0)
  show Go p e below s _ _ _ (T3.setTop (mkF m 12 #[.val (.ref x0), .val (.int x1), .val (.int (H xn)), .unset] [(.int (f10 x1 sz H T))]))
  refine g_istoreN X3 hx #[.val (.ref x0), .val (.int x1), .val (.int (H xn)), .val (.int (f10 x1 sz H T))] 13 (hb hby d9_12) rfl rfl ?_
  show Go p e below s _ _ _ (T3.setTop (mkF m 13 #[.val (.ref x0), .val (.int x1), .val (.int (H xn)), .val (.int (f10 x1 sz H T))] []))
  refine g_iloadN X3 hx 14 (hb hby d9_13) rfl rfl ?_
  show Go p e below s _ _ _ (T3.setTop (mkF m 14 #[.val (.ref x0), .val (.int x1), .val (.int (H xn)), .val (.int (f10 x1 sz H T))] [(.int (f10 x1 sz H T))]))
  refine g_aloadN X3 hx 15 (hb hby d9_14) rfl rfl rfl ?_
  show Go p e below s _ _ _ (T3.setTop (mkF m 15 #[.val (.ref x0), .val (.int x1), .val (.int (H xn)), .val (.int (f10 x1 sz H T))] [(.ref x0), (.int (f10 x1 sz H T))]))
  refine g_getF X3 hx hZ hown (hw _ (List.mem_of_getElem? (i := 26) rfl)) Via.refl e3 P4 18 (hb hby d9_15) rfl ?_
  intro T4 X4 e4
  show Go p e below s _ _ _ (T4.setTop (mkF m 18 #[.val (.ref x0), .val (.int x1), .val (.int (H xn)), .val (.int (f10 x1 sz H T))] [(.int sz), (.int (f10 x1 sz H T))]))
  refine g_icmp_ge X4 hx 64 21 (hb hby d9_18) (by decide) rfl rfl (fun h5 => ?_) (fun h5 => ?_)
  · show Go p e below s _ _ _ (T4.setTop (mkF m 21 #[.val (.ref x0), .val (.int x1), .val (.int (H xn)), .val (.int (f10 x1 sz H T))] []))
    refine g_aloadN X4 hx 22 (hb hby d9_21) rfl rfl rfl ?_
    show Go p e below s _ _ _ (T4.setTop (mkF m 22 #[.val (.ref x0), .val (.int x1), .val (.int (H xn)), .val (.int (f10 x1 sz H T))] [(.ref x0)]))
    refine g_getF X4 hx hZ hown (hw _ (List.mem_of_getElem? (i := 19) rfl)) Via.refl e4 P3 25 (hb hby d9_22) rfl ?_
    intro T6 X6 e6
    show Go p e below s _ _ _ (T6.setTop (mkF m 25 #[.val (.ref x0), .val (.int x1), .val (.int (H xn)), .val (.int (f10 x1 sz H T))] [(.ref a3)]))
    refine g_aloadN X6 hx 26 (hb hby d9_25) rfl rfl rfl ?_
    show Go p e below s _ _ _ (T6.setTop (mkF m 26 #[.val (.ref x0), .val (.int x1), .val (.int (H xn)), .val (.int (f10 x1 sz H T))] [(.ref x0), (.ref a3)]))
    refine g_getF X6 hx hZ hown (hw _ (List.mem_of_getElem? (i := 10) rfl)) Via.refl e6 P1 29 (hb hby d9_26) rfl ?_
    intro T7 X7 e7
    show Go p e below s _ _ _ (T7.setTop (mkF m 29 #[.val (.ref x0), .val (.int x1), .val (.int (H xn)), .val (.int (f10 x1 sz H T))] [(.ref a1), (.ref a3)]))
    refine g_iloadN X7 hx 30 (hb hby d9_29) rfl rfl ?_
    show Go p e below s _ _ _ (T7.setTop (mkF m 30 #[.val (.ref x0), .val (.int x1), .val (.int (H xn)), .val (.int (f10 x1 sz H T))] [(.int (f10 x1 sz H T)), (.ref a1), (.ref a3)]))
    refine g_iaload X7 hx hZ e7 P5 ((f10 x1 sz H T).toInt.toNat) (own_i3 (own_ecl (by omega) hs hn ‹f10 x1 sz H T < sz›).1).1 (own_i3 (own_ecl (by omega) hs hn ‹f10 x1 sz H T < sz›).1).2 31 (hb hby d9_30) rfl ?_
    show Go p e below s _ _ _ (T7.setTop (mkF m 31 #[.val (.ref x0), .val (.int x1), .val (.int (H xn)), .val (.int (f10 x1 sz H T))] [(.int (H ((f10 x1 sz H T).toInt.toNat))), (.ref a3)]))
    refine g_laload X7 hx hZ e7 P7 ((H ((f10 x1 sz H T).toInt.toNat)).toInt.toNat) (own_i3 (hH _ (own_i3 (own_ecl (by omega) hs hn ‹f10 x1 sz H T < sz›).1).2)).1 (own_i3 (hH _ (own_i3 (own_ecl (by omega) hs hn ‹f10 x1 sz H T < sz›).1).2)).2 32 (hb hby d9_31) rfl ?_
    show Go p e below s _ _ _ (T7.setTop (mkF m 32 #[.val (.ref x0), .val (.int x1), .val (.int (H xn)), .val (.int (f10 x1 sz H T))] [(.long (T ((H ((f10 x1 sz H T).toInt.toNat)).toInt.toNat)))]))
    refine g_aloadN X7 hx 33 (hb hby d9_32) rfl rfl rfl ?_
    show Go p e below s _ _ _ (T7.setTop (mkF m 33 #[.val (.ref x0), .val (.int x1), .val (.int (H xn)), .val (.int (f10 x1 sz H T))] [(.ref x0), (.long (T ((H ((f10 x1 sz H T).toInt.toNat)).toInt.toNat)))]))
    refine g_getF X7 hx hZ hown (hw _ (List.mem_of_getElem? (i := 19) rfl)) Via.refl e7 P3 36 (hb hby d9_33) rfl ?_
    intro T10 X10 e10
    show Go p e below s _ _ _ (T10.setTop (mkF m 36 #[.val (.ref x0), .val (.int x1), .val (.int (H xn)), .val (.int (f10 x1 sz H T))] [(.ref a3), (.long (T ((H ((f10 x1 sz H T).toInt.toNat)).toInt.toNat)))]))
    refine g_iloadN X10 hx 37 (hb hby d9_36) rfl rfl ?_
    show Go p e below s _ _ _ (T10.setTop (mkF m 37 #[.val (.ref x0), .val (.int x1), .val (.int (H xn)), .val (.int (f10 x1 sz H T))] [(.int (H xn)), (.ref a3), (.long (T ((H ((f10 x1 sz H T).toInt.toNat)).toInt.toNat)))]))
    refine g_laload X10 hx hZ e10 P7 ((H xn).toInt.toNat) (own_i3 (hH xn hl)).1 (own_i3 (hH xn hl)).2 38 (hb hby d9_37) rfl ?_
    show Go p e below s _ _ _ (T10.setTop (mkF m 38 #[.val (.ref x0), .val (.int x1), .val (.int (H xn)), .val (.int (f10 x1 sz H T))] [(.long (T ((H xn).toInt.toNat))), (.long (T ((H ((f10 x1 sz H T).toInt.toNat)).toInt.toNat)))]))
    refine g_lcmp X10 hx 39 (hb hby d9_38) rfl ?_
    show Go p e below s _ _ _ (T10.setTop (mkF m 39 #[.val (.ref x0), .val (.int x1), .val (.int (H xn)), .val (.int (f10 x1 sz H T))] [(.int (lcmpW (T ((H ((f10 x1 sz H T).toInt.toNat)).toInt.toNat)) (T ((H xn).toInt.toNat))))]))
    refine g_lc_ge X10 hx 64 42 (hb hby d9_39) (by decide) rfl rfl (fun h12 => ?_) (fun h12 => ?_)
    · show Go p e below s _ _ _ (T10.setTop (mkF m 42 #[.val (.ref x0), .val (.int x1), .val (.int (H xn)), .val (.int (f10 x1 sz H T))] []))
      refine g_aloadN X10 hx 43 (hb hby d9_42) rfl rfl rfl ?_
      show Go p e below s _ _ _ (T10.setTop (mkF m 43 #[.val (.ref x0), .val (.int x1), .val (.int (H xn)), .val (.int (f10 x1 sz H T))] [(.ref x0)]))
      refine g_aloadN X10 hx 44 (hb hby d9_43) rfl rfl rfl ?_
      show Go p e below s _ _ _ (T10.setTop (mkF m 44 #[.val (.ref x0), .val (.int x1), .val (.int (H xn)), .val (.int (f10 x1 sz H T))] [(.ref x0), (.ref x0)]))
      refine g_getF X10 hx hZ hown (hw _ (List.mem_of_getElem? (i := 10) rfl)) Via.refl e10 P1 47 (hb hby d9_44) rfl ?_
      intro T13 X13 e13
      show Go p e below s _ _ _ (T13.setTop (mkF m 47 #[.val (.ref x0), .val (.int x1), .val (.int (H xn)), .val (.int (f10 x1 sz H T))] [(.ref a1), (.ref x0)]))
      refine g_iloadN X13 hx 48 (hb hby d9_47) rfl rfl ?_
      show Go p e below s _ _ _ (T13.setTop (mkF m 48 #[.val (.ref x0), .val (.int x1), .val (.int (H xn)), .val (.int (f10 x1 sz H T))] [(.int (f10 x1 sz H T)), (.ref a1), (.ref x0)]))
      refine g_iaload X13 hx hZ e13 P5 ((f10 x1 sz H T).toInt.toNat) (own_i3 (own_ecl (by omega) hs hn ‹f10 x1 sz H T < sz›).1).1 (own_i3 (own_ecl (by omega) hs hn ‹f10 x1 sz H T < sz›).1).2 49 (hb hby d9_48) rfl ?_
      show Go p e below s _ _ _ (T13.setTop (mkF m 49 #[.val (.ref x0), .val (.int x1), .val (.int (H xn)), .val (.int (f10 x1 sz H T))] [(.int (H ((f10 x1 sz H T).toInt.toNat))), (.ref x0)]))
      refine g_iloadN X13 hx 50 (hb hby d9_49) rfl rfl ?_
      show Go p e below s _ _ _ (T13.setTop (mkF m 50 #[.val (.ref x0), .val (.int x1), .val (.int (H xn)), .val (.int (f10 x1 sz H T))] [(.int x1), (.int (H ((f10 x1 sz H T).toInt.toNat))), (.ref x0)]))
      refine g_callP X13 hx hZ hown (hw _ (List.mem_of_getElem? (i := 37) rfl)) (hw _ (List.mem_of_getElem? (i := 38) rfl)) (hw _ (List.mem_of_getElem? (i := 1) rfl)) (hw _ (List.mem_of_getElem? (i := 39) rfl)) (hw _ (List.mem_of_getElem? (i := 2) rfl)) (hw _ (List.mem_of_getElem? (i := 40) rfl)) (by decide) e13 x0 P0 (rm7 l Z a0 hw [] x0 (H ((f10 x1 sz H T).toInt.toNat)) x1 a1 a2 H P ((H ((f10 x1 sz H T).toInt.toNat)).toInt.toNat) xn h0 n0 Z0 P1 P2 P5 P6 P8 P9 P10 P11 P13 ((own_i3 (hH _ (own_i3 (own_ecl (by omega) hs hn ‹f10 x1 sz H T < sz›).1).2)).1 : (H ((f10 x1 sz H T).toInt.toNat)).toInt = ((H ((f10 x1 sz H T).toInt.toNat)).toInt.toNat)) ((own_i3 (hH _ (own_i3 (own_ecl (by omega) hs hn ‹f10 x1 sz H T < sz›).1).2)).2 : ((H ((f10 x1 sz H T).toInt.toNat)).toInt.toNat) < 3) (hx1 : x1.toInt = xn) (hl : xn < 3)) [(.int (H ((f10 x1 sz H T).toInt.toNat))), (.int x1)] [] 0 rfl (lenOf pd__28II_29V rfl) rfl (Nat.le_of_eq rfl) (by decide) (by decide) (by decide) (by decide) (by rw [hml]; rfl) (hb hby d9_50) ?_
      intro T15 L15 v15 X15 q15
      obtain ⟨rfl, N15, K15, p15_0, p15_1⟩ := q15
      have NN15 := Fr.app NS3 N15
      have KK15 := (Keep.refl h0 [a1, a2]).trans K15 (by intro x hx; simp only [List.mem_cons, List.not_mem_nil, or_false] at hx; rcases hx with rfl | rfl <;> first | exact (Or.inl (List.mem_of_getElem? (i := 0) rfl)) | exact (Or.inl (List.mem_of_getElem? (i := 1) rfl)))
      have k15_0 := P0.keep K15
      have k15_1 := P1.keep K15 (nm1 P10 (nm1 P11 nm0))
      have k15_2 := P2.keep K15 (nm1 P10 (nm1 P11 nm0))
      have k15_3 := P3.keep K15 (nm1 P10 (nm1 P11 nm0))
      have k15_4 := P4.keep K15 (nm1 P10 (nm1 P11 nm0))
      have k15_7 := P7.keep K15 (nm1 (Ne.symm P14) (nm1 (Ne.symm P15) nm0))
      have Z15 : n0 ≤ T15.heap.size := Nat.le_trans Z0 K15.1
      show Go p e below s _ _ _ (T15.setTop (mkF m 53 #[.val (.ref x0), .val (.int x1), .val (.int (H xn)), .val (.int (f10 x1 sz H T))] []))
      refine g_iloadN X15 hx 54 (hb hby d9_53) rfl rfl ?_
      show Go p e below s _ _ _ (T15.setTop (mkF m 54 #[.val (.ref x0), .val (.int x1), .val (.int (H xn)), .val (.int (f10 x1 sz H T))] [(.int (f10 x1 sz H T))]))
      refine g_istoreN X15 hx #[.val (.ref x0), .val (.int (f10 x1 sz H T)), .val (.int (H xn)), .val (.int (f10 x1 sz H T))] 55 (hb hby d9_54) rfl rfl ?_
      show Go p e below s _ _ _ (T15.setTop (mkF m 55 #[.val (.ref x0), .val (.int (f10 x1 sz H T)), .val (.int (H xn)), .val (.int (f10 x1 sz H T))] []))
      refine g_aloadN X15 hx 56 (hb hby d9_55) rfl rfl rfl ?_
      show Go p e below s _ _ _ (T15.setTop (mkF m 56 #[.val (.ref x0), .val (.int (f10 x1 sz H T)), .val (.int (H xn)), .val (.int (f10 x1 sz H T))] [(.ref x0)]))
      refine g_iloadN X15 hx 57 (hb hby d9_56) rfl rfl ?_
      show Go p e below s _ _ _ (T15.setTop (mkF m 57 #[.val (.ref x0), .val (.int (f10 x1 sz H T)), .val (.int (H xn)), .val (.int (f10 x1 sz H T))] [(.int (f10 x1 sz H T)), (.ref x0)]))
      refine g_callP X15 hx hZ hown (hw _ (List.mem_of_getElem? (i := 49) rfl)) (hw _ (List.mem_of_getElem? (i := 50) rfl)) (hw _ (List.mem_of_getElem? (i := 1) rfl)) (hw _ (List.mem_of_getElem? (i := 51) rfl)) (hw _ (List.mem_of_getElem? (i := 2) rfl)) (hw _ (List.mem_of_getElem? (i := 52) rfl)) (by decide) rfl x0 k15_0 (rm10 l Z a0 hw [] x0 (f10 x1 sz H T) a1 a3 sz (upd H xn (H ((f10 x1 sz H T).toInt.toNat))) T sn T15.heap k15_1 k15_3 k15_4 p15_0 k15_7 (own_ec1 H H T (by omega) hs hn ‹f10 x1 sz H T < sz› : 0 ≤ (f10 x1 sz H T).toInt ∧ (f10 x1 sz H T).toInt < 3) (hs : sz.toInt = sn) (hn : sn ≤ 3) (own_upd3 hH (hH _ (own_i3 (own_ecl (by omega) hs hn ‹f10 x1 sz H T < sz›).1).2) : ∀ i, i < 3 → own_3 ((upd H xn (H ((f10 x1 sz H T).toInt.toNat))) i))) [(.int (f10 x1 sz H T))] [] 0 rfl (lenOf pd__28I_29I rfl) rfl (Nat.le_of_eq rfl) (by decide) (by decide) (by decide) (by decide) (by rw [hml]; rfl) (hb hby d9_57) ?_
      intro T16 L16 v16 X16 q16
      obtain ⟨rfl, rfl, e16⟩ := q16
      have NS16 := Fr.app NN15 (Fr.nil n0)
      show Go p e below s _ _ _ (T16.setTop (mkF m 60 #[.val (.ref x0), .val (.int (f10 x1 sz H T)), .val (.int (H xn)), .val (.int (f10 x1 sz H T))] [(.int (f10 (f10 x1 sz H T) sz (upd H xn (H ((f10 x1 sz H T).toInt.toNat))) T))]))
      refine g_istoreN X16 hx #[.val (.ref x0), .val (.int (f10 x1 sz H T)), .val (.int (H xn)), .val (.int (f10 (f10 x1 sz H T) sz (upd H xn (H ((f10 x1 sz H T).toInt.toNat))) T))] 61 (hb hby d9_60) rfl rfl ?_
      show Go p e below s _ _ _ (T16.setTop (mkF m 61 #[.val (.ref x0), .val (.int (f10 x1 sz H T)), .val (.int (H xn)), .val (.int (f10 (f10 x1 sz H T) sz (upd H xn (H ((f10 x1 sz H T).toInt.toNat))) T))] []))
      refine g_goto X16 hx 13 (hb hby d9_61) (by decide) rfl ?_
      show Go p e below s _ _ _ (T16.setTop (mkF m 13 #[.val (.ref x0), .val (.int (f10 x1 sz H T)), .val (.int (H xn)), .val (.int (f10 (f10 x1 sz H T) sz (upd H xn (H ((f10 x1 sz H T).toInt.toNat))) T))] []))
      refine g_iloadN X16 hx 14 (hb hby d9_13) rfl rfl ?_
      show Go p e below s _ _ _ (T16.setTop (mkF m 14 #[.val (.ref x0), .val (.int (f10 x1 sz H T)), .val (.int (H xn)), .val (.int (f10 (f10 x1 sz H T) sz (upd H xn (H ((f10 x1 sz H T).toInt.toNat))) T))] [(.int (f10 (f10 x1 sz H T) sz (upd H xn (H ((f10 x1 sz H T).toInt.toNat))) T))]))
      refine g_aloadN X16 hx 15 (hb hby d9_14) rfl rfl rfl ?_
      show Go p e below s _ _ _ (T16.setTop (mkF m 15 #[.val (.ref x0), .val (.int (f10 x1 sz H T)), .val (.int (H xn)), .val (.int (f10 (f10 x1 sz H T) sz (upd H xn (H ((f10 x1 sz H T).toInt.toNat))) T))] [(.ref x0), (.int (f10 (f10 x1 sz H T) sz (upd H xn (H ((f10 x1 sz H T).toInt.toNat))) T))]))
      refine g_getF X16 hx hZ hown (hw _ (List.mem_of_getElem? (i := 26) rfl)) Via.refl e16 k15_4 18 (hb hby d9_15) rfl ?_
      intro T17 X17 e17
      show Go p e below s _ _ _ (T17.setTop (mkF m 18 #[.val (.ref x0), .val (.int (f10 x1 sz H T)), .val (.int (H xn)), .val (.int (f10 (f10 x1 sz H T) sz (upd H xn (H ((f10 x1 sz H T).toInt.toNat))) T))] [(.int sz), (.int (f10 (f10 x1 sz H T) sz (upd H xn (H ((f10 x1 sz H T).toInt.toNat))) T))]))
      have h18 : ¬ ((f10 (f10 x1 sz H T) sz (upd H xn (H ((f10 x1 sz H T).toInt.toNat))) T) < sz) := own_ec2 H _ T (by omega) hs hn ‹f10 x1 sz H T < sz›
      refine g_icmp_ge X17 hx 64 21 (hb hby d9_18) (by decide) rfl rfl (fun q => absurd q h18) (fun _ => ?_)
      show Go p e below s _ _ _ (T17.setTop (mkF m 64 #[.val (.ref x0), .val (.int (f10 x1 sz H T)), .val (.int (H xn)), .val (.int (f10 (f10 x1 sz H T) sz (upd H xn (H ((f10 x1 sz H T).toInt.toNat))) T))] []))
      refine g_aloadN X17 hx 65 (hb hby d9_64) rfl rfl rfl ?_
      show Go p e below s _ _ _ (T17.setTop (mkF m 65 #[.val (.ref x0), .val (.int (f10 x1 sz H T)), .val (.int (H xn)), .val (.int (f10 (f10 x1 sz H T) sz (upd H xn (H ((f10 x1 sz H T).toInt.toNat))) T))] [(.ref x0)]))
      refine g_iloadN X17 hx 66 (hb hby d9_65) rfl rfl ?_
      show Go p e below s _ _ _ (T17.setTop (mkF m 66 #[.val (.ref x0), .val (.int (f10 x1 sz H T)), .val (.int (H xn)), .val (.int (f10 (f10 x1 sz H T) sz (upd H xn (H ((f10 x1 sz H T).toInt.toNat))) T))] [(.int (H xn)), (.ref x0)]))
      refine g_iloadN X17 hx 67 (hb hby d9_66) rfl rfl ?_
      show Go p e below s _ _ _ (T17.setTop (mkF m 67 #[.val (.ref x0), .val (.int (f10 x1 sz H T)), .val (.int (H xn)), .val (.int (f10 (f10 x1 sz H T) sz (upd H xn (H ((f10 x1 sz H T).toInt.toNat))) T))] [(.int (f10 x1 sz H T)), (.int (H xn)), (.ref x0)]))
      refine g_callP X17 hx hZ hown (hw _ (List.mem_of_getElem? (i := 37) rfl)) (hw _ (List.mem_of_getElem? (i := 38) rfl)) (hw _ (List.mem_of_getElem? (i := 1) rfl)) (hw _ (List.mem_of_getElem? (i := 39) rfl)) (hw _ (List.mem_of_getElem? (i := 2) rfl)) (hw _ (List.mem_of_getElem? (i := 40) rfl)) (by decide) e17 x0 k15_0 (rm7 l Z a0 hw [] x0 (H xn) (f10 x1 sz H T) a1 a2 (upd H xn (H ((f10 x1 sz H T).toInt.toNat))) (upd P ((H ((f10 x1 sz H T).toInt.toNat)).toInt.toNat) x1) ((H xn).toInt.toNat) ((f10 x1 sz H T).toInt.toNat) T15.heap n0 Z15 k15_1 k15_2 p15_0 p15_1 P8 P9 P10 P11 P13 ((own_i3 (hH xn hl)).1 : (H xn).toInt = ((H xn).toInt.toNat)) ((own_i3 (hH xn hl)).2 : ((H xn).toInt.toNat) < 3) ((own_i3 (own_ecl (by omega) hs hn ‹f10 x1 sz H T < sz›).1).1 : (f10 x1 sz H T).toInt = ((f10 x1 sz H T).toInt.toNat)) ((own_i3 (own_ecl (by omega) hs hn ‹f10 x1 sz H T < sz›).1).2 : ((f10 x1 sz H T).toInt.toNat) < 3)) [(.int (H xn)), (.int (f10 x1 sz H T))] [] 0 rfl (lenOf pd__28II_29V rfl) rfl (Nat.le_of_eq rfl) (by decide) (by decide) (by decide) (by decide) (by rw [hml]; rfl) (hb hby d9_67) ?_
      intro T19 L19 v19 X19 q19
      obtain ⟨rfl, N19, K19, p19_0, p19_1⟩ := q19
      have NN19 := Fr.app NS16 N19
      have KK19 := KK15.trans K19 (by intro x hx; simp only [List.mem_cons, List.not_mem_nil, or_false] at hx; rcases hx with rfl | rfl <;> first | exact (Or.inl (List.mem_of_getElem? (i := 0) rfl)) | exact (Or.inl (List.mem_of_getElem? (i := 1) rfl)))
      have k19_0 := k15_0.keep K19
      have k19_1 := k15_1.keep K19 (nm1 P10 (nm1 P11 nm0))
      have k19_2 := k15_2.keep K19 (nm1 P10 (nm1 P11 nm0))
      have k19_3 := k15_3.keep K19 (nm1 P10 (nm1 P11 nm0))
      have k19_4 := k15_4.keep K19 (nm1 P10 (nm1 P11 nm0))
      have k19_5 := k15_7.keep K19 (nm1 (Ne.symm P14) (nm1 (Ne.symm P15) nm0))
      have Z19 : n0 ≤ T19.heap.size := Nat.le_trans Z15 K19.1
      show Go p e below s _ _ _ (T19.setTop (mkF m 70 #[.val (.ref x0), .val (.int (f10 x1 sz H T)), .val (.int (H xn)), .val (.int (f10 (f10 x1 sz H T) sz (upd H xn (H ((f10 x1 sz H T).toInt.toNat))) T))] []))
      exact g_retV X19 hx hret hlk (hb hby d9_70) (by decide) (by decide) ⟨rfl, NN19, KK19, (by rw [g9_a1, if_pos h5, if_pos h12]; exact p19_0), (by rw [g9_a2, if_pos h5, if_pos h12]; exact p19_1)⟩
    · show Go p e below s _ _ _ (T10.setTop (mkF m 64 #[.val (.ref x0), .val (.int x1), .val (.int (H xn)), .val (.int (f10 x1 sz H T))] []))
      refine g_aloadN X10 hx 65 (hb hby d9_64) rfl rfl rfl ?_
      show Go p e below s _ _ _ (T10.setTop (mkF m 65 #[.val (.ref x0), .val (.int x1), .val (.int (H xn)), .val (.int (f10 x1 sz H T))] [(.ref x0)]))
      refine g_iloadN X10 hx 66 (hb hby d9_65) rfl rfl ?_
      show Go p e below s _ _ _ (T10.setTop (mkF m 66 #[.val (.ref x0), .val (.int x1), .val (.int (H xn)), .val (.int (f10 x1 sz H T))] [(.int (H xn)), (.ref x0)]))
      refine g_iloadN X10 hx 67 (hb hby d9_66) rfl rfl ?_
      show Go p e below s _ _ _ (T10.setTop (mkF m 67 #[.val (.ref x0), .val (.int x1), .val (.int (H xn)), .val (.int (f10 x1 sz H T))] [(.int x1), (.int (H xn)), (.ref x0)]))
      refine g_callP X10 hx hZ hown (hw _ (List.mem_of_getElem? (i := 37) rfl)) (hw _ (List.mem_of_getElem? (i := 38) rfl)) (hw _ (List.mem_of_getElem? (i := 1) rfl)) (hw _ (List.mem_of_getElem? (i := 39) rfl)) (hw _ (List.mem_of_getElem? (i := 2) rfl)) (hw _ (List.mem_of_getElem? (i := 40) rfl)) (by decide) e10 x0 P0 (rm7 l Z a0 hw [] x0 (H xn) x1 a1 a2 H P ((H xn).toInt.toNat) xn h0 n0 Z0 P1 P2 P5 P6 P8 P9 P10 P11 P13 ((own_i3 (hH xn hl)).1 : (H xn).toInt = ((H xn).toInt.toNat)) ((own_i3 (hH xn hl)).2 : ((H xn).toInt.toNat) < 3) (hx1 : x1.toInt = xn) (hl : xn < 3)) [(.int (H xn)), (.int x1)] [] 0 rfl (lenOf pd__28II_29V rfl) rfl (Nat.le_of_eq rfl) (by decide) (by decide) (by decide) (by decide) (by rw [hml]; rfl) (hb hby d9_67) ?_
      intro T20 L20 v20 X20 q20
      obtain ⟨rfl, N20, K20, p20_0, p20_1⟩ := q20
      have NN20 := Fr.app NS3 N20
      have KK20 := (Keep.refl h0 [a1, a2]).trans K20 (by intro x hx; simp only [List.mem_cons, List.not_mem_nil, or_false] at hx; rcases hx with rfl | rfl <;> first | exact (Or.inl (List.mem_of_getElem? (i := 0) rfl)) | exact (Or.inl (List.mem_of_getElem? (i := 1) rfl)))
      have k20_0 := P0.keep K20
      have k20_1 := P1.keep K20 (nm1 P10 (nm1 P11 nm0))
      have k20_2 := P2.keep K20 (nm1 P10 (nm1 P11 nm0))
      have k20_3 := P3.keep K20 (nm1 P10 (nm1 P11 nm0))
      have k20_4 := P4.keep K20 (nm1 P10 (nm1 P11 nm0))
      have k20_7 := P7.keep K20 (nm1 (Ne.symm P14) (nm1 (Ne.symm P15) nm0))
      have Z20 : n0 ≤ T20.heap.size := Nat.le_trans Z0 K20.1
      show Go p e below s _ _ _ (T20.setTop (mkF m 70 #[.val (.ref x0), .val (.int x1), .val (.int (H xn)), .val (.int (f10 x1 sz H T))] []))
      exact g_retV X20 hx hret hlk (hb hby d9_70) (by decide) (by decide) ⟨rfl, NN20, KK20, (by rw [g9_a1, if_pos h5, if_neg h12]; exact p20_0), (by rw [g9_a2, if_pos h5, if_neg h12]; exact p20_1)⟩
  · show Go p e below s _ _ _ (T4.setTop (mkF m 64 #[.val (.ref x0), .val (.int x1), .val (.int (H xn)), .val (.int (f10 x1 sz H T))] []))
    refine g_aloadN X4 hx 65 (hb hby d9_64) rfl rfl rfl ?_
    show Go p e below s _ _ _ (T4.setTop (mkF m 65 #[.val (.ref x0), .val (.int x1), .val (.int (H xn)), .val (.int (f10 x1 sz H T))] [(.ref x0)]))
    refine g_iloadN X4 hx 66 (hb hby d9_65) rfl rfl ?_
    show Go p e below s _ _ _ (T4.setTop (mkF m 66 #[.val (.ref x0), .val (.int x1), .val (.int (H xn)), .val (.int (f10 x1 sz H T))] [(.int (H xn)), (.ref x0)]))
    refine g_iloadN X4 hx 67 (hb hby d9_66) rfl rfl ?_
    show Go p e below s _ _ _ (T4.setTop (mkF m 67 #[.val (.ref x0), .val (.int x1), .val (.int (H xn)), .val (.int (f10 x1 sz H T))] [(.int x1), (.int (H xn)), (.ref x0)]))
    refine g_callP X4 hx hZ hown (hw _ (List.mem_of_getElem? (i := 37) rfl)) (hw _ (List.mem_of_getElem? (i := 38) rfl)) (hw _ (List.mem_of_getElem? (i := 1) rfl)) (hw _ (List.mem_of_getElem? (i := 39) rfl)) (hw _ (List.mem_of_getElem? (i := 2) rfl)) (hw _ (List.mem_of_getElem? (i := 40) rfl)) (by decide) e4 x0 P0 (rm7 l Z a0 hw [] x0 (H xn) x1 a1 a2 H P ((H xn).toInt.toNat) xn h0 n0 Z0 P1 P2 P5 P6 P8 P9 P10 P11 P13 ((own_i3 (hH xn hl)).1 : (H xn).toInt = ((H xn).toInt.toNat)) ((own_i3 (hH xn hl)).2 : ((H xn).toInt.toNat) < 3) (hx1 : x1.toInt = xn) (hl : xn < 3)) [(.int (H xn)), (.int x1)] [] 0 rfl (lenOf pd__28II_29V rfl) rfl (Nat.le_of_eq rfl) (by decide) (by decide) (by decide) (by decide) (by rw [hml]; rfl) (hb hby d9_67) ?_
    intro T21 L21 v21 X21 q21
    obtain ⟨rfl, N21, K21, p21_0, p21_1⟩ := q21
    have NN21 := Fr.app NS3 N21
    have KK21 := (Keep.refl h0 [a1, a2]).trans K21 (by intro x hx; simp only [List.mem_cons, List.not_mem_nil, or_false] at hx; rcases hx with rfl | rfl <;> first | exact (Or.inl (List.mem_of_getElem? (i := 0) rfl)) | exact (Or.inl (List.mem_of_getElem? (i := 1) rfl)))
    have k21_0 := P0.keep K21
    have k21_1 := P1.keep K21 (nm1 P10 (nm1 P11 nm0))
    have k21_2 := P2.keep K21 (nm1 P10 (nm1 P11 nm0))
    have k21_3 := P3.keep K21 (nm1 P10 (nm1 P11 nm0))
    have k21_4 := P4.keep K21 (nm1 P10 (nm1 P11 nm0))
    have k21_7 := P7.keep K21 (nm1 (Ne.symm P14) (nm1 (Ne.symm P15) nm0))
    have Z21 : n0 ≤ T21.heap.size := Nat.le_trans Z0 K21.1
    show Go p e below s _ _ _ (T21.setTop (mkF m 70 #[.val (.ref x0), .val (.int x1), .val (.int (H xn)), .val (.int (f10 x1 sz H T))] []))
    exact g_retV X21 hx hret hlk (hb hby d9_70) (by decide) (by decide) ⟨rfl, NN21, KK21, (by rw [g9_a1, if_neg h5]; exact p21_0), (by rw [g9_a2, if_neg h5]; exact p21_1)⟩
theorem own_f8 {x : Int32} {n : Nat} (H : Nat → Int32) (T : Nat → Int64) (hx : x.toInt = n) (hn : n < 3) : own_3 (f8 x H T n) ∧ (f8 x H T n).toInt ≤ x.toInt := by
  unfold f8 own_3
  split
  · rename_i q
    split
    · have h := own_half (by omega) q
      rw [h]; omega
    · omega
  · omega
theorem own_g8 {x : Int32} {n : Nat} {H : Nat → Int32} (T : Nat → Int64) (hn : n < 3) (h : ∀ i, i < 3 → own_3 (H i)) : ∀ i, i < 3 → own_3 (g8_a1 x H T n i) := by
  unfold g8_a1
  split
  · split
    · exact own_upd3 (own_upd3 h (h 0 (by decide))) (h n hn)
    · exact own_upd3 h (h n hn)
  · exact own_upd3 h (h n hn)
theorem own_g9 {x sz : Int32} {n m : Nat} {H : Nat → Int32} (T : Nat → Int64) (hx : 0 ≤ x.toInt ∧ x.toInt < 3) (hs : sz.toInt = m) (hm : m ≤ 3) (hn : n < 3) (h : ∀ i, i < 3 → own_3 (H i)) : ∀ i, i < 3 → own_3 (g9_a1 x sz H T n i) := by
  unfold g9_a1
  split
  · rename_i q
    split
    · exact own_upd3 (own_upd3 h (h _ (own_i3 (own_ecl hx hs hm q).1).2)) (h n hn)
    · exact own_upd3 h (h n hn)
  · exact own_upd3 h (h n hn)
def own_sz (p sz : Int32) : Int32 := if p < 0 then sz + 1 else sz
theorem own_s1 {sz : Int32} {n : Nat} (h : sz.toInt = n) (hn : n < 3) : (sz + 1).toInt = ((n + 1 : Nat) : Int) := by
  have e : (1 : Int32).toInt = 1 := rfl
  have a := c_iadd sz 1; have r := rng32 (sz + 1); omega
theorem own_m1 {sz : Int32} {n : Nat} (h : sz.toInt = n) (h1 : 1 ≤ n) (hn : n ≤ 3) : (sz - 1).toInt = ((n - 1 : Nat) : Int) := by
  have e : (1 : Int32).toInt = 1 := rfl
  have a := c_isub sz 1; have r := rng32 (sz - 1); omega
theorem own_x3 {x : Int32} {n : Nat} (h : x.toInt = n) (hn : n < 3) : own_3 x := by unfold own_3; omega

theorem pd__28I_29V : parseMethodDescriptor "(I)V" = some ⟨[.int], none⟩ := by decide +kernel
theorem d6_0 : decode prog_27_method_5_code 0 = .ok (.aload_n 0, 1) := by decide +kernel
theorem d6_1 : decode prog_27_method_5_code 1 = .ok (.getfield 13, 3) := by decide +kernel
theorem d6_4 : decode prog_27_method_5_code 4 = .ok (.iload_n 1, 1) := by decide +kernel
theorem d6_5 : decode prog_27_method_5_code 5 = .ok (.iaload, 1) := by decide +kernel
theorem d6_6 : decode prog_27_method_5_code 6 = .ok (.istore 4, 2) := by decide +kernel
theorem d6_8 : decode prog_27_method_5_code 8 = .ok (.iload 4, 2) := by decide +kernel
theorem d6_10 : decode prog_27_method_5_code 10 = .ok (.ifCond .ge 23, 3) := by decide +kernel
theorem d6_13 : decode prog_27_method_5_code 13 = .ok (.aload_n 0, 1) := by decide +kernel
theorem d6_14 : decode prog_27_method_5_code 14 = .ok (.dup, 1) := by decide +kernel
theorem d6_15 : decode prog_27_method_5_code 15 = .ok (.getfield 26, 3) := by decide +kernel
theorem d6_18 : decode prog_27_method_5_code 18 = .ok (.dup_x1, 1) := by decide +kernel
theorem d6_19 : decode prog_27_method_5_code 19 = .ok (.iconst 1, 1) := by decide +kernel
theorem d6_20 : decode prog_27_method_5_code 20 = .ok (.iadd, 1) := by decide +kernel
theorem d6_21 : decode prog_27_method_5_code 21 = .ok (.putfield 26, 3) := by decide +kernel
theorem d6_24 : decode prog_27_method_5_code 24 = .ok (.istore 4, 2) := by decide +kernel
theorem d6_26 : decode prog_27_method_5_code 26 = .ok (.aload_n 0, 1) := by decide +kernel
theorem d6_27 : decode prog_27_method_5_code 27 = .ok (.iload_n 1, 1) := by decide +kernel
theorem d6_28 : decode prog_27_method_5_code 28 = .ok (.iload 4, 2) := by decide +kernel
theorem d6_30 : decode prog_27_method_5_code 30 = .ok (.invokevirtual 30, 3) := by decide +kernel
theorem d6_33 : decode prog_27_method_5_code 33 = .ok (.aload_n 0, 1) := by decide +kernel
theorem d6_34 : decode prog_27_method_5_code 34 = .ok (.getfield 22, 3) := by decide +kernel
theorem d6_37 : decode prog_27_method_5_code 37 = .ok (.iload_n 1, 1) := by decide +kernel
theorem d6_38 : decode prog_27_method_5_code 38 = .ok (.lload_n 2, 1) := by decide +kernel
theorem d6_39 : decode prog_27_method_5_code 39 = .ok (.lastore, 1) := by decide +kernel
theorem d6_40 : decode prog_27_method_5_code 40 = .ok (.aload_n 0, 1) := by decide +kernel
theorem d6_41 : decode prog_27_method_5_code 41 = .ok (.aload_n 0, 1) := by decide +kernel
theorem d6_42 : decode prog_27_method_5_code 42 = .ok (.iload 4, 2) := by decide +kernel
theorem d6_44 : decode prog_27_method_5_code 44 = .ok (.invokevirtual 34, 3) := by decide +kernel
theorem d6_47 : decode prog_27_method_5_code 47 = .ok (.invokevirtual 38, 3) := by decide +kernel
theorem d6_50 : decode prog_27_method_5_code 50 = .ok (.return_, 1) := by decide +kernel
theorem ef_6 (m : MethodId) (x0 : Addr) (x1 : Int32) (x2 : Int64) : entryFrame m #[(.ref x0), (.int x1), (.long x2)] 5 = mkF m 0 #[.val (.ref x0), .val (.int x1), .val (.long x2), .second, .unset] [] := by first | (simp [entryFrame, mkF, argsToLocals, Value.category]; done) | rfl
def g6_a1 (x1 : Int32) (x2 : Int64) (sz : Int32) (H : Nat → Int32) (P : Nat → Int32) (T : Nat → Int64) (cn : Nat) (sn : Nat) : Nat → Int32 := if (P cn) < (0 : Int32) then (g9_a1 (f8 sz (upd H sn x1) (upd T cn x2) sn) (sz + (1 : Int32)) (g8_a1 sz (upd H sn x1) (upd T cn x2) sn) (upd T cn x2) ((f8 sz (upd H sn x1) (upd T cn x2) sn).toInt.toNat)) else (g9_a1 (f8 (P cn) H (upd T cn x2) ((P cn).toInt.toNat)) sz (g8_a1 (P cn) H (upd T cn x2) ((P cn).toInt.toNat)) (upd T cn x2) ((f8 (P cn) H (upd T cn x2) ((P cn).toInt.toNat)).toInt.toNat))
def g6_a2 (x1 : Int32) (x2 : Int64) (sz : Int32) (H : Nat → Int32) (P : Nat → Int32) (T : Nat → Int64) (cn : Nat) (sn : Nat) : Nat → Int32 := if (P cn) < (0 : Int32) then (g9_a2 (f8 sz (upd H sn x1) (upd T cn x2) sn) (sz + (1 : Int32)) (g8_a1 sz (upd H sn x1) (upd T cn x2) sn) (g8_a2 sz (upd H sn x1) (upd P cn sz) (upd T cn x2) sn) (upd T cn x2) ((f8 sz (upd H sn x1) (upd T cn x2) sn).toInt.toNat)) else (g9_a2 (f8 (P cn) H (upd T cn x2) ((P cn).toInt.toNat)) sz (g8_a1 (P cn) H (upd T cn x2) ((P cn).toInt.toNat)) (g8_a2 (P cn) H P (upd T cn x2) ((P cn).toInt.toNat)) (upd T cn x2) ((f8 (P cn) H (upd T cn x2) ((P cn).toInt.toNat)).toInt.toNat))
def Q6 (Z : State) (x0 : Addr) (x1 : Int32) (x2 : Int64) (a1 : Addr) (a2 : Addr) (a3 : Addr) (sz : Int32) (H : Nat → Int32) (P : Nat → Int32) (T : Nat → Int64) (cn : Nat) (sn : Nat) (h0 : Heap) (n0 : Nat) (v : Option Value) (h : Heap) (L : List Loc) : Prop := v = none ∧ Fr n0 L ∧ Keep h0 h [a1, a2, a3, x0] ∧ Fld Z h x0 "com/example/weir/weir/cli/Deadlines" "heap" "[I" (.ref a1) ∧ Fld Z h x0 "com/example/weir/weir/cli/Deadlines" "places" "[I" (.ref a2) ∧ Fld Z h x0 "com/example/weir/weir/cli/Deadlines" "times" "[J" (.ref a3) ∧ Fld Z h x0 "com/example/weir/weir/cli/Deadlines" "size" "I" (.int (own_sz (P cn) sz)) ∧ AI Z h a1 3 (g6_a1 x1 x2 sz H P T cn sn) ∧ AI Z h a2 3 (g6_a2 x1 x2 sz H P T cn sn) ∧ AJ Z h a3 3 (upd T cn x2)
set_option maxRecDepth 65536 in
set_option maxHeartbeats 40000000 in
theorem rm6 (l : Launch) (Z : State) (a0 : Array Value) (hw : ∀ d ∈ tables_1, d.before a0 Z = true) (ws : List Jvm.Cond) (x0 : Addr) (x1 : Int32) (x2 : Int64) (a1 : Addr) (a2 : Addr) (a3 : Addr) (sz : Int32) (H : Nat → Int32) (P : Nat → Int32) (T : Nat → Int64) (cn : Nat) (sn : Nat) (h0 : Heap) (n0 : Nat) (Z0 : n0 ≤ h0.size) (P0 : Exa Z h0 x0 "com/example/weir/weir/cli/Deadlines") (P1 : Fld Z h0 x0 "com/example/weir/weir/cli/Deadlines" "heap" "[I" (.ref a1)) (P2 : Fld Z h0 x0 "com/example/weir/weir/cli/Deadlines" "places" "[I" (.ref a2)) (P3 : Fld Z h0 x0 "com/example/weir/weir/cli/Deadlines" "times" "[J" (.ref a3)) (P4 : Fld Z h0 x0 "com/example/weir/weir/cli/Deadlines" "size" "I" (.int sz)) (P5 : AI Z h0 a1 3 H) (P6 : AI Z h0 a2 3 P) (P7 : AJ Z h0 a3 3 T) (P8 : n0 ≤ a1) (P9 : n0 ≤ a2) (P10 : n0 ≤ a3) (P11 : n0 ≤ x0) (P12 : x0 ≠ a1) (P13 : x0 ≠ a2) (P14 : x0 ≠ a3) (P15 : a1 ≠ a2) (P16 : a1 ≠ a3) (P17 : a2 ≠ a3) (hc : x1.toInt = cn) (hcl : cn < 3) (hs : sz.toInt = sn) (hsn : sn ≤ 3) (hH : ∀ i, i < 3 → own_3 (H i)) (hnew : P cn < 0 → sn < 3) (hold : ¬ P cn < 0 → own_3 (P cn)) :
    MetFree l (⟨"com/example/weir/weir/cli/Deadlines", "hold", "(IJ)V"⟩ : MethodName) (head1 (Jvm.Cond.code (⟨"com/example/weir/weir/cli/Deadlines", "hold", "(IJ)V"⟩ : MethodName) prog_27_method_5_code 5 none :: ws) ({ frames := 2, cells := 0, slots := 0, locals := 29 } : Room)) (fun a U => a = #[(.ref x0), (.int x1), (.long x2)] ∧ Z.Warmed39 U.vm ∧ U.heap = h0) (fun _ _ _ _ _ => True) (fun _ U o U' => ∃ v L, o = .returned v ∧ Q6 Z x0 x1 x2 a1 a2 a3 sz H P T cn sn h0 n0 v U'.heap L ∧ FrameEnd U o U' L ({ frames := 2, cells := 0, slots := 0, locals := 29 } : Room).cells ({ frames := 2, cells := 0, slots := 0, locals := 29 } : Room).slots) := by
  refine g_body (plainFor_of_name pn_1) ?_
  intro p e s m below meth c T0 X0 hx hby hml hret hlk hown hnm hZ e0
  rw [ef_6]
  have N0 := Fr.nil n0
  show Go p e below s _ _ _ (T0.setTop (mkF m 0 #[.val (.ref x0), .val (.int x1), .val (.long x2), .second, .unset] []))
  refine g_aloadN X0 hx 1 (hb hby d6_0) rfl rfl rfl ?_
  show Go p e below s _ _ _ (T0.setTop (mkF m 1 #[.val (.ref x0), .val (.int x1), .val (.long x2), .second, .unset] [(.ref x0)]))
  refine g_getF X0 hx hZ hown (hw _ (List.mem_of_getElem? (i := 12) rfl)) Via.refl e0 P2 4 (hb hby d6_1) rfl ?_
  intro T1 X1 e1
  show Go p e below s _ _ _ (T1.setTop (mkF m 4 #[.val (.ref x0), .val (.int x1), .val (.long x2), .second, .unset] [(.ref a2)]))
  refine g_iloadN X1 hx 5 (hb hby d6_4) rfl rfl ?_
  show Go p e below s _ _ _ (T1.setTop (mkF m 5 #[.val (.ref x0), .val (.int x1), .val (.long x2), .second, .unset] [(.int x1), (.ref a2)]))
  refine g_iaload X1 hx hZ e1 P6 cn hc hcl 6 (hb hby d6_5) rfl ?_
  show Go p e below s _ _ _ (T1.setTop (mkF m 6 #[.val (.ref x0), .val (.int x1), .val (.long x2), .second, .unset] [(.int (P cn))]))
  refine g_istore X1 hx #[.val (.ref x0), .val (.int x1), .val (.long x2), .second, .val (.int (P cn))] 8 (hb hby d6_6) rfl rfl ?_
  show Go p e below s _ _ _ (T1.setTop (mkF m 8 #[.val (.ref x0), .val (.int x1), .val (.long x2), .second, .val (.int (P cn))] []))
  refine g_iload X1 hx 10 (hb hby d6_8) rfl rfl ?_
  show Go p e below s _ _ _ (T1.setTop (mkF m 10 #[.val (.ref x0), .val (.int x1), .val (.long x2), .second, .val (.int (P cn))] [(.int (P cn))]))
  refine g_if0_ge X1 hx 33 13 (hb hby d6_10) (by decide) rfl rfl (fun h3 => ?_) (fun h3 => ?_)
  · show Go p e below s _ _ _ (T1.setTop (mkF m 13 #[.val (.ref x0), .val (.int x1), .val (.long x2), .second, .val (.int (P cn))] []))
    refine g_aloadN X1 hx 14 (hb hby d6_13) rfl rfl rfl ?_
    show Go p e below s _ _ _ (T1.setTop (mkF m 14 #[.val (.ref x0), .val (.int x1), .val (.long x2), .second, .val (.int (P cn))] [(.ref x0)]))
    refine g_dup X1 hx 15 (hb hby d6_14) rfl rfl ?_
    show Go p e below s _ _ _ (T1.setTop (mkF m 15 #[.val (.ref x0), .val (.int x1), .val (.long x2), .second, .val (.int (P cn))] [(.ref x0), (.ref x0)]))
    refine g_getF X1 hx hZ hown (hw _ (List.mem_of_getElem? (i := 26) rfl)) Via.refl e1 P4 18 (hb hby d6_15) rfl ?_
    intro T4 X4 e4
    show Go p e below s _ _ _ (T4.setTop (mkF m 18 #[.val (.ref x0), .val (.int x1), .val (.long x2), .second, .val (.int (P cn))] [(.int sz), (.ref x0)]))
    refine g_dup_x1 X4 hx 19 (hb hby d6_18) rfl rfl rfl ?_
    show Go p e below s _ _ _ (T4.setTop (mkF m 19 #[.val (.ref x0), .val (.int x1), .val (.long x2), .second, .val (.int (P cn))] [(.int sz), (.ref x0), (.int sz)]))
    refine g_iconst X4 hx (1 : Int32) 20 (hb hby d6_19) rfl rfl ?_
    show Go p e below s _ _ _ (T4.setTop (mkF m 20 #[.val (.ref x0), .val (.int x1), .val (.long x2), .second, .val (.int (P cn))] [(.int (1 : Int32)), (.int sz), (.ref x0), (.int sz)]))
    refine g_iadd X4 hx 21 (hb hby d6_20) rfl ?_
    show Go p e below s _ _ _ (T4.setTop (mkF m 21 #[.val (.ref x0), .val (.int x1), .val (.long x2), .second, .val (.int (P cn))] [(.int (sz + (1 : Int32))), (.ref x0), (.int sz)]))
    refine g_putF X4 hx hZ hown (hw _ (List.mem_of_getElem? (i := 26) rfl)) Via.refl e4 P4 P0 (Or.inl (hw _ (List.mem_of_getElem? (i := 27) rfl))) (hw _ (List.mem_of_getElem? (i := 1) rfl)) (ty := .int) (by decide) rfl rfl 24 (hb hby d6_21) rfl ?_
    intro T5 h5 X5 e5 W5
    have K5 := (Keep.refl h0 [a1, a2, a3, x0]).wr W5 (Or.inl (List.mem_of_getElem? (i := 3) rfl))
    have N5 := Fr.snoc X5 N0 P11
    have k5_0 := P0.wr W5
    have k5_1 := P1.other W5 (Or.inr (slot_ne (Or.inr (hw _ (List.mem_of_getElem? (i := 11) rfl))) (Or.inl (hw _ (List.mem_of_getElem? (i := 27) rfl))) (by decide) (t := (.array .int)) (t' := .int) (by decide) (by decide)))
    have k5_2 := P2.other W5 (Or.inr (slot_ne (Or.inr (hw _ (List.mem_of_getElem? (i := 13) rfl))) (Or.inl (hw _ (List.mem_of_getElem? (i := 27) rfl))) (by decide) (t := (.array .int)) (t' := .int) (by decide) (by decide)))
    have k5_3 := P3.other W5 (Or.inr (slot_ne (Or.inr (hw _ (List.mem_of_getElem? (i := 20) rfl))) (Or.inl (hw _ (List.mem_of_getElem? (i := 27) rfl))) (by decide) (t := (.array .long)) (t' := .int) (by decide) (by decide)))
    have k5_5 := P5.other W5 (Ne.symm P12)
    have k5_6 := P6.other W5 (Ne.symm P13)
    have k5_7 := P7.other W5 (Ne.symm P14)
    have Z5 : n0 ≤ h5.size := by rw [W5.size]; exact Z0
    have F5 := P4.same W5
    show Go p e below s _ _ _ (T5.setTop (mkF m 24 #[.val (.ref x0), .val (.int x1), .val (.long x2), .second, .val (.int (P cn))] [(.int sz)]))
    refine g_istore X5 hx #[.val (.ref x0), .val (.int x1), .val (.long x2), .second, .val (.int sz)] 26 (hb hby d6_24) rfl rfl ?_
    show Go p e below s _ _ _ (T5.setTop (mkF m 26 #[.val (.ref x0), .val (.int x1), .val (.long x2), .second, .val (.int sz)] []))
    refine g_aloadN X5 hx 27 (hb hby d6_26) rfl rfl rfl ?_
    show Go p e below s _ _ _ (T5.setTop (mkF m 27 #[.val (.ref x0), .val (.int x1), .val (.long x2), .second, .val (.int sz)] [(.ref x0)]))
    refine g_iloadN X5 hx 28 (hb hby d6_27) rfl rfl ?_
    show Go p e below s _ _ _ (T5.setTop (mkF m 28 #[.val (.ref x0), .val (.int x1), .val (.long x2), .second, .val (.int sz)] [(.int x1), (.ref x0)]))
    refine g_iload X5 hx 30 (hb hby d6_28) rfl rfl ?_
    show Go p e below s _ _ _ (T5.setTop (mkF m 30 #[.val (.ref x0), .val (.int x1), .val (.long x2), .second, .val (.int sz)] [(.int sz), (.int x1), (.ref x0)]))
    refine g_callP X5 hx hZ hown (hw _ (List.mem_of_getElem? (i := 37) rfl)) (hw _ (List.mem_of_getElem? (i := 38) rfl)) (hw _ (List.mem_of_getElem? (i := 1) rfl)) (hw _ (List.mem_of_getElem? (i := 39) rfl)) (hw _ (List.mem_of_getElem? (i := 2) rfl)) (hw _ (List.mem_of_getElem? (i := 40) rfl)) (by decide) e5 x0 k5_0 (rm7 l Z a0 hw [] x0 x1 sz a1 a2 H P cn sn h5 n0 Z5 k5_1 k5_2 k5_5 k5_6 P8 P9 P12 P13 P15 (hc : x1.toInt = cn) (hcl : cn < 3) (hs : sz.toInt = sn) ((hnew ‹P cn < (0 : Int32)›) : sn < 3)) [(.int x1), (.int sz)] [] 0 rfl (lenOf pd__28II_29V rfl) rfl (Nat.le_of_eq rfl) (by decide) (by decide) (by decide) (by decide) (by rw [hml]; rfl) (hb hby d6_30) ?_
    intro T6 L6 v6 X6 q6
    obtain ⟨rfl, N6, K6, p6_0, p6_1⟩ := q6
    have NN6 := Fr.app N5 N6
    have KK6 := K5.trans K6 (by intro x hx; simp only [List.mem_cons, List.not_mem_nil, or_false] at hx; rcases hx with rfl | rfl <;> first | exact (Or.inl (List.mem_of_getElem? (i := 0) rfl)) | exact (Or.inl (List.mem_of_getElem? (i := 1) rfl)))
    have k6_0 := k5_0.keep K6
    have k6_1 := k5_1.keep K6 (nm1 P12 (nm1 P13 nm0))
    have k6_2 := k5_2.keep K6 (nm1 P12 (nm1 P13 nm0))
    have k6_3 := k5_3.keep K6 (nm1 P12 (nm1 P13 nm0))
    have k6_6 := k5_7.keep K6 (nm1 (Ne.symm P16) (nm1 (Ne.symm P17) nm0))
    have k6_17 := F5.keep K6 (nm1 P12 (nm1 P13 nm0))
    have Z6 : n0 ≤ T6.heap.size := Nat.le_trans Z5 K6.1
    show Go p e below s _ _ _ (T6.setTop (mkF m 33 #[.val (.ref x0), .val (.int x1), .val (.long x2), .second, .val (.int sz)] []))
    refine g_aloadN X6 hx 34 (hb hby d6_33) rfl rfl rfl ?_
    show Go p e below s _ _ _ (T6.setTop (mkF m 34 #[.val (.ref x0), .val (.int x1), .val (.long x2), .second, .val (.int sz)] [(.ref x0)]))
    refine g_getF X6 hx hZ hown (hw _ (List.mem_of_getElem? (i := 19) rfl)) Via.refl rfl k6_3 37 (hb hby d6_34) rfl ?_
    intro T7 X7 e7
    show Go p e below s _ _ _ (T7.setTop (mkF m 37 #[.val (.ref x0), .val (.int x1), .val (.long x2), .second, .val (.int sz)] [(.ref a3)]))
    refine g_iloadN X7 hx 38 (hb hby d6_37) rfl rfl ?_
    show Go p e below s _ _ _ (T7.setTop (mkF m 38 #[.val (.ref x0), .val (.int x1), .val (.long x2), .second, .val (.int sz)] [(.int x1), (.ref a3)]))
    refine g_lloadN X7 hx 39 (hb hby d6_38) rfl rfl ?_
    show Go p e below s _ _ _ (T7.setTop (mkF m 39 #[.val (.ref x0), .val (.int x1), .val (.long x2), .second, .val (.int sz)] [(.long x2), (.int x1), (.ref a3)]))
    refine g_lastore X7 hx hZ e7 k6_6 cn hc hcl 40 (hb hby d6_39) rfl ?_
    intro T8 h8 X8 e8 W8 A8
    have K8 := KK6.wr W8 (Or.inl (List.mem_of_getElem? (i := 2) rfl))
    have N8 := Fr.snoc X8 NN6 P10
    have k8_0 := k6_0.wr W8
    have k8_1 := k6_1.other W8 (Or.inl P14)
    have k8_2 := k6_2.other W8 (Or.inl P14)
    have k8_3 := k6_3.other W8 (Or.inl P14)
    have k8_15 := k6_17.other W8 (Or.inl P14)
    have k8_16 := p6_0.other W8 P16
    have k8_17 := p6_1.other W8 P17
    have Z8 : n0 ≤ h8.size := by rw [W8.size]; exact Z6
    show Go p e below s _ _ _ (T8.setTop (mkF m 40 #[.val (.ref x0), .val (.int x1), .val (.long x2), .second, .val (.int sz)] []))
    refine g_aloadN X8 hx 41 (hb hby d6_40) rfl rfl rfl ?_
    show Go p e below s _ _ _ (T8.setTop (mkF m 41 #[.val (.ref x0), .val (.int x1), .val (.long x2), .second, .val (.int sz)] [(.ref x0)]))
    refine g_aloadN X8 hx 42 (hb hby d6_41) rfl rfl rfl ?_
    show Go p e below s _ _ _ (T8.setTop (mkF m 42 #[.val (.ref x0), .val (.int x1), .val (.long x2), .second, .val (.int sz)] [(.ref x0), (.ref x0)]))
    refine g_iload X8 hx 44 (hb hby d6_42) rfl rfl ?_
    show Go p e below s _ _ _ (T8.setTop (mkF m 44 #[.val (.ref x0), .val (.int x1), .val (.long x2), .second, .val (.int sz)] [(.int sz), (.ref x0), (.ref x0)]))
    refine g_callP X8 hx hZ hown (hw _ (List.mem_of_getElem? (i := 41) rfl)) (hw _ (List.mem_of_getElem? (i := 42) rfl)) (hw _ (List.mem_of_getElem? (i := 1) rfl)) (hw _ (List.mem_of_getElem? (i := 43) rfl)) (hw _ (List.mem_of_getElem? (i := 2) rfl)) (hw _ (List.mem_of_getElem? (i := 44) rfl)) (by decide) e8 x0 k8_0 (rm8 l Z a0 hw [] x0 sz a1 a2 a3 (sz + (1 : Int32)) (upd H sn x1) (upd P cn sz) (upd T cn x2) sn h8 n0 Z8 k8_0 k8_1 k8_2 k8_3 k8_15 k8_16 k8_17 A8 P8 P9 P12 P13 P14 P15 P16 P17 (hs : sz.toInt = sn) ((hnew ‹P cn < (0 : Int32)›) : sn < 3) ((own_upd3 hH (own_x3 hc hcl)) : ∀ i, i < 3 → own_3 ((upd H sn x1) i))) [(.int sz)] [(.ref x0)] 1 rfl (lenOf pd__28I_29I rfl) rfl (Nat.le_of_eq rfl) (by decide) (by decide) (by decide) (by decide) (by rw [hml]; rfl) (hb hby d6_44) ?_
    intro T9 L9 v9 X9 q9
    obtain ⟨rfl, N9, K9, p9_0, p9_1⟩ := q9
    have NN9 := Fr.app N8 N9
    have KK9 := K8.trans K9 (by intro x hx; simp only [List.mem_cons, List.not_mem_nil, or_false] at hx; rcases hx with rfl | rfl <;> first | exact (Or.inl (List.mem_of_getElem? (i := 0) rfl)) | exact (Or.inl (List.mem_of_getElem? (i := 1) rfl)))
    have k9_0 := k8_0.keep K9
    have k9_1 := k8_1.keep K9 (nm1 P12 (nm1 P13 nm0))
    have k9_2 := k8_2.keep K9 (nm1 P12 (nm1 P13 nm0))
    have k9_3 := k8_3.keep K9 (nm1 P12 (nm1 P13 nm0))
    have k9_14 := k8_15.keep K9 (nm1 P12 (nm1 P13 nm0))
    have k9_17 := A8.keep K9 (nm1 (Ne.symm P16) (nm1 (Ne.symm P17) nm0))
    have Z9 : n0 ≤ T9.heap.size := Nat.le_trans Z8 K9.1
    show Go p e below s _ _ _ (T9.setTop (mkF m 47 #[.val (.ref x0), .val (.int x1), .val (.long x2), .second, .val (.int sz)] [(.int (f8 sz (upd H sn x1) (upd T cn x2) sn)), (.ref x0)]))
    refine g_callP X9 hx hZ hown (hw _ (List.mem_of_getElem? (i := 45) rfl)) (hw _ (List.mem_of_getElem? (i := 46) rfl)) (hw _ (List.mem_of_getElem? (i := 1) rfl)) (hw _ (List.mem_of_getElem? (i := 47) rfl)) (hw _ (List.mem_of_getElem? (i := 2) rfl)) (hw _ (List.mem_of_getElem? (i := 48) rfl)) (by decide) rfl x0 k9_0 (rm9 l Z a0 hw [] x0 (f8 sz (upd H sn x1) (upd T cn x2) sn) a1 a2 a3 (sz + (1 : Int32)) (g8_a1 sz (upd H sn x1) (upd T cn x2) sn) (g8_a2 sz (upd H sn x1) (upd P cn sz) (upd T cn x2) sn) (upd T cn x2) ((f8 sz (upd H sn x1) (upd T cn x2) sn).toInt.toNat) (sn + 1 : Nat) T9.heap n0 Z9 k9_0 k9_1 k9_2 k9_3 k9_14 p9_0 p9_1 k9_17 P8 P9 P12 P13 P14 P15 P16 P17 ((own_i3 (own_f8 (upd H sn x1) (upd T cn x2) hs (hnew ‹P cn < (0 : Int32)›)).1).1 : (f8 sz (upd H sn x1) (upd T cn x2) sn).toInt = ((f8 sz (upd H sn x1) (upd T cn x2) sn).toInt.toNat)) ((own_i3 (own_f8 (upd H sn x1) (upd T cn x2) hs (hnew ‹P cn < (0 : Int32)›)).1).2 : ((f8 sz (upd H sn x1) (upd T cn x2) sn).toInt.toNat) < 3) (own_s1 hs (hnew ‹P cn < (0 : Int32)›) : (sz + (1 : Int32)).toInt = (sn + 1 : Nat)) ((hnew ‹P cn < (0 : Int32)›) : (sn + 1 : Nat) ≤ 3) (own_g8 (upd T cn x2) (hnew ‹P cn < (0 : Int32)›) (own_upd3 hH (own_x3 hc hcl)) : ∀ i, i < 3 → own_3 ((g8_a1 sz (upd H sn x1) (upd T cn x2) sn) i))) [(.int (f8 sz (upd H sn x1) (upd T cn x2) sn))] [] 0 rfl (lenOf pd__28I_29V rfl) rfl (Nat.le_of_eq rfl) (by decide) (by decide) (by decide) (by decide) (by rw [hml]; rfl) (hb hby d6_47) ?_
    intro T10 L10 v10 X10 q10
    obtain ⟨rfl, N10, K10, p10_0, p10_1⟩ := q10
    have NN10 := Fr.app NN9 N10
    have KK10 := KK9.trans K10 (by intro x hx; simp only [List.mem_cons, List.not_mem_nil, or_false] at hx; rcases hx with rfl | rfl <;> first | exact (Or.inl (List.mem_of_getElem? (i := 0) rfl)) | exact (Or.inl (List.mem_of_getElem? (i := 1) rfl)))
    have k10_0 := k9_0.keep K10
    have k10_1 := k9_1.keep K10 (nm1 P12 (nm1 P13 nm0))
    have k10_2 := k9_2.keep K10 (nm1 P12 (nm1 P13 nm0))
    have k10_3 := k9_3.keep K10 (nm1 P12 (nm1 P13 nm0))
    have k10_14 := k9_14.keep K10 (nm1 P12 (nm1 P13 nm0))
    have k10_15 := k9_17.keep K10 (nm1 (Ne.symm P16) (nm1 (Ne.symm P17) nm0))
    have Z10 : n0 ≤ T10.heap.size := Nat.le_trans Z9 K10.1
    show Go p e below s _ _ _ (T10.setTop (mkF m 50 #[.val (.ref x0), .val (.int x1), .val (.long x2), .second, .val (.int sz)] []))
    exact g_retV X10 hx hret hlk (hb hby d6_50) (by decide) (by decide) ⟨rfl, NN10, KK10, k10_1, k10_2, k10_3, (by rw [own_sz, if_pos h3]; exact k10_14), (by rw [g6_a1, if_pos h3]; exact p10_0), (by rw [g6_a2, if_pos h3]; exact p10_1), k10_15⟩
  · show Go p e below s _ _ _ (T1.setTop (mkF m 33 #[.val (.ref x0), .val (.int x1), .val (.long x2), .second, .val (.int (P cn))] []))
    refine g_aloadN X1 hx 34 (hb hby d6_33) rfl rfl rfl ?_
    show Go p e below s _ _ _ (T1.setTop (mkF m 34 #[.val (.ref x0), .val (.int x1), .val (.long x2), .second, .val (.int (P cn))] [(.ref x0)]))
    refine g_getF X1 hx hZ hown (hw _ (List.mem_of_getElem? (i := 19) rfl)) Via.refl e1 P3 37 (hb hby d6_34) rfl ?_
    intro T11 X11 e11
    show Go p e below s _ _ _ (T11.setTop (mkF m 37 #[.val (.ref x0), .val (.int x1), .val (.long x2), .second, .val (.int (P cn))] [(.ref a3)]))
    refine g_iloadN X11 hx 38 (hb hby d6_37) rfl rfl ?_
    show Go p e below s _ _ _ (T11.setTop (mkF m 38 #[.val (.ref x0), .val (.int x1), .val (.long x2), .second, .val (.int (P cn))] [(.int x1), (.ref a3)]))
    refine g_lloadN X11 hx 39 (hb hby d6_38) rfl rfl ?_
    show Go p e below s _ _ _ (T11.setTop (mkF m 39 #[.val (.ref x0), .val (.int x1), .val (.long x2), .second, .val (.int (P cn))] [(.long x2), (.int x1), (.ref a3)]))
    refine g_lastore X11 hx hZ e11 P7 cn hc hcl 40 (hb hby d6_39) rfl ?_
    intro T12 h12 X12 e12 W12 A12
    have K12 := (Keep.refl h0 [a1, a2, a3, x0]).wr W12 (Or.inl (List.mem_of_getElem? (i := 2) rfl))
    have N12 := Fr.snoc X12 N0 P10
    have k12_0 := P0.wr W12
    have k12_1 := P1.other W12 (Or.inl P14)
    have k12_2 := P2.other W12 (Or.inl P14)
    have k12_3 := P3.other W12 (Or.inl P14)
    have k12_4 := P4.other W12 (Or.inl P14)
    have k12_5 := P5.other W12 P16
    have k12_6 := P6.other W12 P17
    have Z12 : n0 ≤ h12.size := by rw [W12.size]; exact Z0
    show Go p e below s _ _ _ (T12.setTop (mkF m 40 #[.val (.ref x0), .val (.int x1), .val (.long x2), .second, .val (.int (P cn))] []))
    refine g_aloadN X12 hx 41 (hb hby d6_40) rfl rfl rfl ?_
    show Go p e below s _ _ _ (T12.setTop (mkF m 41 #[.val (.ref x0), .val (.int x1), .val (.long x2), .second, .val (.int (P cn))] [(.ref x0)]))
    refine g_aloadN X12 hx 42 (hb hby d6_41) rfl rfl rfl ?_
    show Go p e below s _ _ _ (T12.setTop (mkF m 42 #[.val (.ref x0), .val (.int x1), .val (.long x2), .second, .val (.int (P cn))] [(.ref x0), (.ref x0)]))
    refine g_iload X12 hx 44 (hb hby d6_42) rfl rfl ?_
    show Go p e below s _ _ _ (T12.setTop (mkF m 44 #[.val (.ref x0), .val (.int x1), .val (.long x2), .second, .val (.int (P cn))] [(.int (P cn)), (.ref x0), (.ref x0)]))
    refine g_callP X12 hx hZ hown (hw _ (List.mem_of_getElem? (i := 41) rfl)) (hw _ (List.mem_of_getElem? (i := 42) rfl)) (hw _ (List.mem_of_getElem? (i := 1) rfl)) (hw _ (List.mem_of_getElem? (i := 43) rfl)) (hw _ (List.mem_of_getElem? (i := 2) rfl)) (hw _ (List.mem_of_getElem? (i := 44) rfl)) (by decide) e12 x0 k12_0 (rm8 l Z a0 hw [] x0 (P cn) a1 a2 a3 sz H P (upd T cn x2) ((P cn).toInt.toNat) h12 n0 Z12 k12_0 k12_1 k12_2 k12_3 k12_4 k12_5 k12_6 A12 P8 P9 P12 P13 P14 P15 P16 P17 ((own_i3 (hold ‹¬ P cn < (0 : Int32)›)).1 : (P cn).toInt = ((P cn).toInt.toNat)) ((own_i3 (hold ‹¬ P cn < (0 : Int32)›)).2 : ((P cn).toInt.toNat) < 3) (hH : ∀ i, i < 3 → own_3 (H i))) [(.int (P cn))] [(.ref x0)] 1 rfl (lenOf pd__28I_29I rfl) rfl (Nat.le_of_eq rfl) (by decide) (by decide) (by decide) (by decide) (by rw [hml]; rfl) (hb hby d6_44) ?_
    intro T13 L13 v13 X13 q13
    obtain ⟨rfl, N13, K13, p13_0, p13_1⟩ := q13
    have NN13 := Fr.app N12 N13
    have KK13 := K12.trans K13 (by intro x hx; simp only [List.mem_cons, List.not_mem_nil, or_false] at hx; rcases hx with rfl | rfl <;> first | exact (Or.inl (List.mem_of_getElem? (i := 0) rfl)) | exact (Or.inl (List.mem_of_getElem? (i := 1) rfl)))
    have k13_0 := k12_0.keep K13
    have k13_1 := k12_1.keep K13 (nm1 P12 (nm1 P13 nm0))
    have k13_2 := k12_2.keep K13 (nm1 P12 (nm1 P13 nm0))
    have k13_3 := k12_3.keep K13 (nm1 P12 (nm1 P13 nm0))
    have k13_4 := k12_4.keep K13 (nm1 P12 (nm1 P13 nm0))
    have k13_17 := A12.keep K13 (nm1 (Ne.symm P16) (nm1 (Ne.symm P17) nm0))
    have Z13 : n0 ≤ T13.heap.size := Nat.le_trans Z12 K13.1
    show Go p e below s _ _ _ (T13.setTop (mkF m 47 #[.val (.ref x0), .val (.int x1), .val (.long x2), .second, .val (.int (P cn))] [(.int (f8 (P cn) H (upd T cn x2) ((P cn).toInt.toNat))), (.ref x0)]))
    refine g_callP X13 hx hZ hown (hw _ (List.mem_of_getElem? (i := 45) rfl)) (hw _ (List.mem_of_getElem? (i := 46) rfl)) (hw _ (List.mem_of_getElem? (i := 1) rfl)) (hw _ (List.mem_of_getElem? (i := 47) rfl)) (hw _ (List.mem_of_getElem? (i := 2) rfl)) (hw _ (List.mem_of_getElem? (i := 48) rfl)) (by decide) rfl x0 k13_0 (rm9 l Z a0 hw [] x0 (f8 (P cn) H (upd T cn x2) ((P cn).toInt.toNat)) a1 a2 a3 sz (g8_a1 (P cn) H (upd T cn x2) ((P cn).toInt.toNat)) (g8_a2 (P cn) H P (upd T cn x2) ((P cn).toInt.toNat)) (upd T cn x2) ((f8 (P cn) H (upd T cn x2) ((P cn).toInt.toNat)).toInt.toNat) sn T13.heap n0 Z13 k13_0 k13_1 k13_2 k13_3 k13_4 p13_0 p13_1 k13_17 P8 P9 P12 P13 P14 P15 P16 P17 ((own_i3 (own_f8 H (upd T cn x2) (own_i3 (hold ‹¬ P cn < (0 : Int32)›)).1 (own_i3 (hold ‹¬ P cn < (0 : Int32)›)).2).1).1 : (f8 (P cn) H (upd T cn x2) ((P cn).toInt.toNat)).toInt = ((f8 (P cn) H (upd T cn x2) ((P cn).toInt.toNat)).toInt.toNat)) ((own_i3 (own_f8 H (upd T cn x2) (own_i3 (hold ‹¬ P cn < (0 : Int32)›)).1 (own_i3 (hold ‹¬ P cn < (0 : Int32)›)).2).1).2 : ((f8 (P cn) H (upd T cn x2) ((P cn).toInt.toNat)).toInt.toNat) < 3) (hs : sz.toInt = sn) (hsn : sn ≤ 3) (own_g8 (upd T cn x2) (own_i3 (hold ‹¬ P cn < (0 : Int32)›)).2 hH : ∀ i, i < 3 → own_3 ((g8_a1 (P cn) H (upd T cn x2) ((P cn).toInt.toNat)) i))) [(.int (f8 (P cn) H (upd T cn x2) ((P cn).toInt.toNat)))] [] 0 rfl (lenOf pd__28I_29V rfl) rfl (Nat.le_of_eq rfl) (by decide) (by decide) (by decide) (by decide) (by rw [hml]; rfl) (hb hby d6_47) ?_
    intro T14 L14 v14 X14 q14
    obtain ⟨rfl, N14, K14, p14_0, p14_1⟩ := q14
    have NN14 := Fr.app NN13 N14
    have KK14 := KK13.trans K14 (by intro x hx; simp only [List.mem_cons, List.not_mem_nil, or_false] at hx; rcases hx with rfl | rfl <;> first | exact (Or.inl (List.mem_of_getElem? (i := 0) rfl)) | exact (Or.inl (List.mem_of_getElem? (i := 1) rfl)))
    have k14_0 := k13_0.keep K14
    have k14_1 := k13_1.keep K14 (nm1 P12 (nm1 P13 nm0))
    have k14_2 := k13_2.keep K14 (nm1 P12 (nm1 P13 nm0))
    have k14_3 := k13_3.keep K14 (nm1 P12 (nm1 P13 nm0))
    have k14_4 := k13_4.keep K14 (nm1 P12 (nm1 P13 nm0))
    have k14_15 := k13_17.keep K14 (nm1 (Ne.symm P16) (nm1 (Ne.symm P17) nm0))
    have Z14 : n0 ≤ T14.heap.size := Nat.le_trans Z13 K14.1
    show Go p e below s _ _ _ (T14.setTop (mkF m 50 #[.val (.ref x0), .val (.int x1), .val (.long x2), .second, .val (.int (P cn))] []))
    exact g_retV X14 hx hret hlk (hb hby d6_50) (by decide) (by decide) ⟨rfl, NN14, KK14, k14_1, k14_2, k14_3, (by rw [own_sz, if_neg h3]; exact k14_4), (by rw [g6_a1, if_neg h3]; exact p14_0), (by rw [g6_a2, if_neg h3]; exact p14_1), k14_15⟩
theorem d11_0 : decode prog_27_method_6_code 0 = .ok (.aload_n 0, 1) := by decide +kernel
theorem d11_1 : decode prog_27_method_6_code 1 = .ok (.getfield 7, 3) := by decide +kernel
theorem d11_4 : decode prog_27_method_6_code 4 = .ok (.iconst 0, 1) := by decide +kernel
theorem d11_5 : decode prog_27_method_6_code 5 = .ok (.iaload, 1) := by decide +kernel
theorem d11_6 : decode prog_27_method_6_code 6 = .ok (.istore_n 1, 1) := by decide +kernel
theorem d11_7 : decode prog_27_method_6_code 7 = .ok (.aload_n 0, 1) := by decide +kernel
theorem d11_8 : decode prog_27_method_6_code 8 = .ok (.getfield 13, 3) := by decide +kernel
theorem d11_11 : decode prog_27_method_6_code 11 = .ok (.iload_n 1, 1) := by decide +kernel
theorem d11_12 : decode prog_27_method_6_code 12 = .ok (.iconst (-1), 1) := by decide +kernel
theorem d11_13 : decode prog_27_method_6_code 13 = .ok (.iastore, 1) := by decide +kernel
theorem d11_14 : decode prog_27_method_6_code 14 = .ok (.aload_n 0, 1) := by decide +kernel
theorem d11_15 : decode prog_27_method_6_code 15 = .ok (.dup, 1) := by decide +kernel
theorem d11_16 : decode prog_27_method_6_code 16 = .ok (.getfield 26, 3) := by decide +kernel
theorem d11_19 : decode prog_27_method_6_code 19 = .ok (.iconst 1, 1) := by decide +kernel
theorem d11_20 : decode prog_27_method_6_code 20 = .ok (.isub, 1) := by decide +kernel
theorem d11_21 : decode prog_27_method_6_code 21 = .ok (.putfield 26, 3) := by decide +kernel
theorem d11_24 : decode prog_27_method_6_code 24 = .ok (.aload_n 0, 1) := by decide +kernel
theorem d11_25 : decode prog_27_method_6_code 25 = .ok (.getfield 26, 3) := by decide +kernel
theorem d11_28 : decode prog_27_method_6_code 28 = .ok (.ifCond .le 22, 3) := by decide +kernel
theorem d11_31 : decode prog_27_method_6_code 31 = .ok (.aload_n 0, 1) := by decide +kernel
theorem d11_32 : decode prog_27_method_6_code 32 = .ok (.aload_n 0, 1) := by decide +kernel
theorem d11_33 : decode prog_27_method_6_code 33 = .ok (.getfield 7, 3) := by decide +kernel
theorem d11_36 : decode prog_27_method_6_code 36 = .ok (.aload_n 0, 1) := by decide +kernel
theorem d11_37 : decode prog_27_method_6_code 37 = .ok (.getfield 26, 3) := by decide +kernel
theorem d11_40 : decode prog_27_method_6_code 40 = .ok (.iaload, 1) := by decide +kernel
theorem d11_41 : decode prog_27_method_6_code 41 = .ok (.iconst 0, 1) := by decide +kernel
theorem d11_42 : decode prog_27_method_6_code 42 = .ok (.invokevirtual 30, 3) := by decide +kernel
theorem d11_45 : decode prog_27_method_6_code 45 = .ok (.aload_n 0, 1) := by decide +kernel
theorem d11_46 : decode prog_27_method_6_code 46 = .ok (.iconst 0, 1) := by decide +kernel
theorem d11_47 : decode prog_27_method_6_code 47 = .ok (.invokevirtual 38, 3) := by decide +kernel
theorem d11_50 : decode prog_27_method_6_code 50 = .ok (.iload_n 1, 1) := by decide +kernel
theorem d11_51 : decode prog_27_method_6_code 51 = .ok (.ireturn, 1) := by decide +kernel
theorem ef_11 (m : MethodId) (x0 : Addr) : entryFrame m #[(.ref x0)] 2 = mkF m 0 #[.val (.ref x0), .unset] [] := by first | (simp [entryFrame, mkF, argsToLocals, Value.category]; done) | rfl
def g11_a1 (sz : Int32) (H : Nat → Int32) (P : Nat → Int32) (T : Nat → Int64) (sn : Nat) : Nat → Int32 := if (0 : Int32) < (sz - (1 : Int32)) then (g9_a1 (0 : Int32) (sz - (1 : Int32)) (upd H 0 (H (sn - 1))) T 0) else H
def g11_a2 (sz : Int32) (H : Nat → Int32) (P : Nat → Int32) (T : Nat → Int64) (sn : Nat) : Nat → Int32 := if (0 : Int32) < (sz - (1 : Int32)) then (g9_a2 (0 : Int32) (sz - (1 : Int32)) (upd H 0 (H (sn - 1))) (upd (upd P ((H 0).toInt.toNat) (-1 : Int32)) ((H (sn - 1)).toInt.toNat) (0 : Int32)) T 0) else (upd P ((H 0).toInt.toNat) (-1 : Int32))
def Q11 (Z : State) (x0 : Addr) (a1 : Addr) (a2 : Addr) (a3 : Addr) (sz : Int32) (H : Nat → Int32) (P : Nat → Int32) (T : Nat → Int64) (sn : Nat) (h0 : Heap) (n0 : Nat) (v : Option Value) (h : Heap) (L : List Loc) : Prop := v = some (.int (H 0)) ∧ Fr n0 L ∧ Keep h0 h [a1, a2, x0] ∧ Fld Z h x0 "com/example/weir/weir/cli/Deadlines" "heap" "[I" (.ref a1) ∧ Fld Z h x0 "com/example/weir/weir/cli/Deadlines" "places" "[I" (.ref a2) ∧ Fld Z h x0 "com/example/weir/weir/cli/Deadlines" "times" "[J" (.ref a3) ∧ Fld Z h x0 "com/example/weir/weir/cli/Deadlines" "size" "I" (.int (sz - (1 : Int32))) ∧ AI Z h a1 3 (g11_a1 sz H P T sn) ∧ AI Z h a2 3 (g11_a2 sz H P T sn)
set_option maxRecDepth 65536 in
set_option maxHeartbeats 40000000 in
theorem rm11 (l : Launch) (Z : State) (a0 : Array Value) (hw : ∀ d ∈ tables_1, d.before a0 Z = true) (ws : List Jvm.Cond) (x0 : Addr) (a1 : Addr) (a2 : Addr) (a3 : Addr) (sz : Int32) (H : Nat → Int32) (P : Nat → Int32) (T : Nat → Int64) (sn : Nat) (h0 : Heap) (n0 : Nat) (Z0 : n0 ≤ h0.size) (P0 : Exa Z h0 x0 "com/example/weir/weir/cli/Deadlines") (P1 : Fld Z h0 x0 "com/example/weir/weir/cli/Deadlines" "heap" "[I" (.ref a1)) (P2 : Fld Z h0 x0 "com/example/weir/weir/cli/Deadlines" "places" "[I" (.ref a2)) (P3 : Fld Z h0 x0 "com/example/weir/weir/cli/Deadlines" "times" "[J" (.ref a3)) (P4 : Fld Z h0 x0 "com/example/weir/weir/cli/Deadlines" "size" "I" (.int sz)) (P5 : AI Z h0 a1 3 H) (P6 : AI Z h0 a2 3 P) (P7 : AJ Z h0 a3 3 T) (P8 : n0 ≤ a1) (P9 : n0 ≤ a2) (P10 : n0 ≤ a3) (P11 : n0 ≤ x0) (P12 : x0 ≠ a1) (P13 : x0 ≠ a2) (P14 : x0 ≠ a3) (P15 : a1 ≠ a2) (P16 : a1 ≠ a3) (P17 : a2 ≠ a3) (hs : sz.toInt = sn) (h1n : 1 ≤ sn) (hsn : sn ≤ 3) (hH : ∀ i, i < 3 → own_3 (H i)) :
    MetFree l (⟨"com/example/weir/weir/cli/Deadlines", "removeFirst", "()I"⟩ : MethodName) (head1 (Jvm.Cond.code (⟨"com/example/weir/weir/cli/Deadlines", "removeFirst", "()I"⟩ : MethodName) prog_27_method_6_code 2 (some .int) :: ws) ({ frames := 2, cells := 0, slots := 0, locals := 29 } : Room)) (fun a U => a = #[(.ref x0)] ∧ Z.Warmed39 U.vm ∧ U.heap = h0) (fun _ _ _ _ _ => True) (fun _ U o U' => ∃ v L, o = .returned v ∧ Q11 Z x0 a1 a2 a3 sz H P T sn h0 n0 v U'.heap L ∧ FrameEnd U o U' L ({ frames := 2, cells := 0, slots := 0, locals := 29 } : Room).cells ({ frames := 2, cells := 0, slots := 0, locals := 29 } : Room).slots) := by
  refine g_body (plainFor_of_name pn_1) ?_
  intro p e s m below meth c T0 X0 hx hby hml hret hlk hown hnm hZ e0
  rw [ef_11]
  have N0 := Fr.nil n0
  show Go p e below s _ _ _ (T0.setTop (mkF m 0 #[.val (.ref x0), .unset] []))
  refine g_aloadN X0 hx 1 (hb hby d11_0) rfl rfl rfl ?_
  show Go p e below s _ _ _ (T0.setTop (mkF m 1 #[.val (.ref x0), .unset] [(.ref x0)]))
  refine g_getF X0 hx hZ hown (hw _ (List.mem_of_getElem? (i := 10) rfl)) Via.refl e0 P1 4 (hb hby d11_1) rfl ?_
  intro T1 X1 e1
  show Go p e below s _ _ _ (T1.setTop (mkF m 4 #[.val (.ref x0), .unset] [(.ref a1)]))
  refine g_iconst X1 hx (0 : Int32) 5 (hb hby d11_4) rfl rfl ?_
  show Go p e below s _ _ _ (T1.setTop (mkF m 5 #[.val (.ref x0), .unset] [(.int (0 : Int32)), (.ref a1)]))
  refine g_iaload X1 hx hZ e1 P5 0 rfl (by decide) 6 (hb hby d11_5) rfl ?_
  show Go p e below s _ _ _ (T1.setTop (mkF m 6 #[.val (.ref x0), .unset] [(.int (H 0))]))
  refine g_istoreN X1 hx #[.val (.ref x0), .val (.int (H 0))] 7 (hb hby d11_6) rfl rfl ?_
  show Go p e below s _ _ _ (T1.setTop (mkF m 7 #[.val (.ref x0), .val (.int (H 0))] []))
  refine g_aloadN X1 hx 8 (hb hby d11_7) rfl rfl rfl ?_
  show Go p e below s _ _ _ (T1.setTop (mkF m 8 #[.val (.ref x0), .val (.int (H 0))] [(.ref x0)]))
  refine g_getF X1 hx hZ hown (hw _ (List.mem_of_getElem? (i := 12) rfl)) Via.refl e1 P2 11 (hb hby d11_8) rfl ?_
  intro T3 X3 e3
  show Go p e below s _ _ _ (T3.setTop (mkF m 11 #[.val (.ref x0), .val (.int (H 0))] [(.ref a2)]))
  refine g_iloadN X3 hx 12 (hb hby d11_11) rfl rfl ?_
  show Go p e below s _ _ _ (T3.setTop (mkF m 12 #[.val (.ref x0), .val (.int (H 0))] [(.int (H 0)), (.ref a2)]))
  refine g_iconst X3 hx (-1 : Int32) 13 (hb hby d11_12) rfl rfl ?_
  show Go p e below s _ _ _ (T3.setTop (mkF m 13 #[.val (.ref x0), .val (.int (H 0))] [(.int (-1 : Int32)), (.int (H 0)), (.ref a2)]))
  refine g_iastore X3 hx hZ e3 P6 ((H 0).toInt.toNat) (own_i3 (hH 0 (by decide))).1 (own_i3 (hH 0 (by decide))).2 14 (hb hby d11_13) rfl ?_
  intro T4 h4 X4 e4 W4 A4
  have K4 := (Keep.refl h0 [a1, a2, x0]).wr W4 (Or.inl (List.mem_of_getElem? (i := 1) rfl))
  have N4 := Fr.snoc X4 N0 P9
  have k4_0 := P0.wr W4
  have k4_1 := P1.other W4 (Or.inl P13)
  have k4_2 := P2.other W4 (Or.inl P13)
  have k4_3 := P3.other W4 (Or.inl P13)
  have k4_4 := P4.other W4 (Or.inl P13)
  have k4_5 := P5.other W4 P15
  have k4_7 := P7.other W4 (Ne.symm P17)
  have Z4 : n0 ≤ h4.size := by rw [W4.size]; exact Z0
  show Go p e below s _ _ _ (T4.setTop (mkF m 14 #[.val (.ref x0), .val (.int (H 0))] []))
  refine g_aloadN X4 hx 15 (hb hby d11_14) rfl rfl rfl ?_
  show Go p e below s _ _ _ (T4.setTop (mkF m 15 #[.val (.ref x0), .val (.int (H 0))] [(.ref x0)]))
  refine g_dup X4 hx 16 (hb hby d11_15) rfl rfl ?_
  show Go p e below s _ _ _ (T4.setTop (mkF m 16 #[.val (.ref x0), .val (.int (H 0))] [(.ref x0), (.ref x0)]))
  refine g_getF X4 hx hZ hown (hw _ (List.mem_of_getElem? (i := 26) rfl)) Via.refl e4 k4_4 19 (hb hby d11_16) rfl ?_
  intro T5 X5 e5
  show Go p e below s _ _ _ (T5.setTop (mkF m 19 #[.val (.ref x0), .val (.int (H 0))] [(.int sz), (.ref x0)]))
  refine g_iconst X5 hx (1 : Int32) 20 (hb hby d11_19) rfl rfl ?_
  show Go p e below s _ _ _ (T5.setTop (mkF m 20 #[.val (.ref x0), .val (.int (H 0))] [(.int (1 : Int32)), (.int sz), (.ref x0)]))
  refine g_isub X5 hx 21 (hb hby d11_20) rfl ?_
  show Go p e below s _ _ _ (T5.setTop (mkF m 21 #[.val (.ref x0), .val (.int (H 0))] [(.int (sz - (1 : Int32))), (.ref x0)]))
  refine g_putF X5 hx hZ hown (hw _ (List.mem_of_getElem? (i := 26) rfl)) Via.refl e5 k4_4 k4_0 (Or.inl (hw _ (List.mem_of_getElem? (i := 27) rfl))) (hw _ (List.mem_of_getElem? (i := 1) rfl)) (ty := .int) (by decide) rfl rfl 24 (hb hby d11_21) rfl ?_
  intro T6 h6 X6 e6 W6
  have K6 := K4.wr W6 (Or.inl (List.mem_of_getElem? (i := 2) rfl))
  have N6 := Fr.snoc X6 N4 P11
  have k6_0 := k4_0.wr W6
  have k6_1 := k4_1.other W6 (Or.inr (slot_ne (Or.inr (hw _ (List.mem_of_getElem? (i := 11) rfl))) (Or.inl (hw _ (List.mem_of_getElem? (i := 27) rfl))) (by decide) (t := (.array .int)) (t' := .int) (by decide) (by decide)))
  have k6_2 := k4_2.other W6 (Or.inr (slot_ne (Or.inr (hw _ (List.mem_of_getElem? (i := 13) rfl))) (Or.inl (hw _ (List.mem_of_getElem? (i := 27) rfl))) (by decide) (t := (.array .int)) (t' := .int) (by decide) (by decide)))
  have k6_3 := k4_3.other W6 (Or.inr (slot_ne (Or.inr (hw _ (List.mem_of_getElem? (i := 20) rfl))) (Or.inl (hw _ (List.mem_of_getElem? (i := 27) rfl))) (by decide) (t := (.array .long)) (t' := .int) (by decide) (by decide)))
  have k6_5 := k4_5.other W6 (Ne.symm P12)
  have k6_6 := k4_7.other W6 (Ne.symm P14)
  have k6_17 := A4.other W6 (Ne.symm P13)
  have Z6 : n0 ≤ h6.size := by rw [W6.size]; exact Z4
  have F6 := k4_4.same W6
  show Go p e below s _ _ _ (T6.setTop (mkF m 24 #[.val (.ref x0), .val (.int (H 0))] []))
  refine g_aloadN X6 hx 25 (hb hby d11_24) rfl rfl rfl ?_
  show Go p e below s _ _ _ (T6.setTop (mkF m 25 #[.val (.ref x0), .val (.int (H 0))] [(.ref x0)]))
  refine g_getF X6 hx hZ hown (hw _ (List.mem_of_getElem? (i := 26) rfl)) Via.refl e6 F6 28 (hb hby d11_25) rfl ?_
  intro T7 X7 e7
  show Go p e below s _ _ _ (T7.setTop (mkF m 28 #[.val (.ref x0), .val (.int (H 0))] [(.int (sz - (1 : Int32)))]))
  refine g_if0_le X7 hx 50 31 (hb hby d11_28) (by decide) rfl rfl (fun h8 => ?_) (fun h8 => ?_)
  · show Go p e below s _ _ _ (T7.setTop (mkF m 31 #[.val (.ref x0), .val (.int (H 0))] []))
    refine g_aloadN X7 hx 32 (hb hby d11_31) rfl rfl rfl ?_
    show Go p e below s _ _ _ (T7.setTop (mkF m 32 #[.val (.ref x0), .val (.int (H 0))] [(.ref x0)]))
    refine g_aloadN X7 hx 33 (hb hby d11_32) rfl rfl rfl ?_
    show Go p e below s _ _ _ (T7.setTop (mkF m 33 #[.val (.ref x0), .val (.int (H 0))] [(.ref x0), (.ref x0)]))
    refine g_getF X7 hx hZ hown (hw _ (List.mem_of_getElem? (i := 10) rfl)) Via.refl e7 k6_1 36 (hb hby d11_33) rfl ?_
    intro T9 X9 e9
    show Go p e below s _ _ _ (T9.setTop (mkF m 36 #[.val (.ref x0), .val (.int (H 0))] [(.ref a1), (.ref x0)]))
    refine g_aloadN X9 hx 37 (hb hby d11_36) rfl rfl rfl ?_
    show Go p e below s _ _ _ (T9.setTop (mkF m 37 #[.val (.ref x0), .val (.int (H 0))] [(.ref x0), (.ref a1), (.ref x0)]))
    refine g_getF X9 hx hZ hown (hw _ (List.mem_of_getElem? (i := 26) rfl)) Via.refl e9 F6 40 (hb hby d11_37) rfl ?_
    intro T10 X10 e10
    show Go p e below s _ _ _ (T10.setTop (mkF m 40 #[.val (.ref x0), .val (.int (H 0))] [(.int (sz - (1 : Int32))), (.ref a1), (.ref x0)]))
    refine g_iaload X10 hx hZ e10 k6_5 (sn - 1) (own_m1 hs h1n hsn) (by omega) 41 (hb hby d11_40) rfl ?_
    show Go p e below s _ _ _ (T10.setTop (mkF m 41 #[.val (.ref x0), .val (.int (H 0))] [(.int (H (sn - 1))), (.ref x0)]))
    refine g_iconst X10 hx (0 : Int32) 42 (hb hby d11_41) rfl rfl ?_
    show Go p e below s _ _ _ (T10.setTop (mkF m 42 #[.val (.ref x0), .val (.int (H 0))] [(.int (0 : Int32)), (.int (H (sn - 1))), (.ref x0)]))
    refine g_callP X10 hx hZ hown (hw _ (List.mem_of_getElem? (i := 37) rfl)) (hw _ (List.mem_of_getElem? (i := 38) rfl)) (hw _ (List.mem_of_getElem? (i := 1) rfl)) (hw _ (List.mem_of_getElem? (i := 39) rfl)) (hw _ (List.mem_of_getElem? (i := 2) rfl)) (hw _ (List.mem_of_getElem? (i := 40) rfl)) (by decide) e10 x0 k6_0 (rm7 l Z a0 hw [] x0 (H (sn - 1)) (0 : Int32) a1 a2 H (upd P ((H 0).toInt.toNat) (-1 : Int32)) ((H (sn - 1)).toInt.toNat) 0 h6 n0 Z6 k6_1 k6_2 k6_5 k6_17 P8 P9 P12 P13 P15 ((own_i3 (hH (sn - 1) (by omega))).1 : (H (sn - 1)).toInt = ((H (sn - 1)).toInt.toNat)) ((own_i3 (hH (sn - 1) (by omega))).2 : ((H (sn - 1)).toInt.toNat) < 3) (rfl : (0 : Int32).toInt = 0) (by decide : 0 < 3)) [(.int (H (sn - 1))), (.int (0 : Int32))] [] 0 rfl (lenOf pd__28II_29V rfl) rfl (Nat.le_of_eq rfl) (by decide) (by decide) (by decide) (by decide) (by rw [hml]; rfl) (hb hby d11_42) ?_
    intro T12 L12 v12 X12 q12
    obtain ⟨rfl, N12, K12, p12_0, p12_1⟩ := q12
    have NN12 := Fr.app N6 N12
    have KK12 := K6.trans K12 (by intro x hx; simp only [List.mem_cons, List.not_mem_nil, or_false] at hx; rcases hx with rfl | rfl <;> first | exact (Or.inl (List.mem_of_getElem? (i := 0) rfl)) | exact (Or.inl (List.mem_of_getElem? (i := 1) rfl)))
    have k12_0 := k6_0.keep K12
    have k12_1 := k6_1.keep K12 (nm1 P12 (nm1 P13 nm0))
    have k12_2 := k6_2.keep K12 (nm1 P12 (nm1 P13 nm0))
    have k12_3 := k6_3.keep K12 (nm1 P12 (nm1 P13 nm0))
    have k12_5 := k6_6.keep K12 (nm1 (Ne.symm P16) (nm1 (Ne.symm P17) nm0))
    have k12_17 := F6.keep K12 (nm1 P12 (nm1 P13 nm0))
    have Z12 : n0 ≤ T12.heap.size := Nat.le_trans Z6 K12.1
    show Go p e below s _ _ _ (T12.setTop (mkF m 45 #[.val (.ref x0), .val (.int (H 0))] []))
    refine g_aloadN X12 hx 46 (hb hby d11_45) rfl rfl rfl ?_
    show Go p e below s _ _ _ (T12.setTop (mkF m 46 #[.val (.ref x0), .val (.int (H 0))] [(.ref x0)]))
    refine g_iconst X12 hx (0 : Int32) 47 (hb hby d11_46) rfl rfl ?_
    show Go p e below s _ _ _ (T12.setTop (mkF m 47 #[.val (.ref x0), .val (.int (H 0))] [(.int (0 : Int32)), (.ref x0)]))
    refine g_callP X12 hx hZ hown (hw _ (List.mem_of_getElem? (i := 45) rfl)) (hw _ (List.mem_of_getElem? (i := 46) rfl)) (hw _ (List.mem_of_getElem? (i := 1) rfl)) (hw _ (List.mem_of_getElem? (i := 47) rfl)) (hw _ (List.mem_of_getElem? (i := 2) rfl)) (hw _ (List.mem_of_getElem? (i := 48) rfl)) (by decide) rfl x0 k12_0 (rm9 l Z a0 hw [] x0 (0 : Int32) a1 a2 a3 (sz - (1 : Int32)) (upd H 0 (H (sn - 1))) (upd (upd P ((H 0).toInt.toNat) (-1 : Int32)) ((H (sn - 1)).toInt.toNat) (0 : Int32)) T 0 (sn - 1 : Nat) T12.heap n0 Z12 k12_0 k12_1 k12_2 k12_3 k12_17 p12_0 p12_1 k12_5 P8 P9 P12 P13 P14 P15 P16 P17 (rfl : (0 : Int32).toInt = 0) (by decide : 0 < 3) (own_m1 hs h1n hsn : (sz - (1 : Int32)).toInt = (sn - 1 : Nat)) (by omega : (sn - 1 : Nat) ≤ 3) (own_upd3 hH (hH (sn - 1) (by omega)) : ∀ i, i < 3 → own_3 ((upd H 0 (H (sn - 1))) i))) [(.int (0 : Int32))] [] 0 rfl (lenOf pd__28I_29V rfl) rfl (Nat.le_of_eq rfl) (by decide) (by decide) (by decide) (by decide) (by rw [hml]; rfl) (hb hby d11_47) ?_
    intro T13 L13 v13 X13 q13
    obtain ⟨rfl, N13, K13, p13_0, p13_1⟩ := q13
    have NN13 := Fr.app NN12 N13
    have KK13 := KK12.trans K13 (by intro x hx; simp only [List.mem_cons, List.not_mem_nil, or_false] at hx; rcases hx with rfl | rfl <;> first | exact (Or.inl (List.mem_of_getElem? (i := 0) rfl)) | exact (Or.inl (List.mem_of_getElem? (i := 1) rfl)))
    have k13_0 := k12_0.keep K13
    have k13_1 := k12_1.keep K13 (nm1 P12 (nm1 P13 nm0))
    have k13_2 := k12_2.keep K13 (nm1 P12 (nm1 P13 nm0))
    have k13_3 := k12_3.keep K13 (nm1 P12 (nm1 P13 nm0))
    have k13_4 := k12_5.keep K13 (nm1 (Ne.symm P16) (nm1 (Ne.symm P17) nm0))
    have k13_15 := k12_17.keep K13 (nm1 P12 (nm1 P13 nm0))
    have Z13 : n0 ≤ T13.heap.size := Nat.le_trans Z12 K13.1
    show Go p e below s _ _ _ (T13.setTop (mkF m 50 #[.val (.ref x0), .val (.int (H 0))] []))
    refine g_iloadN X13 hx 51 (hb hby d11_50) rfl rfl ?_
    show Go p e below s _ _ _ (T13.setTop (mkF m 51 #[.val (.ref x0), .val (.int (H 0))] [(.int (H 0))]))
    exact g_retI X13 hx hret hlk (hb hby d11_51) (by decide) (by decide) ⟨rfl, NN13, KK13, k13_1, k13_2, k13_3, k13_15, (by rw [g11_a1, if_pos h8]; exact p13_0), (by rw [g11_a2, if_pos h8]; exact p13_1)⟩
  · show Go p e below s _ _ _ (T7.setTop (mkF m 50 #[.val (.ref x0), .val (.int (H 0))] []))
    refine g_iloadN X7 hx 51 (hb hby d11_50) rfl rfl ?_
    show Go p e below s _ _ _ (T7.setTop (mkF m 51 #[.val (.ref x0), .val (.int (H 0))] [(.int (H 0))]))
    exact g_retI X7 hx hret hlk (hb hby d11_51) (by decide) (by decide) (by rw [e7]; exact ⟨rfl, N6, K6, k6_1, k6_2, k6_3, F6, (by rw [g11_a1, if_neg h8]; exact k6_5), (by rw [g11_a2, if_neg h8]; exact k6_17)⟩)
def own_inv (H P : Nat → Int32) (n : Nat) (S : Nat → Bool) : Prop := (∀ i, i < 3 → own_3 (H i)) ∧ (∀ i, i < n → S (H i).toInt.toNat = true) ∧ (∀ c, c < 3 → S c = false → P c = -1) ∧ (∀ c, c < 3 → S c = true → 0 ≤ (P c).toInt ∧ (P c).toInt < n)
theorem own_put {H P : Nat → Int32} {n : Nat} {S : Nat → Bool} (v : own_inv H P n S) {pn : Nat} {x y : Int32} (hx : own_3 x) (hs : S x.toInt.toNat = true) (hp : y.toInt = pn) (hn : pn < n) : own_inv (upd H pn x) (upd P x.toInt.toNat y) n S := by
  obtain ⟨v1, v2, v3, v4⟩ := v
  refine ⟨own_upd3 v1 hx, ?_, ?_, ?_⟩
  · intro i hi; unfold upd; split
    · exact hs
    · exact v2 i hi
  · intro c hc h; unfold upd; split
    · rename_i q; subst q; rw [hs] at h; cases h
    · exact v3 c hc h
  · intro c hc h; unfold upd; split
    · omega
    · exact v4 c hc h
theorem own_u8 {H P : Nat → Int32} {n xn : Nat} {S : Nat → Bool} {x : Int32} (T : Nat → Int64) (v : own_inv H P n S) (hx : x.toInt = xn) (hn : xn < n) (h3 : n ≤ 3) : own_inv (g8_a1 x H T xn) (g8_a2 x H P T xn) n S := by
  have a := v.1 xn (by omega); have a' := v.2.1 xn hn
  unfold g8_a1 g8_a2
  split
  · rename_i q
    split
    · have b := v.1 0 (by omega); have b' := v.2.1 0 (by omega)
      exact own_put (own_put v b b' hx hn) a a' (own_half (by omega) q) (by omega)
    · exact own_put v a a' hx hn
  · exact own_put v a a' hx hn
theorem own_u9 {H P : Nat → Int32} {n xn : Nat} {S : Nat → Bool} {x sz : Int32} (T : Nat → Int64) (v : own_inv H P n S) (hx : x.toInt = xn) (hn : xn < n) (hs : sz.toInt = n) (h3 : n ≤ 3) : own_inv (g9_a1 x sz H T xn) (g9_a2 x sz H P T xn) n S := by
  have a := v.1 xn (by omega); have a' := v.2.1 xn hn
  unfold g9_a1 g9_a2
  split
  · rename_i q
    split
    · have l := (own_ecl (by omega) hs h3 q).1
      have l2 := (own_i3 l).1
      have l3 : (f10 x sz H T).toInt.toNat < n := by rw [Int32.lt_iff_toInt_lt] at q; omega
      have b := v.1 (f10 x sz H T).toInt.toNat (by omega); have b' := v.2.1 (f10 x sz H T).toInt.toNat l3
      exact own_put (own_put v b b' hx hn) a a' l2 l3
    · exact own_put v a a' hx hn
  · exact own_put v a a' hx hn
theorem own_89 {H P : Nat → Int32} {n xn : Nat} {S : Nat → Bool} {x sz : Int32} (T : Nat → Int64) (v : own_inv H P n S) (hx : x.toInt = xn) (hn : xn < n) (hs : sz.toInt = n) (h3 : n ≤ 3) :
    own_inv (g9_a1 (f8 x H T xn) sz (g8_a1 x H T xn) T (f8 x H T xn).toInt.toNat) (g9_a2 (f8 x H T xn) sz (g8_a1 x H T xn) (g8_a2 x H P T xn) T (f8 x H T xn).toInt.toNat) n S := by
  have f := own_f8 H T hx (by omega)
  have f1 := own_i3 f.1
  exact own_u9 T (own_u8 T v hx hn h3) f1.1 (by omega) hs h3
theorem own_neg {x : Int32} (h : x = -1) : x < 0 := by rw [h]; decide
theorem own_nn {x : Int32} (h : 0 ≤ x.toInt) : ¬ x < 0 := by
  rw [Int32.lt_iff_toInt_lt]
  have e : (0 : Int32).toInt = 0 := rfl
  omega
def own_ins (S : Nat → Bool) (k : Nat) (c : Nat) : Bool := if c = k then true else S c
theorem own_new {H P : Nat → Int32} {n cn : Nat} {S : Nat → Bool} {x sz : Int32} (t : Int64) (T : Nat → Int64) (v : own_inv H P n S) (hs : sz.toInt = n) (h3 : n < 3) (hx : x.toInt = cn) (hc : cn < 3) (hS : S cn = false) :
    own_inv (g6_a1 x t sz H P T cn n) (g6_a2 x t sz H P T cn n) (n + 1) (own_ins S cn) ∧ (own_sz (P cn) sz).toInt = ((n + 1 : Nat) : Int) := by
  have hp := own_neg (v.2.2.1 cn hc hS)
  have hx0 : x.toInt.toNat = cn := by omega
  refine ⟨?_, ?_⟩
  · have v' : own_inv (upd H n x) (upd P cn sz) (n + 1) (own_ins S cn) := by
      obtain ⟨v1, v2, v3, v4⟩ := v
      refine ⟨own_upd3 v1 (own_x3 hx hc), ?_, ?_, ?_⟩
      · intro i hi
        by_cases q : i = n
        · rw [show upd H n x i = x from if_pos q, hx0]; exact if_pos rfl
        · rw [show upd H n x i = H i from if_neg q]; unfold own_ins; split
          · rfl
          · exact v2 i (by omega)
      · intro c h' h; unfold own_ins at h; unfold upd; split
        · rename_i q; rw [if_pos q] at h; cases h
        · rename_i q; rw [if_neg q] at h; exact v3 c h' h
      · intro c h' h; unfold own_ins at h; unfold upd; split
        · omega
        · rename_i q; rw [if_neg q] at h; have := v4 c h' h; omega
    unfold g6_a1 g6_a2
    rw [if_pos hp, if_pos hp]
    exact own_89 (upd T cn t) v' hs (by omega) (own_s1 hs h3) (by omega)
  · rw [own_sz, if_pos hp]; exact own_s1 hs h3
theorem own_old {H P : Nat → Int32} {n cn : Nat} {S : Nat → Bool} {x sz : Int32} (t : Int64) (T : Nat → Int64) (v : own_inv H P n S) (hs : sz.toInt = n) (h3 : n ≤ 3) (hx : x.toInt = cn) (hc : cn < 3) (hS : S cn = true) :
    own_inv (g6_a1 x t sz H P T cn n) (g6_a2 x t sz H P T cn n) n S ∧ (own_sz (P cn) sz).toInt = n := by
  have q := v.2.2.2 cn hc hS
  have hp := own_nn q.1
  refine ⟨?_, ?_⟩
  · unfold g6_a1 g6_a2
    rw [if_neg hp, if_neg hp]
    exact own_89 (upd T cn t) v (by omega) (by omega) hs h3
  · rw [own_sz, if_neg hp]; exact hs
theorem own_cong {H P : Nat → Int32} {n : Nat} {S S' : Nat → Bool} (v : own_inv H P n S) (h3 : n ≤ 3) (h : ∀ c, c < 3 → S c = S' c) : own_inv H P n S' := by
  obtain ⟨v1, v2, v3, v4⟩ := v
  refine ⟨v1, ?_, ?_, ?_⟩
  · intro i hi; rw [← h _ (own_i3 (v1 i (by omega))).2]; exact v2 i hi
  · intro c hc q; rw [← h c hc] at q; exact v3 c hc q
  · intro c hc q; rw [← h c hc] at q; exact v4 c hc q
def v0_h0 (x0 : Int32) : Int32 := if (x0 &&& (1 : Int32)) = (0 : Int32) then (0 : Int32) else (1 : Int32)
def v0_h1 (x0 : Int32) : Int32 := if (x0 &&& (2 : Int32)) = (0 : Int32) then (0 : Int32) else (1 : Int32)
def v0_h2 (x0 : Int32) : Int32 := if (x0 &&& (4 : Int32)) = (0 : Int32) then (0 : Int32) else (1 : Int32)
def v0_cnt (x0 : Int32) : Int32 := (((if (v0_h0 x0) = (0 : Int32) then (0 : Int32) else (1 : Int32)) + (if (v0_h1 x0) = (0 : Int32) then (0 : Int32) else (1 : Int32))) + (if (v0_h2 x0) = (0 : Int32) then (0 : Int32) else (1 : Int32)))
def v0_a (x1 : Int32) : Int32 := (x1 &&& (3 : Int32))
def v0_r (x0 x5 : Int32) : Int32 := (f5 (x5 &&& (3 : Int32)) (v0_cnt x0))
def own_bit (x0 : Int32) (c : Nat) : Bool := if c = 0 then decide (¬ v0_h0 x0 = 0) else if c = 1 then decide (¬ v0_h1 x0 = 0) else decide (¬ v0_h2 x0 = 0)
def own_St (x0 : Int32) (k c : Nat) : Bool := decide (c < k) && own_bit x0 c
def own_nt (x0 : Int32) : Nat → Nat
  | 0 => 0
  | k + 1 => own_nt x0 k + (if own_bit x0 k = true then 1 else 0)
theorem own_ntl (x0 : Int32) (k : Nat) : own_nt x0 k ≤ k := by
  induction k with
  | zero => exact Nat.le_refl _
  | succ k ih => unfold own_nt; split <;> omega
def own_st (x0 : Int32) (k : Nat) (H P : Nat → Int32) (sz : Int32) : Prop := own_inv H P (own_nt x0 k) (own_St x0 k) ∧ sz.toInt = own_nt x0 k
theorem own_skip {x0 : Int32} {k : Nat} {H P : Nat → Int32} {sz : Int32} (hk : k < 3) (v : own_st x0 k H P sz) (h : own_bit x0 k = false) : own_st x0 (k + 1) H P sz := by
  have e : own_nt x0 (k + 1) = own_nt x0 k := by show own_nt x0 k + _ = _; rw [h]; rfl
  have l := own_ntl x0 k
  unfold own_st; rw [e]
  refine ⟨own_cong v.1 (by omega) ?_, v.2⟩
  intro c hc
  unfold own_St
  by_cases q : c = k
  · subst q; rw [h]; simp
  · by_cases q' : c < k
    · simp [q', show c < k + 1 by omega]
    · simp [q', show ¬ c < k + 1 by omega]
theorem own_take {x0 : Int32} {k : Nat} {H P : Nat → Int32} {x sz : Int32} (t : Int64) (T : Nat → Int64) (hk : k < 3) (hx : x.toInt = k) (v : own_st x0 k H P sz) (h : own_bit x0 k = true) : own_st x0 (k + 1) (g6_a1 x t sz H P T k (own_nt x0 k)) (g6_a2 x t sz H P T k (own_nt x0 k)) (own_sz (P k) sz) := by
  have e : own_nt x0 (k + 1) = own_nt x0 k + 1 := by show own_nt x0 k + _ = _; rw [h]; rfl
  have l := own_ntl x0 k
  have z : own_St x0 k k = false := by unfold own_St; simp
  have q := own_new t T v.1 v.2 (by omega) hx hk z
  unfold own_st; rw [e]
  refine ⟨own_cong q.1 (by omega) ?_, q.2⟩
  intro c hc
  unfold own_ins own_St
  by_cases q : c = k
  · subst q; rw [h]; simp
  · by_cases q' : c < k
    · simp [q, q', show c < k + 1 by omega]
    · simp [q, q', show ¬ c < k + 1 by omega]
theorem own_again {x0 : Int32} {k : Nat} {H P : Nat → Int32} {x sz : Int32} (t : Int64) (T : Nat → Int64) (hk : k < 3) (hx : x.toInt = k) (v : own_st x0 3 H P sz) (h : own_bit x0 k = true) : own_st x0 3 (g6_a1 x t sz H P T k (own_nt x0 3)) (g6_a2 x t sz H P T k (own_nt x0 3)) (own_sz (P k) sz) :=
  own_old t T v.1 v.2 (own_ntl x0 3) hx hk (by unfold own_St; simp [hk, h])
theorem own_tn {x0 : Int32} {k : Nat} {H P : Nat → Int32} {sz : Int32} (hk : k < 3) (v : own_st x0 k H P sz) : (P k < 0 → own_nt x0 k < 3) ∧ (¬ P k < 0 → own_3 (P k)) :=
  ⟨fun _ => Nat.lt_of_le_of_lt (own_ntl x0 k) hk, fun q => absurd (own_neg (v.1.2.2.1 k hk (by unfold own_St; simp))) q⟩
theorem own_ta {x0 : Int32} {k : Nat} {H P : Nat → Int32} {sz : Int32} (hk : k < 3) (v : own_st x0 3 H P sz) (h : own_bit x0 k = true) : (P k < 0 → own_nt x0 3 < 3) ∧ (¬ P k < 0 → own_3 (P k)) := by
  have q := v.1.2.2.2 k hk (by unfold own_St; simp [hk, h])
  have l := own_ntl x0 3
  exact ⟨fun z => absurd z (own_nn q.1), fun _ => ⟨q.1, by omega⟩⟩
theorem own_first (x0 : Int32) : own_st x0 0 (fun _ => (0 : Int32)) (upd (upd (upd (fun _ => (0 : Int32)) 0 (-1 : Int32)) 1 (-1 : Int32)) 2 (-1 : Int32)) (0 : Int32) := by
  refine ⟨⟨fun i _ => by show own_3 (0 : Int32); unfold own_3; decide, fun i hi => absurd hi (Nat.not_lt_zero i), ?_, ?_⟩, rfl⟩
  · intro c hc _
    have : c = 0 ∨ c = 1 ∨ c = 2 := by omega
    rcases this with rfl | rfl | rfl <;> rfl
  · intro c _ h; unfold own_St at h; simp at h
theorem own_b0t {x0 : Int32} (h : ¬ v0_h0 x0 = 0) : own_bit x0 0 = true := by simp [own_bit, h]
theorem own_b0f {x0 : Int32} (h : v0_h0 x0 = 0) : own_bit x0 0 = false := by simp [own_bit, h]
theorem own_b1t {x0 : Int32} (h : ¬ v0_h1 x0 = 0) : own_bit x0 1 = true := by simp [own_bit, h]
theorem own_b1f {x0 : Int32} (h : v0_h1 x0 = 0) : own_bit x0 1 = false := by simp [own_bit, h]
theorem own_b2t {x0 : Int32} (h : ¬ v0_h2 x0 = 0) : own_bit x0 2 = true := by simp [own_bit, h]
theorem own_b2f {x0 : Int32} (h : v0_h2 x0 = 0) : own_bit x0 2 = false := by simp [own_bit, h]
theorem own_cnt (x0 : Int32) : (v0_cnt x0).toInt = own_nt x0 3 := by
  unfold v0_cnt own_nt own_nt own_nt own_nt own_bit
  by_cases a : v0_h0 x0 = 0 <;> by_cases b : v0_h1 x0 = 0 <;> by_cases d : v0_h2 x0 = 0 <;> simp [a, b, d] <;> decide
def own_R (x0 x5 : Int32) : Nat := (v0_r x0 x5).toInt.toNat
theorem own_r (x0 x5 : Int32) : (v0_r x0 x5).toInt = own_R x0 x5 ∧ own_R x0 x5 ≤ own_nt x0 3 := by
  have k := own_cnt x0
  have l := own_ntl x0 3
  have z := c_and x5 3 (by decide); have e3 : (3 : Int32).toInt = 3 := rfl
  unfold own_R v0_r f5
  split
  · omega
  · rename_i q; rw [Int32.lt_iff_toInt_lt] at q; omega
def own_rem (x0 x5 : Int32) (k : Nat) : Nat := own_nt x0 3 - min (own_R x0 x5) k
theorem own_r0 (x0 x5 : Int32) : own_rem x0 x5 0 = own_nt x0 3 := by unfold own_rem; omega
theorem own_rl (x0 x5 : Int32) (k : Nat) : own_rem x0 x5 k ≤ 3 := by have := own_ntl x0 3; unfold own_rem; omega
theorem own_rs {x0 x5 kk : Int32} {k : Nat} (hk : kk.toInt = ((k + 1 : Nat) : Int)) (h : v0_r x0 x5 < kk) : own_rem x0 x5 (k + 1) = own_rem x0 x5 k := by
  have a := own_r x0 x5; rw [Int32.lt_iff_toInt_lt] at h; unfold own_rem; omega
theorem own_rt {x0 x5 kk : Int32} {k : Nat} (hk : kk.toInt = ((k + 1 : Nat) : Int)) (h : ¬ v0_r x0 x5 < kk) : 1 ≤ own_rem x0 x5 k ∧ own_rem x0 x5 (k + 1) = own_rem x0 x5 k - 1 := by
  have a := own_r x0 x5; rw [Int32.lt_iff_toInt_lt] at h; unfold own_rem; omega
theorem own_g11 {sz : Int32} {n : Nat} {H : Nat → Int32} (P : Nat → Int32) (T : Nat → Int64) (hs : sz.toInt = n) (h1 : 1 ≤ n) (hm : n ≤ 3) (h : ∀ i, i < 3 → own_3 (H i)) : ∀ i, i < 3 → own_3 (g11_a1 sz H P T n i) := by
  unfold g11_a1
  split
  · exact own_g9 T (by decide) (own_m1 hs h1 hm) (by omega) (by decide) (own_upd3 h (h _ (by omega)))
  · exact h
theorem own_f41 {sz x : Int32} {n : Nat} (hs : sz.toInt = n) (hx : x.toInt = n) (h : x = 0) : f4 sz = 1 := by
  have e : (0 : Int32).toInt = 0 := rfl
  have : sz = 0 := Int32.toInt_inj.mp (by rw [h] at hx; omega)
  rw [f4, if_pos this]
theorem own_f40 {sz x : Int32} {n : Nat} (hs : sz.toInt = n) (hx : x.toInt = n) (h : ¬ x = 0) : f4 sz = 0 := by
  have : ¬ sz = 0 := fun q => h (Int32.toInt_inj.mp (by rw [q] at hs; omega))
  rw [f4, if_neg this]
theorem own_dif (x0 x5 : Int32) : (v0_cnt x0 - v0_r x0 x5).toInt = own_rem x0 x5 3 := by
  have k := own_cnt x0
  have l := own_ntl x0 3
  have a := own_r x0 x5
  have d := c_isub (v0_cnt x0) (v0_r x0 x5)
  have r := rng32 (v0_cnt x0 - v0_r x0 x5)
  unfold own_rem; omega

def Q0 (Z : State) (x0 : Int32) (x1 : Int32) (x2 : Int64) (x3 : Int64) (x4 : Int64) (x5 : Int32) (h0 : Heap) (n0 : Nat) (v : Option Value) (h : Heap) (L : List Loc) : Prop := v = some (.int (1 : Int32)) ∧ Fr n0 L
theorem pd__28_29Z : parseMethodDescriptor "()Z" = some ⟨[], some .boolean⟩ := by decide +kernel
theorem pn_0 : plainName "com/example/weir/weir/cli/DeadlinesIsEmptyPinLaw" = true := by first | (simp [plainName, overriddenIn]; done) | decide +kernel
set_option maxRecDepth 65536 in
set_option maxHeartbeats 40000000 in
theorem sg0_265 (l : Launch) (Z : State) (a0 : Array Value) (hw : ∀ d ∈ tables_1, d.before a0 Z = true) {p : Program} {e : Env} {s : State} {m : MethodId} {args : Array Value} {below : List Frame} {meth : Method} {c : Code} (hx : p.tables.exec = Jvm.exec) (hby : c.code = code) (hml : c.maxLocals = maxLocals) (hret : meth.sig.returnType = ret) (hlk : meth.locks = false) (hown : s.vm.findClass "com/example/weir/weir/cli/DeadlinesIsEmptyPinLaw" = some m.cls) (hnm : meth.name = "law") (hZ : Z.Warmed39 s.vm) (x0 : Int32) (x1 : Int32) (x2 : Int64) (x3 : Int64) (x4 : Int64) (x5 : Int32) (h0 : Heap) (n0 : Nat) : ∀  (dd : Addr) (a1 : Addr) (a2 : Addr) (a3 : Addr) (sz : Int32) (H : Nat → Int32) (P : Nat → Int32) (T : Nat → Int64) (T0 : State) (locs : List Loc) (hS : Heap), Stand p l e room_1 s m args below meth c T0 locs 4 13 → T0.heap = hS → n0 ≤ hS.size → Fr n0 locs → Exa Z hS dd "com/example/weir/weir/cli/Deadlines" → Fld Z hS dd "com/example/weir/weir/cli/Deadlines" "heap" "[I" (.ref a1) → Fld Z hS dd "com/example/weir/weir/cli/Deadlines" "places" "[I" (.ref a2) → Fld Z hS dd "com/example/weir/weir/cli/Deadlines" "times" "[J" (.ref a3) → Fld Z hS dd "com/example/weir/weir/cli/Deadlines" "size" "I" (.int sz) → AI Z hS a1 3 H → AI Z hS a2 3 P → AJ Z hS a3 3 T → n0 ≤ a1 → n0 ≤ a2 → n0 ≤ a3 → n0 ≤ dd → dd ≠ a1 → dd ≠ a2 → dd ≠ a3 → a1 ≠ a2 → a1 ≠ a3 → a2 ≠ a3 → (∀ i, i < 3 → own_3 (H i)) → (sz.toInt = own_rem x0 x5 3) → Go p e below s (Q0 Z x0 x1 x2 x3 x4 x5 h0 n0) room_1.cells room_1.slots (T0.setTop (mkF m 265 #[.val (.int x0), .val (.int x1), .val (.long x2), .second, .val (.long x3), .second, .val (.long x4), .second, .val (.int x5), .val (.ref dd), .val (.int (1 : Int32)), .val (.int (v0_h0 x0)), .val (.int (v0_h1 x0)), .val (.int (v0_h2 x0)), .val (.int (v0_cnt x0)), .val (.int (v0_a x1)), .val (.int (v0_r x0 x5))] [])) := by
  intro dd a1 a2 a3 sz H P T T0 locs hS X0 e0 Z0 N0 P0 P1 P2 P3 P4 P5 P6 P7 P8 P9 P10 P11 P12 P13 P14 P15 P16 P17 hH hsz
  refine g_iload X0 hx 267 (hb hby at_265) rfl rfl ?_
  show Go p e below s _ _ _ (T0.setTop (mkF m 267 #[.val (.int x0), .val (.int x1), .val (.long x2), .second, .val (.long x3), .second, .val (.long x4), .second, .val (.int x5), .val (.ref dd), .val (.int (1 : Int32)), .val (.int (v0_h0 x0)), .val (.int (v0_h1 x0)), .val (.int (v0_h2 x0)), .val (.int (v0_cnt x0)), .val (.int (v0_a x1)), .val (.int (v0_r x0 x5))] [(.int (1 : Int32))]))
  have h1 : ¬ ((1 : Int32) = (0 : Int32)) := by decide
  refine g_if0_eq X0 hx 295 270 (hb hby at_267) (by decide) rfl rfl (fun q => absurd q h1) (fun _ => ?_)
  show Go p e below s _ _ _ (T0.setTop (mkF m 270 #[.val (.int x0), .val (.int x1), .val (.long x2), .second, .val (.long x3), .second, .val (.long x4), .second, .val (.int x5), .val (.ref dd), .val (.int (1 : Int32)), .val (.int (v0_h0 x0)), .val (.int (v0_h1 x0)), .val (.int (v0_h2 x0)), .val (.int (v0_cnt x0)), .val (.int (v0_a x1)), .val (.int (v0_r x0 x5))] []))
  refine g_aload X0 hx 272 (hb hby at_270) rfl rfl rfl ?_
  show Go p e below s _ _ _ (T0.setTop (mkF m 272 #[.val (.int x0), .val (.int x1), .val (.long x2), .second, .val (.long x3), .second, .val (.long x4), .second, .val (.int x5), .val (.ref dd), .val (.int (1 : Int32)), .val (.int (v0_h0 x0)), .val (.int (v0_h1 x0)), .val (.int (v0_h2 x0)), .val (.int (v0_cnt x0)), .val (.int (v0_a x1)), .val (.int (v0_r x0 x5))] [(.ref dd)]))
  refine g_callV X0 hx hZ hown (hw _ (List.mem_of_getElem? (i := 21) rfl)) (hw _ (List.mem_of_getElem? (i := 22) rfl)) (hw _ (List.mem_of_getElem? (i := 24) rfl)) (hw _ (List.mem_of_getElem? (i := 23) rfl)) (hw _ (List.mem_of_getElem? (i := 2) rfl)) (hw _ (List.mem_of_getElem? (i := 25) rfl)) (by decide) e0 dd P0 (rm4 l Z a0 hw [] dd sz hS P4) [] [] 0 rfl (lenOf pd__28_29Z rfl) rfl (Nat.le_of_eq rfl) (by decide) (by decide) (by decide) (by decide) (by rw [hml]; rfl) (hb hby at_272) ?_
  intro T2 L2 v2 X2 q2
  obtain ⟨rfl, rfl, e2⟩ := q2
  have NS2 := Fr.app N0 (Fr.nil n0)
  show Go p e below s _ _ _ (T2.setTop (mkF m 275 #[.val (.int x0), .val (.int x1), .val (.long x2), .second, .val (.long x3), .second, .val (.long x4), .second, .val (.int x5), .val (.ref dd), .val (.int (1 : Int32)), .val (.int (v0_h0 x0)), .val (.int (v0_h1 x0)), .val (.int (v0_h2 x0)), .val (.int (v0_cnt x0)), .val (.int (v0_a x1)), .val (.int (v0_r x0 x5))] [(.int (f4 sz))]))
  refine g_iload X2 hx 277 (hb hby at_275) rfl rfl ?_
  show Go p e below s _ _ _ (T2.setTop (mkF m 277 #[.val (.int x0), .val (.int x1), .val (.long x2), .second, .val (.long x3), .second, .val (.long x4), .second, .val (.int x5), .val (.ref dd), .val (.int (1 : Int32)), .val (.int (v0_h0 x0)), .val (.int (v0_h1 x0)), .val (.int (v0_h2 x0)), .val (.int (v0_cnt x0)), .val (.int (v0_a x1)), .val (.int (v0_r x0 x5))] [(.int (v0_cnt x0)), (.int (f4 sz))]))
  refine g_iload X2 hx 279 (hb hby at_277) rfl rfl ?_
  show Go p e below s _ _ _ (T2.setTop (mkF m 279 #[.val (.int x0), .val (.int x1), .val (.long x2), .second, .val (.long x3), .second, .val (.long x4), .second, .val (.int x5), .val (.ref dd), .val (.int (1 : Int32)), .val (.int (v0_h0 x0)), .val (.int (v0_h1 x0)), .val (.int (v0_h2 x0)), .val (.int (v0_cnt x0)), .val (.int (v0_a x1)), .val (.int (v0_r x0 x5))] [(.int (v0_r x0 x5)), (.int (v0_cnt x0)), (.int (f4 sz))]))
  refine g_isub X2 hx 280 (hb hby at_279) rfl ?_
  show Go p e below s _ _ _ (T2.setTop (mkF m 280 #[.val (.int x0), .val (.int x1), .val (.long x2), .second, .val (.long x3), .second, .val (.long x4), .second, .val (.int x5), .val (.ref dd), .val (.int (1 : Int32)), .val (.int (v0_h0 x0)), .val (.int (v0_h1 x0)), .val (.int (v0_h2 x0)), .val (.int (v0_cnt x0)), .val (.int (v0_a x1)), .val (.int (v0_r x0 x5))] [(.int ((v0_cnt x0) - (v0_r x0 x5))), (.int (f4 sz))]))
  refine g_if0_ne X2 hx 287 283 (hb hby at_280) (by decide) rfl rfl (fun h3 => ?_) (fun h3 => ?_)
  · show Go p e below s _ _ _ (T2.setTop (mkF m 283 #[.val (.int x0), .val (.int x1), .val (.long x2), .second, .val (.long x3), .second, .val (.long x4), .second, .val (.int x5), .val (.ref dd), .val (.int (1 : Int32)), .val (.int (v0_h0 x0)), .val (.int (v0_h1 x0)), .val (.int (v0_h2 x0)), .val (.int (v0_cnt x0)), .val (.int (v0_a x1)), .val (.int (v0_r x0 x5))] [(.int (f4 sz))]))
    refine g_iconst X2 hx (1 : Int32) 284 (hb hby at_283) rfl rfl ?_
    show Go p e below s _ _ _ (T2.setTop (mkF m 284 #[.val (.int x0), .val (.int x1), .val (.long x2), .second, .val (.long x3), .second, .val (.long x4), .second, .val (.int x5), .val (.ref dd), .val (.int (1 : Int32)), .val (.int (v0_h0 x0)), .val (.int (v0_h1 x0)), .val (.int (v0_h2 x0)), .val (.int (v0_cnt x0)), .val (.int (v0_a x1)), .val (.int (v0_r x0 x5))] [(.int (1 : Int32)), (.int (f4 sz))]))
    refine g_goto X2 hx 288 (hb hby at_284) (by decide) rfl ?_
    show Go p e below s _ _ _ (T2.setTop (mkF m 288 #[.val (.int x0), .val (.int x1), .val (.long x2), .second, .val (.long x3), .second, .val (.long x4), .second, .val (.int x5), .val (.ref dd), .val (.int (1 : Int32)), .val (.int (v0_h0 x0)), .val (.int (v0_h1 x0)), .val (.int (v0_h2 x0)), .val (.int (v0_cnt x0)), .val (.int (v0_a x1)), .val (.int (v0_r x0 x5))] [(.int (1 : Int32)), (.int (f4 sz))]))
    have h4 : (f4 sz) = (1 : Int32) := own_f41 hsz (own_dif x0 x5) h3
    refine g_icmp_ne X2 hx 295 291 (hb hby at_288) (by decide) rfl rfl (fun _ => ?_) (fun q => absurd h4 q)
    show Go p e below s _ _ _ (T2.setTop (mkF m 291 #[.val (.int x0), .val (.int x1), .val (.long x2), .second, .val (.long x3), .second, .val (.long x4), .second, .val (.int x5), .val (.ref dd), .val (.int (1 : Int32)), .val (.int (v0_h0 x0)), .val (.int (v0_h1 x0)), .val (.int (v0_h2 x0)), .val (.int (v0_cnt x0)), .val (.int (v0_a x1)), .val (.int (v0_r x0 x5))] []))
    refine g_iconst X2 hx (1 : Int32) 292 (hb hby at_291) rfl rfl ?_
    show Go p e below s _ _ _ (T2.setTop (mkF m 292 #[.val (.int x0), .val (.int x1), .val (.long x2), .second, .val (.long x3), .second, .val (.long x4), .second, .val (.int x5), .val (.ref dd), .val (.int (1 : Int32)), .val (.int (v0_h0 x0)), .val (.int (v0_h1 x0)), .val (.int (v0_h2 x0)), .val (.int (v0_cnt x0)), .val (.int (v0_a x1)), .val (.int (v0_r x0 x5))] [(.int (1 : Int32))]))
    refine g_goto X2 hx 296 (hb hby at_292) (by decide) rfl ?_
    show Go p e below s _ _ _ (T2.setTop (mkF m 296 #[.val (.int x0), .val (.int x1), .val (.long x2), .second, .val (.long x3), .second, .val (.long x4), .second, .val (.int x5), .val (.ref dd), .val (.int (1 : Int32)), .val (.int (v0_h0 x0)), .val (.int (v0_h1 x0)), .val (.int (v0_h2 x0)), .val (.int (v0_cnt x0)), .val (.int (v0_a x1)), .val (.int (v0_r x0 x5))] [(.int (1 : Int32))]))
    refine g_istore X2 hx #[.val (.int x0), .val (.int x1), .val (.long x2), .second, .val (.long x3), .second, .val (.long x4), .second, .val (.int x5), .val (.ref dd), .val (.int (1 : Int32)), .val (.int (v0_h0 x0)), .val (.int (v0_h1 x0)), .val (.int (v0_h2 x0)), .val (.int (v0_cnt x0)), .val (.int (v0_a x1)), .val (.int (v0_r x0 x5))] 298 (hb hby at_296) rfl rfl ?_
    show Go p e below s _ _ _ (T2.setTop (mkF m 298 #[.val (.int x0), .val (.int x1), .val (.long x2), .second, .val (.long x3), .second, .val (.long x4), .second, .val (.int x5), .val (.ref dd), .val (.int (1 : Int32)), .val (.int (v0_h0 x0)), .val (.int (v0_h1 x0)), .val (.int (v0_h2 x0)), .val (.int (v0_cnt x0)), .val (.int (v0_a x1)), .val (.int (v0_r x0 x5))] []))
    refine g_iload X2 hx 300 (hb hby at_298) rfl rfl ?_
    show Go p e below s _ _ _ (T2.setTop (mkF m 300 #[.val (.int x0), .val (.int x1), .val (.long x2), .second, .val (.long x3), .second, .val (.long x4), .second, .val (.int x5), .val (.ref dd), .val (.int (1 : Int32)), .val (.int (v0_h0 x0)), .val (.int (v0_h1 x0)), .val (.int (v0_h2 x0)), .val (.int (v0_cnt x0)), .val (.int (v0_a x1)), .val (.int (v0_r x0 x5))] [(.int (1 : Int32))]))
    exact g_retN X2 hx hret (by simp) hlk (hb hby at_300) (by decide) (by decide) ⟨rfl, NS2⟩
  · show Go p e below s _ _ _ (T2.setTop (mkF m 287 #[.val (.int x0), .val (.int x1), .val (.long x2), .second, .val (.long x3), .second, .val (.long x4), .second, .val (.int x5), .val (.ref dd), .val (.int (1 : Int32)), .val (.int (v0_h0 x0)), .val (.int (v0_h1 x0)), .val (.int (v0_h2 x0)), .val (.int (v0_cnt x0)), .val (.int (v0_a x1)), .val (.int (v0_r x0 x5))] [(.int (f4 sz))]))
    refine g_iconst X2 hx (0 : Int32) 288 (hb hby at_287) rfl rfl ?_
    show Go p e below s _ _ _ (T2.setTop (mkF m 288 #[.val (.int x0), .val (.int x1), .val (.long x2), .second, .val (.long x3), .second, .val (.long x4), .second, .val (.int x5), .val (.ref dd), .val (.int (1 : Int32)), .val (.int (v0_h0 x0)), .val (.int (v0_h1 x0)), .val (.int (v0_h2 x0)), .val (.int (v0_cnt x0)), .val (.int (v0_a x1)), .val (.int (v0_r x0 x5))] [(.int (0 : Int32)), (.int (f4 sz))]))
    have h5 : (f4 sz) = (0 : Int32) := own_f40 hsz (own_dif x0 x5) h3
    refine g_icmp_ne X2 hx 295 291 (hb hby at_288) (by decide) rfl rfl (fun _ => ?_) (fun q => absurd h5 q)
    show Go p e below s _ _ _ (T2.setTop (mkF m 291 #[.val (.int x0), .val (.int x1), .val (.long x2), .second, .val (.long x3), .second, .val (.long x4), .second, .val (.int x5), .val (.ref dd), .val (.int (1 : Int32)), .val (.int (v0_h0 x0)), .val (.int (v0_h1 x0)), .val (.int (v0_h2 x0)), .val (.int (v0_cnt x0)), .val (.int (v0_a x1)), .val (.int (v0_r x0 x5))] []))
    refine g_iconst X2 hx (1 : Int32) 292 (hb hby at_291) rfl rfl ?_
    show Go p e below s _ _ _ (T2.setTop (mkF m 292 #[.val (.int x0), .val (.int x1), .val (.long x2), .second, .val (.long x3), .second, .val (.long x4), .second, .val (.int x5), .val (.ref dd), .val (.int (1 : Int32)), .val (.int (v0_h0 x0)), .val (.int (v0_h1 x0)), .val (.int (v0_h2 x0)), .val (.int (v0_cnt x0)), .val (.int (v0_a x1)), .val (.int (v0_r x0 x5))] [(.int (1 : Int32))]))
    refine g_goto X2 hx 296 (hb hby at_292) (by decide) rfl ?_
    show Go p e below s _ _ _ (T2.setTop (mkF m 296 #[.val (.int x0), .val (.int x1), .val (.long x2), .second, .val (.long x3), .second, .val (.long x4), .second, .val (.int x5), .val (.ref dd), .val (.int (1 : Int32)), .val (.int (v0_h0 x0)), .val (.int (v0_h1 x0)), .val (.int (v0_h2 x0)), .val (.int (v0_cnt x0)), .val (.int (v0_a x1)), .val (.int (v0_r x0 x5))] [(.int (1 : Int32))]))
    refine g_istore X2 hx #[.val (.int x0), .val (.int x1), .val (.long x2), .second, .val (.long x3), .second, .val (.long x4), .second, .val (.int x5), .val (.ref dd), .val (.int (1 : Int32)), .val (.int (v0_h0 x0)), .val (.int (v0_h1 x0)), .val (.int (v0_h2 x0)), .val (.int (v0_cnt x0)), .val (.int (v0_a x1)), .val (.int (v0_r x0 x5))] 298 (hb hby at_296) rfl rfl ?_
    show Go p e below s _ _ _ (T2.setTop (mkF m 298 #[.val (.int x0), .val (.int x1), .val (.long x2), .second, .val (.long x3), .second, .val (.long x4), .second, .val (.int x5), .val (.ref dd), .val (.int (1 : Int32)), .val (.int (v0_h0 x0)), .val (.int (v0_h1 x0)), .val (.int (v0_h2 x0)), .val (.int (v0_cnt x0)), .val (.int (v0_a x1)), .val (.int (v0_r x0 x5))] []))
    refine g_iload X2 hx 300 (hb hby at_298) rfl rfl ?_
    show Go p e below s _ _ _ (T2.setTop (mkF m 300 #[.val (.int x0), .val (.int x1), .val (.long x2), .second, .val (.long x3), .second, .val (.long x4), .second, .val (.int x5), .val (.ref dd), .val (.int (1 : Int32)), .val (.int (v0_h0 x0)), .val (.int (v0_h1 x0)), .val (.int (v0_h2 x0)), .val (.int (v0_cnt x0)), .val (.int (v0_a x1)), .val (.int (v0_r x0 x5))] [(.int (1 : Int32))]))
    exact g_retN X2 hx hret (by simp) hlk (hb hby at_300) (by decide) (by decide) ⟨rfl, NS2⟩
theorem pd__28_29I : parseMethodDescriptor "()I" = some ⟨[], some .int⟩ := by decide +kernel
set_option maxRecDepth 65536 in
set_option maxHeartbeats 40000000 in
theorem sg0_253 (l : Launch) (Z : State) (a0 : Array Value) (hw : ∀ d ∈ tables_1, d.before a0 Z = true) {p : Program} {e : Env} {s : State} {m : MethodId} {args : Array Value} {below : List Frame} {meth : Method} {c : Code} (hx : p.tables.exec = Jvm.exec) (hby : c.code = code) (hml : c.maxLocals = maxLocals) (hret : meth.sig.returnType = ret) (hlk : meth.locks = false) (hown : s.vm.findClass "com/example/weir/weir/cli/DeadlinesIsEmptyPinLaw" = some m.cls) (hnm : meth.name = "law") (hZ : Z.Warmed39 s.vm) (x0 : Int32) (x1 : Int32) (x2 : Int64) (x3 : Int64) (x4 : Int64) (x5 : Int32) (h0 : Heap) (n0 : Nat) : ∀  (dd : Addr) (a1 : Addr) (a2 : Addr) (a3 : Addr) (sz : Int32) (H : Nat → Int32) (P : Nat → Int32) (T : Nat → Int64) (T0 : State) (locs : List Loc) (hS : Heap), Stand p l e room_1 s m args below meth c T0 locs 4 13 → T0.heap = hS → n0 ≤ hS.size → Fr n0 locs → Exa Z hS dd "com/example/weir/weir/cli/Deadlines" → Fld Z hS dd "com/example/weir/weir/cli/Deadlines" "heap" "[I" (.ref a1) → Fld Z hS dd "com/example/weir/weir/cli/Deadlines" "places" "[I" (.ref a2) → Fld Z hS dd "com/example/weir/weir/cli/Deadlines" "times" "[J" (.ref a3) → Fld Z hS dd "com/example/weir/weir/cli/Deadlines" "size" "I" (.int sz) → AI Z hS a1 3 H → AI Z hS a2 3 P → AJ Z hS a3 3 T → n0 ≤ a1 → n0 ≤ a2 → n0 ≤ a3 → n0 ≤ dd → dd ≠ a1 → dd ≠ a2 → dd ≠ a3 → a1 ≠ a2 → a1 ≠ a3 → a2 ≠ a3 → (∀ i, i < 3 → own_3 (H i)) → (sz.toInt = own_rem x0 x5 2) → Go p e below s (Q0 Z x0 x1 x2 x3 x4 x5 h0 n0) room_1.cells room_1.slots (T0.setTop (mkF m 253 #[.val (.int x0), .val (.int x1), .val (.long x2), .second, .val (.long x3), .second, .val (.long x4), .second, .val (.int x5), .val (.ref dd), .val (.int (1 : Int32)), .val (.int (v0_h0 x0)), .val (.int (v0_h1 x0)), .val (.int (v0_h2 x0)), .val (.int (v0_cnt x0)), .val (.int (v0_a x1)), .val (.int (v0_r x0 x5))] [])) := by
  intro dd a1 a2 a3 sz H P T T0 locs hS X0 e0 Z0 N0 P0 P1 P2 P3 P4 P5 P6 P7 P8 P9 P10 P11 P12 P13 P14 P15 P16 P17 hH hsz
  refine g_iload X0 hx 255 (hb hby at_253) rfl rfl ?_
  show Go p e below s _ _ _ (T0.setTop (mkF m 255 #[.val (.int x0), .val (.int x1), .val (.long x2), .second, .val (.long x3), .second, .val (.long x4), .second, .val (.int x5), .val (.ref dd), .val (.int (1 : Int32)), .val (.int (v0_h0 x0)), .val (.int (v0_h1 x0)), .val (.int (v0_h2 x0)), .val (.int (v0_cnt x0)), .val (.int (v0_a x1)), .val (.int (v0_r x0 x5))] [(.int (v0_r x0 x5))]))
  refine g_iconst X0 hx (3 : Int32) 256 (hb hby at_255) rfl rfl ?_
  show Go p e below s _ _ _ (T0.setTop (mkF m 256 #[.val (.int x0), .val (.int x1), .val (.long x2), .second, .val (.long x3), .second, .val (.long x4), .second, .val (.int x5), .val (.ref dd), .val (.int (1 : Int32)), .val (.int (v0_h0 x0)), .val (.int (v0_h1 x0)), .val (.int (v0_h2 x0)), .val (.int (v0_cnt x0)), .val (.int (v0_a x1)), .val (.int (v0_r x0 x5))] [(.int (3 : Int32)), (.int (v0_r x0 x5))]))
  refine g_icmp_lt X0 hx 265 259 (hb hby at_256) (by decide) rfl rfl (fun h6 => ?_) (fun h6 => ?_)
  · show Go p e below s _ _ _ (T0.setTop (mkF m 265 #[.val (.int x0), .val (.int x1), .val (.long x2), .second, .val (.long x3), .second, .val (.long x4), .second, .val (.int x5), .val (.ref dd), .val (.int (1 : Int32)), .val (.int (v0_h0 x0)), .val (.int (v0_h1 x0)), .val (.int (v0_h2 x0)), .val (.int (v0_cnt x0)), .val (.int (v0_a x1)), .val (.int (v0_r x0 x5))] []))
    exact sg0_265 l Z a0 hw hx hby hml hret hlk hown hnm hZ x0 x1 x2 x3 x4 x5 h0 n0  dd a1 a2 a3 sz H P T _ _ _ X0 e0 Z0 N0 P0 P1 P2 P3 P4 P5 P6 P7 P8 P9 P10 P11 P12 P13 P14 P15 P16 P17 hH (by rw [own_rs (k := 2) rfl h6]; exact hsz)
  · show Go p e below s _ _ _ (T0.setTop (mkF m 259 #[.val (.int x0), .val (.int x1), .val (.long x2), .second, .val (.long x3), .second, .val (.long x4), .second, .val (.int x5), .val (.ref dd), .val (.int (1 : Int32)), .val (.int (v0_h0 x0)), .val (.int (v0_h1 x0)), .val (.int (v0_h2 x0)), .val (.int (v0_cnt x0)), .val (.int (v0_a x1)), .val (.int (v0_r x0 x5))] []))
    refine g_aload X0 hx 261 (hb hby at_259) rfl rfl rfl ?_
    show Go p e below s _ _ _ (T0.setTop (mkF m 261 #[.val (.int x0), .val (.int x1), .val (.long x2), .second, .val (.long x3), .second, .val (.long x4), .second, .val (.int x5), .val (.ref dd), .val (.int (1 : Int32)), .val (.int (v0_h0 x0)), .val (.int (v0_h1 x0)), .val (.int (v0_h2 x0)), .val (.int (v0_cnt x0)), .val (.int (v0_a x1)), .val (.int (v0_r x0 x5))] [(.ref dd)]))
    refine g_callV X0 hx hZ hown (hw _ (List.mem_of_getElem? (i := 53) rfl)) (hw _ (List.mem_of_getElem? (i := 54) rfl)) (hw _ (List.mem_of_getElem? (i := 56) rfl)) (hw _ (List.mem_of_getElem? (i := 55) rfl)) (hw _ (List.mem_of_getElem? (i := 2) rfl)) (hw _ (List.mem_of_getElem? (i := 57) rfl)) (by decide) e0 dd P0 (rm11 l Z a0 hw [] dd a1 a2 a3 sz H P T (own_rem x0 x5 2) hS n0 Z0 P0 P1 P2 P3 P4 P5 P6 P7 P8 P9 P10 P11 P12 P13 P14 P15 P16 P17 (hsz : sz.toInt = (own_rem x0 x5 2)) ((own_rt (k := 2) rfl h6).1 : 1 ≤ (own_rem x0 x5 2)) (own_rl x0 x5 2 : (own_rem x0 x5 2) ≤ 3) (hH : ∀ i, i < 3 → own_3 (H i))) [] [] 0 rfl (lenOf pd__28_29I rfl) rfl (Nat.le_of_eq rfl) (by decide) (by decide) (by decide) (by decide) (by rw [hml]; rfl) (hb hby at_261) ?_
    intro T7 L7 v7 X7 q7
    obtain ⟨rfl, N7, K7, p7_0, p7_1, p7_2, p7_3, p7_4, p7_5⟩ := q7
    have NN7 := Fr.app N0 N7
    have k7_0 := P0.keep K7
    have k7_7 := P7.keep K7 (nm1 (Ne.symm P16) (nm1 (Ne.symm P17) (nm1 (Ne.symm P14) nm0)))
    have Z7 : n0 ≤ T7.heap.size := Nat.le_trans Z0 K7.1
    show Go p e below s _ _ _ (T7.setTop (mkF m 264 #[.val (.int x0), .val (.int x1), .val (.long x2), .second, .val (.long x3), .second, .val (.long x4), .second, .val (.int x5), .val (.ref dd), .val (.int (1 : Int32)), .val (.int (v0_h0 x0)), .val (.int (v0_h1 x0)), .val (.int (v0_h2 x0)), .val (.int (v0_cnt x0)), .val (.int (v0_a x1)), .val (.int (v0_r x0 x5))] [(.int (H 0))]))
    refine g_pop X7 hx 265 (hb hby at_264) rfl rfl ?_
    show Go p e below s _ _ _ (T7.setTop (mkF m 265 #[.val (.int x0), .val (.int x1), .val (.long x2), .second, .val (.long x3), .second, .val (.long x4), .second, .val (.int x5), .val (.ref dd), .val (.int (1 : Int32)), .val (.int (v0_h0 x0)), .val (.int (v0_h1 x0)), .val (.int (v0_h2 x0)), .val (.int (v0_cnt x0)), .val (.int (v0_a x1)), .val (.int (v0_r x0 x5))] []))
    exact sg0_265 l Z a0 hw hx hby hml hret hlk hown hnm hZ x0 x1 x2 x3 x4 x5 h0 n0  dd a1 a2 a3 (sz - (1 : Int32)) (g11_a1 sz H P T (own_rem x0 x5 2)) (g11_a2 sz H P T (own_rem x0 x5 2)) T _ _ _ X7 rfl Z7 NN7 k7_0 p7_0 p7_1 p7_2 p7_3 p7_4 p7_5 k7_7 P8 P9 P10 P11 P12 P13 P14 P15 P16 P17 (own_g11 P T hsz (own_rt (k := 2) rfl h6).1 (own_rl x0 x5 2) hH) (by rw [(own_rt (k := 2) rfl h6).2]; exact own_m1 hsz (own_rt (k := 2) rfl h6).1 (own_rl x0 x5 2))
set_option maxRecDepth 65536 in
set_option maxHeartbeats 40000000 in
theorem sg0_241 (l : Launch) (Z : State) (a0 : Array Value) (hw : ∀ d ∈ tables_1, d.before a0 Z = true) {p : Program} {e : Env} {s : State} {m : MethodId} {args : Array Value} {below : List Frame} {meth : Method} {c : Code} (hx : p.tables.exec = Jvm.exec) (hby : c.code = code) (hml : c.maxLocals = maxLocals) (hret : meth.sig.returnType = ret) (hlk : meth.locks = false) (hown : s.vm.findClass "com/example/weir/weir/cli/DeadlinesIsEmptyPinLaw" = some m.cls) (hnm : meth.name = "law") (hZ : Z.Warmed39 s.vm) (x0 : Int32) (x1 : Int32) (x2 : Int64) (x3 : Int64) (x4 : Int64) (x5 : Int32) (h0 : Heap) (n0 : Nat) : ∀  (dd : Addr) (a1 : Addr) (a2 : Addr) (a3 : Addr) (sz : Int32) (H : Nat → Int32) (P : Nat → Int32) (T : Nat → Int64) (T0 : State) (locs : List Loc) (hS : Heap), Stand p l e room_1 s m args below meth c T0 locs 4 13 → T0.heap = hS → n0 ≤ hS.size → Fr n0 locs → Exa Z hS dd "com/example/weir/weir/cli/Deadlines" → Fld Z hS dd "com/example/weir/weir/cli/Deadlines" "heap" "[I" (.ref a1) → Fld Z hS dd "com/example/weir/weir/cli/Deadlines" "places" "[I" (.ref a2) → Fld Z hS dd "com/example/weir/weir/cli/Deadlines" "times" "[J" (.ref a3) → Fld Z hS dd "com/example/weir/weir/cli/Deadlines" "size" "I" (.int sz) → AI Z hS a1 3 H → AI Z hS a2 3 P → AJ Z hS a3 3 T → n0 ≤ a1 → n0 ≤ a2 → n0 ≤ a3 → n0 ≤ dd → dd ≠ a1 → dd ≠ a2 → dd ≠ a3 → a1 ≠ a2 → a1 ≠ a3 → a2 ≠ a3 → (∀ i, i < 3 → own_3 (H i)) → (sz.toInt = own_rem x0 x5 1) → Go p e below s (Q0 Z x0 x1 x2 x3 x4 x5 h0 n0) room_1.cells room_1.slots (T0.setTop (mkF m 241 #[.val (.int x0), .val (.int x1), .val (.long x2), .second, .val (.long x3), .second, .val (.long x4), .second, .val (.int x5), .val (.ref dd), .val (.int (1 : Int32)), .val (.int (v0_h0 x0)), .val (.int (v0_h1 x0)), .val (.int (v0_h2 x0)), .val (.int (v0_cnt x0)), .val (.int (v0_a x1)), .val (.int (v0_r x0 x5))] [])) := by
  intro dd a1 a2 a3 sz H P T T0 locs hS X0 e0 Z0 N0 P0 P1 P2 P3 P4 P5 P6 P7 P8 P9 P10 P11 P12 P13 P14 P15 P16 P17 hH hsz
  refine g_iload X0 hx 243 (hb hby at_241) rfl rfl ?_
  show Go p e below s _ _ _ (T0.setTop (mkF m 243 #[.val (.int x0), .val (.int x1), .val (.long x2), .second, .val (.long x3), .second, .val (.long x4), .second, .val (.int x5), .val (.ref dd), .val (.int (1 : Int32)), .val (.int (v0_h0 x0)), .val (.int (v0_h1 x0)), .val (.int (v0_h2 x0)), .val (.int (v0_cnt x0)), .val (.int (v0_a x1)), .val (.int (v0_r x0 x5))] [(.int (v0_r x0 x5))]))
  refine g_iconst X0 hx (2 : Int32) 244 (hb hby at_243) rfl rfl ?_
  show Go p e below s _ _ _ (T0.setTop (mkF m 244 #[.val (.int x0), .val (.int x1), .val (.long x2), .second, .val (.long x3), .second, .val (.long x4), .second, .val (.int x5), .val (.ref dd), .val (.int (1 : Int32)), .val (.int (v0_h0 x0)), .val (.int (v0_h1 x0)), .val (.int (v0_h2 x0)), .val (.int (v0_cnt x0)), .val (.int (v0_a x1)), .val (.int (v0_r x0 x5))] [(.int (2 : Int32)), (.int (v0_r x0 x5))]))
  refine g_icmp_lt X0 hx 253 247 (hb hby at_244) (by decide) rfl rfl (fun h8 => ?_) (fun h8 => ?_)
  · show Go p e below s _ _ _ (T0.setTop (mkF m 253 #[.val (.int x0), .val (.int x1), .val (.long x2), .second, .val (.long x3), .second, .val (.long x4), .second, .val (.int x5), .val (.ref dd), .val (.int (1 : Int32)), .val (.int (v0_h0 x0)), .val (.int (v0_h1 x0)), .val (.int (v0_h2 x0)), .val (.int (v0_cnt x0)), .val (.int (v0_a x1)), .val (.int (v0_r x0 x5))] []))
    exact sg0_253 l Z a0 hw hx hby hml hret hlk hown hnm hZ x0 x1 x2 x3 x4 x5 h0 n0  dd a1 a2 a3 sz H P T _ _ _ X0 e0 Z0 N0 P0 P1 P2 P3 P4 P5 P6 P7 P8 P9 P10 P11 P12 P13 P14 P15 P16 P17 hH (by rw [own_rs (k := 1) rfl h8]; exact hsz)
  · show Go p e below s _ _ _ (T0.setTop (mkF m 247 #[.val (.int x0), .val (.int x1), .val (.long x2), .second, .val (.long x3), .second, .val (.long x4), .second, .val (.int x5), .val (.ref dd), .val (.int (1 : Int32)), .val (.int (v0_h0 x0)), .val (.int (v0_h1 x0)), .val (.int (v0_h2 x0)), .val (.int (v0_cnt x0)), .val (.int (v0_a x1)), .val (.int (v0_r x0 x5))] []))
    refine g_aload X0 hx 249 (hb hby at_247) rfl rfl rfl ?_
    show Go p e below s _ _ _ (T0.setTop (mkF m 249 #[.val (.int x0), .val (.int x1), .val (.long x2), .second, .val (.long x3), .second, .val (.long x4), .second, .val (.int x5), .val (.ref dd), .val (.int (1 : Int32)), .val (.int (v0_h0 x0)), .val (.int (v0_h1 x0)), .val (.int (v0_h2 x0)), .val (.int (v0_cnt x0)), .val (.int (v0_a x1)), .val (.int (v0_r x0 x5))] [(.ref dd)]))
    refine g_callV X0 hx hZ hown (hw _ (List.mem_of_getElem? (i := 53) rfl)) (hw _ (List.mem_of_getElem? (i := 54) rfl)) (hw _ (List.mem_of_getElem? (i := 56) rfl)) (hw _ (List.mem_of_getElem? (i := 55) rfl)) (hw _ (List.mem_of_getElem? (i := 2) rfl)) (hw _ (List.mem_of_getElem? (i := 57) rfl)) (by decide) e0 dd P0 (rm11 l Z a0 hw [] dd a1 a2 a3 sz H P T (own_rem x0 x5 1) hS n0 Z0 P0 P1 P2 P3 P4 P5 P6 P7 P8 P9 P10 P11 P12 P13 P14 P15 P16 P17 (hsz : sz.toInt = (own_rem x0 x5 1)) ((own_rt (k := 1) rfl h8).1 : 1 ≤ (own_rem x0 x5 1)) (own_rl x0 x5 1 : (own_rem x0 x5 1) ≤ 3) (hH : ∀ i, i < 3 → own_3 (H i))) [] [] 0 rfl (lenOf pd__28_29I rfl) rfl (Nat.le_of_eq rfl) (by decide) (by decide) (by decide) (by decide) (by rw [hml]; rfl) (hb hby at_249) ?_
    intro T9 L9 v9 X9 q9
    obtain ⟨rfl, N9, K9, p9_0, p9_1, p9_2, p9_3, p9_4, p9_5⟩ := q9
    have NN9 := Fr.app N0 N9
    have k9_0 := P0.keep K9
    have k9_7 := P7.keep K9 (nm1 (Ne.symm P16) (nm1 (Ne.symm P17) (nm1 (Ne.symm P14) nm0)))
    have Z9 : n0 ≤ T9.heap.size := Nat.le_trans Z0 K9.1
    show Go p e below s _ _ _ (T9.setTop (mkF m 252 #[.val (.int x0), .val (.int x1), .val (.long x2), .second, .val (.long x3), .second, .val (.long x4), .second, .val (.int x5), .val (.ref dd), .val (.int (1 : Int32)), .val (.int (v0_h0 x0)), .val (.int (v0_h1 x0)), .val (.int (v0_h2 x0)), .val (.int (v0_cnt x0)), .val (.int (v0_a x1)), .val (.int (v0_r x0 x5))] [(.int (H 0))]))
    refine g_pop X9 hx 253 (hb hby at_252) rfl rfl ?_
    show Go p e below s _ _ _ (T9.setTop (mkF m 253 #[.val (.int x0), .val (.int x1), .val (.long x2), .second, .val (.long x3), .second, .val (.long x4), .second, .val (.int x5), .val (.ref dd), .val (.int (1 : Int32)), .val (.int (v0_h0 x0)), .val (.int (v0_h1 x0)), .val (.int (v0_h2 x0)), .val (.int (v0_cnt x0)), .val (.int (v0_a x1)), .val (.int (v0_r x0 x5))] []))
    exact sg0_253 l Z a0 hw hx hby hml hret hlk hown hnm hZ x0 x1 x2 x3 x4 x5 h0 n0  dd a1 a2 a3 (sz - (1 : Int32)) (g11_a1 sz H P T (own_rem x0 x5 1)) (g11_a2 sz H P T (own_rem x0 x5 1)) T _ _ _ X9 rfl Z9 NN9 k9_0 p9_0 p9_1 p9_2 p9_3 p9_4 p9_5 k9_7 P8 P9 P10 P11 P12 P13 P14 P15 P16 P17 (own_g11 P T hsz (own_rt (k := 1) rfl h8).1 (own_rl x0 x5 1) hH) (by rw [(own_rt (k := 1) rfl h8).2]; exact own_m1 hsz (own_rt (k := 1) rfl h8).1 (own_rl x0 x5 1))
theorem pd__28II_29I : parseMethodDescriptor "(II)I" = some ⟨[.int, .int], some .int⟩ := by decide +kernel
set_option maxRecDepth 65536 in
set_option maxHeartbeats 40000000 in
theorem sg0_218 (l : Launch) (Z : State) (a0 : Array Value) (hw : ∀ d ∈ tables_1, d.before a0 Z = true) {p : Program} {e : Env} {s : State} {m : MethodId} {args : Array Value} {below : List Frame} {meth : Method} {c : Code} (hx : p.tables.exec = Jvm.exec) (hby : c.code = code) (hml : c.maxLocals = maxLocals) (hret : meth.sig.returnType = ret) (hlk : meth.locks = false) (hown : s.vm.findClass "com/example/weir/weir/cli/DeadlinesIsEmptyPinLaw" = some m.cls) (hnm : meth.name = "law") (hZ : Z.Warmed39 s.vm) (x0 : Int32) (x1 : Int32) (x2 : Int64) (x3 : Int64) (x4 : Int64) (x5 : Int32) (h0 : Heap) (n0 : Nat) : ∀  (dd : Addr) (a1 : Addr) (a2 : Addr) (a3 : Addr) (sz : Int32) (H : Nat → Int32) (P : Nat → Int32) (T : Nat → Int64) (T0 : State) (locs : List Loc) (hS : Heap), Stand p l e room_1 s m args below meth c T0 locs 4 13 → T0.heap = hS → n0 ≤ hS.size → Fr n0 locs → Exa Z hS dd "com/example/weir/weir/cli/Deadlines" → Fld Z hS dd "com/example/weir/weir/cli/Deadlines" "heap" "[I" (.ref a1) → Fld Z hS dd "com/example/weir/weir/cli/Deadlines" "places" "[I" (.ref a2) → Fld Z hS dd "com/example/weir/weir/cli/Deadlines" "times" "[J" (.ref a3) → Fld Z hS dd "com/example/weir/weir/cli/Deadlines" "size" "I" (.int sz) → AI Z hS a1 3 H → AI Z hS a2 3 P → AJ Z hS a3 3 T → n0 ≤ a1 → n0 ≤ a2 → n0 ≤ a3 → n0 ≤ dd → dd ≠ a1 → dd ≠ a2 → dd ≠ a3 → a1 ≠ a2 → a1 ≠ a3 → a2 ≠ a3 → (∀ i, i < 3 → own_3 (H i)) → (sz.toInt = own_rem x0 x5 0) → Go p e below s (Q0 Z x0 x1 x2 x3 x4 x5 h0 n0) room_1.cells room_1.slots (T0.setTop (mkF m 218 #[.val (.int x0), .val (.int x1), .val (.long x2), .second, .val (.long x3), .second, .val (.long x4), .second, .val (.int x5), .val (.ref dd), .val (.int (1 : Int32)), .val (.int (v0_h0 x0)), .val (.int (v0_h1 x0)), .val (.int (v0_h2 x0)), .val (.int (v0_cnt x0)), .val (.int (v0_a x1)), .unset] [])) := by
  intro dd a1 a2 a3 sz H P T T0 locs hS X0 e0 Z0 N0 P0 P1 P2 P3 P4 P5 P6 P7 P8 P9 P10 P11 P12 P13 P14 P15 P16 P17 hH hsz
  refine g_iload X0 hx 220 (hb hby at_218) rfl rfl ?_
  show Go p e below s _ _ _ (T0.setTop (mkF m 220 #[.val (.int x0), .val (.int x1), .val (.long x2), .second, .val (.long x3), .second, .val (.long x4), .second, .val (.int x5), .val (.ref dd), .val (.int (1 : Int32)), .val (.int (v0_h0 x0)), .val (.int (v0_h1 x0)), .val (.int (v0_h2 x0)), .val (.int (v0_cnt x0)), .val (.int (v0_a x1)), .unset] [(.int x5)]))
  refine g_iconst X0 hx (3 : Int32) 221 (hb hby at_220) rfl rfl ?_
  show Go p e below s _ _ _ (T0.setTop (mkF m 221 #[.val (.int x0), .val (.int x1), .val (.long x2), .second, .val (.long x3), .second, .val (.long x4), .second, .val (.int x5), .val (.ref dd), .val (.int (1 : Int32)), .val (.int (v0_h0 x0)), .val (.int (v0_h1 x0)), .val (.int (v0_h2 x0)), .val (.int (v0_cnt x0)), .val (.int (v0_a x1)), .unset] [(.int (3 : Int32)), (.int x5)]))
  refine g_iand X0 hx 222 (hb hby at_221) rfl ?_
  show Go p e below s _ _ _ (T0.setTop (mkF m 222 #[.val (.int x0), .val (.int x1), .val (.long x2), .second, .val (.long x3), .second, .val (.long x4), .second, .val (.int x5), .val (.ref dd), .val (.int (1 : Int32)), .val (.int (v0_h0 x0)), .val (.int (v0_h1 x0)), .val (.int (v0_h2 x0)), .val (.int (v0_cnt x0)), .val (.int (v0_a x1)), .unset] [(.int (x5 &&& (3 : Int32)))]))
  refine g_iload X0 hx 224 (hb hby at_222) rfl rfl ?_
  show Go p e below s _ _ _ (T0.setTop (mkF m 224 #[.val (.int x0), .val (.int x1), .val (.long x2), .second, .val (.long x3), .second, .val (.long x4), .second, .val (.int x5), .val (.ref dd), .val (.int (1 : Int32)), .val (.int (v0_h0 x0)), .val (.int (v0_h1 x0)), .val (.int (v0_h2 x0)), .val (.int (v0_cnt x0)), .val (.int (v0_a x1)), .unset] [(.int (v0_cnt x0)), (.int (x5 &&& (3 : Int32)))]))
  refine g_callS X0 hx hZ hown (hw _ (List.mem_of_getElem? (i := 28) rfl)) (hw _ (List.mem_of_getElem? (i := 29) rfl)) (hw _ (List.mem_of_getElem? (i := 30) rfl)) (hw _ (List.mem_of_getElem? (i := 31) rfl)) (by decide) e0 (rm5 l Z a0 hw [] (x5 &&& (3 : Int32)) (v0_cnt x0) hS) [(.int (x5 &&& (3 : Int32))), (.int (v0_cnt x0))] [] 0 rfl (lenOf pd__28II_29I rfl) rfl (Nat.le_of_eq rfl) (by decide) (by decide) (by decide) (by decide) (by rw [hml]; rfl) (hb hby at_224) ?_
  intro T10 L10 v10 X10 q10
  obtain ⟨rfl, rfl, e10⟩ := q10
  have NS10 := Fr.app N0 (Fr.nil n0)
  show Go p e below s _ _ _ (T10.setTop (mkF m 227 #[.val (.int x0), .val (.int x1), .val (.long x2), .second, .val (.long x3), .second, .val (.long x4), .second, .val (.int x5), .val (.ref dd), .val (.int (1 : Int32)), .val (.int (v0_h0 x0)), .val (.int (v0_h1 x0)), .val (.int (v0_h2 x0)), .val (.int (v0_cnt x0)), .val (.int (v0_a x1)), .unset] [(.int (f5 (x5 &&& (3 : Int32)) (v0_cnt x0)))]))
  refine g_istore X10 hx #[.val (.int x0), .val (.int x1), .val (.long x2), .second, .val (.long x3), .second, .val (.long x4), .second, .val (.int x5), .val (.ref dd), .val (.int (1 : Int32)), .val (.int (v0_h0 x0)), .val (.int (v0_h1 x0)), .val (.int (v0_h2 x0)), .val (.int (v0_cnt x0)), .val (.int (v0_a x1)), .val (.int (v0_r x0 x5))] 229 (hb hby at_227) rfl rfl ?_
  show Go p e below s _ _ _ (T10.setTop (mkF m 229 #[.val (.int x0), .val (.int x1), .val (.long x2), .second, .val (.long x3), .second, .val (.long x4), .second, .val (.int x5), .val (.ref dd), .val (.int (1 : Int32)), .val (.int (v0_h0 x0)), .val (.int (v0_h1 x0)), .val (.int (v0_h2 x0)), .val (.int (v0_cnt x0)), .val (.int (v0_a x1)), .val (.int (v0_r x0 x5))] []))
  refine g_iload X10 hx 231 (hb hby at_229) rfl rfl ?_
  show Go p e below s _ _ _ (T10.setTop (mkF m 231 #[.val (.int x0), .val (.int x1), .val (.long x2), .second, .val (.long x3), .second, .val (.long x4), .second, .val (.int x5), .val (.ref dd), .val (.int (1 : Int32)), .val (.int (v0_h0 x0)), .val (.int (v0_h1 x0)), .val (.int (v0_h2 x0)), .val (.int (v0_cnt x0)), .val (.int (v0_a x1)), .val (.int (v0_r x0 x5))] [(.int (v0_r x0 x5))]))
  refine g_iconst X10 hx (1 : Int32) 232 (hb hby at_231) rfl rfl ?_
  show Go p e below s _ _ _ (T10.setTop (mkF m 232 #[.val (.int x0), .val (.int x1), .val (.long x2), .second, .val (.long x3), .second, .val (.long x4), .second, .val (.int x5), .val (.ref dd), .val (.int (1 : Int32)), .val (.int (v0_h0 x0)), .val (.int (v0_h1 x0)), .val (.int (v0_h2 x0)), .val (.int (v0_cnt x0)), .val (.int (v0_a x1)), .val (.int (v0_r x0 x5))] [(.int (1 : Int32)), (.int (v0_r x0 x5))]))
  refine g_icmp_lt X10 hx 241 235 (hb hby at_232) (by decide) rfl rfl (fun h11 => ?_) (fun h11 => ?_)
  · show Go p e below s _ _ _ (T10.setTop (mkF m 241 #[.val (.int x0), .val (.int x1), .val (.long x2), .second, .val (.long x3), .second, .val (.long x4), .second, .val (.int x5), .val (.ref dd), .val (.int (1 : Int32)), .val (.int (v0_h0 x0)), .val (.int (v0_h1 x0)), .val (.int (v0_h2 x0)), .val (.int (v0_cnt x0)), .val (.int (v0_a x1)), .val (.int (v0_r x0 x5))] []))
    exact sg0_241 l Z a0 hw hx hby hml hret hlk hown hnm hZ x0 x1 x2 x3 x4 x5 h0 n0  dd a1 a2 a3 sz H P T _ _ _ X10 e10 Z0 NS10 P0 P1 P2 P3 P4 P5 P6 P7 P8 P9 P10 P11 P12 P13 P14 P15 P16 P17 hH (by rw [own_rs (k := 0) rfl h11]; exact hsz)
  · show Go p e below s _ _ _ (T10.setTop (mkF m 235 #[.val (.int x0), .val (.int x1), .val (.long x2), .second, .val (.long x3), .second, .val (.long x4), .second, .val (.int x5), .val (.ref dd), .val (.int (1 : Int32)), .val (.int (v0_h0 x0)), .val (.int (v0_h1 x0)), .val (.int (v0_h2 x0)), .val (.int (v0_cnt x0)), .val (.int (v0_a x1)), .val (.int (v0_r x0 x5))] []))
    refine g_aload X10 hx 237 (hb hby at_235) rfl rfl rfl ?_
    show Go p e below s _ _ _ (T10.setTop (mkF m 237 #[.val (.int x0), .val (.int x1), .val (.long x2), .second, .val (.long x3), .second, .val (.long x4), .second, .val (.int x5), .val (.ref dd), .val (.int (1 : Int32)), .val (.int (v0_h0 x0)), .val (.int (v0_h1 x0)), .val (.int (v0_h2 x0)), .val (.int (v0_cnt x0)), .val (.int (v0_a x1)), .val (.int (v0_r x0 x5))] [(.ref dd)]))
    refine g_callV X10 hx hZ hown (hw _ (List.mem_of_getElem? (i := 53) rfl)) (hw _ (List.mem_of_getElem? (i := 54) rfl)) (hw _ (List.mem_of_getElem? (i := 56) rfl)) (hw _ (List.mem_of_getElem? (i := 55) rfl)) (hw _ (List.mem_of_getElem? (i := 2) rfl)) (hw _ (List.mem_of_getElem? (i := 57) rfl)) (by decide) e10 dd P0 (rm11 l Z a0 hw [] dd a1 a2 a3 sz H P T (own_rem x0 x5 0) hS n0 Z0 P0 P1 P2 P3 P4 P5 P6 P7 P8 P9 P10 P11 P12 P13 P14 P15 P16 P17 (hsz : sz.toInt = (own_rem x0 x5 0)) ((own_rt (k := 0) rfl h11).1 : 1 ≤ (own_rem x0 x5 0)) (own_rl x0 x5 0 : (own_rem x0 x5 0) ≤ 3) (hH : ∀ i, i < 3 → own_3 (H i))) [] [] 0 rfl (lenOf pd__28_29I rfl) rfl (Nat.le_of_eq rfl) (by decide) (by decide) (by decide) (by decide) (by rw [hml]; rfl) (hb hby at_237) ?_
    intro T12 L12 v12 X12 q12
    obtain ⟨rfl, N12, K12, p12_0, p12_1, p12_2, p12_3, p12_4, p12_5⟩ := q12
    have NN12 := Fr.app NS10 N12
    have k12_0 := P0.keep K12
    have k12_7 := P7.keep K12 (nm1 (Ne.symm P16) (nm1 (Ne.symm P17) (nm1 (Ne.symm P14) nm0)))
    have Z12 : n0 ≤ T12.heap.size := Nat.le_trans Z0 K12.1
    show Go p e below s _ _ _ (T12.setTop (mkF m 240 #[.val (.int x0), .val (.int x1), .val (.long x2), .second, .val (.long x3), .second, .val (.long x4), .second, .val (.int x5), .val (.ref dd), .val (.int (1 : Int32)), .val (.int (v0_h0 x0)), .val (.int (v0_h1 x0)), .val (.int (v0_h2 x0)), .val (.int (v0_cnt x0)), .val (.int (v0_a x1)), .val (.int (v0_r x0 x5))] [(.int (H 0))]))
    refine g_pop X12 hx 241 (hb hby at_240) rfl rfl ?_
    show Go p e below s _ _ _ (T12.setTop (mkF m 241 #[.val (.int x0), .val (.int x1), .val (.long x2), .second, .val (.long x3), .second, .val (.long x4), .second, .val (.int x5), .val (.ref dd), .val (.int (1 : Int32)), .val (.int (v0_h0 x0)), .val (.int (v0_h1 x0)), .val (.int (v0_h2 x0)), .val (.int (v0_cnt x0)), .val (.int (v0_a x1)), .val (.int (v0_r x0 x5))] []))
    exact sg0_241 l Z a0 hw hx hby hml hret hlk hown hnm hZ x0 x1 x2 x3 x4 x5 h0 n0  dd a1 a2 a3 (sz - (1 : Int32)) (g11_a1 sz H P T (own_rem x0 x5 0)) (g11_a2 sz H P T (own_rem x0 x5 0)) T _ _ _ X12 rfl Z12 NN12 k12_0 p12_0 p12_1 p12_2 p12_3 p12_4 p12_5 k12_7 P8 P9 P10 P11 P12 P13 P14 P15 P16 P17 (own_g11 P T hsz (own_rt (k := 0) rfl h11).1 (own_rl x0 x5 0) hH) (by rw [(own_rt (k := 0) rfl h11).2]; exact own_m1 hsz (own_rt (k := 0) rfl h11).1 (own_rl x0 x5 0))
set_option maxRecDepth 65536 in
set_option maxHeartbeats 40000000 in
theorem sg0_188 (l : Launch) (Z : State) (a0 : Array Value) (hw : ∀ d ∈ tables_1, d.before a0 Z = true) {p : Program} {e : Env} {s : State} {m : MethodId} {args : Array Value} {below : List Frame} {meth : Method} {c : Code} (hx : p.tables.exec = Jvm.exec) (hby : c.code = code) (hml : c.maxLocals = maxLocals) (hret : meth.sig.returnType = ret) (hlk : meth.locks = false) (hown : s.vm.findClass "com/example/weir/weir/cli/DeadlinesIsEmptyPinLaw" = some m.cls) (hnm : meth.name = "law") (hZ : Z.Warmed39 s.vm) (x0 : Int32) (x1 : Int32) (x2 : Int64) (x3 : Int64) (x4 : Int64) (x5 : Int32) (h0 : Heap) (n0 : Nat) : ∀  (dd : Addr) (a1 : Addr) (a2 : Addr) (a3 : Addr) (sz : Int32) (H : Nat → Int32) (P : Nat → Int32) (T : Nat → Int64) (T0 : State) (locs : List Loc) (hS : Heap), Stand p l e room_1 s m args below meth c T0 locs 4 13 → T0.heap = hS → n0 ≤ hS.size → Fr n0 locs → Exa Z hS dd "com/example/weir/weir/cli/Deadlines" → Fld Z hS dd "com/example/weir/weir/cli/Deadlines" "heap" "[I" (.ref a1) → Fld Z hS dd "com/example/weir/weir/cli/Deadlines" "places" "[I" (.ref a2) → Fld Z hS dd "com/example/weir/weir/cli/Deadlines" "times" "[J" (.ref a3) → Fld Z hS dd "com/example/weir/weir/cli/Deadlines" "size" "I" (.int sz) → AI Z hS a1 3 H → AI Z hS a2 3 P → AJ Z hS a3 3 T → n0 ≤ a1 → n0 ≤ a2 → n0 ≤ a3 → n0 ≤ dd → dd ≠ a1 → dd ≠ a2 → dd ≠ a3 → a1 ≠ a2 → a1 ≠ a3 → a2 ≠ a3 → (own_st x0 3 H P sz) → Go p e below s (Q0 Z x0 x1 x2 x3 x4 x5 h0 n0) room_1.cells room_1.slots (T0.setTop (mkF m 188 #[.val (.int x0), .val (.int x1), .val (.long x2), .second, .val (.long x3), .second, .val (.long x4), .second, .val (.int x5), .val (.ref dd), .val (.int (f4 (0 : Int32))), .val (.int (v0_h0 x0)), .val (.int (v0_h1 x0)), .val (.int (v0_h2 x0)), .val (.int (v0_cnt x0)), .val (.int (v0_a x1)), .unset] [])) := by
  intro dd a1 a2 a3 sz H P T T0 locs hS X0 e0 Z0 N0 P0 P1 P2 P3 P4 P5 P6 P7 P8 P9 P10 P11 P12 P13 P14 P15 P16 P17 hst
  refine g_iload X0 hx 190 (hb hby at_188) rfl rfl ?_
  show Go p e below s _ _ _ (T0.setTop (mkF m 190 #[.val (.int x0), .val (.int x1), .val (.long x2), .second, .val (.long x3), .second, .val (.long x4), .second, .val (.int x5), .val (.ref dd), .val (.int (f4 (0 : Int32))), .val (.int (v0_h0 x0)), .val (.int (v0_h1 x0)), .val (.int (v0_h2 x0)), .val (.int (v0_cnt x0)), .val (.int (v0_a x1)), .unset] [(.int (f4 (0 : Int32)))]))
  have h13 : ¬ ((f4 (0 : Int32)) = (0 : Int32)) := by decide
  refine g_if0_eq X0 hx 215 193 (hb hby at_190) (by decide) rfl rfl (fun q => absurd q h13) (fun _ => ?_)
  show Go p e below s _ _ _ (T0.setTop (mkF m 193 #[.val (.int x0), .val (.int x1), .val (.long x2), .second, .val (.long x3), .second, .val (.long x4), .second, .val (.int x5), .val (.ref dd), .val (.int (f4 (0 : Int32))), .val (.int (v0_h0 x0)), .val (.int (v0_h1 x0)), .val (.int (v0_h2 x0)), .val (.int (v0_cnt x0)), .val (.int (v0_a x1)), .unset] []))
  refine g_aload X0 hx 195 (hb hby at_193) rfl rfl rfl ?_
  show Go p e below s _ _ _ (T0.setTop (mkF m 195 #[.val (.int x0), .val (.int x1), .val (.long x2), .second, .val (.long x3), .second, .val (.long x4), .second, .val (.int x5), .val (.ref dd), .val (.int (f4 (0 : Int32))), .val (.int (v0_h0 x0)), .val (.int (v0_h1 x0)), .val (.int (v0_h2 x0)), .val (.int (v0_cnt x0)), .val (.int (v0_a x1)), .unset] [(.ref dd)]))
  refine g_callV X0 hx hZ hown (hw _ (List.mem_of_getElem? (i := 21) rfl)) (hw _ (List.mem_of_getElem? (i := 22) rfl)) (hw _ (List.mem_of_getElem? (i := 24) rfl)) (hw _ (List.mem_of_getElem? (i := 23) rfl)) (hw _ (List.mem_of_getElem? (i := 2) rfl)) (hw _ (List.mem_of_getElem? (i := 25) rfl)) (by decide) e0 dd P0 (rm4 l Z a0 hw [] dd sz hS P4) [] [] 0 rfl (lenOf pd__28_29Z rfl) rfl (Nat.le_of_eq rfl) (by decide) (by decide) (by decide) (by decide) (by rw [hml]; rfl) (hb hby at_195) ?_
  intro T14 L14 v14 X14 q14
  obtain ⟨rfl, rfl, e14⟩ := q14
  have NS14 := Fr.app N0 (Fr.nil n0)
  show Go p e below s _ _ _ (T14.setTop (mkF m 198 #[.val (.int x0), .val (.int x1), .val (.long x2), .second, .val (.long x3), .second, .val (.long x4), .second, .val (.int x5), .val (.ref dd), .val (.int (f4 (0 : Int32))), .val (.int (v0_h0 x0)), .val (.int (v0_h1 x0)), .val (.int (v0_h2 x0)), .val (.int (v0_cnt x0)), .val (.int (v0_a x1)), .unset] [(.int (f4 sz))]))
  refine g_iload X14 hx 200 (hb hby at_198) rfl rfl ?_
  show Go p e below s _ _ _ (T14.setTop (mkF m 200 #[.val (.int x0), .val (.int x1), .val (.long x2), .second, .val (.long x3), .second, .val (.long x4), .second, .val (.int x5), .val (.ref dd), .val (.int (f4 (0 : Int32))), .val (.int (v0_h0 x0)), .val (.int (v0_h1 x0)), .val (.int (v0_h2 x0)), .val (.int (v0_cnt x0)), .val (.int (v0_a x1)), .unset] [(.int (v0_cnt x0)), (.int (f4 sz))]))
  refine g_if0_ne X14 hx 207 203 (hb hby at_200) (by decide) rfl rfl (fun h15 => ?_) (fun h15 => ?_)
  · show Go p e below s _ _ _ (T14.setTop (mkF m 203 #[.val (.int x0), .val (.int x1), .val (.long x2), .second, .val (.long x3), .second, .val (.long x4), .second, .val (.int x5), .val (.ref dd), .val (.int (f4 (0 : Int32))), .val (.int (v0_h0 x0)), .val (.int (v0_h1 x0)), .val (.int (v0_h2 x0)), .val (.int (v0_cnt x0)), .val (.int (v0_a x1)), .unset] [(.int (f4 sz))]))
    refine g_iconst X14 hx (1 : Int32) 204 (hb hby at_203) rfl rfl ?_
    show Go p e below s _ _ _ (T14.setTop (mkF m 204 #[.val (.int x0), .val (.int x1), .val (.long x2), .second, .val (.long x3), .second, .val (.long x4), .second, .val (.int x5), .val (.ref dd), .val (.int (f4 (0 : Int32))), .val (.int (v0_h0 x0)), .val (.int (v0_h1 x0)), .val (.int (v0_h2 x0)), .val (.int (v0_cnt x0)), .val (.int (v0_a x1)), .unset] [(.int (1 : Int32)), (.int (f4 sz))]))
    refine g_goto X14 hx 208 (hb hby at_204) (by decide) rfl ?_
    show Go p e below s _ _ _ (T14.setTop (mkF m 208 #[.val (.int x0), .val (.int x1), .val (.long x2), .second, .val (.long x3), .second, .val (.long x4), .second, .val (.int x5), .val (.ref dd), .val (.int (f4 (0 : Int32))), .val (.int (v0_h0 x0)), .val (.int (v0_h1 x0)), .val (.int (v0_h2 x0)), .val (.int (v0_cnt x0)), .val (.int (v0_a x1)), .unset] [(.int (1 : Int32)), (.int (f4 sz))]))
    have h16 : (f4 sz) = (1 : Int32) := own_f41 hst.2 (own_cnt x0) h15
    refine g_icmp_ne X14 hx 215 211 (hb hby at_208) (by decide) rfl rfl (fun _ => ?_) (fun q => absurd h16 q)
    show Go p e below s _ _ _ (T14.setTop (mkF m 211 #[.val (.int x0), .val (.int x1), .val (.long x2), .second, .val (.long x3), .second, .val (.long x4), .second, .val (.int x5), .val (.ref dd), .val (.int (f4 (0 : Int32))), .val (.int (v0_h0 x0)), .val (.int (v0_h1 x0)), .val (.int (v0_h2 x0)), .val (.int (v0_cnt x0)), .val (.int (v0_a x1)), .unset] []))
    refine g_iconst X14 hx (1 : Int32) 212 (hb hby at_211) rfl rfl ?_
    show Go p e below s _ _ _ (T14.setTop (mkF m 212 #[.val (.int x0), .val (.int x1), .val (.long x2), .second, .val (.long x3), .second, .val (.long x4), .second, .val (.int x5), .val (.ref dd), .val (.int (f4 (0 : Int32))), .val (.int (v0_h0 x0)), .val (.int (v0_h1 x0)), .val (.int (v0_h2 x0)), .val (.int (v0_cnt x0)), .val (.int (v0_a x1)), .unset] [(.int (1 : Int32))]))
    refine g_goto X14 hx 216 (hb hby at_212) (by decide) rfl ?_
    show Go p e below s _ _ _ (T14.setTop (mkF m 216 #[.val (.int x0), .val (.int x1), .val (.long x2), .second, .val (.long x3), .second, .val (.long x4), .second, .val (.int x5), .val (.ref dd), .val (.int (f4 (0 : Int32))), .val (.int (v0_h0 x0)), .val (.int (v0_h1 x0)), .val (.int (v0_h2 x0)), .val (.int (v0_cnt x0)), .val (.int (v0_a x1)), .unset] [(.int (1 : Int32))]))
    refine g_istore X14 hx #[.val (.int x0), .val (.int x1), .val (.long x2), .second, .val (.long x3), .second, .val (.long x4), .second, .val (.int x5), .val (.ref dd), .val (.int (1 : Int32)), .val (.int (v0_h0 x0)), .val (.int (v0_h1 x0)), .val (.int (v0_h2 x0)), .val (.int (v0_cnt x0)), .val (.int (v0_a x1)), .unset] 218 (hb hby at_216) rfl rfl ?_
    show Go p e below s _ _ _ (T14.setTop (mkF m 218 #[.val (.int x0), .val (.int x1), .val (.long x2), .second, .val (.long x3), .second, .val (.long x4), .second, .val (.int x5), .val (.ref dd), .val (.int (1 : Int32)), .val (.int (v0_h0 x0)), .val (.int (v0_h1 x0)), .val (.int (v0_h2 x0)), .val (.int (v0_cnt x0)), .val (.int (v0_a x1)), .unset] []))
    exact sg0_218 l Z a0 hw hx hby hml hret hlk hown hnm hZ x0 x1 x2 x3 x4 x5 h0 n0  dd a1 a2 a3 sz H P T _ _ _ X14 e14 Z0 NS14 P0 P1 P2 P3 P4 P5 P6 P7 P8 P9 P10 P11 P12 P13 P14 P15 P16 P17 hst.1.1 (by rw [own_r0]; exact hst.2)
  · show Go p e below s _ _ _ (T14.setTop (mkF m 207 #[.val (.int x0), .val (.int x1), .val (.long x2), .second, .val (.long x3), .second, .val (.long x4), .second, .val (.int x5), .val (.ref dd), .val (.int (f4 (0 : Int32))), .val (.int (v0_h0 x0)), .val (.int (v0_h1 x0)), .val (.int (v0_h2 x0)), .val (.int (v0_cnt x0)), .val (.int (v0_a x1)), .unset] [(.int (f4 sz))]))
    refine g_iconst X14 hx (0 : Int32) 208 (hb hby at_207) rfl rfl ?_
    show Go p e below s _ _ _ (T14.setTop (mkF m 208 #[.val (.int x0), .val (.int x1), .val (.long x2), .second, .val (.long x3), .second, .val (.long x4), .second, .val (.int x5), .val (.ref dd), .val (.int (f4 (0 : Int32))), .val (.int (v0_h0 x0)), .val (.int (v0_h1 x0)), .val (.int (v0_h2 x0)), .val (.int (v0_cnt x0)), .val (.int (v0_a x1)), .unset] [(.int (0 : Int32)), (.int (f4 sz))]))
    have h17 : (f4 sz) = (0 : Int32) := own_f40 hst.2 (own_cnt x0) h15
    refine g_icmp_ne X14 hx 215 211 (hb hby at_208) (by decide) rfl rfl (fun _ => ?_) (fun q => absurd h17 q)
    show Go p e below s _ _ _ (T14.setTop (mkF m 211 #[.val (.int x0), .val (.int x1), .val (.long x2), .second, .val (.long x3), .second, .val (.long x4), .second, .val (.int x5), .val (.ref dd), .val (.int (f4 (0 : Int32))), .val (.int (v0_h0 x0)), .val (.int (v0_h1 x0)), .val (.int (v0_h2 x0)), .val (.int (v0_cnt x0)), .val (.int (v0_a x1)), .unset] []))
    refine g_iconst X14 hx (1 : Int32) 212 (hb hby at_211) rfl rfl ?_
    show Go p e below s _ _ _ (T14.setTop (mkF m 212 #[.val (.int x0), .val (.int x1), .val (.long x2), .second, .val (.long x3), .second, .val (.long x4), .second, .val (.int x5), .val (.ref dd), .val (.int (f4 (0 : Int32))), .val (.int (v0_h0 x0)), .val (.int (v0_h1 x0)), .val (.int (v0_h2 x0)), .val (.int (v0_cnt x0)), .val (.int (v0_a x1)), .unset] [(.int (1 : Int32))]))
    refine g_goto X14 hx 216 (hb hby at_212) (by decide) rfl ?_
    show Go p e below s _ _ _ (T14.setTop (mkF m 216 #[.val (.int x0), .val (.int x1), .val (.long x2), .second, .val (.long x3), .second, .val (.long x4), .second, .val (.int x5), .val (.ref dd), .val (.int (f4 (0 : Int32))), .val (.int (v0_h0 x0)), .val (.int (v0_h1 x0)), .val (.int (v0_h2 x0)), .val (.int (v0_cnt x0)), .val (.int (v0_a x1)), .unset] [(.int (1 : Int32))]))
    refine g_istore X14 hx #[.val (.int x0), .val (.int x1), .val (.long x2), .second, .val (.long x3), .second, .val (.long x4), .second, .val (.int x5), .val (.ref dd), .val (.int (1 : Int32)), .val (.int (v0_h0 x0)), .val (.int (v0_h1 x0)), .val (.int (v0_h2 x0)), .val (.int (v0_cnt x0)), .val (.int (v0_a x1)), .unset] 218 (hb hby at_216) rfl rfl ?_
    show Go p e below s _ _ _ (T14.setTop (mkF m 218 #[.val (.int x0), .val (.int x1), .val (.long x2), .second, .val (.long x3), .second, .val (.long x4), .second, .val (.int x5), .val (.ref dd), .val (.int (1 : Int32)), .val (.int (v0_h0 x0)), .val (.int (v0_h1 x0)), .val (.int (v0_h2 x0)), .val (.int (v0_cnt x0)), .val (.int (v0_a x1)), .unset] []))
    exact sg0_218 l Z a0 hw hx hby hml hret hlk hown hnm hZ x0 x1 x2 x3 x4 x5 h0 n0  dd a1 a2 a3 sz H P T _ _ _ X14 e14 Z0 NS14 P0 P1 P2 P3 P4 P5 P6 P7 P8 P9 P10 P11 P12 P13 P14 P15 P16 P17 hst.1.1 (by rw [own_r0]; exact hst.2)
theorem pd__28IJ_29V : parseMethodDescriptor "(IJ)V" = some ⟨[.int, .long], none⟩ := by decide +kernel
set_option maxRecDepth 65536 in
set_option maxHeartbeats 40000000 in
theorem sg0_169 (l : Launch) (Z : State) (a0 : Array Value) (hw : ∀ d ∈ tables_1, d.before a0 Z = true) {p : Program} {e : Env} {s : State} {m : MethodId} {args : Array Value} {below : List Frame} {meth : Method} {c : Code} (hx : p.tables.exec = Jvm.exec) (hby : c.code = code) (hml : c.maxLocals = maxLocals) (hret : meth.sig.returnType = ret) (hlk : meth.locks = false) (hown : s.vm.findClass "com/example/weir/weir/cli/DeadlinesIsEmptyPinLaw" = some m.cls) (hnm : meth.name = "law") (hZ : Z.Warmed39 s.vm) (x0 : Int32) (x1 : Int32) (x2 : Int64) (x3 : Int64) (x4 : Int64) (x5 : Int32) (h0 : Heap) (n0 : Nat) : ∀  (dd : Addr) (a1 : Addr) (a2 : Addr) (a3 : Addr) (sz : Int32) (H : Nat → Int32) (P : Nat → Int32) (T : Nat → Int64) (T0 : State) (locs : List Loc) (hS : Heap), Stand p l e room_1 s m args below meth c T0 locs 4 13 → T0.heap = hS → n0 ≤ hS.size → Fr n0 locs → Exa Z hS dd "com/example/weir/weir/cli/Deadlines" → Fld Z hS dd "com/example/weir/weir/cli/Deadlines" "heap" "[I" (.ref a1) → Fld Z hS dd "com/example/weir/weir/cli/Deadlines" "places" "[I" (.ref a2) → Fld Z hS dd "com/example/weir/weir/cli/Deadlines" "times" "[J" (.ref a3) → Fld Z hS dd "com/example/weir/weir/cli/Deadlines" "size" "I" (.int sz) → AI Z hS a1 3 H → AI Z hS a2 3 P → AJ Z hS a3 3 T → n0 ≤ a1 → n0 ≤ a2 → n0 ≤ a3 → n0 ≤ dd → dd ≠ a1 → dd ≠ a2 → dd ≠ a3 → a1 ≠ a2 → a1 ≠ a3 → a2 ≠ a3 → (own_st x0 3 H P sz) → Go p e below s (Q0 Z x0 x1 x2 x3 x4 x5 h0 n0) room_1.cells room_1.slots (T0.setTop (mkF m 169 #[.val (.int x0), .val (.int x1), .val (.long x2), .second, .val (.long x3), .second, .val (.long x4), .second, .val (.int x5), .val (.ref dd), .val (.int (f4 (0 : Int32))), .val (.int (v0_h0 x0)), .val (.int (v0_h1 x0)), .val (.int (v0_h2 x0)), .val (.int (v0_cnt x0)), .val (.int (v0_a x1)), .unset] [])) := by
  intro dd a1 a2 a3 sz H P T T0 locs hS X0 e0 Z0 N0 P0 P1 P2 P3 P4 P5 P6 P7 P8 P9 P10 P11 P12 P13 P14 P15 P16 P17 hst
  refine g_iload X0 hx 171 (hb hby at_169) rfl rfl ?_
  show Go p e below s _ _ _ (T0.setTop (mkF m 171 #[.val (.int x0), .val (.int x1), .val (.long x2), .second, .val (.long x3), .second, .val (.long x4), .second, .val (.int x5), .val (.ref dd), .val (.int (f4 (0 : Int32))), .val (.int (v0_h0 x0)), .val (.int (v0_h1 x0)), .val (.int (v0_h2 x0)), .val (.int (v0_cnt x0)), .val (.int (v0_a x1)), .unset] [(.int (v0_a x1))]))
  refine g_iconst X0 hx (2 : Int32) 172 (hb hby at_171) rfl rfl ?_
  show Go p e below s _ _ _ (T0.setTop (mkF m 172 #[.val (.int x0), .val (.int x1), .val (.long x2), .second, .val (.long x3), .second, .val (.long x4), .second, .val (.int x5), .val (.ref dd), .val (.int (f4 (0 : Int32))), .val (.int (v0_h0 x0)), .val (.int (v0_h1 x0)), .val (.int (v0_h2 x0)), .val (.int (v0_cnt x0)), .val (.int (v0_a x1)), .unset] [(.int (2 : Int32)), (.int (v0_a x1))]))
  refine g_icmp_ne X0 hx 188 175 (hb hby at_172) (by decide) rfl rfl (fun h18 => ?_) (fun h18 => ?_)
  · show Go p e below s _ _ _ (T0.setTop (mkF m 175 #[.val (.int x0), .val (.int x1), .val (.long x2), .second, .val (.long x3), .second, .val (.long x4), .second, .val (.int x5), .val (.ref dd), .val (.int (f4 (0 : Int32))), .val (.int (v0_h0 x0)), .val (.int (v0_h1 x0)), .val (.int (v0_h2 x0)), .val (.int (v0_cnt x0)), .val (.int (v0_a x1)), .unset] []))
    refine g_iload X0 hx 177 (hb hby at_175) rfl rfl ?_
    show Go p e below s _ _ _ (T0.setTop (mkF m 177 #[.val (.int x0), .val (.int x1), .val (.long x2), .second, .val (.long x3), .second, .val (.long x4), .second, .val (.int x5), .val (.ref dd), .val (.int (f4 (0 : Int32))), .val (.int (v0_h0 x0)), .val (.int (v0_h1 x0)), .val (.int (v0_h2 x0)), .val (.int (v0_cnt x0)), .val (.int (v0_a x1)), .unset] [(.int (v0_h2 x0))]))
    refine g_if0_eq X0 hx 188 180 (hb hby at_177) (by decide) rfl rfl (fun h19 => ?_) (fun h19 => ?_)
    · show Go p e below s _ _ _ (T0.setTop (mkF m 188 #[.val (.int x0), .val (.int x1), .val (.long x2), .second, .val (.long x3), .second, .val (.long x4), .second, .val (.int x5), .val (.ref dd), .val (.int (f4 (0 : Int32))), .val (.int (v0_h0 x0)), .val (.int (v0_h1 x0)), .val (.int (v0_h2 x0)), .val (.int (v0_cnt x0)), .val (.int (v0_a x1)), .unset] []))
      exact sg0_188 l Z a0 hw hx hby hml hret hlk hown hnm hZ x0 x1 x2 x3 x4 x5 h0 n0  dd a1 a2 a3 sz H P T _ _ _ X0 e0 Z0 N0 P0 P1 P2 P3 P4 P5 P6 P7 P8 P9 P10 P11 P12 P13 P14 P15 P16 P17 hst
    · show Go p e below s _ _ _ (T0.setTop (mkF m 180 #[.val (.int x0), .val (.int x1), .val (.long x2), .second, .val (.long x3), .second, .val (.long x4), .second, .val (.int x5), .val (.ref dd), .val (.int (f4 (0 : Int32))), .val (.int (v0_h0 x0)), .val (.int (v0_h1 x0)), .val (.int (v0_h2 x0)), .val (.int (v0_cnt x0)), .val (.int (v0_a x1)), .unset] []))
      refine g_aload X0 hx 182 (hb hby at_180) rfl rfl rfl ?_
      show Go p e below s _ _ _ (T0.setTop (mkF m 182 #[.val (.int x0), .val (.int x1), .val (.long x2), .second, .val (.long x3), .second, .val (.long x4), .second, .val (.int x5), .val (.ref dd), .val (.int (f4 (0 : Int32))), .val (.int (v0_h0 x0)), .val (.int (v0_h1 x0)), .val (.int (v0_h2 x0)), .val (.int (v0_cnt x0)), .val (.int (v0_a x1)), .unset] [(.ref dd)]))
      refine g_iconst X0 hx (2 : Int32) 183 (hb hby at_182) rfl rfl ?_
      show Go p e below s _ _ _ (T0.setTop (mkF m 183 #[.val (.int x0), .val (.int x1), .val (.long x2), .second, .val (.long x3), .second, .val (.long x4), .second, .val (.int x5), .val (.ref dd), .val (.int (f4 (0 : Int32))), .val (.int (v0_h0 x0)), .val (.int (v0_h1 x0)), .val (.int (v0_h2 x0)), .val (.int (v0_cnt x0)), .val (.int (v0_a x1)), .unset] [(.int (2 : Int32)), (.ref dd)]))
      refine g_lload X0 hx 185 (hb hby at_183) rfl rfl ?_
      show Go p e below s _ _ _ (T0.setTop (mkF m 185 #[.val (.int x0), .val (.int x1), .val (.long x2), .second, .val (.long x3), .second, .val (.long x4), .second, .val (.int x5), .val (.ref dd), .val (.int (f4 (0 : Int32))), .val (.int (v0_h0 x0)), .val (.int (v0_h1 x0)), .val (.int (v0_h2 x0)), .val (.int (v0_cnt x0)), .val (.int (v0_a x1)), .unset] [(.long x3), (.int (2 : Int32)), (.ref dd)]))
      refine g_callV X0 hx hZ hown (hw _ (List.mem_of_getElem? (i := 32) rfl)) (hw _ (List.mem_of_getElem? (i := 33) rfl)) (hw _ (List.mem_of_getElem? (i := 35) rfl)) (hw _ (List.mem_of_getElem? (i := 34) rfl)) (hw _ (List.mem_of_getElem? (i := 2) rfl)) (hw _ (List.mem_of_getElem? (i := 36) rfl)) (by decide) e0 dd P0 (rm6 l Z a0 hw [] dd (2 : Int32) x3 a1 a2 a3 sz H P T 2 (own_nt x0 3) hS n0 Z0 P0 P1 P2 P3 P4 P5 P6 P7 P8 P9 P10 P11 P12 P13 P14 P15 P16 P17 (rfl : (2 : Int32).toInt = 2) (by decide : 2 < 3) (hst.2 : sz.toInt = (own_nt x0 3)) (Nat.le_trans (own_ntl x0 3) (by decide) : (own_nt x0 3) ≤ 3) (hst.1.1 : ∀ i, i < 3 → own_3 (H i)) ((own_ta (by decide) hst (own_b2t h19)).1 : P 2 < 0 → (own_nt x0 3) < 3) ((own_ta (by decide) hst (own_b2t h19)).2 : ¬ P 2 < 0 → own_3 (P 2))) [(.int (2 : Int32)), (.long x3)] [] 0 rfl (lenOf pd__28IJ_29V rfl) rfl (Nat.le_of_eq rfl) (by decide) (by decide) (by decide) (by decide) (by rw [hml]; rfl) (hb hby at_185) ?_
      intro T20 L20 v20 X20 q20
      obtain ⟨rfl, N20, K20, p20_0, p20_1, p20_2, p20_3, p20_4, p20_5, p20_6⟩ := q20
      have NN20 := Fr.app N0 N20
      have k20_0 := P0.keep K20
      have Z20 : n0 ≤ T20.heap.size := Nat.le_trans Z0 K20.1
      show Go p e below s _ _ _ (T20.setTop (mkF m 188 #[.val (.int x0), .val (.int x1), .val (.long x2), .second, .val (.long x3), .second, .val (.long x4), .second, .val (.int x5), .val (.ref dd), .val (.int (f4 (0 : Int32))), .val (.int (v0_h0 x0)), .val (.int (v0_h1 x0)), .val (.int (v0_h2 x0)), .val (.int (v0_cnt x0)), .val (.int (v0_a x1)), .unset] []))
      exact sg0_188 l Z a0 hw hx hby hml hret hlk hown hnm hZ x0 x1 x2 x3 x4 x5 h0 n0  dd a1 a2 a3 (own_sz (P 2) sz) (g6_a1 (2 : Int32) x3 sz H P T 2 (own_nt x0 3)) (g6_a2 (2 : Int32) x3 sz H P T 2 (own_nt x0 3)) (upd T 2 x3) _ _ _ X20 rfl Z20 NN20 k20_0 p20_0 p20_1 p20_2 p20_3 p20_4 p20_5 p20_6 P8 P9 P10 P11 P12 P13 P14 P15 P16 P17 (own_again _ _ (by decide) rfl hst (own_b2t h19))
  · show Go p e below s _ _ _ (T0.setTop (mkF m 188 #[.val (.int x0), .val (.int x1), .val (.long x2), .second, .val (.long x3), .second, .val (.long x4), .second, .val (.int x5), .val (.ref dd), .val (.int (f4 (0 : Int32))), .val (.int (v0_h0 x0)), .val (.int (v0_h1 x0)), .val (.int (v0_h2 x0)), .val (.int (v0_cnt x0)), .val (.int (v0_a x1)), .unset] []))
    exact sg0_188 l Z a0 hw hx hby hml hret hlk hown hnm hZ x0 x1 x2 x3 x4 x5 h0 n0  dd a1 a2 a3 sz H P T _ _ _ X0 e0 Z0 N0 P0 P1 P2 P3 P4 P5 P6 P7 P8 P9 P10 P11 P12 P13 P14 P15 P16 P17 hst
set_option maxRecDepth 65536 in
set_option maxHeartbeats 40000000 in
theorem sg0_151 (l : Launch) (Z : State) (a0 : Array Value) (hw : ∀ d ∈ tables_1, d.before a0 Z = true) {p : Program} {e : Env} {s : State} {m : MethodId} {args : Array Value} {below : List Frame} {meth : Method} {c : Code} (hx : p.tables.exec = Jvm.exec) (hby : c.code = code) (hml : c.maxLocals = maxLocals) (hret : meth.sig.returnType = ret) (hlk : meth.locks = false) (hown : s.vm.findClass "com/example/weir/weir/cli/DeadlinesIsEmptyPinLaw" = some m.cls) (hnm : meth.name = "law") (hZ : Z.Warmed39 s.vm) (x0 : Int32) (x1 : Int32) (x2 : Int64) (x3 : Int64) (x4 : Int64) (x5 : Int32) (h0 : Heap) (n0 : Nat) : ∀  (dd : Addr) (a1 : Addr) (a2 : Addr) (a3 : Addr) (sz : Int32) (H : Nat → Int32) (P : Nat → Int32) (T : Nat → Int64) (T0 : State) (locs : List Loc) (hS : Heap), Stand p l e room_1 s m args below meth c T0 locs 4 13 → T0.heap = hS → n0 ≤ hS.size → Fr n0 locs → Exa Z hS dd "com/example/weir/weir/cli/Deadlines" → Fld Z hS dd "com/example/weir/weir/cli/Deadlines" "heap" "[I" (.ref a1) → Fld Z hS dd "com/example/weir/weir/cli/Deadlines" "places" "[I" (.ref a2) → Fld Z hS dd "com/example/weir/weir/cli/Deadlines" "times" "[J" (.ref a3) → Fld Z hS dd "com/example/weir/weir/cli/Deadlines" "size" "I" (.int sz) → AI Z hS a1 3 H → AI Z hS a2 3 P → AJ Z hS a3 3 T → n0 ≤ a1 → n0 ≤ a2 → n0 ≤ a3 → n0 ≤ dd → dd ≠ a1 → dd ≠ a2 → dd ≠ a3 → a1 ≠ a2 → a1 ≠ a3 → a2 ≠ a3 → (own_st x0 3 H P sz) → Go p e below s (Q0 Z x0 x1 x2 x3 x4 x5 h0 n0) room_1.cells room_1.slots (T0.setTop (mkF m 151 #[.val (.int x0), .val (.int x1), .val (.long x2), .second, .val (.long x3), .second, .val (.long x4), .second, .val (.int x5), .val (.ref dd), .val (.int (f4 (0 : Int32))), .val (.int (v0_h0 x0)), .val (.int (v0_h1 x0)), .val (.int (v0_h2 x0)), .val (.int (v0_cnt x0)), .val (.int (v0_a x1)), .unset] [])) := by
  intro dd a1 a2 a3 sz H P T T0 locs hS X0 e0 Z0 N0 P0 P1 P2 P3 P4 P5 P6 P7 P8 P9 P10 P11 P12 P13 P14 P15 P16 P17 hst
  refine g_iload X0 hx 153 (hb hby at_151) rfl rfl ?_
  show Go p e below s _ _ _ (T0.setTop (mkF m 153 #[.val (.int x0), .val (.int x1), .val (.long x2), .second, .val (.long x3), .second, .val (.long x4), .second, .val (.int x5), .val (.ref dd), .val (.int (f4 (0 : Int32))), .val (.int (v0_h0 x0)), .val (.int (v0_h1 x0)), .val (.int (v0_h2 x0)), .val (.int (v0_cnt x0)), .val (.int (v0_a x1)), .unset] [(.int (v0_a x1))]))
  refine g_iconst X0 hx (1 : Int32) 154 (hb hby at_153) rfl rfl ?_
  show Go p e below s _ _ _ (T0.setTop (mkF m 154 #[.val (.int x0), .val (.int x1), .val (.long x2), .second, .val (.long x3), .second, .val (.long x4), .second, .val (.int x5), .val (.ref dd), .val (.int (f4 (0 : Int32))), .val (.int (v0_h0 x0)), .val (.int (v0_h1 x0)), .val (.int (v0_h2 x0)), .val (.int (v0_cnt x0)), .val (.int (v0_a x1)), .unset] [(.int (1 : Int32)), (.int (v0_a x1))]))
  refine g_icmp_ne X0 hx 169 157 (hb hby at_154) (by decide) rfl rfl (fun h21 => ?_) (fun h21 => ?_)
  · show Go p e below s _ _ _ (T0.setTop (mkF m 157 #[.val (.int x0), .val (.int x1), .val (.long x2), .second, .val (.long x3), .second, .val (.long x4), .second, .val (.int x5), .val (.ref dd), .val (.int (f4 (0 : Int32))), .val (.int (v0_h0 x0)), .val (.int (v0_h1 x0)), .val (.int (v0_h2 x0)), .val (.int (v0_cnt x0)), .val (.int (v0_a x1)), .unset] []))
    refine g_iload X0 hx 159 (hb hby at_157) rfl rfl ?_
    show Go p e below s _ _ _ (T0.setTop (mkF m 159 #[.val (.int x0), .val (.int x1), .val (.long x2), .second, .val (.long x3), .second, .val (.long x4), .second, .val (.int x5), .val (.ref dd), .val (.int (f4 (0 : Int32))), .val (.int (v0_h0 x0)), .val (.int (v0_h1 x0)), .val (.int (v0_h2 x0)), .val (.int (v0_cnt x0)), .val (.int (v0_a x1)), .unset] [(.int (v0_h1 x0))]))
    refine g_if0_eq X0 hx 169 162 (hb hby at_159) (by decide) rfl rfl (fun h22 => ?_) (fun h22 => ?_)
    · show Go p e below s _ _ _ (T0.setTop (mkF m 169 #[.val (.int x0), .val (.int x1), .val (.long x2), .second, .val (.long x3), .second, .val (.long x4), .second, .val (.int x5), .val (.ref dd), .val (.int (f4 (0 : Int32))), .val (.int (v0_h0 x0)), .val (.int (v0_h1 x0)), .val (.int (v0_h2 x0)), .val (.int (v0_cnt x0)), .val (.int (v0_a x1)), .unset] []))
      exact sg0_169 l Z a0 hw hx hby hml hret hlk hown hnm hZ x0 x1 x2 x3 x4 x5 h0 n0  dd a1 a2 a3 sz H P T _ _ _ X0 e0 Z0 N0 P0 P1 P2 P3 P4 P5 P6 P7 P8 P9 P10 P11 P12 P13 P14 P15 P16 P17 hst
    · show Go p e below s _ _ _ (T0.setTop (mkF m 162 #[.val (.int x0), .val (.int x1), .val (.long x2), .second, .val (.long x3), .second, .val (.long x4), .second, .val (.int x5), .val (.ref dd), .val (.int (f4 (0 : Int32))), .val (.int (v0_h0 x0)), .val (.int (v0_h1 x0)), .val (.int (v0_h2 x0)), .val (.int (v0_cnt x0)), .val (.int (v0_a x1)), .unset] []))
      refine g_aload X0 hx 164 (hb hby at_162) rfl rfl rfl ?_
      show Go p e below s _ _ _ (T0.setTop (mkF m 164 #[.val (.int x0), .val (.int x1), .val (.long x2), .second, .val (.long x3), .second, .val (.long x4), .second, .val (.int x5), .val (.ref dd), .val (.int (f4 (0 : Int32))), .val (.int (v0_h0 x0)), .val (.int (v0_h1 x0)), .val (.int (v0_h2 x0)), .val (.int (v0_cnt x0)), .val (.int (v0_a x1)), .unset] [(.ref dd)]))
      refine g_iconst X0 hx (1 : Int32) 165 (hb hby at_164) rfl rfl ?_
      show Go p e below s _ _ _ (T0.setTop (mkF m 165 #[.val (.int x0), .val (.int x1), .val (.long x2), .second, .val (.long x3), .second, .val (.long x4), .second, .val (.int x5), .val (.ref dd), .val (.int (f4 (0 : Int32))), .val (.int (v0_h0 x0)), .val (.int (v0_h1 x0)), .val (.int (v0_h2 x0)), .val (.int (v0_cnt x0)), .val (.int (v0_a x1)), .unset] [(.int (1 : Int32)), (.ref dd)]))
      refine g_lloadN X0 hx 166 (hb hby at_165) rfl rfl ?_
      show Go p e below s _ _ _ (T0.setTop (mkF m 166 #[.val (.int x0), .val (.int x1), .val (.long x2), .second, .val (.long x3), .second, .val (.long x4), .second, .val (.int x5), .val (.ref dd), .val (.int (f4 (0 : Int32))), .val (.int (v0_h0 x0)), .val (.int (v0_h1 x0)), .val (.int (v0_h2 x0)), .val (.int (v0_cnt x0)), .val (.int (v0_a x1)), .unset] [(.long x2), (.int (1 : Int32)), (.ref dd)]))
      refine g_callV X0 hx hZ hown (hw _ (List.mem_of_getElem? (i := 32) rfl)) (hw _ (List.mem_of_getElem? (i := 33) rfl)) (hw _ (List.mem_of_getElem? (i := 35) rfl)) (hw _ (List.mem_of_getElem? (i := 34) rfl)) (hw _ (List.mem_of_getElem? (i := 2) rfl)) (hw _ (List.mem_of_getElem? (i := 36) rfl)) (by decide) e0 dd P0 (rm6 l Z a0 hw [] dd (1 : Int32) x2 a1 a2 a3 sz H P T 1 (own_nt x0 3) hS n0 Z0 P0 P1 P2 P3 P4 P5 P6 P7 P8 P9 P10 P11 P12 P13 P14 P15 P16 P17 (rfl : (1 : Int32).toInt = 1) (by decide : 1 < 3) (hst.2 : sz.toInt = (own_nt x0 3)) (Nat.le_trans (own_ntl x0 3) (by decide) : (own_nt x0 3) ≤ 3) (hst.1.1 : ∀ i, i < 3 → own_3 (H i)) ((own_ta (by decide) hst (own_b1t h22)).1 : P 1 < 0 → (own_nt x0 3) < 3) ((own_ta (by decide) hst (own_b1t h22)).2 : ¬ P 1 < 0 → own_3 (P 1))) [(.int (1 : Int32)), (.long x2)] [] 0 rfl (lenOf pd__28IJ_29V rfl) rfl (Nat.le_of_eq rfl) (by decide) (by decide) (by decide) (by decide) (by rw [hml]; rfl) (hb hby at_166) ?_
      intro T23 L23 v23 X23 q23
      obtain ⟨rfl, N23, K23, p23_0, p23_1, p23_2, p23_3, p23_4, p23_5, p23_6⟩ := q23
      have NN23 := Fr.app N0 N23
      have k23_0 := P0.keep K23
      have Z23 : n0 ≤ T23.heap.size := Nat.le_trans Z0 K23.1
      show Go p e below s _ _ _ (T23.setTop (mkF m 169 #[.val (.int x0), .val (.int x1), .val (.long x2), .second, .val (.long x3), .second, .val (.long x4), .second, .val (.int x5), .val (.ref dd), .val (.int (f4 (0 : Int32))), .val (.int (v0_h0 x0)), .val (.int (v0_h1 x0)), .val (.int (v0_h2 x0)), .val (.int (v0_cnt x0)), .val (.int (v0_a x1)), .unset] []))
      exact sg0_169 l Z a0 hw hx hby hml hret hlk hown hnm hZ x0 x1 x2 x3 x4 x5 h0 n0  dd a1 a2 a3 (own_sz (P 1) sz) (g6_a1 (1 : Int32) x2 sz H P T 1 (own_nt x0 3)) (g6_a2 (1 : Int32) x2 sz H P T 1 (own_nt x0 3)) (upd T 1 x2) _ _ _ X23 rfl Z23 NN23 k23_0 p23_0 p23_1 p23_2 p23_3 p23_4 p23_5 p23_6 P8 P9 P10 P11 P12 P13 P14 P15 P16 P17 (own_again _ _ (by decide) rfl hst (own_b1t h22))
  · show Go p e below s _ _ _ (T0.setTop (mkF m 169 #[.val (.int x0), .val (.int x1), .val (.long x2), .second, .val (.long x3), .second, .val (.long x4), .second, .val (.int x5), .val (.ref dd), .val (.int (f4 (0 : Int32))), .val (.int (v0_h0 x0)), .val (.int (v0_h1 x0)), .val (.int (v0_h2 x0)), .val (.int (v0_cnt x0)), .val (.int (v0_a x1)), .unset] []))
    exact sg0_169 l Z a0 hw hx hby hml hret hlk hown hnm hZ x0 x1 x2 x3 x4 x5 h0 n0  dd a1 a2 a3 sz H P T _ _ _ X0 e0 Z0 N0 P0 P1 P2 P3 P4 P5 P6 P7 P8 P9 P10 P11 P12 P13 P14 P15 P16 P17 hst
def z0_104_s0_24 (x0 : Int32) : Int32 := (if (v0_h0 x0) = (0 : Int32) then (0 : Int32) else (1 : Int32))
def z0_114_s0_25 (x0 : Int32) : Int32 := (if (v0_h1 x0) = (0 : Int32) then (0 : Int32) else (1 : Int32))
def z0_125_s0_26 (x0 : Int32) : Int32 := (if (v0_h2 x0) = (0 : Int32) then (0 : Int32) else (1 : Int32))
set_option maxRecDepth 65536 in
set_option maxHeartbeats 40000000 in
theorem sg0_94 (l : Launch) (Z : State) (a0 : Array Value) (hw : ∀ d ∈ tables_1, d.before a0 Z = true) {p : Program} {e : Env} {s : State} {m : MethodId} {args : Array Value} {below : List Frame} {meth : Method} {c : Code} (hx : p.tables.exec = Jvm.exec) (hby : c.code = code) (hml : c.maxLocals = maxLocals) (hret : meth.sig.returnType = ret) (hlk : meth.locks = false) (hown : s.vm.findClass "com/example/weir/weir/cli/DeadlinesIsEmptyPinLaw" = some m.cls) (hnm : meth.name = "law") (hZ : Z.Warmed39 s.vm) (x0 : Int32) (x1 : Int32) (x2 : Int64) (x3 : Int64) (x4 : Int64) (x5 : Int32) (h0 : Heap) (n0 : Nat) : ∀  (dd : Addr) (a1 : Addr) (a2 : Addr) (a3 : Addr) (sz : Int32) (H : Nat → Int32) (P : Nat → Int32) (T : Nat → Int64) (T0 : State) (locs : List Loc) (hS : Heap), Stand p l e room_1 s m args below meth c T0 locs 4 13 → T0.heap = hS → n0 ≤ hS.size → Fr n0 locs → Exa Z hS dd "com/example/weir/weir/cli/Deadlines" → Fld Z hS dd "com/example/weir/weir/cli/Deadlines" "heap" "[I" (.ref a1) → Fld Z hS dd "com/example/weir/weir/cli/Deadlines" "places" "[I" (.ref a2) → Fld Z hS dd "com/example/weir/weir/cli/Deadlines" "times" "[J" (.ref a3) → Fld Z hS dd "com/example/weir/weir/cli/Deadlines" "size" "I" (.int sz) → AI Z hS a1 3 H → AI Z hS a2 3 P → AJ Z hS a3 3 T → n0 ≤ a1 → n0 ≤ a2 → n0 ≤ a3 → n0 ≤ dd → dd ≠ a1 → dd ≠ a2 → dd ≠ a3 → a1 ≠ a2 → a1 ≠ a3 → a2 ≠ a3 → (own_st x0 3 H P sz) → Go p e below s (Q0 Z x0 x1 x2 x3 x4 x5 h0 n0) room_1.cells room_1.slots (T0.setTop (mkF m 94 #[.val (.int x0), .val (.int x1), .val (.long x2), .second, .val (.long x3), .second, .val (.long x4), .second, .val (.int x5), .val (.ref dd), .val (.int (f4 (0 : Int32))), .val (.int (v0_h0 x0)), .val (.int (v0_h1 x0)), .val (.int (v0_h2 x0)), .unset, .unset, .unset] [])) := by
  intro dd a1 a2 a3 sz H P T T0 locs hS X0 e0 Z0 N0 P0 P1 P2 P3 P4 P5 P6 P7 P8 P9 P10 P11 P12 P13 P14 P15 P16 P17 hst
  refine g_iload X0 hx 96 (hb hby at_94) rfl rfl ?_
  show Go p e below s _ _ _ (T0.setTop (mkF m 96 #[.val (.int x0), .val (.int x1), .val (.long x2), .second, .val (.long x3), .second, .val (.long x4), .second, .val (.int x5), .val (.ref dd), .val (.int (f4 (0 : Int32))), .val (.int (v0_h0 x0)), .val (.int (v0_h1 x0)), .val (.int (v0_h2 x0)), .unset, .unset, .unset] [(.int (v0_h0 x0))]))
  have J24 : Go p e below s (Q0 Z x0 x1 x2 x3 x4 x5 h0 n0) room_1.cells room_1.slots (T0.setTop (mkF m 104 #[.val (.int x0), .val (.int x1), .val (.long x2), .second, .val (.long x3), .second, .val (.long x4), .second, .val (.int x5), .val (.ref dd), .val (.int (f4 (0 : Int32))), .val (.int (v0_h0 x0)), .val (.int (v0_h1 x0)), .val (.int (v0_h2 x0)), .unset, .unset, .unset] [(.int (z0_104_s0_24 x0))])) := by
    refine g_iload X0 hx 106 (hb hby at_104) rfl rfl ?_
    show Go p e below s _ _ _ (T0.setTop (mkF m 106 #[.val (.int x0), .val (.int x1), .val (.long x2), .second, .val (.long x3), .second, .val (.long x4), .second, .val (.int x5), .val (.ref dd), .val (.int (f4 (0 : Int32))), .val (.int (v0_h0 x0)), .val (.int (v0_h1 x0)), .val (.int (v0_h2 x0)), .unset, .unset, .unset] [(.int (v0_h1 x0)), (.int (z0_104_s0_24 x0))]))
    have J25 : Go p e below s (Q0 Z x0 x1 x2 x3 x4 x5 h0 n0) room_1.cells room_1.slots (T0.setTop (mkF m 114 #[.val (.int x0), .val (.int x1), .val (.long x2), .second, .val (.long x3), .second, .val (.long x4), .second, .val (.int x5), .val (.ref dd), .val (.int (f4 (0 : Int32))), .val (.int (v0_h0 x0)), .val (.int (v0_h1 x0)), .val (.int (v0_h2 x0)), .unset, .unset, .unset] [(.int (z0_114_s0_25 x0)), (.int (z0_104_s0_24 x0))])) := by
      refine g_iadd X0 hx 115 (hb hby at_114) rfl ?_
      show Go p e below s _ _ _ (T0.setTop (mkF m 115 #[.val (.int x0), .val (.int x1), .val (.long x2), .second, .val (.long x3), .second, .val (.long x4), .second, .val (.int x5), .val (.ref dd), .val (.int (f4 (0 : Int32))), .val (.int (v0_h0 x0)), .val (.int (v0_h1 x0)), .val (.int (v0_h2 x0)), .unset, .unset, .unset] [(.int ((z0_104_s0_24 x0) + (z0_114_s0_25 x0)))]))
      refine g_iload X0 hx 117 (hb hby at_115) rfl rfl ?_
      show Go p e below s _ _ _ (T0.setTop (mkF m 117 #[.val (.int x0), .val (.int x1), .val (.long x2), .second, .val (.long x3), .second, .val (.long x4), .second, .val (.int x5), .val (.ref dd), .val (.int (f4 (0 : Int32))), .val (.int (v0_h0 x0)), .val (.int (v0_h1 x0)), .val (.int (v0_h2 x0)), .unset, .unset, .unset] [(.int (v0_h2 x0)), (.int ((z0_104_s0_24 x0) + (z0_114_s0_25 x0)))]))
      have J26 : Go p e below s (Q0 Z x0 x1 x2 x3 x4 x5 h0 n0) room_1.cells room_1.slots (T0.setTop (mkF m 125 #[.val (.int x0), .val (.int x1), .val (.long x2), .second, .val (.long x3), .second, .val (.long x4), .second, .val (.int x5), .val (.ref dd), .val (.int (f4 (0 : Int32))), .val (.int (v0_h0 x0)), .val (.int (v0_h1 x0)), .val (.int (v0_h2 x0)), .unset, .unset, .unset] [(.int (z0_125_s0_26 x0)), (.int ((z0_104_s0_24 x0) + (z0_114_s0_25 x0)))])) := by
        refine g_iadd X0 hx 126 (hb hby at_125) rfl ?_
        show Go p e below s _ _ _ (T0.setTop (mkF m 126 #[.val (.int x0), .val (.int x1), .val (.long x2), .second, .val (.long x3), .second, .val (.long x4), .second, .val (.int x5), .val (.ref dd), .val (.int (f4 (0 : Int32))), .val (.int (v0_h0 x0)), .val (.int (v0_h1 x0)), .val (.int (v0_h2 x0)), .unset, .unset, .unset] [(.int (((z0_104_s0_24 x0) + (z0_114_s0_25 x0)) + (z0_125_s0_26 x0)))]))
        refine g_istore X0 hx #[.val (.int x0), .val (.int x1), .val (.long x2), .second, .val (.long x3), .second, .val (.long x4), .second, .val (.int x5), .val (.ref dd), .val (.int (f4 (0 : Int32))), .val (.int (v0_h0 x0)), .val (.int (v0_h1 x0)), .val (.int (v0_h2 x0)), .val (.int (v0_cnt x0)), .unset, .unset] 128 (hb hby at_126) rfl rfl ?_
        show Go p e below s _ _ _ (T0.setTop (mkF m 128 #[.val (.int x0), .val (.int x1), .val (.long x2), .second, .val (.long x3), .second, .val (.long x4), .second, .val (.int x5), .val (.ref dd), .val (.int (f4 (0 : Int32))), .val (.int (v0_h0 x0)), .val (.int (v0_h1 x0)), .val (.int (v0_h2 x0)), .val (.int (v0_cnt x0)), .unset, .unset] []))
        refine g_iloadN X0 hx 129 (hb hby at_128) rfl rfl ?_
        show Go p e below s _ _ _ (T0.setTop (mkF m 129 #[.val (.int x0), .val (.int x1), .val (.long x2), .second, .val (.long x3), .second, .val (.long x4), .second, .val (.int x5), .val (.ref dd), .val (.int (f4 (0 : Int32))), .val (.int (v0_h0 x0)), .val (.int (v0_h1 x0)), .val (.int (v0_h2 x0)), .val (.int (v0_cnt x0)), .unset, .unset] [(.int x1)]))
        refine g_iconst X0 hx (3 : Int32) 130 (hb hby at_129) rfl rfl ?_
        show Go p e below s _ _ _ (T0.setTop (mkF m 130 #[.val (.int x0), .val (.int x1), .val (.long x2), .second, .val (.long x3), .second, .val (.long x4), .second, .val (.int x5), .val (.ref dd), .val (.int (f4 (0 : Int32))), .val (.int (v0_h0 x0)), .val (.int (v0_h1 x0)), .val (.int (v0_h2 x0)), .val (.int (v0_cnt x0)), .unset, .unset] [(.int (3 : Int32)), (.int x1)]))
        refine g_iand X0 hx 131 (hb hby at_130) rfl ?_
        show Go p e below s _ _ _ (T0.setTop (mkF m 131 #[.val (.int x0), .val (.int x1), .val (.long x2), .second, .val (.long x3), .second, .val (.long x4), .second, .val (.int x5), .val (.ref dd), .val (.int (f4 (0 : Int32))), .val (.int (v0_h0 x0)), .val (.int (v0_h1 x0)), .val (.int (v0_h2 x0)), .val (.int (v0_cnt x0)), .unset, .unset] [(.int (x1 &&& (3 : Int32)))]))
        refine g_istore X0 hx #[.val (.int x0), .val (.int x1), .val (.long x2), .second, .val (.long x3), .second, .val (.long x4), .second, .val (.int x5), .val (.ref dd), .val (.int (f4 (0 : Int32))), .val (.int (v0_h0 x0)), .val (.int (v0_h1 x0)), .val (.int (v0_h2 x0)), .val (.int (v0_cnt x0)), .val (.int (v0_a x1)), .unset] 133 (hb hby at_131) rfl rfl ?_
        show Go p e below s _ _ _ (T0.setTop (mkF m 133 #[.val (.int x0), .val (.int x1), .val (.long x2), .second, .val (.long x3), .second, .val (.long x4), .second, .val (.int x5), .val (.ref dd), .val (.int (f4 (0 : Int32))), .val (.int (v0_h0 x0)), .val (.int (v0_h1 x0)), .val (.int (v0_h2 x0)), .val (.int (v0_cnt x0)), .val (.int (v0_a x1)), .unset] []))
        refine g_iload X0 hx 135 (hb hby at_133) rfl rfl ?_
        show Go p e below s _ _ _ (T0.setTop (mkF m 135 #[.val (.int x0), .val (.int x1), .val (.long x2), .second, .val (.long x3), .second, .val (.long x4), .second, .val (.int x5), .val (.ref dd), .val (.int (f4 (0 : Int32))), .val (.int (v0_h0 x0)), .val (.int (v0_h1 x0)), .val (.int (v0_h2 x0)), .val (.int (v0_cnt x0)), .val (.int (v0_a x1)), .unset] [(.int (v0_a x1))]))
        refine g_if0_ne X0 hx 151 138 (hb hby at_135) (by decide) rfl rfl (fun h27 => ?_) (fun h27 => ?_)
        · show Go p e below s _ _ _ (T0.setTop (mkF m 138 #[.val (.int x0), .val (.int x1), .val (.long x2), .second, .val (.long x3), .second, .val (.long x4), .second, .val (.int x5), .val (.ref dd), .val (.int (f4 (0 : Int32))), .val (.int (v0_h0 x0)), .val (.int (v0_h1 x0)), .val (.int (v0_h2 x0)), .val (.int (v0_cnt x0)), .val (.int (v0_a x1)), .unset] []))
          refine g_iload X0 hx 140 (hb hby at_138) rfl rfl ?_
          show Go p e below s _ _ _ (T0.setTop (mkF m 140 #[.val (.int x0), .val (.int x1), .val (.long x2), .second, .val (.long x3), .second, .val (.long x4), .second, .val (.int x5), .val (.ref dd), .val (.int (f4 (0 : Int32))), .val (.int (v0_h0 x0)), .val (.int (v0_h1 x0)), .val (.int (v0_h2 x0)), .val (.int (v0_cnt x0)), .val (.int (v0_a x1)), .unset] [(.int (v0_h0 x0))]))
          refine g_if0_eq X0 hx 151 143 (hb hby at_140) (by decide) rfl rfl (fun h28 => ?_) (fun h28 => ?_)
          · show Go p e below s _ _ _ (T0.setTop (mkF m 151 #[.val (.int x0), .val (.int x1), .val (.long x2), .second, .val (.long x3), .second, .val (.long x4), .second, .val (.int x5), .val (.ref dd), .val (.int (f4 (0 : Int32))), .val (.int (v0_h0 x0)), .val (.int (v0_h1 x0)), .val (.int (v0_h2 x0)), .val (.int (v0_cnt x0)), .val (.int (v0_a x1)), .unset] []))
            exact sg0_151 l Z a0 hw hx hby hml hret hlk hown hnm hZ x0 x1 x2 x3 x4 x5 h0 n0  dd a1 a2 a3 sz H P T _ _ _ X0 e0 Z0 N0 P0 P1 P2 P3 P4 P5 P6 P7 P8 P9 P10 P11 P12 P13 P14 P15 P16 P17 hst
          · show Go p e below s _ _ _ (T0.setTop (mkF m 143 #[.val (.int x0), .val (.int x1), .val (.long x2), .second, .val (.long x3), .second, .val (.long x4), .second, .val (.int x5), .val (.ref dd), .val (.int (f4 (0 : Int32))), .val (.int (v0_h0 x0)), .val (.int (v0_h1 x0)), .val (.int (v0_h2 x0)), .val (.int (v0_cnt x0)), .val (.int (v0_a x1)), .unset] []))
            refine g_aload X0 hx 145 (hb hby at_143) rfl rfl rfl ?_
            show Go p e below s _ _ _ (T0.setTop (mkF m 145 #[.val (.int x0), .val (.int x1), .val (.long x2), .second, .val (.long x3), .second, .val (.long x4), .second, .val (.int x5), .val (.ref dd), .val (.int (f4 (0 : Int32))), .val (.int (v0_h0 x0)), .val (.int (v0_h1 x0)), .val (.int (v0_h2 x0)), .val (.int (v0_cnt x0)), .val (.int (v0_a x1)), .unset] [(.ref dd)]))
            refine g_iconst X0 hx (0 : Int32) 146 (hb hby at_145) rfl rfl ?_
            show Go p e below s _ _ _ (T0.setTop (mkF m 146 #[.val (.int x0), .val (.int x1), .val (.long x2), .second, .val (.long x3), .second, .val (.long x4), .second, .val (.int x5), .val (.ref dd), .val (.int (f4 (0 : Int32))), .val (.int (v0_h0 x0)), .val (.int (v0_h1 x0)), .val (.int (v0_h2 x0)), .val (.int (v0_cnt x0)), .val (.int (v0_a x1)), .unset] [(.int (0 : Int32)), (.ref dd)]))
            refine g_lload X0 hx 148 (hb hby at_146) rfl rfl ?_
            show Go p e below s _ _ _ (T0.setTop (mkF m 148 #[.val (.int x0), .val (.int x1), .val (.long x2), .second, .val (.long x3), .second, .val (.long x4), .second, .val (.int x5), .val (.ref dd), .val (.int (f4 (0 : Int32))), .val (.int (v0_h0 x0)), .val (.int (v0_h1 x0)), .val (.int (v0_h2 x0)), .val (.int (v0_cnt x0)), .val (.int (v0_a x1)), .unset] [(.long x4), (.int (0 : Int32)), (.ref dd)]))
            refine g_callV X0 hx hZ hown (hw _ (List.mem_of_getElem? (i := 32) rfl)) (hw _ (List.mem_of_getElem? (i := 33) rfl)) (hw _ (List.mem_of_getElem? (i := 35) rfl)) (hw _ (List.mem_of_getElem? (i := 34) rfl)) (hw _ (List.mem_of_getElem? (i := 2) rfl)) (hw _ (List.mem_of_getElem? (i := 36) rfl)) (by decide) e0 dd P0 (rm6 l Z a0 hw [] dd (0 : Int32) x4 a1 a2 a3 sz H P T 0 (own_nt x0 3) hS n0 Z0 P0 P1 P2 P3 P4 P5 P6 P7 P8 P9 P10 P11 P12 P13 P14 P15 P16 P17 (rfl : (0 : Int32).toInt = 0) (by decide : 0 < 3) (hst.2 : sz.toInt = (own_nt x0 3)) (Nat.le_trans (own_ntl x0 3) (by decide) : (own_nt x0 3) ≤ 3) (hst.1.1 : ∀ i, i < 3 → own_3 (H i)) ((own_ta (by decide) hst (own_b0t h28)).1 : P 0 < 0 → (own_nt x0 3) < 3) ((own_ta (by decide) hst (own_b0t h28)).2 : ¬ P 0 < 0 → own_3 (P 0))) [(.int (0 : Int32)), (.long x4)] [] 0 rfl (lenOf pd__28IJ_29V rfl) rfl (Nat.le_of_eq rfl) (by decide) (by decide) (by decide) (by decide) (by rw [hml]; rfl) (hb hby at_148) ?_
            intro T29 L29 v29 X29 q29
            obtain ⟨rfl, N29, K29, p29_0, p29_1, p29_2, p29_3, p29_4, p29_5, p29_6⟩ := q29
            have NN29 := Fr.app N0 N29
            have k29_0 := P0.keep K29
            have Z29 : n0 ≤ T29.heap.size := Nat.le_trans Z0 K29.1
            show Go p e below s _ _ _ (T29.setTop (mkF m 151 #[.val (.int x0), .val (.int x1), .val (.long x2), .second, .val (.long x3), .second, .val (.long x4), .second, .val (.int x5), .val (.ref dd), .val (.int (f4 (0 : Int32))), .val (.int (v0_h0 x0)), .val (.int (v0_h1 x0)), .val (.int (v0_h2 x0)), .val (.int (v0_cnt x0)), .val (.int (v0_a x1)), .unset] []))
            exact sg0_151 l Z a0 hw hx hby hml hret hlk hown hnm hZ x0 x1 x2 x3 x4 x5 h0 n0  dd a1 a2 a3 (own_sz (P 0) sz) (g6_a1 (0 : Int32) x4 sz H P T 0 (own_nt x0 3)) (g6_a2 (0 : Int32) x4 sz H P T 0 (own_nt x0 3)) (upd T 0 x4) _ _ _ X29 rfl Z29 NN29 k29_0 p29_0 p29_1 p29_2 p29_3 p29_4 p29_5 p29_6 P8 P9 P10 P11 P12 P13 P14 P15 P16 P17 (own_again _ _ (by decide) rfl hst (own_b0t h28))
        · show Go p e below s _ _ _ (T0.setTop (mkF m 151 #[.val (.int x0), .val (.int x1), .val (.long x2), .second, .val (.long x3), .second, .val (.long x4), .second, .val (.int x5), .val (.ref dd), .val (.int (f4 (0 : Int32))), .val (.int (v0_h0 x0)), .val (.int (v0_h1 x0)), .val (.int (v0_h2 x0)), .val (.int (v0_cnt x0)), .val (.int (v0_a x1)), .unset] []))
          exact sg0_151 l Z a0 hw hx hby hml hret hlk hown hnm hZ x0 x1 x2 x3 x4 x5 h0 n0  dd a1 a2 a3 sz H P T _ _ _ X0 e0 Z0 N0 P0 P1 P2 P3 P4 P5 P6 P7 P8 P9 P10 P11 P12 P13 P14 P15 P16 P17 hst
      refine g_if0_eq X0 hx 124 120 (hb hby at_117) (by decide) rfl rfl (fun h30 => ?_) (fun h30 => ?_)
      · show Go p e below s _ _ _ (T0.setTop (mkF m 124 #[.val (.int x0), .val (.int x1), .val (.long x2), .second, .val (.long x3), .second, .val (.long x4), .second, .val (.int x5), .val (.ref dd), .val (.int (f4 (0 : Int32))), .val (.int (v0_h0 x0)), .val (.int (v0_h1 x0)), .val (.int (v0_h2 x0)), .unset, .unset, .unset] [(.int ((z0_104_s0_24 x0) + (z0_114_s0_25 x0)))]))
        refine g_iconst X0 hx (0 : Int32) 125 (hb hby at_124) rfl rfl ?_
        show Go p e below s _ _ _ (T0.setTop (mkF m 125 #[.val (.int x0), .val (.int x1), .val (.long x2), .second, .val (.long x3), .second, .val (.long x4), .second, .val (.int x5), .val (.ref dd), .val (.int (f4 (0 : Int32))), .val (.int (v0_h0 x0)), .val (.int (v0_h1 x0)), .val (.int (v0_h2 x0)), .unset, .unset, .unset] [(.int (0 : Int32)), (.int ((z0_104_s0_24 x0) + (z0_114_s0_25 x0)))]))
        have q26 := J26
        simp only [z0_125_s0_26, if_pos h30] at q26
        exact q26
      · show Go p e below s _ _ _ (T0.setTop (mkF m 120 #[.val (.int x0), .val (.int x1), .val (.long x2), .second, .val (.long x3), .second, .val (.long x4), .second, .val (.int x5), .val (.ref dd), .val (.int (f4 (0 : Int32))), .val (.int (v0_h0 x0)), .val (.int (v0_h1 x0)), .val (.int (v0_h2 x0)), .unset, .unset, .unset] [(.int ((z0_104_s0_24 x0) + (z0_114_s0_25 x0)))]))
        refine g_iconst X0 hx (1 : Int32) 121 (hb hby at_120) rfl rfl ?_
        show Go p e below s _ _ _ (T0.setTop (mkF m 121 #[.val (.int x0), .val (.int x1), .val (.long x2), .second, .val (.long x3), .second, .val (.long x4), .second, .val (.int x5), .val (.ref dd), .val (.int (f4 (0 : Int32))), .val (.int (v0_h0 x0)), .val (.int (v0_h1 x0)), .val (.int (v0_h2 x0)), .unset, .unset, .unset] [(.int (1 : Int32)), (.int ((z0_104_s0_24 x0) + (z0_114_s0_25 x0)))]))
        refine g_goto X0 hx 125 (hb hby at_121) (by decide) rfl ?_
        show Go p e below s _ _ _ (T0.setTop (mkF m 125 #[.val (.int x0), .val (.int x1), .val (.long x2), .second, .val (.long x3), .second, .val (.long x4), .second, .val (.int x5), .val (.ref dd), .val (.int (f4 (0 : Int32))), .val (.int (v0_h0 x0)), .val (.int (v0_h1 x0)), .val (.int (v0_h2 x0)), .unset, .unset, .unset] [(.int (1 : Int32)), (.int ((z0_104_s0_24 x0) + (z0_114_s0_25 x0)))]))
        have q26 := J26
        simp only [z0_125_s0_26, if_neg h30] at q26
        exact q26
    refine g_if0_eq X0 hx 113 109 (hb hby at_106) (by decide) rfl rfl (fun h31 => ?_) (fun h31 => ?_)
    · show Go p e below s _ _ _ (T0.setTop (mkF m 113 #[.val (.int x0), .val (.int x1), .val (.long x2), .second, .val (.long x3), .second, .val (.long x4), .second, .val (.int x5), .val (.ref dd), .val (.int (f4 (0 : Int32))), .val (.int (v0_h0 x0)), .val (.int (v0_h1 x0)), .val (.int (v0_h2 x0)), .unset, .unset, .unset] [(.int (z0_104_s0_24 x0))]))
      refine g_iconst X0 hx (0 : Int32) 114 (hb hby at_113) rfl rfl ?_
      show Go p e below s _ _ _ (T0.setTop (mkF m 114 #[.val (.int x0), .val (.int x1), .val (.long x2), .second, .val (.long x3), .second, .val (.long x4), .second, .val (.int x5), .val (.ref dd), .val (.int (f4 (0 : Int32))), .val (.int (v0_h0 x0)), .val (.int (v0_h1 x0)), .val (.int (v0_h2 x0)), .unset, .unset, .unset] [(.int (0 : Int32)), (.int (z0_104_s0_24 x0))]))
      have q25 := J25
      simp only [z0_114_s0_25, if_pos h31] at q25
      exact q25
    · show Go p e below s _ _ _ (T0.setTop (mkF m 109 #[.val (.int x0), .val (.int x1), .val (.long x2), .second, .val (.long x3), .second, .val (.long x4), .second, .val (.int x5), .val (.ref dd), .val (.int (f4 (0 : Int32))), .val (.int (v0_h0 x0)), .val (.int (v0_h1 x0)), .val (.int (v0_h2 x0)), .unset, .unset, .unset] [(.int (z0_104_s0_24 x0))]))
      refine g_iconst X0 hx (1 : Int32) 110 (hb hby at_109) rfl rfl ?_
      show Go p e below s _ _ _ (T0.setTop (mkF m 110 #[.val (.int x0), .val (.int x1), .val (.long x2), .second, .val (.long x3), .second, .val (.long x4), .second, .val (.int x5), .val (.ref dd), .val (.int (f4 (0 : Int32))), .val (.int (v0_h0 x0)), .val (.int (v0_h1 x0)), .val (.int (v0_h2 x0)), .unset, .unset, .unset] [(.int (1 : Int32)), (.int (z0_104_s0_24 x0))]))
      refine g_goto X0 hx 114 (hb hby at_110) (by decide) rfl ?_
      show Go p e below s _ _ _ (T0.setTop (mkF m 114 #[.val (.int x0), .val (.int x1), .val (.long x2), .second, .val (.long x3), .second, .val (.long x4), .second, .val (.int x5), .val (.ref dd), .val (.int (f4 (0 : Int32))), .val (.int (v0_h0 x0)), .val (.int (v0_h1 x0)), .val (.int (v0_h2 x0)), .unset, .unset, .unset] [(.int (1 : Int32)), (.int (z0_104_s0_24 x0))]))
      have q25 := J25
      simp only [z0_114_s0_25, if_neg h31] at q25
      exact q25
  refine g_if0_eq X0 hx 103 99 (hb hby at_96) (by decide) rfl rfl (fun h32 => ?_) (fun h32 => ?_)
  · show Go p e below s _ _ _ (T0.setTop (mkF m 103 #[.val (.int x0), .val (.int x1), .val (.long x2), .second, .val (.long x3), .second, .val (.long x4), .second, .val (.int x5), .val (.ref dd), .val (.int (f4 (0 : Int32))), .val (.int (v0_h0 x0)), .val (.int (v0_h1 x0)), .val (.int (v0_h2 x0)), .unset, .unset, .unset] []))
    refine g_iconst X0 hx (0 : Int32) 104 (hb hby at_103) rfl rfl ?_
    show Go p e below s _ _ _ (T0.setTop (mkF m 104 #[.val (.int x0), .val (.int x1), .val (.long x2), .second, .val (.long x3), .second, .val (.long x4), .second, .val (.int x5), .val (.ref dd), .val (.int (f4 (0 : Int32))), .val (.int (v0_h0 x0)), .val (.int (v0_h1 x0)), .val (.int (v0_h2 x0)), .unset, .unset, .unset] [(.int (0 : Int32))]))
    have q24 := J24
    simp only [z0_104_s0_24, if_pos h32] at q24
    exact q24
  · show Go p e below s _ _ _ (T0.setTop (mkF m 99 #[.val (.int x0), .val (.int x1), .val (.long x2), .second, .val (.long x3), .second, .val (.long x4), .second, .val (.int x5), .val (.ref dd), .val (.int (f4 (0 : Int32))), .val (.int (v0_h0 x0)), .val (.int (v0_h1 x0)), .val (.int (v0_h2 x0)), .unset, .unset, .unset] []))
    refine g_iconst X0 hx (1 : Int32) 100 (hb hby at_99) rfl rfl ?_
    show Go p e below s _ _ _ (T0.setTop (mkF m 100 #[.val (.int x0), .val (.int x1), .val (.long x2), .second, .val (.long x3), .second, .val (.long x4), .second, .val (.int x5), .val (.ref dd), .val (.int (f4 (0 : Int32))), .val (.int (v0_h0 x0)), .val (.int (v0_h1 x0)), .val (.int (v0_h2 x0)), .unset, .unset, .unset] [(.int (1 : Int32))]))
    refine g_goto X0 hx 104 (hb hby at_100) (by decide) rfl ?_
    show Go p e below s _ _ _ (T0.setTop (mkF m 104 #[.val (.int x0), .val (.int x1), .val (.long x2), .second, .val (.long x3), .second, .val (.long x4), .second, .val (.int x5), .val (.ref dd), .val (.int (f4 (0 : Int32))), .val (.int (v0_h0 x0)), .val (.int (v0_h1 x0)), .val (.int (v0_h2 x0)), .unset, .unset, .unset] [(.int (1 : Int32))]))
    have q24 := J24
    simp only [z0_104_s0_24, if_neg h32] at q24
    exact q24
set_option maxRecDepth 65536 in
set_option maxHeartbeats 40000000 in
theorem sg0_81 (l : Launch) (Z : State) (a0 : Array Value) (hw : ∀ d ∈ tables_1, d.before a0 Z = true) {p : Program} {e : Env} {s : State} {m : MethodId} {args : Array Value} {below : List Frame} {meth : Method} {c : Code} (hx : p.tables.exec = Jvm.exec) (hby : c.code = code) (hml : c.maxLocals = maxLocals) (hret : meth.sig.returnType = ret) (hlk : meth.locks = false) (hown : s.vm.findClass "com/example/weir/weir/cli/DeadlinesIsEmptyPinLaw" = some m.cls) (hnm : meth.name = "law") (hZ : Z.Warmed39 s.vm) (x0 : Int32) (x1 : Int32) (x2 : Int64) (x3 : Int64) (x4 : Int64) (x5 : Int32) (h0 : Heap) (n0 : Nat) : ∀  (dd : Addr) (a1 : Addr) (a2 : Addr) (a3 : Addr) (sz : Int32) (H : Nat → Int32) (P : Nat → Int32) (T : Nat → Int64) (T0 : State) (locs : List Loc) (hS : Heap), Stand p l e room_1 s m args below meth c T0 locs 4 13 → T0.heap = hS → n0 ≤ hS.size → Fr n0 locs → Exa Z hS dd "com/example/weir/weir/cli/Deadlines" → Fld Z hS dd "com/example/weir/weir/cli/Deadlines" "heap" "[I" (.ref a1) → Fld Z hS dd "com/example/weir/weir/cli/Deadlines" "places" "[I" (.ref a2) → Fld Z hS dd "com/example/weir/weir/cli/Deadlines" "times" "[J" (.ref a3) → Fld Z hS dd "com/example/weir/weir/cli/Deadlines" "size" "I" (.int sz) → AI Z hS a1 3 H → AI Z hS a2 3 P → AJ Z hS a3 3 T → n0 ≤ a1 → n0 ≤ a2 → n0 ≤ a3 → n0 ≤ dd → dd ≠ a1 → dd ≠ a2 → dd ≠ a3 → a1 ≠ a2 → a1 ≠ a3 → a2 ≠ a3 → (own_st x0 2 H P sz) → Go p e below s (Q0 Z x0 x1 x2 x3 x4 x5 h0 n0) room_1.cells room_1.slots (T0.setTop (mkF m 81 #[.val (.int x0), .val (.int x1), .val (.long x2), .second, .val (.long x3), .second, .val (.long x4), .second, .val (.int x5), .val (.ref dd), .val (.int (f4 (0 : Int32))), .val (.int (v0_h0 x0)), .val (.int (v0_h1 x0)), .val (.int (v0_h2 x0)), .unset, .unset, .unset] [])) := by
  intro dd a1 a2 a3 sz H P T T0 locs hS X0 e0 Z0 N0 P0 P1 P2 P3 P4 P5 P6 P7 P8 P9 P10 P11 P12 P13 P14 P15 P16 P17 hst
  refine g_iload X0 hx 83 (hb hby at_81) rfl rfl ?_
  show Go p e below s _ _ _ (T0.setTop (mkF m 83 #[.val (.int x0), .val (.int x1), .val (.long x2), .second, .val (.long x3), .second, .val (.long x4), .second, .val (.int x5), .val (.ref dd), .val (.int (f4 (0 : Int32))), .val (.int (v0_h0 x0)), .val (.int (v0_h1 x0)), .val (.int (v0_h2 x0)), .unset, .unset, .unset] [(.int (v0_h2 x0))]))
  refine g_if0_eq X0 hx 94 86 (hb hby at_83) (by decide) rfl rfl (fun h33 => ?_) (fun h33 => ?_)
  · show Go p e below s _ _ _ (T0.setTop (mkF m 94 #[.val (.int x0), .val (.int x1), .val (.long x2), .second, .val (.long x3), .second, .val (.long x4), .second, .val (.int x5), .val (.ref dd), .val (.int (f4 (0 : Int32))), .val (.int (v0_h0 x0)), .val (.int (v0_h1 x0)), .val (.int (v0_h2 x0)), .unset, .unset, .unset] []))
    exact sg0_94 l Z a0 hw hx hby hml hret hlk hown hnm hZ x0 x1 x2 x3 x4 x5 h0 n0  dd a1 a2 a3 sz H P T _ _ _ X0 e0 Z0 N0 P0 P1 P2 P3 P4 P5 P6 P7 P8 P9 P10 P11 P12 P13 P14 P15 P16 P17 (own_skip (by decide) hst (own_b2f h33))
  · show Go p e below s _ _ _ (T0.setTop (mkF m 86 #[.val (.int x0), .val (.int x1), .val (.long x2), .second, .val (.long x3), .second, .val (.long x4), .second, .val (.int x5), .val (.ref dd), .val (.int (f4 (0 : Int32))), .val (.int (v0_h0 x0)), .val (.int (v0_h1 x0)), .val (.int (v0_h2 x0)), .unset, .unset, .unset] []))
    refine g_aload X0 hx 88 (hb hby at_86) rfl rfl rfl ?_
    show Go p e below s _ _ _ (T0.setTop (mkF m 88 #[.val (.int x0), .val (.int x1), .val (.long x2), .second, .val (.long x3), .second, .val (.long x4), .second, .val (.int x5), .val (.ref dd), .val (.int (f4 (0 : Int32))), .val (.int (v0_h0 x0)), .val (.int (v0_h1 x0)), .val (.int (v0_h2 x0)), .unset, .unset, .unset] [(.ref dd)]))
    refine g_iconst X0 hx (2 : Int32) 89 (hb hby at_88) rfl rfl ?_
    show Go p e below s _ _ _ (T0.setTop (mkF m 89 #[.val (.int x0), .val (.int x1), .val (.long x2), .second, .val (.long x3), .second, .val (.long x4), .second, .val (.int x5), .val (.ref dd), .val (.int (f4 (0 : Int32))), .val (.int (v0_h0 x0)), .val (.int (v0_h1 x0)), .val (.int (v0_h2 x0)), .unset, .unset, .unset] [(.int (2 : Int32)), (.ref dd)]))
    refine g_lload X0 hx 91 (hb hby at_89) rfl rfl ?_
    show Go p e below s _ _ _ (T0.setTop (mkF m 91 #[.val (.int x0), .val (.int x1), .val (.long x2), .second, .val (.long x3), .second, .val (.long x4), .second, .val (.int x5), .val (.ref dd), .val (.int (f4 (0 : Int32))), .val (.int (v0_h0 x0)), .val (.int (v0_h1 x0)), .val (.int (v0_h2 x0)), .unset, .unset, .unset] [(.long x4), (.int (2 : Int32)), (.ref dd)]))
    refine g_callV X0 hx hZ hown (hw _ (List.mem_of_getElem? (i := 32) rfl)) (hw _ (List.mem_of_getElem? (i := 33) rfl)) (hw _ (List.mem_of_getElem? (i := 35) rfl)) (hw _ (List.mem_of_getElem? (i := 34) rfl)) (hw _ (List.mem_of_getElem? (i := 2) rfl)) (hw _ (List.mem_of_getElem? (i := 36) rfl)) (by decide) e0 dd P0 (rm6 l Z a0 hw [] dd (2 : Int32) x4 a1 a2 a3 sz H P T 2 (own_nt x0 2) hS n0 Z0 P0 P1 P2 P3 P4 P5 P6 P7 P8 P9 P10 P11 P12 P13 P14 P15 P16 P17 (rfl : (2 : Int32).toInt = 2) (by decide : 2 < 3) (hst.2 : sz.toInt = (own_nt x0 2)) (Nat.le_trans (own_ntl x0 2) (by decide) : (own_nt x0 2) ≤ 3) (hst.1.1 : ∀ i, i < 3 → own_3 (H i)) ((own_tn (by decide) hst).1 : P 2 < 0 → (own_nt x0 2) < 3) ((own_tn (by decide) hst).2 : ¬ P 2 < 0 → own_3 (P 2))) [(.int (2 : Int32)), (.long x4)] [] 0 rfl (lenOf pd__28IJ_29V rfl) rfl (Nat.le_of_eq rfl) (by decide) (by decide) (by decide) (by decide) (by rw [hml]; rfl) (hb hby at_91) ?_
    intro T34 L34 v34 X34 q34
    obtain ⟨rfl, N34, K34, p34_0, p34_1, p34_2, p34_3, p34_4, p34_5, p34_6⟩ := q34
    have NN34 := Fr.app N0 N34
    have k34_0 := P0.keep K34
    have Z34 : n0 ≤ T34.heap.size := Nat.le_trans Z0 K34.1
    show Go p e below s _ _ _ (T34.setTop (mkF m 94 #[.val (.int x0), .val (.int x1), .val (.long x2), .second, .val (.long x3), .second, .val (.long x4), .second, .val (.int x5), .val (.ref dd), .val (.int (f4 (0 : Int32))), .val (.int (v0_h0 x0)), .val (.int (v0_h1 x0)), .val (.int (v0_h2 x0)), .unset, .unset, .unset] []))
    exact sg0_94 l Z a0 hw hx hby hml hret hlk hown hnm hZ x0 x1 x2 x3 x4 x5 h0 n0  dd a1 a2 a3 (own_sz (P 2) sz) (g6_a1 (2 : Int32) x4 sz H P T 2 (own_nt x0 2)) (g6_a2 (2 : Int32) x4 sz H P T 2 (own_nt x0 2)) (upd T 2 x4) _ _ _ X34 rfl Z34 NN34 k34_0 p34_0 p34_1 p34_2 p34_3 p34_4 p34_5 p34_6 P8 P9 P10 P11 P12 P13 P14 P15 P16 P17 (own_take _ _ (by decide) rfl hst (own_b2t h33))
set_option maxRecDepth 65536 in
set_option maxHeartbeats 40000000 in
theorem sg0_68 (l : Launch) (Z : State) (a0 : Array Value) (hw : ∀ d ∈ tables_1, d.before a0 Z = true) {p : Program} {e : Env} {s : State} {m : MethodId} {args : Array Value} {below : List Frame} {meth : Method} {c : Code} (hx : p.tables.exec = Jvm.exec) (hby : c.code = code) (hml : c.maxLocals = maxLocals) (hret : meth.sig.returnType = ret) (hlk : meth.locks = false) (hown : s.vm.findClass "com/example/weir/weir/cli/DeadlinesIsEmptyPinLaw" = some m.cls) (hnm : meth.name = "law") (hZ : Z.Warmed39 s.vm) (x0 : Int32) (x1 : Int32) (x2 : Int64) (x3 : Int64) (x4 : Int64) (x5 : Int32) (h0 : Heap) (n0 : Nat) : ∀  (dd : Addr) (a1 : Addr) (a2 : Addr) (a3 : Addr) (sz : Int32) (H : Nat → Int32) (P : Nat → Int32) (T : Nat → Int64) (T0 : State) (locs : List Loc) (hS : Heap), Stand p l e room_1 s m args below meth c T0 locs 4 13 → T0.heap = hS → n0 ≤ hS.size → Fr n0 locs → Exa Z hS dd "com/example/weir/weir/cli/Deadlines" → Fld Z hS dd "com/example/weir/weir/cli/Deadlines" "heap" "[I" (.ref a1) → Fld Z hS dd "com/example/weir/weir/cli/Deadlines" "places" "[I" (.ref a2) → Fld Z hS dd "com/example/weir/weir/cli/Deadlines" "times" "[J" (.ref a3) → Fld Z hS dd "com/example/weir/weir/cli/Deadlines" "size" "I" (.int sz) → AI Z hS a1 3 H → AI Z hS a2 3 P → AJ Z hS a3 3 T → n0 ≤ a1 → n0 ≤ a2 → n0 ≤ a3 → n0 ≤ dd → dd ≠ a1 → dd ≠ a2 → dd ≠ a3 → a1 ≠ a2 → a1 ≠ a3 → a2 ≠ a3 → (own_st x0 1 H P sz) → Go p e below s (Q0 Z x0 x1 x2 x3 x4 x5 h0 n0) room_1.cells room_1.slots (T0.setTop (mkF m 68 #[.val (.int x0), .val (.int x1), .val (.long x2), .second, .val (.long x3), .second, .val (.long x4), .second, .val (.int x5), .val (.ref dd), .val (.int (f4 (0 : Int32))), .val (.int (v0_h0 x0)), .val (.int (v0_h1 x0)), .val (.int (v0_h2 x0)), .unset, .unset, .unset] [])) := by
  intro dd a1 a2 a3 sz H P T T0 locs hS X0 e0 Z0 N0 P0 P1 P2 P3 P4 P5 P6 P7 P8 P9 P10 P11 P12 P13 P14 P15 P16 P17 hst
  refine g_iload X0 hx 70 (hb hby at_68) rfl rfl ?_
  show Go p e below s _ _ _ (T0.setTop (mkF m 70 #[.val (.int x0), .val (.int x1), .val (.long x2), .second, .val (.long x3), .second, .val (.long x4), .second, .val (.int x5), .val (.ref dd), .val (.int (f4 (0 : Int32))), .val (.int (v0_h0 x0)), .val (.int (v0_h1 x0)), .val (.int (v0_h2 x0)), .unset, .unset, .unset] [(.int (v0_h1 x0))]))
  refine g_if0_eq X0 hx 81 73 (hb hby at_70) (by decide) rfl rfl (fun h35 => ?_) (fun h35 => ?_)
  · show Go p e below s _ _ _ (T0.setTop (mkF m 81 #[.val (.int x0), .val (.int x1), .val (.long x2), .second, .val (.long x3), .second, .val (.long x4), .second, .val (.int x5), .val (.ref dd), .val (.int (f4 (0 : Int32))), .val (.int (v0_h0 x0)), .val (.int (v0_h1 x0)), .val (.int (v0_h2 x0)), .unset, .unset, .unset] []))
    exact sg0_81 l Z a0 hw hx hby hml hret hlk hown hnm hZ x0 x1 x2 x3 x4 x5 h0 n0  dd a1 a2 a3 sz H P T _ _ _ X0 e0 Z0 N0 P0 P1 P2 P3 P4 P5 P6 P7 P8 P9 P10 P11 P12 P13 P14 P15 P16 P17 (own_skip (by decide) hst (own_b1f h35))
  · show Go p e below s _ _ _ (T0.setTop (mkF m 73 #[.val (.int x0), .val (.int x1), .val (.long x2), .second, .val (.long x3), .second, .val (.long x4), .second, .val (.int x5), .val (.ref dd), .val (.int (f4 (0 : Int32))), .val (.int (v0_h0 x0)), .val (.int (v0_h1 x0)), .val (.int (v0_h2 x0)), .unset, .unset, .unset] []))
    refine g_aload X0 hx 75 (hb hby at_73) rfl rfl rfl ?_
    show Go p e below s _ _ _ (T0.setTop (mkF m 75 #[.val (.int x0), .val (.int x1), .val (.long x2), .second, .val (.long x3), .second, .val (.long x4), .second, .val (.int x5), .val (.ref dd), .val (.int (f4 (0 : Int32))), .val (.int (v0_h0 x0)), .val (.int (v0_h1 x0)), .val (.int (v0_h2 x0)), .unset, .unset, .unset] [(.ref dd)]))
    refine g_iconst X0 hx (1 : Int32) 76 (hb hby at_75) rfl rfl ?_
    show Go p e below s _ _ _ (T0.setTop (mkF m 76 #[.val (.int x0), .val (.int x1), .val (.long x2), .second, .val (.long x3), .second, .val (.long x4), .second, .val (.int x5), .val (.ref dd), .val (.int (f4 (0 : Int32))), .val (.int (v0_h0 x0)), .val (.int (v0_h1 x0)), .val (.int (v0_h2 x0)), .unset, .unset, .unset] [(.int (1 : Int32)), (.ref dd)]))
    refine g_lload X0 hx 78 (hb hby at_76) rfl rfl ?_
    show Go p e below s _ _ _ (T0.setTop (mkF m 78 #[.val (.int x0), .val (.int x1), .val (.long x2), .second, .val (.long x3), .second, .val (.long x4), .second, .val (.int x5), .val (.ref dd), .val (.int (f4 (0 : Int32))), .val (.int (v0_h0 x0)), .val (.int (v0_h1 x0)), .val (.int (v0_h2 x0)), .unset, .unset, .unset] [(.long x3), (.int (1 : Int32)), (.ref dd)]))
    refine g_callV X0 hx hZ hown (hw _ (List.mem_of_getElem? (i := 32) rfl)) (hw _ (List.mem_of_getElem? (i := 33) rfl)) (hw _ (List.mem_of_getElem? (i := 35) rfl)) (hw _ (List.mem_of_getElem? (i := 34) rfl)) (hw _ (List.mem_of_getElem? (i := 2) rfl)) (hw _ (List.mem_of_getElem? (i := 36) rfl)) (by decide) e0 dd P0 (rm6 l Z a0 hw [] dd (1 : Int32) x3 a1 a2 a3 sz H P T 1 (own_nt x0 1) hS n0 Z0 P0 P1 P2 P3 P4 P5 P6 P7 P8 P9 P10 P11 P12 P13 P14 P15 P16 P17 (rfl : (1 : Int32).toInt = 1) (by decide : 1 < 3) (hst.2 : sz.toInt = (own_nt x0 1)) (Nat.le_trans (own_ntl x0 1) (by decide) : (own_nt x0 1) ≤ 3) (hst.1.1 : ∀ i, i < 3 → own_3 (H i)) ((own_tn (by decide) hst).1 : P 1 < 0 → (own_nt x0 1) < 3) ((own_tn (by decide) hst).2 : ¬ P 1 < 0 → own_3 (P 1))) [(.int (1 : Int32)), (.long x3)] [] 0 rfl (lenOf pd__28IJ_29V rfl) rfl (Nat.le_of_eq rfl) (by decide) (by decide) (by decide) (by decide) (by rw [hml]; rfl) (hb hby at_78) ?_
    intro T36 L36 v36 X36 q36
    obtain ⟨rfl, N36, K36, p36_0, p36_1, p36_2, p36_3, p36_4, p36_5, p36_6⟩ := q36
    have NN36 := Fr.app N0 N36
    have k36_0 := P0.keep K36
    have Z36 : n0 ≤ T36.heap.size := Nat.le_trans Z0 K36.1
    show Go p e below s _ _ _ (T36.setTop (mkF m 81 #[.val (.int x0), .val (.int x1), .val (.long x2), .second, .val (.long x3), .second, .val (.long x4), .second, .val (.int x5), .val (.ref dd), .val (.int (f4 (0 : Int32))), .val (.int (v0_h0 x0)), .val (.int (v0_h1 x0)), .val (.int (v0_h2 x0)), .unset, .unset, .unset] []))
    exact sg0_81 l Z a0 hw hx hby hml hret hlk hown hnm hZ x0 x1 x2 x3 x4 x5 h0 n0  dd a1 a2 a3 (own_sz (P 1) sz) (g6_a1 (1 : Int32) x3 sz H P T 1 (own_nt x0 1)) (g6_a2 (1 : Int32) x3 sz H P T 1 (own_nt x0 1)) (upd T 1 x3) _ _ _ X36 rfl Z36 NN36 k36_0 p36_0 p36_1 p36_2 p36_3 p36_4 p36_5 p36_6 P8 P9 P10 P11 P12 P13 P14 P15 P16 P17 (own_take _ _ (by decide) rfl hst (own_b1t h35))
theorem ef_0 (m : MethodId) (x0 : Int32) (x1 : Int32) (x2 : Int64) (x3 : Int64) (x4 : Int64) (x5 : Int32) : entryFrame m #[(.int x0), (.int x1), (.long x2), (.long x3), (.long x4), (.int x5)] maxLocals = mkF m 0 #[.val (.int x0), .val (.int x1), .val (.long x2), .second, .val (.long x3), .second, .val (.long x4), .second, .val (.int x5), .unset, .unset, .unset, .unset, .unset, .unset, .unset, .unset] [] := by first | (simp [entryFrame, mkF, argsToLocals, Value.category, maxLocals]; done) | rfl
def z0_28_s0_40 (x0 : Int32) : Int32 := (if (x0 &&& (1 : Int32)) = (0 : Int32) then (0 : Int32) else (1 : Int32))
def z0_41_s0_41 (x0 : Int32) : Int32 := (if (x0 &&& (2 : Int32)) = (0 : Int32) then (0 : Int32) else (1 : Int32))
def z0_54_s0_42 (x0 : Int32) : Int32 := (if (x0 &&& (4 : Int32)) = (0 : Int32) then (0 : Int32) else (1 : Int32))
set_option maxRecDepth 65536 in
set_option maxHeartbeats 40000000 in
theorem rm0 (l : Launch) (Z : State) (a0 : Array Value) (hw : ∀ d ∈ tables_1, d.before a0 Z = true) (ws : List Jvm.Cond) (x0 : Int32) (x1 : Int32) (x2 : Int64) (x3 : Int64) (x4 : Int64) (x5 : Int32) (h0 : Heap) (n0 : Nat) (Z0 : n0 ≤ h0.size) :
    MetFree l x (head1 (Jvm.Cond.code x code maxLocals ret :: ws) room_1) (fun a U => a = #[(.int x0), (.int x1), (.long x2), (.long x3), (.long x4), (.int x5)] ∧ Z.Warmed39 U.vm ∧ U.heap = h0) (fun _ _ _ _ _ => True) (fun _ U o U' => ∃ v L, o = .returned v ∧ Q0 Z x0 x1 x2 x3 x4 x5 h0 n0 v U'.heap L ∧ FrameEnd U o U' L room_1.cells room_1.slots) := by
  refine g_body (plainFor_of_name pn_0) ?_
  intro p e s m below meth c T0 X0 hx hby hml hret hlk hown hnm hZ e0
  rw [ef_0]
  have N0 := Fr.nil n0
  show Go p e below s _ _ _ (T0.setTop (mkF m 0 #[.val (.int x0), .val (.int x1), .val (.long x2), .second, .val (.long x3), .second, .val (.long x4), .second, .val (.int x5), .unset, .unset, .unset, .unset, .unset, .unset, .unset, .unset] []))
  refine g_new X0 hx hZ hown (hw _ (List.mem_of_getElem? (i := 0) rfl)) (hw _ (List.mem_of_getElem? (i := 1) rfl)) (hw _ (List.mem_of_getElem? (i := 2) rfl)) e0 3 (hb hby at_0) (by decide) (by decide) rfl ?_
  intro T37 h37 b37 g37 X37 e37 E37 A37 D37
  have N_b37 : n0 ≤ b37 := Nat.le_trans Z0 (Nat.le_of_eq g37.symm)
  have Z37 : n0 ≤ h37.size := Nat.le_trans Z0 E37.1
  have F37_heap : Fld Z h37 b37 "com/example/weir/weir/cli/Deadlines" "heap" "[I" .null := D37 (Or.inr (hw _ (List.mem_of_getElem? (i := 11) rfl))) (ty := (.array .int)) (by decide)
  have F37_places : Fld Z h37 b37 "com/example/weir/weir/cli/Deadlines" "places" "[I" .null := D37 (Or.inr (hw _ (List.mem_of_getElem? (i := 13) rfl))) (ty := (.array .int)) (by decide)
  have F37_times : Fld Z h37 b37 "com/example/weir/weir/cli/Deadlines" "times" "[J" .null := D37 (Or.inr (hw _ (List.mem_of_getElem? (i := 20) rfl))) (ty := (.array .long)) (by decide)
  have F37_size : Fld Z h37 b37 "com/example/weir/weir/cli/Deadlines" "size" "I" (.int (0 : Int32)) := D37 (Or.inl (hw _ (List.mem_of_getElem? (i := 27) rfl))) (ty := .int) (by decide)
  show Go p e below s _ _ _ (T37.setTop (mkF m 3 #[.val (.int x0), .val (.int x1), .val (.long x2), .second, .val (.long x3), .second, .val (.long x4), .second, .val (.int x5), .unset, .unset, .unset, .unset, .unset, .unset, .unset, .unset] [(.ref b37)]))
  refine g_dup X37 hx 4 (hb hby at_3) rfl rfl ?_
  show Go p e below s _ _ _ (T37.setTop (mkF m 4 #[.val (.int x0), .val (.int x1), .val (.long x2), .second, .val (.long x3), .second, .val (.long x4), .second, .val (.int x5), .unset, .unset, .unset, .unset, .unset, .unset, .unset, .unset] [(.ref b37), (.ref b37)]))
  refine g_iconst X37 hx (3 : Int32) 5 (hb hby at_4) rfl rfl ?_
  show Go p e below s _ _ _ (T37.setTop (mkF m 5 #[.val (.int x0), .val (.int x1), .val (.long x2), .second, .val (.long x3), .second, .val (.long x4), .second, .val (.int x5), .unset, .unset, .unset, .unset, .unset, .unset, .unset, .unset] [(.int (3 : Int32)), (.ref b37), (.ref b37)]))
  refine g_callI X37 hx hZ rfl hown (hw _ (List.mem_of_getElem? (i := 3) rfl)) (hw _ (List.mem_of_getElem? (i := 4) rfl)) (hw _ (List.mem_of_getElem? (i := 2) rfl)) (hw _ (List.mem_of_getElem? (i := 5) rfl)) (by decide) e37 (rm1 l Z a0 hw [] b37 (3 : Int32) h37 n0 Z37 A37 F37_heap F37_places F37_times F37_size N_b37 (by decide)) b37 [(.int (3 : Int32))] [(.ref b37)] 1 rfl (lenOf pd__28I_29V rfl) rfl (Nat.le_of_eq rfl) (by decide) (by decide) (by decide) (by decide) (by rw [hml]; rfl) (hb hby at_5) ?_
  intro T38 L38 v38 X38 q38
  obtain ⟨rfl, N38, K38, b38_0, b38_1, b38_2, sz38_0, sz38_1, sz38_2, ne38_0_1, ne38_0_2, ne38_1_2, p38_0, p38_1, p38_2, p38_3, p38_4, p38_5, p38_6⟩ := q38
  have NN38 := Fr.app N0 N38
  have N_b38_0 : n0 ≤ b38_0 := Nat.le_trans Z37 sz38_0
  have ne_b37_b38_0 : b37 ≠ b38_0 := Nat.ne_of_lt (Nat.lt_of_lt_of_le A37.lt sz38_0)
  have N_b38_1 : n0 ≤ b38_1 := Nat.le_trans Z37 sz38_1
  have ne_b37_b38_1 : b37 ≠ b38_1 := Nat.ne_of_lt (Nat.lt_of_lt_of_le A37.lt sz38_1)
  have N_b38_2 : n0 ≤ b38_2 := Nat.le_trans Z37 sz38_2
  have ne_b37_b38_2 : b37 ≠ b38_2 := Nat.ne_of_lt (Nat.lt_of_lt_of_le A37.lt sz38_2)
  have k38_1 := A37.keep K38
  have Z38 : n0 ≤ T38.heap.size := Nat.le_trans Z37 K38.1
  show Go p e below s _ _ _ (T38.setTop (mkF m 8 #[.val (.int x0), .val (.int x1), .val (.long x2), .second, .val (.long x3), .second, .val (.long x4), .second, .val (.int x5), .unset, .unset, .unset, .unset, .unset, .unset, .unset, .unset] [(.ref b37)]))
  refine g_astore X38 hx #[.val (.int x0), .val (.int x1), .val (.long x2), .second, .val (.long x3), .second, .val (.long x4), .second, .val (.int x5), .val (.ref b37), .unset, .unset, .unset, .unset, .unset, .unset, .unset] 10 (hb hby at_8) rfl rfl rfl ?_
  show Go p e below s _ _ _ (T38.setTop (mkF m 10 #[.val (.int x0), .val (.int x1), .val (.long x2), .second, .val (.long x3), .second, .val (.long x4), .second, .val (.int x5), .val (.ref b37), .unset, .unset, .unset, .unset, .unset, .unset, .unset] []))
  refine g_aload X38 hx 12 (hb hby at_10) rfl rfl rfl ?_
  show Go p e below s _ _ _ (T38.setTop (mkF m 12 #[.val (.int x0), .val (.int x1), .val (.long x2), .second, .val (.long x3), .second, .val (.long x4), .second, .val (.int x5), .val (.ref b37), .unset, .unset, .unset, .unset, .unset, .unset, .unset] [(.ref b37)]))
  refine g_callV X38 hx hZ hown (hw _ (List.mem_of_getElem? (i := 21) rfl)) (hw _ (List.mem_of_getElem? (i := 22) rfl)) (hw _ (List.mem_of_getElem? (i := 24) rfl)) (hw _ (List.mem_of_getElem? (i := 23) rfl)) (hw _ (List.mem_of_getElem? (i := 2) rfl)) (hw _ (List.mem_of_getElem? (i := 25) rfl)) (by decide) rfl b37 k38_1 (rm4 l Z a0 hw [] b37 (0 : Int32) T38.heap p38_3) [] [] 0 rfl (lenOf pd__28_29Z rfl) rfl (Nat.le_of_eq rfl) (by decide) (by decide) (by decide) (by decide) (by rw [hml]; rfl) (hb hby at_12) ?_
  intro T39 L39 v39 X39 q39
  obtain ⟨rfl, rfl, e39⟩ := q39
  have NS39 := Fr.app NN38 (Fr.nil n0)
  show Go p e below s _ _ _ (T39.setTop (mkF m 15 #[.val (.int x0), .val (.int x1), .val (.long x2), .second, .val (.long x3), .second, .val (.long x4), .second, .val (.int x5), .val (.ref b37), .unset, .unset, .unset, .unset, .unset, .unset, .unset] [(.int (f4 (0 : Int32)))]))
  refine g_istore X39 hx #[.val (.int x0), .val (.int x1), .val (.long x2), .second, .val (.long x3), .second, .val (.long x4), .second, .val (.int x5), .val (.ref b37), .val (.int (f4 (0 : Int32))), .unset, .unset, .unset, .unset, .unset, .unset] 17 (hb hby at_15) rfl rfl ?_
  show Go p e below s _ _ _ (T39.setTop (mkF m 17 #[.val (.int x0), .val (.int x1), .val (.long x2), .second, .val (.long x3), .second, .val (.long x4), .second, .val (.int x5), .val (.ref b37), .val (.int (f4 (0 : Int32))), .unset, .unset, .unset, .unset, .unset, .unset] []))
  refine g_iloadN X39 hx 18 (hb hby at_17) rfl rfl ?_
  show Go p e below s _ _ _ (T39.setTop (mkF m 18 #[.val (.int x0), .val (.int x1), .val (.long x2), .second, .val (.long x3), .second, .val (.long x4), .second, .val (.int x5), .val (.ref b37), .val (.int (f4 (0 : Int32))), .unset, .unset, .unset, .unset, .unset, .unset] [(.int x0)]))
  refine g_iconst X39 hx (1 : Int32) 19 (hb hby at_18) rfl rfl ?_
  show Go p e below s _ _ _ (T39.setTop (mkF m 19 #[.val (.int x0), .val (.int x1), .val (.long x2), .second, .val (.long x3), .second, .val (.long x4), .second, .val (.int x5), .val (.ref b37), .val (.int (f4 (0 : Int32))), .unset, .unset, .unset, .unset, .unset, .unset] [(.int (1 : Int32)), (.int x0)]))
  refine g_iand X39 hx 20 (hb hby at_19) rfl ?_
  show Go p e below s _ _ _ (T39.setTop (mkF m 20 #[.val (.int x0), .val (.int x1), .val (.long x2), .second, .val (.long x3), .second, .val (.long x4), .second, .val (.int x5), .val (.ref b37), .val (.int (f4 (0 : Int32))), .unset, .unset, .unset, .unset, .unset, .unset] [(.int (x0 &&& (1 : Int32)))]))
  have J40 : Go p e below s (Q0 Z x0 x1 x2 x3 x4 x5 h0 n0) room_1.cells room_1.slots (T39.setTop (mkF m 28 #[.val (.int x0), .val (.int x1), .val (.long x2), .second, .val (.long x3), .second, .val (.long x4), .second, .val (.int x5), .val (.ref b37), .val (.int (f4 (0 : Int32))), .unset, .unset, .unset, .unset, .unset, .unset] [(.int (z0_28_s0_40 x0))])) := by
    refine g_istore X39 hx #[.val (.int x0), .val (.int x1), .val (.long x2), .second, .val (.long x3), .second, .val (.long x4), .second, .val (.int x5), .val (.ref b37), .val (.int (f4 (0 : Int32))), .val (.int (v0_h0 x0)), .unset, .unset, .unset, .unset, .unset] 30 (hb hby at_28) rfl rfl ?_
    show Go p e below s _ _ _ (T39.setTop (mkF m 30 #[.val (.int x0), .val (.int x1), .val (.long x2), .second, .val (.long x3), .second, .val (.long x4), .second, .val (.int x5), .val (.ref b37), .val (.int (f4 (0 : Int32))), .val (.int (v0_h0 x0)), .unset, .unset, .unset, .unset, .unset] []))
    refine g_iloadN X39 hx 31 (hb hby at_30) rfl rfl ?_
    show Go p e below s _ _ _ (T39.setTop (mkF m 31 #[.val (.int x0), .val (.int x1), .val (.long x2), .second, .val (.long x3), .second, .val (.long x4), .second, .val (.int x5), .val (.ref b37), .val (.int (f4 (0 : Int32))), .val (.int (v0_h0 x0)), .unset, .unset, .unset, .unset, .unset] [(.int x0)]))
    refine g_iconst X39 hx (2 : Int32) 32 (hb hby at_31) rfl rfl ?_
    show Go p e below s _ _ _ (T39.setTop (mkF m 32 #[.val (.int x0), .val (.int x1), .val (.long x2), .second, .val (.long x3), .second, .val (.long x4), .second, .val (.int x5), .val (.ref b37), .val (.int (f4 (0 : Int32))), .val (.int (v0_h0 x0)), .unset, .unset, .unset, .unset, .unset] [(.int (2 : Int32)), (.int x0)]))
    refine g_iand X39 hx 33 (hb hby at_32) rfl ?_
    show Go p e below s _ _ _ (T39.setTop (mkF m 33 #[.val (.int x0), .val (.int x1), .val (.long x2), .second, .val (.long x3), .second, .val (.long x4), .second, .val (.int x5), .val (.ref b37), .val (.int (f4 (0 : Int32))), .val (.int (v0_h0 x0)), .unset, .unset, .unset, .unset, .unset] [(.int (x0 &&& (2 : Int32)))]))
    have J41 : Go p e below s (Q0 Z x0 x1 x2 x3 x4 x5 h0 n0) room_1.cells room_1.slots (T39.setTop (mkF m 41 #[.val (.int x0), .val (.int x1), .val (.long x2), .second, .val (.long x3), .second, .val (.long x4), .second, .val (.int x5), .val (.ref b37), .val (.int (f4 (0 : Int32))), .val (.int (v0_h0 x0)), .unset, .unset, .unset, .unset, .unset] [(.int (z0_41_s0_41 x0))])) := by
      refine g_istore X39 hx #[.val (.int x0), .val (.int x1), .val (.long x2), .second, .val (.long x3), .second, .val (.long x4), .second, .val (.int x5), .val (.ref b37), .val (.int (f4 (0 : Int32))), .val (.int (v0_h0 x0)), .val (.int (v0_h1 x0)), .unset, .unset, .unset, .unset] 43 (hb hby at_41) rfl rfl ?_
      show Go p e below s _ _ _ (T39.setTop (mkF m 43 #[.val (.int x0), .val (.int x1), .val (.long x2), .second, .val (.long x3), .second, .val (.long x4), .second, .val (.int x5), .val (.ref b37), .val (.int (f4 (0 : Int32))), .val (.int (v0_h0 x0)), .val (.int (v0_h1 x0)), .unset, .unset, .unset, .unset] []))
      refine g_iloadN X39 hx 44 (hb hby at_43) rfl rfl ?_
      show Go p e below s _ _ _ (T39.setTop (mkF m 44 #[.val (.int x0), .val (.int x1), .val (.long x2), .second, .val (.long x3), .second, .val (.long x4), .second, .val (.int x5), .val (.ref b37), .val (.int (f4 (0 : Int32))), .val (.int (v0_h0 x0)), .val (.int (v0_h1 x0)), .unset, .unset, .unset, .unset] [(.int x0)]))
      refine g_iconst X39 hx (4 : Int32) 45 (hb hby at_44) rfl rfl ?_
      show Go p e below s _ _ _ (T39.setTop (mkF m 45 #[.val (.int x0), .val (.int x1), .val (.long x2), .second, .val (.long x3), .second, .val (.long x4), .second, .val (.int x5), .val (.ref b37), .val (.int (f4 (0 : Int32))), .val (.int (v0_h0 x0)), .val (.int (v0_h1 x0)), .unset, .unset, .unset, .unset] [(.int (4 : Int32)), (.int x0)]))
      refine g_iand X39 hx 46 (hb hby at_45) rfl ?_
      show Go p e below s _ _ _ (T39.setTop (mkF m 46 #[.val (.int x0), .val (.int x1), .val (.long x2), .second, .val (.long x3), .second, .val (.long x4), .second, .val (.int x5), .val (.ref b37), .val (.int (f4 (0 : Int32))), .val (.int (v0_h0 x0)), .val (.int (v0_h1 x0)), .unset, .unset, .unset, .unset] [(.int (x0 &&& (4 : Int32)))]))
      have J42 : Go p e below s (Q0 Z x0 x1 x2 x3 x4 x5 h0 n0) room_1.cells room_1.slots (T39.setTop (mkF m 54 #[.val (.int x0), .val (.int x1), .val (.long x2), .second, .val (.long x3), .second, .val (.long x4), .second, .val (.int x5), .val (.ref b37), .val (.int (f4 (0 : Int32))), .val (.int (v0_h0 x0)), .val (.int (v0_h1 x0)), .unset, .unset, .unset, .unset] [(.int (z0_54_s0_42 x0))])) := by
        refine g_istore X39 hx #[.val (.int x0), .val (.int x1), .val (.long x2), .second, .val (.long x3), .second, .val (.long x4), .second, .val (.int x5), .val (.ref b37), .val (.int (f4 (0 : Int32))), .val (.int (v0_h0 x0)), .val (.int (v0_h1 x0)), .val (.int (v0_h2 x0)), .unset, .unset, .unset] 56 (hb hby at_54) rfl rfl ?_
        show Go p e below s _ _ _ (T39.setTop (mkF m 56 #[.val (.int x0), .val (.int x1), .val (.long x2), .second, .val (.long x3), .second, .val (.long x4), .second, .val (.int x5), .val (.ref b37), .val (.int (f4 (0 : Int32))), .val (.int (v0_h0 x0)), .val (.int (v0_h1 x0)), .val (.int (v0_h2 x0)), .unset, .unset, .unset] []))
        refine g_iload X39 hx 58 (hb hby at_56) rfl rfl ?_
        show Go p e below s _ _ _ (T39.setTop (mkF m 58 #[.val (.int x0), .val (.int x1), .val (.long x2), .second, .val (.long x3), .second, .val (.long x4), .second, .val (.int x5), .val (.ref b37), .val (.int (f4 (0 : Int32))), .val (.int (v0_h0 x0)), .val (.int (v0_h1 x0)), .val (.int (v0_h2 x0)), .unset, .unset, .unset] [(.int (v0_h0 x0))]))
        refine g_if0_eq X39 hx 68 61 (hb hby at_58) (by decide) rfl rfl (fun h43 => ?_) (fun h43 => ?_)
        · show Go p e below s _ _ _ (T39.setTop (mkF m 68 #[.val (.int x0), .val (.int x1), .val (.long x2), .second, .val (.long x3), .second, .val (.long x4), .second, .val (.int x5), .val (.ref b37), .val (.int (f4 (0 : Int32))), .val (.int (v0_h0 x0)), .val (.int (v0_h1 x0)), .val (.int (v0_h2 x0)), .unset, .unset, .unset] []))
          exact sg0_68 l Z a0 hw hx hby hml hret hlk hown hnm hZ x0 x1 x2 x3 x4 x5 h0 n0  b37 b38_0 b38_1 b38_2 (0 : Int32) (fun _ => (0 : Int32)) (upd (upd (upd (fun _ => (0 : Int32)) 0 (-1 : Int32)) 1 (-1 : Int32)) 2 (-1 : Int32)) (fun _ => (0 : Int64)) _ _ _ X39 e39 Z38 NS39 k38_1 p38_0 p38_1 p38_2 p38_3 p38_4 p38_5 p38_6 N_b38_0 N_b38_1 N_b38_2 N_b37 ne_b37_b38_0 ne_b37_b38_1 ne_b37_b38_2 ne38_0_1 ne38_0_2 ne38_1_2 (own_skip (by decide) (own_first x0) (own_b0f h43))
        · show Go p e below s _ _ _ (T39.setTop (mkF m 61 #[.val (.int x0), .val (.int x1), .val (.long x2), .second, .val (.long x3), .second, .val (.long x4), .second, .val (.int x5), .val (.ref b37), .val (.int (f4 (0 : Int32))), .val (.int (v0_h0 x0)), .val (.int (v0_h1 x0)), .val (.int (v0_h2 x0)), .unset, .unset, .unset] []))
          refine g_aload X39 hx 63 (hb hby at_61) rfl rfl rfl ?_
          show Go p e below s _ _ _ (T39.setTop (mkF m 63 #[.val (.int x0), .val (.int x1), .val (.long x2), .second, .val (.long x3), .second, .val (.long x4), .second, .val (.int x5), .val (.ref b37), .val (.int (f4 (0 : Int32))), .val (.int (v0_h0 x0)), .val (.int (v0_h1 x0)), .val (.int (v0_h2 x0)), .unset, .unset, .unset] [(.ref b37)]))
          refine g_iconst X39 hx (0 : Int32) 64 (hb hby at_63) rfl rfl ?_
          show Go p e below s _ _ _ (T39.setTop (mkF m 64 #[.val (.int x0), .val (.int x1), .val (.long x2), .second, .val (.long x3), .second, .val (.long x4), .second, .val (.int x5), .val (.ref b37), .val (.int (f4 (0 : Int32))), .val (.int (v0_h0 x0)), .val (.int (v0_h1 x0)), .val (.int (v0_h2 x0)), .unset, .unset, .unset] [(.int (0 : Int32)), (.ref b37)]))
          refine g_lloadN X39 hx 65 (hb hby at_64) rfl rfl ?_
          show Go p e below s _ _ _ (T39.setTop (mkF m 65 #[.val (.int x0), .val (.int x1), .val (.long x2), .second, .val (.long x3), .second, .val (.long x4), .second, .val (.int x5), .val (.ref b37), .val (.int (f4 (0 : Int32))), .val (.int (v0_h0 x0)), .val (.int (v0_h1 x0)), .val (.int (v0_h2 x0)), .unset, .unset, .unset] [(.long x2), (.int (0 : Int32)), (.ref b37)]))
          refine g_callV X39 hx hZ hown (hw _ (List.mem_of_getElem? (i := 32) rfl)) (hw _ (List.mem_of_getElem? (i := 33) rfl)) (hw _ (List.mem_of_getElem? (i := 35) rfl)) (hw _ (List.mem_of_getElem? (i := 34) rfl)) (hw _ (List.mem_of_getElem? (i := 2) rfl)) (hw _ (List.mem_of_getElem? (i := 36) rfl)) (by decide) e39 b37 k38_1 (rm6 l Z a0 hw [] b37 (0 : Int32) x2 b38_0 b38_1 b38_2 (0 : Int32) (fun _ => (0 : Int32)) (upd (upd (upd (fun _ => (0 : Int32)) 0 (-1 : Int32)) 1 (-1 : Int32)) 2 (-1 : Int32)) (fun _ => (0 : Int64)) 0 (own_nt x0 0) T38.heap n0 Z38 k38_1 p38_0 p38_1 p38_2 p38_3 p38_4 p38_5 p38_6 N_b38_0 N_b38_1 N_b38_2 N_b37 ne_b37_b38_0 ne_b37_b38_1 ne_b37_b38_2 ne38_0_1 ne38_0_2 ne38_1_2 (rfl : (0 : Int32).toInt = 0) (by decide : 0 < 3) ((own_first x0).2 : (0 : Int32).toInt = (own_nt x0 0)) (Nat.le_trans (own_ntl x0 0) (by decide) : (own_nt x0 0) ≤ 3) ((own_first x0).1.1 : ∀ i, i < 3 → own_3 ((fun _ => (0 : Int32)) i)) ((own_tn (by decide) (own_first x0)).1 : (upd (upd (upd (fun _ => (0 : Int32)) 0 (-1 : Int32)) 1 (-1 : Int32)) 2 (-1 : Int32)) 0 < 0 → (own_nt x0 0) < 3) ((own_tn (by decide) (own_first x0)).2 : ¬ (upd (upd (upd (fun _ => (0 : Int32)) 0 (-1 : Int32)) 1 (-1 : Int32)) 2 (-1 : Int32)) 0 < 0 → own_3 ((upd (upd (upd (fun _ => (0 : Int32)) 0 (-1 : Int32)) 1 (-1 : Int32)) 2 (-1 : Int32)) 0))) [(.int (0 : Int32)), (.long x2)] [] 0 rfl (lenOf pd__28IJ_29V rfl) rfl (Nat.le_of_eq rfl) (by decide) (by decide) (by decide) (by decide) (by rw [hml]; rfl) (hb hby at_65) ?_
          intro T44 L44 v44 X44 q44
          obtain ⟨rfl, N44, K44, p44_0, p44_1, p44_2, p44_3, p44_4, p44_5, p44_6⟩ := q44
          have NN44 := Fr.app NS39 N44
          have k44_1 := k38_1.keep K44
          have Z44 : n0 ≤ T44.heap.size := Nat.le_trans Z38 K44.1
          show Go p e below s _ _ _ (T44.setTop (mkF m 68 #[.val (.int x0), .val (.int x1), .val (.long x2), .second, .val (.long x3), .second, .val (.long x4), .second, .val (.int x5), .val (.ref b37), .val (.int (f4 (0 : Int32))), .val (.int (v0_h0 x0)), .val (.int (v0_h1 x0)), .val (.int (v0_h2 x0)), .unset, .unset, .unset] []))
          exact sg0_68 l Z a0 hw hx hby hml hret hlk hown hnm hZ x0 x1 x2 x3 x4 x5 h0 n0  b37 b38_0 b38_1 b38_2 (own_sz ((upd (upd (upd (fun _ => (0 : Int32)) 0 (-1 : Int32)) 1 (-1 : Int32)) 2 (-1 : Int32)) 0) (0 : Int32)) (g6_a1 (0 : Int32) x2 (0 : Int32) (fun _ => (0 : Int32)) (upd (upd (upd (fun _ => (0 : Int32)) 0 (-1 : Int32)) 1 (-1 : Int32)) 2 (-1 : Int32)) (fun _ => (0 : Int64)) 0 (own_nt x0 0)) (g6_a2 (0 : Int32) x2 (0 : Int32) (fun _ => (0 : Int32)) (upd (upd (upd (fun _ => (0 : Int32)) 0 (-1 : Int32)) 1 (-1 : Int32)) 2 (-1 : Int32)) (fun _ => (0 : Int64)) 0 (own_nt x0 0)) (upd (fun _ => (0 : Int64)) 0 x2) _ _ _ X44 rfl Z44 NN44 k44_1 p44_0 p44_1 p44_2 p44_3 p44_4 p44_5 p44_6 N_b38_0 N_b38_1 N_b38_2 N_b37 ne_b37_b38_0 ne_b37_b38_1 ne_b37_b38_2 ne38_0_1 ne38_0_2 ne38_1_2 (own_take _ _ (by decide) rfl (own_first x0) (own_b0t h43))
      refine g_if0_eq X39 hx 53 49 (hb hby at_46) (by decide) rfl rfl (fun h45 => ?_) (fun h45 => ?_)
      · show Go p e below s _ _ _ (T39.setTop (mkF m 53 #[.val (.int x0), .val (.int x1), .val (.long x2), .second, .val (.long x3), .second, .val (.long x4), .second, .val (.int x5), .val (.ref b37), .val (.int (f4 (0 : Int32))), .val (.int (v0_h0 x0)), .val (.int (v0_h1 x0)), .unset, .unset, .unset, .unset] []))
        refine g_iconst X39 hx (0 : Int32) 54 (hb hby at_53) rfl rfl ?_
        show Go p e below s _ _ _ (T39.setTop (mkF m 54 #[.val (.int x0), .val (.int x1), .val (.long x2), .second, .val (.long x3), .second, .val (.long x4), .second, .val (.int x5), .val (.ref b37), .val (.int (f4 (0 : Int32))), .val (.int (v0_h0 x0)), .val (.int (v0_h1 x0)), .unset, .unset, .unset, .unset] [(.int (0 : Int32))]))
        have q42 := J42
        simp only [z0_54_s0_42, if_pos h45] at q42
        exact q42
      · show Go p e below s _ _ _ (T39.setTop (mkF m 49 #[.val (.int x0), .val (.int x1), .val (.long x2), .second, .val (.long x3), .second, .val (.long x4), .second, .val (.int x5), .val (.ref b37), .val (.int (f4 (0 : Int32))), .val (.int (v0_h0 x0)), .val (.int (v0_h1 x0)), .unset, .unset, .unset, .unset] []))
        refine g_iconst X39 hx (1 : Int32) 50 (hb hby at_49) rfl rfl ?_
        show Go p e below s _ _ _ (T39.setTop (mkF m 50 #[.val (.int x0), .val (.int x1), .val (.long x2), .second, .val (.long x3), .second, .val (.long x4), .second, .val (.int x5), .val (.ref b37), .val (.int (f4 (0 : Int32))), .val (.int (v0_h0 x0)), .val (.int (v0_h1 x0)), .unset, .unset, .unset, .unset] [(.int (1 : Int32))]))
        refine g_goto X39 hx 54 (hb hby at_50) (by decide) rfl ?_
        show Go p e below s _ _ _ (T39.setTop (mkF m 54 #[.val (.int x0), .val (.int x1), .val (.long x2), .second, .val (.long x3), .second, .val (.long x4), .second, .val (.int x5), .val (.ref b37), .val (.int (f4 (0 : Int32))), .val (.int (v0_h0 x0)), .val (.int (v0_h1 x0)), .unset, .unset, .unset, .unset] [(.int (1 : Int32))]))
        have q42 := J42
        simp only [z0_54_s0_42, if_neg h45] at q42
        exact q42
    refine g_if0_eq X39 hx 40 36 (hb hby at_33) (by decide) rfl rfl (fun h46 => ?_) (fun h46 => ?_)
    · show Go p e below s _ _ _ (T39.setTop (mkF m 40 #[.val (.int x0), .val (.int x1), .val (.long x2), .second, .val (.long x3), .second, .val (.long x4), .second, .val (.int x5), .val (.ref b37), .val (.int (f4 (0 : Int32))), .val (.int (v0_h0 x0)), .unset, .unset, .unset, .unset, .unset] []))
      refine g_iconst X39 hx (0 : Int32) 41 (hb hby at_40) rfl rfl ?_
      show Go p e below s _ _ _ (T39.setTop (mkF m 41 #[.val (.int x0), .val (.int x1), .val (.long x2), .second, .val (.long x3), .second, .val (.long x4), .second, .val (.int x5), .val (.ref b37), .val (.int (f4 (0 : Int32))), .val (.int (v0_h0 x0)), .unset, .unset, .unset, .unset, .unset] [(.int (0 : Int32))]))
      have q41 := J41
      simp only [z0_41_s0_41, if_pos h46] at q41
      exact q41
    · show Go p e below s _ _ _ (T39.setTop (mkF m 36 #[.val (.int x0), .val (.int x1), .val (.long x2), .second, .val (.long x3), .second, .val (.long x4), .second, .val (.int x5), .val (.ref b37), .val (.int (f4 (0 : Int32))), .val (.int (v0_h0 x0)), .unset, .unset, .unset, .unset, .unset] []))
      refine g_iconst X39 hx (1 : Int32) 37 (hb hby at_36) rfl rfl ?_
      show Go p e below s _ _ _ (T39.setTop (mkF m 37 #[.val (.int x0), .val (.int x1), .val (.long x2), .second, .val (.long x3), .second, .val (.long x4), .second, .val (.int x5), .val (.ref b37), .val (.int (f4 (0 : Int32))), .val (.int (v0_h0 x0)), .unset, .unset, .unset, .unset, .unset] [(.int (1 : Int32))]))
      refine g_goto X39 hx 41 (hb hby at_37) (by decide) rfl ?_
      show Go p e below s _ _ _ (T39.setTop (mkF m 41 #[.val (.int x0), .val (.int x1), .val (.long x2), .second, .val (.long x3), .second, .val (.long x4), .second, .val (.int x5), .val (.ref b37), .val (.int (f4 (0 : Int32))), .val (.int (v0_h0 x0)), .unset, .unset, .unset, .unset, .unset] [(.int (1 : Int32))]))
      have q41 := J41
      simp only [z0_41_s0_41, if_neg h46] at q41
      exact q41
  refine g_if0_eq X39 hx 27 23 (hb hby at_20) (by decide) rfl rfl (fun h47 => ?_) (fun h47 => ?_)
  · show Go p e below s _ _ _ (T39.setTop (mkF m 27 #[.val (.int x0), .val (.int x1), .val (.long x2), .second, .val (.long x3), .second, .val (.long x4), .second, .val (.int x5), .val (.ref b37), .val (.int (f4 (0 : Int32))), .unset, .unset, .unset, .unset, .unset, .unset] []))
    refine g_iconst X39 hx (0 : Int32) 28 (hb hby at_27) rfl rfl ?_
    show Go p e below s _ _ _ (T39.setTop (mkF m 28 #[.val (.int x0), .val (.int x1), .val (.long x2), .second, .val (.long x3), .second, .val (.long x4), .second, .val (.int x5), .val (.ref b37), .val (.int (f4 (0 : Int32))), .unset, .unset, .unset, .unset, .unset, .unset] [(.int (0 : Int32))]))
    have q40 := J40
    simp only [z0_28_s0_40, if_pos h47] at q40
    exact q40
  · show Go p e below s _ _ _ (T39.setTop (mkF m 23 #[.val (.int x0), .val (.int x1), .val (.long x2), .second, .val (.long x3), .second, .val (.long x4), .second, .val (.int x5), .val (.ref b37), .val (.int (f4 (0 : Int32))), .unset, .unset, .unset, .unset, .unset, .unset] []))
    refine g_iconst X39 hx (1 : Int32) 24 (hb hby at_23) rfl rfl ?_
    show Go p e below s _ _ _ (T39.setTop (mkF m 24 #[.val (.int x0), .val (.int x1), .val (.long x2), .second, .val (.long x3), .second, .val (.long x4), .second, .val (.int x5), .val (.ref b37), .val (.int (f4 (0 : Int32))), .unset, .unset, .unset, .unset, .unset, .unset] [(.int (1 : Int32))]))
    refine g_goto X39 hx 28 (hb hby at_24) (by decide) rfl ?_
    show Go p e below s _ _ _ (T39.setTop (mkF m 28 #[.val (.int x0), .val (.int x1), .val (.long x2), .second, .val (.long x3), .second, .val (.long x4), .second, .val (.int x5), .val (.ref b37), .val (.int (f4 (0 : Int32))), .unset, .unset, .unset, .unset, .unset, .unset] [(.int (1 : Int32))]))
    have q40 := J40
    simp only [z0_28_s0_40, if_neg h47] at q40
    exact q40
set_option maxRecDepth 65536 in
set_option maxHeartbeats 40000000 in
theorem comes_1 {Post : Tables → Env → Array Value → State → Outcome → State → Prop} (hpost : ∀ tb e args s v u, (limb_1_1.after args s (.returned v) u = true ∧ limb_1_2.after args s (.returned v) u = true ∧ True) → FrameEnd s (.returned v) u (Jvm.fieldLocs frame_1_writes args s ++ Jvm.arrayLocs frame_1_arrays args s ++ Jvm.staticLocs frame_1_statics s) 16 128 → Post tb e args s (.returned v) u) :
    ArmFor flags0 classFile x code maxLocals ret World_1 tables_1 room_1 Calls_1 rest_1 Pre_1 Post := by
  intro l hfl _ _ p e ha hc hk s m args below hf hA hF happ hP
  obtain ⟨hcalls, hrest, hpre⟩ := hP
  obtain ⟨-, -, -, hnamed, -, -, -, hat⟩ := (Spec.applies_iff hf).mp happ
  obtain ⟨hg, hn⟩ := and_e (Cond.before_iff.mp (show (Jvm.Cond.and given_1 narrow_1).before args s = true from hpre))
  obtain ⟨g1, g2⟩ := and_e hg
  obtain ⟨g3, g4⟩ := and_e g2
  obtain ⟨g5, g6⟩ := and_e g4
  obtain ⟨g7, g8⟩ := and_e g6
  obtain ⟨g9, g10⟩ := and_e g8
  obtain ⟨g11, g12⟩ := and_e g10
  obtain ⟨w0, w1, w2, w3, w4, w5, rfl⟩ : ∃ w0 w1 w2 w3 w4 w5 : Value, args = #[w0, w1, w2, w3, w4, w5] := by
    have hs : args.size = 6 := by simpa [Cond.value, given_1] using g1
    obtain ⟨L⟩ := args
    match L, hs with
    | [w0, w1, w2, w3, w4, w5], _ => exact ⟨w0, w1, w2, w3, w4, w5, rfl⟩
  have hw := fun d (hd : d ∈ tables_1) => atoms_spec (ws := Jvm.Cond.code x code maxLocals ret :: tables_1) hat d (List.mem_cons_of_mem _ hd)
  obtain ⟨i0, ei0⟩ := is_v g3
  obtain rfl : w0 = (.int i0) := Option.some.inj ei0
  obtain ⟨i1, ei1⟩ := is_v g5
  obtain rfl : w1 = (.int i1) := Option.some.inj ei1
  obtain ⟨i2, ei2⟩ := isL_v g7
  obtain rfl : w2 = (.long i2) := Option.some.inj ei2
  obtain ⟨i3, ei3⟩ := isL_v g9
  obtain rfl : w3 = (.long i3) := Option.some.inj ei3
  obtain ⟨i4, ei4⟩ := isL_v g11
  obtain rfl : w4 = (.long i4) := Option.some.inj ei4
  obtain ⟨i5, ei5⟩ := is_v g12
  obtain rfl : w5 = (.int i5) := Option.some.inj ei5
  obtain ⟨n, o, h1, h2, h3, _, L, rfl, ⟨rfl, N⟩, hq⟩ := rm0 l s _ hw tables_1 i0 i1 i2 i3 i4 i5 s.heap s.heap.size (Nat.le_refl _) p e ha hc hk s m _ below hf ((Spec.applies_iff_loose hf).mp happ).1 ⟨rfl, State.Warmed39.refl s, rfl⟩ trivial
  refine ⟨n, _, h1, h2, h3, hpost _ _ _ _ _ _ ⟨Cond.after_iff.mpr rfl, Cond.after_iff.mpr (eq_i res_at (Term.int_eval (1)) rfl), trivial⟩ ⟨hq.1, hq.2.1, (hq.2.2.sift fun y hy => Or.inr (N y hy)).mono (by decide) (by decide)⟩⟩
theorem main_1_1 : Claimed_1_1 := comes_1 fun _ _ _ _ _ _ h hF => ⟨h.1, hF⟩
theorem main_1_2 : Claimed_1_2 := comes_1 fun _ _ _ _ _ _ h hF => ⟨h.2.1, hF⟩
end Jvm.Pilot.@@N@@
namespace Jvm.Pilot.@@N@@
open Jvm Jvm.ClassFile Sem Op Lib Jvm.Free Jvm.Stand Jvm.Pilot.@@N@@.Jvm.D
/-! MADE BY PROGRAM (witnessworld.py) out of the Statement's table words and the real class files: 13 classes; the members and pool entries that the words name. The judged class is class 1, her method 1. -/
namespace start1
open Jvm.ClassFile
def u (s : String) : CpInfo := .utf8 (stringToUtf16 s)
/-- a pool by its gaps: so many unusable entries, then the entry; so many at the end -/
def gap : Nat → List CpInfo → List CpInfo
  | 0, r => r
  | n + 1, r => .unusable :: gap n r
def poolList (es : List (Nat × CpInfo)) (last : Nat) : List CpInfo := es.foldr (fun e r => gap e.1 (e.2 :: r)) (gap last [])
def pool (es : List (Nat × CpInfo)) (last : Nat) : Array CpInfo := ⟨poolList es last⟩
def fileOf (pool : Array CpInfo) (this : Nat) (attrs : Array Attribute := #[]) (ms : Array MethodInfo := #[]) (fl : Nat := 33) (sup : Nat := 0) (ifs : Array Nat := #[]) (fds : Array FieldInfo := #[]) : ClassFile where
  minorVersion := 0
  majorVersion := 65
  constantPool := pool
  accessFlags := fl
  thisClass := this
  superClass := sup
  interfaces := ifs
  fields := fds
  methods := ms
  attributes := attrs
def plain (name : String) (sup : Option ClassId) : Class where
  name := name
  kind := .ordinary
  loader := none
  accessFlags := 33
  super := sup
  interfaces := #[]
  cf := none
  fields := #[]
  methods := #[]
  instanceTypes := #[]
  staticTypes := #[]
  resolved := #[]
  callSites := []
  init := .initialized
  statics := none
  mirror := none

def pool0 : Array CpInfo := pool [(5, u "<init>"), (0, u "()V"), (1, .class_ 10), (1, u "java/lang/Object")] 113

def k0c0 : Code := { maxStack := 0, maxLocals := 1, code := object_method_1_code, exceptionTable := #[], attributes := #[] }
def k0m0 : Method := { name := "<init>", desc := "()V", sig := { parameters := [], returnType := none }, accessFlags := 1, code := some k0c0 }
/-- java/lang/Object -/
def k0 : Class := { plain "java/lang/Object" none with
  accessFlags := 33
  interfaces := #[]
  cf := some (fileOf pool0 8 #[] #[{ accessFlags := 1, nameIndex := 5, descriptorIndex := 6, attributes := #[] }] 33 0 #[] #[])
  fields := #[]
  methods := #[k0m0]
  instanceTypes := #[]
  staticTypes := #[]
  resolved := Array.replicate 124 none
  statics := none }

def pool1 : Array CpInfo := pool [(2, .class_ 4), (1, u "java/lang/Object"), (0, u "<init>"), (0, u "()V"), (0, .class_ 8), (0, u "com/example/weir/weir/cli/Deadlines"), (0, .methodref 7 10), (0, .nameAndType 5 11), (0, u "(I)V"), (0, .methodref 7 13), (0, .nameAndType 14 15), (0, u "isEmpty"), (0, u "()Z"), (0, .methodref 7 17), (0, .nameAndType 18 19), (0, u "hold"), (0, u "(IJ)V"), (0, .methodref 21 22), (0, .class_ 23), (0, .nameAndType 24 25), (0, u "java/lang/Math"), (0, u "min"), (0, u "(II)I"), (0, .methodref 7 27), (0, .nameAndType 28 29), (0, u "removeFirst"), (0, u "()I"), (0, .class_ 31), (0, u "com/example/weir/weir/cli/DeadlinesIsEmptyPinLaw"), (2, u "law"), (0, u "(IIJJJI)Z")] 3

def k1m0 : Method := { name := "<init>", desc := "()V", sig := { parameters := [], returnType := none }, accessFlags := 1, code := none }
def k1c1 : Code := { maxStack := 4, maxLocals := 17, code := code, exceptionTable := #[], attributes := #[] }
def k1m1 : Method := { name := "law", desc := "(IIJJJI)Z", sig := { parameters := [.int, .int, .long, .long, .long, .int], returnType := some .boolean }, accessFlags := 9, code := some k1c1 }
/-- com/example/weir/weir/cli/DeadlinesIsEmptyPinLaw -/
def k1 : Class := { plain "com/example/weir/weir/cli/DeadlinesIsEmptyPinLaw" (some 0) with
  accessFlags := 49
  interfaces := #[]
  cf := some (fileOf pool1 30 #[] #[{ accessFlags := 1, nameIndex := 5, descriptorIndex := 6, attributes := #[] }, { accessFlags := 9, nameIndex := 34, descriptorIndex := 35, attributes := #[] }] 49 2 #[] #[])
  fields := #[]
  methods := #[k1m0, k1m1]
  instanceTypes := #[]
  staticTypes := #[]
  resolved := Array.replicate 39 none
  statics := none }

def pool2 : Array CpInfo := pool [(1, .methodref 2 3), (0, .class_ 4), (0, .nameAndType 5 6), (0, u "java/lang/Object"), (0, u "<init>"), (0, u "()V"), (0, .fieldref 8 9), (0, .class_ 10), (0, .nameAndType 11 12), (0, u "com/example/weir/weir/cli/Deadlines"), (0, u "heap"), (0, u "[I"), (0, .fieldref 8 14), (0, .nameAndType 15 12), (0, u "places"), (0, .methodref 17 18), (0, .class_ 19), (0, .nameAndType 20 21), (0, u "java/util/Arrays"), (0, u "fill"), (0, u "([II)V"), (0, .fieldref 8 23), (0, .nameAndType 24 25), (0, u "times"), (0, u "[J"), (0, .fieldref 8 27), (0, .nameAndType 28 29), (0, u "size"), (0, u "I"), (0, .methodref 8 31), (0, .nameAndType 32 33), (0, u "put"), (0, u "(II)V"), (0, .methodref 8 35), (0, .nameAndType 36 37), (0, u "up"), (0, u "(I)I"), (0, .methodref 8 39), (0, .nameAndType 40 41), (0, u "down"), (0, u "(I)V"), (0, .methodref 8 43), (0, .nameAndType 44 37), (0, u "earlierChild"), (2, u "isEmpty"), (0, u "()Z"), (2, u "()I"), (2, u "hold"), (0, u "(IJ)V"), (0, u "removeFirst")] 2

def k2c0 : Code := { maxStack := 2, maxLocals := 2, code := prog_27_method_1_code, exceptionTable := #[], attributes := #[] }
def k2m0 : Method := { name := "<init>", desc := "(I)V", sig := { parameters := [.int], returnType := none }, accessFlags := 0, code := some k2c0 }
def k2c1 : Code := { maxStack := 1, maxLocals := 1, code := prog_27_method_2_code, exceptionTable := #[], attributes := #[] }
def k2m1 : Method := { name := "isEmpty", desc := "()Z", sig := { parameters := [], returnType := some .boolean }, accessFlags := 0, code := some k2c1 }
def k2c2 : Code := { maxStack := 4, maxLocals := 5, code := prog_27_method_5_code, exceptionTable := #[], attributes := #[] }
def k2m2 : Method := { name := "hold", desc := "(IJ)V", sig := { parameters := [.int, .long], returnType := none }, accessFlags := 0, code := some k2c2 }
def k2c3 : Code := { maxStack := 3, maxLocals := 2, code := prog_27_method_6_code, exceptionTable := #[], attributes := #[] }
def k2m3 : Method := { name := "removeFirst", desc := "()I", sig := { parameters := [], returnType := some .int }, accessFlags := 0, code := some k2c3 }
def k2c4 : Code := { maxStack := 4, maxLocals := 3, code := prog_27_method_7_code, exceptionTable := #[], attributes := #[] }
def k2m4 : Method := { name := "up", desc := "(I)I", sig := { parameters := [.int], returnType := some .int }, accessFlags := 2, code := some k2c4 }
def k2c5 : Code := { maxStack := 4, maxLocals := 4, code := prog_27_method_8_code, exceptionTable := #[], attributes := #[] }
def k2m5 : Method := { name := "down", desc := "(I)V", sig := { parameters := [.int], returnType := none }, accessFlags := 2, code := some k2c5 }
def k2c6 : Code := { maxStack := 5, maxLocals := 3, code := prog_27_method_9_code, exceptionTable := #[], attributes := #[] }
def k2m6 : Method := { name := "earlierChild", desc := "(I)I", sig := { parameters := [.int], returnType := some .int }, accessFlags := 2, code := some k2c6 }
def k2c7 : Code := { maxStack := 3, maxLocals := 3, code := prog_27_method_10_code, exceptionTable := #[], attributes := #[] }
def k2m7 : Method := { name := "put", desc := "(II)V", sig := { parameters := [.int, .int], returnType := none }, accessFlags := 2, code := some k2c7 }
/-- com/example/weir/weir/cli/Deadlines -/
def k2 : Class := { plain "com/example/weir/weir/cli/Deadlines" (some 0) with
  accessFlags := 48
  interfaces := #[]
  cf := some (fileOf pool2 8 #[] #[{ accessFlags := 0, nameIndex := 5, descriptorIndex := 41, attributes := #[] }, { accessFlags := 0, nameIndex := 47, descriptorIndex := 48, attributes := #[] }, { accessFlags := 0, nameIndex := 54, descriptorIndex := 55, attributes := #[] }, { accessFlags := 0, nameIndex := 56, descriptorIndex := 51, attributes := #[] }, { accessFlags := 2, nameIndex := 36, descriptorIndex := 37, attributes := #[] }, { accessFlags := 2, nameIndex := 40, descriptorIndex := 41, attributes := #[] }, { accessFlags := 2, nameIndex := 44, descriptorIndex := 37, attributes := #[] }, { accessFlags := 2, nameIndex := 32, descriptorIndex := 33, attributes := #[] }] 48 2 #[] #[{ accessFlags := 18, nameIndex := 11, descriptorIndex := 12, attributes := #[] }, { accessFlags := 18, nameIndex := 15, descriptorIndex := 12, attributes := #[] }, { accessFlags := 18, nameIndex := 24, descriptorIndex := 25, attributes := #[] }, { accessFlags := 2, nameIndex := 28, descriptorIndex := 29, attributes := #[] }])
  fields := #[{ name := "heap", type := (.array .int), accessFlags := 18, slot := 0, constantValue := 0 }, { name := "places", type := (.array .int), accessFlags := 18, slot := 1, constantValue := 0 }, { name := "times", type := (.array .long), accessFlags := 18, slot := 2, constantValue := 0 }, { name := "size", type := .int, accessFlags := 2, slot := 3, constantValue := 0 }]
  methods := #[k2m0, k2m1, k2m2, k2m3, k2m4, k2m5, k2m6, k2m7]
  instanceTypes := #[(.array .int), (.array .int), (.array .long), .int]
  staticTypes := #[]
  resolved := Array.replicate 59 none
  statics := none }

def pool3 : Array CpInfo := pool [(2, .class_ 4), (1, u "java/lang/Object"), (0, u "<init>"), (0, u "()V"), (7, .class_ 16), (1, u "java/util/Arrays"), (57, .class_ 76), (1, u "java/util/Arrays$NaturalOrder"), (36, .class_ 115), (1, u "java/util/Arrays$LegacyMergeSort"), (1, u "Z"), (257, .class_ 376), (0, u "java/util/Arrays$ArrayList"), (68, u "$assertionsDisabled"), (269, u "MIN_ARRAY_SORT_GRAN"), (0, u "I"), (2, u "INSERTIONSORT_THRESHOLD"), (120, u "fill"), (4, u "([II)V"), (129, .class_ 976), (0, u "java/util/Arrays$ArrayItr")] 52

def k3m0 : Method := { name := "<init>", desc := "()V", sig := { parameters := [], returnType := none }, accessFlags := 2, code := none }
def k3c1 : Code := { maxStack := 3, maxLocals := 4, code := jdk_65_method_103_code, exceptionTable := #[], attributes := #[] }
def k3m1 : Method := { name := "fill", desc := "([II)V", sig := { parameters := [(.array .int), .int], returnType := none }, accessFlags := 9, code := some k3c1 }
/-- java/util/Arrays -/
def k3 : Class := { plain "java/util/Arrays" (some 0) with
  accessFlags := 49
  interfaces := #[]
  cf := some (fileOf pool3 14 #[.nestMembers #[975, 375, 113, 74]] #[{ accessFlags := 2, nameIndex := 5, descriptorIndex := 6, attributes := #[] }, { accessFlags := 9, nameIndex := 840, descriptorIndex := 845, attributes := #[] }] 49 2 #[] #[{ accessFlags := 26, nameIndex := 715, descriptorIndex := 716, attributes := #[] }, { accessFlags := 26, nameIndex := 719, descriptorIndex := 716, attributes := #[] }, { accessFlags := 4120, nameIndex := 445, descriptorIndex := 117, attributes := #[] }])
  fields := #[{ name := "MIN_ARRAY_SORT_GRAN", type := .int, accessFlags := 26, slot := 0, constantValue := 0 }, { name := "INSERTIONSORT_THRESHOLD", type := .int, accessFlags := 26, slot := 1, constantValue := 0 }, { name := "$assertionsDisabled", type := .boolean, accessFlags := 4120, slot := 2, constantValue := 0 }]
  methods := #[k3m0, k3m1]
  instanceTypes := #[]
  staticTypes := #[.int, .int, .boolean]
  resolved := Array.replicate 1029 none
  statics := none }

def pool4 : Array CpInfo := pool [(1, .class_ 2), (0, u "java/lang/Math"), (1, .class_ 6), (1, u "java/lang/Object"), (0, u "<init>"), (0, u "()V"), (89, .class_ 100), (1, u "java/lang/Math$RandomNumberGeneratorHolder"), (71, u "negativeZeroFloatBits"), (0, u "J"), (2, u "negativeZeroDoubleBits"), (24, u "min"), (43, u "$assertionsDisabled"), (0, u "Z"), (88, u "(II)I"), (2, u "twoToTheDoubleScaleDown"), (0, u "D"), (4, u "twoToTheDoubleScaleUp"), (9, u "E"), (3, u "PI"), (2, u "TAU"), (2, u "DEGREES_TO_RADIANS"), (0, u "RADIANS_TO_DEGREES")] 94

def k4m0 : Method := { name := "<init>", desc := "()V", sig := { parameters := [], returnType := none }, accessFlags := 2, code := none }
def k4c1 : Code := { maxStack := 2, maxLocals := 2, code := jdk_29_method_69_code, exceptionTable := #[], attributes := #[] }
def k4m1 : Method := { name := "min", desc := "(II)I", sig := { parameters := [.int, .int], returnType := some .int }, accessFlags := 9, code := some k4c1 }
/-- java/lang/Math -/
def k4 : Class := { plain "java/lang/Math" (some 0) with
  accessFlags := 49
  interfaces := #[]
  cf := some (fileOf pool4 1 #[.nestMembers #[98]] #[{ accessFlags := 2, nameIndex := 7, descriptorIndex := 8, attributes := #[] }, { accessFlags := 9, nameIndex := 201, descriptorIndex := 335, attributes := #[] }] 49 4 #[] #[{ accessFlags := 25, nameIndex := 354, descriptorIndex := 339, attributes := #[] }, { accessFlags := 25, nameIndex := 358, descriptorIndex := 339, attributes := #[] }, { accessFlags := 25, nameIndex := 361, descriptorIndex := 339, attributes := #[] }, { accessFlags := 26, nameIndex := 364, descriptorIndex := 339, attributes := #[] }, { accessFlags := 26, nameIndex := 365, descriptorIndex := 339, attributes := #[] }, { accessFlags := 26, nameIndex := 172, descriptorIndex := 173, attributes := #[] }, { accessFlags := 26, nameIndex := 176, descriptorIndex := 173, attributes := #[] }, { accessFlags := 8, nameIndex := 344, descriptorIndex := 339, attributes := #[] }, { accessFlags := 8, nameIndex := 338, descriptorIndex := 339, attributes := #[] }, { accessFlags := 4120, nameIndex := 245, descriptorIndex := 246, attributes := #[] }])
  fields := #[{ name := "E", type := .double, accessFlags := 25, slot := 0, constantValue := 0 }, { name := "PI", type := .double, accessFlags := 25, slot := 1, constantValue := 0 }, { name := "TAU", type := .double, accessFlags := 25, slot := 2, constantValue := 0 }, { name := "DEGREES_TO_RADIANS", type := .double, accessFlags := 26, slot := 3, constantValue := 0 }, { name := "RADIANS_TO_DEGREES", type := .double, accessFlags := 26, slot := 4, constantValue := 0 }, { name := "negativeZeroFloatBits", type := .long, accessFlags := 26, slot := 5, constantValue := 0 }, { name := "negativeZeroDoubleBits", type := .long, accessFlags := 26, slot := 6, constantValue := 0 }, { name := "twoToTheDoubleScaleUp", type := .double, accessFlags := 8, slot := 7, constantValue := 0 }, { name := "twoToTheDoubleScaleDown", type := .double, accessFlags := 8, slot := 8, constantValue := 0 }, { name := "$assertionsDisabled", type := .boolean, accessFlags := 4120, slot := 9, constantValue := 0 }]
  methods := #[k4m0, k4m1]
  instanceTypes := #[]
  staticTypes := #[.double, .double, .double, .double, .double, .long, .long, .double, .double, .boolean]
  resolved := Array.replicate 460 none
  statics := none }

def pool5 : Array CpInfo := pool [(1, u "java/lang/Cloneable"), (0, .class_ 1), (0, u "java/lang/Object"), (0, .class_ 3)] 3

/-- java/lang/Cloneable -/
def k5 : Class := { plain "java/lang/Cloneable" (some 0) with
  accessFlags := 1537
  interfaces := #[]
  cf := some (fileOf pool5 2 #[] #[] 1537 4 #[] #[])
  fields := #[]
  methods := #[]
  instanceTypes := #[]
  staticTypes := #[]
  resolved := Array.replicate 8 none
  statics := none }

def pool6 : Array CpInfo := pool [(1, u "java/io/Serializable"), (0, .class_ 1), (0, u "java/lang/Object"), (0, .class_ 3)] 3

/-- java/io/Serializable -/
def k6 : Class := { plain "java/io/Serializable" (some 0) with
  accessFlags := 1537
  interfaces := #[]
  cf := some (fileOf pool6 2 #[] #[] 1537 4 #[] #[])
  fields := #[]
  methods := #[]
  instanceTypes := #[]
  staticTypes := #[]
  resolved := Array.replicate 8 none
  statics := none }

/-- the primitive byte -/
def k7 : Class := { plain "byte" none with kind := .primitive 'B', accessFlags := 0x411 }
/-- [B -/
def k8 : Class := { plain "[B" (some 0) with kind := .array 7 .byte, interfaces := #[5, 6], accessFlags := 1041 }

/-- the primitive int -/
def k9 : Class := { plain "int" none with kind := .primitive 'I', accessFlags := 0x411 }
/-- [I -/
def k10 : Class := { plain "[I" (some 0) with kind := .array 9 .int, interfaces := #[5, 6], accessFlags := 1041 }

/-- the primitive long -/
def k11 : Class := { plain "long" none with kind := .primitive 'J', accessFlags := 0x411 }
/-- [J -/
def k12 : Class := { plain "[J" (some 0) with kind := .array 11 .long, interfaces := #[5, 6], accessFlags := 1041 }

def heap : Heap := #[]
def classes : Array Class := #[k0, k1, k2, k3, k4, k5, k6, k7, k8, k9, k10, k11, k12]
def interned : List (Array UInt16 × Addr) := []
def slotsUsed : Nat := 0
def theMethod : MethodId := ⟨1, 1⟩
def args0 : Array Value := #[.int 5, .int 6, .long 7, .long 8, .long 9, .int 10]
def aboutOver (below : List Frame) : State where
  vm := { classes := classes, interned := interned.toArray }
  heap := heap
  slotsUsed := slotsUsed
  threads := #[{ frames := .invoking theMethod args0 :: below }]
def below0 : List Frame := [.native { method := ⟨0, 0⟩, args := #[] }]
def about1 : State := aboutOver below0
def p0 : Program := .bare "" "" ""
def e0 : Env := launch0.env 0 0 0
theorem w_frames : about1.frames = Frame.invoking theMethod args0 :: below0 := rfl
set_option maxRecDepth 65536 in
theorem w_args : argsFit about1.vm theMethod args0 = true := by decide +kernel
set_option maxRecDepth 65536 in
theorem w_heap : heapFits about1 = true := by decide +kernel
set_option maxRecDepth 65536 in
theorem w_runnable : about1.curStatus? = some .runnable := by decide +kernel
set_option maxRecDepth 65536 in
theorem w_alone : about1.alone = true := by decide +kernel
set_option maxRecDepth 65536 in
theorem w_named : about1.methodNamed? x = some theMethod := by decide +kernel
set_option maxRecDepth 65536 in
theorem w_hears : about1.hears theMethod below0 = true := by decide +kernel
set_option maxRecDepth 65536 in
theorem w_ripe : about1.ripe theMethod args0 below0 = true := by decide +kernel
theorem w_running : about1.status = .running := rfl
set_option maxRecDepth 65536 in
theorem w_room : about1.hasRoom e0.platform room_1 = true :=
  launch0.hasRoom_least _ room_1 (by decide +kernel) (by decide +kernel) (by decide +kernel) (by decide +kernel) (by decide +kernel) (by decide +kernel)
theorem allAtoms_all (ts : List Jvm.Cond) (a : Array Jvm.Value) (st : Jvm.State) : (allAtoms ts).before a st = ts.all (fun c => c.before a st) := by
  induction ts with
  | nil => rfl
  | cons c t ih =>
    show (Jvm.Cond.and c (allAtoms t)).before a st = _
    rw [Jvm.Cond.before_and, ih, List.all_cons]
def words1 : List Jvm.Cond := Jvm.Cond.code x code maxLocals ret :: tables_1
/-- a 'code' word, met by the world's own term for the bytes: nothing is compared byte by byte -/
theorem code_word {y : MethodName} {bytes : ByteArray} {mx : Nat} {rt : Option FieldType} {a : Array Value} {s : State} {m : MethodId} {meth : Method} {c : Code} (h1 : s.methodNamed? y = some m) (h2 : s.vm.method? m = some meth) (h3 : meth.code = some c) (h4 : c.code = bytes)
    (h5 : (c.maxLocals == mx && c.exceptionTable.isEmpty && decide (c.maxStack ≤ mostOperands) && decide (meth.sig.returnType = rt) && !meth.locks && decide (parseMethodDescriptor y.desc = some meth.sig)) = true) : (Jvm.Cond.code y bytes mx rt).before a s = true := by
  simp only [Bool.and_eq_true, beq_iff_eq, Bool.not_eq_true', decide_eq_true_eq] at h5
  obtain ⟨⟨⟨⟨⟨g1, g2⟩, g3⟩, g4⟩, g5⟩, g6⟩ := h5
  simp [Cond.before, Cond.holds, Cond.value, h1, h2, h3, h4, g1, g2, g3, g4, g5, g6]
def isCode : Jvm.Cond → Bool
  | .code _ _ _ _ => true
  | _ => false
theorem all_split {L : List Jvm.Cond} {P : Jvm.Cond → Bool} (h1 : L.all (fun c => isCode c || P c) = true) (h2 : ∀ c ∈ L.filter isCode, P c = true) : L.all P = true := by
  refine List.all_eq_true.mpr fun c hc => ?_
  have h := List.all_eq_true.mp h1 c hc
  rcases Bool.eq_false_or_eq_true (isCode c) with hi | hi
  · exact h2 c (List.mem_filter.mpr ⟨hc, hi⟩)
  · simpa [hi] using h
set_option maxRecDepth 65536 in
theorem w_c0 : (Jvm.Cond.code x code maxLocals ret).before args0 about1 = true := code_word (m := ⟨1, 1⟩) (meth := k1m1) (c := k1c1) (by decide +kernel) rfl rfl rfl (by decide +kernel)
set_option maxRecDepth 65536 in
theorem w_c1 : (Jvm.Cond.code ({ cls := "com/example/weir/weir/cli/Deadlines", name := "<init>", desc := "(I)V" } : Jvm.MethodName) prog_27_method_1_code (2 : Nat) (Option.none : Option Jvm.ClassFile.FieldType)).before args0 about1 = true := code_word (m := ⟨2, 0⟩) (meth := k2m0) (c := k2c0) (by decide +kernel) rfl rfl rfl (by decide +kernel)
set_option maxRecDepth 65536 in
theorem w_c2 : (Jvm.Cond.code ({ cls := "java/lang/Object", name := "<init>", desc := "()V" } : Jvm.MethodName) object_method_1_code (1 : Nat) (Option.none : Option Jvm.ClassFile.FieldType)).before args0 about1 = true := code_word (m := ⟨0, 0⟩) (meth := k0m0) (c := k0c0) (by decide +kernel) rfl rfl rfl (by decide +kernel)
set_option maxRecDepth 65536 in
theorem w_c3 : (Jvm.Cond.code ({ cls := "java/util/Arrays", name := "fill", desc := "([II)V" } : Jvm.MethodName) jdk_65_method_103_code (4 : Nat) (Option.none : Option Jvm.ClassFile.FieldType)).before args0 about1 = true := code_word (m := ⟨3, 1⟩) (meth := k3m1) (c := k3c1) (by decide +kernel) rfl rfl rfl (by decide +kernel)
set_option maxRecDepth 65536 in
theorem w_c4 : (Jvm.Cond.code ({ cls := "com/example/weir/weir/cli/Deadlines", name := "isEmpty", desc := "()Z" } : Jvm.MethodName) prog_27_method_2_code (1 : Nat) (Option.some Jvm.ClassFile.FieldType.boolean)).before args0 about1 = true := code_word (m := ⟨2, 1⟩) (meth := k2m1) (c := k2c1) (by decide +kernel) rfl rfl rfl (by decide +kernel)
set_option maxRecDepth 65536 in
theorem w_c5 : (Jvm.Cond.code ({ cls := "java/lang/Math", name := "min", desc := "(II)I" } : Jvm.MethodName) jdk_29_method_69_code (2 : Nat) (Option.some Jvm.ClassFile.FieldType.int)).before args0 about1 = true := code_word (m := ⟨4, 1⟩) (meth := k4m1) (c := k4c1) (by decide +kernel) rfl rfl rfl (by decide +kernel)
set_option maxRecDepth 65536 in
theorem w_c6 : (Jvm.Cond.code ({ cls := "com/example/weir/weir/cli/Deadlines", name := "hold", desc := "(IJ)V" } : Jvm.MethodName) prog_27_method_5_code (5 : Nat) (Option.none : Option Jvm.ClassFile.FieldType)).before args0 about1 = true := code_word (m := ⟨2, 2⟩) (meth := k2m2) (c := k2c2) (by decide +kernel) rfl rfl rfl (by decide +kernel)
set_option maxRecDepth 65536 in
theorem w_c7 : (Jvm.Cond.code ({ cls := "com/example/weir/weir/cli/Deadlines", name := "put", desc := "(II)V" } : Jvm.MethodName) prog_27_method_10_code (3 : Nat) (Option.none : Option Jvm.ClassFile.FieldType)).before args0 about1 = true := code_word (m := ⟨2, 7⟩) (meth := k2m7) (c := k2c7) (by decide +kernel) rfl rfl rfl (by decide +kernel)
set_option maxRecDepth 65536 in
theorem w_c8 : (Jvm.Cond.code ({ cls := "com/example/weir/weir/cli/Deadlines", name := "up", desc := "(I)I" } : Jvm.MethodName) prog_27_method_7_code (3 : Nat) (Option.some Jvm.ClassFile.FieldType.int)).before args0 about1 = true := code_word (m := ⟨2, 4⟩) (meth := k2m4) (c := k2c4) (by decide +kernel) rfl rfl rfl (by decide +kernel)
set_option maxRecDepth 65536 in
theorem w_c9 : (Jvm.Cond.code ({ cls := "com/example/weir/weir/cli/Deadlines", name := "down", desc := "(I)V" } : Jvm.MethodName) prog_27_method_8_code (4 : Nat) (Option.none : Option Jvm.ClassFile.FieldType)).before args0 about1 = true := code_word (m := ⟨2, 5⟩) (meth := k2m5) (c := k2c5) (by decide +kernel) rfl rfl rfl (by decide +kernel)
set_option maxRecDepth 65536 in
theorem w_c10 : (Jvm.Cond.code ({ cls := "com/example/weir/weir/cli/Deadlines", name := "earlierChild", desc := "(I)I" } : Jvm.MethodName) prog_27_method_9_code (3 : Nat) (Option.some Jvm.ClassFile.FieldType.int)).before args0 about1 = true := code_word (m := ⟨2, 6⟩) (meth := k2m6) (c := k2c6) (by decide +kernel) rfl rfl rfl (by decide +kernel)
set_option maxRecDepth 65536 in
theorem w_c11 : (Jvm.Cond.code ({ cls := "com/example/weir/weir/cli/Deadlines", name := "removeFirst", desc := "()I" } : Jvm.MethodName) prog_27_method_6_code (2 : Nat) (Option.some Jvm.ClassFile.FieldType.int)).before args0 about1 = true := code_word (m := ⟨2, 3⟩) (meth := k2m3) (c := k2c3) (by decide +kernel) rfl rfl rfl (by decide +kernel)
def codes1 : List Jvm.Cond := [Jvm.Cond.code x code maxLocals ret, Jvm.Cond.code ({ cls := "com/example/weir/weir/cli/Deadlines", name := "<init>", desc := "(I)V" } : Jvm.MethodName) prog_27_method_1_code (2 : Nat) (Option.none : Option Jvm.ClassFile.FieldType), Jvm.Cond.code ({ cls := "java/lang/Object", name := "<init>", desc := "()V" } : Jvm.MethodName) object_method_1_code (1 : Nat) (Option.none : Option Jvm.ClassFile.FieldType), Jvm.Cond.code ({ cls := "java/util/Arrays", name := "fill", desc := "([II)V" } : Jvm.MethodName) jdk_65_method_103_code (4 : Nat) (Option.none : Option Jvm.ClassFile.FieldType), Jvm.Cond.code ({ cls := "com/example/weir/weir/cli/Deadlines", name := "isEmpty", desc := "()Z" } : Jvm.MethodName) prog_27_method_2_code (1 : Nat) (Option.some Jvm.ClassFile.FieldType.boolean), Jvm.Cond.code ({ cls := "java/lang/Math", name := "min", desc := "(II)I" } : Jvm.MethodName) jdk_29_method_69_code (2 : Nat) (Option.some Jvm.ClassFile.FieldType.int), Jvm.Cond.code ({ cls := "com/example/weir/weir/cli/Deadlines", name := "hold", desc := "(IJ)V" } : Jvm.MethodName) prog_27_method_5_code (5 : Nat) (Option.none : Option Jvm.ClassFile.FieldType), Jvm.Cond.code ({ cls := "com/example/weir/weir/cli/Deadlines", name := "put", desc := "(II)V" } : Jvm.MethodName) prog_27_method_10_code (3 : Nat) (Option.none : Option Jvm.ClassFile.FieldType), Jvm.Cond.code ({ cls := "com/example/weir/weir/cli/Deadlines", name := "up", desc := "(I)I" } : Jvm.MethodName) prog_27_method_7_code (3 : Nat) (Option.some Jvm.ClassFile.FieldType.int), Jvm.Cond.code ({ cls := "com/example/weir/weir/cli/Deadlines", name := "down", desc := "(I)V" } : Jvm.MethodName) prog_27_method_8_code (4 : Nat) (Option.none : Option Jvm.ClassFile.FieldType), Jvm.Cond.code ({ cls := "com/example/weir/weir/cli/Deadlines", name := "earlierChild", desc := "(I)I" } : Jvm.MethodName) prog_27_method_9_code (3 : Nat) (Option.some Jvm.ClassFile.FieldType.int), Jvm.Cond.code ({ cls := "com/example/weir/weir/cli/Deadlines", name := "removeFirst", desc := "()I" } : Jvm.MethodName) prog_27_method_6_code (2 : Nat) (Option.some Jvm.ClassFile.FieldType.int)]
set_option maxRecDepth 65536 in
theorem codes_eq : words1.filter isCode = codes1 := rfl
theorem w_codes : ∀ c ∈ words1.filter isCode, c.before args0 about1 = true := by
  rw [codes_eq]
  intro c hc
  simp only [codes1, List.mem_cons, List.not_mem_nil, or_false] at hc
  rcases hc with rfl | rfl | rfl | rfl | rfl | rfl | rfl | rfl | rfl | rfl | rfl | rfl
  · exact w_c0
  · exact w_c1
  · exact w_c2
  · exact w_c3
  · exact w_c4
  · exact w_c5
  · exact w_c6
  · exact w_c7
  · exact w_c8
  · exact w_c9
  · exact w_c10
  · exact w_c11
set_option maxRecDepth 65536 in
theorem w_t1 : (words1.take 24).all (fun c => isCode c || c.before args0 about1) = true := by decide +kernel
set_option maxRecDepth 65536 in
theorem w_t2 : ((words1.drop 24).take 24).all (fun c => isCode c || c.before args0 about1) = true := by decide +kernel
set_option maxRecDepth 65536 in
theorem w_t3 : ((words1.drop 24).drop 24).all (fun c => isCode c || c.before args0 about1) = true := by decide +kernel
theorem w_tables : (allAtoms (Jvm.Cond.code x code maxLocals ret :: tables_1)).before args0 about1 = true := by
  rw [allAtoms_all]
  show words1.all (fun c => c.before args0 about1) = true
  refine all_split ?_ w_codes
  rw [← List.take_append_drop 24 words1, List.all_append, w_t1, ← List.take_append_drop 24 (words1.drop 24), List.all_append, w_t2, w_t3]
  rfl
set_option maxRecDepth 65536 in
theorem w_case : (Jvm.Cond.and given_1 narrow_1).before args0 about1 = true := by decide +kernel
theorem w_applies : (headSpec (Jvm.Cond.code x code maxLocals ret :: tables_1) room_1).applies x e0.platform about1 = true :=
  (Spec.applies_iff w_frames).mpr ⟨w_running, w_runnable, w_alone, w_named, w_hears, w_ripe, w_room, w_tables⟩
theorem atStart : AtStart classFile x code maxLocals ret World_1 tables_1 room_1 Calls_1 rest_1 Pre_1 launch0 p0 e0 about1 theMethod args0 below0 :=
  ⟨lists_1, trivial, launch0.admits_env _ _ _, launch0.least_env, fairChoices_fair.cas, fairChoices_fair.clock, w_frames, w_args, w_heap, w_applies, trivial, trivial, w_case⟩
end start1
theorem witness_1 : WitnessClaimed_1 := ⟨start1.p0, start1.e0, start1.about1, start1.theMethod, start1.args0, start1.below0, start1.atStart⟩
end Jvm.Pilot.@@N@@
