import JvmDerived
import JvmDerived.Pilot.@@N@@Statement
import JvmDerived.Pilot.@@N@@Code
set_option linter.unusedVariables false
set_option linter.unusedSimpArgs false
namespace Jvm.RoadKit
open Sem ClassFile Op Lib Jvm.Stand Jvm.Free Jvm.LawKit
section New
variable {p : Program} {l : Launch} {e : Env} {R : Room} {s : State} {m : MethodId} {args : Array Value} {below : List Frame} {meth : Method} {c : Code} {T : State} {locs : List Loc} {cells slots : Nat}
theorem retI (X : Stand p l e R s m args below meth c T locs cells slots) (hx : p.tables.exec = Jvm.exec) {pc : Nat} {Ls : Array Slot} {z : Int32} {rest : List Value} (hret : meth.sig.returnType = some .int) (hd : decode c.code pc = .ok (.ireturn, 1)) {fs : List Frame}
    (hl : ∀ (f : JFrame) (acts : List Action), f.method = m → f.locked = none → f.entered = [] → (doReturn e (T.setTop f) acts (some (.int z))).1 = T.setFrames fs) : Steps p.tables e below (T.setTop (mkF m pc Ls (.int z :: rest))) (T.setFrames fs) := by
  have hm' : T.vm.method? m = some meth := X.method'
  have hn : narrow .int (.int z) = .int z := rfl
  show Steps p.tables e below (T.setTop { method := m, pc := pc, locals := Ls, stack := _ :: rest, locked := none }) _
  jvm_step X.here [X.here.top, hx, hd, hm', hret, hn]
  first | (intro acts; rw [hl _ acts rfl rfl rfl]) | rw [hl _ _ rfl rfl rfl]
  exact Steps.refl _
end New
end Jvm.RoadKit
namespace Jvm.Pilot.@@N@@
open Jvm Jvm.ClassFile Sem Op Lib Jvm.Free Jvm.Stand Jvm.LawKit Jvm.RoadKit Bundle Jvm.Pilot.@@N@@.Jvm.D
section OwnKit
variable {p : Program} {l : Launch} {e : Env} {R : Room} {s : State} {m : MethodId} {args : Array Value} {below : List Frame} {meth : Method} {c : Code} {T : State} {locs : List Loc} {cells slots : Nat} {Z : State} {a0 : Array Value} {h : Heap}
variable {Q : Option Value → Heap → List Loc → Prop} {rc rs pc : Nat} {Ls : Array Slot} {st : List Value}
def Go (p : Program) (e : Env) (below : List Frame) (s : State) (Q : Option Value → Heap → List Loc → Prop) (rc rs : Nat) (F : State) : Prop :=
  ∃ s₂ o, Steps p.tables e below F s₂ ∧ s₂.status = .running ∧ Ended s₂ below o ∧ ∃ v L, o = .returned v ∧ Q v s₂.heap L ∧ FrameEnd s o s₂ L rc rs
theorem Go.by {F F' : State} (g : Go p e below s Q rc rs F') (h : ∀ t, Steps p.tables e below F' t → Steps p.tables e below F t) : Go p e below s Q rc rs F := by
  obtain ⟨s2, o, h1, r⟩ := g
  exact ⟨s2, o, h _ h1, r⟩
def shlI (x y : Int32) : Int32 := x <<< (y &&& 31)
def shrI (x y : Int32) : Int32 := x >>> (y &&& 31)
def ushrI (x y : Int32) : Int32 := (x.toUInt32 >>> (y &&& 31).toUInt32).toInt32
def shlJ (x : Int64) (y : Int32) : Int64 := x <<< (y &&& 0x3f).toInt64
def shrJ (x : Int64) (y : Int32) : Int64 := x >>> (y &&& 0x3f).toInt64
def ushrJ (x : Int64) (y : Int32) : Int64 := (x.toUInt64 >>> (y &&& 0x3f).toInt64.toUInt64).toInt64
def i2bI (x : Int32) : Int32 := x.toInt8.toInt32
def i2cI (x : Int32) : Int32 := x.toUInt32.toUInt16.toUInt32.toInt32
def i2sI (x : Int32) : Int32 := x.toInt16.toInt32
theorem g_iload (X : Stand p l e R s m args below meth c T locs cells slots) (hx : p.tables.exec = Jvm.exec) {k : Nat} {v : Int32} (pc' : Nat) (hd : decode c.code pc = .ok (.iload k, 2)) (hl : Ls[k]? = some (.val (.int v))) (hp : pc + 2 = pc') (g : Go p e below s Q rc rs (T.setTop (mkF m pc' Ls (.int v :: st)))) : Go p e below s Q rc rs (T.setTop (mkF m pc Ls st)) := by
  subst hp; exact g.by fun t k => XS.iload X.here hx rfl hd hl k
theorem g_iloadN (X : Stand p l e R s m args below meth c T locs cells slots) (hx : p.tables.exec = Jvm.exec) {k : Fin 4} {v : Int32} (pc' : Nat) (hd : decode c.code pc = .ok (.iload_n k, 1)) (hl : Ls[k.val]? = some (.val (.int v))) (hp : pc + 1 = pc') (g : Go p e below s Q rc rs (T.setTop (mkF m pc' Ls (.int v :: st)))) : Go p e below s Q rc rs (T.setTop (mkF m pc Ls st)) := by
  subst hp; exact g.by fun t k => XS.iloadN X.here hx rfl hd hl k
theorem g_istore (X : Stand p l e R s m args below meth c T locs cells slots) (hx : p.tables.exec = Jvm.exec) {k : Nat} {v : Int32} (l' : Array Slot) (pc' : Nat) (hd : decode c.code pc = .ok (.istore k, 2)) (hl : storeLocals Ls k (.int v) = some l') (hp : pc + 2 = pc') (g : Go p e below s Q rc rs (T.setTop (mkF m pc' l' st))) : Go p e below s Q rc rs (T.setTop (mkF m pc Ls (.int v :: st))) := by
  subst hp; exact g.by fun t k => XS.istore X.here hx rfl hd rfl hl k
theorem g_istoreN (X : Stand p l e R s m args below meth c T locs cells slots) (hx : p.tables.exec = Jvm.exec) {k : Fin 4} {v : Int32} (l' : Array Slot) (pc' : Nat) (hd : decode c.code pc = .ok (.istore_n k, 1)) (hl : storeLocals Ls k.val (.int v) = some l') (hp : pc + 1 = pc') (g : Go p e below s Q rc rs (T.setTop (mkF m pc' l' st))) : Go p e below s Q rc rs (T.setTop (mkF m pc Ls (.int v :: st))) := by
  subst hp; exact g.by fun t k => XS.istoreN X.here hx rfl hd rfl hl k
theorem g_lload (X : Stand p l e R s m args below meth c T locs cells slots) (hx : p.tables.exec = Jvm.exec) {k : Nat} {v : Int64} (pc' : Nat) (hd : decode c.code pc = .ok (.lload k, 2)) (hl : Ls[k]? = some (.val (.long v))) (hp : pc + 2 = pc') (g : Go p e below s Q rc rs (T.setTop (mkF m pc' Ls (.long v :: st)))) : Go p e below s Q rc rs (T.setTop (mkF m pc Ls st)) := by
  subst hp; exact g.by fun t k => XS.lload X.here hx rfl hd hl k
theorem g_lloadN (X : Stand p l e R s m args below meth c T locs cells slots) (hx : p.tables.exec = Jvm.exec) {k : Fin 4} {v : Int64} (pc' : Nat) (hd : decode c.code pc = .ok (.lload_n k, 1)) (hl : Ls[k.val]? = some (.val (.long v))) (hp : pc + 1 = pc') (g : Go p e below s Q rc rs (T.setTop (mkF m pc' Ls (.long v :: st)))) : Go p e below s Q rc rs (T.setTop (mkF m pc Ls st)) := by
  subst hp; exact g.by fun t k => XS.lloadN X.here hx rfl hd hl k
theorem g_lstore (X : Stand p l e R s m args below meth c T locs cells slots) (hx : p.tables.exec = Jvm.exec) {k : Nat} {v : Int64} (l' : Array Slot) (pc' : Nat) (hd : decode c.code pc = .ok (.lstore k, 2)) (hl : storeLocals Ls k (.long v) = some l') (hp : pc + 2 = pc') (g : Go p e below s Q rc rs (T.setTop (mkF m pc' l' st))) : Go p e below s Q rc rs (T.setTop (mkF m pc Ls (.long v :: st))) := by
  subst hp; exact g.by fun t k => XS.lstore X.here hx rfl hd rfl hl k
theorem g_lstoreN (X : Stand p l e R s m args below meth c T locs cells slots) (hx : p.tables.exec = Jvm.exec) {k : Fin 4} {v : Int64} (l' : Array Slot) (pc' : Nat) (hd : decode c.code pc = .ok (.lstore_n k, 1)) (hl : storeLocals Ls k.val (.long v) = some l') (hp : pc + 1 = pc') (g : Go p e below s Q rc rs (T.setTop (mkF m pc' l' st))) : Go p e below s Q rc rs (T.setTop (mkF m pc Ls (.long v :: st))) := by
  subst hp; exact g.by fun t k => XS.lstoreN X.here hx rfl hd rfl hl k
theorem g_aload (X : Stand p l e R s m args below meth c T locs cells slots) (hx : p.tables.exec = Jvm.exec) {k : Nat} {v : Value} (pc' : Nat) (hd : decode c.code pc = .ok (.aload k, 2)) (hl : Ls[k]? = some (.val v)) (hv : v.isRef = true) (hp : pc + 2 = pc') (g : Go p e below s Q rc rs (T.setTop (mkF m pc' Ls (v :: st)))) : Go p e below s Q rc rs (T.setTop (mkF m pc Ls st)) := by
  subst hp; exact g.by fun t k => XS.aload X.here hx rfl hd hl hv k
theorem g_aloadN (X : Stand p l e R s m args below meth c T locs cells slots) (hx : p.tables.exec = Jvm.exec) {k : Fin 4} {v : Value} (pc' : Nat) (hd : decode c.code pc = .ok (.aload_n k, 1)) (hl : Ls[k.val]? = some (.val v)) (hv : v.isRef = true) (hp : pc + 1 = pc') (g : Go p e below s Q rc rs (T.setTop (mkF m pc' Ls (v :: st)))) : Go p e below s Q rc rs (T.setTop (mkF m pc Ls st)) := by
  subst hp; exact g.by fun t k => XS.aloadN X.here hx rfl hd hl hv k
theorem g_astore (X : Stand p l e R s m args below meth c T locs cells slots) (hx : p.tables.exec = Jvm.exec) {k : Nat} {v : Value} (l' : Array Slot) (pc' : Nat) (hd : decode c.code pc = .ok (.astore k, 2)) (hl : storeLocals Ls k v = some l') (hv : v.isRef = true) (hp : pc + 2 = pc') (g : Go p e below s Q rc rs (T.setTop (mkF m pc' l' st))) : Go p e below s Q rc rs (T.setTop (mkF m pc Ls (v :: st))) := by
  subst hp; exact g.by fun t k => XS.astore X.here hx rfl hd rfl hv hl k
theorem g_astoreN (X : Stand p l e R s m args below meth c T locs cells slots) (hx : p.tables.exec = Jvm.exec) {k : Fin 4} {v : Value} (l' : Array Slot) (pc' : Nat) (hd : decode c.code pc = .ok (.astore_n k, 1)) (hl : storeLocals Ls k.val v = some l') (hv : v.isRef = true) (hp : pc + 1 = pc') (g : Go p e below s Q rc rs (T.setTop (mkF m pc' l' st))) : Go p e below s Q rc rs (T.setTop (mkF m pc Ls (v :: st))) := by
  subst hp; exact g.by fun t k => XS.astoreN X.here hx rfl hd rfl hv hl k
theorem g_istoreS (X : Stand p l e R s m args below meth c T locs cells slots) (hx : p.tables.exec = Jvm.exec) {k : Nat} {v : Int32} {os : Slot} (l' : Array Slot) (pc' : Nat) (hd : decode c.code pc = .ok (.istore k, 2)) (hold : Ls[k]? = some os) (ho : One os) (hl : Ls.setIfInBounds k (.val (.int v)) = l') (hp : pc + 2 = pc') (g : Go p e below s Q rc rs (T.setTop (mkF m pc' l' st))) : Go p e below s Q rc rs (T.setTop (mkF m pc Ls ((.int v) :: st))) := by
  subst hp; exact g.by fun t k => XS.istore X.here hx rfl hd rfl (hl ▸ XS.store1 hold ho rfl) k
theorem g_istoreNS (X : Stand p l e R s m args below meth c T locs cells slots) (hx : p.tables.exec = Jvm.exec) {k : Fin 4} {v : Int32} {os : Slot} (l' : Array Slot) (pc' : Nat) (hd : decode c.code pc = .ok (.istore_n k, 1)) (hold : Ls[k.val]? = some os) (ho : One os) (hl : Ls.setIfInBounds k.val (.val (.int v)) = l') (hp : pc + 1 = pc') (g : Go p e below s Q rc rs (T.setTop (mkF m pc' l' st))) : Go p e below s Q rc rs (T.setTop (mkF m pc Ls ((.int v) :: st))) := by
  subst hp; exact g.by fun t k => XS.istoreN X.here hx rfl hd rfl (hl ▸ XS.store1 hold ho rfl) k
theorem g_astoreS (X : Stand p l e R s m args below meth c T locs cells slots) (hx : p.tables.exec = Jvm.exec) {k : Nat} {v : Value} {os : Slot} (l' : Array Slot) (pc' : Nat) (hd : decode c.code pc = .ok (.astore k, 2)) (hold : Ls[k]? = some os) (ho : One os) (hl : Ls.setIfInBounds k (.val v) = l') (hv : v.isRef = true) (hp : pc + 2 = pc') (g : Go p e below s Q rc rs (T.setTop (mkF m pc' l' st))) : Go p e below s Q rc rs (T.setTop (mkF m pc Ls (v :: st))) := by
  subst hp; exact g.by fun t k => XS.astore X.here hx rfl hd rfl hv (hl ▸ XS.store1 hold ho (by cases v <;> first | rfl | simp_all [Value.isRef])) k
theorem g_astoreNS (X : Stand p l e R s m args below meth c T locs cells slots) (hx : p.tables.exec = Jvm.exec) {k : Fin 4} {v : Value} {os : Slot} (l' : Array Slot) (pc' : Nat) (hd : decode c.code pc = .ok (.astore_n k, 1)) (hold : Ls[k.val]? = some os) (ho : One os) (hl : Ls.setIfInBounds k.val (.val v) = l') (hv : v.isRef = true) (hp : pc + 1 = pc') (g : Go p e below s Q rc rs (T.setTop (mkF m pc' l' st))) : Go p e below s Q rc rs (T.setTop (mkF m pc Ls (v :: st))) := by
  subst hp; exact g.by fun t k => XS.astoreN X.here hx rfl hd rfl hv (hl ▸ XS.store1 hold ho (by cases v <;> first | rfl | simp_all [Value.isRef])) k
theorem g_iconst (X : Stand p l e R s m args below meth c T locs cells slots) (hx : p.tables.exec = Jvm.exec) {i : Int} (v : Int32) (pc' : Nat) (hd : decode c.code pc = .ok (.iconst i, 1)) (hv : Int32.ofInt i = v) (hp : pc + 1 = pc') (g : Go p e below s Q rc rs (T.setTop (mkF m pc' Ls (.int v :: st)))) : Go p e below s Q rc rs (T.setTop (mkF m pc Ls st)) := by
  subst hp hv; exact g.by fun t k => XS.iconst X.here hx rfl hd k
theorem g_bipush (X : Stand p l e R s m args below meth c T locs cells slots) (hx : p.tables.exec = Jvm.exec) {i : Int} (v : Int32) (pc' : Nat) (hd : decode c.code pc = .ok (.bipush i, 2)) (hv : (Int8.ofInt i).toInt32 = v) (hp : pc + 2 = pc') (g : Go p e below s Q rc rs (T.setTop (mkF m pc' Ls (.int v :: st)))) : Go p e below s Q rc rs (T.setTop (mkF m pc Ls st)) := by
  subst hp hv; exact g.by fun t k => XS.bipush X.here hx rfl hd k
theorem g_sipush (X : Stand p l e R s m args below meth c T locs cells slots) (hx : p.tables.exec = Jvm.exec) {i : Int} (v : Int32) (pc' : Nat) (hd : decode c.code pc = .ok (.sipush i, 3)) (hv : (Int16.ofInt i).toInt32 = v) (hp : pc + 3 = pc') (g : Go p e below s Q rc rs (T.setTop (mkF m pc' Ls (.int v :: st)))) : Go p e below s Q rc rs (T.setTop (mkF m pc Ls st)) := by
  subst hp hv; exact g.by fun t k => XS.sipush X.here hx rfl hd k
theorem g_lconst (X : Stand p l e R s m args below meth c T locs cells slots) (hx : p.tables.exec = Jvm.exec) {i : Fin 2} (v : Int64) (pc' : Nat) (hd : decode c.code pc = .ok (.lconst i, 1)) (hv : Int64.ofNat i = v) (hp : pc + 1 = pc') (g : Go p e below s Q rc rs (T.setTop (mkF m pc' Ls (.long v :: st)))) : Go p e below s Q rc rs (T.setTop (mkF m pc Ls st)) := by
  subst hp hv; exact g.by fun t k => XS.lconst X.here hx rfl hd k
theorem g_aconst_null (X : Stand p l e R s m args below meth c T locs cells slots) (hx : p.tables.exec = Jvm.exec) (pc' : Nat) (hd : decode c.code pc = .ok (.aconst_null, 1)) (hp : pc + 1 = pc') (g : Go p e below s Q rc rs (T.setTop (mkF m pc' Ls (.null :: st)))) : Go p e below s Q rc rs (T.setTop (mkF m pc Ls st)) := by
  subst hp; exact g.by fun t k => XS.aconstNull X.here hx rfl hd k
theorem g_ldc (X : Stand p l e R s m args below meth c T locs cells slots) (hx : p.tables.exec = Jvm.exec) (hZ : Z.Warmed39 s.vm) {own : String} {i : Nat} {v : Int32} (hown : s.vm.findClass own = some m.cls) (w : (Cond.constant own i v).before a0 Z = true) (pc' : Nat) (hd : decode c.code pc = .ok (.ldc i, 2)) (hp : pc + 2 = pc') (g : Go p e below s Q rc rs (T.setTop (mkF m pc' Ls (.int v :: st)))) : Go p e below s Q rc rs (T.setTop (mkF m pc Ls st)) := by
  subst hp; exact g.by fun t k => X.ldcInt hx hown (mvT hZ w) (g := mkF m pc Ls st) rfl hd t k
theorem g_ldc_w (X : Stand p l e R s m args below meth c T locs cells slots) (hx : p.tables.exec = Jvm.exec) (hZ : Z.Warmed39 s.vm) {own : String} {i : Nat} {v : Int32} (hown : s.vm.findClass own = some m.cls) (w : (Cond.constant own i v).before a0 Z = true) (pc' : Nat) (hd : decode c.code pc = .ok (.ldc_w i, 3)) (hp : pc + 3 = pc') (g : Go p e below s Q rc rs (T.setTop (mkF m pc' Ls (.int v :: st)))) : Go p e below s Q rc rs (T.setTop (mkF m pc Ls st)) := by
  subst hp; exact g.by fun t k => X.ldcwInt hx hown (mvT hZ w) (g := mkF m pc Ls st) rfl hd t k
theorem g_ldc2_w (X : Stand p l e R s m args below meth c T locs cells slots) (hx : p.tables.exec = Jvm.exec) (hZ : Z.Warmed39 s.vm) {own : String} {i : Nat} {v : Int64} (hown : s.vm.findClass own = some m.cls) (w : (Cond.constantLong own i v).before a0 Z = true) (pc' : Nat) (hd : decode c.code pc = .ok (.ldc2_w i, 3)) (hp : pc + 3 = pc') (g : Go p e below s Q rc rs (T.setTop (mkF m pc' Ls (.long v :: st)))) : Go p e below s Q rc rs (T.setTop (mkF m pc Ls st)) := by
  subst hp; exact g.by fun t k => X.ldc2Long hx hown (mvT hZ w) (g := mkF m pc Ls st) rfl hd t k
theorem g_iadd (X : Stand p l e R s m args below meth c T locs cells slots) (hx : p.tables.exec = Jvm.exec) {x y : Int32} (pc' : Nat) (hd : decode c.code pc = .ok (.iadd, 1)) (hp : pc + 1 = pc') (g : Go p e below s Q rc rs (T.setTop (mkF m pc' Ls (.int (x + y) :: st)))) : Go p e below s Q rc rs (T.setTop (mkF m pc Ls (.int y :: .int x :: st))) := by
  subst hp; exact g.by fun t k => XS.iadd X.here hx rfl hd rfl k
theorem g_isub (X : Stand p l e R s m args below meth c T locs cells slots) (hx : p.tables.exec = Jvm.exec) {x y : Int32} (pc' : Nat) (hd : decode c.code pc = .ok (.isub, 1)) (hp : pc + 1 = pc') (g : Go p e below s Q rc rs (T.setTop (mkF m pc' Ls (.int (x - y) :: st)))) : Go p e below s Q rc rs (T.setTop (mkF m pc Ls (.int y :: .int x :: st))) := by
  subst hp; exact g.by fun t k => XS.isub X.here hx rfl hd rfl k
theorem g_imul (X : Stand p l e R s m args below meth c T locs cells slots) (hx : p.tables.exec = Jvm.exec) {x y : Int32} (pc' : Nat) (hd : decode c.code pc = .ok (.imul, 1)) (hp : pc + 1 = pc') (g : Go p e below s Q rc rs (T.setTop (mkF m pc' Ls (.int (x * y) :: st)))) : Go p e below s Q rc rs (T.setTop (mkF m pc Ls (.int y :: .int x :: st))) := by
  subst hp; exact g.by fun t k => XS.imul X.here hx rfl hd rfl k
theorem g_iand (X : Stand p l e R s m args below meth c T locs cells slots) (hx : p.tables.exec = Jvm.exec) {x y : Int32} (pc' : Nat) (hd : decode c.code pc = .ok (.iand, 1)) (hp : pc + 1 = pc') (g : Go p e below s Q rc rs (T.setTop (mkF m pc' Ls (.int (x &&& y) :: st)))) : Go p e below s Q rc rs (T.setTop (mkF m pc Ls (.int y :: .int x :: st))) := by
  subst hp; exact g.by fun t k => XS.iand X.here hx rfl hd rfl k
theorem g_ior (X : Stand p l e R s m args below meth c T locs cells slots) (hx : p.tables.exec = Jvm.exec) {x y : Int32} (pc' : Nat) (hd : decode c.code pc = .ok (.ior, 1)) (hp : pc + 1 = pc') (g : Go p e below s Q rc rs (T.setTop (mkF m pc' Ls (.int (x ||| y) :: st)))) : Go p e below s Q rc rs (T.setTop (mkF m pc Ls (.int y :: .int x :: st))) := by
  subst hp; exact g.by fun t k => XS.ior X.here hx rfl hd rfl k
theorem g_ixor (X : Stand p l e R s m args below meth c T locs cells slots) (hx : p.tables.exec = Jvm.exec) {x y : Int32} (pc' : Nat) (hd : decode c.code pc = .ok (.ixor, 1)) (hp : pc + 1 = pc') (g : Go p e below s Q rc rs (T.setTop (mkF m pc' Ls (.int (x ^^^ y) :: st)))) : Go p e below s Q rc rs (T.setTop (mkF m pc Ls (.int y :: .int x :: st))) := by
  subst hp; exact g.by fun t k => XS.ixor X.here hx rfl hd rfl k
theorem g_ineg (X : Stand p l e R s m args below meth c T locs cells slots) (hx : p.tables.exec = Jvm.exec) {x : Int32} (pc' : Nat) (hd : decode c.code pc = .ok (.ineg, 1)) (hp : pc + 1 = pc') (g : Go p e below s Q rc rs (T.setTop (mkF m pc' Ls (.int (-x) :: st)))) : Go p e below s Q rc rs (T.setTop (mkF m pc Ls (.int x :: st))) := by
  subst hp; exact g.by fun t k => XS.ineg X.here hx rfl hd rfl k
theorem g_idiv (X : Stand p l e R s m args below meth c T locs cells slots) (hx : p.tables.exec = Jvm.exec) {x y : Int32} (pc' : Nat) (hd : decode c.code pc = .ok (.idiv, 1)) (hy : y ≠ 0) (hp : pc + 1 = pc') (g : Go p e below s Q rc rs (T.setTop (mkF m pc' Ls (.int (x / y) :: st)))) : Go p e below s Q rc rs (T.setTop (mkF m pc Ls (.int y :: .int x :: st))) := by
  subst hp; exact g.by fun t k => XS.idiv X.here hx rfl hd rfl hy k
theorem g_ladd (X : Stand p l e R s m args below meth c T locs cells slots) (hx : p.tables.exec = Jvm.exec) {x y : Int64} (pc' : Nat) (hd : decode c.code pc = .ok (.ladd, 1)) (hp : pc + 1 = pc') (g : Go p e below s Q rc rs (T.setTop (mkF m pc' Ls (.long (x + y) :: st)))) : Go p e below s Q rc rs (T.setTop (mkF m pc Ls (.long y :: .long x :: st))) := by
  subst hp; exact g.by fun t k => XS.ladd X.here hx rfl hd rfl k
theorem g_lsub (X : Stand p l e R s m args below meth c T locs cells slots) (hx : p.tables.exec = Jvm.exec) {x y : Int64} (pc' : Nat) (hd : decode c.code pc = .ok (.lsub, 1)) (hp : pc + 1 = pc') (g : Go p e below s Q rc rs (T.setTop (mkF m pc' Ls (.long (x - y) :: st)))) : Go p e below s Q rc rs (T.setTop (mkF m pc Ls (.long y :: .long x :: st))) := by
  subst hp; exact g.by fun t k => XS.lsub X.here hx rfl hd rfl k
theorem g_lmul (X : Stand p l e R s m args below meth c T locs cells slots) (hx : p.tables.exec = Jvm.exec) {x y : Int64} (pc' : Nat) (hd : decode c.code pc = .ok (.lmul, 1)) (hp : pc + 1 = pc') (g : Go p e below s Q rc rs (T.setTop (mkF m pc' Ls (.long (x * y) :: st)))) : Go p e below s Q rc rs (T.setTop (mkF m pc Ls (.long y :: .long x :: st))) := by
  subst hp; exact g.by fun t k => XS.lmul X.here hx rfl hd rfl k
theorem g_land (X : Stand p l e R s m args below meth c T locs cells slots) (hx : p.tables.exec = Jvm.exec) {x y : Int64} (pc' : Nat) (hd : decode c.code pc = .ok (.land, 1)) (hp : pc + 1 = pc') (g : Go p e below s Q rc rs (T.setTop (mkF m pc' Ls (.long (x &&& y) :: st)))) : Go p e below s Q rc rs (T.setTop (mkF m pc Ls (.long y :: .long x :: st))) := by
  subst hp; exact g.by fun t k => XS.land X.here hx rfl hd rfl k
theorem g_lor (X : Stand p l e R s m args below meth c T locs cells slots) (hx : p.tables.exec = Jvm.exec) {x y : Int64} (pc' : Nat) (hd : decode c.code pc = .ok (.lor, 1)) (hp : pc + 1 = pc') (g : Go p e below s Q rc rs (T.setTop (mkF m pc' Ls (.long (x ||| y) :: st)))) : Go p e below s Q rc rs (T.setTop (mkF m pc Ls (.long y :: .long x :: st))) := by
  subst hp; exact g.by fun t k => XS.lor X.here hx rfl hd rfl k
theorem g_lxor (X : Stand p l e R s m args below meth c T locs cells slots) (hx : p.tables.exec = Jvm.exec) {x y : Int64} (pc' : Nat) (hd : decode c.code pc = .ok (.lxor, 1)) (hp : pc + 1 = pc') (g : Go p e below s Q rc rs (T.setTop (mkF m pc' Ls (.long (x ^^^ y) :: st)))) : Go p e below s Q rc rs (T.setTop (mkF m pc Ls (.long y :: .long x :: st))) := by
  subst hp; exact g.by fun t k => XS.lxor X.here hx rfl hd rfl k
theorem g_lneg (X : Stand p l e R s m args below meth c T locs cells slots) (hx : p.tables.exec = Jvm.exec) {x : Int64} (pc' : Nat) (hd : decode c.code pc = .ok (.lneg, 1)) (hp : pc + 1 = pc') (g : Go p e below s Q rc rs (T.setTop (mkF m pc' Ls (.long (-x) :: st)))) : Go p e below s Q rc rs (T.setTop (mkF m pc Ls (.long x :: st))) := by
  subst hp; exact g.by fun t k => XS.lneg X.here hx rfl hd rfl k
theorem g_ldiv (X : Stand p l e R s m args below meth c T locs cells slots) (hx : p.tables.exec = Jvm.exec) {x y : Int64} (pc' : Nat) (hd : decode c.code pc = .ok (.ldiv, 1)) (hy : y ≠ 0) (hp : pc + 1 = pc') (g : Go p e below s Q rc rs (T.setTop (mkF m pc' Ls (.long (x / y) :: st)))) : Go p e below s Q rc rs (T.setTop (mkF m pc Ls (.long y :: .long x :: st))) := by
  subst hp; exact g.by fun t k => XS.ldiv X.here hx rfl hd rfl hy k
theorem g_irem (X : Stand p l e R s m args below meth c T locs cells slots) (hx : p.tables.exec = Jvm.exec) {x y : Int32} (pc' : Nat) (hd : decode c.code pc = .ok (.irem, 1)) (hy : y ≠ 0) (hp : pc + 1 = pc') (g : Go p e below s Q rc rs (T.setTop (mkF m pc' Ls (.int (x % y) :: st)))) : Go p e below s Q rc rs (T.setTop (mkF m pc Ls (.int y :: .int x :: st))) := by
  subst hp; exact g.by fun t k => iremM X hx rfl hd rfl hy k
theorem g_lrem (X : Stand p l e R s m args below meth c T locs cells slots) (hx : p.tables.exec = Jvm.exec) {x y : Int64} (pc' : Nat) (hd : decode c.code pc = .ok (.lrem, 1)) (hy : y ≠ 0) (hp : pc + 1 = pc') (g : Go p e below s Q rc rs (T.setTop (mkF m pc' Ls (.long (x % y) :: st)))) : Go p e below s Q rc rs (T.setTop (mkF m pc Ls (.long y :: .long x :: st))) := by
  subst hp; exact g.by fun t k => XS.lrem X.here hx rfl hd rfl hy (by rw [lrem_mod]; exact k)
theorem g_ishl (X : Stand p l e R s m args below meth c T locs cells slots) (hx : p.tables.exec = Jvm.exec) {x : Int32} {y : Int32} (pc' : Nat) (hd : decode c.code pc = .ok (.ishl, 1)) (hp : pc + 1 = pc') (g : Go p e below s Q rc rs (T.setTop (mkF m pc' Ls (.int (shlI x y) :: st)))) : Go p e below s Q rc rs (T.setTop (mkF m pc Ls (.int y :: .int x :: st))) := by
  subst hp; exact g.by fun t k => XS.ishl X.here hx rfl hd rfl k
theorem g_ishr (X : Stand p l e R s m args below meth c T locs cells slots) (hx : p.tables.exec = Jvm.exec) {x : Int32} {y : Int32} (pc' : Nat) (hd : decode c.code pc = .ok (.ishr, 1)) (hp : pc + 1 = pc') (g : Go p e below s Q rc rs (T.setTop (mkF m pc' Ls (.int (shrI x y) :: st)))) : Go p e below s Q rc rs (T.setTop (mkF m pc Ls (.int y :: .int x :: st))) := by
  subst hp; exact g.by fun t k => XS.ishr X.here hx rfl hd rfl k
theorem g_iushr (X : Stand p l e R s m args below meth c T locs cells slots) (hx : p.tables.exec = Jvm.exec) {x : Int32} {y : Int32} (pc' : Nat) (hd : decode c.code pc = .ok (.iushr, 1)) (hp : pc + 1 = pc') (g : Go p e below s Q rc rs (T.setTop (mkF m pc' Ls (.int (ushrI x y) :: st)))) : Go p e below s Q rc rs (T.setTop (mkF m pc Ls (.int y :: .int x :: st))) := by
  subst hp; exact g.by fun t k => XS.iushr X.here hx rfl hd rfl k
theorem g_lshl (X : Stand p l e R s m args below meth c T locs cells slots) (hx : p.tables.exec = Jvm.exec) {x : Int64} {y : Int32} (pc' : Nat) (hd : decode c.code pc = .ok (.lshl, 1)) (hp : pc + 1 = pc') (g : Go p e below s Q rc rs (T.setTop (mkF m pc' Ls (.long (shlJ x y) :: st)))) : Go p e below s Q rc rs (T.setTop (mkF m pc Ls (.int y :: .long x :: st))) := by
  subst hp; exact g.by fun t k => XS.lshl X.here hx rfl hd rfl k
theorem g_lshr (X : Stand p l e R s m args below meth c T locs cells slots) (hx : p.tables.exec = Jvm.exec) {x : Int64} {y : Int32} (pc' : Nat) (hd : decode c.code pc = .ok (.lshr, 1)) (hp : pc + 1 = pc') (g : Go p e below s Q rc rs (T.setTop (mkF m pc' Ls (.long (shrJ x y) :: st)))) : Go p e below s Q rc rs (T.setTop (mkF m pc Ls (.int y :: .long x :: st))) := by
  subst hp; exact g.by fun t k => XS.lshr X.here hx rfl hd rfl k
theorem g_lushr (X : Stand p l e R s m args below meth c T locs cells slots) (hx : p.tables.exec = Jvm.exec) {x : Int64} {y : Int32} (pc' : Nat) (hd : decode c.code pc = .ok (.lushr, 1)) (hp : pc + 1 = pc') (g : Go p e below s Q rc rs (T.setTop (mkF m pc' Ls (.long (ushrJ x y) :: st)))) : Go p e below s Q rc rs (T.setTop (mkF m pc Ls (.int y :: .long x :: st))) := by
  subst hp; exact g.by fun t k => XS.lushr X.here hx rfl hd rfl k
theorem g_i2l (X : Stand p l e R s m args below meth c T locs cells slots) (hx : p.tables.exec = Jvm.exec) {x : Int32} (pc' : Nat) (hd : decode c.code pc = .ok (.i2l, 1)) (hp : pc + 1 = pc') (g : Go p e below s Q rc rs (T.setTop (mkF m pc' Ls (.long (x.toInt64) :: st)))) : Go p e below s Q rc rs (T.setTop (mkF m pc Ls (.int x :: st))) := by
  subst hp; exact g.by fun t k => XS.i2l X.here hx rfl hd rfl k
theorem g_l2i (X : Stand p l e R s m args below meth c T locs cells slots) (hx : p.tables.exec = Jvm.exec) {x : Int64} (pc' : Nat) (hd : decode c.code pc = .ok (.l2i, 1)) (hp : pc + 1 = pc') (g : Go p e below s Q rc rs (T.setTop (mkF m pc' Ls (.int (x.toInt32) :: st)))) : Go p e below s Q rc rs (T.setTop (mkF m pc Ls (.long x :: st))) := by
  subst hp; exact g.by fun t k => XS.l2i X.here hx rfl hd rfl k
theorem g_i2b (X : Stand p l e R s m args below meth c T locs cells slots) (hx : p.tables.exec = Jvm.exec) {x : Int32} (pc' : Nat) (hd : decode c.code pc = .ok (.i2b, 1)) (hp : pc + 1 = pc') (g : Go p e below s Q rc rs (T.setTop (mkF m pc' Ls (.int (i2bI x) :: st)))) : Go p e below s Q rc rs (T.setTop (mkF m pc Ls (.int x :: st))) := by
  subst hp; exact g.by fun t k => XS.i2b X.here hx rfl hd rfl k
theorem g_i2c (X : Stand p l e R s m args below meth c T locs cells slots) (hx : p.tables.exec = Jvm.exec) {x : Int32} (pc' : Nat) (hd : decode c.code pc = .ok (.i2c, 1)) (hp : pc + 1 = pc') (g : Go p e below s Q rc rs (T.setTop (mkF m pc' Ls (.int (i2cI x) :: st)))) : Go p e below s Q rc rs (T.setTop (mkF m pc Ls (.int x :: st))) := by
  subst hp; exact g.by fun t k => XS.i2c X.here hx rfl hd rfl k
theorem g_i2s (X : Stand p l e R s m args below meth c T locs cells slots) (hx : p.tables.exec = Jvm.exec) {x : Int32} (pc' : Nat) (hd : decode c.code pc = .ok (.i2s, 1)) (hp : pc + 1 = pc') (g : Go p e below s Q rc rs (T.setTop (mkF m pc' Ls (.int (i2sI x) :: st)))) : Go p e below s Q rc rs (T.setTop (mkF m pc Ls (.int x :: st))) := by
  subst hp; exact g.by fun t k => XS.i2s X.here hx rfl hd rfl k
theorem g_lcmp (X : Stand p l e R s m args below meth c T locs cells slots) (hx : p.tables.exec = Jvm.exec) {x y : Int64} (pc' : Nat) (hd : decode c.code pc = .ok (.lcmp, 1)) (hp : pc + 1 = pc') (g : Go p e below s Q rc rs (T.setTop (mkF m pc' Ls (.int (lcmpW x y) :: st)))) : Go p e below s Q rc rs (T.setTop (mkF m pc Ls (.long y :: .long x :: st))) := by
  subst hp; exact g.by fun t k => XS.lcmp X.here hx rfl hd rfl k
theorem g_iinc (X : Stand p l e R s m args below meth c T locs cells slots) (hx : p.tables.exec = Jvm.exec) {k : Nat} {i : Int} {x : Int32} (v : Int32) (l' : Array Slot) (pc' : Nat) (hd : decode c.code pc = .ok (.iinc k i, 3)) (hv : Int32.ofInt i = v) (hl : Ls[k]? = some (.val (.int x))) (hl' : storeLocals Ls k (.int (x + v)) = some l') (hp : pc + 3 = pc') (g : Go p e below s Q rc rs (T.setTop (mkF m pc' l' st))) : Go p e below s Q rc rs (T.setTop (mkF m pc Ls st)) := by
  subst hp hv; exact g.by fun t k => XS.iinc X.here hx rfl hd hl hl' k
theorem g_dup (X : Stand p l e R s m args below meth c T locs cells slots) (hx : p.tables.exec = Jvm.exec) {x : Value} (pc' : Nat) (hd : decode c.code pc = .ok (.dup, 1)) (hc : x.category = 1) (hp : pc + 1 = pc') (g : Go p e below s Q rc rs (T.setTop (mkF m pc' Ls (x :: x :: st)))) : Go p e below s Q rc rs (T.setTop (mkF m pc Ls (x :: st))) := by
  subst hp; exact g.by fun t k => XS.dup X.here hx rfl hd rfl hc k
theorem g_pop (X : Stand p l e R s m args below meth c T locs cells slots) (hx : p.tables.exec = Jvm.exec) {x : Value} (pc' : Nat) (hd : decode c.code pc = .ok (.pop, 1)) (hc : x.category = 1) (hp : pc + 1 = pc') (g : Go p e below s Q rc rs (T.setTop (mkF m pc' Ls st))) : Go p e below s Q rc rs (T.setTop (mkF m pc Ls (x :: st))) := by
  subst hp; exact g.by fun t k => XS.pop X.here hx rfl hd rfl hc k
theorem g_dup_x1 (X : Stand p l e R s m args below meth c T locs cells slots) (hx : p.tables.exec = Jvm.exec) {x y : Value} (pc' : Nat) (hd : decode c.code pc = .ok (.dup_x1, 1)) (hc : x.category = 1) (hc2 : y.category = 1) (hp : pc + 1 = pc') (g : Go p e below s Q rc rs (T.setTop (mkF m pc' Ls (x :: y :: x :: st)))) : Go p e below s Q rc rs (T.setTop (mkF m pc Ls (x :: y :: st))) := by
  subst hp; exact g.by fun t k => XS.dupX1 X.here hx rfl hd rfl hc hc2 k
theorem g_dup2 (X : Stand p l e R s m args below meth c T locs cells slots) (hx : p.tables.exec = Jvm.exec) {x y : Value} (pc' : Nat) (hd : decode c.code pc = .ok (.dup2, 1)) (hc : x.category = 1) (hc2 : y.category = 1) (hp : pc + 1 = pc') (g : Go p e below s Q rc rs (T.setTop (mkF m pc' Ls (x :: y :: x :: y :: st)))) : Go p e below s Q rc rs (T.setTop (mkF m pc Ls (x :: y :: st))) := by
  subst hp; exact g.by fun t k => XT.dup2 X.here hx rfl hd rfl hc hc2 k
theorem g_dup2L (X : Stand p l e R s m args below meth c T locs cells slots) (hx : p.tables.exec = Jvm.exec) {x : Int64} (pc' : Nat) (hd : decode c.code pc = .ok (.dup2, 1)) (hp : pc + 1 = pc') (g : Go p e below s Q rc rs (T.setTop (mkF m pc' Ls (.long x :: .long x :: st)))) : Go p e below s Q rc rs (T.setTop (mkF m pc Ls (.long x :: st))) := by
  subst hp; exact g.by fun t k => XT.dup2L X.here hx rfl hd rfl k
theorem g_pop2L (X : Stand p l e R s m args below meth c T locs cells slots) (hx : p.tables.exec = Jvm.exec) {x : Int64} (pc' : Nat) (hd : decode c.code pc = .ok (.pop2, 1)) (hp : pc + 1 = pc') (g : Go p e below s Q rc rs (T.setTop (mkF m pc' Ls st))) : Go p e below s Q rc rs (T.setTop (mkF m pc Ls (.long x :: st))) := by
  subst hp; refine g.by fun t k => ?_
  jvm_step X.here [X.here.top, hx, hd, Value.category]
  exact k
theorem g_goto (X : Stand p l e R s m args below meth c T locs cells slots) (hx : p.tables.exec = Jvm.exec) {o : Int} (pc' : Nat) (hd : decode c.code pc = .ok (.goto o, 3)) (ho : 0 ≤ (pc : Int) + o) (hp : ((pc : Int) + o).toNat = pc') (g : Go p e below s Q rc rs (T.setTop (mkF m pc' Ls st))) : Go p e below s Q rc rs (T.setTop (mkF m pc Ls st)) := by
  subst hp; exact g.by fun t k => XS.goto X.here hx rfl rfl hd ho rfl k
theorem g_icmp_lt (X : Stand p l e R s m args below meth c T locs cells slots) (hx : p.tables.exec = Jvm.exec) {x y : Int32} {o : Int} (pcY pcN : Nat) (hd : decode c.code pc = .ok (.if_icmp .lt o, 3)) (ho : 0 ≤ (pc : Int) + o) (hY : ((pc : Int) + o).toNat = pcY) (hN : pc + 3 = pcN) (gp : x < y → Go p e below s Q rc rs (T.setTop (mkF m pcY Ls st))) (gn : ¬ x < y → Go p e below s Q rc rs (T.setTop (mkF m pcN Ls st))) : Go p e below s Q rc rs (T.setTop (mkF m pc Ls (.int y :: .int x :: st))) := by
  subst hY hN
  by_cases q : x < y
  · exact (gp q).by fun t k => XS.icmpYes X.here hx rfl rfl hd rfl (tlt q).1 ho rfl k
  · exact (gn q).by fun t k => XS.icmpNo X.here hx rfl hd rfl (flt q).1 k
theorem g_if0_lt (X : Stand p l e R s m args below meth c T locs cells slots) (hx : p.tables.exec = Jvm.exec) {x : Int32} {o : Int} (pcY pcN : Nat) (hd : decode c.code pc = .ok (.ifCond .lt o, 3)) (ho : 0 ≤ (pc : Int) + o) (hY : ((pc : Int) + o).toNat = pcY) (hN : pc + 3 = pcN) (gp : x < 0 → Go p e below s Q rc rs (T.setTop (mkF m pcY Ls st))) (gn : ¬ x < 0 → Go p e below s Q rc rs (T.setTop (mkF m pcN Ls st))) : Go p e below s Q rc rs (T.setTop (mkF m pc Ls (.int x :: st))) := by
  subst hY hN
  by_cases q : x < 0
  · exact (gp q).by fun t k => XS.ifYes X.here hx rfl rfl hd rfl ((if0 _ _).trans (tlt q).1) ho rfl k
  · exact (gn q).by fun t k => XS.ifNo X.here hx rfl hd rfl ((if0 _ _).trans (flt q).1) k
theorem g_lc_lt (X : Stand p l e R s m args below meth c T locs cells slots) (hx : p.tables.exec = Jvm.exec) {x y : Int64} {o : Int} (pcY pcN : Nat) (hd : decode c.code pc = .ok (.ifCond .lt o, 3)) (ho : 0 ≤ (pc : Int) + o) (hY : ((pc : Int) + o).toNat = pcY) (hN : pc + 3 = pcN) (gp : x < y → Go p e below s Q rc rs (T.setTop (mkF m pcY Ls st))) (gn : ¬ x < y → Go p e below s Q rc rs (T.setTop (mkF m pcN Ls st))) : Go p e below s Q rc rs (T.setTop (mkF m pc Ls (.int (lcmpW x y) :: st))) :=
  g_if0_lt X hx pcY pcN hd ho hY hN (fun q => gp ((lw_lt x y).1 q)) (fun q => gn fun r => q ((lw_lt x y).2 r))
theorem g_icmp_ge (X : Stand p l e R s m args below meth c T locs cells slots) (hx : p.tables.exec = Jvm.exec) {x y : Int32} {o : Int} (pcY pcN : Nat) (hd : decode c.code pc = .ok (.if_icmp .ge o, 3)) (ho : 0 ≤ (pc : Int) + o) (hY : ((pc : Int) + o).toNat = pcY) (hN : pc + 3 = pcN) (gp : x < y → Go p e below s Q rc rs (T.setTop (mkF m pcN Ls st))) (gn : ¬ x < y → Go p e below s Q rc rs (T.setTop (mkF m pcY Ls st))) : Go p e below s Q rc rs (T.setTop (mkF m pc Ls (.int y :: .int x :: st))) := by
  subst hY hN
  by_cases q : x < y
  · exact (gp q).by fun t k => XS.icmpNo X.here hx rfl hd rfl (tlt q).2.1 k
  · exact (gn q).by fun t k => XS.icmpYes X.here hx rfl rfl hd rfl (flt q).2.1 ho rfl k
theorem g_if0_ge (X : Stand p l e R s m args below meth c T locs cells slots) (hx : p.tables.exec = Jvm.exec) {x : Int32} {o : Int} (pcY pcN : Nat) (hd : decode c.code pc = .ok (.ifCond .ge o, 3)) (ho : 0 ≤ (pc : Int) + o) (hY : ((pc : Int) + o).toNat = pcY) (hN : pc + 3 = pcN) (gp : x < 0 → Go p e below s Q rc rs (T.setTop (mkF m pcN Ls st))) (gn : ¬ x < 0 → Go p e below s Q rc rs (T.setTop (mkF m pcY Ls st))) : Go p e below s Q rc rs (T.setTop (mkF m pc Ls (.int x :: st))) := by
  subst hY hN
  by_cases q : x < 0
  · exact (gp q).by fun t k => XS.ifNo X.here hx rfl hd rfl ((if0 _ _).trans (tlt q).2.1) k
  · exact (gn q).by fun t k => XS.ifYes X.here hx rfl rfl hd rfl ((if0 _ _).trans (flt q).2.1) ho rfl k
theorem g_lc_ge (X : Stand p l e R s m args below meth c T locs cells slots) (hx : p.tables.exec = Jvm.exec) {x y : Int64} {o : Int} (pcY pcN : Nat) (hd : decode c.code pc = .ok (.ifCond .ge o, 3)) (ho : 0 ≤ (pc : Int) + o) (hY : ((pc : Int) + o).toNat = pcY) (hN : pc + 3 = pcN) (gp : x < y → Go p e below s Q rc rs (T.setTop (mkF m pcN Ls st))) (gn : ¬ x < y → Go p e below s Q rc rs (T.setTop (mkF m pcY Ls st))) : Go p e below s Q rc rs (T.setTop (mkF m pc Ls (.int (lcmpW x y) :: st))) :=
  g_if0_ge X hx pcY pcN hd ho hY hN (fun q => gp ((lw_lt x y).1 q)) (fun q => gn fun r => q ((lw_lt x y).2 r))
theorem g_icmp_gt (X : Stand p l e R s m args below meth c T locs cells slots) (hx : p.tables.exec = Jvm.exec) {x y : Int32} {o : Int} (pcY pcN : Nat) (hd : decode c.code pc = .ok (.if_icmp .gt o, 3)) (ho : 0 ≤ (pc : Int) + o) (hY : ((pc : Int) + o).toNat = pcY) (hN : pc + 3 = pcN) (gp : y < x → Go p e below s Q rc rs (T.setTop (mkF m pcY Ls st))) (gn : ¬ y < x → Go p e below s Q rc rs (T.setTop (mkF m pcN Ls st))) : Go p e below s Q rc rs (T.setTop (mkF m pc Ls (.int y :: .int x :: st))) := by
  subst hY hN
  by_cases q : y < x
  · exact (gp q).by fun t k => XS.icmpYes X.here hx rfl rfl hd rfl (tlt q).2.2.1 ho rfl k
  · exact (gn q).by fun t k => XS.icmpNo X.here hx rfl hd rfl (flt q).2.2.1 k
theorem g_if0_gt (X : Stand p l e R s m args below meth c T locs cells slots) (hx : p.tables.exec = Jvm.exec) {x : Int32} {o : Int} (pcY pcN : Nat) (hd : decode c.code pc = .ok (.ifCond .gt o, 3)) (ho : 0 ≤ (pc : Int) + o) (hY : ((pc : Int) + o).toNat = pcY) (hN : pc + 3 = pcN) (gp : 0 < x → Go p e below s Q rc rs (T.setTop (mkF m pcY Ls st))) (gn : ¬ 0 < x → Go p e below s Q rc rs (T.setTop (mkF m pcN Ls st))) : Go p e below s Q rc rs (T.setTop (mkF m pc Ls (.int x :: st))) := by
  subst hY hN
  by_cases q : 0 < x
  · exact (gp q).by fun t k => XS.ifYes X.here hx rfl rfl hd rfl ((if0 _ _).trans (tlt q).2.2.1) ho rfl k
  · exact (gn q).by fun t k => XS.ifNo X.here hx rfl hd rfl ((if0 _ _).trans (flt q).2.2.1) k
theorem g_lc_gt (X : Stand p l e R s m args below meth c T locs cells slots) (hx : p.tables.exec = Jvm.exec) {x y : Int64} {o : Int} (pcY pcN : Nat) (hd : decode c.code pc = .ok (.ifCond .gt o, 3)) (ho : 0 ≤ (pc : Int) + o) (hY : ((pc : Int) + o).toNat = pcY) (hN : pc + 3 = pcN) (gp : y < x → Go p e below s Q rc rs (T.setTop (mkF m pcY Ls st))) (gn : ¬ y < x → Go p e below s Q rc rs (T.setTop (mkF m pcN Ls st))) : Go p e below s Q rc rs (T.setTop (mkF m pc Ls (.int (lcmpW x y) :: st))) :=
  g_if0_gt X hx pcY pcN hd ho hY hN (fun q => gp ((lw_gt x y).1 q)) (fun q => gn fun r => q ((lw_gt x y).2 r))
theorem g_icmp_le (X : Stand p l e R s m args below meth c T locs cells slots) (hx : p.tables.exec = Jvm.exec) {x y : Int32} {o : Int} (pcY pcN : Nat) (hd : decode c.code pc = .ok (.if_icmp .le o, 3)) (ho : 0 ≤ (pc : Int) + o) (hY : ((pc : Int) + o).toNat = pcY) (hN : pc + 3 = pcN) (gp : y < x → Go p e below s Q rc rs (T.setTop (mkF m pcN Ls st))) (gn : ¬ y < x → Go p e below s Q rc rs (T.setTop (mkF m pcY Ls st))) : Go p e below s Q rc rs (T.setTop (mkF m pc Ls (.int y :: .int x :: st))) := by
  subst hY hN
  by_cases q : y < x
  · exact (gp q).by fun t k => XS.icmpNo X.here hx rfl hd rfl (tlt q).2.2.2 k
  · exact (gn q).by fun t k => XS.icmpYes X.here hx rfl rfl hd rfl (flt q).2.2.2 ho rfl k
theorem g_if0_le (X : Stand p l e R s m args below meth c T locs cells slots) (hx : p.tables.exec = Jvm.exec) {x : Int32} {o : Int} (pcY pcN : Nat) (hd : decode c.code pc = .ok (.ifCond .le o, 3)) (ho : 0 ≤ (pc : Int) + o) (hY : ((pc : Int) + o).toNat = pcY) (hN : pc + 3 = pcN) (gp : 0 < x → Go p e below s Q rc rs (T.setTop (mkF m pcN Ls st))) (gn : ¬ 0 < x → Go p e below s Q rc rs (T.setTop (mkF m pcY Ls st))) : Go p e below s Q rc rs (T.setTop (mkF m pc Ls (.int x :: st))) := by
  subst hY hN
  by_cases q : 0 < x
  · exact (gp q).by fun t k => XS.ifNo X.here hx rfl hd rfl ((if0 _ _).trans (tlt q).2.2.2) k
  · exact (gn q).by fun t k => XS.ifYes X.here hx rfl rfl hd rfl ((if0 _ _).trans (flt q).2.2.2) ho rfl k
theorem g_lc_le (X : Stand p l e R s m args below meth c T locs cells slots) (hx : p.tables.exec = Jvm.exec) {x y : Int64} {o : Int} (pcY pcN : Nat) (hd : decode c.code pc = .ok (.ifCond .le o, 3)) (ho : 0 ≤ (pc : Int) + o) (hY : ((pc : Int) + o).toNat = pcY) (hN : pc + 3 = pcN) (gp : y < x → Go p e below s Q rc rs (T.setTop (mkF m pcN Ls st))) (gn : ¬ y < x → Go p e below s Q rc rs (T.setTop (mkF m pcY Ls st))) : Go p e below s Q rc rs (T.setTop (mkF m pc Ls (.int (lcmpW x y) :: st))) :=
  g_if0_le X hx pcY pcN hd ho hY hN (fun q => gp ((lw_gt x y).1 q)) (fun q => gn fun r => q ((lw_gt x y).2 r))
theorem g_icmp_eq (X : Stand p l e R s m args below meth c T locs cells slots) (hx : p.tables.exec = Jvm.exec) {x y : Int32} {o : Int} (pcY pcN : Nat) (hd : decode c.code pc = .ok (.if_icmp .eq o, 3)) (ho : 0 ≤ (pc : Int) + o) (hY : ((pc : Int) + o).toNat = pcY) (hN : pc + 3 = pcN) (gp : x = y → Go p e below s Q rc rs (T.setTop (mkF m pcY Ls st))) (gn : ¬ x = y → Go p e below s Q rc rs (T.setTop (mkF m pcN Ls st))) : Go p e below s Q rc rs (T.setTop (mkF m pc Ls (.int y :: .int x :: st))) := by
  subst hY hN
  by_cases q : x = y
  · exact (gp q).by fun t k => XS.icmpYes X.here hx rfl rfl hd rfl (teq q).1 ho rfl k
  · exact (gn q).by fun t k => XS.icmpNo X.here hx rfl hd rfl (feq q).1 k
theorem g_if0_eq (X : Stand p l e R s m args below meth c T locs cells slots) (hx : p.tables.exec = Jvm.exec) {x : Int32} {o : Int} (pcY pcN : Nat) (hd : decode c.code pc = .ok (.ifCond .eq o, 3)) (ho : 0 ≤ (pc : Int) + o) (hY : ((pc : Int) + o).toNat = pcY) (hN : pc + 3 = pcN) (gp : x = 0 → Go p e below s Q rc rs (T.setTop (mkF m pcY Ls st))) (gn : ¬ x = 0 → Go p e below s Q rc rs (T.setTop (mkF m pcN Ls st))) : Go p e below s Q rc rs (T.setTop (mkF m pc Ls (.int x :: st))) := by
  subst hY hN
  by_cases q : x = 0
  · exact (gp q).by fun t k => XS.ifYes X.here hx rfl rfl hd rfl ((if0 _ _).trans (teq q).1) ho rfl k
  · exact (gn q).by fun t k => XS.ifNo X.here hx rfl hd rfl ((if0 _ _).trans (feq q).1) k
theorem g_lc_eq (X : Stand p l e R s m args below meth c T locs cells slots) (hx : p.tables.exec = Jvm.exec) {x y : Int64} {o : Int} (pcY pcN : Nat) (hd : decode c.code pc = .ok (.ifCond .eq o, 3)) (ho : 0 ≤ (pc : Int) + o) (hY : ((pc : Int) + o).toNat = pcY) (hN : pc + 3 = pcN) (gp : x = y → Go p e below s Q rc rs (T.setTop (mkF m pcY Ls st))) (gn : ¬ x = y → Go p e below s Q rc rs (T.setTop (mkF m pcN Ls st))) : Go p e below s Q rc rs (T.setTop (mkF m pc Ls (.int (lcmpW x y) :: st))) :=
  g_if0_eq X hx pcY pcN hd ho hY hN (fun q => gp ((lw_eq x y).1 q)) (fun q => gn fun r => q ((lw_eq x y).2 r))
theorem g_icmp_ne (X : Stand p l e R s m args below meth c T locs cells slots) (hx : p.tables.exec = Jvm.exec) {x y : Int32} {o : Int} (pcY pcN : Nat) (hd : decode c.code pc = .ok (.if_icmp .ne o, 3)) (ho : 0 ≤ (pc : Int) + o) (hY : ((pc : Int) + o).toNat = pcY) (hN : pc + 3 = pcN) (gp : x = y → Go p e below s Q rc rs (T.setTop (mkF m pcN Ls st))) (gn : ¬ x = y → Go p e below s Q rc rs (T.setTop (mkF m pcY Ls st))) : Go p e below s Q rc rs (T.setTop (mkF m pc Ls (.int y :: .int x :: st))) := by
  subst hY hN
  by_cases q : x = y
  · exact (gp q).by fun t k => XS.icmpNo X.here hx rfl hd rfl (teq q).2 k
  · exact (gn q).by fun t k => XS.icmpYes X.here hx rfl rfl hd rfl (feq q).2 ho rfl k
theorem g_if0_ne (X : Stand p l e R s m args below meth c T locs cells slots) (hx : p.tables.exec = Jvm.exec) {x : Int32} {o : Int} (pcY pcN : Nat) (hd : decode c.code pc = .ok (.ifCond .ne o, 3)) (ho : 0 ≤ (pc : Int) + o) (hY : ((pc : Int) + o).toNat = pcY) (hN : pc + 3 = pcN) (gp : x = 0 → Go p e below s Q rc rs (T.setTop (mkF m pcN Ls st))) (gn : ¬ x = 0 → Go p e below s Q rc rs (T.setTop (mkF m pcY Ls st))) : Go p e below s Q rc rs (T.setTop (mkF m pc Ls (.int x :: st))) := by
  subst hY hN
  by_cases q : x = 0
  · exact (gp q).by fun t k => XS.ifNo X.here hx rfl hd rfl ((if0 _ _).trans (teq q).2) k
  · exact (gn q).by fun t k => XS.ifYes X.here hx rfl rfl hd rfl ((if0 _ _).trans (feq q).2) ho rfl k
theorem g_lc_ne (X : Stand p l e R s m args below meth c T locs cells slots) (hx : p.tables.exec = Jvm.exec) {x y : Int64} {o : Int} (pcY pcN : Nat) (hd : decode c.code pc = .ok (.ifCond .ne o, 3)) (ho : 0 ≤ (pc : Int) + o) (hY : ((pc : Int) + o).toNat = pcY) (hN : pc + 3 = pcN) (gp : x = y → Go p e below s Q rc rs (T.setTop (mkF m pcN Ls st))) (gn : ¬ x = y → Go p e below s Q rc rs (T.setTop (mkF m pcY Ls st))) : Go p e below s Q rc rs (T.setTop (mkF m pc Ls (.int (lcmpW x y) :: st))) :=
  g_if0_ne X hx pcY pcN hd ho hY hN (fun q => gp ((lw_eq x y).1 q)) (fun q => gn fun r => q ((lw_eq x y).2 r))
theorem g_ifnull_no (X : Stand p l e R s m args below meth c T locs cells slots) (hx : p.tables.exec = Jvm.exec) {b : Addr} {o : Int} (pc' : Nat) (hd : decode c.code pc = .ok (.ifnull o, 3)) (hp : pc + 3 = pc') (g : Go p e below s Q rc rs (T.setTop (mkF m pc' Ls st))) : Go p e below s Q rc rs (T.setTop (mkF m pc Ls (.ref b :: st))) := by
  subst hp; exact g.by fun t k => XS.ifnullNo X.here hx rfl hd rfl k
theorem g_ifnonnull_yes (X : Stand p l e R s m args below meth c T locs cells slots) (hx : p.tables.exec = Jvm.exec) {b : Addr} {o : Int} (pc' : Nat) (hd : decode c.code pc = .ok (.ifnonnull o, 3)) (ho : 0 ≤ (pc : Int) + o) (hp : ((pc : Int) + o).toNat = pc') (g : Go p e below s Q rc rs (T.setTop (mkF m pc' Ls st))) : Go p e below s Q rc rs (T.setTop (mkF m pc Ls (.ref b :: st))) := by
  subst hp; exact g.by fun t k => XS.ifnonnullYes X.here hx rfl rfl hd rfl ho rfl k
theorem g_retI (X : Stand p l e R s m args below meth c T locs cells slots) (hx : p.tables.exec = Jvm.exec) (hret : meth.sig.returnType = some .int) (hlk : meth.locks = false) {z : Int32} (hd : decode c.code pc = .ok (.ireturn, 1)) (hc : cells ≤ rc) (hs : slots ≤ rs) (hQ : Q (some (.int z)) T.heap locs) : Go p e below s Q rc rs (T.setTop (mkF m pc Ls (.int z :: st))) := by
  obtain ⟨fs, hr, hrun, hended, hW, hsame⟩ := X.leave (v := some (.int z)) (fun q => by rw [hret] at q; cases q) hlk
  exact ⟨_, _, retI X hx hret hd hr, hrun, hended, _, _, rfl, hQ, ⟨_, rfl⟩, hW, hsame.mono hc hs⟩
theorem g_retN (X : Stand p l e R s m args below meth c T locs cells slots) (hx : p.tables.exec = Jvm.exec) {ty : FieldType} (hret : meth.sig.returnType = some ty) (ht : ty = .boolean ∨ ty = .byte ∨ ty = .char ∨ ty = .short) (hlk : meth.locks = false) {z : Int32} (hd : decode c.code pc = .ok (.ireturn, 1)) (hc : cells ≤ rc) (hs : slots ≤ rs) (hQ : Q (some (.int (nar ty z))) T.heap locs) : Go p e below s Q rc rs (T.setTop (mkF m pc Ls (.int z :: st))) := by
  obtain ⟨fs, hr, hrun, hended, hW, hsame⟩ := X.leave (v := some (.int (nar ty z))) (fun q => by rw [hret] at q; cases q) hlk
  exact ⟨_, _, retN X hx hret ht hd hr, hrun, hended, _, _, rfl, hQ, ⟨_, rfl⟩, hW, hsame.mono hc hs⟩
theorem g_retJ (X : Stand p l e R s m args below meth c T locs cells slots) (hx : p.tables.exec = Jvm.exec) (hret : meth.sig.returnType = some .long) (hlk : meth.locks = false) {z : Int64} (hd : decode c.code pc = .ok (.lreturn, 1)) (hc : cells ≤ rc) (hs : slots ≤ rs) (hQ : Q (some (.long z)) T.heap locs) : Go p e below s Q rc rs (T.setTop (mkF m pc Ls (.long z :: st))) := by
  obtain ⟨fs, hr, hrun, hended, hW, hsame⟩ := X.leave (v := some (.long z)) (fun q => by rw [hret] at q; cases q) hlk
  exact ⟨_, _, retOut X hx hret rfl (Or.inr (Or.inl ⟨rfl, rfl, z, rfl⟩)) hd hr, hrun, hended, _, _, rfl, hQ, ⟨_, rfl⟩, hW, hsame.mono hc hs⟩
theorem g_retA (X : Stand p l e R s m args below meth c T locs cells slots) (hx : p.tables.exec = Jvm.exec) {ty : FieldType} (hret : meth.sig.returnType = some ty) (ht : ty.isReference = true) (hlk : meth.locks = false) {b : Addr} (hd : decode c.code pc = .ok (.areturn, 1)) (hc : cells ≤ rc) (hs : slots ≤ rs) (hQ : Q (some (.ref b)) T.heap locs) : Go p e below s Q rc rs (T.setTop (mkF m pc Ls [.ref b])) := by
  obtain ⟨fs, hr, hrun, hended, hW, hsame⟩ := X.leave (v := some (.ref b)) (fun q => by rw [hret] at q; cases q) hlk
  exact ⟨_, _, X.areturnOut hx rfl hret ht hd hr, hrun, hended, _, _, rfl, hQ, ⟨_, rfl⟩, hW, hsame.mono hc hs⟩
theorem g_retV (X : Stand p l e R s m args below meth c T locs cells slots) (hx : p.tables.exec = Jvm.exec) (hret : meth.sig.returnType = none) (hlk : meth.locks = false) (hd : decode c.code pc = .ok (.return_, 1)) (hc : cells ≤ rc) (hs : slots ≤ rs) (hQ : Q none T.heap locs) : Go p e below s Q rc rs (T.setTop (mkF m pc Ls [])) := by
  obtain ⟨fs, hr, hrun, hended, hW, hsame⟩ := X.leave (v := none) (fun _ => rfl) hlk
  exact ⟨_, _, X.returnOut hx hret hd hr, hrun, hended, _, _, rfl, hQ, ⟨_, rfl⟩, hW, hsame.mono hc hs⟩
theorem g_body {y : MethodName} {bytes : ByteArray} {maxL : Nat} {ret : Option FieldType} {ws : List Jvm.Cond} {rm : Room} {as : Array Value} (hpn : plainFor y = true)
    (body : ∀ p e s m below meth c T, Stand p l e rm s m as below meth c T [] 0 0 → p.tables.exec = Jvm.exec → c.code = bytes → c.maxLocals = maxL → meth.sig.returnType = ret → meth.locks = false → s.vm.findClass y.cls = some m.cls → meth.name = y.name → Z.Warmed39 s.vm → T.heap = h → Go p e below s Q rc rs (T.setTop (entryFrame m as maxL))) :
    MetFree l y (head1 (Jvm.Cond.code y bytes maxL ret :: ws) rm) (fun a U => a = as ∧ Z.Warmed39 U.vm ∧ U.heap = h) (fun _ _ _ _ _ => True) (fun _ U o U' => ∃ v L, o = .returned v ∧ Q v U'.heap L ∧ FrameEnd U o U' L rc rs) := by
  refine MetFree.of_bodySF hpn hisR ?_
  intro p e s m args below meth c s₁ Bd hml hP hK
  obtain ⟨rfl, hZ, hh⟩ := hP
  exact body p e s m below meth c s₁ (Stand.of_body Bd) Bd.exec Bd.bytes hml Bd.returns Bd.notSynchronized (findClass_of_methodNamed Bd.named) (name_of_methodNamed Bd.named Bd.method).1 hZ (by rw [← hh, Bd.state]; rfl)
theorem g_callS (X : Stand p l e R s m args below meth c T locs cells slots) (hx : p.tables.exec = Jvm.exec) (hZ : Z.Warmed39 s.vm) {own : String} {i : Nat} {y : MethodName} {bytes : ByteArray} {maxL : Nat} {ret : Option FieldType} {rm : Room} {as : Array Value} {Q' : Option Value → Heap → List Loc → Prop} (hown : s.vm.findClass own = some m.cls) (w1 : (Jvm.Cond.methodLink own i y).before a0 Z = true) (w2 : (Jvm.Cond.static y).before a0 Z = true) (w3 : (Jvm.Cond.initialized y.cls).before a0 Z = true) (w4 : (Jvm.Cond.code y bytes maxL ret).before a0 Z = true) (hy : y.cls ≠ "java/lang/invoke/MethodHandle" ∧ y.cls ≠ "java/lang/invoke/VarHandle") (eT : T.heap = h) (hM : MetFree l y (head1 [Jvm.Cond.code y bytes maxL ret] rm) (fun a U => a = as ∧ Z.Warmed39 U.vm ∧ U.heap = h) (fun _ _ _ _ _ => True) (fun _ U o U' => ∃ v L, o = .returned v ∧ Q' v U'.heap L ∧ FrameEnd U o U' L rm.cells rm.slots)) (argsL rest : List Value) (W : Nat) (has : argsL.toArray = as) (hlen : ∀ sig, parseMethodDescriptor y.desc = some sig → argsL.length = sig.parameters.length) (hst : st = argsL.reverse ++ rest) (hW : (rest.map fun v => v.category).sum ≤ W) (hf : rm.frames + 1 ≤ R.frames) (hlo : W + (maxL + 11) + rm.locals ≤ R.locals) (hcl : cells + rm.cells ≤ R.cells) (hsl : slots + rm.slots ≤ R.slots) (hsz : Ls.size = c.maxLocals) (hd : decode c.code pc = .ok (.invokestatic i, 3)) (k : ∀ T' L v, Stand p l e R s m args below meth c T' (locs ++ L) (cells + rm.cells) (slots + rm.slots) → Q' v T'.heap L → Go p e below s Q rc rs (T'.setTop (mkF m (pc + 3) Ls (v.toList ++ rest)))) : Go p e below s Q rc rs (T.setTop (mkF m pc Ls st)) := by
  subst hst has
  obtain ⟨_, _, ⟨T', L', k', n'⟩, -, X', ⟨Lc, hQ, e1, e2, e3⟩, stp⟩ := Jvm.LawKit.callS X hx (y := y) hown (mvT hZ w1) (mvT hZ w2) (mvT hZ w3) (mvT hZ w4) hy (backOf (W := W) hM hZ w4 w3 hf hlo) (g := mkF m pc Ls (argsL.reverse ++ rest)) rfl hsz (argsL := argsL) (rest := rest) hlen rfl (by show 2 * 0 + _ ≤ _; omega) hd (fun _ _ => ⟨rfl, eT, hcl, hsl⟩)
  dsimp only [Pt.U, Pt.locs, Pt.cells, Pt.slots] at X' e1 e2 e3 stp hQ
  subst e1 e2 e3
  exact (k _ _ _ X' hQ).by stp
theorem g_callI (X : Stand p l e R s m args below meth c T locs cells slots) (hx : p.tables.exec = Jvm.exec) (hZ : Z.Warmed39 s.vm) {own : String} {i : Nat} {y : MethodName} {bytes : ByteArray} {maxL : Nat} {rm : Room} {as : Array Value} {Q' : Option Value → Heap → List Loc → Prop} (hy1 : y.name = "<init>") (hown : s.vm.findClass own = some m.cls) (w1 : (Jvm.Cond.methodLink own i y).before a0 Z = true) (w2 : (Jvm.Cond.instanceMethod y).before a0 Z = true) (w3 : (Jvm.Cond.initialized y.cls).before a0 Z = true) (w4 : (Jvm.Cond.code y bytes maxL none).before a0 Z = true) (hy : y.cls ≠ "java/lang/invoke/MethodHandle" ∧ y.cls ≠ "java/lang/invoke/VarHandle") (eT : T.heap = h) (hM : MetFree l y (head1 [Jvm.Cond.code y bytes maxL none] rm) (fun a U => a = as ∧ Z.Warmed39 U.vm ∧ U.heap = h) (fun _ _ _ _ _ => True) (fun _ U o U' => ∃ v L, o = .returned v ∧ Q' v U'.heap L ∧ FrameEnd U o U' L rm.cells rm.slots)) (b : Addr) (argsL rest : List Value) (W : Nat) (has : (.ref b :: argsL : List Value).toArray = as) (hlen : ∀ sig, parseMethodDescriptor y.desc = some sig → argsL.length = sig.parameters.length) (hst : st = argsL.reverse ++ .ref b :: rest) (hW : (rest.map fun v => v.category).sum ≤ W) (hf : rm.frames + 1 ≤ R.frames) (hlo : W + (maxL + 11) + rm.locals ≤ R.locals) (hcl : cells + rm.cells ≤ R.cells) (hsl : slots + rm.slots ≤ R.slots) (hsz : Ls.size = c.maxLocals) (hd : decode c.code pc = .ok (.invokespecial i, 3)) (k : ∀ T' L v, Stand p l e R s m args below meth c T' (locs ++ L) (cells + rm.cells) (slots + rm.slots) → Q' v T'.heap L → Go p e below s Q rc rs (T'.setTop (mkF m (pc + 3) Ls (v.toList ++ rest)))) : Go p e below s Q rc rs (T.setTop (mkF m pc Ls st)) := by
  subst hst has
  obtain ⟨_, _, ⟨T', L', k', n'⟩, -, X', ⟨Lc, hQ, e1, e2, e3⟩, stp⟩ := X.specialBack hx (y := y) hy1 hown (mvT hZ w1) (mvT hZ w2) (mvT hZ w4) hy (backOf (W := W) hM hZ w4 w3 hf hlo) (g := mkF m pc Ls (argsL.reverse ++ .ref b :: rest)) rfl hsz (Steps.refl _) (a := b) (argsL := argsL) (rest := rest) hlen rfl (by show 2 * 0 + _ ≤ _; omega) hd (fun _ _ => ⟨rfl, eT, hcl, hsl⟩)
  dsimp only [Pt.U, Pt.locs, Pt.cells, Pt.slots] at X' e1 e2 e3 stp hQ
  subst e1 e2 e3
  exact (k _ _ _ X' hQ).by fun t k => stp.trans k
theorem g_callV (X : Stand p l e R s m args below meth c T locs cells slots) (hx : p.tables.exec = Jvm.exec) (hZ : Z.Warmed39 s.vm) {own C : String} {i : Nat} {y : MethodName} {bytes : ByteArray} {maxL : Nat} {ret : Option FieldType} {rm : Room} {as : Array Value} {Q' : Option Value → Heap → List Loc → Prop} (hown : s.vm.findClass own = some m.cls) (w1 : (Jvm.Cond.methodLink own i y).before a0 Z = true) (w2 : (Jvm.Cond.declares y).before a0 Z = true) (w5 : (Jvm.Cond.selects C y y).before a0 Z = true) (w6 : (Jvm.Cond.instanceMethod y).before a0 Z = true) (w3 : (Jvm.Cond.initialized y.cls).before a0 Z = true) (w4 : (Jvm.Cond.code y bytes maxL ret).before a0 Z = true) (hy : y.cls ≠ "java/lang/invoke/MethodHandle" ∧ y.cls ≠ "java/lang/invoke/VarHandle") (eT : T.heap = h) (b : Addr) (E : Exa Z h b C) (hM : MetFree l y (head1 [Jvm.Cond.code y bytes maxL ret] rm) (fun a U => a = as ∧ Z.Warmed39 U.vm ∧ U.heap = h) (fun _ _ _ _ _ => True) (fun _ U o U' => ∃ v L, o = .returned v ∧ Q' v U'.heap L ∧ FrameEnd U o U' L rm.cells rm.slots)) (argsL rest : List Value) (W : Nat) (has : (.ref b :: argsL : List Value).toArray = as) (hlen : ∀ sig, parseMethodDescriptor y.desc = some sig → argsL.length = sig.parameters.length) (hst : st = argsL.reverse ++ .ref b :: rest) (hW : (rest.map fun v => v.category).sum ≤ W) (hf : rm.frames + 1 ≤ R.frames) (hlo : W + (maxL + 11) + rm.locals ≤ R.locals) (hcl : cells + rm.cells ≤ R.cells) (hsl : slots + rm.slots ≤ R.slots) (hsz : Ls.size = c.maxLocals) (hd : decode c.code pc = .ok (.invokevirtual i, 3)) (k : ∀ T' L v, Stand p l e R s m args below meth c T' (locs ++ L) (cells + rm.cells) (slots + rm.slots) → Q' v T'.heap L → Go p e below s Q rc rs (T'.setTop (mkF m (pc + 3) Ls (v.toList ++ rest)))) : Go p e below s Q rc rs (T.setTop (mkF m pc Ls st)) := by
  subst hst has
  obtain ⟨cq, kq, qa, qb, qc⟩ := isOf hZ eT E
  obtain ⟨_, _, ⟨T', L', k', n'⟩, -, X', ⟨Lc, hQ, e1, e2, e3⟩, stp⟩ := X.virtualBack hx (y := y) (z := y) hown (mvT hZ w1) (mvT hZ w2) (notFace_of_selects (args := #[]) (mvT hZ w5)) (mvT hZ w5) (mvT hZ w6) hy (backOf (W := W) hM hZ w4 w3 hf hlo) qa qc (g := mkF m pc Ls (argsL.reverse ++ .ref b :: rest)) rfl hsz (Steps.refl _) (argsL := argsL) (rest := rest) hlen rfl (by show 2 * 0 + _ ≤ _; omega) hd (fun _ _ => ⟨rfl, eT, hcl, hsl⟩)
  dsimp only [Pt.U, Pt.locs, Pt.cells, Pt.slots] at X' e1 e2 e3 stp hQ
  subst e1 e2 e3
  exact (k _ _ _ X' hQ).by fun t k => stp.trans k
theorem g_callP (X : Stand p l e R s m args below meth c T locs cells slots) (hx : p.tables.exec = Jvm.exec) (hZ : Z.Warmed39 s.vm) {own C : String} {i : Nat} {y : MethodName} {bytes : ByteArray} {maxL : Nat} {ret : Option FieldType} {rm : Room} {as : Array Value} {Q' : Option Value → Heap → List Loc → Prop} (hown : s.vm.findClass own = some m.cls) (w1 : (Jvm.Cond.methodLink own i y).before a0 Z = true) (w2 : (Jvm.Cond.instanceMethod y).before a0 Z = true) (w5 : (Jvm.Cond.selects y.cls y y).before a0 Z = true) (w6 : (Jvm.Cond.privateMethod y).before a0 Z = true) (w3 : (Jvm.Cond.initialized y.cls).before a0 Z = true) (w4 : (Jvm.Cond.code y bytes maxL ret).before a0 Z = true) (hy : y.cls ≠ "java/lang/invoke/MethodHandle" ∧ y.cls ≠ "java/lang/invoke/VarHandle") (eT : T.heap = h) (b : Addr) (E : Exa Z h b C) (hM : MetFree l y (head1 [Jvm.Cond.code y bytes maxL ret] rm) (fun a U => a = as ∧ Z.Warmed39 U.vm ∧ U.heap = h) (fun _ _ _ _ _ => True) (fun _ U o U' => ∃ v L, o = .returned v ∧ Q' v U'.heap L ∧ FrameEnd U o U' L rm.cells rm.slots)) (argsL rest : List Value) (W : Nat) (has : (.ref b :: argsL : List Value).toArray = as) (hlen : ∀ sig, parseMethodDescriptor y.desc = some sig → argsL.length = sig.parameters.length) (hst : st = argsL.reverse ++ .ref b :: rest) (hW : (rest.map fun v => v.category).sum ≤ W) (hf : rm.frames + 1 ≤ R.frames) (hlo : W + (maxL + 11) + rm.locals ≤ R.locals) (hcl : cells + rm.cells ≤ R.cells) (hsl : slots + rm.slots ≤ R.slots) (hsz : Ls.size = c.maxLocals) (hd : decode c.code pc = .ok (.invokevirtual i, 3)) (k : ∀ T' L v, Stand p l e R s m args below meth c T' (locs ++ L) (cells + rm.cells) (slots + rm.slots) → Q' v T'.heap L → Go p e below s Q rc rs (T'.setTop (mkF m (pc + 3) Ls (v.toList ++ rest)))) : Go p e below s Q rc rs (T.setTop (mkF m pc Ls st)) := by
  subst hst has
  obtain ⟨cq, q, q'⟩ := E.cell
  obtain ⟨_, _, ⟨T', L', k', n'⟩, -, X', ⟨Lc, hQ, e1, e2, e3⟩, stp⟩ := X.privateBack hx (y := y) hown (mvT hZ w1) (mvT hZ w2) (mvT hZ w5) (Cond.privateMethod_at (mvP hZ w6 (args := #[]))) (mvT hZ w4) hy (backOf (W := W) hM hZ w4 w3 hf hlo) (g := mkF m pc Ls (argsL.reverse ++ .ref b :: rest)) rfl hsz (Steps.refl _) (a := b) (by rw [eT]; exact q) q' (argsL := argsL) (rest := rest) hlen rfl (by show 2 * 0 + _ ≤ _; omega) hd (fun _ _ => ⟨rfl, eT, hcl, hsl⟩)
  dsimp only [Pt.U, Pt.locs, Pt.cells, Pt.slots] at X' e1 e2 e3 stp hQ
  subst e1 e2 e3
  exact (k _ _ _ X' hQ).by fun t k => stp.trans k
theorem g_initO (X : Stand p l e R s m args below meth c T locs cells slots) (hx : p.tables.exec = Jvm.exec) (hZ : Z.Warmed39 s.vm) {own : String} {i : Nat} (hown : s.vm.findClass own = some m.cls) (w1 : (Jvm.Cond.methodLink own i Lib.objectInit).before a0 Z = true) (w2 : (Jvm.Cond.instanceMethod Lib.objectInit).before a0 Z = true) (w3 : (Jvm.Cond.code Lib.objectInit ⟨#[0xb1]⟩ 1 none).before a0 Z = true) (eT : T.heap = h) {b : Addr} (pc' : Nat) (hsz : Ls.size = c.maxLocals) (hd : decode c.code pc = .ok (.invokespecial i, 3)) (hf : 1 ≤ R.frames) (W : Nat) (hW : (st.map fun v => v.category).sum ≤ W) (hlo : W + 12 ≤ R.locals) (hp : pc + 3 = pc') (k : ∀ T', Stand p l e R s m args below meth c T' locs cells slots → T'.heap = h → Go p e below s Q rc rs (T'.setTop (mkF m pc' Ls st))) : Go p e below s Q rc rs (T.setTop (mkF m pc Ls (.ref b :: st))) := by
  subst hp
  obtain ⟨T', X', e', stp⟩ := initO X hx hZ hown w1 w2 w3 eT (g := mkF m pc Ls (.ref b :: st)) rfl hsz rfl hd hf (W := W) (by show 2 * 0 + _ ≤ _; omega) hlo
  exact (k _ X' e').by stp
theorem g_getF (X : Stand p l e R s m args below meth c T locs cells slots) (hx : p.tables.exec = Jvm.exec) (hZ : Z.Warmed39 s.vm) {own R0 O n d : String} {i : Nat} (hown : s.vm.findClass own = some m.cls) (w : (Jvm.Cond.fieldLink own i R0 n d).before a0 Z = true) (via : Via Z R0 O n d) (eT : T.heap = h) {b : Addr} {v : Value} (F : Fld Z h b O n d v) (pc' : Nat) (hd : decode c.code pc = .ok (.getfield i, 3)) (hp : pc + 3 = pc') (k : ∀ T', Stand p l e R s m args below meth c T' locs cells slots → T'.heap = h → Go p e below s Q rc rs (T'.setTop (mkF m pc' Ls (v :: st)))) : Go p e below s Q rc rs (T.setTop (mkF m pc Ls (.ref b :: st))) := by
  subst hp
  obtain ⟨T', X', e', stp⟩ := getF X hx hZ hown (host := "") (Or.inl w) via eT F (g := mkF m pc Ls (.ref b :: st)) rfl rfl hd
  exact (k _ X' e').by stp
theorem g_putF (X : Stand p l e R s m args below meth c T locs cells slots) (hx : p.tables.exec = Jvm.exec) (hZ : Z.Warmed39 s.vm) {own R0 O n d C : String} {i kk : Nat} {ty : FieldType} (hown : s.vm.findClass own = some m.cls) (w : (Jvm.Cond.fieldLink own i R0 n d).before a0 Z = true) (via : Via Z R0 O n d) (eT : T.heap = h) {b : Addr} {v old : Value} (F : Fld Z h b O n d old) (E : Exa Z h b C) (L : (Jvm.Cond.lays C O n d).before a0 Z = true ∨ ((Jvm.Cond.laysFinal C O n d).before a0 Z = true ∧ own = O ∧ meth.name = "<init>")) (wi : (Jvm.Cond.instantiable C kk).before a0 Z = true) (hty : parseFieldDescriptor d = some ty) (hn : narrow ty v = v) (hf : fits ty v = true) (pc' : Nat) (hd : decode c.code pc = .ok (.putfield i, 3)) (hp : pc + 3 = pc') (k : ∀ T' h', Stand p l e R s m args below meth c T' (locs ++ [⟨b, Jvm.RoadKit.slotOf Z O n d⟩]) cells slots → T'.heap = h' → Wr h h' b (Jvm.RoadKit.slotOf Z O n d) v → Go p e below s Q rc rs (T'.setTop (mkF m pc' Ls st))) : Go p e below s Q rc rs (T.setTop (mkF m pc Ls (v :: .ref b :: st))) := by
  subst hp
  obtain ⟨T', h', X', e', W', stp⟩ := putF X hx hZ hown (host := "") (Or.inl w) via eT F E L wi hty hn hf (g := mkF m pc Ls (v :: .ref b :: st)) rfl rfl hd
  exact (k _ _ X' e' W').by stp
theorem g_new (X : Stand p l e R s m args below meth c T locs cells slots) (hx : p.tables.exec = Jvm.exec) (hZ : Z.Warmed39 s.vm) {own C : String} {i n : Nat} (hown : s.vm.findClass own = some m.cls) (w : (Jvm.Cond.classLink own i C).before a0 Z = true) (wi : (Jvm.Cond.instantiable C n).before a0 Z = true) (wz : (Jvm.Cond.initialized C).before a0 Z = true) (eT : T.heap = h) (pc' : Nat) (hd : decode c.code pc = .ok (.new i, 3)) (hcl : cells + 1 ≤ R.cells) (hsl : slots + n ≤ R.slots) (hp : pc + 3 = pc') (k : ∀ T' h' b, b = h.size → Stand p l e R s m args below meth c T' locs (cells + 1) (slots + n) → T'.heap = h' → Ext h h' → Exa Z h' b C → (∀ {O nm d : String} {ty : FieldType}, Laid Z a0 C O nm d → parseFieldDescriptor d = some ty → Fld Z h' b O nm d (defaultValue ty)) → Go p e below s Q rc rs (T'.setTop (mkF m pc' Ls (.ref b :: st)))) : Go p e below s Q rc rs (T.setTop (mkF m pc Ls st)) := by
  subst hp
  obtain ⟨T', h', X', e', E', A', D', -, stp⟩ := newO X hx hZ hown w wi wz eT (g := mkF m pc Ls st) rfl hd hcl hsl
  exact (k _ _ _ rfl X' e' E' A' D').by stp
/-- an array of n places whose j-th holds f j -/
def AV (Z : State) (h : Heap) (a : Addr) (ty : FieldType) (n : Nat) (f : Nat → Value) : Prop := ∃ c : Cell, Arr Z h a c ty ∧ c.slots.size = n ∧ n < 2 ^ 31 ∧ ∀ j, j < n → c.slots[j]? = some (f j)
theorem AV.ext {h' : Heap} {a : Addr} {ty : FieldType} {n : Nat} {f : Nat → Value} (F : AV Z h a ty n f) (E : Ext h h') : AV Z h' a ty n f := by obtain ⟨c, A, r⟩ := F; exact ⟨c, A.ext E, r⟩
theorem AV.other {h' : Heap} {a b : Addr} {ty : FieldType} {n sl : Nat} {f : Nat → Value} {v : Value} (F : AV Z h a ty n f) (W : Wr h h' b sl v) (q : a ≠ b) : AV Z h' a ty n f := by obtain ⟨c, A, r⟩ := F; exact ⟨c, A.other W q, r⟩
theorem AV.keep {h' : Heap} {a : Addr} {ws : List Addr} {ty : FieldType} {n : Nat} {f : Nat → Value} (F : AV Z h a ty n f) (K : Keep h h' ws) (q : a ∉ ws) : AV Z h' a ty n f := by obtain ⟨c, A, r⟩ := F; exact ⟨c, ⟨K.2.1 a c A.1 q, A.2⟩, r⟩
theorem AV.lt {a : Addr} {ty : FieldType} {n : Nat} {f : Nat → Value} (F : AV Z h a ty n f) : a < h.size := by obtain ⟨c, A, -⟩ := F; exact A.lt
theorem AV.small {a : Addr} {ty : FieldType} {n : Nat} {f : Nat → Value} (F : AV Z h a ty n f) : n < 2 ^ 31 := by obtain ⟨c, -, -, q, -⟩ := F; exact q
theorem AV.congr {a : Addr} {ty : FieldType} {n : Nat} {f g : Nat → Value} (F : AV Z h a ty n f) (q : ∀ j, j < n → f j = g j) : AV Z h a ty n g := by obtain ⟨c, A, r1, r2, r3⟩ := F; exact ⟨c, A, r1, r2, fun j hj => by rw [r3 j hj, q j hj]⟩
theorem own_idx {j : Int32} {i : Nat} (q : j.toInt = i) : ¬ j < 0 ∧ j.toNatClampNeg = i := by
  refine ⟨?_, ?_⟩
  · rw [Int32.lt_iff_toInt_lt, q]; simp
  · show j.toInt.toNat = i; omega
theorem own_in {j : Int32} {i : Nat} {cl : Cell} (q : j.toInt = i) (hi : i < cl.slots.size) : ¬ (j < 0 ∨ cl.slots.size ≤ j.toNatClampNeg) := by
  obtain ⟨q1, q2⟩ := own_idx q
  rintro (z | z)
  · exact q1 z
  · omega
def upd {α : Type} (g : Nat → α) (j : Nat) (x : α) : Nat → α := fun q => if q = j then x else g q
def AI (Z : State) (h : Heap) (a : Addr) (n : Nat) (g : Nat → Int32) : Prop := AV Z h a .int n (fun j => .int (g j))
def AJ (Z : State) (h : Heap) (a : Addr) (n : Nat) (g : Nat → Int64) : Prop := AV Z h a .long n (fun j => .long (g j))
def AB (Z : State) (h : Heap) (a : Addr) (n : Nat) (g : Nat → Int32) : Prop := AV Z h a .byte n (fun j => .int (g j))
theorem nm0 {a : Addr} : a ∉ ([] : List Addr) := nofun
theorem nm1 {a b : Addr} {ws : List Addr} (q : a ≠ b) (r : a ∉ ws) : a ∉ b :: ws := fun z => by
  rcases List.mem_cons.mp z with z | z
  · exact q z
  · exact r z
theorem AI.ext {h' : Heap} {a : Addr} {n : Nat} {g : Nat → Int32} (F : AI Z h a n g) (E : Ext h h') : AI Z h' a n g := AV.ext F E
theorem AI.other {h' : Heap} {a b : Addr} {n sl : Nat} {g : Nat → Int32} {v : Value} (F : AI Z h a n g) (W : Wr h h' b sl v) (q : a ≠ b) : AI Z h' a n g := AV.other F W q
theorem AI.keep {h' : Heap} {a : Addr} {ws : List Addr} {n : Nat} {g : Nat → Int32} (F : AI Z h a n g) (K : Keep h h' ws) (q : a ∉ ws) : AI Z h' a n g := AV.keep F K q
theorem AI.lt {a : Addr} {n : Nat} {g : Nat → Int32} (F : AI Z h a n g) : a < h.size := AV.lt F
theorem AI.small {a : Addr} {n : Nat} {g : Nat → Int32} (F : AI Z h a n g) : n < 2 ^ 31 := AV.small F
theorem AI.congr {a : Addr} {n : Nat} {g g' : Nat → Int32} (F : AI Z h a n g) (q : ∀ j, j < n → g j = g' j) : AI Z h a n g' := AV.congr F fun j hj => by rw [q j hj]
theorem AJ.ext {h' : Heap} {a : Addr} {n : Nat} {g : Nat → Int64} (F : AJ Z h a n g) (E : Ext h h') : AJ Z h' a n g := AV.ext F E
theorem AJ.other {h' : Heap} {a b : Addr} {n sl : Nat} {g : Nat → Int64} {v : Value} (F : AJ Z h a n g) (W : Wr h h' b sl v) (q : a ≠ b) : AJ Z h' a n g := AV.other F W q
theorem AJ.keep {h' : Heap} {a : Addr} {ws : List Addr} {n : Nat} {g : Nat → Int64} (F : AJ Z h a n g) (K : Keep h h' ws) (q : a ∉ ws) : AJ Z h' a n g := AV.keep F K q
theorem AJ.lt {a : Addr} {n : Nat} {g : Nat → Int64} (F : AJ Z h a n g) : a < h.size := AV.lt F
theorem AJ.small {a : Addr} {n : Nat} {g : Nat → Int64} (F : AJ Z h a n g) : n < 2 ^ 31 := AV.small F
theorem AJ.congr {a : Addr} {n : Nat} {g g' : Nat → Int64} (F : AJ Z h a n g) (q : ∀ j, j < n → g j = g' j) : AJ Z h a n g' := AV.congr F fun j hj => by rw [q j hj]
theorem AB.ext {h' : Heap} {a : Addr} {n : Nat} {g : Nat → Int32} (F : AB Z h a n g) (E : Ext h h') : AB Z h' a n g := AV.ext F E
theorem AB.other {h' : Heap} {a b : Addr} {n sl : Nat} {g : Nat → Int32} {v : Value} (F : AB Z h a n g) (W : Wr h h' b sl v) (q : a ≠ b) : AB Z h' a n g := AV.other F W q
theorem AB.keep {h' : Heap} {a : Addr} {ws : List Addr} {n : Nat} {g : Nat → Int32} (F : AB Z h a n g) (K : Keep h h' ws) (q : a ∉ ws) : AB Z h' a n g := AV.keep F K q
theorem AB.lt {a : Addr} {n : Nat} {g : Nat → Int32} (F : AB Z h a n g) : a < h.size := AV.lt F
theorem AB.small {a : Addr} {n : Nat} {g : Nat → Int32} (F : AB Z h a n g) : n < 2 ^ 31 := AV.small F
theorem AB.congr {a : Addr} {n : Nat} {g g' : Nat → Int32} (F : AB Z h a n g) (q : ∀ j, j < n → g j = g' j) : AB Z h a n g' := AV.congr F fun j hj => by rw [q j hj]
theorem g_iaload (X : Stand p l e R s m args below meth c T locs cells slots) (hx : p.tables.exec = Jvm.exec) (hZ : Z.Warmed39 s.vm) (eT : T.heap = h) {b : Addr} {n : Nat} {g : Nat → Int32} (A : AI Z h b n g) {j : Int32} (jn : Nat) (hj : j.toInt = jn) (hlt : jn < n) (pc' : Nat) (hd : decode c.code pc = .ok (.iaload, 1)) (hp : pc + 1 = pc') (k : Go p e below s Q rc rs (T.setTop (mkF m pc' Ls (.int (g jn) :: st)))) : Go p e below s Q rc rs (T.setTop (mkF m pc Ls (.int j :: .ref b :: st))) := by
  subst hp
  obtain ⟨cl, A1, A2, A3, A4⟩ := A
  exact k.by fun t k => X.iaload hx (j := j) (by rw [eT]; exact A1.1) (State.isArrayOf_alike hZ.alike A1.2.1) A1.2.2 (own_in hj (by omega)) (by rw [(own_idx hj).2]; exact A4 _ hlt) (g := mkF m pc Ls (.int j :: .ref b :: st)) rfl rfl hd t k
theorem g_laload (X : Stand p l e R s m args below meth c T locs cells slots) (hx : p.tables.exec = Jvm.exec) (hZ : Z.Warmed39 s.vm) (eT : T.heap = h) {b : Addr} {n : Nat} {g : Nat → Int64} (A : AJ Z h b n g) {j : Int32} (jn : Nat) (hj : j.toInt = jn) (hlt : jn < n) (pc' : Nat) (hd : decode c.code pc = .ok (.laload, 1)) (hp : pc + 1 = pc') (k : Go p e below s Q rc rs (T.setTop (mkF m pc' Ls (.long (g jn) :: st)))) : Go p e below s Q rc rs (T.setTop (mkF m pc Ls (.int j :: .ref b :: st))) := by
  subst hp
  obtain ⟨cl, A1, A2, A3, A4⟩ := A
  exact k.by fun t k => X.laload hx (j := j) (by rw [eT]; exact A1.1) (State.isArrayOf_alike hZ.alike A1.2.1) A1.2.2 (own_in hj (by omega)) (by rw [(own_idx hj).2]; exact A4 _ hlt) (g := mkF m pc Ls (.int j :: .ref b :: st)) rfl rfl hd t k
theorem g_baload (X : Stand p l e R s m args below meth c T locs cells slots) (hx : p.tables.exec = Jvm.exec) (hZ : Z.Warmed39 s.vm) (eT : T.heap = h) {b : Addr} {n : Nat} {g : Nat → Int32} (A : AB Z h b n g) {j : Int32} (jn : Nat) (hj : j.toInt = jn) (hlt : jn < n) (pc' : Nat) (hd : decode c.code pc = .ok (.baload, 1)) (hp : pc + 1 = pc') (k : Go p e below s Q rc rs (T.setTop (mkF m pc' Ls (.int (g jn) :: st)))) : Go p e below s Q rc rs (T.setTop (mkF m pc Ls (.int j :: .ref b :: st))) := by
  subst hp
  obtain ⟨cl, A1, A2, A3, A4⟩ := A
  exact k.by fun t k => X.baloadBytes hx (j := j) (by rw [eT]; exact A1.1) (State.isArrayOf_alike hZ.alike A1.2.1) A1.2.2 (own_in hj (by omega)) (by rw [(own_idx hj).2]; exact A4 _ hlt) (g := mkF m pc Ls (.int j :: .ref b :: st)) rfl rfl hd t k
theorem g_iastore (X : Stand p l e R s m args below meth c T locs cells slots) (hx : p.tables.exec = Jvm.exec) (hZ : Z.Warmed39 s.vm) (eT : T.heap = h) {b : Addr} {n : Nat} {g : Nat → Int32} (A : AI Z h b n g) {j : Int32} {x : Int32} (jn : Nat) (hj : j.toInt = jn) (hlt : jn < n) (pc' : Nat) (hd : decode c.code pc = .ok (.iastore, 1)) (hp : pc + 1 = pc') (k : ∀ T' h', Stand p l e R s m args below meth c T' (locs ++ [⟨b, jn⟩]) cells slots → T'.heap = h' → Wr h h' b jn (.int x) → AI Z h' b n (upd g jn x) → Go p e below s Q rc rs (T'.setTop (mkF m pc' Ls st))) : Go p e below s Q rc rs (T.setTop (mkF m pc Ls (.int x :: .int j :: .ref b :: st))) := by
  subst hp
  obtain ⟨cl, A1, A2, A3, A4⟩ := A
  obtain ⟨T', h', X', e', W', stp⟩ := stI X hx hZ eT A1 (j := j) (x := x) (own_in hj (by omega)) (g := mkF m pc Ls (.int x :: .int j :: .ref b :: st)) rfl rfl hd
  rw [(own_idx hj).2] at X' W'
  refine (k _ _ X' e' W' ⟨_, A1.same W', by rw [sz_set]; exact A2, A3, fun q hq => ?_⟩).by stp
  by_cases z : q = jn
  · subst z; simp [Cell.setSlot, A2, hq, upd]; try rfl
  · simp only [upd, z, if_false]; rw [← A4 q hq]; simp only [Cell.setSlot]; rw [Array.getElem?_setIfInBounds_ne (Ne.symm z)]
theorem g_lastore (X : Stand p l e R s m args below meth c T locs cells slots) (hx : p.tables.exec = Jvm.exec) (hZ : Z.Warmed39 s.vm) (eT : T.heap = h) {b : Addr} {n : Nat} {g : Nat → Int64} (A : AJ Z h b n g) {j : Int32} {x : Int64} (jn : Nat) (hj : j.toInt = jn) (hlt : jn < n) (pc' : Nat) (hd : decode c.code pc = .ok (.lastore, 1)) (hp : pc + 1 = pc') (k : ∀ T' h', Stand p l e R s m args below meth c T' (locs ++ [⟨b, jn⟩]) cells slots → T'.heap = h' → Wr h h' b jn (.long x) → AJ Z h' b n (upd g jn x) → Go p e below s Q rc rs (T'.setTop (mkF m pc' Ls st))) : Go p e below s Q rc rs (T.setTop (mkF m pc Ls (.long x :: .int j :: .ref b :: st))) := by
  subst hp
  obtain ⟨cl, A1, A2, A3, A4⟩ := A
  obtain ⟨T', h', X', e', W', stp⟩ := stJ X hx hZ eT A1 (j := j) (x := x) (own_in hj (by omega)) (g := mkF m pc Ls (.long x :: .int j :: .ref b :: st)) rfl rfl hd
  rw [(own_idx hj).2] at X' W'
  refine (k _ _ X' e' W' ⟨_, A1.same W', by rw [sz_set]; exact A2, A3, fun q hq => ?_⟩).by stp
  by_cases z : q = jn
  · subst z; simp [Cell.setSlot, A2, hq, upd]; try rfl
  · simp only [upd, z, if_false]; rw [← A4 q hq]; simp only [Cell.setSlot]; rw [Array.getElem?_setIfInBounds_ne (Ne.symm z)]
theorem g_bastore (X : Stand p l e R s m args below meth c T locs cells slots) (hx : p.tables.exec = Jvm.exec) (hZ : Z.Warmed39 s.vm) (eT : T.heap = h) {b : Addr} {n : Nat} {g : Nat → Int32} (A : AB Z h b n g) {j : Int32} {x : Int32} (jn : Nat) (hj : j.toInt = jn) (hlt : jn < n) (pc' : Nat) (hd : decode c.code pc = .ok (.bastore, 1)) (hp : pc + 1 = pc') (k : ∀ T' h', Stand p l e R s m args below meth c T' (locs ++ [⟨b, jn⟩]) cells slots → T'.heap = h' → Wr h h' b jn (.int (nar .byte x)) → AB Z h' b n (upd g jn (i2bI x)) → Go p e below s Q rc rs (T'.setTop (mkF m pc' Ls st))) : Go p e below s Q rc rs (T.setTop (mkF m pc Ls (.int x :: .int j :: .ref b :: st))) := by
  subst hp
  obtain ⟨cl, A1, A2, A3, A4⟩ := A
  obtain ⟨T', h', X', e', W', stp⟩ := stB X hx hZ eT A1 (j := j) (x := x) (own_in hj (by omega)) (g := mkF m pc Ls (.int x :: .int j :: .ref b :: st)) rfl rfl hd
  rw [(own_idx hj).2] at X' W'
  refine (k _ _ X' e' W' ⟨_, A1.same W', by rw [sz_set]; exact A2, A3, fun q hq => ?_⟩).by stp
  by_cases z : q = jn
  · subst z; simp [Cell.setSlot, A2, hq, upd]; try rfl
  · simp only [upd, z, if_false]; rw [← A4 q hq]; simp only [Cell.setSlot]; rw [Array.getElem?_setIfInBounds_ne (Ne.symm z)]
theorem g_arraylengthI (X : Stand p l e R s m args below meth c T locs cells slots) (hx : p.tables.exec = Jvm.exec) (hZ : Z.Warmed39 s.vm) (eT : T.heap = h) {b : Addr} {n : Nat} {g : Nat → Int32} (A : AI Z h b n g) (v : Int32) (hv : n.toInt32 = v) (pc' : Nat) (hd : decode c.code pc = .ok (.arraylength, 1)) (hp : pc + 1 = pc') (k : Go p e below s Q rc rs (T.setTop (mkF m pc' Ls (.int v :: st)))) : Go p e below s Q rc rs (T.setTop (mkF m pc Ls (.ref b :: st))) := by
  subst hp hv
  obtain ⟨cl, A1, A2, A3, A4⟩ := A
  subst A2
  exact k.by fun t k => X.arraylength hx (by rw [eT]; exact A1.1) (State.isArrayOf_alike hZ.alike A1.2.1) (g := mkF m pc Ls (.ref b :: st)) rfl rfl hd t k
theorem g_arraylengthJ (X : Stand p l e R s m args below meth c T locs cells slots) (hx : p.tables.exec = Jvm.exec) (hZ : Z.Warmed39 s.vm) (eT : T.heap = h) {b : Addr} {n : Nat} {g : Nat → Int64} (A : AJ Z h b n g) (v : Int32) (hv : n.toInt32 = v) (pc' : Nat) (hd : decode c.code pc = .ok (.arraylength, 1)) (hp : pc + 1 = pc') (k : Go p e below s Q rc rs (T.setTop (mkF m pc' Ls (.int v :: st)))) : Go p e below s Q rc rs (T.setTop (mkF m pc Ls (.ref b :: st))) := by
  subst hp hv
  obtain ⟨cl, A1, A2, A3, A4⟩ := A
  subst A2
  exact k.by fun t k => X.arraylength hx (by rw [eT]; exact A1.1) (State.isArrayOf_alike hZ.alike A1.2.1) (g := mkF m pc Ls (.ref b :: st)) rfl rfl hd t k
theorem g_arraylengthB (X : Stand p l e R s m args below meth c T locs cells slots) (hx : p.tables.exec = Jvm.exec) (hZ : Z.Warmed39 s.vm) (eT : T.heap = h) {b : Addr} {n : Nat} {g : Nat → Int32} (A : AB Z h b n g) (v : Int32) (hv : n.toInt32 = v) (pc' : Nat) (hd : decode c.code pc = .ok (.arraylength, 1)) (hp : pc + 1 = pc') (k : Go p e below s Q rc rs (T.setTop (mkF m pc' Ls (.int v :: st)))) : Go p e below s Q rc rs (T.setTop (mkF m pc Ls (.ref b :: st))) := by
  subst hp hv
  obtain ⟨cl, A1, A2, A3, A4⟩ := A
  subst A2
  exact k.by fun t k => X.arraylength hx (by rw [eT]; exact A1.1) (State.isArrayOf_alike hZ.alike A1.2.1) (g := mkF m pc Ls (.ref b :: st)) rfl rfl hd t k
theorem g_newarr (X : Stand p l e R s m args below meth c T locs cells slots) (hx : p.tables.exec = Jvm.exec) (hZ : Z.Warmed39 s.vm) {aty : ArrayType} (w : (Jvm.Cond.arrayClass (newarray.typeOf aty)).before a0 Z = true) (eT : T.heap = h) {n : Int32} (N cap : Nat) (hn : n.toInt = N) (hcap : N ≤ cap) (hb : cap * 8 ≤ 536870912) (pc' : Nat) (hd : decode c.code pc = .ok (.newarray aty, 2)) (hcl : cells + 1 ≤ R.cells) (hsl : slots + cap ≤ R.slots) (hp : pc + 2 = pc') (k : ∀ T' h' b, b = h.size → Stand p l e R s m args below meth c T' locs (cells + 1) (slots + cap) → T'.heap = h' → Ext h h' → AV Z h' b (newarray.typeOf aty) N (fun _ => defaultValue (newarray.typeOf aty)) → Go p e below s Q rc rs (T'.setTop (mkF m pc' Ls (.ref b :: st)))) : Go p e below s Q rc rs (T.setTop (mkF m pc Ls (.int n :: st))) := by
  subst hp
  obtain ⟨q1, q2⟩ := own_idx hn
  obtain ⟨T', h', kA, X', e', E', A', stp⟩ := newP X hx hZ w eT (g := mkF m pc Ls (.int n :: st)) rfl hd rfl q1 (cap := cap) (by rw [q2]; exact hcap) hb hcl hsl
  have hN : N < 2 ^ 31 := by have := n.toInt_lt; omega
  refine (k _ _ _ rfl X' e' E' ⟨_, A', by rw [sz_new, q2], hN, fun j hj => ?_⟩).by stp
  simp [newA, q2, hj]
theorem g_newarrayI (X : Stand p l e R s m args below meth c T locs cells slots) (hx : p.tables.exec = Jvm.exec) (hZ : Z.Warmed39 s.vm) (w : (Jvm.Cond.arrayClass .int).before a0 Z = true) (eT : T.heap = h) {n : Int32} (N cap : Nat) (hn : n.toInt = N) (hcap : N ≤ cap) (hb : cap * 8 ≤ 536870912) (pc' : Nat) (hd : decode c.code pc = .ok (.newarray .int, 2)) (hcl : cells + 1 ≤ R.cells) (hsl : slots + cap ≤ R.slots) (hp : pc + 2 = pc') (k : ∀ T' h' b, b = h.size → Stand p l e R s m args below meth c T' locs (cells + 1) (slots + cap) → T'.heap = h' → Ext h h' → AI Z h' b N (fun _ => (0 : Int32)) → Go p e below s Q rc rs (T'.setTop (mkF m pc' Ls (.ref b :: st)))) : Go p e below s Q rc rs (T.setTop (mkF m pc Ls (.int n :: st))) :=
  g_newarr X hx hZ (aty := .int) w eT N cap hn hcap hb pc' hd hcl hsl hp fun T' h' b q1 q2 q3 q4 q5 => k T' h' b q1 q2 q3 q4 q5
theorem g_newarrayJ (X : Stand p l e R s m args below meth c T locs cells slots) (hx : p.tables.exec = Jvm.exec) (hZ : Z.Warmed39 s.vm) (w : (Jvm.Cond.arrayClass .long).before a0 Z = true) (eT : T.heap = h) {n : Int32} (N cap : Nat) (hn : n.toInt = N) (hcap : N ≤ cap) (hb : cap * 8 ≤ 536870912) (pc' : Nat) (hd : decode c.code pc = .ok (.newarray .long, 2)) (hcl : cells + 1 ≤ R.cells) (hsl : slots + cap ≤ R.slots) (hp : pc + 2 = pc') (k : ∀ T' h' b, b = h.size → Stand p l e R s m args below meth c T' locs (cells + 1) (slots + cap) → T'.heap = h' → Ext h h' → AJ Z h' b N (fun _ => (0 : Int64)) → Go p e below s Q rc rs (T'.setTop (mkF m pc' Ls (.ref b :: st)))) : Go p e below s Q rc rs (T.setTop (mkF m pc Ls (.int n :: st))) :=
  g_newarr X hx hZ (aty := .long) w eT N cap hn hcap hb pc' hd hcl hsl hp fun T' h' b q1 q2 q3 q4 q5 => k T' h' b q1 q2 q3 q4 q5
theorem g_newarrayB (X : Stand p l e R s m args below meth c T locs cells slots) (hx : p.tables.exec = Jvm.exec) (hZ : Z.Warmed39 s.vm) (w : (Jvm.Cond.arrayClass .byte).before a0 Z = true) (eT : T.heap = h) {n : Int32} (N cap : Nat) (hn : n.toInt = N) (hcap : N ≤ cap) (hb : cap * 8 ≤ 536870912) (pc' : Nat) (hd : decode c.code pc = .ok (.newarray .byte, 2)) (hcl : cells + 1 ≤ R.cells) (hsl : slots + cap ≤ R.slots) (hp : pc + 2 = pc') (k : ∀ T' h' b, b = h.size → Stand p l e R s m args below meth c T' locs (cells + 1) (slots + cap) → T'.heap = h' → Ext h h' → AB Z h' b N (fun _ => (0 : Int32)) → Go p e below s Q rc rs (T'.setTop (mkF m pc' Ls (.ref b :: st)))) : Go p e below s Q rc rs (T.setTop (mkF m pc Ls (.int n :: st))) :=
  g_newarr X hx hZ (aty := .byte) w eT N cap hn hcap hb pc' hd hcl hsl hp fun T' h' b q1 q2 q3 q4 q5 => k T' h' b q1 q2 q3 q4 q5
end OwnKit
/-- what read() gives: k bytes more behind the one at i -/
def own_rd (g : Nat → Int32) : Nat → Nat → Int32 → Int32 → Int32
  | 0, i, acc, sh => acc ||| shlI (g i &&& 127) sh
  | k + 1, i, acc, sh => own_rd g k (i + 1) (acc ||| shlI (g i &&& 127) sh) (sh + 7)
theorem own_ofNat {x : Int32} {n : Nat} (h : x.toInt = n) : x = Int32.ofNat n := by
  apply Int32.toInt_inj.mp
  rw [h, Int32.toInt_ofNat_of_lt (by have := x.toInt_lt; omega)]
theorem own_add {x y : Int32} {i j : Nat} (h : x.toInt = i) (hy : y.toInt = j) (hb : i + j < 2 ^ 31) : (x + y).toInt = ((i + j : Nat) : Int) := by
  rw [Int32.toInt_add, h, hy]
  exact Int.bmod_eq_of_le (by omega) (by omega)
theorem d1_0 : decode method_2_code 0 = .ok (.iload_n 0, 1) := by decide +kernel
theorem d1_1 : decode method_2_code 1 = .ok (.bipush 7, 2) := by decide +kernel
theorem d1_3 : decode method_2_code 3 = .ok (.iushr, 1) := by decide +kernel
theorem d1_4 : decode method_2_code 4 = .ok (.ifCond .ne 12, 3) := by decide +kernel
theorem d1_7 : decode method_2_code 7 = .ok (.aload_n 1, 1) := by decide +kernel
theorem d1_8 : decode method_2_code 8 = .ok (.iload_n 2, 1) := by decide +kernel
theorem d1_9 : decode method_2_code 9 = .ok (.iload_n 0, 1) := by decide +kernel
theorem d1_10 : decode method_2_code 10 = .ok (.i2b, 1) := by decide +kernel
theorem d1_11 : decode method_2_code 11 = .ok (.bastore, 1) := by decide +kernel
theorem d1_12 : decode method_2_code 12 = .ok (.iload_n 2, 1) := by decide +kernel
theorem d1_13 : decode method_2_code 13 = .ok (.iconst 1, 1) := by decide +kernel
theorem d1_14 : decode method_2_code 14 = .ok (.iadd, 1) := by decide +kernel
theorem d1_15 : decode method_2_code 15 = .ok (.ireturn, 1) := by decide +kernel
theorem d1_16 : decode method_2_code 16 = .ok (.aload_n 1, 1) := by decide +kernel
theorem d1_17 : decode method_2_code 17 = .ok (.iload_n 2, 1) := by decide +kernel
theorem d1_18 : decode method_2_code 18 = .ok (.iload_n 0, 1) := by decide +kernel
theorem d1_19 : decode method_2_code 19 = .ok (.bipush 127, 2) := by decide +kernel
theorem d1_21 : decode method_2_code 21 = .ok (.iand, 1) := by decide +kernel
theorem d1_22 : decode method_2_code 22 = .ok (.sipush 128, 3) := by decide +kernel
theorem d1_25 : decode method_2_code 25 = .ok (.ior, 1) := by decide +kernel
theorem d1_26 : decode method_2_code 26 = .ok (.i2b, 1) := by decide +kernel
theorem d1_27 : decode method_2_code 27 = .ok (.bastore, 1) := by decide +kernel
theorem d1_28 : decode method_2_code 28 = .ok (.iload_n 0, 1) := by decide +kernel
theorem d1_29 : decode method_2_code 29 = .ok (.bipush 14, 2) := by decide +kernel
theorem d1_31 : decode method_2_code 31 = .ok (.iushr, 1) := by decide +kernel
theorem d1_32 : decode method_2_code 32 = .ok (.ifCond .ne 17, 3) := by decide +kernel
theorem d1_35 : decode method_2_code 35 = .ok (.aload_n 1, 1) := by decide +kernel
theorem d1_36 : decode method_2_code 36 = .ok (.iload_n 2, 1) := by decide +kernel
theorem d1_37 : decode method_2_code 37 = .ok (.iconst 1, 1) := by decide +kernel
theorem d1_38 : decode method_2_code 38 = .ok (.iadd, 1) := by decide +kernel
theorem d1_39 : decode method_2_code 39 = .ok (.iload_n 0, 1) := by decide +kernel
theorem d1_40 : decode method_2_code 40 = .ok (.bipush 7, 2) := by decide +kernel
theorem d1_42 : decode method_2_code 42 = .ok (.iushr, 1) := by decide +kernel
theorem d1_43 : decode method_2_code 43 = .ok (.i2b, 1) := by decide +kernel
theorem d1_44 : decode method_2_code 44 = .ok (.bastore, 1) := by decide +kernel
theorem d1_45 : decode method_2_code 45 = .ok (.iload_n 2, 1) := by decide +kernel
theorem d1_46 : decode method_2_code 46 = .ok (.iconst 2, 1) := by decide +kernel
theorem d1_47 : decode method_2_code 47 = .ok (.iadd, 1) := by decide +kernel
theorem d1_48 : decode method_2_code 48 = .ok (.ireturn, 1) := by decide +kernel
theorem d1_49 : decode method_2_code 49 = .ok (.aload_n 1, 1) := by decide +kernel
theorem d1_50 : decode method_2_code 50 = .ok (.iload_n 2, 1) := by decide +kernel
theorem d1_51 : decode method_2_code 51 = .ok (.iconst 1, 1) := by decide +kernel
theorem d1_52 : decode method_2_code 52 = .ok (.iadd, 1) := by decide +kernel
theorem d1_53 : decode method_2_code 53 = .ok (.iload_n 0, 1) := by decide +kernel
theorem d1_54 : decode method_2_code 54 = .ok (.bipush 7, 2) := by decide +kernel
theorem d1_56 : decode method_2_code 56 = .ok (.iushr, 1) := by decide +kernel
theorem d1_57 : decode method_2_code 57 = .ok (.bipush 127, 2) := by decide +kernel
theorem d1_59 : decode method_2_code 59 = .ok (.iand, 1) := by decide +kernel
theorem d1_60 : decode method_2_code 60 = .ok (.sipush 128, 3) := by decide +kernel
theorem d1_63 : decode method_2_code 63 = .ok (.ior, 1) := by decide +kernel
theorem d1_64 : decode method_2_code 64 = .ok (.i2b, 1) := by decide +kernel
theorem d1_65 : decode method_2_code 65 = .ok (.bastore, 1) := by decide +kernel
theorem d1_66 : decode method_2_code 66 = .ok (.iload_n 0, 1) := by decide +kernel
theorem d1_67 : decode method_2_code 67 = .ok (.bipush 21, 2) := by decide +kernel
theorem d1_69 : decode method_2_code 69 = .ok (.iushr, 1) := by decide +kernel
theorem d1_70 : decode method_2_code 70 = .ok (.ifCond .ne 17, 3) := by decide +kernel
theorem d1_73 : decode method_2_code 73 = .ok (.aload_n 1, 1) := by decide +kernel
theorem d1_74 : decode method_2_code 74 = .ok (.iload_n 2, 1) := by decide +kernel
theorem d1_75 : decode method_2_code 75 = .ok (.iconst 2, 1) := by decide +kernel
theorem d1_76 : decode method_2_code 76 = .ok (.iadd, 1) := by decide +kernel
theorem d1_77 : decode method_2_code 77 = .ok (.iload_n 0, 1) := by decide +kernel
theorem d1_78 : decode method_2_code 78 = .ok (.bipush 14, 2) := by decide +kernel
theorem d1_80 : decode method_2_code 80 = .ok (.iushr, 1) := by decide +kernel
theorem d1_81 : decode method_2_code 81 = .ok (.i2b, 1) := by decide +kernel
theorem d1_82 : decode method_2_code 82 = .ok (.bastore, 1) := by decide +kernel
theorem d1_83 : decode method_2_code 83 = .ok (.iload_n 2, 1) := by decide +kernel
theorem d1_84 : decode method_2_code 84 = .ok (.iconst 3, 1) := by decide +kernel
theorem d1_85 : decode method_2_code 85 = .ok (.iadd, 1) := by decide +kernel
theorem d1_86 : decode method_2_code 86 = .ok (.ireturn, 1) := by decide +kernel
theorem d1_87 : decode method_2_code 87 = .ok (.aload_n 1, 1) := by decide +kernel
theorem d1_88 : decode method_2_code 88 = .ok (.iload_n 2, 1) := by decide +kernel
theorem d1_89 : decode method_2_code 89 = .ok (.iconst 2, 1) := by decide +kernel
theorem d1_90 : decode method_2_code 90 = .ok (.iadd, 1) := by decide +kernel
theorem d1_91 : decode method_2_code 91 = .ok (.iload_n 0, 1) := by decide +kernel
theorem d1_92 : decode method_2_code 92 = .ok (.bipush 14, 2) := by decide +kernel
theorem d1_94 : decode method_2_code 94 = .ok (.iushr, 1) := by decide +kernel
theorem d1_95 : decode method_2_code 95 = .ok (.bipush 127, 2) := by decide +kernel
theorem d1_97 : decode method_2_code 97 = .ok (.iand, 1) := by decide +kernel
theorem d1_98 : decode method_2_code 98 = .ok (.sipush 128, 3) := by decide +kernel
theorem d1_101 : decode method_2_code 101 = .ok (.ior, 1) := by decide +kernel
theorem d1_102 : decode method_2_code 102 = .ok (.i2b, 1) := by decide +kernel
theorem d1_103 : decode method_2_code 103 = .ok (.bastore, 1) := by decide +kernel
theorem d1_104 : decode method_2_code 104 = .ok (.iload_n 0, 1) := by decide +kernel
theorem d1_105 : decode method_2_code 105 = .ok (.bipush 28, 2) := by decide +kernel
theorem d1_107 : decode method_2_code 107 = .ok (.iushr, 1) := by decide +kernel
theorem d1_108 : decode method_2_code 108 = .ok (.ifCond .ne 17, 3) := by decide +kernel
theorem d1_111 : decode method_2_code 111 = .ok (.aload_n 1, 1) := by decide +kernel
theorem d1_112 : decode method_2_code 112 = .ok (.iload_n 2, 1) := by decide +kernel
theorem d1_113 : decode method_2_code 113 = .ok (.iconst 3, 1) := by decide +kernel
theorem d1_114 : decode method_2_code 114 = .ok (.iadd, 1) := by decide +kernel
theorem d1_115 : decode method_2_code 115 = .ok (.iload_n 0, 1) := by decide +kernel
theorem d1_116 : decode method_2_code 116 = .ok (.bipush 21, 2) := by decide +kernel
theorem d1_118 : decode method_2_code 118 = .ok (.iushr, 1) := by decide +kernel
theorem d1_119 : decode method_2_code 119 = .ok (.i2b, 1) := by decide +kernel
theorem d1_120 : decode method_2_code 120 = .ok (.bastore, 1) := by decide +kernel
theorem d1_121 : decode method_2_code 121 = .ok (.iload_n 2, 1) := by decide +kernel
theorem d1_122 : decode method_2_code 122 = .ok (.iconst 4, 1) := by decide +kernel
theorem d1_123 : decode method_2_code 123 = .ok (.iadd, 1) := by decide +kernel
theorem d1_124 : decode method_2_code 124 = .ok (.ireturn, 1) := by decide +kernel
theorem d1_125 : decode method_2_code 125 = .ok (.aload_n 1, 1) := by decide +kernel
theorem d1_126 : decode method_2_code 126 = .ok (.iload_n 2, 1) := by decide +kernel
theorem d1_127 : decode method_2_code 127 = .ok (.iconst 3, 1) := by decide +kernel
theorem d1_128 : decode method_2_code 128 = .ok (.iadd, 1) := by decide +kernel
theorem d1_129 : decode method_2_code 129 = .ok (.iload_n 0, 1) := by decide +kernel
theorem d1_130 : decode method_2_code 130 = .ok (.bipush 21, 2) := by decide +kernel
theorem d1_132 : decode method_2_code 132 = .ok (.iushr, 1) := by decide +kernel
theorem d1_133 : decode method_2_code 133 = .ok (.bipush 127, 2) := by decide +kernel
theorem d1_135 : decode method_2_code 135 = .ok (.iand, 1) := by decide +kernel
theorem d1_136 : decode method_2_code 136 = .ok (.sipush 128, 3) := by decide +kernel
theorem d1_139 : decode method_2_code 139 = .ok (.ior, 1) := by decide +kernel
theorem d1_140 : decode method_2_code 140 = .ok (.i2b, 1) := by decide +kernel
theorem d1_141 : decode method_2_code 141 = .ok (.bastore, 1) := by decide +kernel
theorem d1_142 : decode method_2_code 142 = .ok (.aload_n 1, 1) := by decide +kernel
theorem d1_143 : decode method_2_code 143 = .ok (.iload_n 2, 1) := by decide +kernel
theorem d1_144 : decode method_2_code 144 = .ok (.iconst 4, 1) := by decide +kernel
theorem d1_145 : decode method_2_code 145 = .ok (.iadd, 1) := by decide +kernel
theorem d1_146 : decode method_2_code 146 = .ok (.iload_n 0, 1) := by decide +kernel
theorem d1_147 : decode method_2_code 147 = .ok (.bipush 28, 2) := by decide +kernel
theorem d1_149 : decode method_2_code 149 = .ok (.iushr, 1) := by decide +kernel
theorem d1_150 : decode method_2_code 150 = .ok (.i2b, 1) := by decide +kernel
theorem d1_151 : decode method_2_code 151 = .ok (.bastore, 1) := by decide +kernel
theorem d1_152 : decode method_2_code 152 = .ok (.iload_n 2, 1) := by decide +kernel
theorem d1_153 : decode method_2_code 153 = .ok (.iconst 5, 1) := by decide +kernel
theorem d1_154 : decode method_2_code 154 = .ok (.iadd, 1) := by decide +kernel
theorem d1_155 : decode method_2_code 155 = .ok (.ireturn, 1) := by decide +kernel
theorem pn_1 : plainName "com/example/terms_in_context/termsincontext/index/VarIntInputReadPinLaw" = true := by first | (simp [plainName, overriddenIn]; done) | decide +kernel
theorem ef_1 (m : MethodId) (x0 : Int32) (x1 : Addr) (x2 : Int32) : entryFrame m #[(.int x0), (.ref x1), (.int x2)] 3 = mkF m 0 #[.val (.int x0), .val (.ref x1), .val (.int x2)] [] := by first | (simp [entryFrame, mkF, argsToLocals, Value.category]; done) | rfl
def f1 (x0 : Int32) (x2 : Int32) : Int32 := if (ushrI x0 (7 : Int32)) = (0 : Int32) then (x2 + (1 : Int32)) else if (ushrI x0 (14 : Int32)) = (0 : Int32) then (x2 + (2 : Int32)) else if (ushrI x0 (21 : Int32)) = (0 : Int32) then (x2 + (3 : Int32)) else if (ushrI x0 (28 : Int32)) = (0 : Int32) then (x2 + (4 : Int32)) else (x2 + (5 : Int32))
def g1_x1 (x0 : Int32) (g : Nat → Int32) (pn : Nat) : Nat → Int32 := if (ushrI x0 (7 : Int32)) = (0 : Int32) then (upd g pn (i2bI (i2bI x0))) else if (ushrI x0 (14 : Int32)) = (0 : Int32) then (upd (upd g pn (i2bI (i2bI ((x0 &&& (127 : Int32)) ||| (128 : Int32))))) (pn + 1) (i2bI (i2bI (ushrI x0 (7 : Int32))))) else if (ushrI x0 (21 : Int32)) = (0 : Int32) then (upd (upd (upd g pn (i2bI (i2bI ((x0 &&& (127 : Int32)) ||| (128 : Int32))))) (pn + 1) (i2bI (i2bI (((ushrI x0 (7 : Int32)) &&& (127 : Int32)) ||| (128 : Int32))))) (pn + 2) (i2bI (i2bI (ushrI x0 (14 : Int32))))) else if (ushrI x0 (28 : Int32)) = (0 : Int32) then (upd (upd (upd (upd g pn (i2bI (i2bI ((x0 &&& (127 : Int32)) ||| (128 : Int32))))) (pn + 1) (i2bI (i2bI (((ushrI x0 (7 : Int32)) &&& (127 : Int32)) ||| (128 : Int32))))) (pn + 2) (i2bI (i2bI (((ushrI x0 (14 : Int32)) &&& (127 : Int32)) ||| (128 : Int32))))) (pn + 3) (i2bI (i2bI (ushrI x0 (21 : Int32))))) else (upd (upd (upd (upd (upd g pn (i2bI (i2bI ((x0 &&& (127 : Int32)) ||| (128 : Int32))))) (pn + 1) (i2bI (i2bI (((ushrI x0 (7 : Int32)) &&& (127 : Int32)) ||| (128 : Int32))))) (pn + 2) (i2bI (i2bI (((ushrI x0 (14 : Int32)) &&& (127 : Int32)) ||| (128 : Int32))))) (pn + 3) (i2bI (i2bI (((ushrI x0 (21 : Int32)) &&& (127 : Int32)) ||| (128 : Int32))))) (pn + 4) (i2bI (i2bI (ushrI x0 (28 : Int32)))))
def Q1 (Z : State) (x0 : Int32) (x1 : Addr) (x2 : Int32) (n : Nat) (g : Nat → Int32) (pn : Nat) (h0 : Heap) (n0 : Nat) (v : Option Value) (h : Heap) (L : List Loc) : Prop := v = some (.int (f1 x0 x2)) ∧ Fr n0 L ∧ Keep h0 h [x1] ∧ AB Z h x1 n (g1_x1 x0 g pn)
set_option maxRecDepth 65536 in
set_option maxHeartbeats 40000000 in
theorem rm1 (l : Launch) (Z : State) (a0 : Array Value) (hw : ∀ d ∈ tables_1, d.before a0 Z = true) (ws : List Jvm.Cond) (x0 : Int32) (x1 : Addr) (x2 : Int32) (n : Nat) (g : Nat → Int32) (pn : Nat) (h0 : Heap) (n0 : Nat) (Z0 : n0 ≤ h0.size) (P0 : AB Z h0 x1 n g) (P1 : n0 ≤ x1) (hp : x2.toInt = pn) (hn : pn + 5 ≤ n) :
    MetFree l (⟨"com/example/terms_in_context/termsincontext/index/VarIntInputReadPinLaw", "enc", "(I[BI)I"⟩ : MethodName) (head1 (Jvm.Cond.code (⟨"com/example/terms_in_context/termsincontext/index/VarIntInputReadPinLaw", "enc", "(I[BI)I"⟩ : MethodName) method_2_code 3 (some .int) :: ws) ({ frames := 0, cells := 0, slots := 0, locals := 0 } : Room)) (fun a U => a = #[(.int x0), (.ref x1), (.int x2)] ∧ Z.Warmed39 U.vm ∧ U.heap = h0) (fun _ _ _ _ _ => True) (fun _ U o U' => ∃ v L, o = .returned v ∧ Q1 Z x0 x1 x2 n g pn h0 n0 v U'.heap L ∧ FrameEnd U o U' L ({ frames := 0, cells := 0, slots := 0, locals := 0 } : Room).cells ({ frames := 0, cells := 0, slots := 0, locals := 0 } : Room).slots) := by
  refine g_body (plainFor_of_name pn_1) ?_
  intro p e s m below meth c T0 X0 hx hby hml hret hlk hown hnm hZ e0
  rw [ef_1]
  have N0 := Fr.nil n0
  show Go p e below s _ _ _ (T0.setTop (mkF m 0 #[.val (.int x0), .val (.ref x1), .val (.int x2)] []))
  refine g_iloadN X0 hx 1 (hb hby d1_0) rfl rfl ?_
  show Go p e below s _ _ _ (T0.setTop (mkF m 1 #[.val (.int x0), .val (.ref x1), .val (.int x2)] [(.int x0)]))
  refine g_bipush X0 hx (7 : Int32) 3 (hb hby d1_1) rfl rfl ?_
  show Go p e below s _ _ _ (T0.setTop (mkF m 3 #[.val (.int x0), .val (.ref x1), .val (.int x2)] [(.int (7 : Int32)), (.int x0)]))
  refine g_iushr X0 hx 4 (hb hby d1_3) rfl ?_
  show Go p e below s _ _ _ (T0.setTop (mkF m 4 #[.val (.int x0), .val (.ref x1), .val (.int x2)] [(.int (ushrI x0 (7 : Int32)))]))
  refine g_if0_ne X0 hx 16 7 (hb hby d1_4) (by decide) rfl rfl (fun h1 => ?_) (fun h1 => ?_)
  · show Go p e below s _ _ _ (T0.setTop (mkF m 7 #[.val (.int x0), .val (.ref x1), .val (.int x2)] []))
    refine g_aloadN X0 hx 8 (hb hby d1_7) rfl rfl rfl ?_
    show Go p e below s _ _ _ (T0.setTop (mkF m 8 #[.val (.int x0), .val (.ref x1), .val (.int x2)] [(.ref x1)]))
    refine g_iloadN X0 hx 9 (hb hby d1_8) rfl rfl ?_
    show Go p e below s _ _ _ (T0.setTop (mkF m 9 #[.val (.int x0), .val (.ref x1), .val (.int x2)] [(.int x2), (.ref x1)]))
    refine g_iloadN X0 hx 10 (hb hby d1_9) rfl rfl ?_
    show Go p e below s _ _ _ (T0.setTop (mkF m 10 #[.val (.int x0), .val (.ref x1), .val (.int x2)] [(.int x0), (.int x2), (.ref x1)]))
    refine g_i2b X0 hx 11 (hb hby d1_10) rfl ?_
    show Go p e below s _ _ _ (T0.setTop (mkF m 11 #[.val (.int x0), .val (.ref x1), .val (.int x2)] [(.int (i2bI x0)), (.int x2), (.ref x1)]))
    refine g_bastore X0 hx hZ e0 P0 pn hp (by omega) 12 (hb hby d1_11) rfl ?_
    intro T2 h2 X2 e2 W2 A2
    have K2 := (Keep.refl h0 [x1]).wr W2 (Or.inl (List.mem_of_getElem? (i := 0) rfl))
    have N2 := Fr.snoc X2 N0 P1
    have Z2 : n0 ≤ h2.size := by rw [W2.size]; exact Z0
    show Go p e below s _ _ _ (T2.setTop (mkF m 12 #[.val (.int x0), .val (.ref x1), .val (.int x2)] []))
    refine g_iloadN X2 hx 13 (hb hby d1_12) rfl rfl ?_
    show Go p e below s _ _ _ (T2.setTop (mkF m 13 #[.val (.int x0), .val (.ref x1), .val (.int x2)] [(.int x2)]))
    refine g_iconst X2 hx (1 : Int32) 14 (hb hby d1_13) rfl rfl ?_
    show Go p e below s _ _ _ (T2.setTop (mkF m 14 #[.val (.int x0), .val (.ref x1), .val (.int x2)] [(.int (1 : Int32)), (.int x2)]))
    refine g_iadd X2 hx 15 (hb hby d1_14) rfl ?_
    show Go p e below s _ _ _ (T2.setTop (mkF m 15 #[.val (.int x0), .val (.ref x1), .val (.int x2)] [(.int (x2 + (1 : Int32)))]))
    exact g_retI X2 hx hret hlk (hb hby d1_15) (by decide) (by decide) (by rw [e2]; exact ⟨congrArg (fun z => some (Value.int z)) (show (x2 + (1 : Int32)) = (f1 x0 x2) from by rw [f1, if_pos h1]), N2, K2, (by rw [g1_x1, if_pos h1]; exact A2)⟩)
  · show Go p e below s _ _ _ (T0.setTop (mkF m 16 #[.val (.int x0), .val (.ref x1), .val (.int x2)] []))
    refine g_aloadN X0 hx 17 (hb hby d1_16) rfl rfl rfl ?_
    show Go p e below s _ _ _ (T0.setTop (mkF m 17 #[.val (.int x0), .val (.ref x1), .val (.int x2)] [(.ref x1)]))
    refine g_iloadN X0 hx 18 (hb hby d1_17) rfl rfl ?_
    show Go p e below s _ _ _ (T0.setTop (mkF m 18 #[.val (.int x0), .val (.ref x1), .val (.int x2)] [(.int x2), (.ref x1)]))
    refine g_iloadN X0 hx 19 (hb hby d1_18) rfl rfl ?_
    show Go p e below s _ _ _ (T0.setTop (mkF m 19 #[.val (.int x0), .val (.ref x1), .val (.int x2)] [(.int x0), (.int x2), (.ref x1)]))
    refine g_bipush X0 hx (127 : Int32) 21 (hb hby d1_19) rfl rfl ?_
    show Go p e below s _ _ _ (T0.setTop (mkF m 21 #[.val (.int x0), .val (.ref x1), .val (.int x2)] [(.int (127 : Int32)), (.int x0), (.int x2), (.ref x1)]))
    refine g_iand X0 hx 22 (hb hby d1_21) rfl ?_
    show Go p e below s _ _ _ (T0.setTop (mkF m 22 #[.val (.int x0), .val (.ref x1), .val (.int x2)] [(.int (x0 &&& (127 : Int32))), (.int x2), (.ref x1)]))
    refine g_sipush X0 hx (128 : Int32) 25 (hb hby d1_22) rfl rfl ?_
    show Go p e below s _ _ _ (T0.setTop (mkF m 25 #[.val (.int x0), .val (.ref x1), .val (.int x2)] [(.int (128 : Int32)), (.int (x0 &&& (127 : Int32))), (.int x2), (.ref x1)]))
    refine g_ior X0 hx 26 (hb hby d1_25) rfl ?_
    show Go p e below s _ _ _ (T0.setTop (mkF m 26 #[.val (.int x0), .val (.ref x1), .val (.int x2)] [(.int ((x0 &&& (127 : Int32)) ||| (128 : Int32))), (.int x2), (.ref x1)]))
    refine g_i2b X0 hx 27 (hb hby d1_26) rfl ?_
    show Go p e below s _ _ _ (T0.setTop (mkF m 27 #[.val (.int x0), .val (.ref x1), .val (.int x2)] [(.int (i2bI ((x0 &&& (127 : Int32)) ||| (128 : Int32)))), (.int x2), (.ref x1)]))
    refine g_bastore X0 hx hZ e0 P0 pn hp (by omega) 28 (hb hby d1_27) rfl ?_
    intro T3 h3 X3 e3 W3 A3
    have K3 := (Keep.refl h0 [x1]).wr W3 (Or.inl (List.mem_of_getElem? (i := 0) rfl))
    have N3 := Fr.snoc X3 N0 P1
    have Z3 : n0 ≤ h3.size := by rw [W3.size]; exact Z0
    show Go p e below s _ _ _ (T3.setTop (mkF m 28 #[.val (.int x0), .val (.ref x1), .val (.int x2)] []))
    refine g_iloadN X3 hx 29 (hb hby d1_28) rfl rfl ?_
    show Go p e below s _ _ _ (T3.setTop (mkF m 29 #[.val (.int x0), .val (.ref x1), .val (.int x2)] [(.int x0)]))
    refine g_bipush X3 hx (14 : Int32) 31 (hb hby d1_29) rfl rfl ?_
    show Go p e below s _ _ _ (T3.setTop (mkF m 31 #[.val (.int x0), .val (.ref x1), .val (.int x2)] [(.int (14 : Int32)), (.int x0)]))
    refine g_iushr X3 hx 32 (hb hby d1_31) rfl ?_
    show Go p e below s _ _ _ (T3.setTop (mkF m 32 #[.val (.int x0), .val (.ref x1), .val (.int x2)] [(.int (ushrI x0 (14 : Int32)))]))
    refine g_if0_ne X3 hx 49 35 (hb hby d1_32) (by decide) rfl rfl (fun h4 => ?_) (fun h4 => ?_)
    · show Go p e below s _ _ _ (T3.setTop (mkF m 35 #[.val (.int x0), .val (.ref x1), .val (.int x2)] []))
      refine g_aloadN X3 hx 36 (hb hby d1_35) rfl rfl rfl ?_
      show Go p e below s _ _ _ (T3.setTop (mkF m 36 #[.val (.int x0), .val (.ref x1), .val (.int x2)] [(.ref x1)]))
      refine g_iloadN X3 hx 37 (hb hby d1_36) rfl rfl ?_
      show Go p e below s _ _ _ (T3.setTop (mkF m 37 #[.val (.int x0), .val (.ref x1), .val (.int x2)] [(.int x2), (.ref x1)]))
      refine g_iconst X3 hx (1 : Int32) 38 (hb hby d1_37) rfl rfl ?_
      show Go p e below s _ _ _ (T3.setTop (mkF m 38 #[.val (.int x0), .val (.ref x1), .val (.int x2)] [(.int (1 : Int32)), (.int x2), (.ref x1)]))
      refine g_iadd X3 hx 39 (hb hby d1_38) rfl ?_
      show Go p e below s _ _ _ (T3.setTop (mkF m 39 #[.val (.int x0), .val (.ref x1), .val (.int x2)] [(.int (x2 + (1 : Int32))), (.ref x1)]))
      refine g_iloadN X3 hx 40 (hb hby d1_39) rfl rfl ?_
      show Go p e below s _ _ _ (T3.setTop (mkF m 40 #[.val (.int x0), .val (.ref x1), .val (.int x2)] [(.int x0), (.int (x2 + (1 : Int32))), (.ref x1)]))
      refine g_bipush X3 hx (7 : Int32) 42 (hb hby d1_40) rfl rfl ?_
      show Go p e below s _ _ _ (T3.setTop (mkF m 42 #[.val (.int x0), .val (.ref x1), .val (.int x2)] [(.int (7 : Int32)), (.int x0), (.int (x2 + (1 : Int32))), (.ref x1)]))
      refine g_iushr X3 hx 43 (hb hby d1_42) rfl ?_
      show Go p e below s _ _ _ (T3.setTop (mkF m 43 #[.val (.int x0), .val (.ref x1), .val (.int x2)] [(.int (ushrI x0 (7 : Int32))), (.int (x2 + (1 : Int32))), (.ref x1)]))
      refine g_i2b X3 hx 44 (hb hby d1_43) rfl ?_
      show Go p e below s _ _ _ (T3.setTop (mkF m 44 #[.val (.int x0), .val (.ref x1), .val (.int x2)] [(.int (i2bI (ushrI x0 (7 : Int32)))), (.int (x2 + (1 : Int32))), (.ref x1)]))
      refine g_bastore X3 hx hZ e3 A3 (pn + 1) (own_add hp (j := 1) rfl (by have := P0.small; omega)) (by omega) 45 (hb hby d1_44) rfl ?_
      intro T5 h5 X5 e5 W5 A5
      have K5 := K3.wr W5 (Or.inl (List.mem_of_getElem? (i := 0) rfl))
      have N5 := Fr.snoc X5 N3 P1
      have Z5 : n0 ≤ h5.size := by rw [W5.size]; exact Z3
      show Go p e below s _ _ _ (T5.setTop (mkF m 45 #[.val (.int x0), .val (.ref x1), .val (.int x2)] []))
      refine g_iloadN X5 hx 46 (hb hby d1_45) rfl rfl ?_
      show Go p e below s _ _ _ (T5.setTop (mkF m 46 #[.val (.int x0), .val (.ref x1), .val (.int x2)] [(.int x2)]))
      refine g_iconst X5 hx (2 : Int32) 47 (hb hby d1_46) rfl rfl ?_
      show Go p e below s _ _ _ (T5.setTop (mkF m 47 #[.val (.int x0), .val (.ref x1), .val (.int x2)] [(.int (2 : Int32)), (.int x2)]))
      refine g_iadd X5 hx 48 (hb hby d1_47) rfl ?_
      show Go p e below s _ _ _ (T5.setTop (mkF m 48 #[.val (.int x0), .val (.ref x1), .val (.int x2)] [(.int (x2 + (2 : Int32)))]))
      exact g_retI X5 hx hret hlk (hb hby d1_48) (by decide) (by decide) (by rw [e5]; exact ⟨congrArg (fun z => some (Value.int z)) (show (x2 + (2 : Int32)) = (f1 x0 x2) from by rw [f1, if_neg h1, if_pos h4]), N5, K5, (by rw [g1_x1, if_neg h1, if_pos h4]; exact A5)⟩)
    · show Go p e below s _ _ _ (T3.setTop (mkF m 49 #[.val (.int x0), .val (.ref x1), .val (.int x2)] []))
      refine g_aloadN X3 hx 50 (hb hby d1_49) rfl rfl rfl ?_
      show Go p e below s _ _ _ (T3.setTop (mkF m 50 #[.val (.int x0), .val (.ref x1), .val (.int x2)] [(.ref x1)]))
      refine g_iloadN X3 hx 51 (hb hby d1_50) rfl rfl ?_
      show Go p e below s _ _ _ (T3.setTop (mkF m 51 #[.val (.int x0), .val (.ref x1), .val (.int x2)] [(.int x2), (.ref x1)]))
      refine g_iconst X3 hx (1 : Int32) 52 (hb hby d1_51) rfl rfl ?_
      show Go p e below s _ _ _ (T3.setTop (mkF m 52 #[.val (.int x0), .val (.ref x1), .val (.int x2)] [(.int (1 : Int32)), (.int x2), (.ref x1)]))
      refine g_iadd X3 hx 53 (hb hby d1_52) rfl ?_
      show Go p e below s _ _ _ (T3.setTop (mkF m 53 #[.val (.int x0), .val (.ref x1), .val (.int x2)] [(.int (x2 + (1 : Int32))), (.ref x1)]))
      refine g_iloadN X3 hx 54 (hb hby d1_53) rfl rfl ?_
      show Go p e below s _ _ _ (T3.setTop (mkF m 54 #[.val (.int x0), .val (.ref x1), .val (.int x2)] [(.int x0), (.int (x2 + (1 : Int32))), (.ref x1)]))
      refine g_bipush X3 hx (7 : Int32) 56 (hb hby d1_54) rfl rfl ?_
      show Go p e below s _ _ _ (T3.setTop (mkF m 56 #[.val (.int x0), .val (.ref x1), .val (.int x2)] [(.int (7 : Int32)), (.int x0), (.int (x2 + (1 : Int32))), (.ref x1)]))
      refine g_iushr X3 hx 57 (hb hby d1_56) rfl ?_
      show Go p e below s _ _ _ (T3.setTop (mkF m 57 #[.val (.int x0), .val (.ref x1), .val (.int x2)] [(.int (ushrI x0 (7 : Int32))), (.int (x2 + (1 : Int32))), (.ref x1)]))
      refine g_bipush X3 hx (127 : Int32) 59 (hb hby d1_57) rfl rfl ?_
      show Go p e below s _ _ _ (T3.setTop (mkF m 59 #[.val (.int x0), .val (.ref x1), .val (.int x2)] [(.int (127 : Int32)), (.int (ushrI x0 (7 : Int32))), (.int (x2 + (1 : Int32))), (.ref x1)]))
      refine g_iand X3 hx 60 (hb hby d1_59) rfl ?_
      show Go p e below s _ _ _ (T3.setTop (mkF m 60 #[.val (.int x0), .val (.ref x1), .val (.int x2)] [(.int ((ushrI x0 (7 : Int32)) &&& (127 : Int32))), (.int (x2 + (1 : Int32))), (.ref x1)]))
      refine g_sipush X3 hx (128 : Int32) 63 (hb hby d1_60) rfl rfl ?_
      show Go p e below s _ _ _ (T3.setTop (mkF m 63 #[.val (.int x0), .val (.ref x1), .val (.int x2)] [(.int (128 : Int32)), (.int ((ushrI x0 (7 : Int32)) &&& (127 : Int32))), (.int (x2 + (1 : Int32))), (.ref x1)]))
      refine g_ior X3 hx 64 (hb hby d1_63) rfl ?_
      show Go p e below s _ _ _ (T3.setTop (mkF m 64 #[.val (.int x0), .val (.ref x1), .val (.int x2)] [(.int (((ushrI x0 (7 : Int32)) &&& (127 : Int32)) ||| (128 : Int32))), (.int (x2 + (1 : Int32))), (.ref x1)]))
      refine g_i2b X3 hx 65 (hb hby d1_64) rfl ?_
      show Go p e below s _ _ _ (T3.setTop (mkF m 65 #[.val (.int x0), .val (.ref x1), .val (.int x2)] [(.int (i2bI (((ushrI x0 (7 : Int32)) &&& (127 : Int32)) ||| (128 : Int32)))), (.int (x2 + (1 : Int32))), (.ref x1)]))
      refine g_bastore X3 hx hZ e3 A3 (pn + 1) (own_add hp (j := 1) rfl (by have := P0.small; omega)) (by omega) 66 (hb hby d1_65) rfl ?_
      intro T6 h6 X6 e6 W6 A6
      have K6 := K3.wr W6 (Or.inl (List.mem_of_getElem? (i := 0) rfl))
      have N6 := Fr.snoc X6 N3 P1
      have Z6 : n0 ≤ h6.size := by rw [W6.size]; exact Z3
      show Go p e below s _ _ _ (T6.setTop (mkF m 66 #[.val (.int x0), .val (.ref x1), .val (.int x2)] []))
      refine g_iloadN X6 hx 67 (hb hby d1_66) rfl rfl ?_
      show Go p e below s _ _ _ (T6.setTop (mkF m 67 #[.val (.int x0), .val (.ref x1), .val (.int x2)] [(.int x0)]))
      refine g_bipush X6 hx (21 : Int32) 69 (hb hby d1_67) rfl rfl ?_
      show Go p e below s _ _ _ (T6.setTop (mkF m 69 #[.val (.int x0), .val (.ref x1), .val (.int x2)] [(.int (21 : Int32)), (.int x0)]))
      refine g_iushr X6 hx 70 (hb hby d1_69) rfl ?_
      show Go p e below s _ _ _ (T6.setTop (mkF m 70 #[.val (.int x0), .val (.ref x1), .val (.int x2)] [(.int (ushrI x0 (21 : Int32)))]))
      refine g_if0_ne X6 hx 87 73 (hb hby d1_70) (by decide) rfl rfl (fun h7 => ?_) (fun h7 => ?_)
      · show Go p e below s _ _ _ (T6.setTop (mkF m 73 #[.val (.int x0), .val (.ref x1), .val (.int x2)] []))
        refine g_aloadN X6 hx 74 (hb hby d1_73) rfl rfl rfl ?_
        show Go p e below s _ _ _ (T6.setTop (mkF m 74 #[.val (.int x0), .val (.ref x1), .val (.int x2)] [(.ref x1)]))
        refine g_iloadN X6 hx 75 (hb hby d1_74) rfl rfl ?_
        show Go p e below s _ _ _ (T6.setTop (mkF m 75 #[.val (.int x0), .val (.ref x1), .val (.int x2)] [(.int x2), (.ref x1)]))
        refine g_iconst X6 hx (2 : Int32) 76 (hb hby d1_75) rfl rfl ?_
        show Go p e below s _ _ _ (T6.setTop (mkF m 76 #[.val (.int x0), .val (.ref x1), .val (.int x2)] [(.int (2 : Int32)), (.int x2), (.ref x1)]))
        refine g_iadd X6 hx 77 (hb hby d1_76) rfl ?_
        show Go p e below s _ _ _ (T6.setTop (mkF m 77 #[.val (.int x0), .val (.ref x1), .val (.int x2)] [(.int (x2 + (2 : Int32))), (.ref x1)]))
        refine g_iloadN X6 hx 78 (hb hby d1_77) rfl rfl ?_
        show Go p e below s _ _ _ (T6.setTop (mkF m 78 #[.val (.int x0), .val (.ref x1), .val (.int x2)] [(.int x0), (.int (x2 + (2 : Int32))), (.ref x1)]))
        refine g_bipush X6 hx (14 : Int32) 80 (hb hby d1_78) rfl rfl ?_
        show Go p e below s _ _ _ (T6.setTop (mkF m 80 #[.val (.int x0), .val (.ref x1), .val (.int x2)] [(.int (14 : Int32)), (.int x0), (.int (x2 + (2 : Int32))), (.ref x1)]))
        refine g_iushr X6 hx 81 (hb hby d1_80) rfl ?_
        show Go p e below s _ _ _ (T6.setTop (mkF m 81 #[.val (.int x0), .val (.ref x1), .val (.int x2)] [(.int (ushrI x0 (14 : Int32))), (.int (x2 + (2 : Int32))), (.ref x1)]))
        refine g_i2b X6 hx 82 (hb hby d1_81) rfl ?_
        show Go p e below s _ _ _ (T6.setTop (mkF m 82 #[.val (.int x0), .val (.ref x1), .val (.int x2)] [(.int (i2bI (ushrI x0 (14 : Int32)))), (.int (x2 + (2 : Int32))), (.ref x1)]))
        refine g_bastore X6 hx hZ e6 A6 (pn + 2) (own_add hp (j := 2) rfl (by have := P0.small; omega)) (by omega) 83 (hb hby d1_82) rfl ?_
        intro T8 h8 X8 e8 W8 A8
        have K8 := K6.wr W8 (Or.inl (List.mem_of_getElem? (i := 0) rfl))
        have N8 := Fr.snoc X8 N6 P1
        have Z8 : n0 ≤ h8.size := by rw [W8.size]; exact Z6
        show Go p e below s _ _ _ (T8.setTop (mkF m 83 #[.val (.int x0), .val (.ref x1), .val (.int x2)] []))
        refine g_iloadN X8 hx 84 (hb hby d1_83) rfl rfl ?_
        show Go p e below s _ _ _ (T8.setTop (mkF m 84 #[.val (.int x0), .val (.ref x1), .val (.int x2)] [(.int x2)]))
        refine g_iconst X8 hx (3 : Int32) 85 (hb hby d1_84) rfl rfl ?_
        show Go p e below s _ _ _ (T8.setTop (mkF m 85 #[.val (.int x0), .val (.ref x1), .val (.int x2)] [(.int (3 : Int32)), (.int x2)]))
        refine g_iadd X8 hx 86 (hb hby d1_85) rfl ?_
        show Go p e below s _ _ _ (T8.setTop (mkF m 86 #[.val (.int x0), .val (.ref x1), .val (.int x2)] [(.int (x2 + (3 : Int32)))]))
        exact g_retI X8 hx hret hlk (hb hby d1_86) (by decide) (by decide) (by rw [e8]; exact ⟨congrArg (fun z => some (Value.int z)) (show (x2 + (3 : Int32)) = (f1 x0 x2) from by rw [f1, if_neg h1, if_neg h4, if_pos h7]), N8, K8, (by rw [g1_x1, if_neg h1, if_neg h4, if_pos h7]; exact A8)⟩)
      · show Go p e below s _ _ _ (T6.setTop (mkF m 87 #[.val (.int x0), .val (.ref x1), .val (.int x2)] []))
        refine g_aloadN X6 hx 88 (hb hby d1_87) rfl rfl rfl ?_
        show Go p e below s _ _ _ (T6.setTop (mkF m 88 #[.val (.int x0), .val (.ref x1), .val (.int x2)] [(.ref x1)]))
        refine g_iloadN X6 hx 89 (hb hby d1_88) rfl rfl ?_
        show Go p e below s _ _ _ (T6.setTop (mkF m 89 #[.val (.int x0), .val (.ref x1), .val (.int x2)] [(.int x2), (.ref x1)]))
        refine g_iconst X6 hx (2 : Int32) 90 (hb hby d1_89) rfl rfl ?_
        show Go p e below s _ _ _ (T6.setTop (mkF m 90 #[.val (.int x0), .val (.ref x1), .val (.int x2)] [(.int (2 : Int32)), (.int x2), (.ref x1)]))
        refine g_iadd X6 hx 91 (hb hby d1_90) rfl ?_
        show Go p e below s _ _ _ (T6.setTop (mkF m 91 #[.val (.int x0), .val (.ref x1), .val (.int x2)] [(.int (x2 + (2 : Int32))), (.ref x1)]))
        refine g_iloadN X6 hx 92 (hb hby d1_91) rfl rfl ?_
        show Go p e below s _ _ _ (T6.setTop (mkF m 92 #[.val (.int x0), .val (.ref x1), .val (.int x2)] [(.int x0), (.int (x2 + (2 : Int32))), (.ref x1)]))
        refine g_bipush X6 hx (14 : Int32) 94 (hb hby d1_92) rfl rfl ?_
        show Go p e below s _ _ _ (T6.setTop (mkF m 94 #[.val (.int x0), .val (.ref x1), .val (.int x2)] [(.int (14 : Int32)), (.int x0), (.int (x2 + (2 : Int32))), (.ref x1)]))
        refine g_iushr X6 hx 95 (hb hby d1_94) rfl ?_
        show Go p e below s _ _ _ (T6.setTop (mkF m 95 #[.val (.int x0), .val (.ref x1), .val (.int x2)] [(.int (ushrI x0 (14 : Int32))), (.int (x2 + (2 : Int32))), (.ref x1)]))
        refine g_bipush X6 hx (127 : Int32) 97 (hb hby d1_95) rfl rfl ?_
        show Go p e below s _ _ _ (T6.setTop (mkF m 97 #[.val (.int x0), .val (.ref x1), .val (.int x2)] [(.int (127 : Int32)), (.int (ushrI x0 (14 : Int32))), (.int (x2 + (2 : Int32))), (.ref x1)]))
        refine g_iand X6 hx 98 (hb hby d1_97) rfl ?_
        show Go p e below s _ _ _ (T6.setTop (mkF m 98 #[.val (.int x0), .val (.ref x1), .val (.int x2)] [(.int ((ushrI x0 (14 : Int32)) &&& (127 : Int32))), (.int (x2 + (2 : Int32))), (.ref x1)]))
        refine g_sipush X6 hx (128 : Int32) 101 (hb hby d1_98) rfl rfl ?_
        show Go p e below s _ _ _ (T6.setTop (mkF m 101 #[.val (.int x0), .val (.ref x1), .val (.int x2)] [(.int (128 : Int32)), (.int ((ushrI x0 (14 : Int32)) &&& (127 : Int32))), (.int (x2 + (2 : Int32))), (.ref x1)]))
        refine g_ior X6 hx 102 (hb hby d1_101) rfl ?_
        show Go p e below s _ _ _ (T6.setTop (mkF m 102 #[.val (.int x0), .val (.ref x1), .val (.int x2)] [(.int (((ushrI x0 (14 : Int32)) &&& (127 : Int32)) ||| (128 : Int32))), (.int (x2 + (2 : Int32))), (.ref x1)]))
        refine g_i2b X6 hx 103 (hb hby d1_102) rfl ?_
        show Go p e below s _ _ _ (T6.setTop (mkF m 103 #[.val (.int x0), .val (.ref x1), .val (.int x2)] [(.int (i2bI (((ushrI x0 (14 : Int32)) &&& (127 : Int32)) ||| (128 : Int32)))), (.int (x2 + (2 : Int32))), (.ref x1)]))
        refine g_bastore X6 hx hZ e6 A6 (pn + 2) (own_add hp (j := 2) rfl (by have := P0.small; omega)) (by omega) 104 (hb hby d1_103) rfl ?_
        intro T9 h9 X9 e9 W9 A9
        have K9 := K6.wr W9 (Or.inl (List.mem_of_getElem? (i := 0) rfl))
        have N9 := Fr.snoc X9 N6 P1
        have Z9 : n0 ≤ h9.size := by rw [W9.size]; exact Z6
        show Go p e below s _ _ _ (T9.setTop (mkF m 104 #[.val (.int x0), .val (.ref x1), .val (.int x2)] []))
        refine g_iloadN X9 hx 105 (hb hby d1_104) rfl rfl ?_
        show Go p e below s _ _ _ (T9.setTop (mkF m 105 #[.val (.int x0), .val (.ref x1), .val (.int x2)] [(.int x0)]))
        refine g_bipush X9 hx (28 : Int32) 107 (hb hby d1_105) rfl rfl ?_
        show Go p e below s _ _ _ (T9.setTop (mkF m 107 #[.val (.int x0), .val (.ref x1), .val (.int x2)] [(.int (28 : Int32)), (.int x0)]))
        refine g_iushr X9 hx 108 (hb hby d1_107) rfl ?_
        show Go p e below s _ _ _ (T9.setTop (mkF m 108 #[.val (.int x0), .val (.ref x1), .val (.int x2)] [(.int (ushrI x0 (28 : Int32)))]))
        refine g_if0_ne X9 hx 125 111 (hb hby d1_108) (by decide) rfl rfl (fun h10 => ?_) (fun h10 => ?_)
        · show Go p e below s _ _ _ (T9.setTop (mkF m 111 #[.val (.int x0), .val (.ref x1), .val (.int x2)] []))
          refine g_aloadN X9 hx 112 (hb hby d1_111) rfl rfl rfl ?_
          show Go p e below s _ _ _ (T9.setTop (mkF m 112 #[.val (.int x0), .val (.ref x1), .val (.int x2)] [(.ref x1)]))
          refine g_iloadN X9 hx 113 (hb hby d1_112) rfl rfl ?_
          show Go p e below s _ _ _ (T9.setTop (mkF m 113 #[.val (.int x0), .val (.ref x1), .val (.int x2)] [(.int x2), (.ref x1)]))
          refine g_iconst X9 hx (3 : Int32) 114 (hb hby d1_113) rfl rfl ?_
          show Go p e below s _ _ _ (T9.setTop (mkF m 114 #[.val (.int x0), .val (.ref x1), .val (.int x2)] [(.int (3 : Int32)), (.int x2), (.ref x1)]))
          refine g_iadd X9 hx 115 (hb hby d1_114) rfl ?_
          show Go p e below s _ _ _ (T9.setTop (mkF m 115 #[.val (.int x0), .val (.ref x1), .val (.int x2)] [(.int (x2 + (3 : Int32))), (.ref x1)]))
          refine g_iloadN X9 hx 116 (hb hby d1_115) rfl rfl ?_
          show Go p e below s _ _ _ (T9.setTop (mkF m 116 #[.val (.int x0), .val (.ref x1), .val (.int x2)] [(.int x0), (.int (x2 + (3 : Int32))), (.ref x1)]))
          refine g_bipush X9 hx (21 : Int32) 118 (hb hby d1_116) rfl rfl ?_
          show Go p e below s _ _ _ (T9.setTop (mkF m 118 #[.val (.int x0), .val (.ref x1), .val (.int x2)] [(.int (21 : Int32)), (.int x0), (.int (x2 + (3 : Int32))), (.ref x1)]))
          refine g_iushr X9 hx 119 (hb hby d1_118) rfl ?_
          show Go p e below s _ _ _ (T9.setTop (mkF m 119 #[.val (.int x0), .val (.ref x1), .val (.int x2)] [(.int (ushrI x0 (21 : Int32))), (.int (x2 + (3 : Int32))), (.ref x1)]))
          refine g_i2b X9 hx 120 (hb hby d1_119) rfl ?_
          show Go p e below s _ _ _ (T9.setTop (mkF m 120 #[.val (.int x0), .val (.ref x1), .val (.int x2)] [(.int (i2bI (ushrI x0 (21 : Int32)))), (.int (x2 + (3 : Int32))), (.ref x1)]))
          refine g_bastore X9 hx hZ e9 A9 (pn + 3) (own_add hp (j := 3) rfl (by have := P0.small; omega)) (by omega) 121 (hb hby d1_120) rfl ?_
          intro T11 h11 X11 e11 W11 A11
          have K11 := K9.wr W11 (Or.inl (List.mem_of_getElem? (i := 0) rfl))
          have N11 := Fr.snoc X11 N9 P1
          have Z11 : n0 ≤ h11.size := by rw [W11.size]; exact Z9
          show Go p e below s _ _ _ (T11.setTop (mkF m 121 #[.val (.int x0), .val (.ref x1), .val (.int x2)] []))
          refine g_iloadN X11 hx 122 (hb hby d1_121) rfl rfl ?_
          show Go p e below s _ _ _ (T11.setTop (mkF m 122 #[.val (.int x0), .val (.ref x1), .val (.int x2)] [(.int x2)]))
          refine g_iconst X11 hx (4 : Int32) 123 (hb hby d1_122) rfl rfl ?_
          show Go p e below s _ _ _ (T11.setTop (mkF m 123 #[.val (.int x0), .val (.ref x1), .val (.int x2)] [(.int (4 : Int32)), (.int x2)]))
          refine g_iadd X11 hx 124 (hb hby d1_123) rfl ?_
          show Go p e below s _ _ _ (T11.setTop (mkF m 124 #[.val (.int x0), .val (.ref x1), .val (.int x2)] [(.int (x2 + (4 : Int32)))]))
          exact g_retI X11 hx hret hlk (hb hby d1_124) (by decide) (by decide) (by rw [e11]; exact ⟨congrArg (fun z => some (Value.int z)) (show (x2 + (4 : Int32)) = (f1 x0 x2) from by rw [f1, if_neg h1, if_neg h4, if_neg h7, if_pos h10]), N11, K11, (by rw [g1_x1, if_neg h1, if_neg h4, if_neg h7, if_pos h10]; exact A11)⟩)
        · show Go p e below s _ _ _ (T9.setTop (mkF m 125 #[.val (.int x0), .val (.ref x1), .val (.int x2)] []))
          refine g_aloadN X9 hx 126 (hb hby d1_125) rfl rfl rfl ?_
          show Go p e below s _ _ _ (T9.setTop (mkF m 126 #[.val (.int x0), .val (.ref x1), .val (.int x2)] [(.ref x1)]))
          refine g_iloadN X9 hx 127 (hb hby d1_126) rfl rfl ?_
          show Go p e below s _ _ _ (T9.setTop (mkF m 127 #[.val (.int x0), .val (.ref x1), .val (.int x2)] [(.int x2), (.ref x1)]))
          refine g_iconst X9 hx (3 : Int32) 128 (hb hby d1_127) rfl rfl ?_
          show Go p e below s _ _ _ (T9.setTop (mkF m 128 #[.val (.int x0), .val (.ref x1), .val (.int x2)] [(.int (3 : Int32)), (.int x2), (.ref x1)]))
          refine g_iadd X9 hx 129 (hb hby d1_128) rfl ?_
          show Go p e below s _ _ _ (T9.setTop (mkF m 129 #[.val (.int x0), .val (.ref x1), .val (.int x2)] [(.int (x2 + (3 : Int32))), (.ref x1)]))
          refine g_iloadN X9 hx 130 (hb hby d1_129) rfl rfl ?_
          show Go p e below s _ _ _ (T9.setTop (mkF m 130 #[.val (.int x0), .val (.ref x1), .val (.int x2)] [(.int x0), (.int (x2 + (3 : Int32))), (.ref x1)]))
          refine g_bipush X9 hx (21 : Int32) 132 (hb hby d1_130) rfl rfl ?_
          show Go p e below s _ _ _ (T9.setTop (mkF m 132 #[.val (.int x0), .val (.ref x1), .val (.int x2)] [(.int (21 : Int32)), (.int x0), (.int (x2 + (3 : Int32))), (.ref x1)]))
          refine g_iushr X9 hx 133 (hb hby d1_132) rfl ?_
          show Go p e below s _ _ _ (T9.setTop (mkF m 133 #[.val (.int x0), .val (.ref x1), .val (.int x2)] [(.int (ushrI x0 (21 : Int32))), (.int (x2 + (3 : Int32))), (.ref x1)]))
          refine g_bipush X9 hx (127 : Int32) 135 (hb hby d1_133) rfl rfl ?_
          show Go p e below s _ _ _ (T9.setTop (mkF m 135 #[.val (.int x0), .val (.ref x1), .val (.int x2)] [(.int (127 : Int32)), (.int (ushrI x0 (21 : Int32))), (.int (x2 + (3 : Int32))), (.ref x1)]))
          refine g_iand X9 hx 136 (hb hby d1_135) rfl ?_
          show Go p e below s _ _ _ (T9.setTop (mkF m 136 #[.val (.int x0), .val (.ref x1), .val (.int x2)] [(.int ((ushrI x0 (21 : Int32)) &&& (127 : Int32))), (.int (x2 + (3 : Int32))), (.ref x1)]))
          refine g_sipush X9 hx (128 : Int32) 139 (hb hby d1_136) rfl rfl ?_
          show Go p e below s _ _ _ (T9.setTop (mkF m 139 #[.val (.int x0), .val (.ref x1), .val (.int x2)] [(.int (128 : Int32)), (.int ((ushrI x0 (21 : Int32)) &&& (127 : Int32))), (.int (x2 + (3 : Int32))), (.ref x1)]))
          refine g_ior X9 hx 140 (hb hby d1_139) rfl ?_
          show Go p e below s _ _ _ (T9.setTop (mkF m 140 #[.val (.int x0), .val (.ref x1), .val (.int x2)] [(.int (((ushrI x0 (21 : Int32)) &&& (127 : Int32)) ||| (128 : Int32))), (.int (x2 + (3 : Int32))), (.ref x1)]))
          refine g_i2b X9 hx 141 (hb hby d1_140) rfl ?_
          show Go p e below s _ _ _ (T9.setTop (mkF m 141 #[.val (.int x0), .val (.ref x1), .val (.int x2)] [(.int (i2bI (((ushrI x0 (21 : Int32)) &&& (127 : Int32)) ||| (128 : Int32)))), (.int (x2 + (3 : Int32))), (.ref x1)]))
          refine g_bastore X9 hx hZ e9 A9 (pn + 3) (own_add hp (j := 3) rfl (by have := P0.small; omega)) (by omega) 142 (hb hby d1_141) rfl ?_
          intro T12 h12 X12 e12 W12 A12
          have K12 := K9.wr W12 (Or.inl (List.mem_of_getElem? (i := 0) rfl))
          have N12 := Fr.snoc X12 N9 P1
          have Z12 : n0 ≤ h12.size := by rw [W12.size]; exact Z9
          show Go p e below s _ _ _ (T12.setTop (mkF m 142 #[.val (.int x0), .val (.ref x1), .val (.int x2)] []))
          refine g_aloadN X12 hx 143 (hb hby d1_142) rfl rfl rfl ?_
          show Go p e below s _ _ _ (T12.setTop (mkF m 143 #[.val (.int x0), .val (.ref x1), .val (.int x2)] [(.ref x1)]))
          refine g_iloadN X12 hx 144 (hb hby d1_143) rfl rfl ?_
          show Go p e below s _ _ _ (T12.setTop (mkF m 144 #[.val (.int x0), .val (.ref x1), .val (.int x2)] [(.int x2), (.ref x1)]))
          refine g_iconst X12 hx (4 : Int32) 145 (hb hby d1_144) rfl rfl ?_
          show Go p e below s _ _ _ (T12.setTop (mkF m 145 #[.val (.int x0), .val (.ref x1), .val (.int x2)] [(.int (4 : Int32)), (.int x2), (.ref x1)]))
          refine g_iadd X12 hx 146 (hb hby d1_145) rfl ?_
          show Go p e below s _ _ _ (T12.setTop (mkF m 146 #[.val (.int x0), .val (.ref x1), .val (.int x2)] [(.int (x2 + (4 : Int32))), (.ref x1)]))
          refine g_iloadN X12 hx 147 (hb hby d1_146) rfl rfl ?_
          show Go p e below s _ _ _ (T12.setTop (mkF m 147 #[.val (.int x0), .val (.ref x1), .val (.int x2)] [(.int x0), (.int (x2 + (4 : Int32))), (.ref x1)]))
          refine g_bipush X12 hx (28 : Int32) 149 (hb hby d1_147) rfl rfl ?_
          show Go p e below s _ _ _ (T12.setTop (mkF m 149 #[.val (.int x0), .val (.ref x1), .val (.int x2)] [(.int (28 : Int32)), (.int x0), (.int (x2 + (4 : Int32))), (.ref x1)]))
          refine g_iushr X12 hx 150 (hb hby d1_149) rfl ?_
          show Go p e below s _ _ _ (T12.setTop (mkF m 150 #[.val (.int x0), .val (.ref x1), .val (.int x2)] [(.int (ushrI x0 (28 : Int32))), (.int (x2 + (4 : Int32))), (.ref x1)]))
          refine g_i2b X12 hx 151 (hb hby d1_150) rfl ?_
          show Go p e below s _ _ _ (T12.setTop (mkF m 151 #[.val (.int x0), .val (.ref x1), .val (.int x2)] [(.int (i2bI (ushrI x0 (28 : Int32)))), (.int (x2 + (4 : Int32))), (.ref x1)]))
          refine g_bastore X12 hx hZ e12 A12 (pn + 4) (own_add hp (j := 4) rfl (by have := P0.small; omega)) (by omega) 152 (hb hby d1_151) rfl ?_
          intro T13 h13 X13 e13 W13 A13
          have K13 := K12.wr W13 (Or.inl (List.mem_of_getElem? (i := 0) rfl))
          have N13 := Fr.snoc X13 N12 P1
          have Z13 : n0 ≤ h13.size := by rw [W13.size]; exact Z12
          show Go p e below s _ _ _ (T13.setTop (mkF m 152 #[.val (.int x0), .val (.ref x1), .val (.int x2)] []))
          refine g_iloadN X13 hx 153 (hb hby d1_152) rfl rfl ?_
          show Go p e below s _ _ _ (T13.setTop (mkF m 153 #[.val (.int x0), .val (.ref x1), .val (.int x2)] [(.int x2)]))
          refine g_iconst X13 hx (5 : Int32) 154 (hb hby d1_153) rfl rfl ?_
          show Go p e below s _ _ _ (T13.setTop (mkF m 154 #[.val (.int x0), .val (.ref x1), .val (.int x2)] [(.int (5 : Int32)), (.int x2)]))
          refine g_iadd X13 hx 155 (hb hby d1_154) rfl ?_
          show Go p e below s _ _ _ (T13.setTop (mkF m 155 #[.val (.int x0), .val (.ref x1), .val (.int x2)] [(.int (x2 + (5 : Int32)))]))
          exact g_retI X13 hx hret hlk (hb hby d1_155) (by decide) (by decide) (by rw [e13]; exact ⟨congrArg (fun z => some (Value.int z)) (show (x2 + (5 : Int32)) = (f1 x0 x2) from by rw [f1, if_neg h1, if_neg h4, if_neg h7, if_neg h10]), N13, K13, (by rw [g1_x1, if_neg h1, if_neg h4, if_neg h7, if_neg h10]; exact A13)⟩)
theorem d2_0 : decode prog_29_method_1_code 0 = .ok (.aload_n 0, 1) := by decide +kernel
theorem d2_1 : decode prog_29_method_1_code 1 = .ok (.invokespecial 1, 3) := by decide +kernel
theorem d2_4 : decode prog_29_method_1_code 4 = .ok (.aload_n 0, 1) := by decide +kernel
theorem d2_5 : decode prog_29_method_1_code 5 = .ok (.aload_n 1, 1) := by decide +kernel
theorem d2_6 : decode prog_29_method_1_code 6 = .ok (.putfield 7, 3) := by decide +kernel
theorem d2_9 : decode prog_29_method_1_code 9 = .ok (.aload_n 0, 1) := by decide +kernel
theorem d2_10 : decode prog_29_method_1_code 10 = .ok (.iload_n 2, 1) := by decide +kernel
theorem d2_11 : decode prog_29_method_1_code 11 = .ok (.putfield 13, 3) := by decide +kernel
theorem d2_14 : decode prog_29_method_1_code 14 = .ok (.return_, 1) := by decide +kernel
theorem pn_2 : plainName "com/example/terms_in_context/termsincontext/index/VarIntInput" = true := by first | (simp [plainName, overriddenIn]; done) | decide +kernel
theorem ef_2 (m : MethodId) (x0 : Addr) (x1 : Addr) (x2 : Int32) : entryFrame m #[(.ref x0), (.ref x1), (.int x2)] 3 = mkF m 0 #[.val (.ref x0), .val (.ref x1), .val (.int x2)] [] := by first | (simp [entryFrame, mkF, argsToLocals, Value.category]; done) | rfl
def Q2 (Z : State) (x0 : Addr) (x1 : Addr) (x2 : Int32) (h0 : Heap) (n0 : Nat) (v : Option Value) (h : Heap) (L : List Loc) : Prop := v = none ∧ Fr n0 L ∧ Keep h0 h [x0] ∧ Fld Z h x0 "com/example/terms_in_context/termsincontext/index/VarIntInput" "bytes" "[B" (.ref x1) ∧ Fld Z h x0 "com/example/terms_in_context/termsincontext/index/VarIntInput" "length" "I" (.int x2) ∧ Fld Z h x0 "com/example/terms_in_context/termsincontext/index/VarIntInput" "offset" "I" (.int (0 : Int32))
set_option maxRecDepth 65536 in
set_option maxHeartbeats 40000000 in
theorem rm2 (l : Launch) (Z : State) (a0 : Array Value) (hw : ∀ d ∈ tables_1, d.before a0 Z = true) (ws : List Jvm.Cond) (x0 : Addr) (x1 : Addr) (x2 : Int32) (h0 : Heap) (n0 : Nat) (Z0 : n0 ≤ h0.size) (P0 : Exa Z h0 x0 "com/example/terms_in_context/termsincontext/index/VarIntInput") (P1 : Fld Z h0 x0 "com/example/terms_in_context/termsincontext/index/VarIntInput" "bytes" "[B" .null) (P2 : Fld Z h0 x0 "com/example/terms_in_context/termsincontext/index/VarIntInput" "length" "I" (.int (0 : Int32))) (P3 : Fld Z h0 x0 "com/example/terms_in_context/termsincontext/index/VarIntInput" "offset" "I" (.int (0 : Int32))) (P4 : n0 ≤ x0) :
    MetFree l (⟨"com/example/terms_in_context/termsincontext/index/VarIntInput", "<init>", "([BI)V"⟩ : MethodName) (head1 (Jvm.Cond.code (⟨"com/example/terms_in_context/termsincontext/index/VarIntInput", "<init>", "([BI)V"⟩ : MethodName) prog_29_method_1_code 3 none :: ws) ({ frames := 1, cells := 0, slots := 0, locals := 12 } : Room)) (fun a U => a = #[(.ref x0), (.ref x1), (.int x2)] ∧ Z.Warmed39 U.vm ∧ U.heap = h0) (fun _ _ _ _ _ => True) (fun _ U o U' => ∃ v L, o = .returned v ∧ Q2 Z x0 x1 x2 h0 n0 v U'.heap L ∧ FrameEnd U o U' L ({ frames := 1, cells := 0, slots := 0, locals := 12 } : Room).cells ({ frames := 1, cells := 0, slots := 0, locals := 12 } : Room).slots) := by
  refine g_body (plainFor_of_name pn_2) ?_
  intro p e s m below meth c T0 X0 hx hby hml hret hlk hown hnm hZ e0
  rw [ef_2]
  have N0 := Fr.nil n0
  show Go p e below s _ _ _ (T0.setTop (mkF m 0 #[.val (.ref x0), .val (.ref x1), .val (.int x2)] []))
  refine g_aloadN X0 hx 1 (hb hby d2_0) rfl rfl rfl ?_
  show Go p e below s _ _ _ (T0.setTop (mkF m 1 #[.val (.ref x0), .val (.ref x1), .val (.int x2)] [(.ref x0)]))
  refine g_initO X0 hx hZ hown (hw _ (List.mem_of_getElem? (i := 11) rfl)) (hw _ (List.mem_of_getElem? (i := 12) rfl)) (hw _ (List.mem_of_getElem? (i := 13) rfl)) e0 4 (by rw [hml]; rfl) (hb hby d2_1) (by decide) 0 (Nat.le_of_eq rfl) (by decide) rfl ?_
  intro T1 X1 e1
  show Go p e below s _ _ _ (T1.setTop (mkF m 4 #[.val (.ref x0), .val (.ref x1), .val (.int x2)] []))
  refine g_aloadN X1 hx 5 (hb hby d2_4) rfl rfl rfl ?_
  show Go p e below s _ _ _ (T1.setTop (mkF m 5 #[.val (.ref x0), .val (.ref x1), .val (.int x2)] [(.ref x0)]))
  refine g_aloadN X1 hx 6 (hb hby d2_5) rfl rfl rfl ?_
  show Go p e below s _ _ _ (T1.setTop (mkF m 6 #[.val (.ref x0), .val (.ref x1), .val (.int x2)] [(.ref x1), (.ref x0)]))
  refine g_putF X1 hx hZ hown (hw _ (List.mem_of_getElem? (i := 14) rfl)) Via.refl e1 P1 P0 (Or.inr ⟨(hw _ (List.mem_of_getElem? (i := 15) rfl)), rfl, hnm⟩) (hw _ (List.mem_of_getElem? (i := 6) rfl)) (ty := (.array .byte)) (by decide) rfl rfl 9 (hb hby d2_6) rfl ?_
  intro T2 h2 X2 e2 W2
  have K2 := (Keep.refl h0 [x0]).wr W2 (Or.inl (List.mem_of_getElem? (i := 0) rfl))
  have N2 := Fr.snoc X2 N0 P4
  have k2_0 := P0.wr W2
  have k2_2 := P2.other W2 (Or.inr (slot_ne (Or.inr (hw _ (List.mem_of_getElem? (i := 17) rfl))) (Or.inr (hw _ (List.mem_of_getElem? (i := 15) rfl))) (by decide) (t := .int) (t' := (.array .byte)) (by decide) (by decide)))
  have k2_3 := P3.other W2 (Or.inr (slot_ne (Or.inl (hw _ (List.mem_of_getElem? (i := 24) rfl))) (Or.inr (hw _ (List.mem_of_getElem? (i := 15) rfl))) (by decide) (t := .int) (t' := (.array .byte)) (by decide) (by decide)))
  have Z2 : n0 ≤ h2.size := by rw [W2.size]; exact Z0
  have F2 := P1.same W2
  show Go p e below s _ _ _ (T2.setTop (mkF m 9 #[.val (.ref x0), .val (.ref x1), .val (.int x2)] []))
  refine g_aloadN X2 hx 10 (hb hby d2_9) rfl rfl rfl ?_
  show Go p e below s _ _ _ (T2.setTop (mkF m 10 #[.val (.ref x0), .val (.ref x1), .val (.int x2)] [(.ref x0)]))
  refine g_iloadN X2 hx 11 (hb hby d2_10) rfl rfl ?_
  show Go p e below s _ _ _ (T2.setTop (mkF m 11 #[.val (.ref x0), .val (.ref x1), .val (.int x2)] [(.int x2), (.ref x0)]))
  refine g_putF X2 hx hZ hown (hw _ (List.mem_of_getElem? (i := 16) rfl)) Via.refl e2 k2_2 k2_0 (Or.inr ⟨(hw _ (List.mem_of_getElem? (i := 17) rfl)), rfl, hnm⟩) (hw _ (List.mem_of_getElem? (i := 6) rfl)) (ty := .int) (by decide) rfl rfl 14 (hb hby d2_11) rfl ?_
  intro T3 h3 X3 e3 W3
  have K3 := K2.wr W3 (Or.inl (List.mem_of_getElem? (i := 0) rfl))
  have N3 := Fr.snoc X3 N2 P4
  have k3_0 := k2_0.wr W3
  have k3_2 := k2_3.other W3 (Or.inr (slot_ne (Or.inl (hw _ (List.mem_of_getElem? (i := 24) rfl))) (Or.inr (hw _ (List.mem_of_getElem? (i := 17) rfl))) (by decide) (t := .int) (t' := .int) (by decide) (by decide)))
  have k3_4 := F2.other W3 (Or.inr (slot_ne (Or.inr (hw _ (List.mem_of_getElem? (i := 15) rfl))) (Or.inr (hw _ (List.mem_of_getElem? (i := 17) rfl))) (by decide) (t := (.array .byte)) (t' := .int) (by decide) (by decide)))
  have Z3 : n0 ≤ h3.size := by rw [W3.size]; exact Z2
  have F3 := k2_2.same W3
  show Go p e below s _ _ _ (T3.setTop (mkF m 14 #[.val (.ref x0), .val (.ref x1), .val (.int x2)] []))
  exact g_retV X3 hx hret hlk (hb hby d2_14) (by decide) (by decide) (by rw [e3]; exact ⟨rfl, N3, K3, k3_4, F3, k3_2⟩)
theorem d5_0 : decode prog_29_method_2_code 0 = .ok (.aload_n 0, 1) := by decide +kernel
theorem d5_1 : decode prog_29_method_2_code 1 = .ok (.getfield 17, 3) := by decide +kernel
theorem d5_4 : decode prog_29_method_2_code 4 = .ok (.aload_n 0, 1) := by decide +kernel
theorem d5_5 : decode prog_29_method_2_code 5 = .ok (.getfield 13, 3) := by decide +kernel
theorem d5_8 : decode prog_29_method_2_code 8 = .ok (.if_icmp .ge 7, 3) := by decide +kernel
theorem d5_11 : decode prog_29_method_2_code 11 = .ok (.iconst 1, 1) := by decide +kernel
theorem d5_12 : decode prog_29_method_2_code 12 = .ok (.goto 4, 3) := by decide +kernel
theorem d5_15 : decode prog_29_method_2_code 15 = .ok (.iconst 0, 1) := by decide +kernel
theorem d5_16 : decode prog_29_method_2_code 16 = .ok (.ireturn, 1) := by decide +kernel
theorem ef_5 (m : MethodId) (x0 : Addr) : entryFrame m #[(.ref x0)] 1 = mkF m 0 #[.val (.ref x0)] [] := by first | (simp [entryFrame, mkF, argsToLocals, Value.category]; done) | rfl
def f5 (ln : Int32) (of : Int32) : Int32 := if of < ln then (1 : Int32) else (0 : Int32)
def Q5 (Z : State) (x0 : Addr) (ln : Int32) (of : Int32) (h0 : Heap) (v : Option Value) (h : Heap) (L : List Loc) : Prop := v = some (.int (f5 ln of)) ∧ L = [] ∧ h = h0
set_option maxRecDepth 65536 in
set_option maxHeartbeats 40000000 in
theorem rm5 (l : Launch) (Z : State) (a0 : Array Value) (hw : ∀ d ∈ tables_1, d.before a0 Z = true) (ws : List Jvm.Cond) (x0 : Addr) (ln : Int32) (of : Int32) (h0 : Heap) (P0 : Fld Z h0 x0 "com/example/terms_in_context/termsincontext/index/VarIntInput" "length" "I" (.int ln)) (P1 : Fld Z h0 x0 "com/example/terms_in_context/termsincontext/index/VarIntInput" "offset" "I" (.int of)) :
    MetFree l (⟨"com/example/terms_in_context/termsincontext/index/VarIntInput", "hasMore", "()Z"⟩ : MethodName) (head1 (Jvm.Cond.code (⟨"com/example/terms_in_context/termsincontext/index/VarIntInput", "hasMore", "()Z"⟩ : MethodName) prog_29_method_2_code 1 (some .boolean) :: ws) ({ frames := 0, cells := 0, slots := 0, locals := 0 } : Room)) (fun a U => a = #[(.ref x0)] ∧ Z.Warmed39 U.vm ∧ U.heap = h0) (fun _ _ _ _ _ => True) (fun _ U o U' => ∃ v L, o = .returned v ∧ Q5 Z x0 ln of h0 v U'.heap L ∧ FrameEnd U o U' L ({ frames := 0, cells := 0, slots := 0, locals := 0 } : Room).cells ({ frames := 0, cells := 0, slots := 0, locals := 0 } : Room).slots) := by
  refine g_body (plainFor_of_name pn_2) ?_
  intro p e s m below meth c T0 X0 hx hby hml hret hlk hown hnm hZ e0
  rw [ef_5]
  show Go p e below s _ _ _ (T0.setTop (mkF m 0 #[.val (.ref x0)] []))
  refine g_aloadN X0 hx 1 (hb hby d5_0) rfl rfl rfl ?_
  show Go p e below s _ _ _ (T0.setTop (mkF m 1 #[.val (.ref x0)] [(.ref x0)]))
  refine g_getF X0 hx hZ hown (hw _ (List.mem_of_getElem? (i := 23) rfl)) Via.refl e0 P1 4 (hb hby d5_1) rfl ?_
  intro T1 X1 e1
  show Go p e below s _ _ _ (T1.setTop (mkF m 4 #[.val (.ref x0)] [(.int of)]))
  refine g_aloadN X1 hx 5 (hb hby d5_4) rfl rfl rfl ?_
  show Go p e below s _ _ _ (T1.setTop (mkF m 5 #[.val (.ref x0)] [(.ref x0), (.int of)]))
  refine g_getF X1 hx hZ hown (hw _ (List.mem_of_getElem? (i := 16) rfl)) Via.refl e1 P0 8 (hb hby d5_5) rfl ?_
  intro T2 X2 e2
  show Go p e below s _ _ _ (T2.setTop (mkF m 8 #[.val (.ref x0)] [(.int ln), (.int of)]))
  refine g_icmp_ge X2 hx 15 11 (hb hby d5_8) (by decide) rfl rfl (fun h3 => ?_) (fun h3 => ?_)
  · show Go p e below s _ _ _ (T2.setTop (mkF m 11 #[.val (.ref x0)] []))
    refine g_iconst X2 hx (1 : Int32) 12 (hb hby d5_11) rfl rfl ?_
    show Go p e below s _ _ _ (T2.setTop (mkF m 12 #[.val (.ref x0)] [(.int (1 : Int32))]))
    refine g_goto X2 hx 16 (hb hby d5_12) (by decide) rfl ?_
    show Go p e below s _ _ _ (T2.setTop (mkF m 16 #[.val (.ref x0)] [(.int (1 : Int32))]))
    exact g_retN X2 hx hret (by simp) hlk (hb hby d5_16) (by decide) (by decide) ⟨congrArg (fun z => some (Value.int z)) (show (1 : Int32) = (f5 ln of) from by rw [f5, if_pos h3]), rfl, e2⟩
  · show Go p e below s _ _ _ (T2.setTop (mkF m 15 #[.val (.ref x0)] []))
    refine g_iconst X2 hx (0 : Int32) 16 (hb hby d5_15) rfl rfl ?_
    show Go p e below s _ _ _ (T2.setTop (mkF m 16 #[.val (.ref x0)] [(.int (0 : Int32))]))
    exact g_retN X2 hx hret (by simp) hlk (hb hby d5_16) (by decide) (by decide) ⟨congrArg (fun z => some (Value.int z)) (show (0 : Int32) = (f5 ln of) from by rw [f5, if_neg h3]), rfl, e2⟩
def Q4 (Z : State) (x0 : Addr) (a1 : Addr) (ln : Int32) (of0 : Int32) (n : Nat) (g : Nat → Int32) (on0 : Nat) (k0 : Nat) (h0 : Heap) (n0 : Nat) (v : Option Value) (h : Heap) (L : List Loc) : Prop := v = some (.int (own_rd g k0 on0 0 0)) ∧ Fr n0 L ∧ Keep h0 h [x0] ∧ Fld Z h x0 "com/example/terms_in_context/termsincontext/index/VarIntInput" "bytes" "[B" (.ref a1) ∧ Fld Z h x0 "com/example/terms_in_context/termsincontext/index/VarIntInput" "length" "I" (.int ln) ∧ Fld Z h x0 "com/example/terms_in_context/termsincontext/index/VarIntInput" "offset" "I" (.int (Int32.ofNat (on0 + k0 + 1)))
theorem d4_4 : decode prog_29_method_3_code 4 = .ok (.aload_n 0, 1) := by decide +kernel
theorem d4_5 : decode prog_29_method_3_code 5 = .ok (.getfield 7, 3) := by decide +kernel
theorem d4_8 : decode prog_29_method_3_code 8 = .ok (.aload_n 0, 1) := by decide +kernel
theorem d4_9 : decode prog_29_method_3_code 9 = .ok (.dup, 1) := by decide +kernel
theorem d4_10 : decode prog_29_method_3_code 10 = .ok (.getfield 17, 3) := by decide +kernel
theorem d4_13 : decode prog_29_method_3_code 13 = .ok (.dup_x1, 1) := by decide +kernel
theorem d4_14 : decode prog_29_method_3_code 14 = .ok (.iconst 1, 1) := by decide +kernel
theorem d4_15 : decode prog_29_method_3_code 15 = .ok (.iadd, 1) := by decide +kernel
theorem d4_16 : decode prog_29_method_3_code 16 = .ok (.putfield 17, 3) := by decide +kernel
theorem d4_19 : decode prog_29_method_3_code 19 = .ok (.baload, 1) := by decide +kernel
theorem d4_20 : decode prog_29_method_3_code 20 = .ok (.istore_n 3, 1) := by decide +kernel
theorem d4_21 : decode prog_29_method_3_code 21 = .ok (.iload_n 1, 1) := by decide +kernel
theorem d4_22 : decode prog_29_method_3_code 22 = .ok (.iload_n 3, 1) := by decide +kernel
theorem d4_23 : decode prog_29_method_3_code 23 = .ok (.bipush 127, 2) := by decide +kernel
theorem d4_25 : decode prog_29_method_3_code 25 = .ok (.iand, 1) := by decide +kernel
theorem d4_26 : decode prog_29_method_3_code 26 = .ok (.iload_n 2, 1) := by decide +kernel
theorem d4_27 : decode prog_29_method_3_code 27 = .ok (.ishl, 1) := by decide +kernel
theorem d4_28 : decode prog_29_method_3_code 28 = .ok (.ior, 1) := by decide +kernel
theorem d4_29 : decode prog_29_method_3_code 29 = .ok (.istore_n 1, 1) := by decide +kernel
theorem d4_30 : decode prog_29_method_3_code 30 = .ok (.iinc 2 7, 3) := by decide +kernel
theorem d4_33 : decode prog_29_method_3_code 33 = .ok (.iload_n 3, 1) := by decide +kernel
theorem d4_34 : decode prog_29_method_3_code 34 = .ok (.ifCond .lt (-30), 3) := by decide +kernel
theorem d4_37 : decode prog_29_method_3_code 37 = .ok (.iload_n 1, 1) := by decide +kernel
theorem d4_38 : decode prog_29_method_3_code 38 = .ok (.ireturn, 1) := by decide +kernel
set_option maxRecDepth 65536 in
set_option maxHeartbeats 40000000 in
theorem sg4 (l : Launch) (Z : State) (a0 : Array Value) (hw : ∀ d ∈ tables_1, d.before a0 Z = true) {p : Program} {e : Env} {s : State} {m : MethodId} {args : Array Value} {below : List Frame} {meth : Method} {c : Code} (hx : p.tables.exec = Jvm.exec) (hby : c.code = prog_29_method_3_code) (hml : c.maxLocals = 4) (hret : meth.sig.returnType = some .int) (hlk : meth.locks = false) (hown : s.vm.findClass "com/example/terms_in_context/termsincontext/index/VarIntInput" = some m.cls) (hnm : meth.name = "read") (hZ : Z.Warmed39 s.vm) (x0 : Addr) (a1 : Addr) (ln : Int32) (of0 : Int32) (n : Nat) (g : Nat → Int32) (on0 : Nat) (k0 : Nat) (h0 : Heap) (n0 : Nat) (ho0 : of0.toInt = on0) (hk0 : on0 + k0 < n) (hn0 : ∀ j, j < k0 → g (on0 + j) < 0) (hp0 : ¬ g (on0 + k0) < 0) : ∀ (k : Nat) (of : Int32) (on : Nat) (acc : Int32) (sh : Int32) (s3 : Slot) (T0 : State) (locs : List Loc) (hS : Heap), Stand p l e ({ frames := 0, cells := 0, slots := 0, locals := 0 } : Room) s m args below meth c T0 locs 0 0 → T0.heap = hS → n0 ≤ hS.size → Fr n0 locs → Keep h0 hS [x0] → Exa Z hS x0 "com/example/terms_in_context/termsincontext/index/VarIntInput" → Fld Z hS x0 "com/example/terms_in_context/termsincontext/index/VarIntInput" "bytes" "[B" (.ref a1) → Fld Z hS x0 "com/example/terms_in_context/termsincontext/index/VarIntInput" "length" "I" (.int ln) → Fld Z hS x0 "com/example/terms_in_context/termsincontext/index/VarIntInput" "offset" "I" (.int of) → AB Z hS a1 n g → n0 ≤ x0 → x0 ≠ a1 → (of.toInt = on) → (on + k = on0 + k0) → (∀ j, j < k → g (on + j) < 0) → (¬ g (on + k) < 0) → (own_rd g k on acc sh = own_rd g k0 on0 0 0) → (One s3) → Go p e below s (Q4 Z x0 a1 ln of0 n g on0 k0 h0 n0) ({ frames := 0, cells := 0, slots := 0, locals := 0 } : Room).cells ({ frames := 0, cells := 0, slots := 0, locals := 0 } : Room).slots (T0.setTop (mkF m 4 #[.val (.ref x0), .val (.int acc), .val (.int sh), s3] [])) := by
  intro k
  induction k with
  | zero =>
    intro of on acc sh s3 T0 locs hS X0 e0 Z0 N0 K0 P0 P1 P2 P3 P4 P5 P6 ho he hn hp hv hs3
    refine g_aloadN X0 hx 5 (hb hby d4_4) rfl rfl rfl ?_
    show Go p e below s _ _ _ (T0.setTop (mkF m 5 #[.val (.ref x0), .val (.int acc), .val (.int sh), s3] [(.ref x0)]))
    refine g_getF X0 hx hZ hown (hw _ (List.mem_of_getElem? (i := 14) rfl)) Via.refl e0 P1 8 (hb hby d4_5) rfl ?_
    intro T1 X1 e1
    show Go p e below s _ _ _ (T1.setTop (mkF m 8 #[.val (.ref x0), .val (.int acc), .val (.int sh), s3] [(.ref a1)]))
    refine g_aloadN X1 hx 9 (hb hby d4_8) rfl rfl rfl ?_
    show Go p e below s _ _ _ (T1.setTop (mkF m 9 #[.val (.ref x0), .val (.int acc), .val (.int sh), s3] [(.ref x0), (.ref a1)]))
    refine g_dup X1 hx 10 (hb hby d4_9) rfl rfl ?_
    show Go p e below s _ _ _ (T1.setTop (mkF m 10 #[.val (.ref x0), .val (.int acc), .val (.int sh), s3] [(.ref x0), (.ref x0), (.ref a1)]))
    refine g_getF X1 hx hZ hown (hw _ (List.mem_of_getElem? (i := 23) rfl)) Via.refl e1 P3 13 (hb hby d4_10) rfl ?_
    intro T2 X2 e2
    show Go p e below s _ _ _ (T2.setTop (mkF m 13 #[.val (.ref x0), .val (.int acc), .val (.int sh), s3] [(.int of), (.ref x0), (.ref a1)]))
    refine g_dup_x1 X2 hx 14 (hb hby d4_13) rfl rfl rfl ?_
    show Go p e below s _ _ _ (T2.setTop (mkF m 14 #[.val (.ref x0), .val (.int acc), .val (.int sh), s3] [(.int of), (.ref x0), (.int of), (.ref a1)]))
    refine g_iconst X2 hx (1 : Int32) 15 (hb hby d4_14) rfl rfl ?_
    show Go p e below s _ _ _ (T2.setTop (mkF m 15 #[.val (.ref x0), .val (.int acc), .val (.int sh), s3] [(.int (1 : Int32)), (.int of), (.ref x0), (.int of), (.ref a1)]))
    refine g_iadd X2 hx 16 (hb hby d4_15) rfl ?_
    show Go p e below s _ _ _ (T2.setTop (mkF m 16 #[.val (.ref x0), .val (.int acc), .val (.int sh), s3] [(.int (of + (1 : Int32))), (.ref x0), (.int of), (.ref a1)]))
    refine g_putF X2 hx hZ hown (hw _ (List.mem_of_getElem? (i := 23) rfl)) Via.refl e2 P3 P0 (Or.inl (hw _ (List.mem_of_getElem? (i := 24) rfl))) (hw _ (List.mem_of_getElem? (i := 6) rfl)) (ty := .int) (by decide) rfl rfl 19 (hb hby d4_16) rfl ?_
    intro T3 h3 X3 e3 W3
    have K3 := K0.wr W3 (Or.inl (List.mem_of_getElem? (i := 0) rfl))
    have N3 := Fr.snoc X3 N0 P5
    have k3_0 := P0.wr W3
    have k3_1 := P1.other W3 (Or.inr (slot_ne (Or.inr (hw _ (List.mem_of_getElem? (i := 15) rfl))) (Or.inl (hw _ (List.mem_of_getElem? (i := 24) rfl))) (by decide) (t := (.array .byte)) (t' := .int) (by decide) (by decide)))
    have k3_2 := P2.other W3 (Or.inr (slot_ne (Or.inr (hw _ (List.mem_of_getElem? (i := 17) rfl))) (Or.inl (hw _ (List.mem_of_getElem? (i := 24) rfl))) (by decide) (t := .int) (t' := .int) (by decide) (by decide)))
    have k3_4 := P4.other W3 (Ne.symm P6)
    have Z3 : n0 ≤ h3.size := by rw [W3.size]; exact Z0
    have F3 := P3.same W3
    show Go p e below s _ _ _ (T3.setTop (mkF m 19 #[.val (.ref x0), .val (.int acc), .val (.int sh), s3] [(.int of), (.ref a1)]))
    refine g_baload X3 hx hZ e3 k3_4 on ho (by omega) 20 (hb hby d4_19) rfl ?_
    show Go p e below s _ _ _ (T3.setTop (mkF m 20 #[.val (.ref x0), .val (.int acc), .val (.int sh), s3] [(.int (g on))]))
    refine g_istoreNS X3 hx #[.val (.ref x0), .val (.int acc), .val (.int sh), .val (.int (g on))] 21 (hb hby d4_20) rfl hs3 rfl rfl ?_
    show Go p e below s _ _ _ (T3.setTop (mkF m 21 #[.val (.ref x0), .val (.int acc), .val (.int sh), .val (.int (g on))] []))
    refine g_iloadN X3 hx 22 (hb hby d4_21) rfl rfl ?_
    show Go p e below s _ _ _ (T3.setTop (mkF m 22 #[.val (.ref x0), .val (.int acc), .val (.int sh), .val (.int (g on))] [(.int acc)]))
    refine g_iloadN X3 hx 23 (hb hby d4_22) rfl rfl ?_
    show Go p e below s _ _ _ (T3.setTop (mkF m 23 #[.val (.ref x0), .val (.int acc), .val (.int sh), .val (.int (g on))] [(.int (g on)), (.int acc)]))
    refine g_bipush X3 hx (127 : Int32) 25 (hb hby d4_23) rfl rfl ?_
    show Go p e below s _ _ _ (T3.setTop (mkF m 25 #[.val (.ref x0), .val (.int acc), .val (.int sh), .val (.int (g on))] [(.int (127 : Int32)), (.int (g on)), (.int acc)]))
    refine g_iand X3 hx 26 (hb hby d4_25) rfl ?_
    show Go p e below s _ _ _ (T3.setTop (mkF m 26 #[.val (.ref x0), .val (.int acc), .val (.int sh), .val (.int (g on))] [(.int ((g on) &&& (127 : Int32))), (.int acc)]))
    refine g_iloadN X3 hx 27 (hb hby d4_26) rfl rfl ?_
    show Go p e below s _ _ _ (T3.setTop (mkF m 27 #[.val (.ref x0), .val (.int acc), .val (.int sh), .val (.int (g on))] [(.int sh), (.int ((g on) &&& (127 : Int32))), (.int acc)]))
    refine g_ishl X3 hx 28 (hb hby d4_27) rfl ?_
    show Go p e below s _ _ _ (T3.setTop (mkF m 28 #[.val (.ref x0), .val (.int acc), .val (.int sh), .val (.int (g on))] [(.int (shlI ((g on) &&& (127 : Int32)) sh)), (.int acc)]))
    refine g_ior X3 hx 29 (hb hby d4_28) rfl ?_
    show Go p e below s _ _ _ (T3.setTop (mkF m 29 #[.val (.ref x0), .val (.int acc), .val (.int sh), .val (.int (g on))] [(.int (acc ||| (shlI ((g on) &&& (127 : Int32)) sh)))]))
    refine g_istoreN X3 hx #[.val (.ref x0), .val (.int (acc ||| (shlI ((g on) &&& (127 : Int32)) sh))), .val (.int sh), .val (.int (g on))] 30 (hb hby d4_29) rfl rfl ?_
    show Go p e below s _ _ _ (T3.setTop (mkF m 30 #[.val (.ref x0), .val (.int (acc ||| (shlI ((g on) &&& (127 : Int32)) sh))), .val (.int sh), .val (.int (g on))] []))
    refine g_iinc X3 hx (7 : Int32) #[.val (.ref x0), .val (.int (acc ||| (shlI ((g on) &&& (127 : Int32)) sh))), .val (.int (sh + (7 : Int32))), .val (.int (g on))] 33 (hb hby d4_30) rfl rfl rfl rfl ?_
    show Go p e below s _ _ _ (T3.setTop (mkF m 33 #[.val (.ref x0), .val (.int (acc ||| (shlI ((g on) &&& (127 : Int32)) sh))), .val (.int (sh + (7 : Int32))), .val (.int (g on))] []))
    refine g_iloadN X3 hx 34 (hb hby d4_33) rfl rfl ?_
    show Go p e below s _ _ _ (T3.setTop (mkF m 34 #[.val (.ref x0), .val (.int (acc ||| (shlI ((g on) &&& (127 : Int32)) sh))), .val (.int (sh + (7 : Int32))), .val (.int (g on))] [(.int (g on))]))
    have h5 : ¬ ((g on) < (0 : Int32)) := by simpa using hp
    refine g_if0_lt X3 hx 4 37 (hb hby d4_34) (by decide) rfl rfl (fun q => absurd q h5) (fun _ => ?_)
    show Go p e below s _ _ _ (T3.setTop (mkF m 37 #[.val (.ref x0), .val (.int (acc ||| (shlI ((g on) &&& (127 : Int32)) sh))), .val (.int (sh + (7 : Int32))), .val (.int (g on))] []))
    refine g_iloadN X3 hx 38 (hb hby d4_37) rfl rfl ?_
    show Go p e below s _ _ _ (T3.setTop (mkF m 38 #[.val (.ref x0), .val (.int (acc ||| (shlI ((g on) &&& (127 : Int32)) sh))), .val (.int (sh + (7 : Int32))), .val (.int (g on))] [(.int (acc ||| (shlI ((g on) &&& (127 : Int32)) sh)))]))
    exact g_retI X3 hx hret hlk (hb hby d4_38) (by decide) (by decide) (by rw [e3]; exact ⟨congrArg (fun z => some (Value.int z)) hv, N3, K3, k3_1, k3_2, (by rw [show Int32.ofNat (on0 + k0 + 1) = of + (1 : Int32) from (own_ofNat (by rw [own_add ho (j := 1) rfl (by have := P4.small; omega)]; omega)).symm]; exact F3)⟩)
  | succ k ih =>
    intro of on acc sh s3 T0 locs hS X0 e0 Z0 N0 K0 P0 P1 P2 P3 P4 P5 P6 ho he hn hp hv hs3
    refine g_aloadN X0 hx 5 (hb hby d4_4) rfl rfl rfl ?_
    show Go p e below s _ _ _ (T0.setTop (mkF m 5 #[.val (.ref x0), .val (.int acc), .val (.int sh), s3] [(.ref x0)]))
    refine g_getF X0 hx hZ hown (hw _ (List.mem_of_getElem? (i := 14) rfl)) Via.refl e0 P1 8 (hb hby d4_5) rfl ?_
    intro T6 X6 e6
    show Go p e below s _ _ _ (T6.setTop (mkF m 8 #[.val (.ref x0), .val (.int acc), .val (.int sh), s3] [(.ref a1)]))
    refine g_aloadN X6 hx 9 (hb hby d4_8) rfl rfl rfl ?_
    show Go p e below s _ _ _ (T6.setTop (mkF m 9 #[.val (.ref x0), .val (.int acc), .val (.int sh), s3] [(.ref x0), (.ref a1)]))
    refine g_dup X6 hx 10 (hb hby d4_9) rfl rfl ?_
    show Go p e below s _ _ _ (T6.setTop (mkF m 10 #[.val (.ref x0), .val (.int acc), .val (.int sh), s3] [(.ref x0), (.ref x0), (.ref a1)]))
    refine g_getF X6 hx hZ hown (hw _ (List.mem_of_getElem? (i := 23) rfl)) Via.refl e6 P3 13 (hb hby d4_10) rfl ?_
    intro T7 X7 e7
    show Go p e below s _ _ _ (T7.setTop (mkF m 13 #[.val (.ref x0), .val (.int acc), .val (.int sh), s3] [(.int of), (.ref x0), (.ref a1)]))
    refine g_dup_x1 X7 hx 14 (hb hby d4_13) rfl rfl rfl ?_
    show Go p e below s _ _ _ (T7.setTop (mkF m 14 #[.val (.ref x0), .val (.int acc), .val (.int sh), s3] [(.int of), (.ref x0), (.int of), (.ref a1)]))
    refine g_iconst X7 hx (1 : Int32) 15 (hb hby d4_14) rfl rfl ?_
    show Go p e below s _ _ _ (T7.setTop (mkF m 15 #[.val (.ref x0), .val (.int acc), .val (.int sh), s3] [(.int (1 : Int32)), (.int of), (.ref x0), (.int of), (.ref a1)]))
    refine g_iadd X7 hx 16 (hb hby d4_15) rfl ?_
    show Go p e below s _ _ _ (T7.setTop (mkF m 16 #[.val (.ref x0), .val (.int acc), .val (.int sh), s3] [(.int (of + (1 : Int32))), (.ref x0), (.int of), (.ref a1)]))
    refine g_putF X7 hx hZ hown (hw _ (List.mem_of_getElem? (i := 23) rfl)) Via.refl e7 P3 P0 (Or.inl (hw _ (List.mem_of_getElem? (i := 24) rfl))) (hw _ (List.mem_of_getElem? (i := 6) rfl)) (ty := .int) (by decide) rfl rfl 19 (hb hby d4_16) rfl ?_
    intro T8 h8 X8 e8 W8
    have K8 := K0.wr W8 (Or.inl (List.mem_of_getElem? (i := 0) rfl))
    have N8 := Fr.snoc X8 N0 P5
    have k8_0 := P0.wr W8
    have k8_1 := P1.other W8 (Or.inr (slot_ne (Or.inr (hw _ (List.mem_of_getElem? (i := 15) rfl))) (Or.inl (hw _ (List.mem_of_getElem? (i := 24) rfl))) (by decide) (t := (.array .byte)) (t' := .int) (by decide) (by decide)))
    have k8_2 := P2.other W8 (Or.inr (slot_ne (Or.inr (hw _ (List.mem_of_getElem? (i := 17) rfl))) (Or.inl (hw _ (List.mem_of_getElem? (i := 24) rfl))) (by decide) (t := .int) (t' := .int) (by decide) (by decide)))
    have k8_4 := P4.other W8 (Ne.symm P6)
    have Z8 : n0 ≤ h8.size := by rw [W8.size]; exact Z0
    have F8 := P3.same W8
    show Go p e below s _ _ _ (T8.setTop (mkF m 19 #[.val (.ref x0), .val (.int acc), .val (.int sh), s3] [(.int of), (.ref a1)]))
    refine g_baload X8 hx hZ e8 k8_4 on ho (by omega) 20 (hb hby d4_19) rfl ?_
    show Go p e below s _ _ _ (T8.setTop (mkF m 20 #[.val (.ref x0), .val (.int acc), .val (.int sh), s3] [(.int (g on))]))
    refine g_istoreNS X8 hx #[.val (.ref x0), .val (.int acc), .val (.int sh), .val (.int (g on))] 21 (hb hby d4_20) rfl hs3 rfl rfl ?_
    show Go p e below s _ _ _ (T8.setTop (mkF m 21 #[.val (.ref x0), .val (.int acc), .val (.int sh), .val (.int (g on))] []))
    refine g_iloadN X8 hx 22 (hb hby d4_21) rfl rfl ?_
    show Go p e below s _ _ _ (T8.setTop (mkF m 22 #[.val (.ref x0), .val (.int acc), .val (.int sh), .val (.int (g on))] [(.int acc)]))
    refine g_iloadN X8 hx 23 (hb hby d4_22) rfl rfl ?_
    show Go p e below s _ _ _ (T8.setTop (mkF m 23 #[.val (.ref x0), .val (.int acc), .val (.int sh), .val (.int (g on))] [(.int (g on)), (.int acc)]))
    refine g_bipush X8 hx (127 : Int32) 25 (hb hby d4_23) rfl rfl ?_
    show Go p e below s _ _ _ (T8.setTop (mkF m 25 #[.val (.ref x0), .val (.int acc), .val (.int sh), .val (.int (g on))] [(.int (127 : Int32)), (.int (g on)), (.int acc)]))
    refine g_iand X8 hx 26 (hb hby d4_25) rfl ?_
    show Go p e below s _ _ _ (T8.setTop (mkF m 26 #[.val (.ref x0), .val (.int acc), .val (.int sh), .val (.int (g on))] [(.int ((g on) &&& (127 : Int32))), (.int acc)]))
    refine g_iloadN X8 hx 27 (hb hby d4_26) rfl rfl ?_
    show Go p e below s _ _ _ (T8.setTop (mkF m 27 #[.val (.ref x0), .val (.int acc), .val (.int sh), .val (.int (g on))] [(.int sh), (.int ((g on) &&& (127 : Int32))), (.int acc)]))
    refine g_ishl X8 hx 28 (hb hby d4_27) rfl ?_
    show Go p e below s _ _ _ (T8.setTop (mkF m 28 #[.val (.ref x0), .val (.int acc), .val (.int sh), .val (.int (g on))] [(.int (shlI ((g on) &&& (127 : Int32)) sh)), (.int acc)]))
    refine g_ior X8 hx 29 (hb hby d4_28) rfl ?_
    show Go p e below s _ _ _ (T8.setTop (mkF m 29 #[.val (.ref x0), .val (.int acc), .val (.int sh), .val (.int (g on))] [(.int (acc ||| (shlI ((g on) &&& (127 : Int32)) sh)))]))
    refine g_istoreN X8 hx #[.val (.ref x0), .val (.int (acc ||| (shlI ((g on) &&& (127 : Int32)) sh))), .val (.int sh), .val (.int (g on))] 30 (hb hby d4_29) rfl rfl ?_
    show Go p e below s _ _ _ (T8.setTop (mkF m 30 #[.val (.ref x0), .val (.int (acc ||| (shlI ((g on) &&& (127 : Int32)) sh))), .val (.int sh), .val (.int (g on))] []))
    refine g_iinc X8 hx (7 : Int32) #[.val (.ref x0), .val (.int (acc ||| (shlI ((g on) &&& (127 : Int32)) sh))), .val (.int (sh + (7 : Int32))), .val (.int (g on))] 33 (hb hby d4_30) rfl rfl rfl rfl ?_
    show Go p e below s _ _ _ (T8.setTop (mkF m 33 #[.val (.ref x0), .val (.int (acc ||| (shlI ((g on) &&& (127 : Int32)) sh))), .val (.int (sh + (7 : Int32))), .val (.int (g on))] []))
    refine g_iloadN X8 hx 34 (hb hby d4_33) rfl rfl ?_
    show Go p e below s _ _ _ (T8.setTop (mkF m 34 #[.val (.ref x0), .val (.int (acc ||| (shlI ((g on) &&& (127 : Int32)) sh))), .val (.int (sh + (7 : Int32))), .val (.int (g on))] [(.int (g on))]))
    have h10 : (g on) < (0 : Int32) := by simpa using hn 0 (by omega)
    refine g_if0_lt X8 hx 4 37 (hb hby d4_34) (by decide) rfl rfl (fun _ => ?_) (fun q => absurd h10 q)
    show Go p e below s _ _ _ (T8.setTop (mkF m 4 #[.val (.ref x0), .val (.int (acc ||| (shlI ((g on) &&& (127 : Int32)) sh))), .val (.int (sh + (7 : Int32))), .val (.int (g on))] []))
    exact ih (of + (1 : Int32)) (on + 1) (acc ||| (shlI ((g on) &&& (127 : Int32)) sh)) (sh + (7 : Int32)) (.val (.int (g on))) _ _ _ X8 e8 Z8 N8 K8 k8_0 k8_1 k8_2 F8 k8_4 P5 P6 (own_add ho rfl (by have := P4.small; omega)) (by omega) (fun j hj => by have := hn (j + 1) (by omega); rwa [show on + (j + 1) = on + 1 + j from by omega] at this) (by rwa [show on + (k + 1) = on + 1 + k from by omega] at hp) hv (One.val rfl)
theorem d4_0 : decode prog_29_method_3_code 0 = .ok (.iconst 0, 1) := by decide +kernel
theorem d4_1 : decode prog_29_method_3_code 1 = .ok (.istore_n 1, 1) := by decide +kernel
theorem d4_2 : decode prog_29_method_3_code 2 = .ok (.iconst 0, 1) := by decide +kernel
theorem d4_3 : decode prog_29_method_3_code 3 = .ok (.istore_n 2, 1) := by decide +kernel
theorem ef_4 (m : MethodId) (x0 : Addr) : entryFrame m #[(.ref x0)] 4 = mkF m 0 #[.val (.ref x0), .unset, .unset, .unset] [] := by first | (simp [entryFrame, mkF, argsToLocals, Value.category]; done) | rfl
set_option maxRecDepth 65536 in
set_option maxHeartbeats 40000000 in
theorem rm4 (l : Launch) (Z : State) (a0 : Array Value) (hw : ∀ d ∈ tables_1, d.before a0 Z = true) (ws : List Jvm.Cond) (x0 : Addr) (a1 : Addr) (ln : Int32) (of0 : Int32) (n : Nat) (g : Nat → Int32) (on0 : Nat) (k0 : Nat) (h0 : Heap) (n0 : Nat) (Z0 : n0 ≤ h0.size) (P0 : Exa Z h0 x0 "com/example/terms_in_context/termsincontext/index/VarIntInput") (P1 : Fld Z h0 x0 "com/example/terms_in_context/termsincontext/index/VarIntInput" "bytes" "[B" (.ref a1)) (P2 : Fld Z h0 x0 "com/example/terms_in_context/termsincontext/index/VarIntInput" "length" "I" (.int ln)) (P3 : Fld Z h0 x0 "com/example/terms_in_context/termsincontext/index/VarIntInput" "offset" "I" (.int of0)) (P4 : AB Z h0 a1 n g) (P5 : n0 ≤ x0) (P6 : x0 ≠ a1) (ho0 : of0.toInt = on0) (hk0 : on0 + k0 < n) (hn0 : ∀ j, j < k0 → g (on0 + j) < 0) (hp0 : ¬ g (on0 + k0) < 0) :
    MetFree l (⟨"com/example/terms_in_context/termsincontext/index/VarIntInput", "read", "()I"⟩ : MethodName) (head1 (Jvm.Cond.code (⟨"com/example/terms_in_context/termsincontext/index/VarIntInput", "read", "()I"⟩ : MethodName) prog_29_method_3_code 4 (some .int) :: ws) ({ frames := 0, cells := 0, slots := 0, locals := 0 } : Room)) (fun a U => a = #[(.ref x0)] ∧ Z.Warmed39 U.vm ∧ U.heap = h0) (fun _ _ _ _ _ => True) (fun _ U o U' => ∃ v L, o = .returned v ∧ Q4 Z x0 a1 ln of0 n g on0 k0 h0 n0 v U'.heap L ∧ FrameEnd U o U' L ({ frames := 0, cells := 0, slots := 0, locals := 0 } : Room).cells ({ frames := 0, cells := 0, slots := 0, locals := 0 } : Room).slots) := by
  refine g_body (plainFor_of_name pn_2) ?_
  intro p e s m below meth c T0 X0 hx hby hml hret hlk hown hnm hZ e0
  rw [ef_4]
  have N0 := Fr.nil n0
  show Go p e below s _ _ _ (T0.setTop (mkF m 0 #[.val (.ref x0), .unset, .unset, .unset] []))
  refine g_iconst X0 hx (0 : Int32) 1 (hb hby d4_0) rfl rfl ?_
  show Go p e below s _ _ _ (T0.setTop (mkF m 1 #[.val (.ref x0), .unset, .unset, .unset] [(.int (0 : Int32))]))
  refine g_istoreN X0 hx #[.val (.ref x0), .val (.int (0 : Int32)), .unset, .unset] 2 (hb hby d4_1) rfl rfl ?_
  show Go p e below s _ _ _ (T0.setTop (mkF m 2 #[.val (.ref x0), .val (.int (0 : Int32)), .unset, .unset] []))
  refine g_iconst X0 hx (0 : Int32) 3 (hb hby d4_2) rfl rfl ?_
  show Go p e below s _ _ _ (T0.setTop (mkF m 3 #[.val (.ref x0), .val (.int (0 : Int32)), .unset, .unset] [(.int (0 : Int32))]))
  refine g_istoreN X0 hx #[.val (.ref x0), .val (.int (0 : Int32)), .val (.int (0 : Int32)), .unset] 4 (hb hby d4_3) rfl rfl ?_
  show Go p e below s _ _ _ (T0.setTop (mkF m 4 #[.val (.ref x0), .val (.int (0 : Int32)), .val (.int (0 : Int32)), .unset] []))
  exact sg4 l Z a0 hw hx hby hml hret hlk hown hnm hZ x0 a1 ln of0 n g on0 k0 h0 n0 ho0 hk0 hn0 hp0 k0 of0 on0 (0 : Int32) (0 : Int32) .unset _ _ _ X0 e0 Z0 N0 (Keep.refl h0 [x0]) P0 P1 P2 P3 P4 P5 P6 ho0 rfl hn0 hp0 rfl One.u
theorem own_st0 (acc f sh : Int32) (U : Int) (h1 : acc.toInt = U % 1) (h2 : f.toInt = U / 1 % 128) (hs : sh.toBitVec.toNat % 32 = 0) : (acc ||| shlI f sh).toInt = U % 128 := by
  have a := c_ishl f sh 0 hs
  have r := rng32 (shlI f sh)
  have o := c_or' acc (shlI f sh) 0 (by decide) 1 rfl
  have r2 := rng32 (acc ||| shlI f sh)
  have e : (f <<< (sh &&& 31)).toInt = (shlI f sh).toInt := rfl
  rw [e, show ((2 ^ 0 : Nat) : Int) = 1 from rfl] at a
  have o' := o (by omega) (by omega) (by omega)
  omega
theorem own_st7 (acc f sh : Int32) (U : Int) (h1 : acc.toInt = U % 128) (h2 : f.toInt = U / 128 % 128) (hs : sh.toBitVec.toNat % 32 = 7) : (acc ||| shlI f sh).toInt = U % 16384 := by
  have a := c_ishl f sh 7 hs
  have r := rng32 (shlI f sh)
  have o := c_or' acc (shlI f sh) 7 (by decide) 128 rfl
  have r2 := rng32 (acc ||| shlI f sh)
  have e : (f <<< (sh &&& 31)).toInt = (shlI f sh).toInt := rfl
  rw [e, show ((2 ^ 7 : Nat) : Int) = 128 from rfl] at a
  have o' := o (by omega) (by omega) (by omega)
  omega
theorem own_st14 (acc f sh : Int32) (U : Int) (h1 : acc.toInt = U % 16384) (h2 : f.toInt = U / 16384 % 128) (hs : sh.toBitVec.toNat % 32 = 14) : (acc ||| shlI f sh).toInt = U % 2097152 := by
  have a := c_ishl f sh 14 hs
  have r := rng32 (shlI f sh)
  have o := c_or' acc (shlI f sh) 14 (by decide) 16384 rfl
  have r2 := rng32 (acc ||| shlI f sh)
  have e : (f <<< (sh &&& 31)).toInt = (shlI f sh).toInt := rfl
  rw [e, show ((2 ^ 14 : Nat) : Int) = 16384 from rfl] at a
  have o' := o (by omega) (by omega) (by omega)
  omega
theorem own_st21 (acc f sh : Int32) (U : Int) (h1 : acc.toInt = U % 2097152) (h2 : f.toInt = U / 2097152 % 128) (hs : sh.toBitVec.toNat % 32 = 21) : (acc ||| shlI f sh).toInt = U % 268435456 := by
  have a := c_ishl f sh 21 hs
  have r := rng32 (shlI f sh)
  have o := c_or' acc (shlI f sh) 21 (by decide) 2097152 rfl
  have r2 := rng32 (acc ||| shlI f sh)
  have e : (f <<< (sh &&& 31)).toInt = (shlI f sh).toInt := rfl
  rw [e, show ((2 ^ 21 : Nat) : Int) = 2097152 from rfl] at a
  have o' := o (by omega) (by omega) (by omega)
  omega
theorem own_st28 (acc f sh u : Int32) (h1 : acc.toInt = u.toInt % 4294967296 % 268435456) (h2 : f.toInt = u.toInt % 4294967296 / 268435456) (hs : sh.toBitVec.toNat % 32 = 28) : acc ||| shlI f sh = u := by
  apply Int32.toInt_inj.mp
  have a := c_ishl f sh 28 hs
  have r := rng32 (shlI f sh)
  have o := c_or' acc (shlI f sh) 28 (by decide) 268435456 rfl
  have r2 := rng32 (acc ||| shlI f sh)
  have r3 := rng32 u
  have e : (f <<< (sh &&& 31)).toInt = (shlI f sh).toInt := rfl
  rw [e, show ((2 ^ 28 : Nat) : Int) = 268435456 from rfl] at a
  have o' := o (by omega) (by omega) (by omega)
  omega
/-- a byte that says that more follow -/
def own_C (y : Int32) : Int32 := i2bI (i2bI ((y &&& 127) ||| 128))
def own_B (y : Int32) : Int32 := i2bI (i2bI y)
theorem own_and7 (y : Int32) : (y &&& 127).toInt = y.toInt % 128 := c_mask y 127 7 (by decide) (by decide)
theorem own_or8 (y : Int32) : ((y &&& 127) ||| 128).toInt = y.toInt % 128 + 128 := by
  have m := own_and7 y
  have o := c_or' (y &&& 127) 128 7 (by decide) 128 rfl (by decide) (by omega) (by omega)
  have r := rng32 ((y &&& 127) ||| 128)
  have e : (128 : Int32).toInt = 128 := rfl
  omega
theorem own_bb (y : Int32) : ((own_B y).toInt - y.toInt) % 256 = 0 ∧ -128 ≤ (own_B y).toInt ∧ (own_B y).toInt < 128 := by
  have h1 : ((i2bI y).toInt - y.toInt) % 256 = 0 ∧ _ := c_i2b y
  have h2 : ((i2bI (i2bI y)).toInt - (i2bI y).toInt) % 256 = 0 ∧ _ := c_i2b (i2bI y)
  have e1 : y.toInt8.toInt32.toInt = (i2bI y).toInt := rfl
  have e2 : (i2bI y).toInt8.toInt32.toInt = (i2bI (i2bI y)).toInt := rfl
  rw [e1] at h1; rw [e2] at h2
  show ((i2bI (i2bI y)).toInt - y.toInt) % 256 = 0 ∧ -128 ≤ (i2bI (i2bI y)).toInt ∧ (i2bI (i2bI y)).toInt < 128
  omega
theorem own_Cneg (y : Int32) : own_C y < 0 := by
  rw [Int32.lt_iff_toInt_lt]
  have h := own_bb ((y &&& 127) ||| 128)
  have o := own_or8 y
  show (own_B ((y &&& 127) ||| 128)).toInt < 0
  omega
theorem own_Cval (y : Int32) : (own_C y &&& 127).toInt = y.toInt % 128 := by
  rw [own_and7]
  have h := own_bb ((y &&& 127) ||| 128)
  have o := own_or8 y
  show (own_B ((y &&& 127) ||| 128)).toInt % 128 = _
  omega
theorem own_Bpos (y : Int32) (h0 : 0 ≤ y.toInt) (h1 : y.toInt < 128) : ¬ own_B y < 0 := by
  rw [Int32.lt_iff_toInt_lt]
  have h := own_bb y
  show ¬ (own_B y).toInt < 0
  omega
theorem own_Bval (y : Int32) (h0 : 0 ≤ y.toInt) (h1 : y.toInt < 128) : (own_B y &&& 127).toInt = y.toInt := by
  rw [own_and7]
  have h := own_bb y
  omega
theorem own_us (u q : Int32) (k : Nat) (hk : q.toBitVec.toNat % 32 = k) (h0 : 0 < k) : (ushrI u q).toInt = u.toInt % 4294967296 / (2 ^ k : Nat) := c_iushr u q k hk h0
theorem own_z {x : Int32} (h : x = 0) : x.toInt = 0 := by rw [h]; rfl
theorem own_nz {x : Int32} (h : ¬ x = 0) : ¬ x.toInt = 0 := fun q => h (Int32.toInt_inj.mp q)
def own_len (u : Int32) : Nat := if ushrI u 7 = 0 then 1 else if ushrI u 14 = 0 then 2 else if ushrI u 21 = 0 then 3 else if ushrI u 28 = 0 then 4 else 5
theorem own_len_le (u : Int32) : 1 ≤ own_len u ∧ own_len u ≤ 5 := by unfold own_len; split <;> (try split) <;> (try split) <;> (try split) <;> omega
theorem own_f1 (u x : Int32) (n : Nat) (h : x.toInt = n) (hb : n + 5 < 2 ^ 31) : (f1 u x).toInt = ((n + own_len u : Nat) : Int) := by
  unfold f1 own_len
  split
  · exact own_add h rfl (by omega)
  · split
    · exact own_add h rfl (by omega)
    · split
      · exact own_add h rfl (by omega)
      · split
        · exact own_add h rfl (by omega)
        · exact own_add h rfl (by omega)
/-- what read() sees from i on, for k bytes more, is what counts -/
theorem own_rd_congr (g g' : Nat → Int32) : ∀ (k i : Nat) (acc sh : Int32), (∀ j, j ≤ k → g (i + j) = g' (i + j)) → own_rd g k i acc sh = own_rd g' k i acc sh
  | 0, i, acc, sh, h => by simp only [own_rd]; rw [show g i = g' i from h 0 (Nat.le_refl _)]
  | k + 1, i, acc, sh, h => by
    simp only [own_rd]; rw [show g i = g' i from h 0 (Nat.zero_le _)]
    exact own_rd_congr g g' k (i + 1) _ _ fun j hj => by have := h (j + 1) (by omega); rwa [show i + (j + 1) = i + 1 + j from by omega] at this
theorem own_upd (g : Nat → Int32) (j : Nat) (x : Int32) : upd g j x j = x := by simp [upd]
theorem own_upd' (g : Nat → Int32) (j i : Nat) (x : Int32) (h : i ≠ j) : upd g j x i = g i := by simp [upd, h]
/-- the whole of what enc leaves -/
theorem own_enc (u : Int32) (g : Nat → Int32) (pn : Nat) :
    (∀ j, j < pn → g1_x1 u g pn j = g j) ∧ (∀ j, j < own_len u - 1 → g1_x1 u g pn (pn + j) < 0) ∧ ¬ g1_x1 u g pn (pn + (own_len u - 1)) < 0 ∧ own_rd (g1_x1 u g pn) (own_len u - 1) pn 0 0 = u := by
  have r := rng32 u
  by_cases q7 : ushrI u 7 = 0
  · have u7 := own_us u 7 7 (by decide) (by decide)
    rw [show ((2 ^ 7 : Nat) : Int) = 128 from rfl] at u7
    have u14 := own_us u 14 14 (by decide) (by decide)
    rw [show ((2 ^ 14 : Nat) : Int) = 16384 from rfl] at u14
    have u21 := own_us u 21 21 (by decide) (by decide)
    rw [show ((2 ^ 21 : Nat) : Int) = 2097152 from rfl] at u21
    have u28 := own_us u 28 28 (by decide) (by decide)
    rw [show ((2 ^ 28 : Nat) : Int) = 268435456 from rfl] at u28
    have L : own_len u = 1 := by unfold own_len; rw [if_pos q7]
    have z7 := own_z q7
    have E : g1_x1 u g pn = (upd g pn (own_B u)) := by unfold g1_x1; rw [if_pos q7]; rfl
    rw [L, E]
    have a0 : (upd g pn (own_B u)) (pn + 0) = own_B u := by simp [upd]
    have bp : 0 ≤ u.toInt ∧ u.toInt < 128 := by omega
    refine ⟨fun j hj => ?_, fun j hj => ?_, ?_, ?_⟩
    · simp only [upd]; rw [if_neg (by omega)]
    · exact absurd hj (Nat.not_lt_zero j)
    · rw [show 1 - 1 = 0 from rfl, a0]; exact own_Bpos _ bp.1 bp.2
    · show own_rd _ 0 pn 0 0 = u
      simp only [own_rd]
      try simp only [Nat.add_assoc, Nat.reduceAdd]
      rw [show (upd g pn (own_B u)) pn = own_B u from a0]
      have t0 := own_st0 0 (own_B u &&& 127) 0 (u.toInt % 4294967296) (by show (0 : Int) = _; omega) (by rw [own_Bval u bp.1 bp.2]; omega) (by decide)
      exact Int32.toInt_inj.mp (by rw [t0]; omega)
  · skip
    by_cases q14 : ushrI u 14 = 0
    · have u7 := own_us u 7 7 (by decide) (by decide)
      rw [show ((2 ^ 7 : Nat) : Int) = 128 from rfl] at u7
      have u14 := own_us u 14 14 (by decide) (by decide)
      rw [show ((2 ^ 14 : Nat) : Int) = 16384 from rfl] at u14
      have u21 := own_us u 21 21 (by decide) (by decide)
      rw [show ((2 ^ 21 : Nat) : Int) = 2097152 from rfl] at u21
      have u28 := own_us u 28 28 (by decide) (by decide)
      rw [show ((2 ^ 28 : Nat) : Int) = 268435456 from rfl] at u28
      have L : own_len u = 2 := by unfold own_len; rw [if_neg q7, if_pos q14]
      have z7 := own_nz q7
      have z14 := own_z q14
      have E : g1_x1 u g pn = (upd (upd g pn (own_C u)) (pn + 1) (own_B (ushrI u 7))) := by unfold g1_x1; rw [if_neg q7, if_pos q14]; rfl
      rw [L, E]
      have a0 : (upd (upd g pn (own_C u)) (pn + 1) (own_B (ushrI u 7))) (pn + 0) = own_C u := by simp [upd]
      have a1 : (upd (upd g pn (own_C u)) (pn + 1) (own_B (ushrI u 7))) (pn + 1) = own_B (ushrI u 7) := by simp [upd]
      have bp : 0 ≤ (ushrI u 7).toInt ∧ (ushrI u 7).toInt < 128 := by omega
      refine ⟨fun j hj => ?_, fun j hj => ?_, ?_, ?_⟩
      · simp only [upd]; rw [if_neg (by omega)]; rw [if_neg (by omega)]
      · rcases (by omega : j = 0) with rfl
        · rw [a0]; exact own_Cneg _
      · rw [show 2 - 1 = 1 from rfl, a1]; exact own_Bpos _ bp.1 bp.2
      · show own_rd _ 1 pn 0 0 = u
        simp only [own_rd]
        try simp only [Nat.add_assoc, Nat.reduceAdd]
        rw [show (upd (upd g pn (own_C u)) (pn + 1) (own_B (ushrI u 7))) pn = own_C u from a0, a1]
        have t0 := own_st0 0 (own_C u &&& 127) 0 (u.toInt % 4294967296) (by show (0 : Int) = _; omega) (by rw [own_Cval u]; omega) (by decide)
        have t1 := own_st7 _ (own_B (ushrI u 7) &&& 127) (0 + 7) (u.toInt % 4294967296) t0 (by rw [own_Bval (ushrI u 7) bp.1 bp.2]; omega) (by decide)
        exact Int32.toInt_inj.mp (by rw [t1]; omega)
    · skip
      by_cases q21 : ushrI u 21 = 0
      · have u7 := own_us u 7 7 (by decide) (by decide)
        rw [show ((2 ^ 7 : Nat) : Int) = 128 from rfl] at u7
        have u14 := own_us u 14 14 (by decide) (by decide)
        rw [show ((2 ^ 14 : Nat) : Int) = 16384 from rfl] at u14
        have u21 := own_us u 21 21 (by decide) (by decide)
        rw [show ((2 ^ 21 : Nat) : Int) = 2097152 from rfl] at u21
        have u28 := own_us u 28 28 (by decide) (by decide)
        rw [show ((2 ^ 28 : Nat) : Int) = 268435456 from rfl] at u28
        have L : own_len u = 3 := by unfold own_len; rw [if_neg q7, if_neg q14, if_pos q21]
        have z7 := own_nz q7
        have z14 := own_nz q14
        have z21 := own_z q21
        have E : g1_x1 u g pn = (upd (upd (upd g pn (own_C u)) (pn + 1) (own_C (ushrI u 7))) (pn + 2) (own_B (ushrI u 14))) := by unfold g1_x1; rw [if_neg q7, if_neg q14, if_pos q21]; rfl
        rw [L, E]
        have a0 : (upd (upd (upd g pn (own_C u)) (pn + 1) (own_C (ushrI u 7))) (pn + 2) (own_B (ushrI u 14))) (pn + 0) = own_C u := by simp [upd]
        have a1 : (upd (upd (upd g pn (own_C u)) (pn + 1) (own_C (ushrI u 7))) (pn + 2) (own_B (ushrI u 14))) (pn + 1) = own_C (ushrI u 7) := by simp [upd]
        have a2 : (upd (upd (upd g pn (own_C u)) (pn + 1) (own_C (ushrI u 7))) (pn + 2) (own_B (ushrI u 14))) (pn + 2) = own_B (ushrI u 14) := by simp [upd]
        have bp : 0 ≤ (ushrI u 14).toInt ∧ (ushrI u 14).toInt < 128 := by omega
        refine ⟨fun j hj => ?_, fun j hj => ?_, ?_, ?_⟩
        · simp only [upd]; rw [if_neg (by omega)]; rw [if_neg (by omega)]; rw [if_neg (by omega)]
        · rcases (by omega : j = 0 ∨ j = 1) with rfl | rfl
          · rw [a0]; exact own_Cneg _
          · rw [a1]; exact own_Cneg _
        · rw [show 3 - 1 = 2 from rfl, a2]; exact own_Bpos _ bp.1 bp.2
        · show own_rd _ 2 pn 0 0 = u
          simp only [own_rd]
          try simp only [Nat.add_assoc, Nat.reduceAdd]
          rw [show (upd (upd (upd g pn (own_C u)) (pn + 1) (own_C (ushrI u 7))) (pn + 2) (own_B (ushrI u 14))) pn = own_C u from a0, a1, a2]
          have t0 := own_st0 0 (own_C u &&& 127) 0 (u.toInt % 4294967296) (by show (0 : Int) = _; omega) (by rw [own_Cval u]; omega) (by decide)
          have t1 := own_st7 _ (own_C (ushrI u 7) &&& 127) (0 + 7) (u.toInt % 4294967296) t0 (by rw [own_Cval (ushrI u 7)]; omega) (by decide)
          have t2 := own_st14 _ (own_B (ushrI u 14) &&& 127) (0 + 7 + 7) (u.toInt % 4294967296) t1 (by rw [own_Bval (ushrI u 14) bp.1 bp.2]; omega) (by decide)
          exact Int32.toInt_inj.mp (by rw [t2]; omega)
      · skip
        by_cases q28 : ushrI u 28 = 0
        · have u7 := own_us u 7 7 (by decide) (by decide)
          rw [show ((2 ^ 7 : Nat) : Int) = 128 from rfl] at u7
          have u14 := own_us u 14 14 (by decide) (by decide)
          rw [show ((2 ^ 14 : Nat) : Int) = 16384 from rfl] at u14
          have u21 := own_us u 21 21 (by decide) (by decide)
          rw [show ((2 ^ 21 : Nat) : Int) = 2097152 from rfl] at u21
          have u28 := own_us u 28 28 (by decide) (by decide)
          rw [show ((2 ^ 28 : Nat) : Int) = 268435456 from rfl] at u28
          have L : own_len u = 4 := by unfold own_len; rw [if_neg q7, if_neg q14, if_neg q21, if_pos q28]
          have z7 := own_nz q7
          have z14 := own_nz q14
          have z21 := own_nz q21
          have z28 := own_z q28
          have E : g1_x1 u g pn = (upd (upd (upd (upd g pn (own_C u)) (pn + 1) (own_C (ushrI u 7))) (pn + 2) (own_C (ushrI u 14))) (pn + 3) (own_B (ushrI u 21))) := by unfold g1_x1; rw [if_neg q7, if_neg q14, if_neg q21, if_pos q28]; rfl
          rw [L, E]
          have a0 : (upd (upd (upd (upd g pn (own_C u)) (pn + 1) (own_C (ushrI u 7))) (pn + 2) (own_C (ushrI u 14))) (pn + 3) (own_B (ushrI u 21))) (pn + 0) = own_C u := by simp [upd]
          have a1 : (upd (upd (upd (upd g pn (own_C u)) (pn + 1) (own_C (ushrI u 7))) (pn + 2) (own_C (ushrI u 14))) (pn + 3) (own_B (ushrI u 21))) (pn + 1) = own_C (ushrI u 7) := by simp [upd]
          have a2 : (upd (upd (upd (upd g pn (own_C u)) (pn + 1) (own_C (ushrI u 7))) (pn + 2) (own_C (ushrI u 14))) (pn + 3) (own_B (ushrI u 21))) (pn + 2) = own_C (ushrI u 14) := by simp [upd]
          have a3 : (upd (upd (upd (upd g pn (own_C u)) (pn + 1) (own_C (ushrI u 7))) (pn + 2) (own_C (ushrI u 14))) (pn + 3) (own_B (ushrI u 21))) (pn + 3) = own_B (ushrI u 21) := by simp [upd]
          have bp : 0 ≤ (ushrI u 21).toInt ∧ (ushrI u 21).toInt < 128 := by omega
          refine ⟨fun j hj => ?_, fun j hj => ?_, ?_, ?_⟩
          · simp only [upd]; rw [if_neg (by omega)]; rw [if_neg (by omega)]; rw [if_neg (by omega)]; rw [if_neg (by omega)]
          · rcases (by omega : j = 0 ∨ j = 1 ∨ j = 2) with rfl | rfl | rfl
            · rw [a0]; exact own_Cneg _
            · rw [a1]; exact own_Cneg _
            · rw [a2]; exact own_Cneg _
          · rw [show 4 - 1 = 3 from rfl, a3]; exact own_Bpos _ bp.1 bp.2
          · show own_rd _ 3 pn 0 0 = u
            simp only [own_rd]
            try simp only [Nat.add_assoc, Nat.reduceAdd]
            rw [show (upd (upd (upd (upd g pn (own_C u)) (pn + 1) (own_C (ushrI u 7))) (pn + 2) (own_C (ushrI u 14))) (pn + 3) (own_B (ushrI u 21))) pn = own_C u from a0, a1, a2, a3]
            have t0 := own_st0 0 (own_C u &&& 127) 0 (u.toInt % 4294967296) (by show (0 : Int) = _; omega) (by rw [own_Cval u]; omega) (by decide)
            have t1 := own_st7 _ (own_C (ushrI u 7) &&& 127) (0 + 7) (u.toInt % 4294967296) t0 (by rw [own_Cval (ushrI u 7)]; omega) (by decide)
            have t2 := own_st14 _ (own_C (ushrI u 14) &&& 127) (0 + 7 + 7) (u.toInt % 4294967296) t1 (by rw [own_Cval (ushrI u 14)]; omega) (by decide)
            have t3 := own_st21 _ (own_B (ushrI u 21) &&& 127) (0 + 7 + 7 + 7) (u.toInt % 4294967296) t2 (by rw [own_Bval (ushrI u 21) bp.1 bp.2]; omega) (by decide)
            exact Int32.toInt_inj.mp (by rw [t3]; omega)
        · skip
          have u7 := own_us u 7 7 (by decide) (by decide)
          rw [show ((2 ^ 7 : Nat) : Int) = 128 from rfl] at u7
          have u14 := own_us u 14 14 (by decide) (by decide)
          rw [show ((2 ^ 14 : Nat) : Int) = 16384 from rfl] at u14
          have u21 := own_us u 21 21 (by decide) (by decide)
          rw [show ((2 ^ 21 : Nat) : Int) = 2097152 from rfl] at u21
          have u28 := own_us u 28 28 (by decide) (by decide)
          rw [show ((2 ^ 28 : Nat) : Int) = 268435456 from rfl] at u28
          have L : own_len u = 5 := by unfold own_len; rw [if_neg q7, if_neg q14, if_neg q21, if_neg q28]
          have z7 := own_nz q7
          have z14 := own_nz q14
          have z21 := own_nz q21
          have z28 := own_nz q28
          have E : g1_x1 u g pn = (upd (upd (upd (upd (upd g pn (own_C u)) (pn + 1) (own_C (ushrI u 7))) (pn + 2) (own_C (ushrI u 14))) (pn + 3) (own_C (ushrI u 21))) (pn + 4) (own_B (ushrI u 28))) := by unfold g1_x1; rw [if_neg q7, if_neg q14, if_neg q21, if_neg q28]; rfl
          rw [L, E]
          have a0 : (upd (upd (upd (upd (upd g pn (own_C u)) (pn + 1) (own_C (ushrI u 7))) (pn + 2) (own_C (ushrI u 14))) (pn + 3) (own_C (ushrI u 21))) (pn + 4) (own_B (ushrI u 28))) (pn + 0) = own_C u := by simp [upd]
          have a1 : (upd (upd (upd (upd (upd g pn (own_C u)) (pn + 1) (own_C (ushrI u 7))) (pn + 2) (own_C (ushrI u 14))) (pn + 3) (own_C (ushrI u 21))) (pn + 4) (own_B (ushrI u 28))) (pn + 1) = own_C (ushrI u 7) := by simp [upd]
          have a2 : (upd (upd (upd (upd (upd g pn (own_C u)) (pn + 1) (own_C (ushrI u 7))) (pn + 2) (own_C (ushrI u 14))) (pn + 3) (own_C (ushrI u 21))) (pn + 4) (own_B (ushrI u 28))) (pn + 2) = own_C (ushrI u 14) := by simp [upd]
          have a3 : (upd (upd (upd (upd (upd g pn (own_C u)) (pn + 1) (own_C (ushrI u 7))) (pn + 2) (own_C (ushrI u 14))) (pn + 3) (own_C (ushrI u 21))) (pn + 4) (own_B (ushrI u 28))) (pn + 3) = own_C (ushrI u 21) := by simp [upd]
          have a4 : (upd (upd (upd (upd (upd g pn (own_C u)) (pn + 1) (own_C (ushrI u 7))) (pn + 2) (own_C (ushrI u 14))) (pn + 3) (own_C (ushrI u 21))) (pn + 4) (own_B (ushrI u 28))) (pn + 4) = own_B (ushrI u 28) := by simp [upd]
          have bp : 0 ≤ (ushrI u 28).toInt ∧ (ushrI u 28).toInt < 128 := by omega
          refine ⟨fun j hj => ?_, fun j hj => ?_, ?_, ?_⟩
          · simp only [upd]; rw [if_neg (by omega)]; rw [if_neg (by omega)]; rw [if_neg (by omega)]; rw [if_neg (by omega)]; rw [if_neg (by omega)]
          · rcases (by omega : j = 0 ∨ j = 1 ∨ j = 2 ∨ j = 3) with rfl | rfl | rfl | rfl
            · rw [a0]; exact own_Cneg _
            · rw [a1]; exact own_Cneg _
            · rw [a2]; exact own_Cneg _
            · rw [a3]; exact own_Cneg _
          · rw [show 5 - 1 = 4 from rfl, a4]; exact own_Bpos _ bp.1 bp.2
          · show own_rd _ 4 pn 0 0 = u
            simp only [own_rd]
            try simp only [Nat.add_assoc, Nat.reduceAdd]
            rw [show (upd (upd (upd (upd (upd g pn (own_C u)) (pn + 1) (own_C (ushrI u 7))) (pn + 2) (own_C (ushrI u 14))) (pn + 3) (own_C (ushrI u 21))) (pn + 4) (own_B (ushrI u 28))) pn = own_C u from a0, a1, a2, a3, a4]
            have t0 := own_st0 0 (own_C u &&& 127) 0 (u.toInt % 4294967296) (by show (0 : Int) = _; omega) (by rw [own_Cval u]; omega) (by decide)
            have t1 := own_st7 _ (own_C (ushrI u 7) &&& 127) (0 + 7) (u.toInt % 4294967296) t0 (by rw [own_Cval (ushrI u 7)]; omega) (by decide)
            have t2 := own_st14 _ (own_C (ushrI u 14) &&& 127) (0 + 7 + 7) (u.toInt % 4294967296) t1 (by rw [own_Cval (ushrI u 14)]; omega) (by decide)
            have t3 := own_st21 _ (own_C (ushrI u 21) &&& 127) (0 + 7 + 7 + 7) (u.toInt % 4294967296) t2 (by rw [own_Cval (ushrI u 21)]; omega) (by decide)
            exact own_st28 _ _ _ u t3 (by rw [own_Bval (ushrI u 28) bp.1 bp.2]; omega) (by decide)

def own_G1 (a : Int32) : Nat → Int32 := g1_x1 a (fun _ => 0) 0
def own_G2 (a b : Int32) : Nat → Int32 := g1_x1 b (g1_x1 a (fun _ => 0) 0) (0 + own_len a)
theorem own_r1 (a b : Int32) : (∀ j, j < own_len a - 1 → own_G2 a b (0 + j) < 0) ∧ ¬ own_G2 a b (0 + (own_len a - 1)) < 0 ∧ own_rd (own_G2 a b) (own_len a - 1) 0 0 0 = a := by
  obtain ⟨-, h2, h3, h4⟩ := own_enc a (fun _ => 0) 0
  have k1 := (own_enc b (own_G1 a) (0 + own_len a)).1
  have l := own_len_le a
  have e : ∀ j, j ≤ own_len a - 1 → own_G2 a b (0 + j) = own_G1 a (0 + j) := fun j hj => k1 (0 + j) (by omega)
  refine ⟨fun j hj => ?_, ?_, ?_⟩
  · rw [e j (by omega)]; exact h2 j hj
  · rw [e _ (Nat.le_refl _)]; exact h3
  · rw [own_rd_congr (own_G2 a b) (own_G1 a) (own_len a - 1) 0 0 0 e]; exact h4
theorem own_r2 (a b : Int32) : (∀ j, j < own_len b - 1 → own_G2 a b ((0 + own_len a) + j) < 0) ∧ ¬ own_G2 a b ((0 + own_len a) + (own_len b - 1)) < 0 ∧ own_rd (own_G2 a b) (own_len b - 1) (0 + own_len a) 0 0 = b := by
  obtain ⟨-, h2, h3, h4⟩ := own_enc b (own_G1 a) (0 + own_len a)
  exact ⟨h2, h3, h4⟩
theorem own_mid (a : Int32) : (f1 a 0).toInt = ((0 + own_len a : Nat) : Int) := own_f1 a 0 0 rfl (by decide)
theorem own_end (a b : Int32) : (f1 b (f1 a 0)).toInt = ((0 + own_len a + own_len b : Nat) : Int) := own_f1 b _ _ (own_mid a) (by have := own_len_le a; omega)
theorem own_o1 (a : Int32) : (Int32.ofNat (0 + (own_len a - 1) + 1)).toInt = ((0 + own_len a : Nat) : Int) := by
  have l := own_len_le a
  rw [Int32.toInt_ofNat_of_lt (by omega)]; omega
theorem own_o2 (a b : Int32) : (Int32.ofNat (0 + own_len a + (own_len b - 1) + 1)).toInt = ((0 + own_len a + own_len b : Nat) : Int) := by
  have l := own_len_le a
  have l' := own_len_le b
  rw [Int32.toInt_ofNat_of_lt (by omega)]; omega
theorem own_h1 (a b : Int32) : ¬ f5 (f1 b (f1 a 0)) (Int32.ofNat (0 + (own_len a - 1) + 1)) = 0 := by
  unfold f5
  have l := own_len_le b
  rw [if_pos (by rw [Int32.lt_iff_toInt_lt, own_o1, own_end]; omega)]
  decide
theorem own_h2 (a b : Int32) : f5 (f1 b (f1 a 0)) (Int32.ofNat (0 + own_len a + (own_len b - 1) + 1)) = 0 := by
  unfold f5
  rw [if_neg (by rw [Int32.lt_iff_toInt_lt, own_o2, own_end]; omega)]

theorem pd__28I_5bBI_29I : parseMethodDescriptor "(I[BI)I" = some ⟨[.int, (.array .byte), .int], some .int⟩ := by decide +kernel
theorem pd__28_5bBI_29V : parseMethodDescriptor "([BI)V" = some ⟨[(.array .byte), .int], none⟩ := by decide +kernel
theorem pd__28_29I : parseMethodDescriptor "()I" = some ⟨[], some .int⟩ := by decide +kernel
theorem pd__28_29Z : parseMethodDescriptor "()Z" = some ⟨[], some .boolean⟩ := by decide +kernel
theorem ef_0 (m : MethodId) (x0 : Int32) (x1 : Int32) : entryFrame m #[(.int x0), (.int x1)] maxLocals = mkF m 0 #[.val (.int x0), .val (.int x1), .unset, .unset, .unset, .unset, .unset, .unset, .unset, .unset] [] := by first | (simp [entryFrame, mkF, argsToLocals, Value.category, maxLocals]; done) | rfl
def Q0 (Z : State) (x0 : Int32) (x1 : Int32) (h0 : Heap) (n0 : Nat) (v : Option Value) (h : Heap) (L : List Loc) : Prop := v = some (.int (1 : Int32)) ∧ Fr n0 L
set_option maxRecDepth 65536 in
set_option maxHeartbeats 40000000 in
theorem rm0 (l : Launch) (Z : State) (a0 : Array Value) (hw : ∀ d ∈ tables_1, d.before a0 Z = true) (ws : List Jvm.Cond) (x0 : Int32) (x1 : Int32) (h0 : Heap) (n0 : Nat) (Z0 : n0 ≤ h0.size) :
    MetFree l x (head1 (Jvm.Cond.code x code maxLocals ret :: ws) room_1) (fun a U => a = #[(.int x0), (.int x1)] ∧ Z.Warmed39 U.vm ∧ U.heap = h0) (fun _ _ _ _ _ => True) (fun _ U o U' => ∃ v L, o = .returned v ∧ Q0 Z x0 x1 h0 n0 v U'.heap L ∧ FrameEnd U o U' L room_1.cells room_1.slots) := by
  refine g_body (plainFor_of_name pn_1) ?_
  intro p e s m below meth c T0 X0 hx hby hml hret hlk hown hnm hZ e0
  rw [ef_0]
  have N0 := Fr.nil n0
  show Go p e below s _ _ _ (T0.setTop (mkF m 0 #[.val (.int x0), .val (.int x1), .unset, .unset, .unset, .unset, .unset, .unset, .unset, .unset] []))
  refine g_bipush X0 hx (10 : Int32) 2 (hb hby at_0) rfl rfl ?_
  show Go p e below s _ _ _ (T0.setTop (mkF m 2 #[.val (.int x0), .val (.int x1), .unset, .unset, .unset, .unset, .unset, .unset, .unset, .unset] [(.int (10 : Int32))]))
  refine g_newarrayB X0 hx hZ (hw _ (List.mem_of_getElem? (i := 0) rfl)) e0 10 10 rfl (by decide) (by decide) 4 (hb hby at_2) (by decide) (by decide) rfl ?_
  intro T1 h1 b1 g1 X1 e1 E1 A1
  have N_b1 : n0 ≤ b1 := Nat.le_trans Z0 (Nat.le_of_eq g1.symm)
  have Z1 : n0 ≤ h1.size := Nat.le_trans Z0 E1.1
  show Go p e below s _ _ _ (T1.setTop (mkF m 4 #[.val (.int x0), .val (.int x1), .unset, .unset, .unset, .unset, .unset, .unset, .unset, .unset] [(.ref b1)]))
  refine g_astoreN X1 hx #[.val (.int x0), .val (.int x1), .val (.ref b1), .unset, .unset, .unset, .unset, .unset, .unset, .unset] 5 (hb hby at_4) rfl rfl rfl ?_
  show Go p e below s _ _ _ (T1.setTop (mkF m 5 #[.val (.int x0), .val (.int x1), .val (.ref b1), .unset, .unset, .unset, .unset, .unset, .unset, .unset] []))
  refine g_iloadN X1 hx 6 (hb hby at_5) rfl rfl ?_
  show Go p e below s _ _ _ (T1.setTop (mkF m 6 #[.val (.int x0), .val (.int x1), .val (.ref b1), .unset, .unset, .unset, .unset, .unset, .unset, .unset] [(.int x0)]))
  refine g_aloadN X1 hx 7 (hb hby at_6) rfl rfl rfl ?_
  show Go p e below s _ _ _ (T1.setTop (mkF m 7 #[.val (.int x0), .val (.int x1), .val (.ref b1), .unset, .unset, .unset, .unset, .unset, .unset, .unset] [(.ref b1), (.int x0)]))
  refine g_iconst X1 hx (0 : Int32) 8 (hb hby at_7) rfl rfl ?_
  show Go p e below s _ _ _ (T1.setTop (mkF m 8 #[.val (.int x0), .val (.int x1), .val (.ref b1), .unset, .unset, .unset, .unset, .unset, .unset, .unset] [(.int (0 : Int32)), (.ref b1), (.int x0)]))
  refine g_callS X1 hx hZ hown (hw _ (List.mem_of_getElem? (i := 1) rfl)) (hw _ (List.mem_of_getElem? (i := 2) rfl)) (hw _ (List.mem_of_getElem? (i := 3) rfl)) (hw _ (List.mem_of_getElem? (i := 4) rfl)) (by decide) e1 (rm1 l Z a0 hw [] x0 b1 (0 : Int32) 10 (fun _ => (0 : Int32)) 0 h1 n0 Z1 A1 N_b1 (rfl : (0 : Int32).toInt = 0) (by decide : 0 + 5 ≤ 10)) [(.int x0), (.ref b1), (.int (0 : Int32))] [] 0 rfl (lenOf pd__28I_5bBI_29I rfl) rfl (Nat.le_of_eq rfl) (by decide) (by decide) (by decide) (by decide) (by rw [hml]; rfl) (hb hby at_8) ?_
  intro T2 L2 v2 X2 q2
  obtain ⟨rfl, N2, K2, p2_0⟩ := q2
  have NN2 := Fr.app N0 N2
  have Z2 : n0 ≤ T2.heap.size := Nat.le_trans Z1 K2.1
  show Go p e below s _ _ _ (T2.setTop (mkF m 11 #[.val (.int x0), .val (.int x1), .val (.ref b1), .unset, .unset, .unset, .unset, .unset, .unset, .unset] [(.int (f1 x0 (0 : Int32)))]))
  refine g_istoreN X2 hx #[.val (.int x0), .val (.int x1), .val (.ref b1), .val (.int (f1 x0 (0 : Int32))), .unset, .unset, .unset, .unset, .unset, .unset] 12 (hb hby at_11) rfl rfl ?_
  show Go p e below s _ _ _ (T2.setTop (mkF m 12 #[.val (.int x0), .val (.int x1), .val (.ref b1), .val (.int (f1 x0 (0 : Int32))), .unset, .unset, .unset, .unset, .unset, .unset] []))
  refine g_iloadN X2 hx 13 (hb hby at_12) rfl rfl ?_
  show Go p e below s _ _ _ (T2.setTop (mkF m 13 #[.val (.int x0), .val (.int x1), .val (.ref b1), .val (.int (f1 x0 (0 : Int32))), .unset, .unset, .unset, .unset, .unset, .unset] [(.int x1)]))
  refine g_aloadN X2 hx 14 (hb hby at_13) rfl rfl rfl ?_
  show Go p e below s _ _ _ (T2.setTop (mkF m 14 #[.val (.int x0), .val (.int x1), .val (.ref b1), .val (.int (f1 x0 (0 : Int32))), .unset, .unset, .unset, .unset, .unset, .unset] [(.ref b1), (.int x1)]))
  refine g_iloadN X2 hx 15 (hb hby at_14) rfl rfl ?_
  show Go p e below s _ _ _ (T2.setTop (mkF m 15 #[.val (.int x0), .val (.int x1), .val (.ref b1), .val (.int (f1 x0 (0 : Int32))), .unset, .unset, .unset, .unset, .unset, .unset] [(.int (f1 x0 (0 : Int32))), (.ref b1), (.int x1)]))
  refine g_callS X2 hx hZ hown (hw _ (List.mem_of_getElem? (i := 1) rfl)) (hw _ (List.mem_of_getElem? (i := 2) rfl)) (hw _ (List.mem_of_getElem? (i := 3) rfl)) (hw _ (List.mem_of_getElem? (i := 4) rfl)) (by decide) rfl (rm1 l Z a0 hw [] x1 b1 (f1 x0 (0 : Int32)) 10 (g1_x1 x0 (fun _ => (0 : Int32)) 0) (0 + own_len x0) T2.heap n0 Z2 p2_0 N_b1 (own_mid x0 : (f1 x0 (0 : Int32)).toInt = (0 + own_len x0)) (by have := own_len_le x0; omega : (0 + own_len x0) + 5 ≤ 10)) [(.int x1), (.ref b1), (.int (f1 x0 (0 : Int32)))] [] 0 rfl (lenOf pd__28I_5bBI_29I rfl) rfl (Nat.le_of_eq rfl) (by decide) (by decide) (by decide) (by decide) (by rw [hml]; rfl) (hb hby at_15) ?_
  intro T3 L3 v3 X3 q3
  obtain ⟨rfl, N3, K3, p3_0⟩ := q3
  have NN3 := Fr.app NN2 N3
  have Z3 : n0 ≤ T3.heap.size := Nat.le_trans Z2 K3.1
  show Go p e below s _ _ _ (T3.setTop (mkF m 18 #[.val (.int x0), .val (.int x1), .val (.ref b1), .val (.int (f1 x0 (0 : Int32))), .unset, .unset, .unset, .unset, .unset, .unset] [(.int (f1 x1 (f1 x0 (0 : Int32))))]))
  refine g_istore X3 hx #[.val (.int x0), .val (.int x1), .val (.ref b1), .val (.int (f1 x0 (0 : Int32))), .val (.int (f1 x1 (f1 x0 (0 : Int32)))), .unset, .unset, .unset, .unset, .unset] 20 (hb hby at_18) rfl rfl ?_
  show Go p e below s _ _ _ (T3.setTop (mkF m 20 #[.val (.int x0), .val (.int x1), .val (.ref b1), .val (.int (f1 x0 (0 : Int32))), .val (.int (f1 x1 (f1 x0 (0 : Int32)))), .unset, .unset, .unset, .unset, .unset] []))
  refine g_new X3 hx hZ hown (hw _ (List.mem_of_getElem? (i := 5) rfl)) (hw _ (List.mem_of_getElem? (i := 6) rfl)) (hw _ (List.mem_of_getElem? (i := 7) rfl)) rfl 23 (hb hby at_20) (by decide) (by decide) rfl ?_
  intro T4 h4 b4 g4 X4 e4 E4 A4 D4
  have N_b4 : n0 ≤ b4 := Nat.le_trans Z3 (Nat.le_of_eq g4.symm)
  have ne_b1_b4 : b1 ≠ b4 := Nat.ne_of_lt (Nat.lt_of_lt_of_le p3_0.lt (Nat.le_of_eq g4.symm))
  have k4_1 := p3_0.ext E4
  have Z4 : n0 ≤ h4.size := Nat.le_trans Z3 E4.1
  have F4_bytes : Fld Z h4 b4 "com/example/terms_in_context/termsincontext/index/VarIntInput" "bytes" "[B" .null := D4 (Or.inr (hw _ (List.mem_of_getElem? (i := 15) rfl))) (ty := (.array .byte)) (by decide)
  have F4_length : Fld Z h4 b4 "com/example/terms_in_context/termsincontext/index/VarIntInput" "length" "I" (.int (0 : Int32)) := D4 (Or.inr (hw _ (List.mem_of_getElem? (i := 17) rfl))) (ty := .int) (by decide)
  have F4_offset : Fld Z h4 b4 "com/example/terms_in_context/termsincontext/index/VarIntInput" "offset" "I" (.int (0 : Int32)) := D4 (Or.inl (hw _ (List.mem_of_getElem? (i := 24) rfl))) (ty := .int) (by decide)
  show Go p e below s _ _ _ (T4.setTop (mkF m 23 #[.val (.int x0), .val (.int x1), .val (.ref b1), .val (.int (f1 x0 (0 : Int32))), .val (.int (f1 x1 (f1 x0 (0 : Int32)))), .unset, .unset, .unset, .unset, .unset] [(.ref b4)]))
  refine g_dup X4 hx 24 (hb hby at_23) rfl rfl ?_
  show Go p e below s _ _ _ (T4.setTop (mkF m 24 #[.val (.int x0), .val (.int x1), .val (.ref b1), .val (.int (f1 x0 (0 : Int32))), .val (.int (f1 x1 (f1 x0 (0 : Int32)))), .unset, .unset, .unset, .unset, .unset] [(.ref b4), (.ref b4)]))
  refine g_aloadN X4 hx 25 (hb hby at_24) rfl rfl rfl ?_
  show Go p e below s _ _ _ (T4.setTop (mkF m 25 #[.val (.int x0), .val (.int x1), .val (.ref b1), .val (.int (f1 x0 (0 : Int32))), .val (.int (f1 x1 (f1 x0 (0 : Int32)))), .unset, .unset, .unset, .unset, .unset] [(.ref b1), (.ref b4), (.ref b4)]))
  refine g_iload X4 hx 27 (hb hby at_25) rfl rfl ?_
  show Go p e below s _ _ _ (T4.setTop (mkF m 27 #[.val (.int x0), .val (.int x1), .val (.ref b1), .val (.int (f1 x0 (0 : Int32))), .val (.int (f1 x1 (f1 x0 (0 : Int32)))), .unset, .unset, .unset, .unset, .unset] [(.int (f1 x1 (f1 x0 (0 : Int32)))), (.ref b1), (.ref b4), (.ref b4)]))
  refine g_callI X4 hx hZ rfl hown (hw _ (List.mem_of_getElem? (i := 8) rfl)) (hw _ (List.mem_of_getElem? (i := 9) rfl)) (hw _ (List.mem_of_getElem? (i := 7) rfl)) (hw _ (List.mem_of_getElem? (i := 10) rfl)) (by decide) e4 (rm2 l Z a0 hw [] b4 b1 (f1 x1 (f1 x0 (0 : Int32))) h4 n0 Z4 A4 F4_bytes F4_length F4_offset N_b4) b4 [(.ref b1), (.int (f1 x1 (f1 x0 (0 : Int32))))] [(.ref b4)] 1 rfl (lenOf pd__28_5bBI_29V rfl) rfl (Nat.le_of_eq rfl) (by decide) (by decide) (by decide) (by decide) (by rw [hml]; rfl) (hb hby at_27) ?_
  intro T5 L5 v5 X5 q5
  obtain ⟨rfl, N5, K5, p5_0, p5_1, p5_2⟩ := q5
  have NN5 := Fr.app NN3 N5
  have k5_1 := k4_1.keep K5 (nm1 ne_b1_b4 nm0)
  have k5_4 := A4.keep K5
  have Z5 : n0 ≤ T5.heap.size := Nat.le_trans Z4 K5.1
  show Go p e below s _ _ _ (T5.setTop (mkF m 30 #[.val (.int x0), .val (.int x1), .val (.ref b1), .val (.int (f1 x0 (0 : Int32))), .val (.int (f1 x1 (f1 x0 (0 : Int32)))), .unset, .unset, .unset, .unset, .unset] [(.ref b4)]))
  refine g_astore X5 hx #[.val (.int x0), .val (.int x1), .val (.ref b1), .val (.int (f1 x0 (0 : Int32))), .val (.int (f1 x1 (f1 x0 (0 : Int32)))), .val (.ref b4), .unset, .unset, .unset, .unset] 32 (hb hby at_30) rfl rfl rfl ?_
  show Go p e below s _ _ _ (T5.setTop (mkF m 32 #[.val (.int x0), .val (.int x1), .val (.ref b1), .val (.int (f1 x0 (0 : Int32))), .val (.int (f1 x1 (f1 x0 (0 : Int32)))), .val (.ref b4), .unset, .unset, .unset, .unset] []))
  refine g_aload X5 hx 34 (hb hby at_32) rfl rfl rfl ?_
  show Go p e below s _ _ _ (T5.setTop (mkF m 34 #[.val (.int x0), .val (.int x1), .val (.ref b1), .val (.int (f1 x0 (0 : Int32))), .val (.int (f1 x1 (f1 x0 (0 : Int32)))), .val (.ref b4), .unset, .unset, .unset, .unset] [(.ref b4)]))
  refine g_callV X5 hx hZ hown (hw _ (List.mem_of_getElem? (i := 18) rfl)) (hw _ (List.mem_of_getElem? (i := 19) rfl)) (hw _ (List.mem_of_getElem? (i := 21) rfl)) (hw _ (List.mem_of_getElem? (i := 20) rfl)) (hw _ (List.mem_of_getElem? (i := 7) rfl)) (hw _ (List.mem_of_getElem? (i := 22) rfl)) (by decide) rfl b4 k5_4 (rm4 l Z a0 hw [] b4 b1 (f1 x1 (f1 x0 (0 : Int32))) (0 : Int32) 10 (g1_x1 x1 (g1_x1 x0 (fun _ => (0 : Int32)) 0) (0 + own_len x0)) 0 (own_len x0 - 1) T5.heap n0 Z5 k5_4 p5_0 p5_1 p5_2 k5_1 N_b4 (Ne.symm ne_b1_b4) (rfl : (0 : Int32).toInt = 0) (by have := own_len_le x0; omega : 0 + (own_len x0 - 1) < 10) ((own_r1 x0 x1).1 : ∀ j, j < (own_len x0 - 1) → (g1_x1 x1 (g1_x1 x0 (fun _ => (0 : Int32)) 0) (0 + own_len x0)) (0 + j) < 0) ((own_r1 x0 x1).2.1 : ¬ (g1_x1 x1 (g1_x1 x0 (fun _ => (0 : Int32)) 0) (0 + own_len x0)) (0 + (own_len x0 - 1)) < 0)) [] [] 0 rfl (lenOf pd__28_29I rfl) rfl (Nat.le_of_eq rfl) (by decide) (by decide) (by decide) (by decide) (by rw [hml]; rfl) (hb hby at_34) ?_
  intro T6 L6 v6 X6 q6
  obtain ⟨rfl, N6, K6, p6_0, p6_1, p6_2⟩ := q6
  have NN6 := Fr.app NN5 N6
  have k6_1 := k5_1.keep K6 (nm1 ne_b1_b4 nm0)
  have k6_4 := k5_4.keep K6
  have Z6 : n0 ≤ T6.heap.size := Nat.le_trans Z5 K6.1
  show Go p e below s _ _ _ (T6.setTop (mkF m 37 #[.val (.int x0), .val (.int x1), .val (.ref b1), .val (.int (f1 x0 (0 : Int32))), .val (.int (f1 x1 (f1 x0 (0 : Int32)))), .val (.ref b4), .unset, .unset, .unset, .unset] [(.int (own_rd (g1_x1 x1 (g1_x1 x0 (fun _ => (0 : Int32)) 0) (0 + own_len x0)) (own_len x0 - 1) 0 0 0))]))
  refine g_istore X6 hx #[.val (.int x0), .val (.int x1), .val (.ref b1), .val (.int (f1 x0 (0 : Int32))), .val (.int (f1 x1 (f1 x0 (0 : Int32)))), .val (.ref b4), .val (.int (own_rd (g1_x1 x1 (g1_x1 x0 (fun _ => (0 : Int32)) 0) (0 + own_len x0)) (own_len x0 - 1) 0 0 0)), .unset, .unset, .unset] 39 (hb hby at_37) rfl rfl ?_
  show Go p e below s _ _ _ (T6.setTop (mkF m 39 #[.val (.int x0), .val (.int x1), .val (.ref b1), .val (.int (f1 x0 (0 : Int32))), .val (.int (f1 x1 (f1 x0 (0 : Int32)))), .val (.ref b4), .val (.int (own_rd (g1_x1 x1 (g1_x1 x0 (fun _ => (0 : Int32)) 0) (0 + own_len x0)) (own_len x0 - 1) 0 0 0)), .unset, .unset, .unset] []))
  refine g_aload X6 hx 41 (hb hby at_39) rfl rfl rfl ?_
  show Go p e below s _ _ _ (T6.setTop (mkF m 41 #[.val (.int x0), .val (.int x1), .val (.ref b1), .val (.int (f1 x0 (0 : Int32))), .val (.int (f1 x1 (f1 x0 (0 : Int32)))), .val (.ref b4), .val (.int (own_rd (g1_x1 x1 (g1_x1 x0 (fun _ => (0 : Int32)) 0) (0 + own_len x0)) (own_len x0 - 1) 0 0 0)), .unset, .unset, .unset] [(.ref b4)]))
  refine g_callV X6 hx hZ hown (hw _ (List.mem_of_getElem? (i := 25) rfl)) (hw _ (List.mem_of_getElem? (i := 26) rfl)) (hw _ (List.mem_of_getElem? (i := 28) rfl)) (hw _ (List.mem_of_getElem? (i := 27) rfl)) (hw _ (List.mem_of_getElem? (i := 7) rfl)) (hw _ (List.mem_of_getElem? (i := 29) rfl)) (by decide) rfl b4 k6_4 (rm5 l Z a0 hw [] b4 (f1 x1 (f1 x0 (0 : Int32))) (Int32.ofNat (0 + (own_len x0 - 1) + 1)) T6.heap p6_1 p6_2) [] [] 0 rfl (lenOf pd__28_29Z rfl) rfl (Nat.le_of_eq rfl) (by decide) (by decide) (by decide) (by decide) (by rw [hml]; rfl) (hb hby at_41) ?_
  intro T7 L7 v7 X7 q7
  obtain ⟨rfl, rfl, e7⟩ := q7
  have NS7 := Fr.app NN6 (Fr.nil n0)
  show Go p e below s _ _ _ (T7.setTop (mkF m 44 #[.val (.int x0), .val (.int x1), .val (.ref b1), .val (.int (f1 x0 (0 : Int32))), .val (.int (f1 x1 (f1 x0 (0 : Int32)))), .val (.ref b4), .val (.int (own_rd (g1_x1 x1 (g1_x1 x0 (fun _ => (0 : Int32)) 0) (0 + own_len x0)) (own_len x0 - 1) 0 0 0)), .unset, .unset, .unset] [(.int (f5 (f1 x1 (f1 x0 (0 : Int32))) (Int32.ofNat (0 + (own_len x0 - 1) + 1))))]))
  refine g_istore X7 hx #[.val (.int x0), .val (.int x1), .val (.ref b1), .val (.int (f1 x0 (0 : Int32))), .val (.int (f1 x1 (f1 x0 (0 : Int32)))), .val (.ref b4), .val (.int (own_rd (g1_x1 x1 (g1_x1 x0 (fun _ => (0 : Int32)) 0) (0 + own_len x0)) (own_len x0 - 1) 0 0 0)), .val (.int (f5 (f1 x1 (f1 x0 (0 : Int32))) (Int32.ofNat (0 + (own_len x0 - 1) + 1)))), .unset, .unset] 46 (hb hby at_44) rfl rfl ?_
  show Go p e below s _ _ _ (T7.setTop (mkF m 46 #[.val (.int x0), .val (.int x1), .val (.ref b1), .val (.int (f1 x0 (0 : Int32))), .val (.int (f1 x1 (f1 x0 (0 : Int32)))), .val (.ref b4), .val (.int (own_rd (g1_x1 x1 (g1_x1 x0 (fun _ => (0 : Int32)) 0) (0 + own_len x0)) (own_len x0 - 1) 0 0 0)), .val (.int (f5 (f1 x1 (f1 x0 (0 : Int32))) (Int32.ofNat (0 + (own_len x0 - 1) + 1)))), .unset, .unset] []))
  refine g_aload X7 hx 48 (hb hby at_46) rfl rfl rfl ?_
  show Go p e below s _ _ _ (T7.setTop (mkF m 48 #[.val (.int x0), .val (.int x1), .val (.ref b1), .val (.int (f1 x0 (0 : Int32))), .val (.int (f1 x1 (f1 x0 (0 : Int32)))), .val (.ref b4), .val (.int (own_rd (g1_x1 x1 (g1_x1 x0 (fun _ => (0 : Int32)) 0) (0 + own_len x0)) (own_len x0 - 1) 0 0 0)), .val (.int (f5 (f1 x1 (f1 x0 (0 : Int32))) (Int32.ofNat (0 + (own_len x0 - 1) + 1)))), .unset, .unset] [(.ref b4)]))
  refine g_callV X7 hx hZ hown (hw _ (List.mem_of_getElem? (i := 18) rfl)) (hw _ (List.mem_of_getElem? (i := 19) rfl)) (hw _ (List.mem_of_getElem? (i := 21) rfl)) (hw _ (List.mem_of_getElem? (i := 20) rfl)) (hw _ (List.mem_of_getElem? (i := 7) rfl)) (hw _ (List.mem_of_getElem? (i := 22) rfl)) (by decide) e7 b4 k6_4 (rm4 l Z a0 hw [] b4 b1 (f1 x1 (f1 x0 (0 : Int32))) (Int32.ofNat (0 + (own_len x0 - 1) + 1)) 10 (g1_x1 x1 (g1_x1 x0 (fun _ => (0 : Int32)) 0) (0 + own_len x0)) (0 + own_len x0) (own_len x1 - 1) T6.heap n0 Z6 k6_4 p6_0 p6_1 p6_2 k6_1 N_b4 (Ne.symm ne_b1_b4) (own_o1 x0 : (Int32.ofNat (0 + (own_len x0 - 1) + 1)).toInt = (0 + own_len x0)) (by have := own_len_le x0; have := own_len_le x1; omega : (0 + own_len x0) + (own_len x1 - 1) < 10) ((own_r2 x0 x1).1 : ∀ j, j < (own_len x1 - 1) → (g1_x1 x1 (g1_x1 x0 (fun _ => (0 : Int32)) 0) (0 + own_len x0)) ((0 + own_len x0) + j) < 0) ((own_r2 x0 x1).2.1 : ¬ (g1_x1 x1 (g1_x1 x0 (fun _ => (0 : Int32)) 0) (0 + own_len x0)) ((0 + own_len x0) + (own_len x1 - 1)) < 0)) [] [] 0 rfl (lenOf pd__28_29I rfl) rfl (Nat.le_of_eq rfl) (by decide) (by decide) (by decide) (by decide) (by rw [hml]; rfl) (hb hby at_48) ?_
  intro T8 L8 v8 X8 q8
  obtain ⟨rfl, N8, K8, p8_0, p8_1, p8_2⟩ := q8
  have NN8 := Fr.app NS7 N8
  have k8_1 := k6_1.keep K8 (nm1 ne_b1_b4 nm0)
  have k8_4 := k6_4.keep K8
  have Z8 : n0 ≤ T8.heap.size := Nat.le_trans Z6 K8.1
  show Go p e below s _ _ _ (T8.setTop (mkF m 51 #[.val (.int x0), .val (.int x1), .val (.ref b1), .val (.int (f1 x0 (0 : Int32))), .val (.int (f1 x1 (f1 x0 (0 : Int32)))), .val (.ref b4), .val (.int (own_rd (g1_x1 x1 (g1_x1 x0 (fun _ => (0 : Int32)) 0) (0 + own_len x0)) (own_len x0 - 1) 0 0 0)), .val (.int (f5 (f1 x1 (f1 x0 (0 : Int32))) (Int32.ofNat (0 + (own_len x0 - 1) + 1)))), .unset, .unset] [(.int (own_rd (g1_x1 x1 (g1_x1 x0 (fun _ => (0 : Int32)) 0) (0 + own_len x0)) (own_len x1 - 1) (0 + own_len x0) 0 0))]))
  refine g_istore X8 hx #[.val (.int x0), .val (.int x1), .val (.ref b1), .val (.int (f1 x0 (0 : Int32))), .val (.int (f1 x1 (f1 x0 (0 : Int32)))), .val (.ref b4), .val (.int (own_rd (g1_x1 x1 (g1_x1 x0 (fun _ => (0 : Int32)) 0) (0 + own_len x0)) (own_len x0 - 1) 0 0 0)), .val (.int (f5 (f1 x1 (f1 x0 (0 : Int32))) (Int32.ofNat (0 + (own_len x0 - 1) + 1)))), .val (.int (own_rd (g1_x1 x1 (g1_x1 x0 (fun _ => (0 : Int32)) 0) (0 + own_len x0)) (own_len x1 - 1) (0 + own_len x0) 0 0)), .unset] 53 (hb hby at_51) rfl rfl ?_
  show Go p e below s _ _ _ (T8.setTop (mkF m 53 #[.val (.int x0), .val (.int x1), .val (.ref b1), .val (.int (f1 x0 (0 : Int32))), .val (.int (f1 x1 (f1 x0 (0 : Int32)))), .val (.ref b4), .val (.int (own_rd (g1_x1 x1 (g1_x1 x0 (fun _ => (0 : Int32)) 0) (0 + own_len x0)) (own_len x0 - 1) 0 0 0)), .val (.int (f5 (f1 x1 (f1 x0 (0 : Int32))) (Int32.ofNat (0 + (own_len x0 - 1) + 1)))), .val (.int (own_rd (g1_x1 x1 (g1_x1 x0 (fun _ => (0 : Int32)) 0) (0 + own_len x0)) (own_len x1 - 1) (0 + own_len x0) 0 0)), .unset] []))
  refine g_aload X8 hx 55 (hb hby at_53) rfl rfl rfl ?_
  show Go p e below s _ _ _ (T8.setTop (mkF m 55 #[.val (.int x0), .val (.int x1), .val (.ref b1), .val (.int (f1 x0 (0 : Int32))), .val (.int (f1 x1 (f1 x0 (0 : Int32)))), .val (.ref b4), .val (.int (own_rd (g1_x1 x1 (g1_x1 x0 (fun _ => (0 : Int32)) 0) (0 + own_len x0)) (own_len x0 - 1) 0 0 0)), .val (.int (f5 (f1 x1 (f1 x0 (0 : Int32))) (Int32.ofNat (0 + (own_len x0 - 1) + 1)))), .val (.int (own_rd (g1_x1 x1 (g1_x1 x0 (fun _ => (0 : Int32)) 0) (0 + own_len x0)) (own_len x1 - 1) (0 + own_len x0) 0 0)), .unset] [(.ref b4)]))
  refine g_callV X8 hx hZ hown (hw _ (List.mem_of_getElem? (i := 25) rfl)) (hw _ (List.mem_of_getElem? (i := 26) rfl)) (hw _ (List.mem_of_getElem? (i := 28) rfl)) (hw _ (List.mem_of_getElem? (i := 27) rfl)) (hw _ (List.mem_of_getElem? (i := 7) rfl)) (hw _ (List.mem_of_getElem? (i := 29) rfl)) (by decide) rfl b4 k8_4 (rm5 l Z a0 hw [] b4 (f1 x1 (f1 x0 (0 : Int32))) (Int32.ofNat ((0 + own_len x0) + (own_len x1 - 1) + 1)) T8.heap p8_1 p8_2) [] [] 0 rfl (lenOf pd__28_29Z rfl) rfl (Nat.le_of_eq rfl) (by decide) (by decide) (by decide) (by decide) (by rw [hml]; rfl) (hb hby at_55) ?_
  intro T9 L9 v9 X9 q9
  obtain ⟨rfl, rfl, e9⟩ := q9
  have NS9 := Fr.app NN8 (Fr.nil n0)
  show Go p e below s _ _ _ (T9.setTop (mkF m 58 #[.val (.int x0), .val (.int x1), .val (.ref b1), .val (.int (f1 x0 (0 : Int32))), .val (.int (f1 x1 (f1 x0 (0 : Int32)))), .val (.ref b4), .val (.int (own_rd (g1_x1 x1 (g1_x1 x0 (fun _ => (0 : Int32)) 0) (0 + own_len x0)) (own_len x0 - 1) 0 0 0)), .val (.int (f5 (f1 x1 (f1 x0 (0 : Int32))) (Int32.ofNat (0 + (own_len x0 - 1) + 1)))), .val (.int (own_rd (g1_x1 x1 (g1_x1 x0 (fun _ => (0 : Int32)) 0) (0 + own_len x0)) (own_len x1 - 1) (0 + own_len x0) 0 0)), .unset] [(.int (f5 (f1 x1 (f1 x0 (0 : Int32))) (Int32.ofNat ((0 + own_len x0) + (own_len x1 - 1) + 1))))]))
  refine g_istore X9 hx #[.val (.int x0), .val (.int x1), .val (.ref b1), .val (.int (f1 x0 (0 : Int32))), .val (.int (f1 x1 (f1 x0 (0 : Int32)))), .val (.ref b4), .val (.int (own_rd (g1_x1 x1 (g1_x1 x0 (fun _ => (0 : Int32)) 0) (0 + own_len x0)) (own_len x0 - 1) 0 0 0)), .val (.int (f5 (f1 x1 (f1 x0 (0 : Int32))) (Int32.ofNat (0 + (own_len x0 - 1) + 1)))), .val (.int (own_rd (g1_x1 x1 (g1_x1 x0 (fun _ => (0 : Int32)) 0) (0 + own_len x0)) (own_len x1 - 1) (0 + own_len x0) 0 0)), .val (.int (f5 (f1 x1 (f1 x0 (0 : Int32))) (Int32.ofNat ((0 + own_len x0) + (own_len x1 - 1) + 1))))] 60 (hb hby at_58) rfl rfl ?_
  show Go p e below s _ _ _ (T9.setTop (mkF m 60 #[.val (.int x0), .val (.int x1), .val (.ref b1), .val (.int (f1 x0 (0 : Int32))), .val (.int (f1 x1 (f1 x0 (0 : Int32)))), .val (.ref b4), .val (.int (own_rd (g1_x1 x1 (g1_x1 x0 (fun _ => (0 : Int32)) 0) (0 + own_len x0)) (own_len x0 - 1) 0 0 0)), .val (.int (f5 (f1 x1 (f1 x0 (0 : Int32))) (Int32.ofNat (0 + (own_len x0 - 1) + 1)))), .val (.int (own_rd (g1_x1 x1 (g1_x1 x0 (fun _ => (0 : Int32)) 0) (0 + own_len x0)) (own_len x1 - 1) (0 + own_len x0) 0 0)), .val (.int (f5 (f1 x1 (f1 x0 (0 : Int32))) (Int32.ofNat ((0 + own_len x0) + (own_len x1 - 1) + 1))))] []))
  refine g_iload X9 hx 62 (hb hby at_60) rfl rfl ?_
  show Go p e below s _ _ _ (T9.setTop (mkF m 62 #[.val (.int x0), .val (.int x1), .val (.ref b1), .val (.int (f1 x0 (0 : Int32))), .val (.int (f1 x1 (f1 x0 (0 : Int32)))), .val (.ref b4), .val (.int (own_rd (g1_x1 x1 (g1_x1 x0 (fun _ => (0 : Int32)) 0) (0 + own_len x0)) (own_len x0 - 1) 0 0 0)), .val (.int (f5 (f1 x1 (f1 x0 (0 : Int32))) (Int32.ofNat (0 + (own_len x0 - 1) + 1)))), .val (.int (own_rd (g1_x1 x1 (g1_x1 x0 (fun _ => (0 : Int32)) 0) (0 + own_len x0)) (own_len x1 - 1) (0 + own_len x0) 0 0)), .val (.int (f5 (f1 x1 (f1 x0 (0 : Int32))) (Int32.ofNat ((0 + own_len x0) + (own_len x1 - 1) + 1))))] [(.int (own_rd (g1_x1 x1 (g1_x1 x0 (fun _ => (0 : Int32)) 0) (0 + own_len x0)) (own_len x0 - 1) 0 0 0))]))
  refine g_iloadN X9 hx 63 (hb hby at_62) rfl rfl ?_
  show Go p e below s _ _ _ (T9.setTop (mkF m 63 #[.val (.int x0), .val (.int x1), .val (.ref b1), .val (.int (f1 x0 (0 : Int32))), .val (.int (f1 x1 (f1 x0 (0 : Int32)))), .val (.ref b4), .val (.int (own_rd (g1_x1 x1 (g1_x1 x0 (fun _ => (0 : Int32)) 0) (0 + own_len x0)) (own_len x0 - 1) 0 0 0)), .val (.int (f5 (f1 x1 (f1 x0 (0 : Int32))) (Int32.ofNat (0 + (own_len x0 - 1) + 1)))), .val (.int (own_rd (g1_x1 x1 (g1_x1 x0 (fun _ => (0 : Int32)) 0) (0 + own_len x0)) (own_len x1 - 1) (0 + own_len x0) 0 0)), .val (.int (f5 (f1 x1 (f1 x0 (0 : Int32))) (Int32.ofNat ((0 + own_len x0) + (own_len x1 - 1) + 1))))] [(.int x0), (.int (own_rd (g1_x1 x1 (g1_x1 x0 (fun _ => (0 : Int32)) 0) (0 + own_len x0)) (own_len x0 - 1) 0 0 0))]))
  have h10 : (own_rd (g1_x1 x1 (g1_x1 x0 (fun _ => (0 : Int32)) 0) (0 + own_len x0)) (own_len x0 - 1) 0 0 0) = x0 := (own_r1 x0 x1).2.2
  refine g_icmp_ne X9 hx 86 66 (hb hby at_63) (by decide) rfl rfl (fun _ => ?_) (fun q => absurd h10 q)
  show Go p e below s _ _ _ (T9.setTop (mkF m 66 #[.val (.int x0), .val (.int x1), .val (.ref b1), .val (.int (f1 x0 (0 : Int32))), .val (.int (f1 x1 (f1 x0 (0 : Int32)))), .val (.ref b4), .val (.int (own_rd (g1_x1 x1 (g1_x1 x0 (fun _ => (0 : Int32)) 0) (0 + own_len x0)) (own_len x0 - 1) 0 0 0)), .val (.int (f5 (f1 x1 (f1 x0 (0 : Int32))) (Int32.ofNat (0 + (own_len x0 - 1) + 1)))), .val (.int (own_rd (g1_x1 x1 (g1_x1 x0 (fun _ => (0 : Int32)) 0) (0 + own_len x0)) (own_len x1 - 1) (0 + own_len x0) 0 0)), .val (.int (f5 (f1 x1 (f1 x0 (0 : Int32))) (Int32.ofNat ((0 + own_len x0) + (own_len x1 - 1) + 1))))] []))
  refine g_iload X9 hx 68 (hb hby at_66) rfl rfl ?_
  show Go p e below s _ _ _ (T9.setTop (mkF m 68 #[.val (.int x0), .val (.int x1), .val (.ref b1), .val (.int (f1 x0 (0 : Int32))), .val (.int (f1 x1 (f1 x0 (0 : Int32)))), .val (.ref b4), .val (.int (own_rd (g1_x1 x1 (g1_x1 x0 (fun _ => (0 : Int32)) 0) (0 + own_len x0)) (own_len x0 - 1) 0 0 0)), .val (.int (f5 (f1 x1 (f1 x0 (0 : Int32))) (Int32.ofNat (0 + (own_len x0 - 1) + 1)))), .val (.int (own_rd (g1_x1 x1 (g1_x1 x0 (fun _ => (0 : Int32)) 0) (0 + own_len x0)) (own_len x1 - 1) (0 + own_len x0) 0 0)), .val (.int (f5 (f1 x1 (f1 x0 (0 : Int32))) (Int32.ofNat ((0 + own_len x0) + (own_len x1 - 1) + 1))))] [(.int (f5 (f1 x1 (f1 x0 (0 : Int32))) (Int32.ofNat (0 + (own_len x0 - 1) + 1))))]))
  have h11 : ¬ ((f5 (f1 x1 (f1 x0 (0 : Int32))) (Int32.ofNat (0 + (own_len x0 - 1) + 1))) = (0 : Int32)) := own_h1 x0 x1
  refine g_if0_eq X9 hx 86 71 (hb hby at_68) (by decide) rfl rfl (fun q => absurd q h11) (fun _ => ?_)
  show Go p e below s _ _ _ (T9.setTop (mkF m 71 #[.val (.int x0), .val (.int x1), .val (.ref b1), .val (.int (f1 x0 (0 : Int32))), .val (.int (f1 x1 (f1 x0 (0 : Int32)))), .val (.ref b4), .val (.int (own_rd (g1_x1 x1 (g1_x1 x0 (fun _ => (0 : Int32)) 0) (0 + own_len x0)) (own_len x0 - 1) 0 0 0)), .val (.int (f5 (f1 x1 (f1 x0 (0 : Int32))) (Int32.ofNat (0 + (own_len x0 - 1) + 1)))), .val (.int (own_rd (g1_x1 x1 (g1_x1 x0 (fun _ => (0 : Int32)) 0) (0 + own_len x0)) (own_len x1 - 1) (0 + own_len x0) 0 0)), .val (.int (f5 (f1 x1 (f1 x0 (0 : Int32))) (Int32.ofNat ((0 + own_len x0) + (own_len x1 - 1) + 1))))] []))
  refine g_iload X9 hx 73 (hb hby at_71) rfl rfl ?_
  show Go p e below s _ _ _ (T9.setTop (mkF m 73 #[.val (.int x0), .val (.int x1), .val (.ref b1), .val (.int (f1 x0 (0 : Int32))), .val (.int (f1 x1 (f1 x0 (0 : Int32)))), .val (.ref b4), .val (.int (own_rd (g1_x1 x1 (g1_x1 x0 (fun _ => (0 : Int32)) 0) (0 + own_len x0)) (own_len x0 - 1) 0 0 0)), .val (.int (f5 (f1 x1 (f1 x0 (0 : Int32))) (Int32.ofNat (0 + (own_len x0 - 1) + 1)))), .val (.int (own_rd (g1_x1 x1 (g1_x1 x0 (fun _ => (0 : Int32)) 0) (0 + own_len x0)) (own_len x1 - 1) (0 + own_len x0) 0 0)), .val (.int (f5 (f1 x1 (f1 x0 (0 : Int32))) (Int32.ofNat ((0 + own_len x0) + (own_len x1 - 1) + 1))))] [(.int (own_rd (g1_x1 x1 (g1_x1 x0 (fun _ => (0 : Int32)) 0) (0 + own_len x0)) (own_len x1 - 1) (0 + own_len x0) 0 0))]))
  refine g_iloadN X9 hx 74 (hb hby at_73) rfl rfl ?_
  show Go p e below s _ _ _ (T9.setTop (mkF m 74 #[.val (.int x0), .val (.int x1), .val (.ref b1), .val (.int (f1 x0 (0 : Int32))), .val (.int (f1 x1 (f1 x0 (0 : Int32)))), .val (.ref b4), .val (.int (own_rd (g1_x1 x1 (g1_x1 x0 (fun _ => (0 : Int32)) 0) (0 + own_len x0)) (own_len x0 - 1) 0 0 0)), .val (.int (f5 (f1 x1 (f1 x0 (0 : Int32))) (Int32.ofNat (0 + (own_len x0 - 1) + 1)))), .val (.int (own_rd (g1_x1 x1 (g1_x1 x0 (fun _ => (0 : Int32)) 0) (0 + own_len x0)) (own_len x1 - 1) (0 + own_len x0) 0 0)), .val (.int (f5 (f1 x1 (f1 x0 (0 : Int32))) (Int32.ofNat ((0 + own_len x0) + (own_len x1 - 1) + 1))))] [(.int x1), (.int (own_rd (g1_x1 x1 (g1_x1 x0 (fun _ => (0 : Int32)) 0) (0 + own_len x0)) (own_len x1 - 1) (0 + own_len x0) 0 0))]))
  have h12 : (own_rd (g1_x1 x1 (g1_x1 x0 (fun _ => (0 : Int32)) 0) (0 + own_len x0)) (own_len x1 - 1) (0 + own_len x0) 0 0) = x1 := (own_r2 x0 x1).2.2
  refine g_icmp_ne X9 hx 86 77 (hb hby at_74) (by decide) rfl rfl (fun _ => ?_) (fun q => absurd h12 q)
  show Go p e below s _ _ _ (T9.setTop (mkF m 77 #[.val (.int x0), .val (.int x1), .val (.ref b1), .val (.int (f1 x0 (0 : Int32))), .val (.int (f1 x1 (f1 x0 (0 : Int32)))), .val (.ref b4), .val (.int (own_rd (g1_x1 x1 (g1_x1 x0 (fun _ => (0 : Int32)) 0) (0 + own_len x0)) (own_len x0 - 1) 0 0 0)), .val (.int (f5 (f1 x1 (f1 x0 (0 : Int32))) (Int32.ofNat (0 + (own_len x0 - 1) + 1)))), .val (.int (own_rd (g1_x1 x1 (g1_x1 x0 (fun _ => (0 : Int32)) 0) (0 + own_len x0)) (own_len x1 - 1) (0 + own_len x0) 0 0)), .val (.int (f5 (f1 x1 (f1 x0 (0 : Int32))) (Int32.ofNat ((0 + own_len x0) + (own_len x1 - 1) + 1))))] []))
  refine g_iload X9 hx 79 (hb hby at_77) rfl rfl ?_
  show Go p e below s _ _ _ (T9.setTop (mkF m 79 #[.val (.int x0), .val (.int x1), .val (.ref b1), .val (.int (f1 x0 (0 : Int32))), .val (.int (f1 x1 (f1 x0 (0 : Int32)))), .val (.ref b4), .val (.int (own_rd (g1_x1 x1 (g1_x1 x0 (fun _ => (0 : Int32)) 0) (0 + own_len x0)) (own_len x0 - 1) 0 0 0)), .val (.int (f5 (f1 x1 (f1 x0 (0 : Int32))) (Int32.ofNat (0 + (own_len x0 - 1) + 1)))), .val (.int (own_rd (g1_x1 x1 (g1_x1 x0 (fun _ => (0 : Int32)) 0) (0 + own_len x0)) (own_len x1 - 1) (0 + own_len x0) 0 0)), .val (.int (f5 (f1 x1 (f1 x0 (0 : Int32))) (Int32.ofNat ((0 + own_len x0) + (own_len x1 - 1) + 1))))] [(.int (f5 (f1 x1 (f1 x0 (0 : Int32))) (Int32.ofNat ((0 + own_len x0) + (own_len x1 - 1) + 1))))]))
  have h13 : (f5 (f1 x1 (f1 x0 (0 : Int32))) (Int32.ofNat ((0 + own_len x0) + (own_len x1 - 1) + 1))) = (0 : Int32) := own_h2 x0 x1
  refine g_if0_ne X9 hx 86 82 (hb hby at_79) (by decide) rfl rfl (fun _ => ?_) (fun q => absurd h13 q)
  show Go p e below s _ _ _ (T9.setTop (mkF m 82 #[.val (.int x0), .val (.int x1), .val (.ref b1), .val (.int (f1 x0 (0 : Int32))), .val (.int (f1 x1 (f1 x0 (0 : Int32)))), .val (.ref b4), .val (.int (own_rd (g1_x1 x1 (g1_x1 x0 (fun _ => (0 : Int32)) 0) (0 + own_len x0)) (own_len x0 - 1) 0 0 0)), .val (.int (f5 (f1 x1 (f1 x0 (0 : Int32))) (Int32.ofNat (0 + (own_len x0 - 1) + 1)))), .val (.int (own_rd (g1_x1 x1 (g1_x1 x0 (fun _ => (0 : Int32)) 0) (0 + own_len x0)) (own_len x1 - 1) (0 + own_len x0) 0 0)), .val (.int (f5 (f1 x1 (f1 x0 (0 : Int32))) (Int32.ofNat ((0 + own_len x0) + (own_len x1 - 1) + 1))))] []))
  refine g_iconst X9 hx (1 : Int32) 83 (hb hby at_82) rfl rfl ?_
  show Go p e below s _ _ _ (T9.setTop (mkF m 83 #[.val (.int x0), .val (.int x1), .val (.ref b1), .val (.int (f1 x0 (0 : Int32))), .val (.int (f1 x1 (f1 x0 (0 : Int32)))), .val (.ref b4), .val (.int (own_rd (g1_x1 x1 (g1_x1 x0 (fun _ => (0 : Int32)) 0) (0 + own_len x0)) (own_len x0 - 1) 0 0 0)), .val (.int (f5 (f1 x1 (f1 x0 (0 : Int32))) (Int32.ofNat (0 + (own_len x0 - 1) + 1)))), .val (.int (own_rd (g1_x1 x1 (g1_x1 x0 (fun _ => (0 : Int32)) 0) (0 + own_len x0)) (own_len x1 - 1) (0 + own_len x0) 0 0)), .val (.int (f5 (f1 x1 (f1 x0 (0 : Int32))) (Int32.ofNat ((0 + own_len x0) + (own_len x1 - 1) + 1))))] [(.int (1 : Int32))]))
  refine g_goto X9 hx 87 (hb hby at_83) (by decide) rfl ?_
  show Go p e below s _ _ _ (T9.setTop (mkF m 87 #[.val (.int x0), .val (.int x1), .val (.ref b1), .val (.int (f1 x0 (0 : Int32))), .val (.int (f1 x1 (f1 x0 (0 : Int32)))), .val (.ref b4), .val (.int (own_rd (g1_x1 x1 (g1_x1 x0 (fun _ => (0 : Int32)) 0) (0 + own_len x0)) (own_len x0 - 1) 0 0 0)), .val (.int (f5 (f1 x1 (f1 x0 (0 : Int32))) (Int32.ofNat (0 + (own_len x0 - 1) + 1)))), .val (.int (own_rd (g1_x1 x1 (g1_x1 x0 (fun _ => (0 : Int32)) 0) (0 + own_len x0)) (own_len x1 - 1) (0 + own_len x0) 0 0)), .val (.int (f5 (f1 x1 (f1 x0 (0 : Int32))) (Int32.ofNat ((0 + own_len x0) + (own_len x1 - 1) + 1))))] [(.int (1 : Int32))]))
  exact g_retN X9 hx hret (by simp) hlk (hb hby at_87) (by decide) (by decide) ⟨rfl, NS9⟩
set_option maxRecDepth 65536 in
set_option maxHeartbeats 40000000 in
theorem comes_1 {Post : Tables → Env → Array Value → State → Outcome → State → Prop} (hpost : ∀ tb e args s v u, (limb_1_1.after args s (.returned v) u = true ∧ limb_1_2.after args s (.returned v) u = true ∧ True) → FrameEnd s (.returned v) u (Jvm.fieldLocs frame_1_writes args s ++ Jvm.arrayLocs frame_1_arrays args s ++ Jvm.staticLocs frame_1_statics s) 16 128 → Post tb e args s (.returned v) u) :
    ArmFor flags0 classFile x code maxLocals ret World_1 tables_1 room_1 Calls_1 rest_1 Pre_1 Post := by
  intro l hfl _ _ p e ha hc hk s m args below hf hA hF happ hP
  obtain ⟨hcalls, hrest, hpre⟩ := hP
  obtain ⟨-, -, -, hnamed, -, -, -, hat⟩ := (Spec.applies_iff hf).mp happ
  obtain ⟨hg, hn⟩ := and_e (Cond.before_iff.mp (show (Jvm.Cond.and given_1 narrow_1).before args s = true from hpre))
  obtain ⟨g1, g2⟩ := and_e hg
  obtain ⟨g3, g4⟩ := and_e g2
  obtain ⟨w0, w1, rfl⟩ : ∃ w0 w1 : Value, args = #[w0, w1] := by
    have hs : args.size = 2 := by simpa [Cond.value, given_1] using g1
    obtain ⟨L⟩ := args
    match L, hs with
    | [w0, w1], _ => exact ⟨w0, w1, rfl⟩
  have hw := fun d (hd : d ∈ tables_1) => atoms_spec (ws := Jvm.Cond.code x code maxLocals ret :: tables_1) hat d (List.mem_cons_of_mem _ hd)
  obtain ⟨i0, ei0⟩ := is_v g3
  obtain rfl : w0 = (.int i0) := Option.some.inj ei0
  obtain ⟨i1, ei1⟩ := is_v g4
  obtain rfl : w1 = (.int i1) := Option.some.inj ei1
  obtain ⟨n, o, h1, h2, h3, _, L, rfl, ⟨rfl, N⟩, hq⟩ := rm0 l s _ hw tables_1 i0 i1 s.heap s.heap.size (Nat.le_refl _) p e ha hc hk s m _ below hf ((Spec.applies_iff_loose hf).mp happ).1 ⟨rfl, State.Warmed39.refl s, rfl⟩ trivial
  refine ⟨n, _, h1, h2, h3, hpost _ _ _ _ _ _ ⟨Cond.after_iff.mpr rfl, Cond.after_iff.mpr (eq_i res_at (Term.int_eval (1)) rfl), trivial⟩ ⟨hq.1, hq.2.1, (hq.2.2.sift fun y hy => Or.inr (N y hy)).mono (by decide) (by decide)⟩⟩
theorem main_1_1 : Claimed_1_1 := comes_1 fun _ _ _ _ _ _ h hF => ⟨h.1, hF⟩
theorem main_1_2 : Claimed_1_2 := comes_1 fun _ _ _ _ _ _ h hF => ⟨h.2.1, hF⟩
end Jvm.Pilot.@@N@@
namespace Jvm.Pilot.@@N@@
open Jvm Jvm.ClassFile Sem Op Lib Jvm.Free Jvm.Stand Jvm.Pilot.@@N@@.Jvm.D
/-! MADE BY PROGRAM (witnessworld.py) out of the Statement's table words and the real class files: 9 classes; the members and pool entries that the words name. The judged class is class 1, her method 2. -/
namespace start1
open Jvm.ClassFile
def u (s : String) : CpInfo := .utf8 (stringToUtf16 s)
/-- a pool by its gaps: so many unusable entries, then the entry; so many at the end -/
def gap : Nat → List CpInfo → List CpInfo
  | 0, r => r
  | n + 1, r => .unusable :: gap n r
def poolList (es : List (Nat × CpInfo)) (last : Nat) : List CpInfo := es.foldr (fun e r => gap e.1 (e.2 :: r)) (gap last [])
def pool (es : List (Nat × CpInfo)) (last : Nat) : Array CpInfo := ⟨poolList es last⟩
def fileOf (pool : Array CpInfo) (this : Nat) (attrs : Array Attribute := #[]) (ms : Array MethodInfo := #[]) (fl : Nat := 33) (sup : Nat := 0) (ifs : Array Nat := #[]) (fds : Array FieldInfo := #[]) : ClassFile where
  minorVersion := 0
  majorVersion := 65
  constantPool := pool
  accessFlags := fl
  thisClass := this
  superClass := sup
  interfaces := ifs
  fields := fds
  methods := ms
  attributes := attrs
def plain (name : String) (sup : Option ClassId) : Class where
  name := name
  kind := .ordinary
  loader := none
  accessFlags := 33
  super := sup
  interfaces := #[]
  cf := none
  fields := #[]
  methods := #[]
  instanceTypes := #[]
  staticTypes := #[]
  resolved := #[]
  callSites := []
  init := .initialized
  statics := none
  mirror := none

def pool0 : Array CpInfo := pool [(5, u "<init>"), (0, u "()V"), (1, .class_ 10), (1, u "java/lang/Object")] 113

def k0c0 : Code := { maxStack := 0, maxLocals := 1, code := object_method_1_code, exceptionTable := #[], attributes := #[] }
def k0m0 : Method := { name := "<init>", desc := "()V", sig := { parameters := [], returnType := none }, accessFlags := 1, code := some k0c0 }
/-- java/lang/Object -/
def k0 : Class := { plain "java/lang/Object" none with
  accessFlags := 33
  interfaces := #[]
  cf := some (fileOf pool0 8 #[] #[{ accessFlags := 1, nameIndex := 5, descriptorIndex := 6, attributes := #[] }] 33 0 #[] #[])
  fields := #[]
  methods := #[k0m0]
  instanceTypes := #[]
  staticTypes := #[]
  resolved := Array.replicate 124 none
  statics := none }

def pool1 : Array CpInfo := pool [(2, .class_ 4), (1, u "java/lang/Object"), (0, u "<init>"), (0, u "()V"), (0, .methodref 8 9), (0, .class_ 10), (0, .nameAndType 11 12), (0, u "com/example/terms_in_context/termsincontext/index/VarIntInputReadPinLaw"), (0, u "enc"), (0, u "(I[BI)I"), (0, .class_ 14), (0, u "com/example/terms_in_context/termsincontext/index/VarIntInput"), (0, .methodref 13 16), (0, .nameAndType 5 17), (0, u "([BI)V"), (0, .methodref 13 19), (0, .nameAndType 20 21), (0, u "read"), (0, u "()I"), (0, .methodref 13 23), (0, .nameAndType 24 25), (0, u "hasMore"), (0, u "()Z"), (3, u "law"), (0, u "(II)Z")] 4

def k1m0 : Method := { name := "<init>", desc := "()V", sig := { parameters := [], returnType := none }, accessFlags := 2, code := none }
def k1c1 : Code := { maxStack := 4, maxLocals := 3, code := method_2_code, exceptionTable := #[], attributes := #[] }
def k1m1 : Method := { name := "enc", desc := "(I[BI)I", sig := { parameters := [.int, (.array .byte), .int], returnType := some .int }, accessFlags := 10, code := some k1c1 }
def k1c2 : Code := { maxStack := 4, maxLocals := 10, code := code, exceptionTable := #[], attributes := #[] }
def k1m2 : Method := { name := "law", desc := "(II)Z", sig := { parameters := [.int, .int], returnType := some .boolean }, accessFlags := 9, code := some k1c2 }
/-- com/example/terms_in_context/termsincontext/index/VarIntInputReadPinLaw -/
def k1 : Class := { plain "com/example/terms_in_context/termsincontext/index/VarIntInputReadPinLaw" (some 0) with
  accessFlags := 49
  interfaces := #[]
  cf := some (fileOf pool1 8 #[] #[{ accessFlags := 2, nameIndex := 5, descriptorIndex := 6, attributes := #[] }, { accessFlags := 10, nameIndex := 11, descriptorIndex := 12, attributes := #[] }, { accessFlags := 9, nameIndex := 29, descriptorIndex := 30, attributes := #[] }] 49 2 #[] #[])
  fields := #[]
  methods := #[k1m0, k1m1, k1m2]
  instanceTypes := #[]
  staticTypes := #[]
  resolved := Array.replicate 35 none
  statics := none }

def pool2 : Array CpInfo := pool [(1, .methodref 2 3), (0, .class_ 4), (0, .nameAndType 5 6), (0, u "java/lang/Object"), (0, u "<init>"), (0, u "()V"), (0, .fieldref 8 9), (0, .class_ 10), (0, .nameAndType 11 12), (0, u "com/example/terms_in_context/termsincontext/index/VarIntInput"), (0, u "bytes"), (0, u "[B"), (0, .fieldref 8 14), (0, .nameAndType 15 16), (0, u "length"), (0, u "I"), (0, .fieldref 8 18), (0, .nameAndType 19 16), (0, u "offset"), (0, u "([BI)V"), (2, u "hasMore"), (0, u "()Z"), (1, u "read"), (0, u "()I")] 2

def k2c0 : Code := { maxStack := 2, maxLocals := 3, code := prog_29_method_1_code, exceptionTable := #[], attributes := #[] }
def k2m0 : Method := { name := "<init>", desc := "([BI)V", sig := { parameters := [(.array .byte), .int], returnType := none }, accessFlags := 0, code := some k2c0 }
def k2c1 : Code := { maxStack := 2, maxLocals := 1, code := prog_29_method_2_code, exceptionTable := #[], attributes := #[] }
def k2m1 : Method := { name := "hasMore", desc := "()Z", sig := { parameters := [], returnType := some .boolean }, accessFlags := 0, code := some k2c1 }
def k2c2 : Code := { maxStack := 5, maxLocals := 4, code := prog_29_method_3_code, exceptionTable := #[], attributes := #[] }
def k2m2 : Method := { name := "read", desc := "()I", sig := { parameters := [], returnType := some .int }, accessFlags := 0, code := some k2c2 }
/-- com/example/terms_in_context/termsincontext/index/VarIntInput -/
def k2 : Class := { plain "com/example/terms_in_context/termsincontext/index/VarIntInput" (some 0) with
  accessFlags := 48
  interfaces := #[]
  cf := some (fileOf pool2 8 #[] #[{ accessFlags := 0, nameIndex := 5, descriptorIndex := 20, attributes := #[] }, { accessFlags := 0, nameIndex := 23, descriptorIndex := 24, attributes := #[] }, { accessFlags := 0, nameIndex := 26, descriptorIndex := 27, attributes := #[] }] 48 2 #[] #[{ accessFlags := 18, nameIndex := 11, descriptorIndex := 12, attributes := #[] }, { accessFlags := 18, nameIndex := 15, descriptorIndex := 16, attributes := #[] }, { accessFlags := 2, nameIndex := 19, descriptorIndex := 16, attributes := #[] }])
  fields := #[{ name := "bytes", type := (.array .byte), accessFlags := 18, slot := 0, constantValue := 0 }, { name := "length", type := .int, accessFlags := 18, slot := 1, constantValue := 0 }, { name := "offset", type := .int, accessFlags := 2, slot := 2, constantValue := 0 }]
  methods := #[k2m0, k2m1, k2m2]
  instanceTypes := #[(.array .byte), .int, .int]
  staticTypes := #[]
  resolved := Array.replicate 30 none
  statics := none }

def pool3 : Array CpInfo := pool [(1, u "java/lang/Cloneable"), (0, .class_ 1), (0, u "java/lang/Object"), (0, .class_ 3)] 3

/-- java/lang/Cloneable -/
def k3 : Class := { plain "java/lang/Cloneable" (some 0) with
  accessFlags := 1537
  interfaces := #[]
  cf := some (fileOf pool3 2 #[] #[] 1537 4 #[] #[])
  fields := #[]
  methods := #[]
  instanceTypes := #[]
  staticTypes := #[]
  resolved := Array.replicate 8 none
  statics := none }

def pool4 : Array CpInfo := pool [(1, u "java/io/Serializable"), (0, .class_ 1), (0, u "java/lang/Object"), (0, .class_ 3)] 3

/-- java/io/Serializable -/
def k4 : Class := { plain "java/io/Serializable" (some 0) with
  accessFlags := 1537
  interfaces := #[]
  cf := some (fileOf pool4 2 #[] #[] 1537 4 #[] #[])
  fields := #[]
  methods := #[]
  instanceTypes := #[]
  staticTypes := #[]
  resolved := Array.replicate 8 none
  statics := none }

/-- the primitive byte -/
def k5 : Class := { plain "byte" none with kind := .primitive 'B', accessFlags := 0x411 }
/-- [B -/
def k6 : Class := { plain "[B" (some 0) with kind := .array 5 .byte, interfaces := #[3, 4], accessFlags := 1041 }

/-- the primitive int -/
def k7 : Class := { plain "int" none with kind := .primitive 'I', accessFlags := 0x411 }
/-- [I -/
def k8 : Class := { plain "[I" (some 0) with kind := .array 7 .int, interfaces := #[3, 4], accessFlags := 1041 }

def heap : Heap := #[]
def classes : Array Class := #[k0, k1, k2, k3, k4, k5, k6, k7, k8]
def interned : List (Array UInt16 × Addr) := []
def slotsUsed : Nat := 0
def theMethod : MethodId := ⟨1, 2⟩
def args0 : Array Value := #[.int 5, .int 300]
def aboutOver (below : List Frame) : State where
  vm := { classes := classes, interned := interned.toArray }
  heap := heap
  slotsUsed := slotsUsed
  threads := #[{ frames := .invoking theMethod args0 :: below }]
def below0 : List Frame := [.native { method := ⟨0, 0⟩, args := #[] }]
def about1 : State := aboutOver below0
def p0 : Program := .bare "" "" ""
def e0 : Env := launch0.env 0 0 0
theorem w_frames : about1.frames = Frame.invoking theMethod args0 :: below0 := rfl
set_option maxRecDepth 65536 in
theorem w_args : argsFit about1.vm theMethod args0 = true := by decide +kernel
set_option maxRecDepth 65536 in
theorem w_heap : heapFits about1 = true := by decide +kernel
set_option maxRecDepth 65536 in
theorem w_runnable : about1.curStatus? = some .runnable := by decide +kernel
set_option maxRecDepth 65536 in
theorem w_alone : about1.alone = true := by decide +kernel
set_option maxRecDepth 65536 in
theorem w_named : about1.methodNamed? x = some theMethod := by decide +kernel
set_option maxRecDepth 65536 in
theorem w_hears : about1.hears theMethod below0 = true := by decide +kernel
set_option maxRecDepth 65536 in
theorem w_ripe : about1.ripe theMethod args0 below0 = true := by decide +kernel
theorem w_running : about1.status = .running := rfl
set_option maxRecDepth 65536 in
theorem w_room : about1.hasRoom e0.platform room_1 = true :=
  launch0.hasRoom_least _ room_1 (by decide +kernel) (by decide +kernel) (by decide +kernel) (by decide +kernel) (by decide +kernel) (by decide +kernel)
theorem allAtoms_all (ts : List Jvm.Cond) (a : Array Jvm.Value) (st : Jvm.State) : (allAtoms ts).before a st = ts.all (fun c => c.before a st) := by
  induction ts with
  | nil => rfl
  | cons c t ih =>
    show (Jvm.Cond.and c (allAtoms t)).before a st = _
    rw [Jvm.Cond.before_and, ih, List.all_cons]
def words1 : List Jvm.Cond := Jvm.Cond.code x code maxLocals ret :: tables_1
/-- a 'code' word, met by the world's own term for the bytes: nothing is compared byte by byte -/
theorem code_word {y : MethodName} {bytes : ByteArray} {mx : Nat} {rt : Option FieldType} {a : Array Value} {s : State} {m : MethodId} {meth : Method} {c : Code} (h1 : s.methodNamed? y = some m) (h2 : s.vm.method? m = some meth) (h3 : meth.code = some c) (h4 : c.code = bytes)
    (h5 : (c.maxLocals == mx && c.exceptionTable.isEmpty && decide (c.maxStack ≤ mostOperands) && decide (meth.sig.returnType = rt) && !meth.locks && decide (parseMethodDescriptor y.desc = some meth.sig)) = true) : (Jvm.Cond.code y bytes mx rt).before a s = true := by
  simp only [Bool.and_eq_true, beq_iff_eq, Bool.not_eq_true', decide_eq_true_eq] at h5
  obtain ⟨⟨⟨⟨⟨g1, g2⟩, g3⟩, g4⟩, g5⟩, g6⟩ := h5
  simp [Cond.before, Cond.holds, Cond.value, h1, h2, h3, h4, g1, g2, g3, g4, g5, g6]
def isCode : Jvm.Cond → Bool
  | .code _ _ _ _ => true
  | _ => false
theorem all_split {L : List Jvm.Cond} {P : Jvm.Cond → Bool} (h1 : L.all (fun c => isCode c || P c) = true) (h2 : ∀ c ∈ L.filter isCode, P c = true) : L.all P = true := by
  refine List.all_eq_true.mpr fun c hc => ?_
  have h := List.all_eq_true.mp h1 c hc
  rcases Bool.eq_false_or_eq_true (isCode c) with hi | hi
  · exact h2 c (List.mem_filter.mpr ⟨hc, hi⟩)
  · simpa [hi] using h
set_option maxRecDepth 65536 in
theorem w_c0 : (Jvm.Cond.code x code maxLocals ret).before args0 about1 = true := code_word (m := ⟨1, 2⟩) (meth := k1m2) (c := k1c2) (by decide +kernel) rfl rfl rfl (by decide +kernel)
set_option maxRecDepth 65536 in
theorem w_c1 : (Jvm.Cond.code ({ cls := "com/example/terms_in_context/termsincontext/index/VarIntInputReadPinLaw", name := "enc", desc := "(I[BI)I" } : Jvm.MethodName) method_2_code (3 : Nat) (Option.some Jvm.ClassFile.FieldType.int)).before args0 about1 = true := code_word (m := ⟨1, 1⟩) (meth := k1m1) (c := k1c1) (by decide +kernel) rfl rfl rfl (by decide +kernel)
set_option maxRecDepth 65536 in
theorem w_c2 : (Jvm.Cond.code ({ cls := "com/example/terms_in_context/termsincontext/index/VarIntInput", name := "<init>", desc := "([BI)V" } : Jvm.MethodName) prog_29_method_1_code (3 : Nat) (Option.none : Option Jvm.ClassFile.FieldType)).before args0 about1 = true := code_word (m := ⟨2, 0⟩) (meth := k2m0) (c := k2c0) (by decide +kernel) rfl rfl rfl (by decide +kernel)
set_option maxRecDepth 65536 in
theorem w_c3 : (Jvm.Cond.code ({ cls := "java/lang/Object", name := "<init>", desc := "()V" } : Jvm.MethodName) object_method_1_code (1 : Nat) (Option.none : Option Jvm.ClassFile.FieldType)).before args0 about1 = true := code_word (m := ⟨0, 0⟩) (meth := k0m0) (c := k0c0) (by decide +kernel) rfl rfl rfl (by decide +kernel)
set_option maxRecDepth 65536 in
theorem w_c4 : (Jvm.Cond.code ({ cls := "com/example/terms_in_context/termsincontext/index/VarIntInput", name := "read", desc := "()I" } : Jvm.MethodName) prog_29_method_3_code (4 : Nat) (Option.some Jvm.ClassFile.FieldType.int)).before args0 about1 = true := code_word (m := ⟨2, 2⟩) (meth := k2m2) (c := k2c2) (by decide +kernel) rfl rfl rfl (by decide +kernel)
set_option maxRecDepth 65536 in
theorem w_c5 : (Jvm.Cond.code ({ cls := "com/example/terms_in_context/termsincontext/index/VarIntInput", name := "hasMore", desc := "()Z" } : Jvm.MethodName) prog_29_method_2_code (1 : Nat) (Option.some Jvm.ClassFile.FieldType.boolean)).before args0 about1 = true := code_word (m := ⟨2, 1⟩) (meth := k2m1) (c := k2c1) (by decide +kernel) rfl rfl rfl (by decide +kernel)
def codes1 : List Jvm.Cond := [Jvm.Cond.code x code maxLocals ret, Jvm.Cond.code ({ cls := "com/example/terms_in_context/termsincontext/index/VarIntInputReadPinLaw", name := "enc", desc := "(I[BI)I" } : Jvm.MethodName) method_2_code (3 : Nat) (Option.some Jvm.ClassFile.FieldType.int), Jvm.Cond.code ({ cls := "com/example/terms_in_context/termsincontext/index/VarIntInput", name := "<init>", desc := "([BI)V" } : Jvm.MethodName) prog_29_method_1_code (3 : Nat) (Option.none : Option Jvm.ClassFile.FieldType), Jvm.Cond.code ({ cls := "java/lang/Object", name := "<init>", desc := "()V" } : Jvm.MethodName) object_method_1_code (1 : Nat) (Option.none : Option Jvm.ClassFile.FieldType), Jvm.Cond.code ({ cls := "com/example/terms_in_context/termsincontext/index/VarIntInput", name := "read", desc := "()I" } : Jvm.MethodName) prog_29_method_3_code (4 : Nat) (Option.some Jvm.ClassFile.FieldType.int), Jvm.Cond.code ({ cls := "com/example/terms_in_context/termsincontext/index/VarIntInput", name := "hasMore", desc := "()Z" } : Jvm.MethodName) prog_29_method_2_code (1 : Nat) (Option.some Jvm.ClassFile.FieldType.boolean)]
set_option maxRecDepth 65536 in
theorem codes_eq : words1.filter isCode = codes1 := rfl
theorem w_codes : ∀ c ∈ words1.filter isCode, c.before args0 about1 = true := by
  rw [codes_eq]
  intro c hc
  simp only [codes1, List.mem_cons, List.not_mem_nil, or_false] at hc
  rcases hc with rfl | rfl | rfl | rfl | rfl | rfl
  · exact w_c0
  · exact w_c1
  · exact w_c2
  · exact w_c3
  · exact w_c4
  · exact w_c5
set_option maxRecDepth 65536 in
theorem w_t1 : (words1.take 24).all (fun c => isCode c || c.before args0 about1) = true := by decide +kernel
set_option maxRecDepth 65536 in
theorem w_t2 : (words1.drop 24).all (fun c => isCode c || c.before args0 about1) = true := by decide +kernel
theorem w_tables : (allAtoms (Jvm.Cond.code x code maxLocals ret :: tables_1)).before args0 about1 = true := by
  rw [allAtoms_all]
  show words1.all (fun c => c.before args0 about1) = true
  refine all_split ?_ w_codes
  rw [← List.take_append_drop 24 words1, List.all_append, w_t1, w_t2]
  rfl
set_option maxRecDepth 65536 in
theorem w_case : (Jvm.Cond.and given_1 narrow_1).before args0 about1 = true := by decide +kernel
theorem w_applies : (headSpec (Jvm.Cond.code x code maxLocals ret :: tables_1) room_1).applies x e0.platform about1 = true :=
  (Spec.applies_iff w_frames).mpr ⟨w_running, w_runnable, w_alone, w_named, w_hears, w_ripe, w_room, w_tables⟩
theorem atStart : AtStart classFile x code maxLocals ret World_1 tables_1 room_1 Calls_1 rest_1 Pre_1 launch0 p0 e0 about1 theMethod args0 below0 :=
  ⟨lists_1, trivial, launch0.admits_env _ _ _, launch0.least_env, fairChoices_fair.cas, fairChoices_fair.clock, w_frames, w_args, w_heap, w_applies, trivial, trivial, w_case⟩
end start1
theorem witness_1 : WitnessClaimed_1 := ⟨start1.p0, start1.e0, start1.about1, start1.theMethod, start1.args0, start1.below0, start1.atStart⟩
end Jvm.Pilot.@@N@@
