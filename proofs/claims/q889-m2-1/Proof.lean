import JvmDerived
import JvmDerived.Pilot.@@N@@Statement
import JvmDerived.Pilot.@@N@@Code
set_option linter.unusedVariables false
set_option linter.unusedSimpArgs false
namespace Jvm.RoadKit
open Sem ClassFile Op Lib Jvm.Stand Jvm.Free Jvm.LawKit
section New
variable {p : Program} {l : Launch} {e : Env} {R : Room} {s : State} {m : MethodId} {args : Array Value} {below : List Frame} {meth : Method} {c : Code} {T : State} {locs : List Loc} {cells slots : Nat}
theorem retI (X : Stand p l e R s m args below meth c T locs cells slots) (hx : p.tables.exec = Jvm.exec) {pc : Nat} {Ls : Array Slot} {z : Int32} {rest : List Value} (hret : meth.sig.returnType = some .int) (hd : decode c.code pc = .ok (.ireturn, 1)) {fs : List Frame}
    (hl : ∀ (f : JFrame) (acts : List Action), f.method = m → f.locked = none → f.entered = [] → (doReturn e (T.setTop f) acts (some (.int z))).1 = T.setFrames fs) : Steps p.tables e below (T.setTop (mkF m pc Ls (.int z :: rest))) (T.setFrames fs) := by
  have hm' : T.vm.method? m = some meth := X.method'
  have hn : narrow .int (.int z) = .int z := rfl
  show Steps p.tables e below (T.setTop { method := m, pc := pc, locals := Ls, stack := _ :: rest, locked := none }) _
  jvm_step X.here [X.here.top, hx, hd, hm', hret, hn]
  first | (intro acts; rw [hl _ acts rfl rfl rfl]) | rw [hl _ _ rfl rfl rfl]
  exact Steps.refl _
end New
end Jvm.RoadKit
namespace Jvm.Pilot.@@N@@
open Jvm Jvm.ClassFile Sem Op Lib Jvm.Free Jvm.Stand Jvm.LawKit Jvm.RoadKit Bundle Jvm.Pilot.@@N@@.Jvm.D
section OwnKit
variable {p : Program} {l : Launch} {e : Env} {R : Room} {s : State} {m : MethodId} {args : Array Value} {below : List Frame} {meth : Method} {c : Code} {T : State} {locs : List Loc} {cells slots : Nat} {Z : State} {a0 : Array Value} {h : Heap}
variable {Q : Option Value → Heap → List Loc → Prop} {rc rs pc : Nat} {Ls : Array Slot} {st : List Value}
def Go (p : Program) (e : Env) (below : List Frame) (s : State) (Q : Option Value → Heap → List Loc → Prop) (rc rs : Nat) (F : State) : Prop :=
  ∃ s₂ o, Steps p.tables e below F s₂ ∧ s₂.status = .running ∧ Ended s₂ below o ∧ ∃ v L, o = .returned v ∧ Q v s₂.heap L ∧ FrameEnd s o s₂ L rc rs
theorem Go.by {F F' : State} (g : Go p e below s Q rc rs F') (h : ∀ t, Steps p.tables e below F' t → Steps p.tables e below F t) : Go p e below s Q rc rs F := by
  obtain ⟨s2, o, h1, r⟩ := g
  exact ⟨s2, o, h _ h1, r⟩
def shlI (x y : Int32) : Int32 := x <<< (y &&& 31)
def shrI (x y : Int32) : Int32 := x >>> (y &&& 31)
def ushrI (x y : Int32) : Int32 := (x.toUInt32 >>> (y &&& 31).toUInt32).toInt32
def shlJ (x : Int64) (y : Int32) : Int64 := x <<< (y &&& 0x3f).toInt64
def shrJ (x : Int64) (y : Int32) : Int64 := x >>> (y &&& 0x3f).toInt64
def ushrJ (x : Int64) (y : Int32) : Int64 := (x.toUInt64 >>> (y &&& 0x3f).toInt64.toUInt64).toInt64
def i2bI (x : Int32) : Int32 := x.toInt8.toInt32
def i2cI (x : Int32) : Int32 := x.toUInt32.toUInt16.toUInt32.toInt32
def i2sI (x : Int32) : Int32 := x.toInt16.toInt32
theorem g_iload (X : Stand p l e R s m args below meth c T locs cells slots) (hx : p.tables.exec = Jvm.exec) {k : Nat} {v : Int32} (pc' : Nat) (hd : decode c.code pc = .ok (.iload k, 2)) (hl : Ls[k]? = some (.val (.int v))) (hp : pc + 2 = pc') (g : Go p e below s Q rc rs (T.setTop (mkF m pc' Ls (.int v :: st)))) : Go p e below s Q rc rs (T.setTop (mkF m pc Ls st)) := by
  subst hp; exact g.by fun t k => XS.iload X.here hx rfl hd hl k
theorem g_iloadN (X : Stand p l e R s m args below meth c T locs cells slots) (hx : p.tables.exec = Jvm.exec) {k : Fin 4} {v : Int32} (pc' : Nat) (hd : decode c.code pc = .ok (.iload_n k, 1)) (hl : Ls[k.val]? = some (.val (.int v))) (hp : pc + 1 = pc') (g : Go p e below s Q rc rs (T.setTop (mkF m pc' Ls (.int v :: st)))) : Go p e below s Q rc rs (T.setTop (mkF m pc Ls st)) := by
  subst hp; exact g.by fun t k => XS.iloadN X.here hx rfl hd hl k
theorem g_istore (X : Stand p l e R s m args below meth c T locs cells slots) (hx : p.tables.exec = Jvm.exec) {k : Nat} {v : Int32} (l' : Array Slot) (pc' : Nat) (hd : decode c.code pc = .ok (.istore k, 2)) (hl : storeLocals Ls k (.int v) = some l') (hp : pc + 2 = pc') (g : Go p e below s Q rc rs (T.setTop (mkF m pc' l' st))) : Go p e below s Q rc rs (T.setTop (mkF m pc Ls (.int v :: st))) := by
  subst hp; exact g.by fun t k => XS.istore X.here hx rfl hd rfl hl k
theorem g_istoreN (X : Stand p l e R s m args below meth c T locs cells slots) (hx : p.tables.exec = Jvm.exec) {k : Fin 4} {v : Int32} (l' : Array Slot) (pc' : Nat) (hd : decode c.code pc = .ok (.istore_n k, 1)) (hl : storeLocals Ls k.val (.int v) = some l') (hp : pc + 1 = pc') (g : Go p e below s Q rc rs (T.setTop (mkF m pc' l' st))) : Go p e below s Q rc rs (T.setTop (mkF m pc Ls (.int v :: st))) := by
  subst hp; exact g.by fun t k => XS.istoreN X.here hx rfl hd rfl hl k
theorem g_lload (X : Stand p l e R s m args below meth c T locs cells slots) (hx : p.tables.exec = Jvm.exec) {k : Nat} {v : Int64} (pc' : Nat) (hd : decode c.code pc = .ok (.lload k, 2)) (hl : Ls[k]? = some (.val (.long v))) (hp : pc + 2 = pc') (g : Go p e below s Q rc rs (T.setTop (mkF m pc' Ls (.long v :: st)))) : Go p e below s Q rc rs (T.setTop (mkF m pc Ls st)) := by
  subst hp; exact g.by fun t k => XS.lload X.here hx rfl hd hl k
theorem g_lloadN (X : Stand p l e R s m args below meth c T locs cells slots) (hx : p.tables.exec = Jvm.exec) {k : Fin 4} {v : Int64} (pc' : Nat) (hd : decode c.code pc = .ok (.lload_n k, 1)) (hl : Ls[k.val]? = some (.val (.long v))) (hp : pc + 1 = pc') (g : Go p e below s Q rc rs (T.setTop (mkF m pc' Ls (.long v :: st)))) : Go p e below s Q rc rs (T.setTop (mkF m pc Ls st)) := by
  subst hp; exact g.by fun t k => XS.lloadN X.here hx rfl hd hl k
theorem g_lstore (X : Stand p l e R s m args below meth c T locs cells slots) (hx : p.tables.exec = Jvm.exec) {k : Nat} {v : Int64} (l' : Array Slot) (pc' : Nat) (hd : decode c.code pc = .ok (.lstore k, 2)) (hl : storeLocals Ls k (.long v) = some l') (hp : pc + 2 = pc') (g : Go p e below s Q rc rs (T.setTop (mkF m pc' l' st))) : Go p e below s Q rc rs (T.setTop (mkF m pc Ls (.long v :: st))) := by
  subst hp; exact g.by fun t k => XS.lstore X.here hx rfl hd rfl hl k
theorem g_lstoreN (X : Stand p l e R s m args below meth c T locs cells slots) (hx : p.tables.exec = Jvm.exec) {k : Fin 4} {v : Int64} (l' : Array Slot) (pc' : Nat) (hd : decode c.code pc = .ok (.lstore_n k, 1)) (hl : storeLocals Ls k.val (.long v) = some l') (hp : pc + 1 = pc') (g : Go p e below s Q rc rs (T.setTop (mkF m pc' l' st))) : Go p e below s Q rc rs (T.setTop (mkF m pc Ls (.long v :: st))) := by
  subst hp; exact g.by fun t k => XS.lstoreN X.here hx rfl hd rfl hl k
theorem g_aload (X : Stand p l e R s m args below meth c T locs cells slots) (hx : p.tables.exec = Jvm.exec) {k : Nat} {v : Value} (pc' : Nat) (hd : decode c.code pc = .ok (.aload k, 2)) (hl : Ls[k]? = some (.val v)) (hv : v.isRef = true) (hp : pc + 2 = pc') (g : Go p e below s Q rc rs (T.setTop (mkF m pc' Ls (v :: st)))) : Go p e below s Q rc rs (T.setTop (mkF m pc Ls st)) := by
  subst hp; exact g.by fun t k => XS.aload X.here hx rfl hd hl hv k
theorem g_aloadN (X : Stand p l e R s m args below meth c T locs cells slots) (hx : p.tables.exec = Jvm.exec) {k : Fin 4} {v : Value} (pc' : Nat) (hd : decode c.code pc = .ok (.aload_n k, 1)) (hl : Ls[k.val]? = some (.val v)) (hv : v.isRef = true) (hp : pc + 1 = pc') (g : Go p e below s Q rc rs (T.setTop (mkF m pc' Ls (v :: st)))) : Go p e below s Q rc rs (T.setTop (mkF m pc Ls st)) := by
  subst hp; exact g.by fun t k => XS.aloadN X.here hx rfl hd hl hv k
theorem g_astore (X : Stand p l e R s m args below meth c T locs cells slots) (hx : p.tables.exec = Jvm.exec) {k : Nat} {v : Value} (l' : Array Slot) (pc' : Nat) (hd : decode c.code pc = .ok (.astore k, 2)) (hl : storeLocals Ls k v = some l') (hv : v.isRef = true) (hp : pc + 2 = pc') (g : Go p e below s Q rc rs (T.setTop (mkF m pc' l' st))) : Go p e below s Q rc rs (T.setTop (mkF m pc Ls (v :: st))) := by
  subst hp; exact g.by fun t k => XS.astore X.here hx rfl hd rfl hv hl k
theorem g_astoreN (X : Stand p l e R s m args below meth c T locs cells slots) (hx : p.tables.exec = Jvm.exec) {k : Fin 4} {v : Value} (l' : Array Slot) (pc' : Nat) (hd : decode c.code pc = .ok (.astore_n k, 1)) (hl : storeLocals Ls k.val v = some l') (hv : v.isRef = true) (hp : pc + 1 = pc') (g : Go p e below s Q rc rs (T.setTop (mkF m pc' l' st))) : Go p e below s Q rc rs (T.setTop (mkF m pc Ls (v :: st))) := by
  subst hp; exact g.by fun t k => XS.astoreN X.here hx rfl hd rfl hv hl k
theorem g_istoreS (X : Stand p l e R s m args below meth c T locs cells slots) (hx : p.tables.exec = Jvm.exec) {k : Nat} {v : Int32} {os : Slot} (l' : Array Slot) (pc' : Nat) (hd : decode c.code pc = .ok (.istore k, 2)) (hold : Ls[k]? = some os) (ho : One os) (hl : Ls.setIfInBounds k (.val (.int v)) = l') (hp : pc + 2 = pc') (g : Go p e below s Q rc rs (T.setTop (mkF m pc' l' st))) : Go p e below s Q rc rs (T.setTop (mkF m pc Ls ((.int v) :: st))) := by
  subst hp; exact g.by fun t k => XS.istore X.here hx rfl hd rfl (hl ▸ XS.store1 hold ho rfl) k
theorem g_istoreNS (X : Stand p l e R s m args below meth c T locs cells slots) (hx : p.tables.exec = Jvm.exec) {k : Fin 4} {v : Int32} {os : Slot} (l' : Array Slot) (pc' : Nat) (hd : decode c.code pc = .ok (.istore_n k, 1)) (hold : Ls[k.val]? = some os) (ho : One os) (hl : Ls.setIfInBounds k.val (.val (.int v)) = l') (hp : pc + 1 = pc') (g : Go p e below s Q rc rs (T.setTop (mkF m pc' l' st))) : Go p e below s Q rc rs (T.setTop (mkF m pc Ls ((.int v) :: st))) := by
  subst hp; exact g.by fun t k => XS.istoreN X.here hx rfl hd rfl (hl ▸ XS.store1 hold ho rfl) k
theorem g_astoreS (X : Stand p l e R s m args below meth c T locs cells slots) (hx : p.tables.exec = Jvm.exec) {k : Nat} {v : Value} {os : Slot} (l' : Array Slot) (pc' : Nat) (hd : decode c.code pc = .ok (.astore k, 2)) (hold : Ls[k]? = some os) (ho : One os) (hl : Ls.setIfInBounds k (.val v) = l') (hv : v.isRef = true) (hp : pc + 2 = pc') (g : Go p e below s Q rc rs (T.setTop (mkF m pc' l' st))) : Go p e below s Q rc rs (T.setTop (mkF m pc Ls (v :: st))) := by
  subst hp; exact g.by fun t k => XS.astore X.here hx rfl hd rfl hv (hl ▸ XS.store1 hold ho (by cases v <;> first | rfl | simp_all [Value.isRef])) k
theorem g_astoreNS (X : Stand p l e R s m args below meth c T locs cells slots) (hx : p.tables.exec = Jvm.exec) {k : Fin 4} {v : Value} {os : Slot} (l' : Array Slot) (pc' : Nat) (hd : decode c.code pc = .ok (.astore_n k, 1)) (hold : Ls[k.val]? = some os) (ho : One os) (hl : Ls.setIfInBounds k.val (.val v) = l') (hv : v.isRef = true) (hp : pc + 1 = pc') (g : Go p e below s Q rc rs (T.setTop (mkF m pc' l' st))) : Go p e below s Q rc rs (T.setTop (mkF m pc Ls (v :: st))) := by
  subst hp; exact g.by fun t k => XS.astoreN X.here hx rfl hd rfl hv (hl ▸ XS.store1 hold ho (by cases v <;> first | rfl | simp_all [Value.isRef])) k
theorem g_iconst (X : Stand p l e R s m args below meth c T locs cells slots) (hx : p.tables.exec = Jvm.exec) {i : Int} (v : Int32) (pc' : Nat) (hd : decode c.code pc = .ok (.iconst i, 1)) (hv : Int32.ofInt i = v) (hp : pc + 1 = pc') (g : Go p e below s Q rc rs (T.setTop (mkF m pc' Ls (.int v :: st)))) : Go p e below s Q rc rs (T.setTop (mkF m pc Ls st)) := by
  subst hp hv; exact g.by fun t k => XS.iconst X.here hx rfl hd k
theorem g_bipush (X : Stand p l e R s m args below meth c T locs cells slots) (hx : p.tables.exec = Jvm.exec) {i : Int} (v : Int32) (pc' : Nat) (hd : decode c.code pc = .ok (.bipush i, 2)) (hv : (Int8.ofInt i).toInt32 = v) (hp : pc + 2 = pc') (g : Go p e below s Q rc rs (T.setTop (mkF m pc' Ls (.int v :: st)))) : Go p e below s Q rc rs (T.setTop (mkF m pc Ls st)) := by
  subst hp hv; exact g.by fun t k => XS.bipush X.here hx rfl hd k
theorem g_sipush (X : Stand p l e R s m args below meth c T locs cells slots) (hx : p.tables.exec = Jvm.exec) {i : Int} (v : Int32) (pc' : Nat) (hd : decode c.code pc = .ok (.sipush i, 3)) (hv : (Int16.ofInt i).toInt32 = v) (hp : pc + 3 = pc') (g : Go p e below s Q rc rs (T.setTop (mkF m pc' Ls (.int v :: st)))) : Go p e below s Q rc rs (T.setTop (mkF m pc Ls st)) := by
  subst hp hv; exact g.by fun t k => XS.sipush X.here hx rfl hd k
theorem g_lconst (X : Stand p l e R s m args below meth c T locs cells slots) (hx : p.tables.exec = Jvm.exec) {i : Fin 2} (v : Int64) (pc' : Nat) (hd : decode c.code pc = .ok (.lconst i, 1)) (hv : Int64.ofNat i = v) (hp : pc + 1 = pc') (g : Go p e below s Q rc rs (T.setTop (mkF m pc' Ls (.long v :: st)))) : Go p e below s Q rc rs (T.setTop (mkF m pc Ls st)) := by
  subst hp hv; exact g.by fun t k => XS.lconst X.here hx rfl hd k
theorem g_aconst_null (X : Stand p l e R s m args below meth c T locs cells slots) (hx : p.tables.exec = Jvm.exec) (pc' : Nat) (hd : decode c.code pc = .ok (.aconst_null, 1)) (hp : pc + 1 = pc') (g : Go p e below s Q rc rs (T.setTop (mkF m pc' Ls (.null :: st)))) : Go p e below s Q rc rs (T.setTop (mkF m pc Ls st)) := by
  subst hp; exact g.by fun t k => XS.aconstNull X.here hx rfl hd k
theorem g_ldc (X : Stand p l e R s m args below meth c T locs cells slots) (hx : p.tables.exec = Jvm.exec) (hZ : Z.Warmed39 s.vm) {own : String} {i : Nat} {v : Int32} (hown : s.vm.findClass own = some m.cls) (w : (Cond.constant own i v).before a0 Z = true) (pc' : Nat) (hd : decode c.code pc = .ok (.ldc i, 2)) (hp : pc + 2 = pc') (g : Go p e below s Q rc rs (T.setTop (mkF m pc' Ls (.int v :: st)))) : Go p e below s Q rc rs (T.setTop (mkF m pc Ls st)) := by
  subst hp; exact g.by fun t k => X.ldcInt hx hown (mvT hZ w) (g := mkF m pc Ls st) rfl hd t k
theorem g_ldc_w (X : Stand p l e R s m args below meth c T locs cells slots) (hx : p.tables.exec = Jvm.exec) (hZ : Z.Warmed39 s.vm) {own : String} {i : Nat} {v : Int32} (hown : s.vm.findClass own = some m.cls) (w : (Cond.constant own i v).before a0 Z = true) (pc' : Nat) (hd : decode c.code pc = .ok (.ldc_w i, 3)) (hp : pc + 3 = pc') (g : Go p e below s Q rc rs (T.setTop (mkF m pc' Ls (.int v :: st)))) : Go p e below s Q rc rs (T.setTop (mkF m pc Ls st)) := by
  subst hp; exact g.by fun t k => X.ldcwInt hx hown (mvT hZ w) (g := mkF m pc Ls st) rfl hd t k
theorem g_ldc2_w (X : Stand p l e R s m args below meth c T locs cells slots) (hx : p.tables.exec = Jvm.exec) (hZ : Z.Warmed39 s.vm) {own : String} {i : Nat} {v : Int64} (hown : s.vm.findClass own = some m.cls) (w : (Cond.constantLong own i v).before a0 Z = true) (pc' : Nat) (hd : decode c.code pc = .ok (.ldc2_w i, 3)) (hp : pc + 3 = pc') (g : Go p e below s Q rc rs (T.setTop (mkF m pc' Ls (.long v :: st)))) : Go p e below s Q rc rs (T.setTop (mkF m pc Ls st)) := by
  subst hp; exact g.by fun t k => X.ldc2Long hx hown (mvT hZ w) (g := mkF m pc Ls st) rfl hd t k
theorem g_iadd (X : Stand p l e R s m args below meth c T locs cells slots) (hx : p.tables.exec = Jvm.exec) {x y : Int32} (pc' : Nat) (hd : decode c.code pc = .ok (.iadd, 1)) (hp : pc + 1 = pc') (g : Go p e below s Q rc rs (T.setTop (mkF m pc' Ls (.int (x + y) :: st)))) : Go p e below s Q rc rs (T.setTop (mkF m pc Ls (.int y :: .int x :: st))) := by
  subst hp; exact g.by fun t k => XS.iadd X.here hx rfl hd rfl k
theorem g_isub (X : Stand p l e R s m args below meth c T locs cells slots) (hx : p.tables.exec = Jvm.exec) {x y : Int32} (pc' : Nat) (hd : decode c.code pc = .ok (.isub, 1)) (hp : pc + 1 = pc') (g : Go p e below s Q rc rs (T.setTop (mkF m pc' Ls (.int (x - y) :: st)))) : Go p e below s Q rc rs (T.setTop (mkF m pc Ls (.int y :: .int x :: st))) := by
  subst hp; exact g.by fun t k => XS.isub X.here hx rfl hd rfl k
theorem g_imul (X : Stand p l e R s m args below meth c T locs cells slots) (hx : p.tables.exec = Jvm.exec) {x y : Int32} (pc' : Nat) (hd : decode c.code pc = .ok (.imul, 1)) (hp : pc + 1 = pc') (g : Go p e below s Q rc rs (T.setTop (mkF m pc' Ls (.int (x * y) :: st)))) : Go p e below s Q rc rs (T.setTop (mkF m pc Ls (.int y :: .int x :: st))) := by
  subst hp; exact g.by fun t k => XS.imul X.here hx rfl hd rfl k
theorem g_iand (X : Stand p l e R s m args below meth c T locs cells slots) (hx : p.tables.exec = Jvm.exec) {x y : Int32} (pc' : Nat) (hd : decode c.code pc = .ok (.iand, 1)) (hp : pc + 1 = pc') (g : Go p e below s Q rc rs (T.setTop (mkF m pc' Ls (.int (x &&& y) :: st)))) : Go p e below s Q rc rs (T.setTop (mkF m pc Ls (.int y :: .int x :: st))) := by
  subst hp; exact g.by fun t k => XS.iand X.here hx rfl hd rfl k
theorem g_ior (X : Stand p l e R s m args below meth c T locs cells slots) (hx : p.tables.exec = Jvm.exec) {x y : Int32} (pc' : Nat) (hd : decode c.code pc = .ok (.ior, 1)) (hp : pc + 1 = pc') (g : Go p e below s Q rc rs (T.setTop (mkF m pc' Ls (.int (x ||| y) :: st)))) : Go p e below s Q rc rs (T.setTop (mkF m pc Ls (.int y :: .int x :: st))) := by
  subst hp; exact g.by fun t k => XS.ior X.here hx rfl hd rfl k
theorem g_ixor (X : Stand p l e R s m args below meth c T locs cells slots) (hx : p.tables.exec = Jvm.exec) {x y : Int32} (pc' : Nat) (hd : decode c.code pc = .ok (.ixor, 1)) (hp : pc + 1 = pc') (g : Go p e below s Q rc rs (T.setTop (mkF m pc' Ls (.int (x ^^^ y) :: st)))) : Go p e below s Q rc rs (T.setTop (mkF m pc Ls (.int y :: .int x :: st))) := by
  subst hp; exact g.by fun t k => XS.ixor X.here hx rfl hd rfl k
theorem g_ineg (X : Stand p l e R s m args below meth c T locs cells slots) (hx : p.tables.exec = Jvm.exec) {x : Int32} (pc' : Nat) (hd : decode c.code pc = .ok (.ineg, 1)) (hp : pc + 1 = pc') (g : Go p e below s Q rc rs (T.setTop (mkF m pc' Ls (.int (-x) :: st)))) : Go p e below s Q rc rs (T.setTop (mkF m pc Ls (.int x :: st))) := by
  subst hp; exact g.by fun t k => XS.ineg X.here hx rfl hd rfl k
theorem g_idiv (X : Stand p l e R s m args below meth c T locs cells slots) (hx : p.tables.exec = Jvm.exec) {x y : Int32} (pc' : Nat) (hd : decode c.code pc = .ok (.idiv, 1)) (hy : y ≠ 0) (hp : pc + 1 = pc') (g : Go p e below s Q rc rs (T.setTop (mkF m pc' Ls (.int (x / y) :: st)))) : Go p e below s Q rc rs (T.setTop (mkF m pc Ls (.int y :: .int x :: st))) := by
  subst hp; exact g.by fun t k => XS.idiv X.here hx rfl hd rfl hy k
theorem g_ladd (X : Stand p l e R s m args below meth c T locs cells slots) (hx : p.tables.exec = Jvm.exec) {x y : Int64} (pc' : Nat) (hd : decode c.code pc = .ok (.ladd, 1)) (hp : pc + 1 = pc') (g : Go p e below s Q rc rs (T.setTop (mkF m pc' Ls (.long (x + y) :: st)))) : Go p e below s Q rc rs (T.setTop (mkF m pc Ls (.long y :: .long x :: st))) := by
  subst hp; exact g.by fun t k => XS.ladd X.here hx rfl hd rfl k
theorem g_lsub (X : Stand p l e R s m args below meth c T locs cells slots) (hx : p.tables.exec = Jvm.exec) {x y : Int64} (pc' : Nat) (hd : decode c.code pc = .ok (.lsub, 1)) (hp : pc + 1 = pc') (g : Go p e below s Q rc rs (T.setTop (mkF m pc' Ls (.long (x - y) :: st)))) : Go p e below s Q rc rs (T.setTop (mkF m pc Ls (.long y :: .long x :: st))) := by
  subst hp; exact g.by fun t k => XS.lsub X.here hx rfl hd rfl k
theorem g_lmul (X : Stand p l e R s m args below meth c T locs cells slots) (hx : p.tables.exec = Jvm.exec) {x y : Int64} (pc' : Nat) (hd : decode c.code pc = .ok (.lmul, 1)) (hp : pc + 1 = pc') (g : Go p e below s Q rc rs (T.setTop (mkF m pc' Ls (.long (x * y) :: st)))) : Go p e below s Q rc rs (T.setTop (mkF m pc Ls (.long y :: .long x :: st))) := by
  subst hp; exact g.by fun t k => XS.lmul X.here hx rfl hd rfl k
theorem g_land (X : Stand p l e R s m args below meth c T locs cells slots) (hx : p.tables.exec = Jvm.exec) {x y : Int64} (pc' : Nat) (hd : decode c.code pc = .ok (.land, 1)) (hp : pc + 1 = pc') (g : Go p e below s Q rc rs (T.setTop (mkF m pc' Ls (.long (x &&& y) :: st)))) : Go p e below s Q rc rs (T.setTop (mkF m pc Ls (.long y :: .long x :: st))) := by
  subst hp; exact g.by fun t k => XS.land X.here hx rfl hd rfl k
theorem g_lor (X : Stand p l e R s m args below meth c T locs cells slots) (hx : p.tables.exec = Jvm.exec) {x y : Int64} (pc' : Nat) (hd : decode c.code pc = .ok (.lor, 1)) (hp : pc + 1 = pc') (g : Go p e below s Q rc rs (T.setTop (mkF m pc' Ls (.long (x ||| y) :: st)))) : Go p e below s Q rc rs (T.setTop (mkF m pc Ls (.long y :: .long x :: st))) := by
  subst hp; exact g.by fun t k => XS.lor X.here hx rfl hd rfl k
theorem g_lxor (X : Stand p l e R s m args below meth c T locs cells slots) (hx : p.tables.exec = Jvm.exec) {x y : Int64} (pc' : Nat) (hd : decode c.code pc = .ok (.lxor, 1)) (hp : pc + 1 = pc') (g : Go p e below s Q rc rs (T.setTop (mkF m pc' Ls (.long (x ^^^ y) :: st)))) : Go p e below s Q rc rs (T.setTop (mkF m pc Ls (.long y :: .long x :: st))) := by
  subst hp; exact g.by fun t k => XS.lxor X.here hx rfl hd rfl k
theorem g_lneg (X : Stand p l e R s m args below meth c T locs cells slots) (hx : p.tables.exec = Jvm.exec) {x : Int64} (pc' : Nat) (hd : decode c.code pc = .ok (.lneg, 1)) (hp : pc + 1 = pc') (g : Go p e below s Q rc rs (T.setTop (mkF m pc' Ls (.long (-x) :: st)))) : Go p e below s Q rc rs (T.setTop (mkF m pc Ls (.long x :: st))) := by
  subst hp; exact g.by fun t k => XS.lneg X.here hx rfl hd rfl k
theorem g_ldiv (X : Stand p l e R s m args below meth c T locs cells slots) (hx : p.tables.exec = Jvm.exec) {x y : Int64} (pc' : Nat) (hd : decode c.code pc = .ok (.ldiv, 1)) (hy : y ≠ 0) (hp : pc + 1 = pc') (g : Go p e below s Q rc rs (T.setTop (mkF m pc' Ls (.long (x / y) :: st)))) : Go p e below s Q rc rs (T.setTop (mkF m pc Ls (.long y :: .long x :: st))) := by
  subst hp; exact g.by fun t k => XS.ldiv X.here hx rfl hd rfl hy k
theorem g_irem (X : Stand p l e R s m args below meth c T locs cells slots) (hx : p.tables.exec = Jvm.exec) {x y : Int32} (pc' : Nat) (hd : decode c.code pc = .ok (.irem, 1)) (hy : y ≠ 0) (hp : pc + 1 = pc') (g : Go p e below s Q rc rs (T.setTop (mkF m pc' Ls (.int (x % y) :: st)))) : Go p e below s Q rc rs (T.setTop (mkF m pc Ls (.int y :: .int x :: st))) := by
  subst hp; exact g.by fun t k => iremM X hx rfl hd rfl hy k
theorem g_lrem (X : Stand p l e R s m args below meth c T locs cells slots) (hx : p.tables.exec = Jvm.exec) {x y : Int64} (pc' : Nat) (hd : decode c.code pc = .ok (.lrem, 1)) (hy : y ≠ 0) (hp : pc + 1 = pc') (g : Go p e below s Q rc rs (T.setTop (mkF m pc' Ls (.long (x % y) :: st)))) : Go p e below s Q rc rs (T.setTop (mkF m pc Ls (.long y :: .long x :: st))) := by
  subst hp; exact g.by fun t k => XS.lrem X.here hx rfl hd rfl hy (by rw [lrem_mod]; exact k)
theorem g_ishl (X : Stand p l e R s m args below meth c T locs cells slots) (hx : p.tables.exec = Jvm.exec) {x : Int32} {y : Int32} (pc' : Nat) (hd : decode c.code pc = .ok (.ishl, 1)) (hp : pc + 1 = pc') (g : Go p e below s Q rc rs (T.setTop (mkF m pc' Ls (.int (shlI x y) :: st)))) : Go p e below s Q rc rs (T.setTop (mkF m pc Ls (.int y :: .int x :: st))) := by
  subst hp; exact g.by fun t k => XS.ishl X.here hx rfl hd rfl k
theorem g_ishr (X : Stand p l e R s m args below meth c T locs cells slots) (hx : p.tables.exec = Jvm.exec) {x : Int32} {y : Int32} (pc' : Nat) (hd : decode c.code pc = .ok (.ishr, 1)) (hp : pc + 1 = pc') (g : Go p e below s Q rc rs (T.setTop (mkF m pc' Ls (.int (shrI x y) :: st)))) : Go p e below s Q rc rs (T.setTop (mkF m pc Ls (.int y :: .int x :: st))) := by
  subst hp; exact g.by fun t k => XS.ishr X.here hx rfl hd rfl k
theorem g_iushr (X : Stand p l e R s m args below meth c T locs cells slots) (hx : p.tables.exec = Jvm.exec) {x : Int32} {y : Int32} (pc' : Nat) (hd : decode c.code pc = .ok (.iushr, 1)) (hp : pc + 1 = pc') (g : Go p e below s Q rc rs (T.setTop (mkF m pc' Ls (.int (ushrI x y) :: st)))) : Go p e below s Q rc rs (T.setTop (mkF m pc Ls (.int y :: .int x :: st))) := by
  subst hp; exact g.by fun t k => XS.iushr X.here hx rfl hd rfl k
theorem g_lshl (X : Stand p l e R s m args below meth c T locs cells slots) (hx : p.tables.exec = Jvm.exec) {x : Int64} {y : Int32} (pc' : Nat) (hd : decode c.code pc = .ok (.lshl, 1)) (hp : pc + 1 = pc') (g : Go p e below s Q rc rs (T.setTop (mkF m pc' Ls (.long (shlJ x y) :: st)))) : Go p e below s Q rc rs (T.setTop (mkF m pc Ls (.int y :: .long x :: st))) := by
  subst hp; exact g.by fun t k => XS.lshl X.here hx rfl hd rfl k
theorem g_lshr (X : Stand p l e R s m args below meth c T locs cells slots) (hx : p.tables.exec = Jvm.exec) {x : Int64} {y : Int32} (pc' : Nat) (hd : decode c.code pc = .ok (.lshr, 1)) (hp : pc + 1 = pc') (g : Go p e below s Q rc rs (T.setTop (mkF m pc' Ls (.long (shrJ x y) :: st)))) : Go p e below s Q rc rs (T.setTop (mkF m pc Ls (.int y :: .long x :: st))) := by
  subst hp; exact g.by fun t k => XS.lshr X.here hx rfl hd rfl k
theorem g_lushr (X : Stand p l e R s m args below meth c T locs cells slots) (hx : p.tables.exec = Jvm.exec) {x : Int64} {y : Int32} (pc' : Nat) (hd : decode c.code pc = .ok (.lushr, 1)) (hp : pc + 1 = pc') (g : Go p e below s Q rc rs (T.setTop (mkF m pc' Ls (.long (ushrJ x y) :: st)))) : Go p e below s Q rc rs (T.setTop (mkF m pc Ls (.int y :: .long x :: st))) := by
  subst hp; exact g.by fun t k => XS.lushr X.here hx rfl hd rfl k
theorem g_i2l (X : Stand p l e R s m args below meth c T locs cells slots) (hx : p.tables.exec = Jvm.exec) {x : Int32} (pc' : Nat) (hd : decode c.code pc = .ok (.i2l, 1)) (hp : pc + 1 = pc') (g : Go p e below s Q rc rs (T.setTop (mkF m pc' Ls (.long (x.toInt64) :: st)))) : Go p e below s Q rc rs (T.setTop (mkF m pc Ls (.int x :: st))) := by
  subst hp; exact g.by fun t k => XS.i2l X.here hx rfl hd rfl k
theorem g_l2i (X : Stand p l e R s m args below meth c T locs cells slots) (hx : p.tables.exec = Jvm.exec) {x : Int64} (pc' : Nat) (hd : decode c.code pc = .ok (.l2i, 1)) (hp : pc + 1 = pc') (g : Go p e below s Q rc rs (T.setTop (mkF m pc' Ls (.int (x.toInt32) :: st)))) : Go p e below s Q rc rs (T.setTop (mkF m pc Ls (.long x :: st))) := by
  subst hp; exact g.by fun t k => XS.l2i X.here hx rfl hd rfl k
theorem g_i2b (X : Stand p l e R s m args below meth c T locs cells slots) (hx : p.tables.exec = Jvm.exec) {x : Int32} (pc' : Nat) (hd : decode c.code pc = .ok (.i2b, 1)) (hp : pc + 1 = pc') (g : Go p e below s Q rc rs (T.setTop (mkF m pc' Ls (.int (i2bI x) :: st)))) : Go p e below s Q rc rs (T.setTop (mkF m pc Ls (.int x :: st))) := by
  subst hp; exact g.by fun t k => XS.i2b X.here hx rfl hd rfl k
theorem g_i2c (X : Stand p l e R s m args below meth c T locs cells slots) (hx : p.tables.exec = Jvm.exec) {x : Int32} (pc' : Nat) (hd : decode c.code pc = .ok (.i2c, 1)) (hp : pc + 1 = pc') (g : Go p e below s Q rc rs (T.setTop (mkF m pc' Ls (.int (i2cI x) :: st)))) : Go p e below s Q rc rs (T.setTop (mkF m pc Ls (.int x :: st))) := by
  subst hp; exact g.by fun t k => XS.i2c X.here hx rfl hd rfl k
theorem g_i2s (X : Stand p l e R s m args below meth c T locs cells slots) (hx : p.tables.exec = Jvm.exec) {x : Int32} (pc' : Nat) (hd : decode c.code pc = .ok (.i2s, 1)) (hp : pc + 1 = pc') (g : Go p e below s Q rc rs (T.setTop (mkF m pc' Ls (.int (i2sI x) :: st)))) : Go p e below s Q rc rs (T.setTop (mkF m pc Ls (.int x :: st))) := by
  subst hp; exact g.by fun t k => XS.i2s X.here hx rfl hd rfl k
theorem g_lcmp (X : Stand p l e R s m args below meth c T locs cells slots) (hx : p.tables.exec = Jvm.exec) {x y : Int64} (pc' : Nat) (hd : decode c.code pc = .ok (.lcmp, 1)) (hp : pc + 1 = pc') (g : Go p e below s Q rc rs (T.setTop (mkF m pc' Ls (.int (lcmpW x y) :: st)))) : Go p e below s Q rc rs (T.setTop (mkF m pc Ls (.long y :: .long x :: st))) := by
  subst hp; exact g.by fun t k => XS.lcmp X.here hx rfl hd rfl k
theorem g_iinc (X : Stand p l e R s m args below meth c T locs cells slots) (hx : p.tables.exec = Jvm.exec) {k : Nat} {i : Int} {x : Int32} (v : Int32) (l' : Array Slot) (pc' : Nat) (hd : decode c.code pc = .ok (.iinc k i, 3)) (hv : Int32.ofInt i = v) (hl : Ls[k]? = some (.val (.int x))) (hl' : storeLocals Ls k (.int (x + v)) = some l') (hp : pc + 3 = pc') (g : Go p e below s Q rc rs (T.setTop (mkF m pc' l' st))) : Go p e below s Q rc rs (T.setTop (mkF m pc Ls st)) := by
  subst hp hv; exact g.by fun t k => XS.iinc X.here hx rfl hd hl hl' k
theorem g_dup (X : Stand p l e R s m args below meth c T locs cells slots) (hx : p.tables.exec = Jvm.exec) {x : Value} (pc' : Nat) (hd : decode c.code pc = .ok (.dup, 1)) (hc : x.category = 1) (hp : pc + 1 = pc') (g : Go p e below s Q rc rs (T.setTop (mkF m pc' Ls (x :: x :: st)))) : Go p e below s Q rc rs (T.setTop (mkF m pc Ls (x :: st))) := by
  subst hp; exact g.by fun t k => XS.dup X.here hx rfl hd rfl hc k
theorem g_pop (X : Stand p l e R s m args below meth c T locs cells slots) (hx : p.tables.exec = Jvm.exec) {x : Value} (pc' : Nat) (hd : decode c.code pc = .ok (.pop, 1)) (hc : x.category = 1) (hp : pc + 1 = pc') (g : Go p e below s Q rc rs (T.setTop (mkF m pc' Ls st))) : Go p e below s Q rc rs (T.setTop (mkF m pc Ls (x :: st))) := by
  subst hp; exact g.by fun t k => XS.pop X.here hx rfl hd rfl hc k
theorem g_dup_x1 (X : Stand p l e R s m args below meth c T locs cells slots) (hx : p.tables.exec = Jvm.exec) {x y : Value} (pc' : Nat) (hd : decode c.code pc = .ok (.dup_x1, 1)) (hc : x.category = 1) (hc2 : y.category = 1) (hp : pc + 1 = pc') (g : Go p e below s Q rc rs (T.setTop (mkF m pc' Ls (x :: y :: x :: st)))) : Go p e below s Q rc rs (T.setTop (mkF m pc Ls (x :: y :: st))) := by
  subst hp; exact g.by fun t k => XS.dupX1 X.here hx rfl hd rfl hc hc2 k
theorem g_dup2 (X : Stand p l e R s m args below meth c T locs cells slots) (hx : p.tables.exec = Jvm.exec) {x y : Value} (pc' : Nat) (hd : decode c.code pc = .ok (.dup2, 1)) (hc : x.category = 1) (hc2 : y.category = 1) (hp : pc + 1 = pc') (g : Go p e below s Q rc rs (T.setTop (mkF m pc' Ls (x :: y :: x :: y :: st)))) : Go p e below s Q rc rs (T.setTop (mkF m pc Ls (x :: y :: st))) := by
  subst hp; exact g.by fun t k => XT.dup2 X.here hx rfl hd rfl hc hc2 k
theorem g_dup2L (X : Stand p l e R s m args below meth c T locs cells slots) (hx : p.tables.exec = Jvm.exec) {x : Int64} (pc' : Nat) (hd : decode c.code pc = .ok (.dup2, 1)) (hp : pc + 1 = pc') (g : Go p e below s Q rc rs (T.setTop (mkF m pc' Ls (.long x :: .long x :: st)))) : Go p e below s Q rc rs (T.setTop (mkF m pc Ls (.long x :: st))) := by
  subst hp; exact g.by fun t k => XT.dup2L X.here hx rfl hd rfl k
theorem g_pop2L (X : Stand p l e R s m args below meth c T locs cells slots) (hx : p.tables.exec = Jvm.exec) {x : Int64} (pc' : Nat) (hd : decode c.code pc = .ok (.pop2, 1)) (hp : pc + 1 = pc') (g : Go p e below s Q rc rs (T.setTop (mkF m pc' Ls st))) : Go p e below s Q rc rs (T.setTop (mkF m pc Ls (.long x :: st))) := by
  subst hp; refine g.by fun t k => ?_
  jvm_step X.here [X.here.top, hx, hd, Value.category]
  exact k
theorem g_goto (X : Stand p l e R s m args below meth c T locs cells slots) (hx : p.tables.exec = Jvm.exec) {o : Int} (pc' : Nat) (hd : decode c.code pc = .ok (.goto o, 3)) (ho : 0 ≤ (pc : Int) + o) (hp : ((pc : Int) + o).toNat = pc') (g : Go p e below s Q rc rs (T.setTop (mkF m pc' Ls st))) : Go p e below s Q rc rs (T.setTop (mkF m pc Ls st)) := by
  subst hp; exact g.by fun t k => XS.goto X.here hx rfl rfl hd ho rfl k
theorem g_icmp_lt (X : Stand p l e R s m args below meth c T locs cells slots) (hx : p.tables.exec = Jvm.exec) {x y : Int32} {o : Int} (pcY pcN : Nat) (hd : decode c.code pc = .ok (.if_icmp .lt o, 3)) (ho : 0 ≤ (pc : Int) + o) (hY : ((pc : Int) + o).toNat = pcY) (hN : pc + 3 = pcN) (gp : x < y → Go p e below s Q rc rs (T.setTop (mkF m pcY Ls st))) (gn : ¬ x < y → Go p e below s Q rc rs (T.setTop (mkF m pcN Ls st))) : Go p e below s Q rc rs (T.setTop (mkF m pc Ls (.int y :: .int x :: st))) := by
  subst hY hN
  by_cases q : x < y
  · exact (gp q).by fun t k => XS.icmpYes X.here hx rfl rfl hd rfl (tlt q).1 ho rfl k
  · exact (gn q).by fun t k => XS.icmpNo X.here hx rfl hd rfl (flt q).1 k
theorem g_if0_lt (X : Stand p l e R s m args below meth c T locs cells slots) (hx : p.tables.exec = Jvm.exec) {x : Int32} {o : Int} (pcY pcN : Nat) (hd : decode c.code pc = .ok (.ifCond .lt o, 3)) (ho : 0 ≤ (pc : Int) + o) (hY : ((pc : Int) + o).toNat = pcY) (hN : pc + 3 = pcN) (gp : x < 0 → Go p e below s Q rc rs (T.setTop (mkF m pcY Ls st))) (gn : ¬ x < 0 → Go p e below s Q rc rs (T.setTop (mkF m pcN Ls st))) : Go p e below s Q rc rs (T.setTop (mkF m pc Ls (.int x :: st))) := by
  subst hY hN
  by_cases q : x < 0
  · exact (gp q).by fun t k => XS.ifYes X.here hx rfl rfl hd rfl ((if0 _ _).trans (tlt q).1) ho rfl k
  · exact (gn q).by fun t k => XS.ifNo X.here hx rfl hd rfl ((if0 _ _).trans (flt q).1) k
theorem g_lc_lt (X : Stand p l e R s m args below meth c T locs cells slots) (hx : p.tables.exec = Jvm.exec) {x y : Int64} {o : Int} (pcY pcN : Nat) (hd : decode c.code pc = .ok (.ifCond .lt o, 3)) (ho : 0 ≤ (pc : Int) + o) (hY : ((pc : Int) + o).toNat = pcY) (hN : pc + 3 = pcN) (gp : x < y → Go p e below s Q rc rs (T.setTop (mkF m pcY Ls st))) (gn : ¬ x < y → Go p e below s Q rc rs (T.setTop (mkF m pcN Ls st))) : Go p e below s Q rc rs (T.setTop (mkF m pc Ls (.int (lcmpW x y) :: st))) :=
  g_if0_lt X hx pcY pcN hd ho hY hN (fun q => gp ((lw_lt x y).1 q)) (fun q => gn fun r => q ((lw_lt x y).2 r))
theorem g_icmp_ge (X : Stand p l e R s m args below meth c T locs cells slots) (hx : p.tables.exec = Jvm.exec) {x y : Int32} {o : Int} (pcY pcN : Nat) (hd : decode c.code pc = .ok (.if_icmp .ge o, 3)) (ho : 0 ≤ (pc : Int) + o) (hY : ((pc : Int) + o).toNat = pcY) (hN : pc + 3 = pcN) (gp : x < y → Go p e below s Q rc rs (T.setTop (mkF m pcN Ls st))) (gn : ¬ x < y → Go p e below s Q rc rs (T.setTop (mkF m pcY Ls st))) : Go p e below s Q rc rs (T.setTop (mkF m pc Ls (.int y :: .int x :: st))) := by
  subst hY hN
  by_cases q : x < y
  · exact (gp q).by fun t k => XS.icmpNo X.here hx rfl hd rfl (tlt q).2.1 k
  · exact (gn q).by fun t k => XS.icmpYes X.here hx rfl rfl hd rfl (flt q).2.1 ho rfl k
theorem g_if0_ge (X : Stand p l e R s m args below meth c T locs cells slots) (hx : p.tables.exec = Jvm.exec) {x : Int32} {o : Int} (pcY pcN : Nat) (hd : decode c.code pc = .ok (.ifCond .ge o, 3)) (ho : 0 ≤ (pc : Int) + o) (hY : ((pc : Int) + o).toNat = pcY) (hN : pc + 3 = pcN) (gp : x < 0 → Go p e below s Q rc rs (T.setTop (mkF m pcN Ls st))) (gn : ¬ x < 0 → Go p e below s Q rc rs (T.setTop (mkF m pcY Ls st))) : Go p e below s Q rc rs (T.setTop (mkF m pc Ls (.int x :: st))) := by
  subst hY hN
  by_cases q : x < 0
  · exact (gp q).by fun t k => XS.ifNo X.here hx rfl hd rfl ((if0 _ _).trans (tlt q).2.1) k
  · exact (gn q).by fun t k => XS.ifYes X.here hx rfl rfl hd rfl ((if0 _ _).trans (flt q).2.1) ho rfl k
theorem g_lc_ge (X : Stand p l e R s m args below meth c T locs cells slots) (hx : p.tables.exec = Jvm.exec) {x y : Int64} {o : Int} (pcY pcN : Nat) (hd : decode c.code pc = .ok (.ifCond .ge o, 3)) (ho : 0 ≤ (pc : Int) + o) (hY : ((pc : Int) + o).toNat = pcY) (hN : pc + 3 = pcN) (gp : x < y → Go p e below s Q rc rs (T.setTop (mkF m pcN Ls st))) (gn : ¬ x < y → Go p e below s Q rc rs (T.setTop (mkF m pcY Ls st))) : Go p e below s Q rc rs (T.setTop (mkF m pc Ls (.int (lcmpW x y) :: st))) :=
  g_if0_ge X hx pcY pcN hd ho hY hN (fun q => gp ((lw_lt x y).1 q)) (fun q => gn fun r => q ((lw_lt x y).2 r))
theorem g_icmp_gt (X : Stand p l e R s m args below meth c T locs cells slots) (hx : p.tables.exec = Jvm.exec) {x y : Int32} {o : Int} (pcY pcN : Nat) (hd : decode c.code pc = .ok (.if_icmp .gt o, 3)) (ho : 0 ≤ (pc : Int) + o) (hY : ((pc : Int) + o).toNat = pcY) (hN : pc + 3 = pcN) (gp : y < x → Go p e below s Q rc rs (T.setTop (mkF m pcY Ls st))) (gn : ¬ y < x → Go p e below s Q rc rs (T.setTop (mkF m pcN Ls st))) : Go p e below s Q rc rs (T.setTop (mkF m pc Ls (.int y :: .int x :: st))) := by
  subst hY hN
  by_cases q : y < x
  · exact (gp q).by fun t k => XS.icmpYes X.here hx rfl rfl hd rfl (tlt q).2.2.1 ho rfl k
  · exact (gn q).by fun t k => XS.icmpNo X.here hx rfl hd rfl (flt q).2.2.1 k
theorem g_if0_gt (X : Stand p l e R s m args below meth c T locs cells slots) (hx : p.tables.exec = Jvm.exec) {x : Int32} {o : Int} (pcY pcN : Nat) (hd : decode c.code pc = .ok (.ifCond .gt o, 3)) (ho : 0 ≤ (pc : Int) + o) (hY : ((pc : Int) + o).toNat = pcY) (hN : pc + 3 = pcN) (gp : 0 < x → Go p e below s Q rc rs (T.setTop (mkF m pcY Ls st))) (gn : ¬ 0 < x → Go p e below s Q rc rs (T.setTop (mkF m pcN Ls st))) : Go p e below s Q rc rs (T.setTop (mkF m pc Ls (.int x :: st))) := by
  subst hY hN
  by_cases q : 0 < x
  · exact (gp q).by fun t k => XS.ifYes X.here hx rfl rfl hd rfl ((if0 _ _).trans (tlt q).2.2.1) ho rfl k
  · exact (gn q).by fun t k => XS.ifNo X.here hx rfl hd rfl ((if0 _ _).trans (flt q).2.2.1) k
theorem g_lc_gt (X : Stand p l e R s m args below meth c T locs cells slots) (hx : p.tables.exec = Jvm.exec) {x y : Int64} {o : Int} (pcY pcN : Nat) (hd : decode c.code pc = .ok (.ifCond .gt o, 3)) (ho : 0 ≤ (pc : Int) + o) (hY : ((pc : Int) + o).toNat = pcY) (hN : pc + 3 = pcN) (gp : y < x → Go p e below s Q rc rs (T.setTop (mkF m pcY Ls st))) (gn : ¬ y < x → Go p e below s Q rc rs (T.setTop (mkF m pcN Ls st))) : Go p e below s Q rc rs (T.setTop (mkF m pc Ls (.int (lcmpW x y) :: st))) :=
  g_if0_gt X hx pcY pcN hd ho hY hN (fun q => gp ((lw_gt x y).1 q)) (fun q => gn fun r => q ((lw_gt x y).2 r))
theorem g_icmp_le (X : Stand p l e R s m args below meth c T locs cells slots) (hx : p.tables.exec = Jvm.exec) {x y : Int32} {o : Int} (pcY pcN : Nat) (hd : decode c.code pc = .ok (.if_icmp .le o, 3)) (ho : 0 ≤ (pc : Int) + o) (hY : ((pc : Int) + o).toNat = pcY) (hN : pc + 3 = pcN) (gp : y < x → Go p e below s Q rc rs (T.setTop (mkF m pcN Ls st))) (gn : ¬ y < x → Go p e below s Q rc rs (T.setTop (mkF m pcY Ls st))) : Go p e below s Q rc rs (T.setTop (mkF m pc Ls (.int y :: .int x :: st))) := by
  subst hY hN
  by_cases q : y < x
  · exact (gp q).by fun t k => XS.icmpNo X.here hx rfl hd rfl (tlt q).2.2.2 k
  · exact (gn q).by fun t k => XS.icmpYes X.here hx rfl rfl hd rfl (flt q).2.2.2 ho rfl k
theorem g_if0_le (X : Stand p l e R s m args below meth c T locs cells slots) (hx : p.tables.exec = Jvm.exec) {x : Int32} {o : Int} (pcY pcN : Nat) (hd : decode c.code pc = .ok (.ifCond .le o, 3)) (ho : 0 ≤ (pc : Int) + o) (hY : ((pc : Int) + o).toNat = pcY) (hN : pc + 3 = pcN) (gp : 0 < x → Go p e below s Q rc rs (T.setTop (mkF m pcN Ls st))) (gn : ¬ 0 < x → Go p e below s Q rc rs (T.setTop (mkF m pcY Ls st))) : Go p e below s Q rc rs (T.setTop (mkF m pc Ls (.int x :: st))) := by
  subst hY hN
  by_cases q : 0 < x
  · exact (gp q).by fun t k => XS.ifNo X.here hx rfl hd rfl ((if0 _ _).trans (tlt q).2.2.2) k
  · exact (gn q).by fun t k => XS.ifYes X.here hx rfl rfl hd rfl ((if0 _ _).trans (flt q).2.2.2) ho rfl k
theorem g_lc_le (X : Stand p l e R s m args below meth c T locs cells slots) (hx : p.tables.exec = Jvm.exec) {x y : Int64} {o : Int} (pcY pcN : Nat) (hd : decode c.code pc = .ok (.ifCond .le o, 3)) (ho : 0 ≤ (pc : Int) + o) (hY : ((pc : Int) + o).toNat = pcY) (hN : pc + 3 = pcN) (gp : y < x → Go p e below s Q rc rs (T.setTop (mkF m pcN Ls st))) (gn : ¬ y < x → Go p e below s Q rc rs (T.setTop (mkF m pcY Ls st))) : Go p e below s Q rc rs (T.setTop (mkF m pc Ls (.int (lcmpW x y) :: st))) :=
  g_if0_le X hx pcY pcN hd ho hY hN (fun q => gp ((lw_gt x y).1 q)) (fun q => gn fun r => q ((lw_gt x y).2 r))
theorem g_icmp_eq (X : Stand p l e R s m args below meth c T locs cells slots) (hx : p.tables.exec = Jvm.exec) {x y : Int32} {o : Int} (pcY pcN : Nat) (hd : decode c.code pc = .ok (.if_icmp .eq o, 3)) (ho : 0 ≤ (pc : Int) + o) (hY : ((pc : Int) + o).toNat = pcY) (hN : pc + 3 = pcN) (gp : x = y → Go p e below s Q rc rs (T.setTop (mkF m pcY Ls st))) (gn : ¬ x = y → Go p e below s Q rc rs (T.setTop (mkF m pcN Ls st))) : Go p e below s Q rc rs (T.setTop (mkF m pc Ls (.int y :: .int x :: st))) := by
  subst hY hN
  by_cases q : x = y
  · exact (gp q).by fun t k => XS.icmpYes X.here hx rfl rfl hd rfl (teq q).1 ho rfl k
  · exact (gn q).by fun t k => XS.icmpNo X.here hx rfl hd rfl (feq q).1 k
theorem g_if0_eq (X : Stand p l e R s m args below meth c T locs cells slots) (hx : p.tables.exec = Jvm.exec) {x : Int32} {o : Int} (pcY pcN : Nat) (hd : decode c.code pc = .ok (.ifCond .eq o, 3)) (ho : 0 ≤ (pc : Int) + o) (hY : ((pc : Int) + o).toNat = pcY) (hN : pc + 3 = pcN) (gp : x = 0 → Go p e below s Q rc rs (T.setTop (mkF m pcY Ls st))) (gn : ¬ x = 0 → Go p e below s Q rc rs (T.setTop (mkF m pcN Ls st))) : Go p e below s Q rc rs (T.setTop (mkF m pc Ls (.int x :: st))) := by
  subst hY hN
  by_cases q : x = 0
  · exact (gp q).by fun t k => XS.ifYes X.here hx rfl rfl hd rfl ((if0 _ _).trans (teq q).1) ho rfl k
  · exact (gn q).by fun t k => XS.ifNo X.here hx rfl hd rfl ((if0 _ _).trans (feq q).1) k
theorem g_lc_eq (X : Stand p l e R s m args below meth c T locs cells slots) (hx : p.tables.exec = Jvm.exec) {x y : Int64} {o : Int} (pcY pcN : Nat) (hd : decode c.code pc = .ok (.ifCond .eq o, 3)) (ho : 0 ≤ (pc : Int) + o) (hY : ((pc : Int) + o).toNat = pcY) (hN : pc + 3 = pcN) (gp : x = y → Go p e below s Q rc rs (T.setTop (mkF m pcY Ls st))) (gn : ¬ x = y → Go p e below s Q rc rs (T.setTop (mkF m pcN Ls st))) : Go p e below s Q rc rs (T.setTop (mkF m pc Ls (.int (lcmpW x y) :: st))) :=
  g_if0_eq X hx pcY pcN hd ho hY hN (fun q => gp ((lw_eq x y).1 q)) (fun q => gn fun r => q ((lw_eq x y).2 r))
theorem g_icmp_ne (X : Stand p l e R s m args below meth c T locs cells slots) (hx : p.tables.exec = Jvm.exec) {x y : Int32} {o : Int} (pcY pcN : Nat) (hd : decode c.code pc = .ok (.if_icmp .ne o, 3)) (ho : 0 ≤ (pc : Int) + o) (hY : ((pc : Int) + o).toNat = pcY) (hN : pc + 3 = pcN) (gp : x = y → Go p e below s Q rc rs (T.setTop (mkF m pcN Ls st))) (gn : ¬ x = y → Go p e below s Q rc rs (T.setTop (mkF m pcY Ls st))) : Go p e below s Q rc rs (T.setTop (mkF m pc Ls (.int y :: .int x :: st))) := by
  subst hY hN
  by_cases q : x = y
  · exact (gp q).by fun t k => XS.icmpNo X.here hx rfl hd rfl (teq q).2 k
  · exact (gn q).by fun t k => XS.icmpYes X.here hx rfl rfl hd rfl (feq q).2 ho rfl k
theorem g_if0_ne (X : Stand p l e R s m args below meth c T locs cells slots) (hx : p.tables.exec = Jvm.exec) {x : Int32} {o : Int} (pcY pcN : Nat) (hd : decode c.code pc = .ok (.ifCond .ne o, 3)) (ho : 0 ≤ (pc : Int) + o) (hY : ((pc : Int) + o).toNat = pcY) (hN : pc + 3 = pcN) (gp : x = 0 → Go p e below s Q rc rs (T.setTop (mkF m pcN Ls st))) (gn : ¬ x = 0 → Go p e below s Q rc rs (T.setTop (mkF m pcY Ls st))) : Go p e below s Q rc rs (T.setTop (mkF m pc Ls (.int x :: st))) := by
  subst hY hN
  by_cases q : x = 0
  · exact (gp q).by fun t k => XS.ifNo X.here hx rfl hd rfl ((if0 _ _).trans (teq q).2) k
  · exact (gn q).by fun t k => XS.ifYes X.here hx rfl rfl hd rfl ((if0 _ _).trans (feq q).2) ho rfl k
theorem g_lc_ne (X : Stand p l e R s m args below meth c T locs cells slots) (hx : p.tables.exec = Jvm.exec) {x y : Int64} {o : Int} (pcY pcN : Nat) (hd : decode c.code pc = .ok (.ifCond .ne o, 3)) (ho : 0 ≤ (pc : Int) + o) (hY : ((pc : Int) + o).toNat = pcY) (hN : pc + 3 = pcN) (gp : x = y → Go p e below s Q rc rs (T.setTop (mkF m pcN Ls st))) (gn : ¬ x = y → Go p e below s Q rc rs (T.setTop (mkF m pcY Ls st))) : Go p e below s Q rc rs (T.setTop (mkF m pc Ls (.int (lcmpW x y) :: st))) :=
  g_if0_ne X hx pcY pcN hd ho hY hN (fun q => gp ((lw_eq x y).1 q)) (fun q => gn fun r => q ((lw_eq x y).2 r))
theorem g_ifnull_no (X : Stand p l e R s m args below meth c T locs cells slots) (hx : p.tables.exec = Jvm.exec) {b : Addr} {o : Int} (pc' : Nat) (hd : decode c.code pc = .ok (.ifnull o, 3)) (hp : pc + 3 = pc') (g : Go p e below s Q rc rs (T.setTop (mkF m pc' Ls st))) : Go p e below s Q rc rs (T.setTop (mkF m pc Ls (.ref b :: st))) := by
  subst hp; exact g.by fun t k => XS.ifnullNo X.here hx rfl hd rfl k
theorem g_ifnonnull_yes (X : Stand p l e R s m args below meth c T locs cells slots) (hx : p.tables.exec = Jvm.exec) {b : Addr} {o : Int} (pc' : Nat) (hd : decode c.code pc = .ok (.ifnonnull o, 3)) (ho : 0 ≤ (pc : Int) + o) (hp : ((pc : Int) + o).toNat = pc') (g : Go p e below s Q rc rs (T.setTop (mkF m pc' Ls st))) : Go p e below s Q rc rs (T.setTop (mkF m pc Ls (.ref b :: st))) := by
  subst hp; exact g.by fun t k => XS.ifnonnullYes X.here hx rfl rfl hd rfl ho rfl k
theorem g_retI (X : Stand p l e R s m args below meth c T locs cells slots) (hx : p.tables.exec = Jvm.exec) (hret : meth.sig.returnType = some .int) (hlk : meth.locks = false) {z : Int32} (hd : decode c.code pc = .ok (.ireturn, 1)) (hc : cells ≤ rc) (hs : slots ≤ rs) (hQ : Q (some (.int z)) T.heap locs) : Go p e below s Q rc rs (T.setTop (mkF m pc Ls (.int z :: st))) := by
  obtain ⟨fs, hr, hrun, hended, hW, hsame⟩ := X.leave (v := some (.int z)) (fun q => by rw [hret] at q; cases q) hlk
  exact ⟨_, _, retI X hx hret hd hr, hrun, hended, _, _, rfl, hQ, ⟨_, rfl⟩, hW, hsame.mono hc hs⟩
theorem g_retN (X : Stand p l e R s m args below meth c T locs cells slots) (hx : p.tables.exec = Jvm.exec) {ty : FieldType} (hret : meth.sig.returnType = some ty) (ht : ty = .boolean ∨ ty = .byte ∨ ty = .char ∨ ty = .short) (hlk : meth.locks = false) {z : Int32} (hd : decode c.code pc = .ok (.ireturn, 1)) (hc : cells ≤ rc) (hs : slots ≤ rs) (hQ : Q (some (.int (nar ty z))) T.heap locs) : Go p e below s Q rc rs (T.setTop (mkF m pc Ls (.int z :: st))) := by
  obtain ⟨fs, hr, hrun, hended, hW, hsame⟩ := X.leave (v := some (.int (nar ty z))) (fun q => by rw [hret] at q; cases q) hlk
  exact ⟨_, _, retN X hx hret ht hd hr, hrun, hended, _, _, rfl, hQ, ⟨_, rfl⟩, hW, hsame.mono hc hs⟩
theorem g_retJ (X : Stand p l e R s m args below meth c T locs cells slots) (hx : p.tables.exec = Jvm.exec) (hret : meth.sig.returnType = some .long) (hlk : meth.locks = false) {z : Int64} (hd : decode c.code pc = .ok (.lreturn, 1)) (hc : cells ≤ rc) (hs : slots ≤ rs) (hQ : Q (some (.long z)) T.heap locs) : Go p e below s Q rc rs (T.setTop (mkF m pc Ls (.long z :: st))) := by
  obtain ⟨fs, hr, hrun, hended, hW, hsame⟩ := X.leave (v := some (.long z)) (fun q => by rw [hret] at q; cases q) hlk
  exact ⟨_, _, retOut X hx hret rfl (Or.inr (Or.inl ⟨rfl, rfl, z, rfl⟩)) hd hr, hrun, hended, _, _, rfl, hQ, ⟨_, rfl⟩, hW, hsame.mono hc hs⟩
theorem g_retA (X : Stand p l e R s m args below meth c T locs cells slots) (hx : p.tables.exec = Jvm.exec) {ty : FieldType} (hret : meth.sig.returnType = some ty) (ht : ty.isReference = true) (hlk : meth.locks = false) {b : Addr} (hd : decode c.code pc = .ok (.areturn, 1)) (hc : cells ≤ rc) (hs : slots ≤ rs) (hQ : Q (some (.ref b)) T.heap locs) : Go p e below s Q rc rs (T.setTop (mkF m pc Ls [.ref b])) := by
  obtain ⟨fs, hr, hrun, hended, hW, hsame⟩ := X.leave (v := some (.ref b)) (fun q => by rw [hret] at q; cases q) hlk
  exact ⟨_, _, X.areturnOut hx rfl hret ht hd hr, hrun, hended, _, _, rfl, hQ, ⟨_, rfl⟩, hW, hsame.mono hc hs⟩
theorem g_retV (X : Stand p l e R s m args below meth c T locs cells slots) (hx : p.tables.exec = Jvm.exec) (hret : meth.sig.returnType = none) (hlk : meth.locks = false) (hd : decode c.code pc = .ok (.return_, 1)) (hc : cells ≤ rc) (hs : slots ≤ rs) (hQ : Q none T.heap locs) : Go p e below s Q rc rs (T.setTop (mkF m pc Ls [])) := by
  obtain ⟨fs, hr, hrun, hended, hW, hsame⟩ := X.leave (v := none) (fun _ => rfl) hlk
  exact ⟨_, _, X.returnOut hx hret hd hr, hrun, hended, _, _, rfl, hQ, ⟨_, rfl⟩, hW, hsame.mono hc hs⟩
theorem g_body {y : MethodName} {bytes : ByteArray} {maxL : Nat} {ret : Option FieldType} {ws : List Jvm.Cond} {rm : Room} {as : Array Value} (hpn : plainFor y = true)
    (body : ∀ p e s m below meth c T, Stand p l e rm s m as below meth c T [] 0 0 → p.tables.exec = Jvm.exec → c.code = bytes → c.maxLocals = maxL → meth.sig.returnType = ret → meth.locks = false → s.vm.findClass y.cls = some m.cls → meth.name = y.name → Z.Warmed39 s.vm → T.heap = h → Go p e below s Q rc rs (T.setTop (entryFrame m as maxL))) :
    MetFree l y (head1 (Jvm.Cond.code y bytes maxL ret :: ws) rm) (fun a U => a = as ∧ Z.Warmed39 U.vm ∧ U.heap = h) (fun _ _ _ _ _ => True) (fun _ U o U' => ∃ v L, o = .returned v ∧ Q v U'.heap L ∧ FrameEnd U o U' L rc rs) := by
  refine MetFree.of_bodySF hpn hisR ?_
  intro p e s m args below meth c s₁ Bd hml hP hK
  obtain ⟨rfl, hZ, hh⟩ := hP
  exact body p e s m below meth c s₁ (Stand.of_body Bd) Bd.exec Bd.bytes hml Bd.returns Bd.notSynchronized (findClass_of_methodNamed Bd.named) (name_of_methodNamed Bd.named Bd.method).1 hZ (by rw [← hh, Bd.state]; rfl)
theorem g_callS (X : Stand p l e R s m args below meth c T locs cells slots) (hx : p.tables.exec = Jvm.exec) (hZ : Z.Warmed39 s.vm) {own : String} {i : Nat} {y : MethodName} {bytes : ByteArray} {maxL : Nat} {ret : Option FieldType} {rm : Room} {as : Array Value} {Q' : Option Value → Heap → List Loc → Prop} (hown : s.vm.findClass own = some m.cls) (w1 : (Jvm.Cond.methodLink own i y).before a0 Z = true) (w2 : (Jvm.Cond.static y).before a0 Z = true) (w3 : (Jvm.Cond.initialized y.cls).before a0 Z = true) (w4 : (Jvm.Cond.code y bytes maxL ret).before a0 Z = true) (hy : y.cls ≠ "java/lang/invoke/MethodHandle" ∧ y.cls ≠ "java/lang/invoke/VarHandle") (eT : T.heap = h) (hM : MetFree l y (head1 [Jvm.Cond.code y bytes maxL ret] rm) (fun a U => a = as ∧ Z.Warmed39 U.vm ∧ U.heap = h) (fun _ _ _ _ _ => True) (fun _ U o U' => ∃ v L, o = .returned v ∧ Q' v U'.heap L ∧ FrameEnd U o U' L rm.cells rm.slots)) (argsL rest : List Value) (W : Nat) (has : argsL.toArray = as) (hlen : ∀ sig, parseMethodDescriptor y.desc = some sig → argsL.length = sig.parameters.length) (hst : st = argsL.reverse ++ rest) (hW : (rest.map fun v => v.category).sum ≤ W) (hf : rm.frames + 1 ≤ R.frames) (hlo : W + (maxL + 11) + rm.locals ≤ R.locals) (hcl : cells + rm.cells ≤ R.cells) (hsl : slots + rm.slots ≤ R.slots) (hsz : Ls.size = c.maxLocals) (hd : decode c.code pc = .ok (.invokestatic i, 3)) (k : ∀ T' L v, Stand p l e R s m args below meth c T' (locs ++ L) (cells + rm.cells) (slots + rm.slots) → Q' v T'.heap L → Go p e below s Q rc rs (T'.setTop (mkF m (pc + 3) Ls (v.toList ++ rest)))) : Go p e below s Q rc rs (T.setTop (mkF m pc Ls st)) := by
  subst hst has
  obtain ⟨_, _, ⟨T', L', k', n'⟩, -, X', ⟨Lc, hQ, e1, e2, e3⟩, stp⟩ := Jvm.LawKit.callS X hx (y := y) hown (mvT hZ w1) (mvT hZ w2) (mvT hZ w3) (mvT hZ w4) hy (backOf (W := W) hM hZ w4 w3 hf hlo) (g := mkF m pc Ls (argsL.reverse ++ rest)) rfl hsz (argsL := argsL) (rest := rest) hlen rfl (by show 2 * 0 + _ ≤ _; omega) hd (fun _ _ => ⟨rfl, eT, hcl, hsl⟩)
  dsimp only [Pt.U, Pt.locs, Pt.cells, Pt.slots] at X' e1 e2 e3 stp hQ
  subst e1 e2 e3
  exact (k _ _ _ X' hQ).by stp
theorem g_callI (X : Stand p l e R s m args below meth c T locs cells slots) (hx : p.tables.exec = Jvm.exec) (hZ : Z.Warmed39 s.vm) {own : String} {i : Nat} {y : MethodName} {bytes : ByteArray} {maxL : Nat} {rm : Room} {as : Array Value} {Q' : Option Value → Heap → List Loc → Prop} (hy1 : y.name = "<init>") (hown : s.vm.findClass own = some m.cls) (w1 : (Jvm.Cond.methodLink own i y).before a0 Z = true) (w2 : (Jvm.Cond.instanceMethod y).before a0 Z = true) (w3 : (Jvm.Cond.initialized y.cls).before a0 Z = true) (w4 : (Jvm.Cond.code y bytes maxL none).before a0 Z = true) (hy : y.cls ≠ "java/lang/invoke/MethodHandle" ∧ y.cls ≠ "java/lang/invoke/VarHandle") (eT : T.heap = h) (hM : MetFree l y (head1 [Jvm.Cond.code y bytes maxL none] rm) (fun a U => a = as ∧ Z.Warmed39 U.vm ∧ U.heap = h) (fun _ _ _ _ _ => True) (fun _ U o U' => ∃ v L, o = .returned v ∧ Q' v U'.heap L ∧ FrameEnd U o U' L rm.cells rm.slots)) (b : Addr) (argsL rest : List Value) (W : Nat) (has : (.ref b :: argsL : List Value).toArray = as) (hlen : ∀ sig, parseMethodDescriptor y.desc = some sig → argsL.length = sig.parameters.length) (hst : st = argsL.reverse ++ .ref b :: rest) (hW : (rest.map fun v => v.category).sum ≤ W) (hf : rm.frames + 1 ≤ R.frames) (hlo : W + (maxL + 11) + rm.locals ≤ R.locals) (hcl : cells + rm.cells ≤ R.cells) (hsl : slots + rm.slots ≤ R.slots) (hsz : Ls.size = c.maxLocals) (hd : decode c.code pc = .ok (.invokespecial i, 3)) (k : ∀ T' L v, Stand p l e R s m args below meth c T' (locs ++ L) (cells + rm.cells) (slots + rm.slots) → Q' v T'.heap L → Go p e below s Q rc rs (T'.setTop (mkF m (pc + 3) Ls (v.toList ++ rest)))) : Go p e below s Q rc rs (T.setTop (mkF m pc Ls st)) := by
  subst hst has
  obtain ⟨_, _, ⟨T', L', k', n'⟩, -, X', ⟨Lc, hQ, e1, e2, e3⟩, stp⟩ := X.specialBack hx (y := y) hy1 hown (mvT hZ w1) (mvT hZ w2) (mvT hZ w4) hy (backOf (W := W) hM hZ w4 w3 hf hlo) (g := mkF m pc Ls (argsL.reverse ++ .ref b :: rest)) rfl hsz (Steps.refl _) (a := b) (argsL := argsL) (rest := rest) hlen rfl (by show 2 * 0 + _ ≤ _; omega) hd (fun _ _ => ⟨rfl, eT, hcl, hsl⟩)
  dsimp only [Pt.U, Pt.locs, Pt.cells, Pt.slots] at X' e1 e2 e3 stp hQ
  subst e1 e2 e3
  exact (k _ _ _ X' hQ).by fun t k => stp.trans k
theorem g_callV (X : Stand p l e R s m args below meth c T locs cells slots) (hx : p.tables.exec = Jvm.exec) (hZ : Z.Warmed39 s.vm) {own C : String} {i : Nat} {y : MethodName} {bytes : ByteArray} {maxL : Nat} {ret : Option FieldType} {rm : Room} {as : Array Value} {Q' : Option Value → Heap → List Loc → Prop} (hown : s.vm.findClass own = some m.cls) (w1 : (Jvm.Cond.methodLink own i y).before a0 Z = true) (w2 : (Jvm.Cond.declares y).before a0 Z = true) (w5 : (Jvm.Cond.selects C y y).before a0 Z = true) (w6 : (Jvm.Cond.instanceMethod y).before a0 Z = true) (w3 : (Jvm.Cond.initialized y.cls).before a0 Z = true) (w4 : (Jvm.Cond.code y bytes maxL ret).before a0 Z = true) (hy : y.cls ≠ "java/lang/invoke/MethodHandle" ∧ y.cls ≠ "java/lang/invoke/VarHandle") (eT : T.heap = h) (b : Addr) (E : Exa Z h b C) (hM : MetFree l y (head1 [Jvm.Cond.code y bytes maxL ret] rm) (fun a U => a = as ∧ Z.Warmed39 U.vm ∧ U.heap = h) (fun _ _ _ _ _ => True) (fun _ U o U' => ∃ v L, o = .returned v ∧ Q' v U'.heap L ∧ FrameEnd U o U' L rm.cells rm.slots)) (argsL rest : List Value) (W : Nat) (has : (.ref b :: argsL : List Value).toArray = as) (hlen : ∀ sig, parseMethodDescriptor y.desc = some sig → argsL.length = sig.parameters.length) (hst : st = argsL.reverse ++ .ref b :: rest) (hW : (rest.map fun v => v.category).sum ≤ W) (hf : rm.frames + 1 ≤ R.frames) (hlo : W + (maxL + 11) + rm.locals ≤ R.locals) (hcl : cells + rm.cells ≤ R.cells) (hsl : slots + rm.slots ≤ R.slots) (hsz : Ls.size = c.maxLocals) (hd : decode c.code pc = .ok (.invokevirtual i, 3)) (k : ∀ T' L v, Stand p l e R s m args below meth c T' (locs ++ L) (cells + rm.cells) (slots + rm.slots) → Q' v T'.heap L → Go p e below s Q rc rs (T'.setTop (mkF m (pc + 3) Ls (v.toList ++ rest)))) : Go p e below s Q rc rs (T.setTop (mkF m pc Ls st)) := by
  subst hst has
  obtain ⟨cq, kq, qa, qb, qc⟩ := isOf hZ eT E
  obtain ⟨_, _, ⟨T', L', k', n'⟩, -, X', ⟨Lc, hQ, e1, e2, e3⟩, stp⟩ := X.virtualBack hx (y := y) (z := y) hown (mvT hZ w1) (mvT hZ w2) (notFace_of_selects (args := #[]) (mvT hZ w5)) (mvT hZ w5) (mvT hZ w6) hy (backOf (W := W) hM hZ w4 w3 hf hlo) qa qc (g := mkF m pc Ls (argsL.reverse ++ .ref b :: rest)) rfl hsz (Steps.refl _) (argsL := argsL) (rest := rest) hlen rfl (by show 2 * 0 + _ ≤ _; omega) hd (fun _ _ => ⟨rfl, eT, hcl, hsl⟩)
  dsimp only [Pt.U, Pt.locs, Pt.cells, Pt.slots] at X' e1 e2 e3 stp hQ
  subst e1 e2 e3
  exact (k _ _ _ X' hQ).by fun t k => stp.trans k
theorem g_callP (X : Stand p l e R s m args below meth c T locs cells slots) (hx : p.tables.exec = Jvm.exec) (hZ : Z.Warmed39 s.vm) {own C : String} {i : Nat} {y : MethodName} {bytes : ByteArray} {maxL : Nat} {ret : Option FieldType} {rm : Room} {as : Array Value} {Q' : Option Value → Heap → List Loc → Prop} (hown : s.vm.findClass own = some m.cls) (w1 : (Jvm.Cond.methodLink own i y).before a0 Z = true) (w2 : (Jvm.Cond.instanceMethod y).before a0 Z = true) (w5 : (Jvm.Cond.selects y.cls y y).before a0 Z = true) (w6 : (Jvm.Cond.privateMethod y).before a0 Z = true) (w3 : (Jvm.Cond.initialized y.cls).before a0 Z = true) (w4 : (Jvm.Cond.code y bytes maxL ret).before a0 Z = true) (hy : y.cls ≠ "java/lang/invoke/MethodHandle" ∧ y.cls ≠ "java/lang/invoke/VarHandle") (eT : T.heap = h) (b : Addr) (E : Exa Z h b C) (hM : MetFree l y (head1 [Jvm.Cond.code y bytes maxL ret] rm) (fun a U => a = as ∧ Z.Warmed39 U.vm ∧ U.heap = h) (fun _ _ _ _ _ => True) (fun _ U o U' => ∃ v L, o = .returned v ∧ Q' v U'.heap L ∧ FrameEnd U o U' L rm.cells rm.slots)) (argsL rest : List Value) (W : Nat) (has : (.ref b :: argsL : List Value).toArray = as) (hlen : ∀ sig, parseMethodDescriptor y.desc = some sig → argsL.length = sig.parameters.length) (hst : st = argsL.reverse ++ .ref b :: rest) (hW : (rest.map fun v => v.category).sum ≤ W) (hf : rm.frames + 1 ≤ R.frames) (hlo : W + (maxL + 11) + rm.locals ≤ R.locals) (hcl : cells + rm.cells ≤ R.cells) (hsl : slots + rm.slots ≤ R.slots) (hsz : Ls.size = c.maxLocals) (hd : decode c.code pc = .ok (.invokevirtual i, 3)) (k : ∀ T' L v, Stand p l e R s m args below meth c T' (locs ++ L) (cells + rm.cells) (slots + rm.slots) → Q' v T'.heap L → Go p e below s Q rc rs (T'.setTop (mkF m (pc + 3) Ls (v.toList ++ rest)))) : Go p e below s Q rc rs (T.setTop (mkF m pc Ls st)) := by
  subst hst has
  obtain ⟨cq, q, q'⟩ := E.cell
  obtain ⟨_, _, ⟨T', L', k', n'⟩, -, X', ⟨Lc, hQ, e1, e2, e3⟩, stp⟩ := X.privateBack hx (y := y) hown (mvT hZ w1) (mvT hZ w2) (mvT hZ w5) (Cond.privateMethod_at (mvP hZ w6 (args := #[]))) (mvT hZ w4) hy (backOf (W := W) hM hZ w4 w3 hf hlo) (g := mkF m pc Ls (argsL.reverse ++ .ref b :: rest)) rfl hsz (Steps.refl _) (a := b) (by rw [eT]; exact q) q' (argsL := argsL) (rest := rest) hlen rfl (by show 2 * 0 + _ ≤ _; omega) hd (fun _ _ => ⟨rfl, eT, hcl, hsl⟩)
  dsimp only [Pt.U, Pt.locs, Pt.cells, Pt.slots] at X' e1 e2 e3 stp hQ
  subst e1 e2 e3
  exact (k _ _ _ X' hQ).by fun t k => stp.trans k
theorem g_initO (X : Stand p l e R s m args below meth c T locs cells slots) (hx : p.tables.exec = Jvm.exec) (hZ : Z.Warmed39 s.vm) {own : String} {i : Nat} (hown : s.vm.findClass own = some m.cls) (w1 : (Jvm.Cond.methodLink own i Lib.objectInit).before a0 Z = true) (w2 : (Jvm.Cond.instanceMethod Lib.objectInit).before a0 Z = true) (w3 : (Jvm.Cond.code Lib.objectInit ⟨#[0xb1]⟩ 1 none).before a0 Z = true) (eT : T.heap = h) {b : Addr} (pc' : Nat) (hsz : Ls.size = c.maxLocals) (hd : decode c.code pc = .ok (.invokespecial i, 3)) (hf : 1 ≤ R.frames) (W : Nat) (hW : (st.map fun v => v.category).sum ≤ W) (hlo : W + 12 ≤ R.locals) (hp : pc + 3 = pc') (k : ∀ T', Stand p l e R s m args below meth c T' locs cells slots → T'.heap = h → Go p e below s Q rc rs (T'.setTop (mkF m pc' Ls st))) : Go p e below s Q rc rs (T.setTop (mkF m pc Ls (.ref b :: st))) := by
  subst hp
  obtain ⟨T', X', e', stp⟩ := initO X hx hZ hown w1 w2 w3 eT (g := mkF m pc Ls (.ref b :: st)) rfl hsz rfl hd hf (W := W) (by show 2 * 0 + _ ≤ _; omega) hlo
  exact (k _ X' e').by stp
theorem g_getF (X : Stand p l e R s m args below meth c T locs cells slots) (hx : p.tables.exec = Jvm.exec) (hZ : Z.Warmed39 s.vm) {own R0 O n d : String} {i : Nat} (hown : s.vm.findClass own = some m.cls) (w : (Jvm.Cond.fieldLink own i R0 n d).before a0 Z = true) (via : Via Z R0 O n d) (eT : T.heap = h) {b : Addr} {v : Value} (F : Fld Z h b O n d v) (pc' : Nat) (hd : decode c.code pc = .ok (.getfield i, 3)) (hp : pc + 3 = pc') (k : ∀ T', Stand p l e R s m args below meth c T' locs cells slots → T'.heap = h → Go p e below s Q rc rs (T'.setTop (mkF m pc' Ls (v :: st)))) : Go p e below s Q rc rs (T.setTop (mkF m pc Ls (.ref b :: st))) := by
  subst hp
  obtain ⟨T', X', e', stp⟩ := getF X hx hZ hown (host := "") (Or.inl w) via eT F (g := mkF m pc Ls (.ref b :: st)) rfl rfl hd
  exact (k _ X' e').by stp
theorem g_putF (X : Stand p l e R s m args below meth c T locs cells slots) (hx : p.tables.exec = Jvm.exec) (hZ : Z.Warmed39 s.vm) {own R0 O n d C : String} {i kk : Nat} {ty : FieldType} (hown : s.vm.findClass own = some m.cls) (w : (Jvm.Cond.fieldLink own i R0 n d).before a0 Z = true) (via : Via Z R0 O n d) (eT : T.heap = h) {b : Addr} {v old : Value} (F : Fld Z h b O n d old) (E : Exa Z h b C) (L : (Jvm.Cond.lays C O n d).before a0 Z = true ∨ ((Jvm.Cond.laysFinal C O n d).before a0 Z = true ∧ own = O ∧ meth.name = "<init>")) (wi : (Jvm.Cond.instantiable C kk).before a0 Z = true) (hty : parseFieldDescriptor d = some ty) (hn : narrow ty v = v) (hf : fits ty v = true) (pc' : Nat) (hd : decode c.code pc = .ok (.putfield i, 3)) (hp : pc + 3 = pc') (k : ∀ T' h', Stand p l e R s m args below meth c T' (locs ++ [⟨b, Jvm.RoadKit.slotOf Z O n d⟩]) cells slots → T'.heap = h' → Wr h h' b (Jvm.RoadKit.slotOf Z O n d) v → Go p e below s Q rc rs (T'.setTop (mkF m pc' Ls st))) : Go p e below s Q rc rs (T.setTop (mkF m pc Ls (v :: .ref b :: st))) := by
  subst hp
  obtain ⟨T', h', X', e', W', stp⟩ := putF X hx hZ hown (host := "") (Or.inl w) via eT F E L wi hty hn hf (g := mkF m pc Ls (v :: .ref b :: st)) rfl rfl hd
  exact (k _ _ X' e' W').by stp
theorem g_new (X : Stand p l e R s m args below meth c T locs cells slots) (hx : p.tables.exec = Jvm.exec) (hZ : Z.Warmed39 s.vm) {own C : String} {i n : Nat} (hown : s.vm.findClass own = some m.cls) (w : (Jvm.Cond.classLink own i C).before a0 Z = true) (wi : (Jvm.Cond.instantiable C n).before a0 Z = true) (wz : (Jvm.Cond.initialized C).before a0 Z = true) (eT : T.heap = h) (pc' : Nat) (hd : decode c.code pc = .ok (.new i, 3)) (hcl : cells + 1 ≤ R.cells) (hsl : slots + n ≤ R.slots) (hp : pc + 3 = pc') (k : ∀ T' h' b, b = h.size → Stand p l e R s m args below meth c T' locs (cells + 1) (slots + n) → T'.heap = h' → Ext h h' → Exa Z h' b C → (∀ {O nm d : String} {ty : FieldType}, Laid Z a0 C O nm d → parseFieldDescriptor d = some ty → Fld Z h' b O nm d (defaultValue ty)) → Go p e below s Q rc rs (T'.setTop (mkF m pc' Ls (.ref b :: st)))) : Go p e below s Q rc rs (T.setTop (mkF m pc Ls st)) := by
  subst hp
  obtain ⟨T', h', X', e', E', A', D', -, stp⟩ := newO X hx hZ hown w wi wz eT (g := mkF m pc Ls st) rfl hd hcl hsl
  exact (k _ _ _ rfl X' e' E' A' D').by stp
/-- an array of n places whose j-th holds f j -/
def AV (Z : State) (h : Heap) (a : Addr) (ty : FieldType) (n : Nat) (f : Nat → Value) : Prop := ∃ c : Cell, Arr Z h a c ty ∧ c.slots.size = n ∧ n < 2 ^ 31 ∧ ∀ j, j < n → c.slots[j]? = some (f j)
theorem AV.ext {h' : Heap} {a : Addr} {ty : FieldType} {n : Nat} {f : Nat → Value} (F : AV Z h a ty n f) (E : Ext h h') : AV Z h' a ty n f := by obtain ⟨c, A, r⟩ := F; exact ⟨c, A.ext E, r⟩
theorem AV.other {h' : Heap} {a b : Addr} {ty : FieldType} {n sl : Nat} {f : Nat → Value} {v : Value} (F : AV Z h a ty n f) (W : Wr h h' b sl v) (q : a ≠ b) : AV Z h' a ty n f := by obtain ⟨c, A, r⟩ := F; exact ⟨c, A.other W q, r⟩
theorem AV.keep {h' : Heap} {a : Addr} {ws : List Addr} {ty : FieldType} {n : Nat} {f : Nat → Value} (F : AV Z h a ty n f) (K : Keep h h' ws) (q : a ∉ ws) : AV Z h' a ty n f := by obtain ⟨c, A, r⟩ := F; exact ⟨c, ⟨K.2.1 a c A.1 q, A.2⟩, r⟩
theorem AV.lt {a : Addr} {ty : FieldType} {n : Nat} {f : Nat → Value} (F : AV Z h a ty n f) : a < h.size := by obtain ⟨c, A, -⟩ := F; exact A.lt
theorem AV.small {a : Addr} {ty : FieldType} {n : Nat} {f : Nat → Value} (F : AV Z h a ty n f) : n < 2 ^ 31 := by obtain ⟨c, -, -, q, -⟩ := F; exact q
theorem AV.congr {a : Addr} {ty : FieldType} {n : Nat} {f g : Nat → Value} (F : AV Z h a ty n f) (q : ∀ j, j < n → f j = g j) : AV Z h a ty n g := by obtain ⟨c, A, r1, r2, r3⟩ := F; exact ⟨c, A, r1, r2, fun j hj => by rw [r3 j hj, q j hj]⟩
theorem own_idx {j : Int32} {i : Nat} (q : j.toInt = i) : ¬ j < 0 ∧ j.toNatClampNeg = i := by
  refine ⟨?_, ?_⟩
  · rw [Int32.lt_iff_toInt_lt, q]; simp
  · show j.toInt.toNat = i; omega
theorem own_in {j : Int32} {i : Nat} {cl : Cell} (q : j.toInt = i) (hi : i < cl.slots.size) : ¬ (j < 0 ∨ cl.slots.size ≤ j.toNatClampNeg) := by
  obtain ⟨q1, q2⟩ := own_idx q
  rintro (z | z)
  · exact q1 z
  · omega
def upd {α : Type} (g : Nat → α) (j : Nat) (x : α) : Nat → α := fun q => if q = j then x else g q
def AI (Z : State) (h : Heap) (a : Addr) (n : Nat) (g : Nat → Int32) : Prop := AV Z h a .int n (fun j => .int (g j))
def AJ (Z : State) (h : Heap) (a : Addr) (n : Nat) (g : Nat → Int64) : Prop := AV Z h a .long n (fun j => .long (g j))
def AB (Z : State) (h : Heap) (a : Addr) (n : Nat) (g : Nat → Int32) : Prop := AV Z h a .byte n (fun j => .int (g j))
theorem nm0 {a : Addr} : a ∉ ([] : List Addr) := nofun
theorem nm1 {a b : Addr} {ws : List Addr} (q : a ≠ b) (r : a ∉ ws) : a ∉ b :: ws := fun z => by
  rcases List.mem_cons.mp z with z | z
  · exact q z
  · exact r z
theorem AI.ext {h' : Heap} {a : Addr} {n : Nat} {g : Nat → Int32} (F : AI Z h a n g) (E : Ext h h') : AI Z h' a n g := AV.ext F E
theorem AI.other {h' : Heap} {a b : Addr} {n sl : Nat} {g : Nat → Int32} {v : Value} (F : AI Z h a n g) (W : Wr h h' b sl v) (q : a ≠ b) : AI Z h' a n g := AV.other F W q
theorem AI.keep {h' : Heap} {a : Addr} {ws : List Addr} {n : Nat} {g : Nat → Int32} (F : AI Z h a n g) (K : Keep h h' ws) (q : a ∉ ws) : AI Z h' a n g := AV.keep F K q
theorem AI.lt {a : Addr} {n : Nat} {g : Nat → Int32} (F : AI Z h a n g) : a < h.size := AV.lt F
theorem AI.small {a : Addr} {n : Nat} {g : Nat → Int32} (F : AI Z h a n g) : n < 2 ^ 31 := AV.small F
theorem AI.congr {a : Addr} {n : Nat} {g g' : Nat → Int32} (F : AI Z h a n g) (q : ∀ j, j < n → g j = g' j) : AI Z h a n g' := AV.congr F fun j hj => by rw [q j hj]
theorem AJ.ext {h' : Heap} {a : Addr} {n : Nat} {g : Nat → Int64} (F : AJ Z h a n g) (E : Ext h h') : AJ Z h' a n g := AV.ext F E
theorem AJ.other {h' : Heap} {a b : Addr} {n sl : Nat} {g : Nat → Int64} {v : Value} (F : AJ Z h a n g) (W : Wr h h' b sl v) (q : a ≠ b) : AJ Z h' a n g := AV.other F W q
theorem AJ.keep {h' : Heap} {a : Addr} {ws : List Addr} {n : Nat} {g : Nat → Int64} (F : AJ Z h a n g) (K : Keep h h' ws) (q : a ∉ ws) : AJ Z h' a n g := AV.keep F K q
theorem AJ.lt {a : Addr} {n : Nat} {g : Nat → Int64} (F : AJ Z h a n g) : a < h.size := AV.lt F
theorem AJ.small {a : Addr} {n : Nat} {g : Nat → Int64} (F : AJ Z h a n g) : n < 2 ^ 31 := AV.small F
theorem AJ.congr {a : Addr} {n : Nat} {g g' : Nat → Int64} (F : AJ Z h a n g) (q : ∀ j, j < n → g j = g' j) : AJ Z h a n g' := AV.congr F fun j hj => by rw [q j hj]
theorem AB.ext {h' : Heap} {a : Addr} {n : Nat} {g : Nat → Int32} (F : AB Z h a n g) (E : Ext h h') : AB Z h' a n g := AV.ext F E
theorem AB.other {h' : Heap} {a b : Addr} {n sl : Nat} {g : Nat → Int32} {v : Value} (F : AB Z h a n g) (W : Wr h h' b sl v) (q : a ≠ b) : AB Z h' a n g := AV.other F W q
theorem AB.keep {h' : Heap} {a : Addr} {ws : List Addr} {n : Nat} {g : Nat → Int32} (F : AB Z h a n g) (K : Keep h h' ws) (q : a ∉ ws) : AB Z h' a n g := AV.keep F K q
theorem AB.lt {a : Addr} {n : Nat} {g : Nat → Int32} (F : AB Z h a n g) : a < h.size := AV.lt F
theorem AB.small {a : Addr} {n : Nat} {g : Nat → Int32} (F : AB Z h a n g) : n < 2 ^ 31 := AV.small F
theorem AB.congr {a : Addr} {n : Nat} {g g' : Nat → Int32} (F : AB Z h a n g) (q : ∀ j, j < n → g j = g' j) : AB Z h a n g' := AV.congr F fun j hj => by rw [q j hj]
theorem g_iaload (X : Stand p l e R s m args below meth c T locs cells slots) (hx : p.tables.exec = Jvm.exec) (hZ : Z.Warmed39 s.vm) (eT : T.heap = h) {b : Addr} {n : Nat} {g : Nat → Int32} (A : AI Z h b n g) {j : Int32} (jn : Nat) (hj : j.toInt = jn) (hlt : jn < n) (pc' : Nat) (hd : decode c.code pc = .ok (.iaload, 1)) (hp : pc + 1 = pc') (k : Go p e below s Q rc rs (T.setTop (mkF m pc' Ls (.int (g jn) :: st)))) : Go p e below s Q rc rs (T.setTop (mkF m pc Ls (.int j :: .ref b :: st))) := by
  subst hp
  obtain ⟨cl, A1, A2, A3, A4⟩ := A
  exact k.by fun t k => X.iaload hx (j := j) (by rw [eT]; exact A1.1) (State.isArrayOf_alike hZ.alike A1.2.1) A1.2.2 (own_in hj (by omega)) (by rw [(own_idx hj).2]; exact A4 _ hlt) (g := mkF m pc Ls (.int j :: .ref b :: st)) rfl rfl hd t k
theorem g_laload (X : Stand p l e R s m args below meth c T locs cells slots) (hx : p.tables.exec = Jvm.exec) (hZ : Z.Warmed39 s.vm) (eT : T.heap = h) {b : Addr} {n : Nat} {g : Nat → Int64} (A : AJ Z h b n g) {j : Int32} (jn : Nat) (hj : j.toInt = jn) (hlt : jn < n) (pc' : Nat) (hd : decode c.code pc = .ok (.laload, 1)) (hp : pc + 1 = pc') (k : Go p e below s Q rc rs (T.setTop (mkF m pc' Ls (.long (g jn) :: st)))) : Go p e below s Q rc rs (T.setTop (mkF m pc Ls (.int j :: .ref b :: st))) := by
  subst hp
  obtain ⟨cl, A1, A2, A3, A4⟩ := A
  exact k.by fun t k => X.laload hx (j := j) (by rw [eT]; exact A1.1) (State.isArrayOf_alike hZ.alike A1.2.1) A1.2.2 (own_in hj (by omega)) (by rw [(own_idx hj).2]; exact A4 _ hlt) (g := mkF m pc Ls (.int j :: .ref b :: st)) rfl rfl hd t k
theorem g_baload (X : Stand p l e R s m args below meth c T locs cells slots) (hx : p.tables.exec = Jvm.exec) (hZ : Z.Warmed39 s.vm) (eT : T.heap = h) {b : Addr} {n : Nat} {g : Nat → Int32} (A : AB Z h b n g) {j : Int32} (jn : Nat) (hj : j.toInt = jn) (hlt : jn < n) (pc' : Nat) (hd : decode c.code pc = .ok (.baload, 1)) (hp : pc + 1 = pc') (k : Go p e below s Q rc rs (T.setTop (mkF m pc' Ls (.int (g jn) :: st)))) : Go p e below s Q rc rs (T.setTop (mkF m pc Ls (.int j :: .ref b :: st))) := by
  subst hp
  obtain ⟨cl, A1, A2, A3, A4⟩ := A
  exact k.by fun t k => X.baloadBytes hx (j := j) (by rw [eT]; exact A1.1) (State.isArrayOf_alike hZ.alike A1.2.1) A1.2.2 (own_in hj (by omega)) (by rw [(own_idx hj).2]; exact A4 _ hlt) (g := mkF m pc Ls (.int j :: .ref b :: st)) rfl rfl hd t k
theorem g_iastore (X : Stand p l e R s m args below meth c T locs cells slots) (hx : p.tables.exec = Jvm.exec) (hZ : Z.Warmed39 s.vm) (eT : T.heap = h) {b : Addr} {n : Nat} {g : Nat → Int32} (A : AI Z h b n g) {j : Int32} {x : Int32} (jn : Nat) (hj : j.toInt = jn) (hlt : jn < n) (pc' : Nat) (hd : decode c.code pc = .ok (.iastore, 1)) (hp : pc + 1 = pc') (k : ∀ T' h', Stand p l e R s m args below meth c T' (locs ++ [⟨b, jn⟩]) cells slots → T'.heap = h' → Wr h h' b jn (.int x) → AI Z h' b n (upd g jn x) → Go p e below s Q rc rs (T'.setTop (mkF m pc' Ls st))) : Go p e below s Q rc rs (T.setTop (mkF m pc Ls (.int x :: .int j :: .ref b :: st))) := by
  subst hp
  obtain ⟨cl, A1, A2, A3, A4⟩ := A
  obtain ⟨T', h', X', e', W', stp⟩ := stI X hx hZ eT A1 (j := j) (x := x) (own_in hj (by omega)) (g := mkF m pc Ls (.int x :: .int j :: .ref b :: st)) rfl rfl hd
  rw [(own_idx hj).2] at X' W'
  refine (k _ _ X' e' W' ⟨_, A1.same W', by rw [sz_set]; exact A2, A3, fun q hq => ?_⟩).by stp
  by_cases z : q = jn
  · subst z; simp [Cell.setSlot, A2, hq, upd]; try rfl
  · simp only [upd, z, if_false]; rw [← A4 q hq]; simp only [Cell.setSlot]; rw [Array.getElem?_setIfInBounds_ne (Ne.symm z)]
theorem g_lastore (X : Stand p l e R s m args below meth c T locs cells slots) (hx : p.tables.exec = Jvm.exec) (hZ : Z.Warmed39 s.vm) (eT : T.heap = h) {b : Addr} {n : Nat} {g : Nat → Int64} (A : AJ Z h b n g) {j : Int32} {x : Int64} (jn : Nat) (hj : j.toInt = jn) (hlt : jn < n) (pc' : Nat) (hd : decode c.code pc = .ok (.lastore, 1)) (hp : pc + 1 = pc') (k : ∀ T' h', Stand p l e R s m args below meth c T' (locs ++ [⟨b, jn⟩]) cells slots → T'.heap = h' → Wr h h' b jn (.long x) → AJ Z h' b n (upd g jn x) → Go p e below s Q rc rs (T'.setTop (mkF m pc' Ls st))) : Go p e below s Q rc rs (T.setTop (mkF m pc Ls (.long x :: .int j :: .ref b :: st))) := by
  subst hp
  obtain ⟨cl, A1, A2, A3, A4⟩ := A
  obtain ⟨T', h', X', e', W', stp⟩ := stJ X hx hZ eT A1 (j := j) (x := x) (own_in hj (by omega)) (g := mkF m pc Ls (.long x :: .int j :: .ref b :: st)) rfl rfl hd
  rw [(own_idx hj).2] at X' W'
  refine (k _ _ X' e' W' ⟨_, A1.same W', by rw [sz_set]; exact A2, A3, fun q hq => ?_⟩).by stp
  by_cases z : q = jn
  · subst z; simp [Cell.setSlot, A2, hq, upd]; try rfl
  · simp only [upd, z, if_false]; rw [← A4 q hq]; simp only [Cell.setSlot]; rw [Array.getElem?_setIfInBounds_ne (Ne.symm z)]
theorem g_bastore (X : Stand p l e R s m args below meth c T locs cells slots) (hx : p.tables.exec = Jvm.exec) (hZ : Z.Warmed39 s.vm) (eT : T.heap = h) {b : Addr} {n : Nat} {g : Nat → Int32} (A : AB Z h b n g) {j : Int32} {x : Int32} (jn : Nat) (hj : j.toInt = jn) (hlt : jn < n) (pc' : Nat) (hd : decode c.code pc = .ok (.bastore, 1)) (hp : pc + 1 = pc') (k : ∀ T' h', Stand p l e R s m args below meth c T' (locs ++ [⟨b, jn⟩]) cells slots → T'.heap = h' → Wr h h' b jn (.int (nar .byte x)) → AB Z h' b n (upd g jn (i2bI x)) → Go p e below s Q rc rs (T'.setTop (mkF m pc' Ls st))) : Go p e below s Q rc rs (T.setTop (mkF m pc Ls (.int x :: .int j :: .ref b :: st))) := by
  subst hp
  obtain ⟨cl, A1, A2, A3, A4⟩ := A
  obtain ⟨T', h', X', e', W', stp⟩ := stB X hx hZ eT A1 (j := j) (x := x) (own_in hj (by omega)) (g := mkF m pc Ls (.int x :: .int j :: .ref b :: st)) rfl rfl hd
  rw [(own_idx hj).2] at X' W'
  refine (k _ _ X' e' W' ⟨_, A1.same W', by rw [sz_set]; exact A2, A3, fun q hq => ?_⟩).by stp
  by_cases z : q = jn
  · subst z; simp [Cell.setSlot, A2, hq, upd]; try rfl
  · simp only [upd, z, if_false]; rw [← A4 q hq]; simp only [Cell.setSlot]; rw [Array.getElem?_setIfInBounds_ne (Ne.symm z)]
theorem g_arraylengthI (X : Stand p l e R s m args below meth c T locs cells slots) (hx : p.tables.exec = Jvm.exec) (hZ : Z.Warmed39 s.vm) (eT : T.heap = h) {b : Addr} {n : Nat} {g : Nat → Int32} (A : AI Z h b n g) (v : Int32) (hv : n.toInt32 = v) (pc' : Nat) (hd : decode c.code pc = .ok (.arraylength, 1)) (hp : pc + 1 = pc') (k : Go p e below s Q rc rs (T.setTop (mkF m pc' Ls (.int v :: st)))) : Go p e below s Q rc rs (T.setTop (mkF m pc Ls (.ref b :: st))) := by
  subst hp hv
  obtain ⟨cl, A1, A2, A3, A4⟩ := A
  subst A2
  exact k.by fun t k => X.arraylength hx (by rw [eT]; exact A1.1) (State.isArrayOf_alike hZ.alike A1.2.1) (g := mkF m pc Ls (.ref b :: st)) rfl rfl hd t k
theorem g_arraylengthJ (X : Stand p l e R s m args below meth c T locs cells slots) (hx : p.tables.exec = Jvm.exec) (hZ : Z.Warmed39 s.vm) (eT : T.heap = h) {b : Addr} {n : Nat} {g : Nat → Int64} (A : AJ Z h b n g) (v : Int32) (hv : n.toInt32 = v) (pc' : Nat) (hd : decode c.code pc = .ok (.arraylength, 1)) (hp : pc + 1 = pc') (k : Go p e below s Q rc rs (T.setTop (mkF m pc' Ls (.int v :: st)))) : Go p e below s Q rc rs (T.setTop (mkF m pc Ls (.ref b :: st))) := by
  subst hp hv
  obtain ⟨cl, A1, A2, A3, A4⟩ := A
  subst A2
  exact k.by fun t k => X.arraylength hx (by rw [eT]; exact A1.1) (State.isArrayOf_alike hZ.alike A1.2.1) (g := mkF m pc Ls (.ref b :: st)) rfl rfl hd t k
theorem g_arraylengthB (X : Stand p l e R s m args below meth c T locs cells slots) (hx : p.tables.exec = Jvm.exec) (hZ : Z.Warmed39 s.vm) (eT : T.heap = h) {b : Addr} {n : Nat} {g : Nat → Int32} (A : AB Z h b n g) (v : Int32) (hv : n.toInt32 = v) (pc' : Nat) (hd : decode c.code pc = .ok (.arraylength, 1)) (hp : pc + 1 = pc') (k : Go p e below s Q rc rs (T.setTop (mkF m pc' Ls (.int v :: st)))) : Go p e below s Q rc rs (T.setTop (mkF m pc Ls (.ref b :: st))) := by
  subst hp hv
  obtain ⟨cl, A1, A2, A3, A4⟩ := A
  subst A2
  exact k.by fun t k => X.arraylength hx (by rw [eT]; exact A1.1) (State.isArrayOf_alike hZ.alike A1.2.1) (g := mkF m pc Ls (.ref b :: st)) rfl rfl hd t k
theorem g_newarr (X : Stand p l e R s m args below meth c T locs cells slots) (hx : p.tables.exec = Jvm.exec) (hZ : Z.Warmed39 s.vm) {aty : ArrayType} (w : (Jvm.Cond.arrayClass (newarray.typeOf aty)).before a0 Z = true) (eT : T.heap = h) {n : Int32} (N cap : Nat) (hn : n.toInt = N) (hcap : N ≤ cap) (hb : cap * 8 ≤ 536870912) (pc' : Nat) (hd : decode c.code pc = .ok (.newarray aty, 2)) (hcl : cells + 1 ≤ R.cells) (hsl : slots + cap ≤ R.slots) (hp : pc + 2 = pc') (k : ∀ T' h' b, b = h.size → Stand p l e R s m args below meth c T' locs (cells + 1) (slots + cap) → T'.heap = h' → Ext h h' → AV Z h' b (newarray.typeOf aty) N (fun _ => defaultValue (newarray.typeOf aty)) → Go p e below s Q rc rs (T'.setTop (mkF m pc' Ls (.ref b :: st)))) : Go p e below s Q rc rs (T.setTop (mkF m pc Ls (.int n :: st))) := by
  subst hp
  obtain ⟨q1, q2⟩ := own_idx hn
  obtain ⟨T', h', kA, X', e', E', A', stp⟩ := newP X hx hZ w eT (g := mkF m pc Ls (.int n :: st)) rfl hd rfl q1 (cap := cap) (by rw [q2]; exact hcap) hb hcl hsl
  have hN : N < 2 ^ 31 := by have := n.toInt_lt; omega
  refine (k _ _ _ rfl X' e' E' ⟨_, A', by rw [sz_new, q2], hN, fun j hj => ?_⟩).by stp
  simp [newA, q2, hj]
theorem g_newarrayI (X : Stand p l e R s m args below meth c T locs cells slots) (hx : p.tables.exec = Jvm.exec) (hZ : Z.Warmed39 s.vm) (w : (Jvm.Cond.arrayClass .int).before a0 Z = true) (eT : T.heap = h) {n : Int32} (N cap : Nat) (hn : n.toInt = N) (hcap : N ≤ cap) (hb : cap * 8 ≤ 536870912) (pc' : Nat) (hd : decode c.code pc = .ok (.newarray .int, 2)) (hcl : cells + 1 ≤ R.cells) (hsl : slots + cap ≤ R.slots) (hp : pc + 2 = pc') (k : ∀ T' h' b, b = h.size → Stand p l e R s m args below meth c T' locs (cells + 1) (slots + cap) → T'.heap = h' → Ext h h' → AI Z h' b N (fun _ => (0 : Int32)) → Go p e below s Q rc rs (T'.setTop (mkF m pc' Ls (.ref b :: st)))) : Go p e below s Q rc rs (T.setTop (mkF m pc Ls (.int n :: st))) :=
  g_newarr X hx hZ (aty := .int) w eT N cap hn hcap hb pc' hd hcl hsl hp fun T' h' b q1 q2 q3 q4 q5 => k T' h' b q1 q2 q3 q4 q5
theorem g_newarrayJ (X : Stand p l e R s m args below meth c T locs cells slots) (hx : p.tables.exec = Jvm.exec) (hZ : Z.Warmed39 s.vm) (w : (Jvm.Cond.arrayClass .long).before a0 Z = true) (eT : T.heap = h) {n : Int32} (N cap : Nat) (hn : n.toInt = N) (hcap : N ≤ cap) (hb : cap * 8 ≤ 536870912) (pc' : Nat) (hd : decode c.code pc = .ok (.newarray .long, 2)) (hcl : cells + 1 ≤ R.cells) (hsl : slots + cap ≤ R.slots) (hp : pc + 2 = pc') (k : ∀ T' h' b, b = h.size → Stand p l e R s m args below meth c T' locs (cells + 1) (slots + cap) → T'.heap = h' → Ext h h' → AJ Z h' b N (fun _ => (0 : Int64)) → Go p e below s Q rc rs (T'.setTop (mkF m pc' Ls (.ref b :: st)))) : Go p e below s Q rc rs (T.setTop (mkF m pc Ls (.int n :: st))) :=
  g_newarr X hx hZ (aty := .long) w eT N cap hn hcap hb pc' hd hcl hsl hp fun T' h' b q1 q2 q3 q4 q5 => k T' h' b q1 q2 q3 q4 q5
theorem g_newarrayB (X : Stand p l e R s m args below meth c T locs cells slots) (hx : p.tables.exec = Jvm.exec) (hZ : Z.Warmed39 s.vm) (w : (Jvm.Cond.arrayClass .byte).before a0 Z = true) (eT : T.heap = h) {n : Int32} (N cap : Nat) (hn : n.toInt = N) (hcap : N ≤ cap) (hb : cap * 8 ≤ 536870912) (pc' : Nat) (hd : decode c.code pc = .ok (.newarray .byte, 2)) (hcl : cells + 1 ≤ R.cells) (hsl : slots + cap ≤ R.slots) (hp : pc + 2 = pc') (k : ∀ T' h' b, b = h.size → Stand p l e R s m args below meth c T' locs (cells + 1) (slots + cap) → T'.heap = h' → Ext h h' → AB Z h' b N (fun _ => (0 : Int32)) → Go p e below s Q rc rs (T'.setTop (mkF m pc' Ls (.ref b :: st)))) : Go p e below s Q rc rs (T.setTop (mkF m pc Ls (.int n :: st))) :=
  g_newarr X hx hZ (aty := .byte) w eT N cap hn hcap hb pc' hd hcl hsl hp fun T' h' b q1 q2 q3 q4 q5 => k T' h' b q1 q2 q3 q4 q5
end OwnKit
/-- what read() gives: k bytes more behind the one at i -/
def own_rd (g : Nat → Int32) : Nat → Nat → Int32 → Int32 → Int32
  | 0, i, acc, sh => acc ||| shlI (g i &&& 127) sh
  | k + 1, i, acc, sh => own_rd g k (i + 1) (acc ||| shlI (g i &&& 127) sh) (sh + 7)
theorem own_ofNat {x : Int32} {n : Nat} (h : x.toInt = n) : x = Int32.ofNat n := by
  apply Int32.toInt_inj.mp
  rw [h, Int32.toInt_ofNat_of_lt (by have := x.toInt_lt; omega)]
theorem own_add {x y : Int32} {i j : Nat} (h : x.toInt = i) (hy : y.toInt = j) (hb : i + j < 2 ^ 31) : (x + y).toInt = ((i + j : Nat) : Int) := by
  rw [Int32.toInt_add, h, hy]
  exact Int.bmod_eq_of_le (by omega) (by omega)
theorem d1_0 : decode prog_29_method_1_code 0 = .ok (.aload_n 0, 1) := by decide +kernel
theorem d1_1 : decode prog_29_method_1_code 1 = .ok (.invokespecial 1, 3) := by decide +kernel
theorem d1_4 : decode prog_29_method_1_code 4 = .ok (.aload_n 0, 1) := by decide +kernel
theorem d1_5 : decode prog_29_method_1_code 5 = .ok (.aload_n 1, 1) := by decide +kernel
theorem d1_6 : decode prog_29_method_1_code 6 = .ok (.putfield 7, 3) := by decide +kernel
theorem d1_9 : decode prog_29_method_1_code 9 = .ok (.aload_n 0, 1) := by decide +kernel
theorem d1_10 : decode prog_29_method_1_code 10 = .ok (.iload_n 2, 1) := by decide +kernel
theorem d1_11 : decode prog_29_method_1_code 11 = .ok (.putfield 13, 3) := by decide +kernel
theorem d1_14 : decode prog_29_method_1_code 14 = .ok (.return_, 1) := by decide +kernel
theorem pn_1 : plainName "com/example/terms_in_context/termsincontext/index/VarIntInput" = true := by first | (simp [plainName, overriddenIn]; done) | decide +kernel
theorem ef_1 (m : MethodId) (x0 : Addr) (x1 : Addr) (x2 : Int32) : entryFrame m #[(.ref x0), (.ref x1), (.int x2)] 3 = mkF m 0 #[.val (.ref x0), .val (.ref x1), .val (.int x2)] [] := by first | (simp [entryFrame, mkF, argsToLocals, Value.category]; done) | rfl
def Q1 (Z : State) (x0 : Addr) (x1 : Addr) (x2 : Int32) (h0 : Heap) (n0 : Nat) (v : Option Value) (h : Heap) (L : List Loc) : Prop := v = none ∧ Fr n0 L ∧ Keep h0 h [x0] ∧ Fld Z h x0 "com/example/terms_in_context/termsincontext/index/VarIntInput" "bytes" "[B" (.ref x1) ∧ Fld Z h x0 "com/example/terms_in_context/termsincontext/index/VarIntInput" "length" "I" (.int x2) ∧ Fld Z h x0 "com/example/terms_in_context/termsincontext/index/VarIntInput" "offset" "I" (.int (0 : Int32))
set_option maxRecDepth 65536 in
set_option maxHeartbeats 40000000 in
theorem rm1 (l : Launch) (Z : State) (a0 : Array Value) (hw : ∀ d ∈ tables_1, d.before a0 Z = true) (ws : List Jvm.Cond) (x0 : Addr) (x1 : Addr) (x2 : Int32) (h0 : Heap) (n0 : Nat) (Z0 : n0 ≤ h0.size) (P0 : Exa Z h0 x0 "com/example/terms_in_context/termsincontext/index/VarIntInput") (P1 : Fld Z h0 x0 "com/example/terms_in_context/termsincontext/index/VarIntInput" "bytes" "[B" .null) (P2 : Fld Z h0 x0 "com/example/terms_in_context/termsincontext/index/VarIntInput" "length" "I" (.int (0 : Int32))) (P3 : Fld Z h0 x0 "com/example/terms_in_context/termsincontext/index/VarIntInput" "offset" "I" (.int (0 : Int32))) (P4 : n0 ≤ x0) :
    MetFree l (⟨"com/example/terms_in_context/termsincontext/index/VarIntInput", "<init>", "([BI)V"⟩ : MethodName) (head1 (Jvm.Cond.code (⟨"com/example/terms_in_context/termsincontext/index/VarIntInput", "<init>", "([BI)V"⟩ : MethodName) prog_29_method_1_code 3 none :: ws) ({ frames := 1, cells := 0, slots := 0, locals := 12 } : Room)) (fun a U => a = #[(.ref x0), (.ref x1), (.int x2)] ∧ Z.Warmed39 U.vm ∧ U.heap = h0) (fun _ _ _ _ _ => True) (fun _ U o U' => ∃ v L, o = .returned v ∧ Q1 Z x0 x1 x2 h0 n0 v U'.heap L ∧ FrameEnd U o U' L ({ frames := 1, cells := 0, slots := 0, locals := 12 } : Room).cells ({ frames := 1, cells := 0, slots := 0, locals := 12 } : Room).slots) := by
  refine g_body (plainFor_of_name pn_1) ?_
  intro p e s m below meth c T0 X0 hx hby hml hret hlk hown hnm hZ e0
  rw [ef_1]
  have N0 := Fr.nil n0
  show Go p e below s _ _ _ (T0.setTop (mkF m 0 #[.val (.ref x0), .val (.ref x1), .val (.int x2)] []))
  refine g_aloadN X0 hx 1 (hb hby d1_0) rfl rfl rfl ?_
  show Go p e below s _ _ _ (T0.setTop (mkF m 1 #[.val (.ref x0), .val (.ref x1), .val (.int x2)] [(.ref x0)]))
  refine g_initO X0 hx hZ hown (hw _ (List.mem_of_getElem? (i := 8) rfl)) (hw _ (List.mem_of_getElem? (i := 9) rfl)) (hw _ (List.mem_of_getElem? (i := 10) rfl)) e0 4 (by rw [hml]; rfl) (hb hby d1_1) (by decide) 0 (Nat.le_of_eq rfl) (by decide) rfl ?_
  intro T1 X1 e1
  show Go p e below s _ _ _ (T1.setTop (mkF m 4 #[.val (.ref x0), .val (.ref x1), .val (.int x2)] []))
  refine g_aloadN X1 hx 5 (hb hby d1_4) rfl rfl rfl ?_
  show Go p e below s _ _ _ (T1.setTop (mkF m 5 #[.val (.ref x0), .val (.ref x1), .val (.int x2)] [(.ref x0)]))
  refine g_aloadN X1 hx 6 (hb hby d1_5) rfl rfl rfl ?_
  show Go p e below s _ _ _ (T1.setTop (mkF m 6 #[.val (.ref x0), .val (.ref x1), .val (.int x2)] [(.ref x1), (.ref x0)]))
  refine g_putF X1 hx hZ hown (hw _ (List.mem_of_getElem? (i := 11) rfl)) Via.refl e1 P1 P0 (Or.inr ⟨(hw _ (List.mem_of_getElem? (i := 12) rfl)), rfl, hnm⟩) (hw _ (List.mem_of_getElem? (i := 3) rfl)) (ty := (.array .byte)) (by decide) rfl rfl 9 (hb hby d1_6) rfl ?_
  intro T2 h2 X2 e2 W2
  have K2 := (Keep.refl h0 [x0]).wr W2 (Or.inl (List.mem_of_getElem? (i := 0) rfl))
  have N2 := Fr.snoc X2 N0 P4
  have k2_0 := P0.wr W2
  have k2_2 := P2.other W2 (Or.inr (slot_ne (Or.inr (hw _ (List.mem_of_getElem? (i := 14) rfl))) (Or.inr (hw _ (List.mem_of_getElem? (i := 12) rfl))) (by decide) (t := .int) (t' := (.array .byte)) (by decide) (by decide)))
  have k2_3 := P3.other W2 (Or.inr (slot_ne (Or.inl (hw _ (List.mem_of_getElem? (i := 21) rfl))) (Or.inr (hw _ (List.mem_of_getElem? (i := 12) rfl))) (by decide) (t := .int) (t' := (.array .byte)) (by decide) (by decide)))
  have Z2 : n0 ≤ h2.size := by rw [W2.size]; exact Z0
  have F2 := P1.same W2
  show Go p e below s _ _ _ (T2.setTop (mkF m 9 #[.val (.ref x0), .val (.ref x1), .val (.int x2)] []))
  refine g_aloadN X2 hx 10 (hb hby d1_9) rfl rfl rfl ?_
  show Go p e below s _ _ _ (T2.setTop (mkF m 10 #[.val (.ref x0), .val (.ref x1), .val (.int x2)] [(.ref x0)]))
  refine g_iloadN X2 hx 11 (hb hby d1_10) rfl rfl ?_
  show Go p e below s _ _ _ (T2.setTop (mkF m 11 #[.val (.ref x0), .val (.ref x1), .val (.int x2)] [(.int x2), (.ref x0)]))
  refine g_putF X2 hx hZ hown (hw _ (List.mem_of_getElem? (i := 13) rfl)) Via.refl e2 k2_2 k2_0 (Or.inr ⟨(hw _ (List.mem_of_getElem? (i := 14) rfl)), rfl, hnm⟩) (hw _ (List.mem_of_getElem? (i := 3) rfl)) (ty := .int) (by decide) rfl rfl 14 (hb hby d1_11) rfl ?_
  intro T3 h3 X3 e3 W3
  have K3 := K2.wr W3 (Or.inl (List.mem_of_getElem? (i := 0) rfl))
  have N3 := Fr.snoc X3 N2 P4
  have k3_0 := k2_0.wr W3
  have k3_2 := k2_3.other W3 (Or.inr (slot_ne (Or.inl (hw _ (List.mem_of_getElem? (i := 21) rfl))) (Or.inr (hw _ (List.mem_of_getElem? (i := 14) rfl))) (by decide) (t := .int) (t' := .int) (by decide) (by decide)))
  have k3_4 := F2.other W3 (Or.inr (slot_ne (Or.inr (hw _ (List.mem_of_getElem? (i := 12) rfl))) (Or.inr (hw _ (List.mem_of_getElem? (i := 14) rfl))) (by decide) (t := (.array .byte)) (t' := .int) (by decide) (by decide)))
  have Z3 : n0 ≤ h3.size := by rw [W3.size]; exact Z2
  have F3 := k2_2.same W3
  show Go p e below s _ _ _ (T3.setTop (mkF m 14 #[.val (.ref x0), .val (.ref x1), .val (.int x2)] []))
  exact g_retV X3 hx hret hlk (hb hby d1_14) (by decide) (by decide) (by rw [e3]; exact ⟨rfl, N3, K3, k3_4, F3, k3_2⟩)
theorem d3_0 : decode prog_29_method_2_code 0 = .ok (.aload_n 0, 1) := by decide +kernel
theorem d3_1 : decode prog_29_method_2_code 1 = .ok (.getfield 17, 3) := by decide +kernel
theorem d3_4 : decode prog_29_method_2_code 4 = .ok (.aload_n 0, 1) := by decide +kernel
theorem d3_5 : decode prog_29_method_2_code 5 = .ok (.getfield 13, 3) := by decide +kernel
theorem d3_8 : decode prog_29_method_2_code 8 = .ok (.if_icmp .ge 7, 3) := by decide +kernel
theorem d3_11 : decode prog_29_method_2_code 11 = .ok (.iconst 1, 1) := by decide +kernel
theorem d3_12 : decode prog_29_method_2_code 12 = .ok (.goto 4, 3) := by decide +kernel
theorem d3_15 : decode prog_29_method_2_code 15 = .ok (.iconst 0, 1) := by decide +kernel
theorem d3_16 : decode prog_29_method_2_code 16 = .ok (.ireturn, 1) := by decide +kernel
theorem ef_3 (m : MethodId) (x0 : Addr) : entryFrame m #[(.ref x0)] 1 = mkF m 0 #[.val (.ref x0)] [] := by first | (simp [entryFrame, mkF, argsToLocals, Value.category]; done) | rfl
def f3 (ln : Int32) (of : Int32) : Int32 := if of < ln then (1 : Int32) else (0 : Int32)
def Q3 (Z : State) (x0 : Addr) (ln : Int32) (of : Int32) (h0 : Heap) (v : Option Value) (h : Heap) (L : List Loc) : Prop := v = some (.int (f3 ln of)) ∧ L = [] ∧ h = h0
set_option maxRecDepth 65536 in
set_option maxHeartbeats 40000000 in
theorem rm3 (l : Launch) (Z : State) (a0 : Array Value) (hw : ∀ d ∈ tables_1, d.before a0 Z = true) (ws : List Jvm.Cond) (x0 : Addr) (ln : Int32) (of : Int32) (h0 : Heap) (P0 : Fld Z h0 x0 "com/example/terms_in_context/termsincontext/index/VarIntInput" "length" "I" (.int ln)) (P1 : Fld Z h0 x0 "com/example/terms_in_context/termsincontext/index/VarIntInput" "offset" "I" (.int of)) :
    MetFree l (⟨"com/example/terms_in_context/termsincontext/index/VarIntInput", "hasMore", "()Z"⟩ : MethodName) (head1 (Jvm.Cond.code (⟨"com/example/terms_in_context/termsincontext/index/VarIntInput", "hasMore", "()Z"⟩ : MethodName) prog_29_method_2_code 1 (some .boolean) :: ws) ({ frames := 0, cells := 0, slots := 0, locals := 0 } : Room)) (fun a U => a = #[(.ref x0)] ∧ Z.Warmed39 U.vm ∧ U.heap = h0) (fun _ _ _ _ _ => True) (fun _ U o U' => ∃ v L, o = .returned v ∧ Q3 Z x0 ln of h0 v U'.heap L ∧ FrameEnd U o U' L ({ frames := 0, cells := 0, slots := 0, locals := 0 } : Room).cells ({ frames := 0, cells := 0, slots := 0, locals := 0 } : Room).slots) := by
  refine g_body (plainFor_of_name pn_1) ?_
  intro p e s m below meth c T0 X0 hx hby hml hret hlk hown hnm hZ e0
  rw [ef_3]
  show Go p e below s _ _ _ (T0.setTop (mkF m 0 #[.val (.ref x0)] []))
  refine g_aloadN X0 hx 1 (hb hby d3_0) rfl rfl rfl ?_
  show Go p e below s _ _ _ (T0.setTop (mkF m 1 #[.val (.ref x0)] [(.ref x0)]))
  refine g_getF X0 hx hZ hown (hw _ (List.mem_of_getElem? (i := 20) rfl)) Via.refl e0 P1 4 (hb hby d3_1) rfl ?_
  intro T1 X1 e1
  show Go p e below s _ _ _ (T1.setTop (mkF m 4 #[.val (.ref x0)] [(.int of)]))
  refine g_aloadN X1 hx 5 (hb hby d3_4) rfl rfl rfl ?_
  show Go p e below s _ _ _ (T1.setTop (mkF m 5 #[.val (.ref x0)] [(.ref x0), (.int of)]))
  refine g_getF X1 hx hZ hown (hw _ (List.mem_of_getElem? (i := 13) rfl)) Via.refl e1 P0 8 (hb hby d3_5) rfl ?_
  intro T2 X2 e2
  show Go p e below s _ _ _ (T2.setTop (mkF m 8 #[.val (.ref x0)] [(.int ln), (.int of)]))
  refine g_icmp_ge X2 hx 15 11 (hb hby d3_8) (by decide) rfl rfl (fun h3 => ?_) (fun h3 => ?_)
  · show Go p e below s _ _ _ (T2.setTop (mkF m 11 #[.val (.ref x0)] []))
    refine g_iconst X2 hx (1 : Int32) 12 (hb hby d3_11) rfl rfl ?_
    show Go p e below s _ _ _ (T2.setTop (mkF m 12 #[.val (.ref x0)] [(.int (1 : Int32))]))
    refine g_goto X2 hx 16 (hb hby d3_12) (by decide) rfl ?_
    show Go p e below s _ _ _ (T2.setTop (mkF m 16 #[.val (.ref x0)] [(.int (1 : Int32))]))
    exact g_retN X2 hx hret (by simp) hlk (hb hby d3_16) (by decide) (by decide) ⟨congrArg (fun z => some (Value.int z)) (show (1 : Int32) = (f3 ln of) from by rw [f3, if_pos h3]), rfl, e2⟩
  · show Go p e below s _ _ _ (T2.setTop (mkF m 15 #[.val (.ref x0)] []))
    refine g_iconst X2 hx (0 : Int32) 16 (hb hby d3_15) rfl rfl ?_
    show Go p e below s _ _ _ (T2.setTop (mkF m 16 #[.val (.ref x0)] [(.int (0 : Int32))]))
    exact g_retN X2 hx hret (by simp) hlk (hb hby d3_16) (by decide) (by decide) ⟨congrArg (fun z => some (Value.int z)) (show (0 : Int32) = (f3 ln of) from by rw [f3, if_neg h3]), rfl, e2⟩
def Q4 (Z : State) (x0 : Addr) (a1 : Addr) (ln : Int32) (of0 : Int32) (n : Nat) (g : Nat → Int32) (on0 : Nat) (k0 : Nat) (h0 : Heap) (n0 : Nat) (v : Option Value) (h : Heap) (L : List Loc) : Prop := v = some (.int (own_rd g k0 on0 0 0)) ∧ Fr n0 L ∧ Keep h0 h [x0] ∧ Fld Z h x0 "com/example/terms_in_context/termsincontext/index/VarIntInput" "bytes" "[B" (.ref a1) ∧ Fld Z h x0 "com/example/terms_in_context/termsincontext/index/VarIntInput" "length" "I" (.int ln) ∧ Fld Z h x0 "com/example/terms_in_context/termsincontext/index/VarIntInput" "offset" "I" (.int (Int32.ofNat (on0 + k0 + 1)))
theorem d4_4 : decode prog_29_method_3_code 4 = .ok (.aload_n 0, 1) := by decide +kernel
theorem d4_5 : decode prog_29_method_3_code 5 = .ok (.getfield 7, 3) := by decide +kernel
theorem d4_8 : decode prog_29_method_3_code 8 = .ok (.aload_n 0, 1) := by decide +kernel
theorem d4_9 : decode prog_29_method_3_code 9 = .ok (.dup, 1) := by decide +kernel
theorem d4_10 : decode prog_29_method_3_code 10 = .ok (.getfield 17, 3) := by decide +kernel
theorem d4_13 : decode prog_29_method_3_code 13 = .ok (.dup_x1, 1) := by decide +kernel
theorem d4_14 : decode prog_29_method_3_code 14 = .ok (.iconst 1, 1) := by decide +kernel
theorem d4_15 : decode prog_29_method_3_code 15 = .ok (.iadd, 1) := by decide +kernel
theorem d4_16 : decode prog_29_method_3_code 16 = .ok (.putfield 17, 3) := by decide +kernel
theorem d4_19 : decode prog_29_method_3_code 19 = .ok (.baload, 1) := by decide +kernel
theorem d4_20 : decode prog_29_method_3_code 20 = .ok (.istore_n 3, 1) := by decide +kernel
theorem d4_21 : decode prog_29_method_3_code 21 = .ok (.iload_n 1, 1) := by decide +kernel
theorem d4_22 : decode prog_29_method_3_code 22 = .ok (.iload_n 3, 1) := by decide +kernel
theorem d4_23 : decode prog_29_method_3_code 23 = .ok (.bipush 127, 2) := by decide +kernel
theorem d4_25 : decode prog_29_method_3_code 25 = .ok (.iand, 1) := by decide +kernel
theorem d4_26 : decode prog_29_method_3_code 26 = .ok (.iload_n 2, 1) := by decide +kernel
theorem d4_27 : decode prog_29_method_3_code 27 = .ok (.ishl, 1) := by decide +kernel
theorem d4_28 : decode prog_29_method_3_code 28 = .ok (.ior, 1) := by decide +kernel
theorem d4_29 : decode prog_29_method_3_code 29 = .ok (.istore_n 1, 1) := by decide +kernel
theorem d4_30 : decode prog_29_method_3_code 30 = .ok (.iinc 2 7, 3) := by decide +kernel
theorem d4_33 : decode prog_29_method_3_code 33 = .ok (.iload_n 3, 1) := by decide +kernel
theorem d4_34 : decode prog_29_method_3_code 34 = .ok (.ifCond .lt (-30), 3) := by decide +kernel
theorem d4_37 : decode prog_29_method_3_code 37 = .ok (.iload_n 1, 1) := by decide +kernel
theorem d4_38 : decode prog_29_method_3_code 38 = .ok (.ireturn, 1) := by decide +kernel
set_option maxRecDepth 65536 in
set_option maxHeartbeats 40000000 in
theorem sg4 (l : Launch) (Z : State) (a0 : Array Value) (hw : ∀ d ∈ tables_1, d.before a0 Z = true) {p : Program} {e : Env} {s : State} {m : MethodId} {args : Array Value} {below : List Frame} {meth : Method} {c : Code} (hx : p.tables.exec = Jvm.exec) (hby : c.code = prog_29_method_3_code) (hml : c.maxLocals = 4) (hret : meth.sig.returnType = some .int) (hlk : meth.locks = false) (hown : s.vm.findClass "com/example/terms_in_context/termsincontext/index/VarIntInput" = some m.cls) (hnm : meth.name = "read") (hZ : Z.Warmed39 s.vm) (x0 : Addr) (a1 : Addr) (ln : Int32) (of0 : Int32) (n : Nat) (g : Nat → Int32) (on0 : Nat) (k0 : Nat) (h0 : Heap) (n0 : Nat) (ho0 : of0.toInt = on0) (hk0 : on0 + k0 < n) (hn0 : ∀ j, j < k0 → g (on0 + j) < 0) (hp0 : ¬ g (on0 + k0) < 0) : ∀ (k : Nat) (of : Int32) (on : Nat) (acc : Int32) (sh : Int32) (s3 : Slot) (T0 : State) (locs : List Loc) (hS : Heap), Stand p l e ({ frames := 0, cells := 0, slots := 0, locals := 0 } : Room) s m args below meth c T0 locs 0 0 → T0.heap = hS → n0 ≤ hS.size → Fr n0 locs → Keep h0 hS [x0] → Exa Z hS x0 "com/example/terms_in_context/termsincontext/index/VarIntInput" → Fld Z hS x0 "com/example/terms_in_context/termsincontext/index/VarIntInput" "bytes" "[B" (.ref a1) → Fld Z hS x0 "com/example/terms_in_context/termsincontext/index/VarIntInput" "length" "I" (.int ln) → Fld Z hS x0 "com/example/terms_in_context/termsincontext/index/VarIntInput" "offset" "I" (.int of) → AB Z hS a1 n g → n0 ≤ x0 → x0 ≠ a1 → (of.toInt = on) → (on + k = on0 + k0) → (∀ j, j < k → g (on + j) < 0) → (¬ g (on + k) < 0) → (own_rd g k on acc sh = own_rd g k0 on0 0 0) → (One s3) → Go p e below s (Q4 Z x0 a1 ln of0 n g on0 k0 h0 n0) ({ frames := 0, cells := 0, slots := 0, locals := 0 } : Room).cells ({ frames := 0, cells := 0, slots := 0, locals := 0 } : Room).slots (T0.setTop (mkF m 4 #[.val (.ref x0), .val (.int acc), .val (.int sh), s3] [])) := by
  intro k
  induction k with
  | zero =>
    intro of on acc sh s3 T0 locs hS X0 e0 Z0 N0 K0 P0 P1 P2 P3 P4 P5 P6 ho he hn hp hv hs3
    refine g_aloadN X0 hx 5 (hb hby d4_4) rfl rfl rfl ?_
    show Go p e below s _ _ _ (T0.setTop (mkF m 5 #[.val (.ref x0), .val (.int acc), .val (.int sh), s3] [(.ref x0)]))
    refine g_getF X0 hx hZ hown (hw _ (List.mem_of_getElem? (i := 11) rfl)) Via.refl e0 P1 8 (hb hby d4_5) rfl ?_
    intro T1 X1 e1
    show Go p e below s _ _ _ (T1.setTop (mkF m 8 #[.val (.ref x0), .val (.int acc), .val (.int sh), s3] [(.ref a1)]))
    refine g_aloadN X1 hx 9 (hb hby d4_8) rfl rfl rfl ?_
    show Go p e below s _ _ _ (T1.setTop (mkF m 9 #[.val (.ref x0), .val (.int acc), .val (.int sh), s3] [(.ref x0), (.ref a1)]))
    refine g_dup X1 hx 10 (hb hby d4_9) rfl rfl ?_
    show Go p e below s _ _ _ (T1.setTop (mkF m 10 #[.val (.ref x0), .val (.int acc), .val (.int sh), s3] [(.ref x0), (.ref x0), (.ref a1)]))
    refine g_getF X1 hx hZ hown (hw _ (List.mem_of_getElem? (i := 20) rfl)) Via.refl e1 P3 13 (hb hby d4_10) rfl ?_
    intro T2 X2 e2
    show Go p e below s _ _ _ (T2.setTop (mkF m 13 #[.val (.ref x0), .val (.int acc), .val (.int sh), s3] [(.int of), (.ref x0), (.ref a1)]))
    refine g_dup_x1 X2 hx 14 (hb hby d4_13) rfl rfl rfl ?_
    show Go p e below s _ _ _ (T2.setTop (mkF m 14 #[.val (.ref x0), .val (.int acc), .val (.int sh), s3] [(.int of), (.ref x0), (.int of), (.ref a1)]))
    refine g_iconst X2 hx (1 : Int32) 15 (hb hby d4_14) rfl rfl ?_
    show Go p e below s _ _ _ (T2.setTop (mkF m 15 #[.val (.ref x0), .val (.int acc), .val (.int sh), s3] [(.int (1 : Int32)), (.int of), (.ref x0), (.int of), (.ref a1)]))
    refine g_iadd X2 hx 16 (hb hby d4_15) rfl ?_
    show Go p e below s _ _ _ (T2.setTop (mkF m 16 #[.val (.ref x0), .val (.int acc), .val (.int sh), s3] [(.int (of + (1 : Int32))), (.ref x0), (.int of), (.ref a1)]))
    refine g_putF X2 hx hZ hown (hw _ (List.mem_of_getElem? (i := 20) rfl)) Via.refl e2 P3 P0 (Or.inl (hw _ (List.mem_of_getElem? (i := 21) rfl))) (hw _ (List.mem_of_getElem? (i := 3) rfl)) (ty := .int) (by decide) rfl rfl 19 (hb hby d4_16) rfl ?_
    intro T3 h3 X3 e3 W3
    have K3 := K0.wr W3 (Or.inl (List.mem_of_getElem? (i := 0) rfl))
    have N3 := Fr.snoc X3 N0 P5
    have k3_0 := P0.wr W3
    have k3_1 := P1.other W3 (Or.inr (slot_ne (Or.inr (hw _ (List.mem_of_getElem? (i := 12) rfl))) (Or.inl (hw _ (List.mem_of_getElem? (i := 21) rfl))) (by decide) (t := (.array .byte)) (t' := .int) (by decide) (by decide)))
    have k3_2 := P2.other W3 (Or.inr (slot_ne (Or.inr (hw _ (List.mem_of_getElem? (i := 14) rfl))) (Or.inl (hw _ (List.mem_of_getElem? (i := 21) rfl))) (by decide) (t := .int) (t' := .int) (by decide) (by decide)))
    have k3_4 := P4.other W3 (Ne.symm P6)
    have Z3 : n0 ≤ h3.size := by rw [W3.size]; exact Z0
    have F3 := P3.same W3
    show Go p e below s _ _ _ (T3.setTop (mkF m 19 #[.val (.ref x0), .val (.int acc), .val (.int sh), s3] [(.int of), (.ref a1)]))
    refine g_baload X3 hx hZ e3 k3_4 on ho (by omega) 20 (hb hby d4_19) rfl ?_
    show Go p e below s _ _ _ (T3.setTop (mkF m 20 #[.val (.ref x0), .val (.int acc), .val (.int sh), s3] [(.int (g on))]))
    refine g_istoreNS X3 hx #[.val (.ref x0), .val (.int acc), .val (.int sh), .val (.int (g on))] 21 (hb hby d4_20) rfl hs3 rfl rfl ?_
    show Go p e below s _ _ _ (T3.setTop (mkF m 21 #[.val (.ref x0), .val (.int acc), .val (.int sh), .val (.int (g on))] []))
    refine g_iloadN X3 hx 22 (hb hby d4_21) rfl rfl ?_
    show Go p e below s _ _ _ (T3.setTop (mkF m 22 #[.val (.ref x0), .val (.int acc), .val (.int sh), .val (.int (g on))] [(.int acc)]))
    refine g_iloadN X3 hx 23 (hb hby d4_22) rfl rfl ?_
    show Go p e below s _ _ _ (T3.setTop (mkF m 23 #[.val (.ref x0), .val (.int acc), .val (.int sh), .val (.int (g on))] [(.int (g on)), (.int acc)]))
    refine g_bipush X3 hx (127 : Int32) 25 (hb hby d4_23) rfl rfl ?_
    show Go p e below s _ _ _ (T3.setTop (mkF m 25 #[.val (.ref x0), .val (.int acc), .val (.int sh), .val (.int (g on))] [(.int (127 : Int32)), (.int (g on)), (.int acc)]))
    refine g_iand X3 hx 26 (hb hby d4_25) rfl ?_
    show Go p e below s _ _ _ (T3.setTop (mkF m 26 #[.val (.ref x0), .val (.int acc), .val (.int sh), .val (.int (g on))] [(.int ((g on) &&& (127 : Int32))), (.int acc)]))
    refine g_iloadN X3 hx 27 (hb hby d4_26) rfl rfl ?_
    show Go p e below s _ _ _ (T3.setTop (mkF m 27 #[.val (.ref x0), .val (.int acc), .val (.int sh), .val (.int (g on))] [(.int sh), (.int ((g on) &&& (127 : Int32))), (.int acc)]))
    refine g_ishl X3 hx 28 (hb hby d4_27) rfl ?_
    show Go p e below s _ _ _ (T3.setTop (mkF m 28 #[.val (.ref x0), .val (.int acc), .val (.int sh), .val (.int (g on))] [(.int (shlI ((g on) &&& (127 : Int32)) sh)), (.int acc)]))
    refine g_ior X3 hx 29 (hb hby d4_28) rfl ?_
    show Go p e below s _ _ _ (T3.setTop (mkF m 29 #[.val (.ref x0), .val (.int acc), .val (.int sh), .val (.int (g on))] [(.int (acc ||| (shlI ((g on) &&& (127 : Int32)) sh)))]))
    refine g_istoreN X3 hx #[.val (.ref x0), .val (.int (acc ||| (shlI ((g on) &&& (127 : Int32)) sh))), .val (.int sh), .val (.int (g on))] 30 (hb hby d4_29) rfl rfl ?_
    show Go p e below s _ _ _ (T3.setTop (mkF m 30 #[.val (.ref x0), .val (.int (acc ||| (shlI ((g on) &&& (127 : Int32)) sh))), .val (.int sh), .val (.int (g on))] []))
    refine g_iinc X3 hx (7 : Int32) #[.val (.ref x0), .val (.int (acc ||| (shlI ((g on) &&& (127 : Int32)) sh))), .val (.int (sh + (7 : Int32))), .val (.int (g on))] 33 (hb hby d4_30) rfl rfl rfl rfl ?_
    show Go p e below s _ _ _ (T3.setTop (mkF m 33 #[.val (.ref x0), .val (.int (acc ||| (shlI ((g on) &&& (127 : Int32)) sh))), .val (.int (sh + (7 : Int32))), .val (.int (g on))] []))
    refine g_iloadN X3 hx 34 (hb hby d4_33) rfl rfl ?_
    show Go p e below s _ _ _ (T3.setTop (mkF m 34 #[.val (.ref x0), .val (.int (acc ||| (shlI ((g on) &&& (127 : Int32)) sh))), .val (.int (sh + (7 : Int32))), .val (.int (g on))] [(.int (g on))]))
    have h5 : ¬ ((g on) < (0 : Int32)) := by simpa using hp
    refine g_if0_lt X3 hx 4 37 (hb hby d4_34) (by decide) rfl rfl (fun q => absurd q h5) (fun _ => ?_)
    show Go p e below s _ _ _ (T3.setTop (mkF m 37 #[.val (.ref x0), .val (.int (acc ||| (shlI ((g on) &&& (127 : Int32)) sh))), .val (.int (sh + (7 : Int32))), .val (.int (g on))] []))
    refine g_iloadN X3 hx 38 (hb hby d4_37) rfl rfl ?_
    show Go p e below s _ _ _ (T3.setTop (mkF m 38 #[.val (.ref x0), .val (.int (acc ||| (shlI ((g on) &&& (127 : Int32)) sh))), .val (.int (sh + (7 : Int32))), .val (.int (g on))] [(.int (acc ||| (shlI ((g on) &&& (127 : Int32)) sh)))]))
    exact g_retI X3 hx hret hlk (hb hby d4_38) (by decide) (by decide) (by rw [e3]; exact ⟨congrArg (fun z => some (Value.int z)) hv, N3, K3, k3_1, k3_2, (by rw [show Int32.ofNat (on0 + k0 + 1) = of + (1 : Int32) from (own_ofNat (by rw [own_add ho (j := 1) rfl (by have := P4.small; omega)]; omega)).symm]; exact F3)⟩)
  | succ k ih =>
    intro of on acc sh s3 T0 locs hS X0 e0 Z0 N0 K0 P0 P1 P2 P3 P4 P5 P6 ho he hn hp hv hs3
    refine g_aloadN X0 hx 5 (hb hby d4_4) rfl rfl rfl ?_
    show Go p e below s _ _ _ (T0.setTop (mkF m 5 #[.val (.ref x0), .val (.int acc), .val (.int sh), s3] [(.ref x0)]))
    refine g_getF X0 hx hZ hown (hw _ (List.mem_of_getElem? (i := 11) rfl)) Via.refl e0 P1 8 (hb hby d4_5) rfl ?_
    intro T6 X6 e6
    show Go p e below s _ _ _ (T6.setTop (mkF m 8 #[.val (.ref x0), .val (.int acc), .val (.int sh), s3] [(.ref a1)]))
    refine g_aloadN X6 hx 9 (hb hby d4_8) rfl rfl rfl ?_
    show Go p e below s _ _ _ (T6.setTop (mkF m 9 #[.val (.ref x0), .val (.int acc), .val (.int sh), s3] [(.ref x0), (.ref a1)]))
    refine g_dup X6 hx 10 (hb hby d4_9) rfl rfl ?_
    show Go p e below s _ _ _ (T6.setTop (mkF m 10 #[.val (.ref x0), .val (.int acc), .val (.int sh), s3] [(.ref x0), (.ref x0), (.ref a1)]))
    refine g_getF X6 hx hZ hown (hw _ (List.mem_of_getElem? (i := 20) rfl)) Via.refl e6 P3 13 (hb hby d4_10) rfl ?_
    intro T7 X7 e7
    show Go p e below s _ _ _ (T7.setTop (mkF m 13 #[.val (.ref x0), .val (.int acc), .val (.int sh), s3] [(.int of), (.ref x0), (.ref a1)]))
    refine g_dup_x1 X7 hx 14 (hb hby d4_13) rfl rfl rfl ?_
    show Go p e below s _ _ _ (T7.setTop (mkF m 14 #[.val (.ref x0), .val (.int acc), .val (.int sh), s3] [(.int of), (.ref x0), (.int of), (.ref a1)]))
    refine g_iconst X7 hx (1 : Int32) 15 (hb hby d4_14) rfl rfl ?_
    show Go p e below s _ _ _ (T7.setTop (mkF m 15 #[.val (.ref x0), .val (.int acc), .val (.int sh), s3] [(.int (1 : Int32)), (.int of), (.ref x0), (.int of), (.ref a1)]))
    refine g_iadd X7 hx 16 (hb hby d4_15) rfl ?_
    show Go p e below s _ _ _ (T7.setTop (mkF m 16 #[.val (.ref x0), .val (.int acc), .val (.int sh), s3] [(.int (of + (1 : Int32))), (.ref x0), (.int of), (.ref a1)]))
    refine g_putF X7 hx hZ hown (hw _ (List.mem_of_getElem? (i := 20) rfl)) Via.refl e7 P3 P0 (Or.inl (hw _ (List.mem_of_getElem? (i := 21) rfl))) (hw _ (List.mem_of_getElem? (i := 3) rfl)) (ty := .int) (by decide) rfl rfl 19 (hb hby d4_16) rfl ?_
    intro T8 h8 X8 e8 W8
    have K8 := K0.wr W8 (Or.inl (List.mem_of_getElem? (i := 0) rfl))
    have N8 := Fr.snoc X8 N0 P5
    have k8_0 := P0.wr W8
    have k8_1 := P1.other W8 (Or.inr (slot_ne (Or.inr (hw _ (List.mem_of_getElem? (i := 12) rfl))) (Or.inl (hw _ (List.mem_of_getElem? (i := 21) rfl))) (by decide) (t := (.array .byte)) (t' := .int) (by decide) (by decide)))
    have k8_2 := P2.other W8 (Or.inr (slot_ne (Or.inr (hw _ (List.mem_of_getElem? (i := 14) rfl))) (Or.inl (hw _ (List.mem_of_getElem? (i := 21) rfl))) (by decide) (t := .int) (t' := .int) (by decide) (by decide)))
    have k8_4 := P4.other W8 (Ne.symm P6)
    have Z8 : n0 ≤ h8.size := by rw [W8.size]; exact Z0
    have F8 := P3.same W8
    show Go p e below s _ _ _ (T8.setTop (mkF m 19 #[.val (.ref x0), .val (.int acc), .val (.int sh), s3] [(.int of), (.ref a1)]))
    refine g_baload X8 hx hZ e8 k8_4 on ho (by omega) 20 (hb hby d4_19) rfl ?_
    show Go p e below s _ _ _ (T8.setTop (mkF m 20 #[.val (.ref x0), .val (.int acc), .val (.int sh), s3] [(.int (g on))]))
    refine g_istoreNS X8 hx #[.val (.ref x0), .val (.int acc), .val (.int sh), .val (.int (g on))] 21 (hb hby d4_20) rfl hs3 rfl rfl ?_
    show Go p e below s _ _ _ (T8.setTop (mkF m 21 #[.val (.ref x0), .val (.int acc), .val (.int sh), .val (.int (g on))] []))
    refine g_iloadN X8 hx 22 (hb hby d4_21) rfl rfl ?_
    show Go p e below s _ _ _ (T8.setTop (mkF m 22 #[.val (.ref x0), .val (.int acc), .val (.int sh), .val (.int (g on))] [(.int acc)]))
    refine g_iloadN X8 hx 23 (hb hby d4_22) rfl rfl ?_
    show Go p e below s _ _ _ (T8.setTop (mkF m 23 #[.val (.ref x0), .val (.int acc), .val (.int sh), .val (.int (g on))] [(.int (g on)), (.int acc)]))
    refine g_bipush X8 hx (127 : Int32) 25 (hb hby d4_23) rfl rfl ?_
    show Go p e below s _ _ _ (T8.setTop (mkF m 25 #[.val (.ref x0), .val (.int acc), .val (.int sh), .val (.int (g on))] [(.int (127 : Int32)), (.int (g on)), (.int acc)]))
    refine g_iand X8 hx 26 (hb hby d4_25) rfl ?_
    show Go p e below s _ _ _ (T8.setTop (mkF m 26 #[.val (.ref x0), .val (.int acc), .val (.int sh), .val (.int (g on))] [(.int ((g on) &&& (127 : Int32))), (.int acc)]))
    refine g_iloadN X8 hx 27 (hb hby d4_26) rfl rfl ?_
    show Go p e below s _ _ _ (T8.setTop (mkF m 27 #[.val (.ref x0), .val (.int acc), .val (.int sh), .val (.int (g on))] [(.int sh), (.int ((g on) &&& (127 : Int32))), (.int acc)]))
    refine g_ishl X8 hx 28 (hb hby d4_27) rfl ?_
    show Go p e below s _ _ _ (T8.setTop (mkF m 28 #[.val (.ref x0), .val (.int acc), .val (.int sh), .val (.int (g on))] [(.int (shlI ((g on) &&& (127 : Int32)) sh)), (.int acc)]))
    refine g_ior X8 hx 29 (hb hby d4_28) rfl ?_
    show Go p e below s _ _ _ (T8.setTop (mkF m 29 #[.val (.ref x0), .val (.int acc), .val (.int sh), .val (.int (g on))] [(.int (acc ||| (shlI ((g on) &&& (127 : Int32)) sh)))]))
    refine g_istoreN X8 hx #[.val (.ref x0), .val (.int (acc ||| (shlI ((g on) &&& (127 : Int32)) sh))), .val (.int sh), .val (.int (g on))] 30 (hb hby d4_29) rfl rfl ?_
    show Go p e below s _ _ _ (T8.setTop (mkF m 30 #[.val (.ref x0), .val (.int (acc ||| (shlI ((g on) &&& (127 : Int32)) sh))), .val (.int sh), .val (.int (g on))] []))
    refine g_iinc X8 hx (7 : Int32) #[.val (.ref x0), .val (.int (acc ||| (shlI ((g on) &&& (127 : Int32)) sh))), .val (.int (sh + (7 : Int32))), .val (.int (g on))] 33 (hb hby d4_30) rfl rfl rfl rfl ?_
    show Go p e below s _ _ _ (T8.setTop (mkF m 33 #[.val (.ref x0), .val (.int (acc ||| (shlI ((g on) &&& (127 : Int32)) sh))), .val (.int (sh + (7 : Int32))), .val (.int (g on))] []))
    refine g_iloadN X8 hx 34 (hb hby d4_33) rfl rfl ?_
    show Go p e below s _ _ _ (T8.setTop (mkF m 34 #[.val (.ref x0), .val (.int (acc ||| (shlI ((g on) &&& (127 : Int32)) sh))), .val (.int (sh + (7 : Int32))), .val (.int (g on))] [(.int (g on))]))
    have h10 : (g on) < (0 : Int32) := by simpa using hn 0 (by omega)
    refine g_if0_lt X8 hx 4 37 (hb hby d4_34) (by decide) rfl rfl (fun _ => ?_) (fun q => absurd h10 q)
    show Go p e below s _ _ _ (T8.setTop (mkF m 4 #[.val (.ref x0), .val (.int (acc ||| (shlI ((g on) &&& (127 : Int32)) sh))), .val (.int (sh + (7 : Int32))), .val (.int (g on))] []))
    exact ih (of + (1 : Int32)) (on + 1) (acc ||| (shlI ((g on) &&& (127 : Int32)) sh)) (sh + (7 : Int32)) (.val (.int (g on))) _ _ _ X8 e8 Z8 N8 K8 k8_0 k8_1 k8_2 F8 k8_4 P5 P6 (own_add ho rfl (by have := P4.small; omega)) (by omega) (fun j hj => by have := hn (j + 1) (by omega); rwa [show on + (j + 1) = on + 1 + j from by omega] at this) (by rwa [show on + (k + 1) = on + 1 + k from by omega] at hp) hv (One.val rfl)
theorem d4_0 : decode prog_29_method_3_code 0 = .ok (.iconst 0, 1) := by decide +kernel
theorem d4_1 : decode prog_29_method_3_code 1 = .ok (.istore_n 1, 1) := by decide +kernel
theorem d4_2 : decode prog_29_method_3_code 2 = .ok (.iconst 0, 1) := by decide +kernel
theorem d4_3 : decode prog_29_method_3_code 3 = .ok (.istore_n 2, 1) := by decide +kernel
theorem ef_4 (m : MethodId) (x0 : Addr) : entryFrame m #[(.ref x0)] 4 = mkF m 0 #[.val (.ref x0), .unset, .unset, .unset] [] := by first | (simp [entryFrame, mkF, argsToLocals, Value.category]; done) | rfl
set_option maxRecDepth 65536 in
set_option maxHeartbeats 40000000 in
theorem rm4 (l : Launch) (Z : State) (a0 : Array Value) (hw : ∀ d ∈ tables_1, d.before a0 Z = true) (ws : List Jvm.Cond) (x0 : Addr) (a1 : Addr) (ln : Int32) (of0 : Int32) (n : Nat) (g : Nat → Int32) (on0 : Nat) (k0 : Nat) (h0 : Heap) (n0 : Nat) (Z0 : n0 ≤ h0.size) (P0 : Exa Z h0 x0 "com/example/terms_in_context/termsincontext/index/VarIntInput") (P1 : Fld Z h0 x0 "com/example/terms_in_context/termsincontext/index/VarIntInput" "bytes" "[B" (.ref a1)) (P2 : Fld Z h0 x0 "com/example/terms_in_context/termsincontext/index/VarIntInput" "length" "I" (.int ln)) (P3 : Fld Z h0 x0 "com/example/terms_in_context/termsincontext/index/VarIntInput" "offset" "I" (.int of0)) (P4 : AB Z h0 a1 n g) (P5 : n0 ≤ x0) (P6 : x0 ≠ a1) (ho0 : of0.toInt = on0) (hk0 : on0 + k0 < n) (hn0 : ∀ j, j < k0 → g (on0 + j) < 0) (hp0 : ¬ g (on0 + k0) < 0) :
    MetFree l (⟨"com/example/terms_in_context/termsincontext/index/VarIntInput", "read", "()I"⟩ : MethodName) (head1 (Jvm.Cond.code (⟨"com/example/terms_in_context/termsincontext/index/VarIntInput", "read", "()I"⟩ : MethodName) prog_29_method_3_code 4 (some .int) :: ws) ({ frames := 0, cells := 0, slots := 0, locals := 0 } : Room)) (fun a U => a = #[(.ref x0)] ∧ Z.Warmed39 U.vm ∧ U.heap = h0) (fun _ _ _ _ _ => True) (fun _ U o U' => ∃ v L, o = .returned v ∧ Q4 Z x0 a1 ln of0 n g on0 k0 h0 n0 v U'.heap L ∧ FrameEnd U o U' L ({ frames := 0, cells := 0, slots := 0, locals := 0 } : Room).cells ({ frames := 0, cells := 0, slots := 0, locals := 0 } : Room).slots) := by
  refine g_body (plainFor_of_name pn_1) ?_
  intro p e s m below meth c T0 X0 hx hby hml hret hlk hown hnm hZ e0
  rw [ef_4]
  have N0 := Fr.nil n0
  show Go p e below s _ _ _ (T0.setTop (mkF m 0 #[.val (.ref x0), .unset, .unset, .unset] []))
  refine g_iconst X0 hx (0 : Int32) 1 (hb hby d4_0) rfl rfl ?_
  show Go p e below s _ _ _ (T0.setTop (mkF m 1 #[.val (.ref x0), .unset, .unset, .unset] [(.int (0 : Int32))]))
  refine g_istoreN X0 hx #[.val (.ref x0), .val (.int (0 : Int32)), .unset, .unset] 2 (hb hby d4_1) rfl rfl ?_
  show Go p e below s _ _ _ (T0.setTop (mkF m 2 #[.val (.ref x0), .val (.int (0 : Int32)), .unset, .unset] []))
  refine g_iconst X0 hx (0 : Int32) 3 (hb hby d4_2) rfl rfl ?_
  show Go p e below s _ _ _ (T0.setTop (mkF m 3 #[.val (.ref x0), .val (.int (0 : Int32)), .unset, .unset] [(.int (0 : Int32))]))
  refine g_istoreN X0 hx #[.val (.ref x0), .val (.int (0 : Int32)), .val (.int (0 : Int32)), .unset] 4 (hb hby d4_3) rfl rfl ?_
  show Go p e below s _ _ _ (T0.setTop (mkF m 4 #[.val (.ref x0), .val (.int (0 : Int32)), .val (.int (0 : Int32)), .unset] []))
  exact sg4 l Z a0 hw hx hby hml hret hlk hown hnm hZ x0 a1 ln of0 n g on0 k0 h0 n0 ho0 hk0 hn0 hp0 k0 of0 on0 (0 : Int32) (0 : Int32) .unset _ _ _ X0 e0 Z0 N0 (Keep.refl h0 [x0]) P0 P1 P2 P3 P4 P5 P6 ho0 rfl hn0 hp0 rfl One.u
def v0_k1 (x4 : Int32) : Int32 := ((1 : Int32) + (x4 &&& (1 : Int32)))
def v0_k2 (x4 : Int32) : Int32 := ((1 : Int32) + ((ushrI x4 (1 : Int32)) &&& (1 : Int32)))
theorem own_byte (x : Int32) : (i2bI (i2bI x)).toInt = (i2bI x).toInt := by
  unfold i2bI; simp
theorem own_b7 (x : Int32) : ¬ i2bI (i2bI (x &&& 127)) < 0 := by
  rw [Int32.lt_iff_toInt_lt, own_byte]
  have h := c_i2b (x &&& 127)
  have m := c_mask x 127 7 (by decide) (by decide)
  have e0 : (0 : Int32).toInt = 0 := rfl
  have e : (i2bI (x &&& 127)).toInt = (x &&& 127).toInt8.toInt32.toInt := rfl
  have := Int.emod_nonneg x.toInt (b := 128) (by decide)
  have := Int.emod_lt_of_pos x.toInt (b := 128) (by decide)
  have m' : (x &&& 127).toInt = x.toInt % 128 := m
  omega
theorem own_b8 (x : Int32) : i2bI (i2bI (x ||| 128)) < 0 := by
  rw [Int32.lt_iff_toInt_lt, own_byte]
  show (i2bI (x ||| 128)).toInt < 0
  have e : (i2bI (x ||| 128)).toInt = ((x ||| 128).toBitVec.signExtend 8).toInt := by
    unfold i2bI; rw [Int8.toInt_toInt32]; rfl
  rw [e]
  have m : ((x ||| 128).toBitVec.signExtend 8).msb = true := by
    have q : (x ||| 128).toBitVec = x.toBitVec ||| 128#32 := rfl
    rw [q, BitVec.msb_eq_getLsbD_last, BitVec.getLsbD_signExtend]
    simp
  rw [BitVec.msb_eq_toInt] at m
  simpa using m
theorem own_k1 {x : Int32} (h : ¬ v0_k1 x = 2) : v0_k1 x = 1 := by
  unfold v0_k1 at *
  rcases and_one x with q | q
  · rw [q]; rfl
  · rw [q] at h; exact absurd rfl h
theorem own_k2 {x : Int32} (h : ¬ v0_k2 x = 2) : v0_k2 x = 1 := by
  unfold v0_k2 at *
  rcases and_one (ushrI x 1) with q | q
  · rw [q]; rfl
  · rw [q] at h; exact absurd rfl h
theorem own_more {L o k : Int32} (h : o = k) (q : k < L) : f3 L o = 1 := by unfold f3; rw [h, if_pos q]
theorem own_less {L o k : Int32} (h : o = k) (q : ¬ k < L) : f3 L o = 0 := by unfold f3; rw [h, if_neg q]

theorem pd__28_5bBI_29V : parseMethodDescriptor "([BI)V" = some ⟨[(.array .byte), .int], none⟩ := by decide +kernel
theorem pd__28_29Z : parseMethodDescriptor "()Z" = some ⟨[], some .boolean⟩ := by decide +kernel
theorem pd__28_29I : parseMethodDescriptor "()I" = some ⟨[], some .int⟩ := by decide +kernel
theorem pn_0 : plainName "com/example/terms_in_context/termsincontext/index/VarIntInputHasMorePinLaw" = true := by first | (simp [plainName, overriddenIn]; done) | decide +kernel
theorem ef_0 (m : MethodId) (x0 : Int32) (x1 : Int32) (x2 : Int32) (x3 : Int32) (x4 : Int32) (x5 : Int32) : entryFrame m #[(.int x0), (.int x1), (.int x2), (.int x3), (.int x4), (.int x5)] maxLocals = mkF m 0 #[.val (.int x0), .val (.int x1), .val (.int x2), .val (.int x3), .val (.int x4), .val (.int x5), .unset, .unset, .unset, .unset, .unset, .unset, .unset] [] := by first | (simp [entryFrame, mkF, argsToLocals, Value.category, maxLocals]; done) | rfl
def v0_L (x5 : Int32) : Int32 := ((x5 &&& (2147483647 : Int32)) % (5 : Int32))
def Q0 (Z : State) (x0 : Int32) (x1 : Int32) (x2 : Int32) (x3 : Int32) (x4 : Int32) (x5 : Int32) (h0 : Heap) (n0 : Nat) (v : Option Value) (h : Heap) (L : List Loc) : Prop := v = some (.int (1 : Int32)) ∧ Fr n0 L
set_option maxRecDepth 65536 in
set_option maxHeartbeats 40000000 in
theorem rm0 (l : Launch) (Z : State) (a0 : Array Value) (hw : ∀ d ∈ tables_1, d.before a0 Z = true) (ws : List Jvm.Cond) (x0 : Int32) (x1 : Int32) (x2 : Int32) (x3 : Int32) (x4 : Int32) (x5 : Int32) (h0 : Heap) (n0 : Nat) (Z0 : n0 ≤ h0.size) :
    MetFree l x (head1 (Jvm.Cond.code x code maxLocals ret :: ws) room_1) (fun a U => a = #[(.int x0), (.int x1), (.int x2), (.int x3), (.int x4), (.int x5)] ∧ Z.Warmed39 U.vm ∧ U.heap = h0) (fun _ _ _ _ _ => True) (fun _ U o U' => ∃ v L, o = .returned v ∧ Q0 Z x0 x1 x2 x3 x4 x5 h0 n0 v U'.heap L ∧ FrameEnd U o U' L room_1.cells room_1.slots) := by
  refine g_body (plainFor_of_name pn_0) ?_
  intro p e s m below meth c T0 X0 hx hby hml hret hlk hown hnm hZ e0
  rw [ef_0]
  have N0 := Fr.nil n0
  show Go p e below s _ _ _ (T0.setTop (mkF m 0 #[.val (.int x0), .val (.int x1), .val (.int x2), .val (.int x3), .val (.int x4), .val (.int x5), .unset, .unset, .unset, .unset, .unset, .unset, .unset] []))
  refine g_iconst X0 hx (1 : Int32) 1 (hb hby at_0) rfl rfl ?_
  show Go p e below s _ _ _ (T0.setTop (mkF m 1 #[.val (.int x0), .val (.int x1), .val (.int x2), .val (.int x3), .val (.int x4), .val (.int x5), .unset, .unset, .unset, .unset, .unset, .unset, .unset] [(.int (1 : Int32))]))
  refine g_iload X0 hx 3 (hb hby at_1) rfl rfl ?_
  show Go p e below s _ _ _ (T0.setTop (mkF m 3 #[.val (.int x0), .val (.int x1), .val (.int x2), .val (.int x3), .val (.int x4), .val (.int x5), .unset, .unset, .unset, .unset, .unset, .unset, .unset] [(.int x4), (.int (1 : Int32))]))
  refine g_iconst X0 hx (1 : Int32) 4 (hb hby at_3) rfl rfl ?_
  show Go p e below s _ _ _ (T0.setTop (mkF m 4 #[.val (.int x0), .val (.int x1), .val (.int x2), .val (.int x3), .val (.int x4), .val (.int x5), .unset, .unset, .unset, .unset, .unset, .unset, .unset] [(.int (1 : Int32)), (.int x4), (.int (1 : Int32))]))
  refine g_iand X0 hx 5 (hb hby at_4) rfl ?_
  show Go p e below s _ _ _ (T0.setTop (mkF m 5 #[.val (.int x0), .val (.int x1), .val (.int x2), .val (.int x3), .val (.int x4), .val (.int x5), .unset, .unset, .unset, .unset, .unset, .unset, .unset] [(.int (x4 &&& (1 : Int32))), (.int (1 : Int32))]))
  refine g_iadd X0 hx 6 (hb hby at_5) rfl ?_
  show Go p e below s _ _ _ (T0.setTop (mkF m 6 #[.val (.int x0), .val (.int x1), .val (.int x2), .val (.int x3), .val (.int x4), .val (.int x5), .unset, .unset, .unset, .unset, .unset, .unset, .unset] [(.int ((1 : Int32) + (x4 &&& (1 : Int32))))]))
  refine g_istore X0 hx #[.val (.int x0), .val (.int x1), .val (.int x2), .val (.int x3), .val (.int x4), .val (.int x5), .val (.int (v0_k1 x4)), .unset, .unset, .unset, .unset, .unset, .unset] 8 (hb hby at_6) rfl rfl ?_
  show Go p e below s _ _ _ (T0.setTop (mkF m 8 #[.val (.int x0), .val (.int x1), .val (.int x2), .val (.int x3), .val (.int x4), .val (.int x5), .val (.int (v0_k1 x4)), .unset, .unset, .unset, .unset, .unset, .unset] []))
  refine g_iconst X0 hx (1 : Int32) 9 (hb hby at_8) rfl rfl ?_
  show Go p e below s _ _ _ (T0.setTop (mkF m 9 #[.val (.int x0), .val (.int x1), .val (.int x2), .val (.int x3), .val (.int x4), .val (.int x5), .val (.int (v0_k1 x4)), .unset, .unset, .unset, .unset, .unset, .unset] [(.int (1 : Int32))]))
  refine g_iload X0 hx 11 (hb hby at_9) rfl rfl ?_
  show Go p e below s _ _ _ (T0.setTop (mkF m 11 #[.val (.int x0), .val (.int x1), .val (.int x2), .val (.int x3), .val (.int x4), .val (.int x5), .val (.int (v0_k1 x4)), .unset, .unset, .unset, .unset, .unset, .unset] [(.int x4), (.int (1 : Int32))]))
  refine g_iconst X0 hx (1 : Int32) 12 (hb hby at_11) rfl rfl ?_
  show Go p e below s _ _ _ (T0.setTop (mkF m 12 #[.val (.int x0), .val (.int x1), .val (.int x2), .val (.int x3), .val (.int x4), .val (.int x5), .val (.int (v0_k1 x4)), .unset, .unset, .unset, .unset, .unset, .unset] [(.int (1 : Int32)), (.int x4), (.int (1 : Int32))]))
  refine g_iushr X0 hx 13 (hb hby at_12) rfl ?_
  show Go p e below s _ _ _ (T0.setTop (mkF m 13 #[.val (.int x0), .val (.int x1), .val (.int x2), .val (.int x3), .val (.int x4), .val (.int x5), .val (.int (v0_k1 x4)), .unset, .unset, .unset, .unset, .unset, .unset] [(.int (ushrI x4 (1 : Int32))), (.int (1 : Int32))]))
  refine g_iconst X0 hx (1 : Int32) 14 (hb hby at_13) rfl rfl ?_
  show Go p e below s _ _ _ (T0.setTop (mkF m 14 #[.val (.int x0), .val (.int x1), .val (.int x2), .val (.int x3), .val (.int x4), .val (.int x5), .val (.int (v0_k1 x4)), .unset, .unset, .unset, .unset, .unset, .unset] [(.int (1 : Int32)), (.int (ushrI x4 (1 : Int32))), (.int (1 : Int32))]))
  refine g_iand X0 hx 15 (hb hby at_14) rfl ?_
  show Go p e below s _ _ _ (T0.setTop (mkF m 15 #[.val (.int x0), .val (.int x1), .val (.int x2), .val (.int x3), .val (.int x4), .val (.int x5), .val (.int (v0_k1 x4)), .unset, .unset, .unset, .unset, .unset, .unset] [(.int ((ushrI x4 (1 : Int32)) &&& (1 : Int32))), (.int (1 : Int32))]))
  refine g_iadd X0 hx 16 (hb hby at_15) rfl ?_
  show Go p e below s _ _ _ (T0.setTop (mkF m 16 #[.val (.int x0), .val (.int x1), .val (.int x2), .val (.int x3), .val (.int x4), .val (.int x5), .val (.int (v0_k1 x4)), .unset, .unset, .unset, .unset, .unset, .unset] [(.int ((1 : Int32) + ((ushrI x4 (1 : Int32)) &&& (1 : Int32))))]))
  refine g_istore X0 hx #[.val (.int x0), .val (.int x1), .val (.int x2), .val (.int x3), .val (.int x4), .val (.int x5), .val (.int (v0_k1 x4)), .val (.int (v0_k2 x4)), .unset, .unset, .unset, .unset, .unset] 18 (hb hby at_16) rfl rfl ?_
  show Go p e below s _ _ _ (T0.setTop (mkF m 18 #[.val (.int x0), .val (.int x1), .val (.int x2), .val (.int x3), .val (.int x4), .val (.int x5), .val (.int (v0_k1 x4)), .val (.int (v0_k2 x4)), .unset, .unset, .unset, .unset, .unset] []))
  refine g_iload X0 hx 20 (hb hby at_18) rfl rfl ?_
  show Go p e below s _ _ _ (T0.setTop (mkF m 20 #[.val (.int x0), .val (.int x1), .val (.int x2), .val (.int x3), .val (.int x4), .val (.int x5), .val (.int (v0_k1 x4)), .val (.int (v0_k2 x4)), .unset, .unset, .unset, .unset, .unset] [(.int x5)]))
  refine g_ldc X0 hx hZ hown (hw _ (List.mem_of_getElem? (i := 0) rfl)) 22 (hb hby at_20) rfl ?_
  show Go p e below s _ _ _ (T0.setTop (mkF m 22 #[.val (.int x0), .val (.int x1), .val (.int x2), .val (.int x3), .val (.int x4), .val (.int x5), .val (.int (v0_k1 x4)), .val (.int (v0_k2 x4)), .unset, .unset, .unset, .unset, .unset] [(.int (2147483647 : Int32)), (.int x5)]))
  refine g_iand X0 hx 23 (hb hby at_22) rfl ?_
  show Go p e below s _ _ _ (T0.setTop (mkF m 23 #[.val (.int x0), .val (.int x1), .val (.int x2), .val (.int x3), .val (.int x4), .val (.int x5), .val (.int (v0_k1 x4)), .val (.int (v0_k2 x4)), .unset, .unset, .unset, .unset, .unset] [(.int (x5 &&& (2147483647 : Int32)))]))
  refine g_iconst X0 hx (5 : Int32) 24 (hb hby at_23) rfl rfl ?_
  show Go p e below s _ _ _ (T0.setTop (mkF m 24 #[.val (.int x0), .val (.int x1), .val (.int x2), .val (.int x3), .val (.int x4), .val (.int x5), .val (.int (v0_k1 x4)), .val (.int (v0_k2 x4)), .unset, .unset, .unset, .unset, .unset] [(.int (5 : Int32)), (.int (x5 &&& (2147483647 : Int32)))]))
  refine g_irem X0 hx 25 (hb hby at_24) (by decide) rfl ?_
  show Go p e below s _ _ _ (T0.setTop (mkF m 25 #[.val (.int x0), .val (.int x1), .val (.int x2), .val (.int x3), .val (.int x4), .val (.int x5), .val (.int (v0_k1 x4)), .val (.int (v0_k2 x4)), .unset, .unset, .unset, .unset, .unset] [(.int ((x5 &&& (2147483647 : Int32)) % (5 : Int32)))]))
  refine g_istore X0 hx #[.val (.int x0), .val (.int x1), .val (.int x2), .val (.int x3), .val (.int x4), .val (.int x5), .val (.int (v0_k1 x4)), .val (.int (v0_k2 x4)), .val (.int (v0_L x5)), .unset, .unset, .unset, .unset] 27 (hb hby at_25) rfl rfl ?_
  show Go p e below s _ _ _ (T0.setTop (mkF m 27 #[.val (.int x0), .val (.int x1), .val (.int x2), .val (.int x3), .val (.int x4), .val (.int x5), .val (.int (v0_k1 x4)), .val (.int (v0_k2 x4)), .val (.int (v0_L x5)), .unset, .unset, .unset, .unset] []))
  refine g_iconst X0 hx (4 : Int32) 28 (hb hby at_27) rfl rfl ?_
  show Go p e below s _ _ _ (T0.setTop (mkF m 28 #[.val (.int x0), .val (.int x1), .val (.int x2), .val (.int x3), .val (.int x4), .val (.int x5), .val (.int (v0_k1 x4)), .val (.int (v0_k2 x4)), .val (.int (v0_L x5)), .unset, .unset, .unset, .unset] [(.int (4 : Int32))]))
  refine g_newarrayB X0 hx hZ (hw _ (List.mem_of_getElem? (i := 1) rfl)) e0 4 4 rfl (by decide) (by decide) 30 (hb hby at_28) (by decide) (by decide) rfl ?_
  intro T1 h1 b1 g1 X1 e1 E1 A1
  have N_b1 : n0 ≤ b1 := Nat.le_trans Z0 (Nat.le_of_eq g1.symm)
  have Z1 : n0 ≤ h1.size := Nat.le_trans Z0 E1.1
  show Go p e below s _ _ _ (T1.setTop (mkF m 30 #[.val (.int x0), .val (.int x1), .val (.int x2), .val (.int x3), .val (.int x4), .val (.int x5), .val (.int (v0_k1 x4)), .val (.int (v0_k2 x4)), .val (.int (v0_L x5)), .unset, .unset, .unset, .unset] [(.ref b1)]))
  refine g_astore X1 hx #[.val (.int x0), .val (.int x1), .val (.int x2), .val (.int x3), .val (.int x4), .val (.int x5), .val (.int (v0_k1 x4)), .val (.int (v0_k2 x4)), .val (.int (v0_L x5)), .val (.ref b1), .unset, .unset, .unset] 32 (hb hby at_30) rfl rfl rfl ?_
  show Go p e below s _ _ _ (T1.setTop (mkF m 32 #[.val (.int x0), .val (.int x1), .val (.int x2), .val (.int x3), .val (.int x4), .val (.int x5), .val (.int (v0_k1 x4)), .val (.int (v0_k2 x4)), .val (.int (v0_L x5)), .val (.ref b1), .unset, .unset, .unset] []))
  refine g_aload X1 hx 34 (hb hby at_32) rfl rfl rfl ?_
  show Go p e below s _ _ _ (T1.setTop (mkF m 34 #[.val (.int x0), .val (.int x1), .val (.int x2), .val (.int x3), .val (.int x4), .val (.int x5), .val (.int (v0_k1 x4)), .val (.int (v0_k2 x4)), .val (.int (v0_L x5)), .val (.ref b1), .unset, .unset, .unset] [(.ref b1)]))
  refine g_iconst X1 hx (0 : Int32) 35 (hb hby at_34) rfl rfl ?_
  show Go p e below s _ _ _ (T1.setTop (mkF m 35 #[.val (.int x0), .val (.int x1), .val (.int x2), .val (.int x3), .val (.int x4), .val (.int x5), .val (.int (v0_k1 x4)), .val (.int (v0_k2 x4)), .val (.int (v0_L x5)), .val (.ref b1), .unset, .unset, .unset] [(.int (0 : Int32)), (.ref b1)]))
  refine g_iloadN X1 hx 36 (hb hby at_35) rfl rfl ?_
  show Go p e below s _ _ _ (T1.setTop (mkF m 36 #[.val (.int x0), .val (.int x1), .val (.int x2), .val (.int x3), .val (.int x4), .val (.int x5), .val (.int (v0_k1 x4)), .val (.int (v0_k2 x4)), .val (.int (v0_L x5)), .val (.ref b1), .unset, .unset, .unset] [(.int x0), (.int (0 : Int32)), (.ref b1)]))
  refine g_bipush X1 hx (127 : Int32) 38 (hb hby at_36) rfl rfl ?_
  show Go p e below s _ _ _ (T1.setTop (mkF m 38 #[.val (.int x0), .val (.int x1), .val (.int x2), .val (.int x3), .val (.int x4), .val (.int x5), .val (.int (v0_k1 x4)), .val (.int (v0_k2 x4)), .val (.int (v0_L x5)), .val (.ref b1), .unset, .unset, .unset] [(.int (127 : Int32)), (.int x0), (.int (0 : Int32)), (.ref b1)]))
  refine g_iand X1 hx 39 (hb hby at_38) rfl ?_
  show Go p e below s _ _ _ (T1.setTop (mkF m 39 #[.val (.int x0), .val (.int x1), .val (.int x2), .val (.int x3), .val (.int x4), .val (.int x5), .val (.int (v0_k1 x4)), .val (.int (v0_k2 x4)), .val (.int (v0_L x5)), .val (.ref b1), .unset, .unset, .unset] [(.int (x0 &&& (127 : Int32))), (.int (0 : Int32)), (.ref b1)]))
  refine g_i2b X1 hx 40 (hb hby at_39) rfl ?_
  show Go p e below s _ _ _ (T1.setTop (mkF m 40 #[.val (.int x0), .val (.int x1), .val (.int x2), .val (.int x3), .val (.int x4), .val (.int x5), .val (.int (v0_k1 x4)), .val (.int (v0_k2 x4)), .val (.int (v0_L x5)), .val (.ref b1), .unset, .unset, .unset] [(.int (i2bI (x0 &&& (127 : Int32)))), (.int (0 : Int32)), (.ref b1)]))
  refine g_bastore X1 hx hZ e1 A1 0 rfl (by decide) 41 (hb hby at_40) rfl ?_
  intro T2 h2 X2 e2 W2 A2
  have N2 := Fr.snoc X2 N0 N_b1
  have Z2 : n0 ≤ h2.size := by rw [W2.size]; exact Z1
  show Go p e below s _ _ _ (T2.setTop (mkF m 41 #[.val (.int x0), .val (.int x1), .val (.int x2), .val (.int x3), .val (.int x4), .val (.int x5), .val (.int (v0_k1 x4)), .val (.int (v0_k2 x4)), .val (.int (v0_L x5)), .val (.ref b1), .unset, .unset, .unset] []))
  refine g_aload X2 hx 43 (hb hby at_41) rfl rfl rfl ?_
  show Go p e below s _ _ _ (T2.setTop (mkF m 43 #[.val (.int x0), .val (.int x1), .val (.int x2), .val (.int x3), .val (.int x4), .val (.int x5), .val (.int (v0_k1 x4)), .val (.int (v0_k2 x4)), .val (.int (v0_L x5)), .val (.ref b1), .unset, .unset, .unset] [(.ref b1)]))
  refine g_iconst X2 hx (1 : Int32) 44 (hb hby at_43) rfl rfl ?_
  show Go p e below s _ _ _ (T2.setTop (mkF m 44 #[.val (.int x0), .val (.int x1), .val (.int x2), .val (.int x3), .val (.int x4), .val (.int x5), .val (.int (v0_k1 x4)), .val (.int (v0_k2 x4)), .val (.int (v0_L x5)), .val (.ref b1), .unset, .unset, .unset] [(.int (1 : Int32)), (.ref b1)]))
  refine g_iloadN X2 hx 45 (hb hby at_44) rfl rfl ?_
  show Go p e below s _ _ _ (T2.setTop (mkF m 45 #[.val (.int x0), .val (.int x1), .val (.int x2), .val (.int x3), .val (.int x4), .val (.int x5), .val (.int (v0_k1 x4)), .val (.int (v0_k2 x4)), .val (.int (v0_L x5)), .val (.ref b1), .unset, .unset, .unset] [(.int x1), (.int (1 : Int32)), (.ref b1)]))
  refine g_bipush X2 hx (127 : Int32) 47 (hb hby at_45) rfl rfl ?_
  show Go p e below s _ _ _ (T2.setTop (mkF m 47 #[.val (.int x0), .val (.int x1), .val (.int x2), .val (.int x3), .val (.int x4), .val (.int x5), .val (.int (v0_k1 x4)), .val (.int (v0_k2 x4)), .val (.int (v0_L x5)), .val (.ref b1), .unset, .unset, .unset] [(.int (127 : Int32)), (.int x1), (.int (1 : Int32)), (.ref b1)]))
  refine g_iand X2 hx 48 (hb hby at_47) rfl ?_
  show Go p e below s _ _ _ (T2.setTop (mkF m 48 #[.val (.int x0), .val (.int x1), .val (.int x2), .val (.int x3), .val (.int x4), .val (.int x5), .val (.int (v0_k1 x4)), .val (.int (v0_k2 x4)), .val (.int (v0_L x5)), .val (.ref b1), .unset, .unset, .unset] [(.int (x1 &&& (127 : Int32))), (.int (1 : Int32)), (.ref b1)]))
  refine g_i2b X2 hx 49 (hb hby at_48) rfl ?_
  show Go p e below s _ _ _ (T2.setTop (mkF m 49 #[.val (.int x0), .val (.int x1), .val (.int x2), .val (.int x3), .val (.int x4), .val (.int x5), .val (.int (v0_k1 x4)), .val (.int (v0_k2 x4)), .val (.int (v0_L x5)), .val (.ref b1), .unset, .unset, .unset] [(.int (i2bI (x1 &&& (127 : Int32)))), (.int (1 : Int32)), (.ref b1)]))
  refine g_bastore X2 hx hZ e2 A2 1 rfl (by decide) 50 (hb hby at_49) rfl ?_
  intro T3 h3 X3 e3 W3 A3
  have N3 := Fr.snoc X3 N2 N_b1
  have Z3 : n0 ≤ h3.size := by rw [W3.size]; exact Z2
  show Go p e below s _ _ _ (T3.setTop (mkF m 50 #[.val (.int x0), .val (.int x1), .val (.int x2), .val (.int x3), .val (.int x4), .val (.int x5), .val (.int (v0_k1 x4)), .val (.int (v0_k2 x4)), .val (.int (v0_L x5)), .val (.ref b1), .unset, .unset, .unset] []))
  refine g_aload X3 hx 52 (hb hby at_50) rfl rfl rfl ?_
  show Go p e below s _ _ _ (T3.setTop (mkF m 52 #[.val (.int x0), .val (.int x1), .val (.int x2), .val (.int x3), .val (.int x4), .val (.int x5), .val (.int (v0_k1 x4)), .val (.int (v0_k2 x4)), .val (.int (v0_L x5)), .val (.ref b1), .unset, .unset, .unset] [(.ref b1)]))
  refine g_iconst X3 hx (2 : Int32) 53 (hb hby at_52) rfl rfl ?_
  show Go p e below s _ _ _ (T3.setTop (mkF m 53 #[.val (.int x0), .val (.int x1), .val (.int x2), .val (.int x3), .val (.int x4), .val (.int x5), .val (.int (v0_k1 x4)), .val (.int (v0_k2 x4)), .val (.int (v0_L x5)), .val (.ref b1), .unset, .unset, .unset] [(.int (2 : Int32)), (.ref b1)]))
  refine g_iloadN X3 hx 54 (hb hby at_53) rfl rfl ?_
  show Go p e below s _ _ _ (T3.setTop (mkF m 54 #[.val (.int x0), .val (.int x1), .val (.int x2), .val (.int x3), .val (.int x4), .val (.int x5), .val (.int (v0_k1 x4)), .val (.int (v0_k2 x4)), .val (.int (v0_L x5)), .val (.ref b1), .unset, .unset, .unset] [(.int x2), (.int (2 : Int32)), (.ref b1)]))
  refine g_bipush X3 hx (127 : Int32) 56 (hb hby at_54) rfl rfl ?_
  show Go p e below s _ _ _ (T3.setTop (mkF m 56 #[.val (.int x0), .val (.int x1), .val (.int x2), .val (.int x3), .val (.int x4), .val (.int x5), .val (.int (v0_k1 x4)), .val (.int (v0_k2 x4)), .val (.int (v0_L x5)), .val (.ref b1), .unset, .unset, .unset] [(.int (127 : Int32)), (.int x2), (.int (2 : Int32)), (.ref b1)]))
  refine g_iand X3 hx 57 (hb hby at_56) rfl ?_
  show Go p e below s _ _ _ (T3.setTop (mkF m 57 #[.val (.int x0), .val (.int x1), .val (.int x2), .val (.int x3), .val (.int x4), .val (.int x5), .val (.int (v0_k1 x4)), .val (.int (v0_k2 x4)), .val (.int (v0_L x5)), .val (.ref b1), .unset, .unset, .unset] [(.int (x2 &&& (127 : Int32))), (.int (2 : Int32)), (.ref b1)]))
  refine g_i2b X3 hx 58 (hb hby at_57) rfl ?_
  show Go p e below s _ _ _ (T3.setTop (mkF m 58 #[.val (.int x0), .val (.int x1), .val (.int x2), .val (.int x3), .val (.int x4), .val (.int x5), .val (.int (v0_k1 x4)), .val (.int (v0_k2 x4)), .val (.int (v0_L x5)), .val (.ref b1), .unset, .unset, .unset] [(.int (i2bI (x2 &&& (127 : Int32)))), (.int (2 : Int32)), (.ref b1)]))
  refine g_bastore X3 hx hZ e3 A3 2 rfl (by decide) 59 (hb hby at_58) rfl ?_
  intro T4 h4 X4 e4 W4 A4
  have N4 := Fr.snoc X4 N3 N_b1
  have Z4 : n0 ≤ h4.size := by rw [W4.size]; exact Z3
  show Go p e below s _ _ _ (T4.setTop (mkF m 59 #[.val (.int x0), .val (.int x1), .val (.int x2), .val (.int x3), .val (.int x4), .val (.int x5), .val (.int (v0_k1 x4)), .val (.int (v0_k2 x4)), .val (.int (v0_L x5)), .val (.ref b1), .unset, .unset, .unset] []))
  refine g_aload X4 hx 61 (hb hby at_59) rfl rfl rfl ?_
  show Go p e below s _ _ _ (T4.setTop (mkF m 61 #[.val (.int x0), .val (.int x1), .val (.int x2), .val (.int x3), .val (.int x4), .val (.int x5), .val (.int (v0_k1 x4)), .val (.int (v0_k2 x4)), .val (.int (v0_L x5)), .val (.ref b1), .unset, .unset, .unset] [(.ref b1)]))
  refine g_iconst X4 hx (3 : Int32) 62 (hb hby at_61) rfl rfl ?_
  show Go p e below s _ _ _ (T4.setTop (mkF m 62 #[.val (.int x0), .val (.int x1), .val (.int x2), .val (.int x3), .val (.int x4), .val (.int x5), .val (.int (v0_k1 x4)), .val (.int (v0_k2 x4)), .val (.int (v0_L x5)), .val (.ref b1), .unset, .unset, .unset] [(.int (3 : Int32)), (.ref b1)]))
  refine g_iloadN X4 hx 63 (hb hby at_62) rfl rfl ?_
  show Go p e below s _ _ _ (T4.setTop (mkF m 63 #[.val (.int x0), .val (.int x1), .val (.int x2), .val (.int x3), .val (.int x4), .val (.int x5), .val (.int (v0_k1 x4)), .val (.int (v0_k2 x4)), .val (.int (v0_L x5)), .val (.ref b1), .unset, .unset, .unset] [(.int x3), (.int (3 : Int32)), (.ref b1)]))
  refine g_bipush X4 hx (127 : Int32) 65 (hb hby at_63) rfl rfl ?_
  show Go p e below s _ _ _ (T4.setTop (mkF m 65 #[.val (.int x0), .val (.int x1), .val (.int x2), .val (.int x3), .val (.int x4), .val (.int x5), .val (.int (v0_k1 x4)), .val (.int (v0_k2 x4)), .val (.int (v0_L x5)), .val (.ref b1), .unset, .unset, .unset] [(.int (127 : Int32)), (.int x3), (.int (3 : Int32)), (.ref b1)]))
  refine g_iand X4 hx 66 (hb hby at_65) rfl ?_
  show Go p e below s _ _ _ (T4.setTop (mkF m 66 #[.val (.int x0), .val (.int x1), .val (.int x2), .val (.int x3), .val (.int x4), .val (.int x5), .val (.int (v0_k1 x4)), .val (.int (v0_k2 x4)), .val (.int (v0_L x5)), .val (.ref b1), .unset, .unset, .unset] [(.int (x3 &&& (127 : Int32))), (.int (3 : Int32)), (.ref b1)]))
  refine g_i2b X4 hx 67 (hb hby at_66) rfl ?_
  show Go p e below s _ _ _ (T4.setTop (mkF m 67 #[.val (.int x0), .val (.int x1), .val (.int x2), .val (.int x3), .val (.int x4), .val (.int x5), .val (.int (v0_k1 x4)), .val (.int (v0_k2 x4)), .val (.int (v0_L x5)), .val (.ref b1), .unset, .unset, .unset] [(.int (i2bI (x3 &&& (127 : Int32)))), (.int (3 : Int32)), (.ref b1)]))
  refine g_bastore X4 hx hZ e4 A4 3 rfl (by decide) 68 (hb hby at_67) rfl ?_
  intro T5 h5 X5 e5 W5 A5
  have N5 := Fr.snoc X5 N4 N_b1
  have Z5 : n0 ≤ h5.size := by rw [W5.size]; exact Z4
  show Go p e below s _ _ _ (T5.setTop (mkF m 68 #[.val (.int x0), .val (.int x1), .val (.int x2), .val (.int x3), .val (.int x4), .val (.int x5), .val (.int (v0_k1 x4)), .val (.int (v0_k2 x4)), .val (.int (v0_L x5)), .val (.ref b1), .unset, .unset, .unset] []))
  refine g_iload X5 hx 70 (hb hby at_68) rfl rfl ?_
  show Go p e below s _ _ _ (T5.setTop (mkF m 70 #[.val (.int x0), .val (.int x1), .val (.int x2), .val (.int x3), .val (.int x4), .val (.int x5), .val (.int (v0_k1 x4)), .val (.int (v0_k2 x4)), .val (.int (v0_L x5)), .val (.ref b1), .unset, .unset, .unset] [(.int (v0_k1 x4))]))
  refine g_iconst X5 hx (2 : Int32) 71 (hb hby at_70) rfl rfl ?_
  show Go p e below s _ _ _ (T5.setTop (mkF m 71 #[.val (.int x0), .val (.int x1), .val (.int x2), .val (.int x3), .val (.int x4), .val (.int x5), .val (.int (v0_k1 x4)), .val (.int (v0_k2 x4)), .val (.int (v0_L x5)), .val (.ref b1), .unset, .unset, .unset] [(.int (2 : Int32)), (.int (v0_k1 x4))]))
  refine g_icmp_ne X5 hx 87 74 (hb hby at_71) (by decide) rfl rfl (fun h6 => ?_) (fun h6 => ?_)
  · show Go p e below s _ _ _ (T5.setTop (mkF m 74 #[.val (.int x0), .val (.int x1), .val (.int x2), .val (.int x3), .val (.int x4), .val (.int x5), .val (.int (v0_k1 x4)), .val (.int (v0_k2 x4)), .val (.int (v0_L x5)), .val (.ref b1), .unset, .unset, .unset] []))
    refine g_aload X5 hx 76 (hb hby at_74) rfl rfl rfl ?_
    show Go p e below s _ _ _ (T5.setTop (mkF m 76 #[.val (.int x0), .val (.int x1), .val (.int x2), .val (.int x3), .val (.int x4), .val (.int x5), .val (.int (v0_k1 x4)), .val (.int (v0_k2 x4)), .val (.int (v0_L x5)), .val (.ref b1), .unset, .unset, .unset] [(.ref b1)]))
    refine g_iconst X5 hx (0 : Int32) 77 (hb hby at_76) rfl rfl ?_
    show Go p e below s _ _ _ (T5.setTop (mkF m 77 #[.val (.int x0), .val (.int x1), .val (.int x2), .val (.int x3), .val (.int x4), .val (.int x5), .val (.int (v0_k1 x4)), .val (.int (v0_k2 x4)), .val (.int (v0_L x5)), .val (.ref b1), .unset, .unset, .unset] [(.int (0 : Int32)), (.ref b1)]))
    refine g_aload X5 hx 79 (hb hby at_77) rfl rfl rfl ?_
    show Go p e below s _ _ _ (T5.setTop (mkF m 79 #[.val (.int x0), .val (.int x1), .val (.int x2), .val (.int x3), .val (.int x4), .val (.int x5), .val (.int (v0_k1 x4)), .val (.int (v0_k2 x4)), .val (.int (v0_L x5)), .val (.ref b1), .unset, .unset, .unset] [(.ref b1), (.int (0 : Int32)), (.ref b1)]))
    refine g_iconst X5 hx (0 : Int32) 80 (hb hby at_79) rfl rfl ?_
    show Go p e below s _ _ _ (T5.setTop (mkF m 80 #[.val (.int x0), .val (.int x1), .val (.int x2), .val (.int x3), .val (.int x4), .val (.int x5), .val (.int (v0_k1 x4)), .val (.int (v0_k2 x4)), .val (.int (v0_L x5)), .val (.ref b1), .unset, .unset, .unset] [(.int (0 : Int32)), (.ref b1), (.int (0 : Int32)), (.ref b1)]))
    refine g_baload X5 hx hZ e5 A5 0 rfl (by decide) 81 (hb hby at_80) rfl ?_
    show Go p e below s _ _ _ (T5.setTop (mkF m 81 #[.val (.int x0), .val (.int x1), .val (.int x2), .val (.int x3), .val (.int x4), .val (.int x5), .val (.int (v0_k1 x4)), .val (.int (v0_k2 x4)), .val (.int (v0_L x5)), .val (.ref b1), .unset, .unset, .unset] [(.int ((upd (upd (upd (upd (fun _ => (0 : Int32)) 0 (i2bI (i2bI (x0 &&& (127 : Int32))))) 1 (i2bI (i2bI (x1 &&& (127 : Int32))))) 2 (i2bI (i2bI (x2 &&& (127 : Int32))))) 3 (i2bI (i2bI (x3 &&& (127 : Int32))))) 0)), (.int (0 : Int32)), (.ref b1)]))
    refine g_sipush X5 hx (128 : Int32) 84 (hb hby at_81) rfl rfl ?_
    show Go p e below s _ _ _ (T5.setTop (mkF m 84 #[.val (.int x0), .val (.int x1), .val (.int x2), .val (.int x3), .val (.int x4), .val (.int x5), .val (.int (v0_k1 x4)), .val (.int (v0_k2 x4)), .val (.int (v0_L x5)), .val (.ref b1), .unset, .unset, .unset] [(.int (128 : Int32)), (.int ((upd (upd (upd (upd (fun _ => (0 : Int32)) 0 (i2bI (i2bI (x0 &&& (127 : Int32))))) 1 (i2bI (i2bI (x1 &&& (127 : Int32))))) 2 (i2bI (i2bI (x2 &&& (127 : Int32))))) 3 (i2bI (i2bI (x3 &&& (127 : Int32))))) 0)), (.int (0 : Int32)), (.ref b1)]))
    refine g_ior X5 hx 85 (hb hby at_84) rfl ?_
    show Go p e below s _ _ _ (T5.setTop (mkF m 85 #[.val (.int x0), .val (.int x1), .val (.int x2), .val (.int x3), .val (.int x4), .val (.int x5), .val (.int (v0_k1 x4)), .val (.int (v0_k2 x4)), .val (.int (v0_L x5)), .val (.ref b1), .unset, .unset, .unset] [(.int (((upd (upd (upd (upd (fun _ => (0 : Int32)) 0 (i2bI (i2bI (x0 &&& (127 : Int32))))) 1 (i2bI (i2bI (x1 &&& (127 : Int32))))) 2 (i2bI (i2bI (x2 &&& (127 : Int32))))) 3 (i2bI (i2bI (x3 &&& (127 : Int32))))) 0) ||| (128 : Int32))), (.int (0 : Int32)), (.ref b1)]))
    refine g_i2b X5 hx 86 (hb hby at_85) rfl ?_
    show Go p e below s _ _ _ (T5.setTop (mkF m 86 #[.val (.int x0), .val (.int x1), .val (.int x2), .val (.int x3), .val (.int x4), .val (.int x5), .val (.int (v0_k1 x4)), .val (.int (v0_k2 x4)), .val (.int (v0_L x5)), .val (.ref b1), .unset, .unset, .unset] [(.int (i2bI (((upd (upd (upd (upd (fun _ => (0 : Int32)) 0 (i2bI (i2bI (x0 &&& (127 : Int32))))) 1 (i2bI (i2bI (x1 &&& (127 : Int32))))) 2 (i2bI (i2bI (x2 &&& (127 : Int32))))) 3 (i2bI (i2bI (x3 &&& (127 : Int32))))) 0) ||| (128 : Int32)))), (.int (0 : Int32)), (.ref b1)]))
    refine g_bastore X5 hx hZ e5 A5 0 rfl (by decide) 87 (hb hby at_86) rfl ?_
    intro T8 h8 X8 e8 W8 A8
    have N8 := Fr.snoc X8 N5 N_b1
    have Z8 : n0 ≤ h8.size := by rw [W8.size]; exact Z5
    show Go p e below s _ _ _ (T8.setTop (mkF m 87 #[.val (.int x0), .val (.int x1), .val (.int x2), .val (.int x3), .val (.int x4), .val (.int x5), .val (.int (v0_k1 x4)), .val (.int (v0_k2 x4)), .val (.int (v0_L x5)), .val (.ref b1), .unset, .unset, .unset] []))
    refine g_iload X8 hx 89 (hb hby at_87) rfl rfl ?_
    show Go p e below s _ _ _ (T8.setTop (mkF m 89 #[.val (.int x0), .val (.int x1), .val (.int x2), .val (.int x3), .val (.int x4), .val (.int x5), .val (.int (v0_k1 x4)), .val (.int (v0_k2 x4)), .val (.int (v0_L x5)), .val (.ref b1), .unset, .unset, .unset] [(.int (v0_k2 x4))]))
    refine g_iconst X8 hx (2 : Int32) 90 (hb hby at_89) rfl rfl ?_
    show Go p e below s _ _ _ (T8.setTop (mkF m 90 #[.val (.int x0), .val (.int x1), .val (.int x2), .val (.int x3), .val (.int x4), .val (.int x5), .val (.int (v0_k1 x4)), .val (.int (v0_k2 x4)), .val (.int (v0_L x5)), .val (.ref b1), .unset, .unset, .unset] [(.int (2 : Int32)), (.int (v0_k2 x4))]))
    refine g_icmp_ne X8 hx 108 93 (hb hby at_90) (by decide) rfl rfl (fun h9 => ?_) (fun h9 => ?_)
    · show Go p e below s _ _ _ (T8.setTop (mkF m 93 #[.val (.int x0), .val (.int x1), .val (.int x2), .val (.int x3), .val (.int x4), .val (.int x5), .val (.int (v0_k1 x4)), .val (.int (v0_k2 x4)), .val (.int (v0_L x5)), .val (.ref b1), .unset, .unset, .unset] []))
      refine g_aload X8 hx 95 (hb hby at_93) rfl rfl rfl ?_
      show Go p e below s _ _ _ (T8.setTop (mkF m 95 #[.val (.int x0), .val (.int x1), .val (.int x2), .val (.int x3), .val (.int x4), .val (.int x5), .val (.int (v0_k1 x4)), .val (.int (v0_k2 x4)), .val (.int (v0_L x5)), .val (.ref b1), .unset, .unset, .unset] [(.ref b1)]))
      refine g_iload X8 hx 97 (hb hby at_95) rfl rfl ?_
      show Go p e below s _ _ _ (T8.setTop (mkF m 97 #[.val (.int x0), .val (.int x1), .val (.int x2), .val (.int x3), .val (.int x4), .val (.int x5), .val (.int (v0_k1 x4)), .val (.int (v0_k2 x4)), .val (.int (v0_L x5)), .val (.ref b1), .unset, .unset, .unset] [(.int (v0_k1 x4)), (.ref b1)]))
      refine g_aload X8 hx 99 (hb hby at_97) rfl rfl rfl ?_
      show Go p e below s _ _ _ (T8.setTop (mkF m 99 #[.val (.int x0), .val (.int x1), .val (.int x2), .val (.int x3), .val (.int x4), .val (.int x5), .val (.int (v0_k1 x4)), .val (.int (v0_k2 x4)), .val (.int (v0_L x5)), .val (.ref b1), .unset, .unset, .unset] [(.ref b1), (.int (v0_k1 x4)), (.ref b1)]))
      refine g_iload X8 hx 101 (hb hby at_99) rfl rfl ?_
      show Go p e below s _ _ _ (T8.setTop (mkF m 101 #[.val (.int x0), .val (.int x1), .val (.int x2), .val (.int x3), .val (.int x4), .val (.int x5), .val (.int (v0_k1 x4)), .val (.int (v0_k2 x4)), .val (.int (v0_L x5)), .val (.ref b1), .unset, .unset, .unset] [(.int (v0_k1 x4)), (.ref b1), (.int (v0_k1 x4)), (.ref b1)]))
      refine g_baload X8 hx hZ e8 A8 2 (by rw [‹v0_k1 x4 = (2 : Int32)›]; rfl) (by decide) 102 (hb hby at_101) rfl ?_
      show Go p e below s _ _ _ (T8.setTop (mkF m 102 #[.val (.int x0), .val (.int x1), .val (.int x2), .val (.int x3), .val (.int x4), .val (.int x5), .val (.int (v0_k1 x4)), .val (.int (v0_k2 x4)), .val (.int (v0_L x5)), .val (.ref b1), .unset, .unset, .unset] [(.int ((upd (upd (upd (upd (upd (fun _ => (0 : Int32)) 0 (i2bI (i2bI (x0 &&& (127 : Int32))))) 1 (i2bI (i2bI (x1 &&& (127 : Int32))))) 2 (i2bI (i2bI (x2 &&& (127 : Int32))))) 3 (i2bI (i2bI (x3 &&& (127 : Int32))))) 0 (i2bI (i2bI (((upd (upd (upd (upd (fun _ => (0 : Int32)) 0 (i2bI (i2bI (x0 &&& (127 : Int32))))) 1 (i2bI (i2bI (x1 &&& (127 : Int32))))) 2 (i2bI (i2bI (x2 &&& (127 : Int32))))) 3 (i2bI (i2bI (x3 &&& (127 : Int32))))) 0) ||| (128 : Int32))))) 2)), (.int (v0_k1 x4)), (.ref b1)]))
      refine g_sipush X8 hx (128 : Int32) 105 (hb hby at_102) rfl rfl ?_
      show Go p e below s _ _ _ (T8.setTop (mkF m 105 #[.val (.int x0), .val (.int x1), .val (.int x2), .val (.int x3), .val (.int x4), .val (.int x5), .val (.int (v0_k1 x4)), .val (.int (v0_k2 x4)), .val (.int (v0_L x5)), .val (.ref b1), .unset, .unset, .unset] [(.int (128 : Int32)), (.int ((upd (upd (upd (upd (upd (fun _ => (0 : Int32)) 0 (i2bI (i2bI (x0 &&& (127 : Int32))))) 1 (i2bI (i2bI (x1 &&& (127 : Int32))))) 2 (i2bI (i2bI (x2 &&& (127 : Int32))))) 3 (i2bI (i2bI (x3 &&& (127 : Int32))))) 0 (i2bI (i2bI (((upd (upd (upd (upd (fun _ => (0 : Int32)) 0 (i2bI (i2bI (x0 &&& (127 : Int32))))) 1 (i2bI (i2bI (x1 &&& (127 : Int32))))) 2 (i2bI (i2bI (x2 &&& (127 : Int32))))) 3 (i2bI (i2bI (x3 &&& (127 : Int32))))) 0) ||| (128 : Int32))))) 2)), (.int (v0_k1 x4)), (.ref b1)]))
      refine g_ior X8 hx 106 (hb hby at_105) rfl ?_
      show Go p e below s _ _ _ (T8.setTop (mkF m 106 #[.val (.int x0), .val (.int x1), .val (.int x2), .val (.int x3), .val (.int x4), .val (.int x5), .val (.int (v0_k1 x4)), .val (.int (v0_k2 x4)), .val (.int (v0_L x5)), .val (.ref b1), .unset, .unset, .unset] [(.int (((upd (upd (upd (upd (upd (fun _ => (0 : Int32)) 0 (i2bI (i2bI (x0 &&& (127 : Int32))))) 1 (i2bI (i2bI (x1 &&& (127 : Int32))))) 2 (i2bI (i2bI (x2 &&& (127 : Int32))))) 3 (i2bI (i2bI (x3 &&& (127 : Int32))))) 0 (i2bI (i2bI (((upd (upd (upd (upd (fun _ => (0 : Int32)) 0 (i2bI (i2bI (x0 &&& (127 : Int32))))) 1 (i2bI (i2bI (x1 &&& (127 : Int32))))) 2 (i2bI (i2bI (x2 &&& (127 : Int32))))) 3 (i2bI (i2bI (x3 &&& (127 : Int32))))) 0) ||| (128 : Int32))))) 2) ||| (128 : Int32))), (.int (v0_k1 x4)), (.ref b1)]))
      refine g_i2b X8 hx 107 (hb hby at_106) rfl ?_
      show Go p e below s _ _ _ (T8.setTop (mkF m 107 #[.val (.int x0), .val (.int x1), .val (.int x2), .val (.int x3), .val (.int x4), .val (.int x5), .val (.int (v0_k1 x4)), .val (.int (v0_k2 x4)), .val (.int (v0_L x5)), .val (.ref b1), .unset, .unset, .unset] [(.int (i2bI (((upd (upd (upd (upd (upd (fun _ => (0 : Int32)) 0 (i2bI (i2bI (x0 &&& (127 : Int32))))) 1 (i2bI (i2bI (x1 &&& (127 : Int32))))) 2 (i2bI (i2bI (x2 &&& (127 : Int32))))) 3 (i2bI (i2bI (x3 &&& (127 : Int32))))) 0 (i2bI (i2bI (((upd (upd (upd (upd (fun _ => (0 : Int32)) 0 (i2bI (i2bI (x0 &&& (127 : Int32))))) 1 (i2bI (i2bI (x1 &&& (127 : Int32))))) 2 (i2bI (i2bI (x2 &&& (127 : Int32))))) 3 (i2bI (i2bI (x3 &&& (127 : Int32))))) 0) ||| (128 : Int32))))) 2) ||| (128 : Int32)))), (.int (v0_k1 x4)), (.ref b1)]))
      refine g_bastore X8 hx hZ e8 A8 2 (by rw [‹v0_k1 x4 = (2 : Int32)›]; rfl) (by decide) 108 (hb hby at_107) rfl ?_
      intro T11 h11 X11 e11 W11 A11
      have N11 := Fr.snoc X11 N8 N_b1
      have Z11 : n0 ≤ h11.size := by rw [W11.size]; exact Z8
      show Go p e below s _ _ _ (T11.setTop (mkF m 108 #[.val (.int x0), .val (.int x1), .val (.int x2), .val (.int x3), .val (.int x4), .val (.int x5), .val (.int (v0_k1 x4)), .val (.int (v0_k2 x4)), .val (.int (v0_L x5)), .val (.ref b1), .unset, .unset, .unset] []))
      refine g_new X11 hx hZ hown (hw _ (List.mem_of_getElem? (i := 2) rfl)) (hw _ (List.mem_of_getElem? (i := 3) rfl)) (hw _ (List.mem_of_getElem? (i := 4) rfl)) e11 111 (hb hby at_108) (by decide) (by decide) rfl ?_
      intro T12 h12 b12 g12 X12 e12 E12 A12 D12
      have N_b12 : n0 ≤ b12 := Nat.le_trans Z11 (Nat.le_of_eq g12.symm)
      have ne_b1_b12 : b1 ≠ b12 := Nat.ne_of_lt (Nat.lt_of_lt_of_le A11.lt (Nat.le_of_eq g12.symm))
      have k12_1 := A11.ext E12
      have Z12 : n0 ≤ h12.size := Nat.le_trans Z11 E12.1
      have F12_bytes : Fld Z h12 b12 "com/example/terms_in_context/termsincontext/index/VarIntInput" "bytes" "[B" .null := D12 (Or.inr (hw _ (List.mem_of_getElem? (i := 12) rfl))) (ty := (.array .byte)) (by decide)
      have F12_length : Fld Z h12 b12 "com/example/terms_in_context/termsincontext/index/VarIntInput" "length" "I" (.int (0 : Int32)) := D12 (Or.inr (hw _ (List.mem_of_getElem? (i := 14) rfl))) (ty := .int) (by decide)
      have F12_offset : Fld Z h12 b12 "com/example/terms_in_context/termsincontext/index/VarIntInput" "offset" "I" (.int (0 : Int32)) := D12 (Or.inl (hw _ (List.mem_of_getElem? (i := 21) rfl))) (ty := .int) (by decide)
      show Go p e below s _ _ _ (T12.setTop (mkF m 111 #[.val (.int x0), .val (.int x1), .val (.int x2), .val (.int x3), .val (.int x4), .val (.int x5), .val (.int (v0_k1 x4)), .val (.int (v0_k2 x4)), .val (.int (v0_L x5)), .val (.ref b1), .unset, .unset, .unset] [(.ref b12)]))
      refine g_dup X12 hx 112 (hb hby at_111) rfl rfl ?_
      show Go p e below s _ _ _ (T12.setTop (mkF m 112 #[.val (.int x0), .val (.int x1), .val (.int x2), .val (.int x3), .val (.int x4), .val (.int x5), .val (.int (v0_k1 x4)), .val (.int (v0_k2 x4)), .val (.int (v0_L x5)), .val (.ref b1), .unset, .unset, .unset] [(.ref b12), (.ref b12)]))
      refine g_aload X12 hx 114 (hb hby at_112) rfl rfl rfl ?_
      show Go p e below s _ _ _ (T12.setTop (mkF m 114 #[.val (.int x0), .val (.int x1), .val (.int x2), .val (.int x3), .val (.int x4), .val (.int x5), .val (.int (v0_k1 x4)), .val (.int (v0_k2 x4)), .val (.int (v0_L x5)), .val (.ref b1), .unset, .unset, .unset] [(.ref b1), (.ref b12), (.ref b12)]))
      refine g_iload X12 hx 116 (hb hby at_114) rfl rfl ?_
      show Go p e below s _ _ _ (T12.setTop (mkF m 116 #[.val (.int x0), .val (.int x1), .val (.int x2), .val (.int x3), .val (.int x4), .val (.int x5), .val (.int (v0_k1 x4)), .val (.int (v0_k2 x4)), .val (.int (v0_L x5)), .val (.ref b1), .unset, .unset, .unset] [(.int (v0_L x5)), (.ref b1), (.ref b12), (.ref b12)]))
      refine g_callI X12 hx hZ rfl hown (hw _ (List.mem_of_getElem? (i := 5) rfl)) (hw _ (List.mem_of_getElem? (i := 6) rfl)) (hw _ (List.mem_of_getElem? (i := 4) rfl)) (hw _ (List.mem_of_getElem? (i := 7) rfl)) (by decide) e12 (rm1 l Z a0 hw [] b12 b1 (v0_L x5) h12 n0 Z12 A12 F12_bytes F12_length F12_offset N_b12) b12 [(.ref b1), (.int (v0_L x5))] [(.ref b12)] 1 rfl (lenOf pd__28_5bBI_29V rfl) rfl (Nat.le_of_eq rfl) (by decide) (by decide) (by decide) (by decide) (by rw [hml]; rfl) (hb hby at_116) ?_
      intro T13 L13 v13 X13 q13
      obtain ⟨rfl, N13, K13, p13_0, p13_1, p13_2⟩ := q13
      have NN13 := Fr.app N11 N13
      have k13_1 := k12_1.keep K13 (nm1 ne_b1_b12 nm0)
      have k13_4 := A12.keep K13
      have Z13 : n0 ≤ T13.heap.size := Nat.le_trans Z12 K13.1
      show Go p e below s _ _ _ (T13.setTop (mkF m 119 #[.val (.int x0), .val (.int x1), .val (.int x2), .val (.int x3), .val (.int x4), .val (.int x5), .val (.int (v0_k1 x4)), .val (.int (v0_k2 x4)), .val (.int (v0_L x5)), .val (.ref b1), .unset, .unset, .unset] [(.ref b12)]))
      refine g_astore X13 hx #[.val (.int x0), .val (.int x1), .val (.int x2), .val (.int x3), .val (.int x4), .val (.int x5), .val (.int (v0_k1 x4)), .val (.int (v0_k2 x4)), .val (.int (v0_L x5)), .val (.ref b1), .val (.ref b12), .unset, .unset] 121 (hb hby at_119) rfl rfl rfl ?_
      show Go p e below s _ _ _ (T13.setTop (mkF m 121 #[.val (.int x0), .val (.int x1), .val (.int x2), .val (.int x3), .val (.int x4), .val (.int x5), .val (.int (v0_k1 x4)), .val (.int (v0_k2 x4)), .val (.int (v0_L x5)), .val (.ref b1), .val (.ref b12), .unset, .unset] []))
      refine g_aload X13 hx 123 (hb hby at_121) rfl rfl rfl ?_
      show Go p e below s _ _ _ (T13.setTop (mkF m 123 #[.val (.int x0), .val (.int x1), .val (.int x2), .val (.int x3), .val (.int x4), .val (.int x5), .val (.int (v0_k1 x4)), .val (.int (v0_k2 x4)), .val (.int (v0_L x5)), .val (.ref b1), .val (.ref b12), .unset, .unset] [(.ref b12)]))
      refine g_callV X13 hx hZ hown (hw _ (List.mem_of_getElem? (i := 15) rfl)) (hw _ (List.mem_of_getElem? (i := 16) rfl)) (hw _ (List.mem_of_getElem? (i := 18) rfl)) (hw _ (List.mem_of_getElem? (i := 17) rfl)) (hw _ (List.mem_of_getElem? (i := 4) rfl)) (hw _ (List.mem_of_getElem? (i := 19) rfl)) (by decide) rfl b12 k13_4 (rm3 l Z a0 hw [] b12 (v0_L x5) (0 : Int32) T13.heap p13_1 p13_2) [] [] 0 rfl (lenOf pd__28_29Z rfl) rfl (Nat.le_of_eq rfl) (by decide) (by decide) (by decide) (by decide) (by rw [hml]; rfl) (hb hby at_123) ?_
      intro T14 L14 v14 X14 q14
      obtain ⟨rfl, rfl, e14⟩ := q14
      have NS14 := Fr.app NN13 (Fr.nil n0)
      show Go p e below s _ _ _ (T14.setTop (mkF m 126 #[.val (.int x0), .val (.int x1), .val (.int x2), .val (.int x3), .val (.int x4), .val (.int x5), .val (.int (v0_k1 x4)), .val (.int (v0_k2 x4)), .val (.int (v0_L x5)), .val (.ref b1), .val (.ref b12), .unset, .unset] [(.int (f3 (v0_L x5) (0 : Int32)))]))
      refine g_istore X14 hx #[.val (.int x0), .val (.int x1), .val (.int x2), .val (.int x3), .val (.int x4), .val (.int x5), .val (.int (v0_k1 x4)), .val (.int (v0_k2 x4)), .val (.int (v0_L x5)), .val (.ref b1), .val (.ref b12), .val (.int (f3 (v0_L x5) (0 : Int32))), .unset] 128 (hb hby at_126) rfl rfl ?_
      show Go p e below s _ _ _ (T14.setTop (mkF m 128 #[.val (.int x0), .val (.int x1), .val (.int x2), .val (.int x3), .val (.int x4), .val (.int x5), .val (.int (v0_k1 x4)), .val (.int (v0_k2 x4)), .val (.int (v0_L x5)), .val (.ref b1), .val (.ref b12), .val (.int (f3 (v0_L x5) (0 : Int32))), .unset] []))
      refine g_iload X14 hx 130 (hb hby at_128) rfl rfl ?_
      show Go p e below s _ _ _ (T14.setTop (mkF m 130 #[.val (.int x0), .val (.int x1), .val (.int x2), .val (.int x3), .val (.int x4), .val (.int x5), .val (.int (v0_k1 x4)), .val (.int (v0_k2 x4)), .val (.int (v0_L x5)), .val (.ref b1), .val (.ref b12), .val (.int (f3 (v0_L x5) (0 : Int32))), .unset] [(.int (f3 (v0_L x5) (0 : Int32)))]))
      refine g_iconst X14 hx (0 : Int32) 131 (hb hby at_130) rfl rfl ?_
      show Go p e below s _ _ _ (T14.setTop (mkF m 131 #[.val (.int x0), .val (.int x1), .val (.int x2), .val (.int x3), .val (.int x4), .val (.int x5), .val (.int (v0_k1 x4)), .val (.int (v0_k2 x4)), .val (.int (v0_L x5)), .val (.ref b1), .val (.ref b12), .val (.int (f3 (v0_L x5) (0 : Int32))), .unset] [(.int (0 : Int32)), (.int (f3 (v0_L x5) (0 : Int32)))]))
      refine g_iload X14 hx 133 (hb hby at_131) rfl rfl ?_
      show Go p e below s _ _ _ (T14.setTop (mkF m 133 #[.val (.int x0), .val (.int x1), .val (.int x2), .val (.int x3), .val (.int x4), .val (.int x5), .val (.int (v0_k1 x4)), .val (.int (v0_k2 x4)), .val (.int (v0_L x5)), .val (.ref b1), .val (.ref b12), .val (.int (f3 (v0_L x5) (0 : Int32))), .unset] [(.int (v0_L x5)), (.int (0 : Int32)), (.int (f3 (v0_L x5) (0 : Int32)))]))
      refine g_icmp_ge X14 hx 140 136 (hb hby at_133) (by decide) rfl rfl (fun h15 => ?_) (fun h15 => ?_)
      · show Go p e below s _ _ _ (T14.setTop (mkF m 136 #[.val (.int x0), .val (.int x1), .val (.int x2), .val (.int x3), .val (.int x4), .val (.int x5), .val (.int (v0_k1 x4)), .val (.int (v0_k2 x4)), .val (.int (v0_L x5)), .val (.ref b1), .val (.ref b12), .val (.int (f3 (v0_L x5) (0 : Int32))), .unset] [(.int (f3 (v0_L x5) (0 : Int32)))]))
        refine g_iconst X14 hx (1 : Int32) 137 (hb hby at_136) rfl rfl ?_
        show Go p e below s _ _ _ (T14.setTop (mkF m 137 #[.val (.int x0), .val (.int x1), .val (.int x2), .val (.int x3), .val (.int x4), .val (.int x5), .val (.int (v0_k1 x4)), .val (.int (v0_k2 x4)), .val (.int (v0_L x5)), .val (.ref b1), .val (.ref b12), .val (.int (f3 (v0_L x5) (0 : Int32))), .unset] [(.int (1 : Int32)), (.int (f3 (v0_L x5) (0 : Int32)))]))
        refine g_goto X14 hx 141 (hb hby at_137) (by decide) rfl ?_
        show Go p e below s _ _ _ (T14.setTop (mkF m 141 #[.val (.int x0), .val (.int x1), .val (.int x2), .val (.int x3), .val (.int x4), .val (.int x5), .val (.int (v0_k1 x4)), .val (.int (v0_k2 x4)), .val (.int (v0_L x5)), .val (.ref b1), .val (.ref b12), .val (.int (f3 (v0_L x5) (0 : Int32))), .unset] [(.int (1 : Int32)), (.int (f3 (v0_L x5) (0 : Int32)))]))
        have h16 : (f3 (v0_L x5) (0 : Int32)) = (1 : Int32) := own_more rfl ‹(0 : Int32) < v0_L x5›
        refine g_icmp_eq X14 hx 146 144 (hb hby at_141) (by decide) rfl rfl (fun _ => ?_) (fun q => absurd h16 q)
        show Go p e below s _ _ _ (T14.setTop (mkF m 146 #[.val (.int x0), .val (.int x1), .val (.int x2), .val (.int x3), .val (.int x4), .val (.int x5), .val (.int (v0_k1 x4)), .val (.int (v0_k2 x4)), .val (.int (v0_L x5)), .val (.ref b1), .val (.ref b12), .val (.int (f3 (v0_L x5) (0 : Int32))), .unset] []))
        refine g_aload X14 hx 148 (hb hby at_146) rfl rfl rfl ?_
        show Go p e below s _ _ _ (T14.setTop (mkF m 148 #[.val (.int x0), .val (.int x1), .val (.int x2), .val (.int x3), .val (.int x4), .val (.int x5), .val (.int (v0_k1 x4)), .val (.int (v0_k2 x4)), .val (.int (v0_L x5)), .val (.ref b1), .val (.ref b12), .val (.int (f3 (v0_L x5) (0 : Int32))), .unset] [(.ref b12)]))
        refine g_callV X14 hx hZ hown (hw _ (List.mem_of_getElem? (i := 15) rfl)) (hw _ (List.mem_of_getElem? (i := 16) rfl)) (hw _ (List.mem_of_getElem? (i := 18) rfl)) (hw _ (List.mem_of_getElem? (i := 17) rfl)) (hw _ (List.mem_of_getElem? (i := 4) rfl)) (hw _ (List.mem_of_getElem? (i := 19) rfl)) (by decide) e14 b12 k13_4 (rm3 l Z a0 hw [] b12 (v0_L x5) (0 : Int32) T13.heap p13_1 p13_2) [] [] 0 rfl (lenOf pd__28_29Z rfl) rfl (Nat.le_of_eq rfl) (by decide) (by decide) (by decide) (by decide) (by rw [hml]; rfl) (hb hby at_148) ?_
        intro T17 L17 v17 X17 q17
        obtain ⟨rfl, rfl, e17⟩ := q17
        have NS17 := Fr.app NS14 (Fr.nil n0)
        show Go p e below s _ _ _ (T17.setTop (mkF m 151 #[.val (.int x0), .val (.int x1), .val (.int x2), .val (.int x3), .val (.int x4), .val (.int x5), .val (.int (v0_k1 x4)), .val (.int (v0_k2 x4)), .val (.int (v0_L x5)), .val (.ref b1), .val (.ref b12), .val (.int (f3 (v0_L x5) (0 : Int32))), .unset] [(.int (f3 (v0_L x5) (0 : Int32)))]))
        refine g_iload X17 hx 153 (hb hby at_151) rfl rfl ?_
        show Go p e below s _ _ _ (T17.setTop (mkF m 153 #[.val (.int x0), .val (.int x1), .val (.int x2), .val (.int x3), .val (.int x4), .val (.int x5), .val (.int (v0_k1 x4)), .val (.int (v0_k2 x4)), .val (.int (v0_L x5)), .val (.ref b1), .val (.ref b12), .val (.int (f3 (v0_L x5) (0 : Int32))), .unset] [(.int (f3 (v0_L x5) (0 : Int32))), (.int (f3 (v0_L x5) (0 : Int32)))]))
        have h18 : (f3 (v0_L x5) (0 : Int32)) = (f3 (v0_L x5) (0 : Int32)) := rfl
        refine g_icmp_eq X17 hx 158 156 (hb hby at_153) (by decide) rfl rfl (fun _ => ?_) (fun q => absurd h18 q)
        show Go p e below s _ _ _ (T17.setTop (mkF m 158 #[.val (.int x0), .val (.int x1), .val (.int x2), .val (.int x3), .val (.int x4), .val (.int x5), .val (.int (v0_k1 x4)), .val (.int (v0_k2 x4)), .val (.int (v0_L x5)), .val (.ref b1), .val (.ref b12), .val (.int (f3 (v0_L x5) (0 : Int32))), .unset] []))
        refine g_iload X17 hx 160 (hb hby at_158) rfl rfl ?_
        show Go p e below s _ _ _ (T17.setTop (mkF m 160 #[.val (.int x0), .val (.int x1), .val (.int x2), .val (.int x3), .val (.int x4), .val (.int x5), .val (.int (v0_k1 x4)), .val (.int (v0_k2 x4)), .val (.int (v0_L x5)), .val (.ref b1), .val (.ref b12), .val (.int (f3 (v0_L x5) (0 : Int32))), .unset] [(.int (f3 (v0_L x5) (0 : Int32)))]))
        have h19 : ¬ ((f3 (v0_L x5) (0 : Int32)) = (0 : Int32)) := fun q => absurd ((own_more rfl ‹(0 : Int32) < v0_L x5›).symm.trans q) (by decide)
        refine g_if0_ne X17 hx 165 163 (hb hby at_160) (by decide) rfl rfl (fun q => absurd q h19) (fun _ => ?_)
        show Go p e below s _ _ _ (T17.setTop (mkF m 165 #[.val (.int x0), .val (.int x1), .val (.int x2), .val (.int x3), .val (.int x4), .val (.int x5), .val (.int (v0_k1 x4)), .val (.int (v0_k2 x4)), .val (.int (v0_L x5)), .val (.ref b1), .val (.ref b12), .val (.int (f3 (v0_L x5) (0 : Int32))), .unset] []))
        refine g_aload X17 hx 167 (hb hby at_165) rfl rfl rfl ?_
        show Go p e below s _ _ _ (T17.setTop (mkF m 167 #[.val (.int x0), .val (.int x1), .val (.int x2), .val (.int x3), .val (.int x4), .val (.int x5), .val (.int (v0_k1 x4)), .val (.int (v0_k2 x4)), .val (.int (v0_L x5)), .val (.ref b1), .val (.ref b12), .val (.int (f3 (v0_L x5) (0 : Int32))), .unset] [(.ref b12)]))
        refine g_callV X17 hx hZ hown (hw _ (List.mem_of_getElem? (i := 22) rfl)) (hw _ (List.mem_of_getElem? (i := 23) rfl)) (hw _ (List.mem_of_getElem? (i := 25) rfl)) (hw _ (List.mem_of_getElem? (i := 24) rfl)) (hw _ (List.mem_of_getElem? (i := 4) rfl)) (hw _ (List.mem_of_getElem? (i := 26) rfl)) (by decide) e17 b12 k13_4 (rm4 l Z a0 hw [] b12 b1 (v0_L x5) (0 : Int32) 4 (upd (upd (upd (upd (upd (upd (fun _ => (0 : Int32)) 0 (i2bI (i2bI (x0 &&& (127 : Int32))))) 1 (i2bI (i2bI (x1 &&& (127 : Int32))))) 2 (i2bI (i2bI (x2 &&& (127 : Int32))))) 3 (i2bI (i2bI (x3 &&& (127 : Int32))))) 0 (i2bI (i2bI (((upd (upd (upd (upd (fun _ => (0 : Int32)) 0 (i2bI (i2bI (x0 &&& (127 : Int32))))) 1 (i2bI (i2bI (x1 &&& (127 : Int32))))) 2 (i2bI (i2bI (x2 &&& (127 : Int32))))) 3 (i2bI (i2bI (x3 &&& (127 : Int32))))) 0) ||| (128 : Int32))))) 2 (i2bI (i2bI (((upd (upd (upd (upd (upd (fun _ => (0 : Int32)) 0 (i2bI (i2bI (x0 &&& (127 : Int32))))) 1 (i2bI (i2bI (x1 &&& (127 : Int32))))) 2 (i2bI (i2bI (x2 &&& (127 : Int32))))) 3 (i2bI (i2bI (x3 &&& (127 : Int32))))) 0 (i2bI (i2bI (((upd (upd (upd (upd (fun _ => (0 : Int32)) 0 (i2bI (i2bI (x0 &&& (127 : Int32))))) 1 (i2bI (i2bI (x1 &&& (127 : Int32))))) 2 (i2bI (i2bI (x2 &&& (127 : Int32))))) 3 (i2bI (i2bI (x3 &&& (127 : Int32))))) 0) ||| (128 : Int32))))) 2) ||| (128 : Int32))))) 0 1 T13.heap n0 Z13 k13_4 p13_0 p13_1 p13_2 k13_1 N_b12 (Ne.symm ne_b1_b12) (rfl : (0 : Int32).toInt = 0) (by decide : 0 + 1 < 4) (fun j hj => by have e : j = 0 := (by omega); subst e; exact own_b8 _ : ∀ j, j < 1 → (upd (upd (upd (upd (upd (upd (fun _ => (0 : Int32)) 0 (i2bI (i2bI (x0 &&& (127 : Int32))))) 1 (i2bI (i2bI (x1 &&& (127 : Int32))))) 2 (i2bI (i2bI (x2 &&& (127 : Int32))))) 3 (i2bI (i2bI (x3 &&& (127 : Int32))))) 0 (i2bI (i2bI (((upd (upd (upd (upd (fun _ => (0 : Int32)) 0 (i2bI (i2bI (x0 &&& (127 : Int32))))) 1 (i2bI (i2bI (x1 &&& (127 : Int32))))) 2 (i2bI (i2bI (x2 &&& (127 : Int32))))) 3 (i2bI (i2bI (x3 &&& (127 : Int32))))) 0) ||| (128 : Int32))))) 2 (i2bI (i2bI (((upd (upd (upd (upd (upd (fun _ => (0 : Int32)) 0 (i2bI (i2bI (x0 &&& (127 : Int32))))) 1 (i2bI (i2bI (x1 &&& (127 : Int32))))) 2 (i2bI (i2bI (x2 &&& (127 : Int32))))) 3 (i2bI (i2bI (x3 &&& (127 : Int32))))) 0 (i2bI (i2bI (((upd (upd (upd (upd (fun _ => (0 : Int32)) 0 (i2bI (i2bI (x0 &&& (127 : Int32))))) 1 (i2bI (i2bI (x1 &&& (127 : Int32))))) 2 (i2bI (i2bI (x2 &&& (127 : Int32))))) 3 (i2bI (i2bI (x3 &&& (127 : Int32))))) 0) ||| (128 : Int32))))) 2) ||| (128 : Int32))))) (0 + j) < 0) (own_b7 _ : ¬ (upd (upd (upd (upd (upd (upd (fun _ => (0 : Int32)) 0 (i2bI (i2bI (x0 &&& (127 : Int32))))) 1 (i2bI (i2bI (x1 &&& (127 : Int32))))) 2 (i2bI (i2bI (x2 &&& (127 : Int32))))) 3 (i2bI (i2bI (x3 &&& (127 : Int32))))) 0 (i2bI (i2bI (((upd (upd (upd (upd (fun _ => (0 : Int32)) 0 (i2bI (i2bI (x0 &&& (127 : Int32))))) 1 (i2bI (i2bI (x1 &&& (127 : Int32))))) 2 (i2bI (i2bI (x2 &&& (127 : Int32))))) 3 (i2bI (i2bI (x3 &&& (127 : Int32))))) 0) ||| (128 : Int32))))) 2 (i2bI (i2bI (((upd (upd (upd (upd (upd (fun _ => (0 : Int32)) 0 (i2bI (i2bI (x0 &&& (127 : Int32))))) 1 (i2bI (i2bI (x1 &&& (127 : Int32))))) 2 (i2bI (i2bI (x2 &&& (127 : Int32))))) 3 (i2bI (i2bI (x3 &&& (127 : Int32))))) 0 (i2bI (i2bI (((upd (upd (upd (upd (fun _ => (0 : Int32)) 0 (i2bI (i2bI (x0 &&& (127 : Int32))))) 1 (i2bI (i2bI (x1 &&& (127 : Int32))))) 2 (i2bI (i2bI (x2 &&& (127 : Int32))))) 3 (i2bI (i2bI (x3 &&& (127 : Int32))))) 0) ||| (128 : Int32))))) 2) ||| (128 : Int32))))) (0 + 1) < 0)) [] [] 0 rfl (lenOf pd__28_29I rfl) rfl (Nat.le_of_eq rfl) (by decide) (by decide) (by decide) (by decide) (by rw [hml]; rfl) (hb hby at_167) ?_
        intro T20 L20 v20 X20 q20
        obtain ⟨rfl, N20, K20, p20_0, p20_1, p20_2⟩ := q20
        have NN20 := Fr.app NS17 N20
        have k20_1 := k13_1.keep K20 (nm1 ne_b1_b12 nm0)
        have k20_4 := k13_4.keep K20
        have Z20 : n0 ≤ T20.heap.size := Nat.le_trans Z13 K20.1
        show Go p e below s _ _ _ (T20.setTop (mkF m 170 #[.val (.int x0), .val (.int x1), .val (.int x2), .val (.int x3), .val (.int x4), .val (.int x5), .val (.int (v0_k1 x4)), .val (.int (v0_k2 x4)), .val (.int (v0_L x5)), .val (.ref b1), .val (.ref b12), .val (.int (f3 (v0_L x5) (0 : Int32))), .unset] [(.int (own_rd (upd (upd (upd (upd (upd (upd (fun _ => (0 : Int32)) 0 (i2bI (i2bI (x0 &&& (127 : Int32))))) 1 (i2bI (i2bI (x1 &&& (127 : Int32))))) 2 (i2bI (i2bI (x2 &&& (127 : Int32))))) 3 (i2bI (i2bI (x3 &&& (127 : Int32))))) 0 (i2bI (i2bI (((upd (upd (upd (upd (fun _ => (0 : Int32)) 0 (i2bI (i2bI (x0 &&& (127 : Int32))))) 1 (i2bI (i2bI (x1 &&& (127 : Int32))))) 2 (i2bI (i2bI (x2 &&& (127 : Int32))))) 3 (i2bI (i2bI (x3 &&& (127 : Int32))))) 0) ||| (128 : Int32))))) 2 (i2bI (i2bI (((upd (upd (upd (upd (upd (fun _ => (0 : Int32)) 0 (i2bI (i2bI (x0 &&& (127 : Int32))))) 1 (i2bI (i2bI (x1 &&& (127 : Int32))))) 2 (i2bI (i2bI (x2 &&& (127 : Int32))))) 3 (i2bI (i2bI (x3 &&& (127 : Int32))))) 0 (i2bI (i2bI (((upd (upd (upd (upd (fun _ => (0 : Int32)) 0 (i2bI (i2bI (x0 &&& (127 : Int32))))) 1 (i2bI (i2bI (x1 &&& (127 : Int32))))) 2 (i2bI (i2bI (x2 &&& (127 : Int32))))) 3 (i2bI (i2bI (x3 &&& (127 : Int32))))) 0) ||| (128 : Int32))))) 2) ||| (128 : Int32))))) 1 0 0 0))]))
        refine g_pop X20 hx 171 (hb hby at_170) rfl rfl ?_
        show Go p e below s _ _ _ (T20.setTop (mkF m 171 #[.val (.int x0), .val (.int x1), .val (.int x2), .val (.int x3), .val (.int x4), .val (.int x5), .val (.int (v0_k1 x4)), .val (.int (v0_k2 x4)), .val (.int (v0_L x5)), .val (.ref b1), .val (.ref b12), .val (.int (f3 (v0_L x5) (0 : Int32))), .unset] []))
        refine g_aload X20 hx 173 (hb hby at_171) rfl rfl rfl ?_
        show Go p e below s _ _ _ (T20.setTop (mkF m 173 #[.val (.int x0), .val (.int x1), .val (.int x2), .val (.int x3), .val (.int x4), .val (.int x5), .val (.int (v0_k1 x4)), .val (.int (v0_k2 x4)), .val (.int (v0_L x5)), .val (.ref b1), .val (.ref b12), .val (.int (f3 (v0_L x5) (0 : Int32))), .unset] [(.ref b12)]))
        refine g_callV X20 hx hZ hown (hw _ (List.mem_of_getElem? (i := 15) rfl)) (hw _ (List.mem_of_getElem? (i := 16) rfl)) (hw _ (List.mem_of_getElem? (i := 18) rfl)) (hw _ (List.mem_of_getElem? (i := 17) rfl)) (hw _ (List.mem_of_getElem? (i := 4) rfl)) (hw _ (List.mem_of_getElem? (i := 19) rfl)) (by decide) rfl b12 k20_4 (rm3 l Z a0 hw [] b12 (v0_L x5) (Int32.ofNat (0 + 1 + 1)) T20.heap p20_1 p20_2) [] [] 0 rfl (lenOf pd__28_29Z rfl) rfl (Nat.le_of_eq rfl) (by decide) (by decide) (by decide) (by decide) (by rw [hml]; rfl) (hb hby at_173) ?_
        intro T21 L21 v21 X21 q21
        obtain ⟨rfl, rfl, e21⟩ := q21
        have NS21 := Fr.app NN20 (Fr.nil n0)
        show Go p e below s _ _ _ (T21.setTop (mkF m 176 #[.val (.int x0), .val (.int x1), .val (.int x2), .val (.int x3), .val (.int x4), .val (.int x5), .val (.int (v0_k1 x4)), .val (.int (v0_k2 x4)), .val (.int (v0_L x5)), .val (.ref b1), .val (.ref b12), .val (.int (f3 (v0_L x5) (0 : Int32))), .unset] [(.int (f3 (v0_L x5) (Int32.ofNat (0 + 1 + 1))))]))
        refine g_istore X21 hx #[.val (.int x0), .val (.int x1), .val (.int x2), .val (.int x3), .val (.int x4), .val (.int x5), .val (.int (v0_k1 x4)), .val (.int (v0_k2 x4)), .val (.int (v0_L x5)), .val (.ref b1), .val (.ref b12), .val (.int (f3 (v0_L x5) (0 : Int32))), .val (.int (f3 (v0_L x5) (Int32.ofNat (0 + 1 + 1))))] 178 (hb hby at_176) rfl rfl ?_
        show Go p e below s _ _ _ (T21.setTop (mkF m 178 #[.val (.int x0), .val (.int x1), .val (.int x2), .val (.int x3), .val (.int x4), .val (.int x5), .val (.int (v0_k1 x4)), .val (.int (v0_k2 x4)), .val (.int (v0_L x5)), .val (.ref b1), .val (.ref b12), .val (.int (f3 (v0_L x5) (0 : Int32))), .val (.int (f3 (v0_L x5) (Int32.ofNat (0 + 1 + 1))))] []))
        refine g_iload X21 hx 180 (hb hby at_178) rfl rfl ?_
        show Go p e below s _ _ _ (T21.setTop (mkF m 180 #[.val (.int x0), .val (.int x1), .val (.int x2), .val (.int x3), .val (.int x4), .val (.int x5), .val (.int (v0_k1 x4)), .val (.int (v0_k2 x4)), .val (.int (v0_L x5)), .val (.ref b1), .val (.ref b12), .val (.int (f3 (v0_L x5) (0 : Int32))), .val (.int (f3 (v0_L x5) (Int32.ofNat (0 + 1 + 1))))] [(.int (f3 (v0_L x5) (Int32.ofNat (0 + 1 + 1))))]))
        refine g_iload X21 hx 182 (hb hby at_180) rfl rfl ?_
        show Go p e below s _ _ _ (T21.setTop (mkF m 182 #[.val (.int x0), .val (.int x1), .val (.int x2), .val (.int x3), .val (.int x4), .val (.int x5), .val (.int (v0_k1 x4)), .val (.int (v0_k2 x4)), .val (.int (v0_L x5)), .val (.ref b1), .val (.ref b12), .val (.int (f3 (v0_L x5) (0 : Int32))), .val (.int (f3 (v0_L x5) (Int32.ofNat (0 + 1 + 1))))] [(.int (v0_k1 x4)), (.int (f3 (v0_L x5) (Int32.ofNat (0 + 1 + 1))))]))
        refine g_iload X21 hx 184 (hb hby at_182) rfl rfl ?_
        show Go p e below s _ _ _ (T21.setTop (mkF m 184 #[.val (.int x0), .val (.int x1), .val (.int x2), .val (.int x3), .val (.int x4), .val (.int x5), .val (.int (v0_k1 x4)), .val (.int (v0_k2 x4)), .val (.int (v0_L x5)), .val (.ref b1), .val (.ref b12), .val (.int (f3 (v0_L x5) (0 : Int32))), .val (.int (f3 (v0_L x5) (Int32.ofNat (0 + 1 + 1))))] [(.int (v0_L x5)), (.int (v0_k1 x4)), (.int (f3 (v0_L x5) (Int32.ofNat (0 + 1 + 1))))]))
        refine g_icmp_ge X21 hx 191 187 (hb hby at_184) (by decide) rfl rfl (fun h22 => ?_) (fun h22 => ?_)
        · show Go p e below s _ _ _ (T21.setTop (mkF m 187 #[.val (.int x0), .val (.int x1), .val (.int x2), .val (.int x3), .val (.int x4), .val (.int x5), .val (.int (v0_k1 x4)), .val (.int (v0_k2 x4)), .val (.int (v0_L x5)), .val (.ref b1), .val (.ref b12), .val (.int (f3 (v0_L x5) (0 : Int32))), .val (.int (f3 (v0_L x5) (Int32.ofNat (0 + 1 + 1))))] [(.int (f3 (v0_L x5) (Int32.ofNat (0 + 1 + 1))))]))
          refine g_iconst X21 hx (1 : Int32) 188 (hb hby at_187) rfl rfl ?_
          show Go p e below s _ _ _ (T21.setTop (mkF m 188 #[.val (.int x0), .val (.int x1), .val (.int x2), .val (.int x3), .val (.int x4), .val (.int x5), .val (.int (v0_k1 x4)), .val (.int (v0_k2 x4)), .val (.int (v0_L x5)), .val (.ref b1), .val (.ref b12), .val (.int (f3 (v0_L x5) (0 : Int32))), .val (.int (f3 (v0_L x5) (Int32.ofNat (0 + 1 + 1))))] [(.int (1 : Int32)), (.int (f3 (v0_L x5) (Int32.ofNat (0 + 1 + 1))))]))
          refine g_goto X21 hx 192 (hb hby at_188) (by decide) rfl ?_
          show Go p e below s _ _ _ (T21.setTop (mkF m 192 #[.val (.int x0), .val (.int x1), .val (.int x2), .val (.int x3), .val (.int x4), .val (.int x5), .val (.int (v0_k1 x4)), .val (.int (v0_k2 x4)), .val (.int (v0_L x5)), .val (.ref b1), .val (.ref b12), .val (.int (f3 (v0_L x5) (0 : Int32))), .val (.int (f3 (v0_L x5) (Int32.ofNat (0 + 1 + 1))))] [(.int (1 : Int32)), (.int (f3 (v0_L x5) (Int32.ofNat (0 + 1 + 1))))]))
          have h23 : (f3 (v0_L x5) (Int32.ofNat (0 + 1 + 1))) = (1 : Int32) := own_more (by rw [‹v0_k1 x4 = (2 : Int32)›]; rfl) ‹v0_k1 x4 < v0_L x5›
          refine g_icmp_eq X21 hx 197 195 (hb hby at_192) (by decide) rfl rfl (fun _ => ?_) (fun q => absurd h23 q)
          show Go p e below s _ _ _ (T21.setTop (mkF m 197 #[.val (.int x0), .val (.int x1), .val (.int x2), .val (.int x3), .val (.int x4), .val (.int x5), .val (.int (v0_k1 x4)), .val (.int (v0_k2 x4)), .val (.int (v0_L x5)), .val (.ref b1), .val (.ref b12), .val (.int (f3 (v0_L x5) (0 : Int32))), .val (.int (f3 (v0_L x5) (Int32.ofNat (0 + 1 + 1))))] []))
          refine g_iload X21 hx 199 (hb hby at_197) rfl rfl ?_
          show Go p e below s _ _ _ (T21.setTop (mkF m 199 #[.val (.int x0), .val (.int x1), .val (.int x2), .val (.int x3), .val (.int x4), .val (.int x5), .val (.int (v0_k1 x4)), .val (.int (v0_k2 x4)), .val (.int (v0_L x5)), .val (.ref b1), .val (.ref b12), .val (.int (f3 (v0_L x5) (0 : Int32))), .val (.int (f3 (v0_L x5) (Int32.ofNat (0 + 1 + 1))))] [(.int (f3 (v0_L x5) (Int32.ofNat (0 + 1 + 1))))]))
          have h24 : ¬ ((f3 (v0_L x5) (Int32.ofNat (0 + 1 + 1))) = (0 : Int32)) := fun q => absurd ((own_more (by rw [‹v0_k1 x4 = (2 : Int32)›]; rfl) ‹v0_k1 x4 < v0_L x5›).symm.trans q) (by decide)
          refine g_if0_ne X21 hx 204 202 (hb hby at_199) (by decide) rfl rfl (fun q => absurd q h24) (fun _ => ?_)
          show Go p e below s _ _ _ (T21.setTop (mkF m 204 #[.val (.int x0), .val (.int x1), .val (.int x2), .val (.int x3), .val (.int x4), .val (.int x5), .val (.int (v0_k1 x4)), .val (.int (v0_k2 x4)), .val (.int (v0_L x5)), .val (.ref b1), .val (.ref b12), .val (.int (f3 (v0_L x5) (0 : Int32))), .val (.int (f3 (v0_L x5) (Int32.ofNat (0 + 1 + 1))))] []))
          refine g_aload X21 hx 206 (hb hby at_204) rfl rfl rfl ?_
          show Go p e below s _ _ _ (T21.setTop (mkF m 206 #[.val (.int x0), .val (.int x1), .val (.int x2), .val (.int x3), .val (.int x4), .val (.int x5), .val (.int (v0_k1 x4)), .val (.int (v0_k2 x4)), .val (.int (v0_L x5)), .val (.ref b1), .val (.ref b12), .val (.int (f3 (v0_L x5) (0 : Int32))), .val (.int (f3 (v0_L x5) (Int32.ofNat (0 + 1 + 1))))] [(.ref b12)]))
          refine g_callV X21 hx hZ hown (hw _ (List.mem_of_getElem? (i := 22) rfl)) (hw _ (List.mem_of_getElem? (i := 23) rfl)) (hw _ (List.mem_of_getElem? (i := 25) rfl)) (hw _ (List.mem_of_getElem? (i := 24) rfl)) (hw _ (List.mem_of_getElem? (i := 4) rfl)) (hw _ (List.mem_of_getElem? (i := 26) rfl)) (by decide) e21 b12 k20_4 (rm4 l Z a0 hw [] b12 b1 (v0_L x5) (Int32.ofNat (0 + 1 + 1)) 4 (upd (upd (upd (upd (upd (upd (fun _ => (0 : Int32)) 0 (i2bI (i2bI (x0 &&& (127 : Int32))))) 1 (i2bI (i2bI (x1 &&& (127 : Int32))))) 2 (i2bI (i2bI (x2 &&& (127 : Int32))))) 3 (i2bI (i2bI (x3 &&& (127 : Int32))))) 0 (i2bI (i2bI (((upd (upd (upd (upd (fun _ => (0 : Int32)) 0 (i2bI (i2bI (x0 &&& (127 : Int32))))) 1 (i2bI (i2bI (x1 &&& (127 : Int32))))) 2 (i2bI (i2bI (x2 &&& (127 : Int32))))) 3 (i2bI (i2bI (x3 &&& (127 : Int32))))) 0) ||| (128 : Int32))))) 2 (i2bI (i2bI (((upd (upd (upd (upd (upd (fun _ => (0 : Int32)) 0 (i2bI (i2bI (x0 &&& (127 : Int32))))) 1 (i2bI (i2bI (x1 &&& (127 : Int32))))) 2 (i2bI (i2bI (x2 &&& (127 : Int32))))) 3 (i2bI (i2bI (x3 &&& (127 : Int32))))) 0 (i2bI (i2bI (((upd (upd (upd (upd (fun _ => (0 : Int32)) 0 (i2bI (i2bI (x0 &&& (127 : Int32))))) 1 (i2bI (i2bI (x1 &&& (127 : Int32))))) 2 (i2bI (i2bI (x2 &&& (127 : Int32))))) 3 (i2bI (i2bI (x3 &&& (127 : Int32))))) 0) ||| (128 : Int32))))) 2) ||| (128 : Int32))))) 2 1 T20.heap n0 Z20 k20_4 p20_0 p20_1 p20_2 k20_1 N_b12 (Ne.symm ne_b1_b12) (rfl : (Int32.ofNat (0 + 1 + 1)).toInt = 2) (by decide : 2 + 1 < 4) (fun j hj => by have e : j = 0 := (by omega); subst e; exact own_b8 _ : ∀ j, j < 1 → (upd (upd (upd (upd (upd (upd (fun _ => (0 : Int32)) 0 (i2bI (i2bI (x0 &&& (127 : Int32))))) 1 (i2bI (i2bI (x1 &&& (127 : Int32))))) 2 (i2bI (i2bI (x2 &&& (127 : Int32))))) 3 (i2bI (i2bI (x3 &&& (127 : Int32))))) 0 (i2bI (i2bI (((upd (upd (upd (upd (fun _ => (0 : Int32)) 0 (i2bI (i2bI (x0 &&& (127 : Int32))))) 1 (i2bI (i2bI (x1 &&& (127 : Int32))))) 2 (i2bI (i2bI (x2 &&& (127 : Int32))))) 3 (i2bI (i2bI (x3 &&& (127 : Int32))))) 0) ||| (128 : Int32))))) 2 (i2bI (i2bI (((upd (upd (upd (upd (upd (fun _ => (0 : Int32)) 0 (i2bI (i2bI (x0 &&& (127 : Int32))))) 1 (i2bI (i2bI (x1 &&& (127 : Int32))))) 2 (i2bI (i2bI (x2 &&& (127 : Int32))))) 3 (i2bI (i2bI (x3 &&& (127 : Int32))))) 0 (i2bI (i2bI (((upd (upd (upd (upd (fun _ => (0 : Int32)) 0 (i2bI (i2bI (x0 &&& (127 : Int32))))) 1 (i2bI (i2bI (x1 &&& (127 : Int32))))) 2 (i2bI (i2bI (x2 &&& (127 : Int32))))) 3 (i2bI (i2bI (x3 &&& (127 : Int32))))) 0) ||| (128 : Int32))))) 2) ||| (128 : Int32))))) (2 + j) < 0) (own_b7 _ : ¬ (upd (upd (upd (upd (upd (upd (fun _ => (0 : Int32)) 0 (i2bI (i2bI (x0 &&& (127 : Int32))))) 1 (i2bI (i2bI (x1 &&& (127 : Int32))))) 2 (i2bI (i2bI (x2 &&& (127 : Int32))))) 3 (i2bI (i2bI (x3 &&& (127 : Int32))))) 0 (i2bI (i2bI (((upd (upd (upd (upd (fun _ => (0 : Int32)) 0 (i2bI (i2bI (x0 &&& (127 : Int32))))) 1 (i2bI (i2bI (x1 &&& (127 : Int32))))) 2 (i2bI (i2bI (x2 &&& (127 : Int32))))) 3 (i2bI (i2bI (x3 &&& (127 : Int32))))) 0) ||| (128 : Int32))))) 2 (i2bI (i2bI (((upd (upd (upd (upd (upd (fun _ => (0 : Int32)) 0 (i2bI (i2bI (x0 &&& (127 : Int32))))) 1 (i2bI (i2bI (x1 &&& (127 : Int32))))) 2 (i2bI (i2bI (x2 &&& (127 : Int32))))) 3 (i2bI (i2bI (x3 &&& (127 : Int32))))) 0 (i2bI (i2bI (((upd (upd (upd (upd (fun _ => (0 : Int32)) 0 (i2bI (i2bI (x0 &&& (127 : Int32))))) 1 (i2bI (i2bI (x1 &&& (127 : Int32))))) 2 (i2bI (i2bI (x2 &&& (127 : Int32))))) 3 (i2bI (i2bI (x3 &&& (127 : Int32))))) 0) ||| (128 : Int32))))) 2) ||| (128 : Int32))))) (2 + 1) < 0)) [] [] 0 rfl (lenOf pd__28_29I rfl) rfl (Nat.le_of_eq rfl) (by decide) (by decide) (by decide) (by decide) (by rw [hml]; rfl) (hb hby at_206) ?_
          intro T25 L25 v25 X25 q25
          obtain ⟨rfl, N25, K25, p25_0, p25_1, p25_2⟩ := q25
          have NN25 := Fr.app NS21 N25
          have k25_1 := k20_1.keep K25 (nm1 ne_b1_b12 nm0)
          have k25_4 := k20_4.keep K25
          have Z25 : n0 ≤ T25.heap.size := Nat.le_trans Z20 K25.1
          show Go p e below s _ _ _ (T25.setTop (mkF m 209 #[.val (.int x0), .val (.int x1), .val (.int x2), .val (.int x3), .val (.int x4), .val (.int x5), .val (.int (v0_k1 x4)), .val (.int (v0_k2 x4)), .val (.int (v0_L x5)), .val (.ref b1), .val (.ref b12), .val (.int (f3 (v0_L x5) (0 : Int32))), .val (.int (f3 (v0_L x5) (Int32.ofNat (0 + 1 + 1))))] [(.int (own_rd (upd (upd (upd (upd (upd (upd (fun _ => (0 : Int32)) 0 (i2bI (i2bI (x0 &&& (127 : Int32))))) 1 (i2bI (i2bI (x1 &&& (127 : Int32))))) 2 (i2bI (i2bI (x2 &&& (127 : Int32))))) 3 (i2bI (i2bI (x3 &&& (127 : Int32))))) 0 (i2bI (i2bI (((upd (upd (upd (upd (fun _ => (0 : Int32)) 0 (i2bI (i2bI (x0 &&& (127 : Int32))))) 1 (i2bI (i2bI (x1 &&& (127 : Int32))))) 2 (i2bI (i2bI (x2 &&& (127 : Int32))))) 3 (i2bI (i2bI (x3 &&& (127 : Int32))))) 0) ||| (128 : Int32))))) 2 (i2bI (i2bI (((upd (upd (upd (upd (upd (fun _ => (0 : Int32)) 0 (i2bI (i2bI (x0 &&& (127 : Int32))))) 1 (i2bI (i2bI (x1 &&& (127 : Int32))))) 2 (i2bI (i2bI (x2 &&& (127 : Int32))))) 3 (i2bI (i2bI (x3 &&& (127 : Int32))))) 0 (i2bI (i2bI (((upd (upd (upd (upd (fun _ => (0 : Int32)) 0 (i2bI (i2bI (x0 &&& (127 : Int32))))) 1 (i2bI (i2bI (x1 &&& (127 : Int32))))) 2 (i2bI (i2bI (x2 &&& (127 : Int32))))) 3 (i2bI (i2bI (x3 &&& (127 : Int32))))) 0) ||| (128 : Int32))))) 2) ||| (128 : Int32))))) 1 2 0 0))]))
          refine g_pop X25 hx 210 (hb hby at_209) rfl rfl ?_
          show Go p e below s _ _ _ (T25.setTop (mkF m 210 #[.val (.int x0), .val (.int x1), .val (.int x2), .val (.int x3), .val (.int x4), .val (.int x5), .val (.int (v0_k1 x4)), .val (.int (v0_k2 x4)), .val (.int (v0_L x5)), .val (.ref b1), .val (.ref b12), .val (.int (f3 (v0_L x5) (0 : Int32))), .val (.int (f3 (v0_L x5) (Int32.ofNat (0 + 1 + 1))))] []))
          refine g_aload X25 hx 212 (hb hby at_210) rfl rfl rfl ?_
          show Go p e below s _ _ _ (T25.setTop (mkF m 212 #[.val (.int x0), .val (.int x1), .val (.int x2), .val (.int x3), .val (.int x4), .val (.int x5), .val (.int (v0_k1 x4)), .val (.int (v0_k2 x4)), .val (.int (v0_L x5)), .val (.ref b1), .val (.ref b12), .val (.int (f3 (v0_L x5) (0 : Int32))), .val (.int (f3 (v0_L x5) (Int32.ofNat (0 + 1 + 1))))] [(.ref b12)]))
          refine g_callV X25 hx hZ hown (hw _ (List.mem_of_getElem? (i := 15) rfl)) (hw _ (List.mem_of_getElem? (i := 16) rfl)) (hw _ (List.mem_of_getElem? (i := 18) rfl)) (hw _ (List.mem_of_getElem? (i := 17) rfl)) (hw _ (List.mem_of_getElem? (i := 4) rfl)) (hw _ (List.mem_of_getElem? (i := 19) rfl)) (by decide) rfl b12 k25_4 (rm3 l Z a0 hw [] b12 (v0_L x5) (Int32.ofNat (2 + 1 + 1)) T25.heap p25_1 p25_2) [] [] 0 rfl (lenOf pd__28_29Z rfl) rfl (Nat.le_of_eq rfl) (by decide) (by decide) (by decide) (by decide) (by rw [hml]; rfl) (hb hby at_212) ?_
          intro T26 L26 v26 X26 q26
          obtain ⟨rfl, rfl, e26⟩ := q26
          have NS26 := Fr.app NN25 (Fr.nil n0)
          show Go p e below s _ _ _ (T26.setTop (mkF m 215 #[.val (.int x0), .val (.int x1), .val (.int x2), .val (.int x3), .val (.int x4), .val (.int x5), .val (.int (v0_k1 x4)), .val (.int (v0_k2 x4)), .val (.int (v0_L x5)), .val (.ref b1), .val (.ref b12), .val (.int (f3 (v0_L x5) (0 : Int32))), .val (.int (f3 (v0_L x5) (Int32.ofNat (0 + 1 + 1))))] [(.int (f3 (v0_L x5) (Int32.ofNat (2 + 1 + 1))))]))
          refine g_iload X26 hx 217 (hb hby at_215) rfl rfl ?_
          show Go p e below s _ _ _ (T26.setTop (mkF m 217 #[.val (.int x0), .val (.int x1), .val (.int x2), .val (.int x3), .val (.int x4), .val (.int x5), .val (.int (v0_k1 x4)), .val (.int (v0_k2 x4)), .val (.int (v0_L x5)), .val (.ref b1), .val (.ref b12), .val (.int (f3 (v0_L x5) (0 : Int32))), .val (.int (f3 (v0_L x5) (Int32.ofNat (0 + 1 + 1))))] [(.int (v0_k1 x4)), (.int (f3 (v0_L x5) (Int32.ofNat (2 + 1 + 1))))]))
          refine g_iload X26 hx 219 (hb hby at_217) rfl rfl ?_
          show Go p e below s _ _ _ (T26.setTop (mkF m 219 #[.val (.int x0), .val (.int x1), .val (.int x2), .val (.int x3), .val (.int x4), .val (.int x5), .val (.int (v0_k1 x4)), .val (.int (v0_k2 x4)), .val (.int (v0_L x5)), .val (.ref b1), .val (.ref b12), .val (.int (f3 (v0_L x5) (0 : Int32))), .val (.int (f3 (v0_L x5) (Int32.ofNat (0 + 1 + 1))))] [(.int (v0_k2 x4)), (.int (v0_k1 x4)), (.int (f3 (v0_L x5) (Int32.ofNat (2 + 1 + 1))))]))
          refine g_iadd X26 hx 220 (hb hby at_219) rfl ?_
          show Go p e below s _ _ _ (T26.setTop (mkF m 220 #[.val (.int x0), .val (.int x1), .val (.int x2), .val (.int x3), .val (.int x4), .val (.int x5), .val (.int (v0_k1 x4)), .val (.int (v0_k2 x4)), .val (.int (v0_L x5)), .val (.ref b1), .val (.ref b12), .val (.int (f3 (v0_L x5) (0 : Int32))), .val (.int (f3 (v0_L x5) (Int32.ofNat (0 + 1 + 1))))] [(.int ((v0_k1 x4) + (v0_k2 x4))), (.int (f3 (v0_L x5) (Int32.ofNat (2 + 1 + 1))))]))
          refine g_iload X26 hx 222 (hb hby at_220) rfl rfl ?_
          show Go p e below s _ _ _ (T26.setTop (mkF m 222 #[.val (.int x0), .val (.int x1), .val (.int x2), .val (.int x3), .val (.int x4), .val (.int x5), .val (.int (v0_k1 x4)), .val (.int (v0_k2 x4)), .val (.int (v0_L x5)), .val (.ref b1), .val (.ref b12), .val (.int (f3 (v0_L x5) (0 : Int32))), .val (.int (f3 (v0_L x5) (Int32.ofNat (0 + 1 + 1))))] [(.int (v0_L x5)), (.int ((v0_k1 x4) + (v0_k2 x4))), (.int (f3 (v0_L x5) (Int32.ofNat (2 + 1 + 1))))]))
          refine g_icmp_ge X26 hx 229 225 (hb hby at_222) (by decide) rfl rfl (fun h27 => ?_) (fun h27 => ?_)
          · show Go p e below s _ _ _ (T26.setTop (mkF m 225 #[.val (.int x0), .val (.int x1), .val (.int x2), .val (.int x3), .val (.int x4), .val (.int x5), .val (.int (v0_k1 x4)), .val (.int (v0_k2 x4)), .val (.int (v0_L x5)), .val (.ref b1), .val (.ref b12), .val (.int (f3 (v0_L x5) (0 : Int32))), .val (.int (f3 (v0_L x5) (Int32.ofNat (0 + 1 + 1))))] [(.int (f3 (v0_L x5) (Int32.ofNat (2 + 1 + 1))))]))
            refine g_iconst X26 hx (1 : Int32) 226 (hb hby at_225) rfl rfl ?_
            show Go p e below s _ _ _ (T26.setTop (mkF m 226 #[.val (.int x0), .val (.int x1), .val (.int x2), .val (.int x3), .val (.int x4), .val (.int x5), .val (.int (v0_k1 x4)), .val (.int (v0_k2 x4)), .val (.int (v0_L x5)), .val (.ref b1), .val (.ref b12), .val (.int (f3 (v0_L x5) (0 : Int32))), .val (.int (f3 (v0_L x5) (Int32.ofNat (0 + 1 + 1))))] [(.int (1 : Int32)), (.int (f3 (v0_L x5) (Int32.ofNat (2 + 1 + 1))))]))
            refine g_goto X26 hx 230 (hb hby at_226) (by decide) rfl ?_
            show Go p e below s _ _ _ (T26.setTop (mkF m 230 #[.val (.int x0), .val (.int x1), .val (.int x2), .val (.int x3), .val (.int x4), .val (.int x5), .val (.int (v0_k1 x4)), .val (.int (v0_k2 x4)), .val (.int (v0_L x5)), .val (.ref b1), .val (.ref b12), .val (.int (f3 (v0_L x5) (0 : Int32))), .val (.int (f3 (v0_L x5) (Int32.ofNat (0 + 1 + 1))))] [(.int (1 : Int32)), (.int (f3 (v0_L x5) (Int32.ofNat (2 + 1 + 1))))]))
            have h28 : (f3 (v0_L x5) (Int32.ofNat (2 + 1 + 1))) = (1 : Int32) := own_more (by rw [‹v0_k1 x4 = (2 : Int32)›, ‹v0_k2 x4 = (2 : Int32)›]; rfl) ‹v0_k1 x4 + v0_k2 x4 < v0_L x5›
            refine g_icmp_ne X26 hx 237 233 (hb hby at_230) (by decide) rfl rfl (fun _ => ?_) (fun q => absurd h28 q)
            show Go p e below s _ _ _ (T26.setTop (mkF m 233 #[.val (.int x0), .val (.int x1), .val (.int x2), .val (.int x3), .val (.int x4), .val (.int x5), .val (.int (v0_k1 x4)), .val (.int (v0_k2 x4)), .val (.int (v0_L x5)), .val (.ref b1), .val (.ref b12), .val (.int (f3 (v0_L x5) (0 : Int32))), .val (.int (f3 (v0_L x5) (Int32.ofNat (0 + 1 + 1))))] []))
            refine g_iconst X26 hx (1 : Int32) 234 (hb hby at_233) rfl rfl ?_
            show Go p e below s _ _ _ (T26.setTop (mkF m 234 #[.val (.int x0), .val (.int x1), .val (.int x2), .val (.int x3), .val (.int x4), .val (.int x5), .val (.int (v0_k1 x4)), .val (.int (v0_k2 x4)), .val (.int (v0_L x5)), .val (.ref b1), .val (.ref b12), .val (.int (f3 (v0_L x5) (0 : Int32))), .val (.int (f3 (v0_L x5) (Int32.ofNat (0 + 1 + 1))))] [(.int (1 : Int32))]))
            refine g_goto X26 hx 238 (hb hby at_234) (by decide) rfl ?_
            show Go p e below s _ _ _ (T26.setTop (mkF m 238 #[.val (.int x0), .val (.int x1), .val (.int x2), .val (.int x3), .val (.int x4), .val (.int x5), .val (.int (v0_k1 x4)), .val (.int (v0_k2 x4)), .val (.int (v0_L x5)), .val (.ref b1), .val (.ref b12), .val (.int (f3 (v0_L x5) (0 : Int32))), .val (.int (f3 (v0_L x5) (Int32.ofNat (0 + 1 + 1))))] [(.int (1 : Int32))]))
            exact g_retN X26 hx hret (by simp) hlk (hb hby at_238) (by decide) (by decide) ⟨rfl, NS26⟩
          · show Go p e below s _ _ _ (T26.setTop (mkF m 229 #[.val (.int x0), .val (.int x1), .val (.int x2), .val (.int x3), .val (.int x4), .val (.int x5), .val (.int (v0_k1 x4)), .val (.int (v0_k2 x4)), .val (.int (v0_L x5)), .val (.ref b1), .val (.ref b12), .val (.int (f3 (v0_L x5) (0 : Int32))), .val (.int (f3 (v0_L x5) (Int32.ofNat (0 + 1 + 1))))] [(.int (f3 (v0_L x5) (Int32.ofNat (2 + 1 + 1))))]))
            refine g_iconst X26 hx (0 : Int32) 230 (hb hby at_229) rfl rfl ?_
            show Go p e below s _ _ _ (T26.setTop (mkF m 230 #[.val (.int x0), .val (.int x1), .val (.int x2), .val (.int x3), .val (.int x4), .val (.int x5), .val (.int (v0_k1 x4)), .val (.int (v0_k2 x4)), .val (.int (v0_L x5)), .val (.ref b1), .val (.ref b12), .val (.int (f3 (v0_L x5) (0 : Int32))), .val (.int (f3 (v0_L x5) (Int32.ofNat (0 + 1 + 1))))] [(.int (0 : Int32)), (.int (f3 (v0_L x5) (Int32.ofNat (2 + 1 + 1))))]))
            have h29 : (f3 (v0_L x5) (Int32.ofNat (2 + 1 + 1))) = (0 : Int32) := own_less (by rw [‹v0_k1 x4 = (2 : Int32)›, ‹v0_k2 x4 = (2 : Int32)›]; rfl) ‹¬ v0_k1 x4 + v0_k2 x4 < v0_L x5›
            refine g_icmp_ne X26 hx 237 233 (hb hby at_230) (by decide) rfl rfl (fun _ => ?_) (fun q => absurd h29 q)
            show Go p e below s _ _ _ (T26.setTop (mkF m 233 #[.val (.int x0), .val (.int x1), .val (.int x2), .val (.int x3), .val (.int x4), .val (.int x5), .val (.int (v0_k1 x4)), .val (.int (v0_k2 x4)), .val (.int (v0_L x5)), .val (.ref b1), .val (.ref b12), .val (.int (f3 (v0_L x5) (0 : Int32))), .val (.int (f3 (v0_L x5) (Int32.ofNat (0 + 1 + 1))))] []))
            refine g_iconst X26 hx (1 : Int32) 234 (hb hby at_233) rfl rfl ?_
            show Go p e below s _ _ _ (T26.setTop (mkF m 234 #[.val (.int x0), .val (.int x1), .val (.int x2), .val (.int x3), .val (.int x4), .val (.int x5), .val (.int (v0_k1 x4)), .val (.int (v0_k2 x4)), .val (.int (v0_L x5)), .val (.ref b1), .val (.ref b12), .val (.int (f3 (v0_L x5) (0 : Int32))), .val (.int (f3 (v0_L x5) (Int32.ofNat (0 + 1 + 1))))] [(.int (1 : Int32))]))
            refine g_goto X26 hx 238 (hb hby at_234) (by decide) rfl ?_
            show Go p e below s _ _ _ (T26.setTop (mkF m 238 #[.val (.int x0), .val (.int x1), .val (.int x2), .val (.int x3), .val (.int x4), .val (.int x5), .val (.int (v0_k1 x4)), .val (.int (v0_k2 x4)), .val (.int (v0_L x5)), .val (.ref b1), .val (.ref b12), .val (.int (f3 (v0_L x5) (0 : Int32))), .val (.int (f3 (v0_L x5) (Int32.ofNat (0 + 1 + 1))))] [(.int (1 : Int32))]))
            exact g_retN X26 hx hret (by simp) hlk (hb hby at_238) (by decide) (by decide) ⟨rfl, NS26⟩
        · show Go p e below s _ _ _ (T21.setTop (mkF m 191 #[.val (.int x0), .val (.int x1), .val (.int x2), .val (.int x3), .val (.int x4), .val (.int x5), .val (.int (v0_k1 x4)), .val (.int (v0_k2 x4)), .val (.int (v0_L x5)), .val (.ref b1), .val (.ref b12), .val (.int (f3 (v0_L x5) (0 : Int32))), .val (.int (f3 (v0_L x5) (Int32.ofNat (0 + 1 + 1))))] [(.int (f3 (v0_L x5) (Int32.ofNat (0 + 1 + 1))))]))
          refine g_iconst X21 hx (0 : Int32) 192 (hb hby at_191) rfl rfl ?_
          show Go p e below s _ _ _ (T21.setTop (mkF m 192 #[.val (.int x0), .val (.int x1), .val (.int x2), .val (.int x3), .val (.int x4), .val (.int x5), .val (.int (v0_k1 x4)), .val (.int (v0_k2 x4)), .val (.int (v0_L x5)), .val (.ref b1), .val (.ref b12), .val (.int (f3 (v0_L x5) (0 : Int32))), .val (.int (f3 (v0_L x5) (Int32.ofNat (0 + 1 + 1))))] [(.int (0 : Int32)), (.int (f3 (v0_L x5) (Int32.ofNat (0 + 1 + 1))))]))
          have h30 : (f3 (v0_L x5) (Int32.ofNat (0 + 1 + 1))) = (0 : Int32) := own_less (by rw [‹v0_k1 x4 = (2 : Int32)›]; rfl) ‹¬ v0_k1 x4 < v0_L x5›
          refine g_icmp_eq X21 hx 197 195 (hb hby at_192) (by decide) rfl rfl (fun _ => ?_) (fun q => absurd h30 q)
          show Go p e below s _ _ _ (T21.setTop (mkF m 197 #[.val (.int x0), .val (.int x1), .val (.int x2), .val (.int x3), .val (.int x4), .val (.int x5), .val (.int (v0_k1 x4)), .val (.int (v0_k2 x4)), .val (.int (v0_L x5)), .val (.ref b1), .val (.ref b12), .val (.int (f3 (v0_L x5) (0 : Int32))), .val (.int (f3 (v0_L x5) (Int32.ofNat (0 + 1 + 1))))] []))
          refine g_iload X21 hx 199 (hb hby at_197) rfl rfl ?_
          show Go p e below s _ _ _ (T21.setTop (mkF m 199 #[.val (.int x0), .val (.int x1), .val (.int x2), .val (.int x3), .val (.int x4), .val (.int x5), .val (.int (v0_k1 x4)), .val (.int (v0_k2 x4)), .val (.int (v0_L x5)), .val (.ref b1), .val (.ref b12), .val (.int (f3 (v0_L x5) (0 : Int32))), .val (.int (f3 (v0_L x5) (Int32.ofNat (0 + 1 + 1))))] [(.int (f3 (v0_L x5) (Int32.ofNat (0 + 1 + 1))))]))
          have h31 : (f3 (v0_L x5) (Int32.ofNat (0 + 1 + 1))) = (0 : Int32) := own_less (by rw [‹v0_k1 x4 = (2 : Int32)›]; rfl) ‹¬ v0_k1 x4 < v0_L x5›
          refine g_if0_ne X21 hx 204 202 (hb hby at_199) (by decide) rfl rfl (fun _ => ?_) (fun q => absurd h31 q)
          show Go p e below s _ _ _ (T21.setTop (mkF m 202 #[.val (.int x0), .val (.int x1), .val (.int x2), .val (.int x3), .val (.int x4), .val (.int x5), .val (.int (v0_k1 x4)), .val (.int (v0_k2 x4)), .val (.int (v0_L x5)), .val (.ref b1), .val (.ref b12), .val (.int (f3 (v0_L x5) (0 : Int32))), .val (.int (f3 (v0_L x5) (Int32.ofNat (0 + 1 + 1))))] []))
          refine g_iconst X21 hx (1 : Int32) 203 (hb hby at_202) rfl rfl ?_
          show Go p e below s _ _ _ (T21.setTop (mkF m 203 #[.val (.int x0), .val (.int x1), .val (.int x2), .val (.int x3), .val (.int x4), .val (.int x5), .val (.int (v0_k1 x4)), .val (.int (v0_k2 x4)), .val (.int (v0_L x5)), .val (.ref b1), .val (.ref b12), .val (.int (f3 (v0_L x5) (0 : Int32))), .val (.int (f3 (v0_L x5) (Int32.ofNat (0 + 1 + 1))))] [(.int (1 : Int32))]))
          exact g_retN X21 hx hret (by simp) hlk (hb hby at_203) (by decide) (by decide) ⟨rfl, NS21⟩
      · show Go p e below s _ _ _ (T14.setTop (mkF m 140 #[.val (.int x0), .val (.int x1), .val (.int x2), .val (.int x3), .val (.int x4), .val (.int x5), .val (.int (v0_k1 x4)), .val (.int (v0_k2 x4)), .val (.int (v0_L x5)), .val (.ref b1), .val (.ref b12), .val (.int (f3 (v0_L x5) (0 : Int32))), .unset] [(.int (f3 (v0_L x5) (0 : Int32)))]))
        refine g_iconst X14 hx (0 : Int32) 141 (hb hby at_140) rfl rfl ?_
        show Go p e below s _ _ _ (T14.setTop (mkF m 141 #[.val (.int x0), .val (.int x1), .val (.int x2), .val (.int x3), .val (.int x4), .val (.int x5), .val (.int (v0_k1 x4)), .val (.int (v0_k2 x4)), .val (.int (v0_L x5)), .val (.ref b1), .val (.ref b12), .val (.int (f3 (v0_L x5) (0 : Int32))), .unset] [(.int (0 : Int32)), (.int (f3 (v0_L x5) (0 : Int32)))]))
        have h32 : (f3 (v0_L x5) (0 : Int32)) = (0 : Int32) := own_less rfl ‹¬ (0 : Int32) < v0_L x5›
        refine g_icmp_eq X14 hx 146 144 (hb hby at_141) (by decide) rfl rfl (fun _ => ?_) (fun q => absurd h32 q)
        show Go p e below s _ _ _ (T14.setTop (mkF m 146 #[.val (.int x0), .val (.int x1), .val (.int x2), .val (.int x3), .val (.int x4), .val (.int x5), .val (.int (v0_k1 x4)), .val (.int (v0_k2 x4)), .val (.int (v0_L x5)), .val (.ref b1), .val (.ref b12), .val (.int (f3 (v0_L x5) (0 : Int32))), .unset] []))
        refine g_aload X14 hx 148 (hb hby at_146) rfl rfl rfl ?_
        show Go p e below s _ _ _ (T14.setTop (mkF m 148 #[.val (.int x0), .val (.int x1), .val (.int x2), .val (.int x3), .val (.int x4), .val (.int x5), .val (.int (v0_k1 x4)), .val (.int (v0_k2 x4)), .val (.int (v0_L x5)), .val (.ref b1), .val (.ref b12), .val (.int (f3 (v0_L x5) (0 : Int32))), .unset] [(.ref b12)]))
        refine g_callV X14 hx hZ hown (hw _ (List.mem_of_getElem? (i := 15) rfl)) (hw _ (List.mem_of_getElem? (i := 16) rfl)) (hw _ (List.mem_of_getElem? (i := 18) rfl)) (hw _ (List.mem_of_getElem? (i := 17) rfl)) (hw _ (List.mem_of_getElem? (i := 4) rfl)) (hw _ (List.mem_of_getElem? (i := 19) rfl)) (by decide) e14 b12 k13_4 (rm3 l Z a0 hw [] b12 (v0_L x5) (0 : Int32) T13.heap p13_1 p13_2) [] [] 0 rfl (lenOf pd__28_29Z rfl) rfl (Nat.le_of_eq rfl) (by decide) (by decide) (by decide) (by decide) (by rw [hml]; rfl) (hb hby at_148) ?_
        intro T33 L33 v33 X33 q33
        obtain ⟨rfl, rfl, e33⟩ := q33
        have NS33 := Fr.app NS14 (Fr.nil n0)
        show Go p e below s _ _ _ (T33.setTop (mkF m 151 #[.val (.int x0), .val (.int x1), .val (.int x2), .val (.int x3), .val (.int x4), .val (.int x5), .val (.int (v0_k1 x4)), .val (.int (v0_k2 x4)), .val (.int (v0_L x5)), .val (.ref b1), .val (.ref b12), .val (.int (f3 (v0_L x5) (0 : Int32))), .unset] [(.int (f3 (v0_L x5) (0 : Int32)))]))
        refine g_iload X33 hx 153 (hb hby at_151) rfl rfl ?_
        show Go p e below s _ _ _ (T33.setTop (mkF m 153 #[.val (.int x0), .val (.int x1), .val (.int x2), .val (.int x3), .val (.int x4), .val (.int x5), .val (.int (v0_k1 x4)), .val (.int (v0_k2 x4)), .val (.int (v0_L x5)), .val (.ref b1), .val (.ref b12), .val (.int (f3 (v0_L x5) (0 : Int32))), .unset] [(.int (f3 (v0_L x5) (0 : Int32))), (.int (f3 (v0_L x5) (0 : Int32)))]))
        have h34 : (f3 (v0_L x5) (0 : Int32)) = (f3 (v0_L x5) (0 : Int32)) := rfl
        refine g_icmp_eq X33 hx 158 156 (hb hby at_153) (by decide) rfl rfl (fun _ => ?_) (fun q => absurd h34 q)
        show Go p e below s _ _ _ (T33.setTop (mkF m 158 #[.val (.int x0), .val (.int x1), .val (.int x2), .val (.int x3), .val (.int x4), .val (.int x5), .val (.int (v0_k1 x4)), .val (.int (v0_k2 x4)), .val (.int (v0_L x5)), .val (.ref b1), .val (.ref b12), .val (.int (f3 (v0_L x5) (0 : Int32))), .unset] []))
        refine g_iload X33 hx 160 (hb hby at_158) rfl rfl ?_
        show Go p e below s _ _ _ (T33.setTop (mkF m 160 #[.val (.int x0), .val (.int x1), .val (.int x2), .val (.int x3), .val (.int x4), .val (.int x5), .val (.int (v0_k1 x4)), .val (.int (v0_k2 x4)), .val (.int (v0_L x5)), .val (.ref b1), .val (.ref b12), .val (.int (f3 (v0_L x5) (0 : Int32))), .unset] [(.int (f3 (v0_L x5) (0 : Int32)))]))
        have h35 : (f3 (v0_L x5) (0 : Int32)) = (0 : Int32) := own_less rfl ‹¬ (0 : Int32) < v0_L x5›
        refine g_if0_ne X33 hx 165 163 (hb hby at_160) (by decide) rfl rfl (fun _ => ?_) (fun q => absurd h35 q)
        show Go p e below s _ _ _ (T33.setTop (mkF m 163 #[.val (.int x0), .val (.int x1), .val (.int x2), .val (.int x3), .val (.int x4), .val (.int x5), .val (.int (v0_k1 x4)), .val (.int (v0_k2 x4)), .val (.int (v0_L x5)), .val (.ref b1), .val (.ref b12), .val (.int (f3 (v0_L x5) (0 : Int32))), .unset] []))
        refine g_iconst X33 hx (1 : Int32) 164 (hb hby at_163) rfl rfl ?_
        show Go p e below s _ _ _ (T33.setTop (mkF m 164 #[.val (.int x0), .val (.int x1), .val (.int x2), .val (.int x3), .val (.int x4), .val (.int x5), .val (.int (v0_k1 x4)), .val (.int (v0_k2 x4)), .val (.int (v0_L x5)), .val (.ref b1), .val (.ref b12), .val (.int (f3 (v0_L x5) (0 : Int32))), .unset] [(.int (1 : Int32))]))
        exact g_retN X33 hx hret (by simp) hlk (hb hby at_164) (by decide) (by decide) ⟨rfl, NS33⟩
    · show Go p e below s _ _ _ (T8.setTop (mkF m 108 #[.val (.int x0), .val (.int x1), .val (.int x2), .val (.int x3), .val (.int x4), .val (.int x5), .val (.int (v0_k1 x4)), .val (.int (v0_k2 x4)), .val (.int (v0_L x5)), .val (.ref b1), .unset, .unset, .unset] []))
      refine g_new X8 hx hZ hown (hw _ (List.mem_of_getElem? (i := 2) rfl)) (hw _ (List.mem_of_getElem? (i := 3) rfl)) (hw _ (List.mem_of_getElem? (i := 4) rfl)) e8 111 (hb hby at_108) (by decide) (by decide) rfl ?_
      intro T36 h36 b36 g36 X36 e36 E36 A36 D36
      have N_b36 : n0 ≤ b36 := Nat.le_trans Z8 (Nat.le_of_eq g36.symm)
      have ne_b1_b36 : b1 ≠ b36 := Nat.ne_of_lt (Nat.lt_of_lt_of_le A8.lt (Nat.le_of_eq g36.symm))
      have k36_1 := A8.ext E36
      have Z36 : n0 ≤ h36.size := Nat.le_trans Z8 E36.1
      have F36_bytes : Fld Z h36 b36 "com/example/terms_in_context/termsincontext/index/VarIntInput" "bytes" "[B" .null := D36 (Or.inr (hw _ (List.mem_of_getElem? (i := 12) rfl))) (ty := (.array .byte)) (by decide)
      have F36_length : Fld Z h36 b36 "com/example/terms_in_context/termsincontext/index/VarIntInput" "length" "I" (.int (0 : Int32)) := D36 (Or.inr (hw _ (List.mem_of_getElem? (i := 14) rfl))) (ty := .int) (by decide)
      have F36_offset : Fld Z h36 b36 "com/example/terms_in_context/termsincontext/index/VarIntInput" "offset" "I" (.int (0 : Int32)) := D36 (Or.inl (hw _ (List.mem_of_getElem? (i := 21) rfl))) (ty := .int) (by decide)
      show Go p e below s _ _ _ (T36.setTop (mkF m 111 #[.val (.int x0), .val (.int x1), .val (.int x2), .val (.int x3), .val (.int x4), .val (.int x5), .val (.int (v0_k1 x4)), .val (.int (v0_k2 x4)), .val (.int (v0_L x5)), .val (.ref b1), .unset, .unset, .unset] [(.ref b36)]))
      refine g_dup X36 hx 112 (hb hby at_111) rfl rfl ?_
      show Go p e below s _ _ _ (T36.setTop (mkF m 112 #[.val (.int x0), .val (.int x1), .val (.int x2), .val (.int x3), .val (.int x4), .val (.int x5), .val (.int (v0_k1 x4)), .val (.int (v0_k2 x4)), .val (.int (v0_L x5)), .val (.ref b1), .unset, .unset, .unset] [(.ref b36), (.ref b36)]))
      refine g_aload X36 hx 114 (hb hby at_112) rfl rfl rfl ?_
      show Go p e below s _ _ _ (T36.setTop (mkF m 114 #[.val (.int x0), .val (.int x1), .val (.int x2), .val (.int x3), .val (.int x4), .val (.int x5), .val (.int (v0_k1 x4)), .val (.int (v0_k2 x4)), .val (.int (v0_L x5)), .val (.ref b1), .unset, .unset, .unset] [(.ref b1), (.ref b36), (.ref b36)]))
      refine g_iload X36 hx 116 (hb hby at_114) rfl rfl ?_
      show Go p e below s _ _ _ (T36.setTop (mkF m 116 #[.val (.int x0), .val (.int x1), .val (.int x2), .val (.int x3), .val (.int x4), .val (.int x5), .val (.int (v0_k1 x4)), .val (.int (v0_k2 x4)), .val (.int (v0_L x5)), .val (.ref b1), .unset, .unset, .unset] [(.int (v0_L x5)), (.ref b1), (.ref b36), (.ref b36)]))
      refine g_callI X36 hx hZ rfl hown (hw _ (List.mem_of_getElem? (i := 5) rfl)) (hw _ (List.mem_of_getElem? (i := 6) rfl)) (hw _ (List.mem_of_getElem? (i := 4) rfl)) (hw _ (List.mem_of_getElem? (i := 7) rfl)) (by decide) e36 (rm1 l Z a0 hw [] b36 b1 (v0_L x5) h36 n0 Z36 A36 F36_bytes F36_length F36_offset N_b36) b36 [(.ref b1), (.int (v0_L x5))] [(.ref b36)] 1 rfl (lenOf pd__28_5bBI_29V rfl) rfl (Nat.le_of_eq rfl) (by decide) (by decide) (by decide) (by decide) (by rw [hml]; rfl) (hb hby at_116) ?_
      intro T37 L37 v37 X37 q37
      obtain ⟨rfl, N37, K37, p37_0, p37_1, p37_2⟩ := q37
      have NN37 := Fr.app N8 N37
      have k37_1 := k36_1.keep K37 (nm1 ne_b1_b36 nm0)
      have k37_4 := A36.keep K37
      have Z37 : n0 ≤ T37.heap.size := Nat.le_trans Z36 K37.1
      show Go p e below s _ _ _ (T37.setTop (mkF m 119 #[.val (.int x0), .val (.int x1), .val (.int x2), .val (.int x3), .val (.int x4), .val (.int x5), .val (.int (v0_k1 x4)), .val (.int (v0_k2 x4)), .val (.int (v0_L x5)), .val (.ref b1), .unset, .unset, .unset] [(.ref b36)]))
      refine g_astore X37 hx #[.val (.int x0), .val (.int x1), .val (.int x2), .val (.int x3), .val (.int x4), .val (.int x5), .val (.int (v0_k1 x4)), .val (.int (v0_k2 x4)), .val (.int (v0_L x5)), .val (.ref b1), .val (.ref b36), .unset, .unset] 121 (hb hby at_119) rfl rfl rfl ?_
      show Go p e below s _ _ _ (T37.setTop (mkF m 121 #[.val (.int x0), .val (.int x1), .val (.int x2), .val (.int x3), .val (.int x4), .val (.int x5), .val (.int (v0_k1 x4)), .val (.int (v0_k2 x4)), .val (.int (v0_L x5)), .val (.ref b1), .val (.ref b36), .unset, .unset] []))
      refine g_aload X37 hx 123 (hb hby at_121) rfl rfl rfl ?_
      show Go p e below s _ _ _ (T37.setTop (mkF m 123 #[.val (.int x0), .val (.int x1), .val (.int x2), .val (.int x3), .val (.int x4), .val (.int x5), .val (.int (v0_k1 x4)), .val (.int (v0_k2 x4)), .val (.int (v0_L x5)), .val (.ref b1), .val (.ref b36), .unset, .unset] [(.ref b36)]))
      refine g_callV X37 hx hZ hown (hw _ (List.mem_of_getElem? (i := 15) rfl)) (hw _ (List.mem_of_getElem? (i := 16) rfl)) (hw _ (List.mem_of_getElem? (i := 18) rfl)) (hw _ (List.mem_of_getElem? (i := 17) rfl)) (hw _ (List.mem_of_getElem? (i := 4) rfl)) (hw _ (List.mem_of_getElem? (i := 19) rfl)) (by decide) rfl b36 k37_4 (rm3 l Z a0 hw [] b36 (v0_L x5) (0 : Int32) T37.heap p37_1 p37_2) [] [] 0 rfl (lenOf pd__28_29Z rfl) rfl (Nat.le_of_eq rfl) (by decide) (by decide) (by decide) (by decide) (by rw [hml]; rfl) (hb hby at_123) ?_
      intro T38 L38 v38 X38 q38
      obtain ⟨rfl, rfl, e38⟩ := q38
      have NS38 := Fr.app NN37 (Fr.nil n0)
      show Go p e below s _ _ _ (T38.setTop (mkF m 126 #[.val (.int x0), .val (.int x1), .val (.int x2), .val (.int x3), .val (.int x4), .val (.int x5), .val (.int (v0_k1 x4)), .val (.int (v0_k2 x4)), .val (.int (v0_L x5)), .val (.ref b1), .val (.ref b36), .unset, .unset] [(.int (f3 (v0_L x5) (0 : Int32)))]))
      refine g_istore X38 hx #[.val (.int x0), .val (.int x1), .val (.int x2), .val (.int x3), .val (.int x4), .val (.int x5), .val (.int (v0_k1 x4)), .val (.int (v0_k2 x4)), .val (.int (v0_L x5)), .val (.ref b1), .val (.ref b36), .val (.int (f3 (v0_L x5) (0 : Int32))), .unset] 128 (hb hby at_126) rfl rfl ?_
      show Go p e below s _ _ _ (T38.setTop (mkF m 128 #[.val (.int x0), .val (.int x1), .val (.int x2), .val (.int x3), .val (.int x4), .val (.int x5), .val (.int (v0_k1 x4)), .val (.int (v0_k2 x4)), .val (.int (v0_L x5)), .val (.ref b1), .val (.ref b36), .val (.int (f3 (v0_L x5) (0 : Int32))), .unset] []))
      refine g_iload X38 hx 130 (hb hby at_128) rfl rfl ?_
      show Go p e below s _ _ _ (T38.setTop (mkF m 130 #[.val (.int x0), .val (.int x1), .val (.int x2), .val (.int x3), .val (.int x4), .val (.int x5), .val (.int (v0_k1 x4)), .val (.int (v0_k2 x4)), .val (.int (v0_L x5)), .val (.ref b1), .val (.ref b36), .val (.int (f3 (v0_L x5) (0 : Int32))), .unset] [(.int (f3 (v0_L x5) (0 : Int32)))]))
      refine g_iconst X38 hx (0 : Int32) 131 (hb hby at_130) rfl rfl ?_
      show Go p e below s _ _ _ (T38.setTop (mkF m 131 #[.val (.int x0), .val (.int x1), .val (.int x2), .val (.int x3), .val (.int x4), .val (.int x5), .val (.int (v0_k1 x4)), .val (.int (v0_k2 x4)), .val (.int (v0_L x5)), .val (.ref b1), .val (.ref b36), .val (.int (f3 (v0_L x5) (0 : Int32))), .unset] [(.int (0 : Int32)), (.int (f3 (v0_L x5) (0 : Int32)))]))
      refine g_iload X38 hx 133 (hb hby at_131) rfl rfl ?_
      show Go p e below s _ _ _ (T38.setTop (mkF m 133 #[.val (.int x0), .val (.int x1), .val (.int x2), .val (.int x3), .val (.int x4), .val (.int x5), .val (.int (v0_k1 x4)), .val (.int (v0_k2 x4)), .val (.int (v0_L x5)), .val (.ref b1), .val (.ref b36), .val (.int (f3 (v0_L x5) (0 : Int32))), .unset] [(.int (v0_L x5)), (.int (0 : Int32)), (.int (f3 (v0_L x5) (0 : Int32)))]))
      refine g_icmp_ge X38 hx 140 136 (hb hby at_133) (by decide) rfl rfl (fun h39 => ?_) (fun h39 => ?_)
      · show Go p e below s _ _ _ (T38.setTop (mkF m 136 #[.val (.int x0), .val (.int x1), .val (.int x2), .val (.int x3), .val (.int x4), .val (.int x5), .val (.int (v0_k1 x4)), .val (.int (v0_k2 x4)), .val (.int (v0_L x5)), .val (.ref b1), .val (.ref b36), .val (.int (f3 (v0_L x5) (0 : Int32))), .unset] [(.int (f3 (v0_L x5) (0 : Int32)))]))
        refine g_iconst X38 hx (1 : Int32) 137 (hb hby at_136) rfl rfl ?_
        show Go p e below s _ _ _ (T38.setTop (mkF m 137 #[.val (.int x0), .val (.int x1), .val (.int x2), .val (.int x3), .val (.int x4), .val (.int x5), .val (.int (v0_k1 x4)), .val (.int (v0_k2 x4)), .val (.int (v0_L x5)), .val (.ref b1), .val (.ref b36), .val (.int (f3 (v0_L x5) (0 : Int32))), .unset] [(.int (1 : Int32)), (.int (f3 (v0_L x5) (0 : Int32)))]))
        refine g_goto X38 hx 141 (hb hby at_137) (by decide) rfl ?_
        show Go p e below s _ _ _ (T38.setTop (mkF m 141 #[.val (.int x0), .val (.int x1), .val (.int x2), .val (.int x3), .val (.int x4), .val (.int x5), .val (.int (v0_k1 x4)), .val (.int (v0_k2 x4)), .val (.int (v0_L x5)), .val (.ref b1), .val (.ref b36), .val (.int (f3 (v0_L x5) (0 : Int32))), .unset] [(.int (1 : Int32)), (.int (f3 (v0_L x5) (0 : Int32)))]))
        have h40 : (f3 (v0_L x5) (0 : Int32)) = (1 : Int32) := own_more rfl ‹(0 : Int32) < v0_L x5›
        refine g_icmp_eq X38 hx 146 144 (hb hby at_141) (by decide) rfl rfl (fun _ => ?_) (fun q => absurd h40 q)
        show Go p e below s _ _ _ (T38.setTop (mkF m 146 #[.val (.int x0), .val (.int x1), .val (.int x2), .val (.int x3), .val (.int x4), .val (.int x5), .val (.int (v0_k1 x4)), .val (.int (v0_k2 x4)), .val (.int (v0_L x5)), .val (.ref b1), .val (.ref b36), .val (.int (f3 (v0_L x5) (0 : Int32))), .unset] []))
        refine g_aload X38 hx 148 (hb hby at_146) rfl rfl rfl ?_
        show Go p e below s _ _ _ (T38.setTop (mkF m 148 #[.val (.int x0), .val (.int x1), .val (.int x2), .val (.int x3), .val (.int x4), .val (.int x5), .val (.int (v0_k1 x4)), .val (.int (v0_k2 x4)), .val (.int (v0_L x5)), .val (.ref b1), .val (.ref b36), .val (.int (f3 (v0_L x5) (0 : Int32))), .unset] [(.ref b36)]))
        refine g_callV X38 hx hZ hown (hw _ (List.mem_of_getElem? (i := 15) rfl)) (hw _ (List.mem_of_getElem? (i := 16) rfl)) (hw _ (List.mem_of_getElem? (i := 18) rfl)) (hw _ (List.mem_of_getElem? (i := 17) rfl)) (hw _ (List.mem_of_getElem? (i := 4) rfl)) (hw _ (List.mem_of_getElem? (i := 19) rfl)) (by decide) e38 b36 k37_4 (rm3 l Z a0 hw [] b36 (v0_L x5) (0 : Int32) T37.heap p37_1 p37_2) [] [] 0 rfl (lenOf pd__28_29Z rfl) rfl (Nat.le_of_eq rfl) (by decide) (by decide) (by decide) (by decide) (by rw [hml]; rfl) (hb hby at_148) ?_
        intro T41 L41 v41 X41 q41
        obtain ⟨rfl, rfl, e41⟩ := q41
        have NS41 := Fr.app NS38 (Fr.nil n0)
        show Go p e below s _ _ _ (T41.setTop (mkF m 151 #[.val (.int x0), .val (.int x1), .val (.int x2), .val (.int x3), .val (.int x4), .val (.int x5), .val (.int (v0_k1 x4)), .val (.int (v0_k2 x4)), .val (.int (v0_L x5)), .val (.ref b1), .val (.ref b36), .val (.int (f3 (v0_L x5) (0 : Int32))), .unset] [(.int (f3 (v0_L x5) (0 : Int32)))]))
        refine g_iload X41 hx 153 (hb hby at_151) rfl rfl ?_
        show Go p e below s _ _ _ (T41.setTop (mkF m 153 #[.val (.int x0), .val (.int x1), .val (.int x2), .val (.int x3), .val (.int x4), .val (.int x5), .val (.int (v0_k1 x4)), .val (.int (v0_k2 x4)), .val (.int (v0_L x5)), .val (.ref b1), .val (.ref b36), .val (.int (f3 (v0_L x5) (0 : Int32))), .unset] [(.int (f3 (v0_L x5) (0 : Int32))), (.int (f3 (v0_L x5) (0 : Int32)))]))
        have h42 : (f3 (v0_L x5) (0 : Int32)) = (f3 (v0_L x5) (0 : Int32)) := rfl
        refine g_icmp_eq X41 hx 158 156 (hb hby at_153) (by decide) rfl rfl (fun _ => ?_) (fun q => absurd h42 q)
        show Go p e below s _ _ _ (T41.setTop (mkF m 158 #[.val (.int x0), .val (.int x1), .val (.int x2), .val (.int x3), .val (.int x4), .val (.int x5), .val (.int (v0_k1 x4)), .val (.int (v0_k2 x4)), .val (.int (v0_L x5)), .val (.ref b1), .val (.ref b36), .val (.int (f3 (v0_L x5) (0 : Int32))), .unset] []))
        refine g_iload X41 hx 160 (hb hby at_158) rfl rfl ?_
        show Go p e below s _ _ _ (T41.setTop (mkF m 160 #[.val (.int x0), .val (.int x1), .val (.int x2), .val (.int x3), .val (.int x4), .val (.int x5), .val (.int (v0_k1 x4)), .val (.int (v0_k2 x4)), .val (.int (v0_L x5)), .val (.ref b1), .val (.ref b36), .val (.int (f3 (v0_L x5) (0 : Int32))), .unset] [(.int (f3 (v0_L x5) (0 : Int32)))]))
        have h43 : ¬ ((f3 (v0_L x5) (0 : Int32)) = (0 : Int32)) := fun q => absurd ((own_more rfl ‹(0 : Int32) < v0_L x5›).symm.trans q) (by decide)
        refine g_if0_ne X41 hx 165 163 (hb hby at_160) (by decide) rfl rfl (fun q => absurd q h43) (fun _ => ?_)
        show Go p e below s _ _ _ (T41.setTop (mkF m 165 #[.val (.int x0), .val (.int x1), .val (.int x2), .val (.int x3), .val (.int x4), .val (.int x5), .val (.int (v0_k1 x4)), .val (.int (v0_k2 x4)), .val (.int (v0_L x5)), .val (.ref b1), .val (.ref b36), .val (.int (f3 (v0_L x5) (0 : Int32))), .unset] []))
        refine g_aload X41 hx 167 (hb hby at_165) rfl rfl rfl ?_
        show Go p e below s _ _ _ (T41.setTop (mkF m 167 #[.val (.int x0), .val (.int x1), .val (.int x2), .val (.int x3), .val (.int x4), .val (.int x5), .val (.int (v0_k1 x4)), .val (.int (v0_k2 x4)), .val (.int (v0_L x5)), .val (.ref b1), .val (.ref b36), .val (.int (f3 (v0_L x5) (0 : Int32))), .unset] [(.ref b36)]))
        refine g_callV X41 hx hZ hown (hw _ (List.mem_of_getElem? (i := 22) rfl)) (hw _ (List.mem_of_getElem? (i := 23) rfl)) (hw _ (List.mem_of_getElem? (i := 25) rfl)) (hw _ (List.mem_of_getElem? (i := 24) rfl)) (hw _ (List.mem_of_getElem? (i := 4) rfl)) (hw _ (List.mem_of_getElem? (i := 26) rfl)) (by decide) e41 b36 k37_4 (rm4 l Z a0 hw [] b36 b1 (v0_L x5) (0 : Int32) 4 (upd (upd (upd (upd (upd (fun _ => (0 : Int32)) 0 (i2bI (i2bI (x0 &&& (127 : Int32))))) 1 (i2bI (i2bI (x1 &&& (127 : Int32))))) 2 (i2bI (i2bI (x2 &&& (127 : Int32))))) 3 (i2bI (i2bI (x3 &&& (127 : Int32))))) 0 (i2bI (i2bI (((upd (upd (upd (upd (fun _ => (0 : Int32)) 0 (i2bI (i2bI (x0 &&& (127 : Int32))))) 1 (i2bI (i2bI (x1 &&& (127 : Int32))))) 2 (i2bI (i2bI (x2 &&& (127 : Int32))))) 3 (i2bI (i2bI (x3 &&& (127 : Int32))))) 0) ||| (128 : Int32))))) 0 1 T37.heap n0 Z37 k37_4 p37_0 p37_1 p37_2 k37_1 N_b36 (Ne.symm ne_b1_b36) (rfl : (0 : Int32).toInt = 0) (by decide : 0 + 1 < 4) (fun j hj => by have e : j = 0 := (by omega); subst e; exact own_b8 _ : ∀ j, j < 1 → (upd (upd (upd (upd (upd (fun _ => (0 : Int32)) 0 (i2bI (i2bI (x0 &&& (127 : Int32))))) 1 (i2bI (i2bI (x1 &&& (127 : Int32))))) 2 (i2bI (i2bI (x2 &&& (127 : Int32))))) 3 (i2bI (i2bI (x3 &&& (127 : Int32))))) 0 (i2bI (i2bI (((upd (upd (upd (upd (fun _ => (0 : Int32)) 0 (i2bI (i2bI (x0 &&& (127 : Int32))))) 1 (i2bI (i2bI (x1 &&& (127 : Int32))))) 2 (i2bI (i2bI (x2 &&& (127 : Int32))))) 3 (i2bI (i2bI (x3 &&& (127 : Int32))))) 0) ||| (128 : Int32))))) (0 + j) < 0) (own_b7 _ : ¬ (upd (upd (upd (upd (upd (fun _ => (0 : Int32)) 0 (i2bI (i2bI (x0 &&& (127 : Int32))))) 1 (i2bI (i2bI (x1 &&& (127 : Int32))))) 2 (i2bI (i2bI (x2 &&& (127 : Int32))))) 3 (i2bI (i2bI (x3 &&& (127 : Int32))))) 0 (i2bI (i2bI (((upd (upd (upd (upd (fun _ => (0 : Int32)) 0 (i2bI (i2bI (x0 &&& (127 : Int32))))) 1 (i2bI (i2bI (x1 &&& (127 : Int32))))) 2 (i2bI (i2bI (x2 &&& (127 : Int32))))) 3 (i2bI (i2bI (x3 &&& (127 : Int32))))) 0) ||| (128 : Int32))))) (0 + 1) < 0)) [] [] 0 rfl (lenOf pd__28_29I rfl) rfl (Nat.le_of_eq rfl) (by decide) (by decide) (by decide) (by decide) (by rw [hml]; rfl) (hb hby at_167) ?_
        intro T44 L44 v44 X44 q44
        obtain ⟨rfl, N44, K44, p44_0, p44_1, p44_2⟩ := q44
        have NN44 := Fr.app NS41 N44
        have k44_1 := k37_1.keep K44 (nm1 ne_b1_b36 nm0)
        have k44_4 := k37_4.keep K44
        have Z44 : n0 ≤ T44.heap.size := Nat.le_trans Z37 K44.1
        show Go p e below s _ _ _ (T44.setTop (mkF m 170 #[.val (.int x0), .val (.int x1), .val (.int x2), .val (.int x3), .val (.int x4), .val (.int x5), .val (.int (v0_k1 x4)), .val (.int (v0_k2 x4)), .val (.int (v0_L x5)), .val (.ref b1), .val (.ref b36), .val (.int (f3 (v0_L x5) (0 : Int32))), .unset] [(.int (own_rd (upd (upd (upd (upd (upd (fun _ => (0 : Int32)) 0 (i2bI (i2bI (x0 &&& (127 : Int32))))) 1 (i2bI (i2bI (x1 &&& (127 : Int32))))) 2 (i2bI (i2bI (x2 &&& (127 : Int32))))) 3 (i2bI (i2bI (x3 &&& (127 : Int32))))) 0 (i2bI (i2bI (((upd (upd (upd (upd (fun _ => (0 : Int32)) 0 (i2bI (i2bI (x0 &&& (127 : Int32))))) 1 (i2bI (i2bI (x1 &&& (127 : Int32))))) 2 (i2bI (i2bI (x2 &&& (127 : Int32))))) 3 (i2bI (i2bI (x3 &&& (127 : Int32))))) 0) ||| (128 : Int32))))) 1 0 0 0))]))
        refine g_pop X44 hx 171 (hb hby at_170) rfl rfl ?_
        show Go p e below s _ _ _ (T44.setTop (mkF m 171 #[.val (.int x0), .val (.int x1), .val (.int x2), .val (.int x3), .val (.int x4), .val (.int x5), .val (.int (v0_k1 x4)), .val (.int (v0_k2 x4)), .val (.int (v0_L x5)), .val (.ref b1), .val (.ref b36), .val (.int (f3 (v0_L x5) (0 : Int32))), .unset] []))
        refine g_aload X44 hx 173 (hb hby at_171) rfl rfl rfl ?_
        show Go p e below s _ _ _ (T44.setTop (mkF m 173 #[.val (.int x0), .val (.int x1), .val (.int x2), .val (.int x3), .val (.int x4), .val (.int x5), .val (.int (v0_k1 x4)), .val (.int (v0_k2 x4)), .val (.int (v0_L x5)), .val (.ref b1), .val (.ref b36), .val (.int (f3 (v0_L x5) (0 : Int32))), .unset] [(.ref b36)]))
        refine g_callV X44 hx hZ hown (hw _ (List.mem_of_getElem? (i := 15) rfl)) (hw _ (List.mem_of_getElem? (i := 16) rfl)) (hw _ (List.mem_of_getElem? (i := 18) rfl)) (hw _ (List.mem_of_getElem? (i := 17) rfl)) (hw _ (List.mem_of_getElem? (i := 4) rfl)) (hw _ (List.mem_of_getElem? (i := 19) rfl)) (by decide) rfl b36 k44_4 (rm3 l Z a0 hw [] b36 (v0_L x5) (Int32.ofNat (0 + 1 + 1)) T44.heap p44_1 p44_2) [] [] 0 rfl (lenOf pd__28_29Z rfl) rfl (Nat.le_of_eq rfl) (by decide) (by decide) (by decide) (by decide) (by rw [hml]; rfl) (hb hby at_173) ?_
        intro T45 L45 v45 X45 q45
        obtain ⟨rfl, rfl, e45⟩ := q45
        have NS45 := Fr.app NN44 (Fr.nil n0)
        show Go p e below s _ _ _ (T45.setTop (mkF m 176 #[.val (.int x0), .val (.int x1), .val (.int x2), .val (.int x3), .val (.int x4), .val (.int x5), .val (.int (v0_k1 x4)), .val (.int (v0_k2 x4)), .val (.int (v0_L x5)), .val (.ref b1), .val (.ref b36), .val (.int (f3 (v0_L x5) (0 : Int32))), .unset] [(.int (f3 (v0_L x5) (Int32.ofNat (0 + 1 + 1))))]))
        refine g_istore X45 hx #[.val (.int x0), .val (.int x1), .val (.int x2), .val (.int x3), .val (.int x4), .val (.int x5), .val (.int (v0_k1 x4)), .val (.int (v0_k2 x4)), .val (.int (v0_L x5)), .val (.ref b1), .val (.ref b36), .val (.int (f3 (v0_L x5) (0 : Int32))), .val (.int (f3 (v0_L x5) (Int32.ofNat (0 + 1 + 1))))] 178 (hb hby at_176) rfl rfl ?_
        show Go p e below s _ _ _ (T45.setTop (mkF m 178 #[.val (.int x0), .val (.int x1), .val (.int x2), .val (.int x3), .val (.int x4), .val (.int x5), .val (.int (v0_k1 x4)), .val (.int (v0_k2 x4)), .val (.int (v0_L x5)), .val (.ref b1), .val (.ref b36), .val (.int (f3 (v0_L x5) (0 : Int32))), .val (.int (f3 (v0_L x5) (Int32.ofNat (0 + 1 + 1))))] []))
        refine g_iload X45 hx 180 (hb hby at_178) rfl rfl ?_
        show Go p e below s _ _ _ (T45.setTop (mkF m 180 #[.val (.int x0), .val (.int x1), .val (.int x2), .val (.int x3), .val (.int x4), .val (.int x5), .val (.int (v0_k1 x4)), .val (.int (v0_k2 x4)), .val (.int (v0_L x5)), .val (.ref b1), .val (.ref b36), .val (.int (f3 (v0_L x5) (0 : Int32))), .val (.int (f3 (v0_L x5) (Int32.ofNat (0 + 1 + 1))))] [(.int (f3 (v0_L x5) (Int32.ofNat (0 + 1 + 1))))]))
        refine g_iload X45 hx 182 (hb hby at_180) rfl rfl ?_
        show Go p e below s _ _ _ (T45.setTop (mkF m 182 #[.val (.int x0), .val (.int x1), .val (.int x2), .val (.int x3), .val (.int x4), .val (.int x5), .val (.int (v0_k1 x4)), .val (.int (v0_k2 x4)), .val (.int (v0_L x5)), .val (.ref b1), .val (.ref b36), .val (.int (f3 (v0_L x5) (0 : Int32))), .val (.int (f3 (v0_L x5) (Int32.ofNat (0 + 1 + 1))))] [(.int (v0_k1 x4)), (.int (f3 (v0_L x5) (Int32.ofNat (0 + 1 + 1))))]))
        refine g_iload X45 hx 184 (hb hby at_182) rfl rfl ?_
        show Go p e below s _ _ _ (T45.setTop (mkF m 184 #[.val (.int x0), .val (.int x1), .val (.int x2), .val (.int x3), .val (.int x4), .val (.int x5), .val (.int (v0_k1 x4)), .val (.int (v0_k2 x4)), .val (.int (v0_L x5)), .val (.ref b1), .val (.ref b36), .val (.int (f3 (v0_L x5) (0 : Int32))), .val (.int (f3 (v0_L x5) (Int32.ofNat (0 + 1 + 1))))] [(.int (v0_L x5)), (.int (v0_k1 x4)), (.int (f3 (v0_L x5) (Int32.ofNat (0 + 1 + 1))))]))
        refine g_icmp_ge X45 hx 191 187 (hb hby at_184) (by decide) rfl rfl (fun h46 => ?_) (fun h46 => ?_)
        · show Go p e below s _ _ _ (T45.setTop (mkF m 187 #[.val (.int x0), .val (.int x1), .val (.int x2), .val (.int x3), .val (.int x4), .val (.int x5), .val (.int (v0_k1 x4)), .val (.int (v0_k2 x4)), .val (.int (v0_L x5)), .val (.ref b1), .val (.ref b36), .val (.int (f3 (v0_L x5) (0 : Int32))), .val (.int (f3 (v0_L x5) (Int32.ofNat (0 + 1 + 1))))] [(.int (f3 (v0_L x5) (Int32.ofNat (0 + 1 + 1))))]))
          refine g_iconst X45 hx (1 : Int32) 188 (hb hby at_187) rfl rfl ?_
          show Go p e below s _ _ _ (T45.setTop (mkF m 188 #[.val (.int x0), .val (.int x1), .val (.int x2), .val (.int x3), .val (.int x4), .val (.int x5), .val (.int (v0_k1 x4)), .val (.int (v0_k2 x4)), .val (.int (v0_L x5)), .val (.ref b1), .val (.ref b36), .val (.int (f3 (v0_L x5) (0 : Int32))), .val (.int (f3 (v0_L x5) (Int32.ofNat (0 + 1 + 1))))] [(.int (1 : Int32)), (.int (f3 (v0_L x5) (Int32.ofNat (0 + 1 + 1))))]))
          refine g_goto X45 hx 192 (hb hby at_188) (by decide) rfl ?_
          show Go p e below s _ _ _ (T45.setTop (mkF m 192 #[.val (.int x0), .val (.int x1), .val (.int x2), .val (.int x3), .val (.int x4), .val (.int x5), .val (.int (v0_k1 x4)), .val (.int (v0_k2 x4)), .val (.int (v0_L x5)), .val (.ref b1), .val (.ref b36), .val (.int (f3 (v0_L x5) (0 : Int32))), .val (.int (f3 (v0_L x5) (Int32.ofNat (0 + 1 + 1))))] [(.int (1 : Int32)), (.int (f3 (v0_L x5) (Int32.ofNat (0 + 1 + 1))))]))
          have h47 : (f3 (v0_L x5) (Int32.ofNat (0 + 1 + 1))) = (1 : Int32) := own_more (by rw [‹v0_k1 x4 = (2 : Int32)›]; rfl) ‹v0_k1 x4 < v0_L x5›
          refine g_icmp_eq X45 hx 197 195 (hb hby at_192) (by decide) rfl rfl (fun _ => ?_) (fun q => absurd h47 q)
          show Go p e below s _ _ _ (T45.setTop (mkF m 197 #[.val (.int x0), .val (.int x1), .val (.int x2), .val (.int x3), .val (.int x4), .val (.int x5), .val (.int (v0_k1 x4)), .val (.int (v0_k2 x4)), .val (.int (v0_L x5)), .val (.ref b1), .val (.ref b36), .val (.int (f3 (v0_L x5) (0 : Int32))), .val (.int (f3 (v0_L x5) (Int32.ofNat (0 + 1 + 1))))] []))
          refine g_iload X45 hx 199 (hb hby at_197) rfl rfl ?_
          show Go p e below s _ _ _ (T45.setTop (mkF m 199 #[.val (.int x0), .val (.int x1), .val (.int x2), .val (.int x3), .val (.int x4), .val (.int x5), .val (.int (v0_k1 x4)), .val (.int (v0_k2 x4)), .val (.int (v0_L x5)), .val (.ref b1), .val (.ref b36), .val (.int (f3 (v0_L x5) (0 : Int32))), .val (.int (f3 (v0_L x5) (Int32.ofNat (0 + 1 + 1))))] [(.int (f3 (v0_L x5) (Int32.ofNat (0 + 1 + 1))))]))
          have h48 : ¬ ((f3 (v0_L x5) (Int32.ofNat (0 + 1 + 1))) = (0 : Int32)) := fun q => absurd ((own_more (by rw [‹v0_k1 x4 = (2 : Int32)›]; rfl) ‹v0_k1 x4 < v0_L x5›).symm.trans q) (by decide)
          refine g_if0_ne X45 hx 204 202 (hb hby at_199) (by decide) rfl rfl (fun q => absurd q h48) (fun _ => ?_)
          show Go p e below s _ _ _ (T45.setTop (mkF m 204 #[.val (.int x0), .val (.int x1), .val (.int x2), .val (.int x3), .val (.int x4), .val (.int x5), .val (.int (v0_k1 x4)), .val (.int (v0_k2 x4)), .val (.int (v0_L x5)), .val (.ref b1), .val (.ref b36), .val (.int (f3 (v0_L x5) (0 : Int32))), .val (.int (f3 (v0_L x5) (Int32.ofNat (0 + 1 + 1))))] []))
          refine g_aload X45 hx 206 (hb hby at_204) rfl rfl rfl ?_
          show Go p e below s _ _ _ (T45.setTop (mkF m 206 #[.val (.int x0), .val (.int x1), .val (.int x2), .val (.int x3), .val (.int x4), .val (.int x5), .val (.int (v0_k1 x4)), .val (.int (v0_k2 x4)), .val (.int (v0_L x5)), .val (.ref b1), .val (.ref b36), .val (.int (f3 (v0_L x5) (0 : Int32))), .val (.int (f3 (v0_L x5) (Int32.ofNat (0 + 1 + 1))))] [(.ref b36)]))
          refine g_callV X45 hx hZ hown (hw _ (List.mem_of_getElem? (i := 22) rfl)) (hw _ (List.mem_of_getElem? (i := 23) rfl)) (hw _ (List.mem_of_getElem? (i := 25) rfl)) (hw _ (List.mem_of_getElem? (i := 24) rfl)) (hw _ (List.mem_of_getElem? (i := 4) rfl)) (hw _ (List.mem_of_getElem? (i := 26) rfl)) (by decide) e45 b36 k44_4 (rm4 l Z a0 hw [] b36 b1 (v0_L x5) (Int32.ofNat (0 + 1 + 1)) 4 (upd (upd (upd (upd (upd (fun _ => (0 : Int32)) 0 (i2bI (i2bI (x0 &&& (127 : Int32))))) 1 (i2bI (i2bI (x1 &&& (127 : Int32))))) 2 (i2bI (i2bI (x2 &&& (127 : Int32))))) 3 (i2bI (i2bI (x3 &&& (127 : Int32))))) 0 (i2bI (i2bI (((upd (upd (upd (upd (fun _ => (0 : Int32)) 0 (i2bI (i2bI (x0 &&& (127 : Int32))))) 1 (i2bI (i2bI (x1 &&& (127 : Int32))))) 2 (i2bI (i2bI (x2 &&& (127 : Int32))))) 3 (i2bI (i2bI (x3 &&& (127 : Int32))))) 0) ||| (128 : Int32))))) 2 0 T44.heap n0 Z44 k44_4 p44_0 p44_1 p44_2 k44_1 N_b36 (Ne.symm ne_b1_b36) (rfl : (Int32.ofNat (0 + 1 + 1)).toInt = 2) (by decide : 2 + 0 < 4) (fun j hj => absurd hj (Nat.not_lt_zero j) : ∀ j, j < 0 → (upd (upd (upd (upd (upd (fun _ => (0 : Int32)) 0 (i2bI (i2bI (x0 &&& (127 : Int32))))) 1 (i2bI (i2bI (x1 &&& (127 : Int32))))) 2 (i2bI (i2bI (x2 &&& (127 : Int32))))) 3 (i2bI (i2bI (x3 &&& (127 : Int32))))) 0 (i2bI (i2bI (((upd (upd (upd (upd (fun _ => (0 : Int32)) 0 (i2bI (i2bI (x0 &&& (127 : Int32))))) 1 (i2bI (i2bI (x1 &&& (127 : Int32))))) 2 (i2bI (i2bI (x2 &&& (127 : Int32))))) 3 (i2bI (i2bI (x3 &&& (127 : Int32))))) 0) ||| (128 : Int32))))) (2 + j) < 0) (own_b7 _ : ¬ (upd (upd (upd (upd (upd (fun _ => (0 : Int32)) 0 (i2bI (i2bI (x0 &&& (127 : Int32))))) 1 (i2bI (i2bI (x1 &&& (127 : Int32))))) 2 (i2bI (i2bI (x2 &&& (127 : Int32))))) 3 (i2bI (i2bI (x3 &&& (127 : Int32))))) 0 (i2bI (i2bI (((upd (upd (upd (upd (fun _ => (0 : Int32)) 0 (i2bI (i2bI (x0 &&& (127 : Int32))))) 1 (i2bI (i2bI (x1 &&& (127 : Int32))))) 2 (i2bI (i2bI (x2 &&& (127 : Int32))))) 3 (i2bI (i2bI (x3 &&& (127 : Int32))))) 0) ||| (128 : Int32))))) (2 + 0) < 0)) [] [] 0 rfl (lenOf pd__28_29I rfl) rfl (Nat.le_of_eq rfl) (by decide) (by decide) (by decide) (by decide) (by rw [hml]; rfl) (hb hby at_206) ?_
          intro T49 L49 v49 X49 q49
          obtain ⟨rfl, N49, K49, p49_0, p49_1, p49_2⟩ := q49
          have NN49 := Fr.app NS45 N49
          have k49_1 := k44_1.keep K49 (nm1 ne_b1_b36 nm0)
          have k49_4 := k44_4.keep K49
          have Z49 : n0 ≤ T49.heap.size := Nat.le_trans Z44 K49.1
          show Go p e below s _ _ _ (T49.setTop (mkF m 209 #[.val (.int x0), .val (.int x1), .val (.int x2), .val (.int x3), .val (.int x4), .val (.int x5), .val (.int (v0_k1 x4)), .val (.int (v0_k2 x4)), .val (.int (v0_L x5)), .val (.ref b1), .val (.ref b36), .val (.int (f3 (v0_L x5) (0 : Int32))), .val (.int (f3 (v0_L x5) (Int32.ofNat (0 + 1 + 1))))] [(.int (own_rd (upd (upd (upd (upd (upd (fun _ => (0 : Int32)) 0 (i2bI (i2bI (x0 &&& (127 : Int32))))) 1 (i2bI (i2bI (x1 &&& (127 : Int32))))) 2 (i2bI (i2bI (x2 &&& (127 : Int32))))) 3 (i2bI (i2bI (x3 &&& (127 : Int32))))) 0 (i2bI (i2bI (((upd (upd (upd (upd (fun _ => (0 : Int32)) 0 (i2bI (i2bI (x0 &&& (127 : Int32))))) 1 (i2bI (i2bI (x1 &&& (127 : Int32))))) 2 (i2bI (i2bI (x2 &&& (127 : Int32))))) 3 (i2bI (i2bI (x3 &&& (127 : Int32))))) 0) ||| (128 : Int32))))) 0 2 0 0))]))
          refine g_pop X49 hx 210 (hb hby at_209) rfl rfl ?_
          show Go p e below s _ _ _ (T49.setTop (mkF m 210 #[.val (.int x0), .val (.int x1), .val (.int x2), .val (.int x3), .val (.int x4), .val (.int x5), .val (.int (v0_k1 x4)), .val (.int (v0_k2 x4)), .val (.int (v0_L x5)), .val (.ref b1), .val (.ref b36), .val (.int (f3 (v0_L x5) (0 : Int32))), .val (.int (f3 (v0_L x5) (Int32.ofNat (0 + 1 + 1))))] []))
          refine g_aload X49 hx 212 (hb hby at_210) rfl rfl rfl ?_
          show Go p e below s _ _ _ (T49.setTop (mkF m 212 #[.val (.int x0), .val (.int x1), .val (.int x2), .val (.int x3), .val (.int x4), .val (.int x5), .val (.int (v0_k1 x4)), .val (.int (v0_k2 x4)), .val (.int (v0_L x5)), .val (.ref b1), .val (.ref b36), .val (.int (f3 (v0_L x5) (0 : Int32))), .val (.int (f3 (v0_L x5) (Int32.ofNat (0 + 1 + 1))))] [(.ref b36)]))
          refine g_callV X49 hx hZ hown (hw _ (List.mem_of_getElem? (i := 15) rfl)) (hw _ (List.mem_of_getElem? (i := 16) rfl)) (hw _ (List.mem_of_getElem? (i := 18) rfl)) (hw _ (List.mem_of_getElem? (i := 17) rfl)) (hw _ (List.mem_of_getElem? (i := 4) rfl)) (hw _ (List.mem_of_getElem? (i := 19) rfl)) (by decide) rfl b36 k49_4 (rm3 l Z a0 hw [] b36 (v0_L x5) (Int32.ofNat (2 + 0 + 1)) T49.heap p49_1 p49_2) [] [] 0 rfl (lenOf pd__28_29Z rfl) rfl (Nat.le_of_eq rfl) (by decide) (by decide) (by decide) (by decide) (by rw [hml]; rfl) (hb hby at_212) ?_
          intro T50 L50 v50 X50 q50
          obtain ⟨rfl, rfl, e50⟩ := q50
          have NS50 := Fr.app NN49 (Fr.nil n0)
          show Go p e below s _ _ _ (T50.setTop (mkF m 215 #[.val (.int x0), .val (.int x1), .val (.int x2), .val (.int x3), .val (.int x4), .val (.int x5), .val (.int (v0_k1 x4)), .val (.int (v0_k2 x4)), .val (.int (v0_L x5)), .val (.ref b1), .val (.ref b36), .val (.int (f3 (v0_L x5) (0 : Int32))), .val (.int (f3 (v0_L x5) (Int32.ofNat (0 + 1 + 1))))] [(.int (f3 (v0_L x5) (Int32.ofNat (2 + 0 + 1))))]))
          refine g_iload X50 hx 217 (hb hby at_215) rfl rfl ?_
          show Go p e below s _ _ _ (T50.setTop (mkF m 217 #[.val (.int x0), .val (.int x1), .val (.int x2), .val (.int x3), .val (.int x4), .val (.int x5), .val (.int (v0_k1 x4)), .val (.int (v0_k2 x4)), .val (.int (v0_L x5)), .val (.ref b1), .val (.ref b36), .val (.int (f3 (v0_L x5) (0 : Int32))), .val (.int (f3 (v0_L x5) (Int32.ofNat (0 + 1 + 1))))] [(.int (v0_k1 x4)), (.int (f3 (v0_L x5) (Int32.ofNat (2 + 0 + 1))))]))
          refine g_iload X50 hx 219 (hb hby at_217) rfl rfl ?_
          show Go p e below s _ _ _ (T50.setTop (mkF m 219 #[.val (.int x0), .val (.int x1), .val (.int x2), .val (.int x3), .val (.int x4), .val (.int x5), .val (.int (v0_k1 x4)), .val (.int (v0_k2 x4)), .val (.int (v0_L x5)), .val (.ref b1), .val (.ref b36), .val (.int (f3 (v0_L x5) (0 : Int32))), .val (.int (f3 (v0_L x5) (Int32.ofNat (0 + 1 + 1))))] [(.int (v0_k2 x4)), (.int (v0_k1 x4)), (.int (f3 (v0_L x5) (Int32.ofNat (2 + 0 + 1))))]))
          refine g_iadd X50 hx 220 (hb hby at_219) rfl ?_
          show Go p e below s _ _ _ (T50.setTop (mkF m 220 #[.val (.int x0), .val (.int x1), .val (.int x2), .val (.int x3), .val (.int x4), .val (.int x5), .val (.int (v0_k1 x4)), .val (.int (v0_k2 x4)), .val (.int (v0_L x5)), .val (.ref b1), .val (.ref b36), .val (.int (f3 (v0_L x5) (0 : Int32))), .val (.int (f3 (v0_L x5) (Int32.ofNat (0 + 1 + 1))))] [(.int ((v0_k1 x4) + (v0_k2 x4))), (.int (f3 (v0_L x5) (Int32.ofNat (2 + 0 + 1))))]))
          refine g_iload X50 hx 222 (hb hby at_220) rfl rfl ?_
          show Go p e below s _ _ _ (T50.setTop (mkF m 222 #[.val (.int x0), .val (.int x1), .val (.int x2), .val (.int x3), .val (.int x4), .val (.int x5), .val (.int (v0_k1 x4)), .val (.int (v0_k2 x4)), .val (.int (v0_L x5)), .val (.ref b1), .val (.ref b36), .val (.int (f3 (v0_L x5) (0 : Int32))), .val (.int (f3 (v0_L x5) (Int32.ofNat (0 + 1 + 1))))] [(.int (v0_L x5)), (.int ((v0_k1 x4) + (v0_k2 x4))), (.int (f3 (v0_L x5) (Int32.ofNat (2 + 0 + 1))))]))
          refine g_icmp_ge X50 hx 229 225 (hb hby at_222) (by decide) rfl rfl (fun h51 => ?_) (fun h51 => ?_)
          · show Go p e below s _ _ _ (T50.setTop (mkF m 225 #[.val (.int x0), .val (.int x1), .val (.int x2), .val (.int x3), .val (.int x4), .val (.int x5), .val (.int (v0_k1 x4)), .val (.int (v0_k2 x4)), .val (.int (v0_L x5)), .val (.ref b1), .val (.ref b36), .val (.int (f3 (v0_L x5) (0 : Int32))), .val (.int (f3 (v0_L x5) (Int32.ofNat (0 + 1 + 1))))] [(.int (f3 (v0_L x5) (Int32.ofNat (2 + 0 + 1))))]))
            refine g_iconst X50 hx (1 : Int32) 226 (hb hby at_225) rfl rfl ?_
            show Go p e below s _ _ _ (T50.setTop (mkF m 226 #[.val (.int x0), .val (.int x1), .val (.int x2), .val (.int x3), .val (.int x4), .val (.int x5), .val (.int (v0_k1 x4)), .val (.int (v0_k2 x4)), .val (.int (v0_L x5)), .val (.ref b1), .val (.ref b36), .val (.int (f3 (v0_L x5) (0 : Int32))), .val (.int (f3 (v0_L x5) (Int32.ofNat (0 + 1 + 1))))] [(.int (1 : Int32)), (.int (f3 (v0_L x5) (Int32.ofNat (2 + 0 + 1))))]))
            refine g_goto X50 hx 230 (hb hby at_226) (by decide) rfl ?_
            show Go p e below s _ _ _ (T50.setTop (mkF m 230 #[.val (.int x0), .val (.int x1), .val (.int x2), .val (.int x3), .val (.int x4), .val (.int x5), .val (.int (v0_k1 x4)), .val (.int (v0_k2 x4)), .val (.int (v0_L x5)), .val (.ref b1), .val (.ref b36), .val (.int (f3 (v0_L x5) (0 : Int32))), .val (.int (f3 (v0_L x5) (Int32.ofNat (0 + 1 + 1))))] [(.int (1 : Int32)), (.int (f3 (v0_L x5) (Int32.ofNat (2 + 0 + 1))))]))
            have h52 : (f3 (v0_L x5) (Int32.ofNat (2 + 0 + 1))) = (1 : Int32) := own_more (by rw [‹v0_k1 x4 = (2 : Int32)›, (own_k2 ‹¬ v0_k2 x4 = (2 : Int32)›)]; rfl) ‹v0_k1 x4 + v0_k2 x4 < v0_L x5›
            refine g_icmp_ne X50 hx 237 233 (hb hby at_230) (by decide) rfl rfl (fun _ => ?_) (fun q => absurd h52 q)
            show Go p e below s _ _ _ (T50.setTop (mkF m 233 #[.val (.int x0), .val (.int x1), .val (.int x2), .val (.int x3), .val (.int x4), .val (.int x5), .val (.int (v0_k1 x4)), .val (.int (v0_k2 x4)), .val (.int (v0_L x5)), .val (.ref b1), .val (.ref b36), .val (.int (f3 (v0_L x5) (0 : Int32))), .val (.int (f3 (v0_L x5) (Int32.ofNat (0 + 1 + 1))))] []))
            refine g_iconst X50 hx (1 : Int32) 234 (hb hby at_233) rfl rfl ?_
            show Go p e below s _ _ _ (T50.setTop (mkF m 234 #[.val (.int x0), .val (.int x1), .val (.int x2), .val (.int x3), .val (.int x4), .val (.int x5), .val (.int (v0_k1 x4)), .val (.int (v0_k2 x4)), .val (.int (v0_L x5)), .val (.ref b1), .val (.ref b36), .val (.int (f3 (v0_L x5) (0 : Int32))), .val (.int (f3 (v0_L x5) (Int32.ofNat (0 + 1 + 1))))] [(.int (1 : Int32))]))
            refine g_goto X50 hx 238 (hb hby at_234) (by decide) rfl ?_
            show Go p e below s _ _ _ (T50.setTop (mkF m 238 #[.val (.int x0), .val (.int x1), .val (.int x2), .val (.int x3), .val (.int x4), .val (.int x5), .val (.int (v0_k1 x4)), .val (.int (v0_k2 x4)), .val (.int (v0_L x5)), .val (.ref b1), .val (.ref b36), .val (.int (f3 (v0_L x5) (0 : Int32))), .val (.int (f3 (v0_L x5) (Int32.ofNat (0 + 1 + 1))))] [(.int (1 : Int32))]))
            exact g_retN X50 hx hret (by simp) hlk (hb hby at_238) (by decide) (by decide) ⟨rfl, NS50⟩
          · show Go p e below s _ _ _ (T50.setTop (mkF m 229 #[.val (.int x0), .val (.int x1), .val (.int x2), .val (.int x3), .val (.int x4), .val (.int x5), .val (.int (v0_k1 x4)), .val (.int (v0_k2 x4)), .val (.int (v0_L x5)), .val (.ref b1), .val (.ref b36), .val (.int (f3 (v0_L x5) (0 : Int32))), .val (.int (f3 (v0_L x5) (Int32.ofNat (0 + 1 + 1))))] [(.int (f3 (v0_L x5) (Int32.ofNat (2 + 0 + 1))))]))
            refine g_iconst X50 hx (0 : Int32) 230 (hb hby at_229) rfl rfl ?_
            show Go p e below s _ _ _ (T50.setTop (mkF m 230 #[.val (.int x0), .val (.int x1), .val (.int x2), .val (.int x3), .val (.int x4), .val (.int x5), .val (.int (v0_k1 x4)), .val (.int (v0_k2 x4)), .val (.int (v0_L x5)), .val (.ref b1), .val (.ref b36), .val (.int (f3 (v0_L x5) (0 : Int32))), .val (.int (f3 (v0_L x5) (Int32.ofNat (0 + 1 + 1))))] [(.int (0 : Int32)), (.int (f3 (v0_L x5) (Int32.ofNat (2 + 0 + 1))))]))
            have h53 : (f3 (v0_L x5) (Int32.ofNat (2 + 0 + 1))) = (0 : Int32) := own_less (by rw [‹v0_k1 x4 = (2 : Int32)›, (own_k2 ‹¬ v0_k2 x4 = (2 : Int32)›)]; rfl) ‹¬ v0_k1 x4 + v0_k2 x4 < v0_L x5›
            refine g_icmp_ne X50 hx 237 233 (hb hby at_230) (by decide) rfl rfl (fun _ => ?_) (fun q => absurd h53 q)
            show Go p e below s _ _ _ (T50.setTop (mkF m 233 #[.val (.int x0), .val (.int x1), .val (.int x2), .val (.int x3), .val (.int x4), .val (.int x5), .val (.int (v0_k1 x4)), .val (.int (v0_k2 x4)), .val (.int (v0_L x5)), .val (.ref b1), .val (.ref b36), .val (.int (f3 (v0_L x5) (0 : Int32))), .val (.int (f3 (v0_L x5) (Int32.ofNat (0 + 1 + 1))))] []))
            refine g_iconst X50 hx (1 : Int32) 234 (hb hby at_233) rfl rfl ?_
            show Go p e below s _ _ _ (T50.setTop (mkF m 234 #[.val (.int x0), .val (.int x1), .val (.int x2), .val (.int x3), .val (.int x4), .val (.int x5), .val (.int (v0_k1 x4)), .val (.int (v0_k2 x4)), .val (.int (v0_L x5)), .val (.ref b1), .val (.ref b36), .val (.int (f3 (v0_L x5) (0 : Int32))), .val (.int (f3 (v0_L x5) (Int32.ofNat (0 + 1 + 1))))] [(.int (1 : Int32))]))
            refine g_goto X50 hx 238 (hb hby at_234) (by decide) rfl ?_
            show Go p e below s _ _ _ (T50.setTop (mkF m 238 #[.val (.int x0), .val (.int x1), .val (.int x2), .val (.int x3), .val (.int x4), .val (.int x5), .val (.int (v0_k1 x4)), .val (.int (v0_k2 x4)), .val (.int (v0_L x5)), .val (.ref b1), .val (.ref b36), .val (.int (f3 (v0_L x5) (0 : Int32))), .val (.int (f3 (v0_L x5) (Int32.ofNat (0 + 1 + 1))))] [(.int (1 : Int32))]))
            exact g_retN X50 hx hret (by simp) hlk (hb hby at_238) (by decide) (by decide) ⟨rfl, NS50⟩
        · show Go p e below s _ _ _ (T45.setTop (mkF m 191 #[.val (.int x0), .val (.int x1), .val (.int x2), .val (.int x3), .val (.int x4), .val (.int x5), .val (.int (v0_k1 x4)), .val (.int (v0_k2 x4)), .val (.int (v0_L x5)), .val (.ref b1), .val (.ref b36), .val (.int (f3 (v0_L x5) (0 : Int32))), .val (.int (f3 (v0_L x5) (Int32.ofNat (0 + 1 + 1))))] [(.int (f3 (v0_L x5) (Int32.ofNat (0 + 1 + 1))))]))
          refine g_iconst X45 hx (0 : Int32) 192 (hb hby at_191) rfl rfl ?_
          show Go p e below s _ _ _ (T45.setTop (mkF m 192 #[.val (.int x0), .val (.int x1), .val (.int x2), .val (.int x3), .val (.int x4), .val (.int x5), .val (.int (v0_k1 x4)), .val (.int (v0_k2 x4)), .val (.int (v0_L x5)), .val (.ref b1), .val (.ref b36), .val (.int (f3 (v0_L x5) (0 : Int32))), .val (.int (f3 (v0_L x5) (Int32.ofNat (0 + 1 + 1))))] [(.int (0 : Int32)), (.int (f3 (v0_L x5) (Int32.ofNat (0 + 1 + 1))))]))
          have h54 : (f3 (v0_L x5) (Int32.ofNat (0 + 1 + 1))) = (0 : Int32) := own_less (by rw [‹v0_k1 x4 = (2 : Int32)›]; rfl) ‹¬ v0_k1 x4 < v0_L x5›
          refine g_icmp_eq X45 hx 197 195 (hb hby at_192) (by decide) rfl rfl (fun _ => ?_) (fun q => absurd h54 q)
          show Go p e below s _ _ _ (T45.setTop (mkF m 197 #[.val (.int x0), .val (.int x1), .val (.int x2), .val (.int x3), .val (.int x4), .val (.int x5), .val (.int (v0_k1 x4)), .val (.int (v0_k2 x4)), .val (.int (v0_L x5)), .val (.ref b1), .val (.ref b36), .val (.int (f3 (v0_L x5) (0 : Int32))), .val (.int (f3 (v0_L x5) (Int32.ofNat (0 + 1 + 1))))] []))
          refine g_iload X45 hx 199 (hb hby at_197) rfl rfl ?_
          show Go p e below s _ _ _ (T45.setTop (mkF m 199 #[.val (.int x0), .val (.int x1), .val (.int x2), .val (.int x3), .val (.int x4), .val (.int x5), .val (.int (v0_k1 x4)), .val (.int (v0_k2 x4)), .val (.int (v0_L x5)), .val (.ref b1), .val (.ref b36), .val (.int (f3 (v0_L x5) (0 : Int32))), .val (.int (f3 (v0_L x5) (Int32.ofNat (0 + 1 + 1))))] [(.int (f3 (v0_L x5) (Int32.ofNat (0 + 1 + 1))))]))
          have h55 : (f3 (v0_L x5) (Int32.ofNat (0 + 1 + 1))) = (0 : Int32) := own_less (by rw [‹v0_k1 x4 = (2 : Int32)›]; rfl) ‹¬ v0_k1 x4 < v0_L x5›
          refine g_if0_ne X45 hx 204 202 (hb hby at_199) (by decide) rfl rfl (fun _ => ?_) (fun q => absurd h55 q)
          show Go p e below s _ _ _ (T45.setTop (mkF m 202 #[.val (.int x0), .val (.int x1), .val (.int x2), .val (.int x3), .val (.int x4), .val (.int x5), .val (.int (v0_k1 x4)), .val (.int (v0_k2 x4)), .val (.int (v0_L x5)), .val (.ref b1), .val (.ref b36), .val (.int (f3 (v0_L x5) (0 : Int32))), .val (.int (f3 (v0_L x5) (Int32.ofNat (0 + 1 + 1))))] []))
          refine g_iconst X45 hx (1 : Int32) 203 (hb hby at_202) rfl rfl ?_
          show Go p e below s _ _ _ (T45.setTop (mkF m 203 #[.val (.int x0), .val (.int x1), .val (.int x2), .val (.int x3), .val (.int x4), .val (.int x5), .val (.int (v0_k1 x4)), .val (.int (v0_k2 x4)), .val (.int (v0_L x5)), .val (.ref b1), .val (.ref b36), .val (.int (f3 (v0_L x5) (0 : Int32))), .val (.int (f3 (v0_L x5) (Int32.ofNat (0 + 1 + 1))))] [(.int (1 : Int32))]))
          exact g_retN X45 hx hret (by simp) hlk (hb hby at_203) (by decide) (by decide) ⟨rfl, NS45⟩
      · show Go p e below s _ _ _ (T38.setTop (mkF m 140 #[.val (.int x0), .val (.int x1), .val (.int x2), .val (.int x3), .val (.int x4), .val (.int x5), .val (.int (v0_k1 x4)), .val (.int (v0_k2 x4)), .val (.int (v0_L x5)), .val (.ref b1), .val (.ref b36), .val (.int (f3 (v0_L x5) (0 : Int32))), .unset] [(.int (f3 (v0_L x5) (0 : Int32)))]))
        refine g_iconst X38 hx (0 : Int32) 141 (hb hby at_140) rfl rfl ?_
        show Go p e below s _ _ _ (T38.setTop (mkF m 141 #[.val (.int x0), .val (.int x1), .val (.int x2), .val (.int x3), .val (.int x4), .val (.int x5), .val (.int (v0_k1 x4)), .val (.int (v0_k2 x4)), .val (.int (v0_L x5)), .val (.ref b1), .val (.ref b36), .val (.int (f3 (v0_L x5) (0 : Int32))), .unset] [(.int (0 : Int32)), (.int (f3 (v0_L x5) (0 : Int32)))]))
        have h56 : (f3 (v0_L x5) (0 : Int32)) = (0 : Int32) := own_less rfl ‹¬ (0 : Int32) < v0_L x5›
        refine g_icmp_eq X38 hx 146 144 (hb hby at_141) (by decide) rfl rfl (fun _ => ?_) (fun q => absurd h56 q)
        show Go p e below s _ _ _ (T38.setTop (mkF m 146 #[.val (.int x0), .val (.int x1), .val (.int x2), .val (.int x3), .val (.int x4), .val (.int x5), .val (.int (v0_k1 x4)), .val (.int (v0_k2 x4)), .val (.int (v0_L x5)), .val (.ref b1), .val (.ref b36), .val (.int (f3 (v0_L x5) (0 : Int32))), .unset] []))
        refine g_aload X38 hx 148 (hb hby at_146) rfl rfl rfl ?_
        show Go p e below s _ _ _ (T38.setTop (mkF m 148 #[.val (.int x0), .val (.int x1), .val (.int x2), .val (.int x3), .val (.int x4), .val (.int x5), .val (.int (v0_k1 x4)), .val (.int (v0_k2 x4)), .val (.int (v0_L x5)), .val (.ref b1), .val (.ref b36), .val (.int (f3 (v0_L x5) (0 : Int32))), .unset] [(.ref b36)]))
        refine g_callV X38 hx hZ hown (hw _ (List.mem_of_getElem? (i := 15) rfl)) (hw _ (List.mem_of_getElem? (i := 16) rfl)) (hw _ (List.mem_of_getElem? (i := 18) rfl)) (hw _ (List.mem_of_getElem? (i := 17) rfl)) (hw _ (List.mem_of_getElem? (i := 4) rfl)) (hw _ (List.mem_of_getElem? (i := 19) rfl)) (by decide) e38 b36 k37_4 (rm3 l Z a0 hw [] b36 (v0_L x5) (0 : Int32) T37.heap p37_1 p37_2) [] [] 0 rfl (lenOf pd__28_29Z rfl) rfl (Nat.le_of_eq rfl) (by decide) (by decide) (by decide) (by decide) (by rw [hml]; rfl) (hb hby at_148) ?_
        intro T57 L57 v57 X57 q57
        obtain ⟨rfl, rfl, e57⟩ := q57
        have NS57 := Fr.app NS38 (Fr.nil n0)
        show Go p e below s _ _ _ (T57.setTop (mkF m 151 #[.val (.int x0), .val (.int x1), .val (.int x2), .val (.int x3), .val (.int x4), .val (.int x5), .val (.int (v0_k1 x4)), .val (.int (v0_k2 x4)), .val (.int (v0_L x5)), .val (.ref b1), .val (.ref b36), .val (.int (f3 (v0_L x5) (0 : Int32))), .unset] [(.int (f3 (v0_L x5) (0 : Int32)))]))
        refine g_iload X57 hx 153 (hb hby at_151) rfl rfl ?_
        show Go p e below s _ _ _ (T57.setTop (mkF m 153 #[.val (.int x0), .val (.int x1), .val (.int x2), .val (.int x3), .val (.int x4), .val (.int x5), .val (.int (v0_k1 x4)), .val (.int (v0_k2 x4)), .val (.int (v0_L x5)), .val (.ref b1), .val (.ref b36), .val (.int (f3 (v0_L x5) (0 : Int32))), .unset] [(.int (f3 (v0_L x5) (0 : Int32))), (.int (f3 (v0_L x5) (0 : Int32)))]))
        have h58 : (f3 (v0_L x5) (0 : Int32)) = (f3 (v0_L x5) (0 : Int32)) := rfl
        refine g_icmp_eq X57 hx 158 156 (hb hby at_153) (by decide) rfl rfl (fun _ => ?_) (fun q => absurd h58 q)
        show Go p e below s _ _ _ (T57.setTop (mkF m 158 #[.val (.int x0), .val (.int x1), .val (.int x2), .val (.int x3), .val (.int x4), .val (.int x5), .val (.int (v0_k1 x4)), .val (.int (v0_k2 x4)), .val (.int (v0_L x5)), .val (.ref b1), .val (.ref b36), .val (.int (f3 (v0_L x5) (0 : Int32))), .unset] []))
        refine g_iload X57 hx 160 (hb hby at_158) rfl rfl ?_
        show Go p e below s _ _ _ (T57.setTop (mkF m 160 #[.val (.int x0), .val (.int x1), .val (.int x2), .val (.int x3), .val (.int x4), .val (.int x5), .val (.int (v0_k1 x4)), .val (.int (v0_k2 x4)), .val (.int (v0_L x5)), .val (.ref b1), .val (.ref b36), .val (.int (f3 (v0_L x5) (0 : Int32))), .unset] [(.int (f3 (v0_L x5) (0 : Int32)))]))
        have h59 : (f3 (v0_L x5) (0 : Int32)) = (0 : Int32) := own_less rfl ‹¬ (0 : Int32) < v0_L x5›
        refine g_if0_ne X57 hx 165 163 (hb hby at_160) (by decide) rfl rfl (fun _ => ?_) (fun q => absurd h59 q)
        show Go p e below s _ _ _ (T57.setTop (mkF m 163 #[.val (.int x0), .val (.int x1), .val (.int x2), .val (.int x3), .val (.int x4), .val (.int x5), .val (.int (v0_k1 x4)), .val (.int (v0_k2 x4)), .val (.int (v0_L x5)), .val (.ref b1), .val (.ref b36), .val (.int (f3 (v0_L x5) (0 : Int32))), .unset] []))
        refine g_iconst X57 hx (1 : Int32) 164 (hb hby at_163) rfl rfl ?_
        show Go p e below s _ _ _ (T57.setTop (mkF m 164 #[.val (.int x0), .val (.int x1), .val (.int x2), .val (.int x3), .val (.int x4), .val (.int x5), .val (.int (v0_k1 x4)), .val (.int (v0_k2 x4)), .val (.int (v0_L x5)), .val (.ref b1), .val (.ref b36), .val (.int (f3 (v0_L x5) (0 : Int32))), .unset] [(.int (1 : Int32))]))
        exact g_retN X57 hx hret (by simp) hlk (hb hby at_164) (by decide) (by decide) ⟨rfl, NS57⟩
  · show Go p e below s _ _ _ (T5.setTop (mkF m 87 #[.val (.int x0), .val (.int x1), .val (.int x2), .val (.int x3), .val (.int x4), .val (.int x5), .val (.int (v0_k1 x4)), .val (.int (v0_k2 x4)), .val (.int (v0_L x5)), .val (.ref b1), .unset, .unset, .unset] []))
    refine g_iload X5 hx 89 (hb hby at_87) rfl rfl ?_
    show Go p e below s _ _ _ (T5.setTop (mkF m 89 #[.val (.int x0), .val (.int x1), .val (.int x2), .val (.int x3), .val (.int x4), .val (.int x5), .val (.int (v0_k1 x4)), .val (.int (v0_k2 x4)), .val (.int (v0_L x5)), .val (.ref b1), .unset, .unset, .unset] [(.int (v0_k2 x4))]))
    refine g_iconst X5 hx (2 : Int32) 90 (hb hby at_89) rfl rfl ?_
    show Go p e below s _ _ _ (T5.setTop (mkF m 90 #[.val (.int x0), .val (.int x1), .val (.int x2), .val (.int x3), .val (.int x4), .val (.int x5), .val (.int (v0_k1 x4)), .val (.int (v0_k2 x4)), .val (.int (v0_L x5)), .val (.ref b1), .unset, .unset, .unset] [(.int (2 : Int32)), (.int (v0_k2 x4))]))
    refine g_icmp_ne X5 hx 108 93 (hb hby at_90) (by decide) rfl rfl (fun h60 => ?_) (fun h60 => ?_)
    · show Go p e below s _ _ _ (T5.setTop (mkF m 93 #[.val (.int x0), .val (.int x1), .val (.int x2), .val (.int x3), .val (.int x4), .val (.int x5), .val (.int (v0_k1 x4)), .val (.int (v0_k2 x4)), .val (.int (v0_L x5)), .val (.ref b1), .unset, .unset, .unset] []))
      refine g_aload X5 hx 95 (hb hby at_93) rfl rfl rfl ?_
      show Go p e below s _ _ _ (T5.setTop (mkF m 95 #[.val (.int x0), .val (.int x1), .val (.int x2), .val (.int x3), .val (.int x4), .val (.int x5), .val (.int (v0_k1 x4)), .val (.int (v0_k2 x4)), .val (.int (v0_L x5)), .val (.ref b1), .unset, .unset, .unset] [(.ref b1)]))
      refine g_iload X5 hx 97 (hb hby at_95) rfl rfl ?_
      show Go p e below s _ _ _ (T5.setTop (mkF m 97 #[.val (.int x0), .val (.int x1), .val (.int x2), .val (.int x3), .val (.int x4), .val (.int x5), .val (.int (v0_k1 x4)), .val (.int (v0_k2 x4)), .val (.int (v0_L x5)), .val (.ref b1), .unset, .unset, .unset] [(.int (v0_k1 x4)), (.ref b1)]))
      refine g_aload X5 hx 99 (hb hby at_97) rfl rfl rfl ?_
      show Go p e below s _ _ _ (T5.setTop (mkF m 99 #[.val (.int x0), .val (.int x1), .val (.int x2), .val (.int x3), .val (.int x4), .val (.int x5), .val (.int (v0_k1 x4)), .val (.int (v0_k2 x4)), .val (.int (v0_L x5)), .val (.ref b1), .unset, .unset, .unset] [(.ref b1), (.int (v0_k1 x4)), (.ref b1)]))
      refine g_iload X5 hx 101 (hb hby at_99) rfl rfl ?_
      show Go p e below s _ _ _ (T5.setTop (mkF m 101 #[.val (.int x0), .val (.int x1), .val (.int x2), .val (.int x3), .val (.int x4), .val (.int x5), .val (.int (v0_k1 x4)), .val (.int (v0_k2 x4)), .val (.int (v0_L x5)), .val (.ref b1), .unset, .unset, .unset] [(.int (v0_k1 x4)), (.ref b1), (.int (v0_k1 x4)), (.ref b1)]))
      refine g_baload X5 hx hZ e5 A5 1 (by rw [(own_k1 ‹¬ v0_k1 x4 = (2 : Int32)›)]; rfl) (by decide) 102 (hb hby at_101) rfl ?_
      show Go p e below s _ _ _ (T5.setTop (mkF m 102 #[.val (.int x0), .val (.int x1), .val (.int x2), .val (.int x3), .val (.int x4), .val (.int x5), .val (.int (v0_k1 x4)), .val (.int (v0_k2 x4)), .val (.int (v0_L x5)), .val (.ref b1), .unset, .unset, .unset] [(.int ((upd (upd (upd (upd (fun _ => (0 : Int32)) 0 (i2bI (i2bI (x0 &&& (127 : Int32))))) 1 (i2bI (i2bI (x1 &&& (127 : Int32))))) 2 (i2bI (i2bI (x2 &&& (127 : Int32))))) 3 (i2bI (i2bI (x3 &&& (127 : Int32))))) 1)), (.int (v0_k1 x4)), (.ref b1)]))
      refine g_sipush X5 hx (128 : Int32) 105 (hb hby at_102) rfl rfl ?_
      show Go p e below s _ _ _ (T5.setTop (mkF m 105 #[.val (.int x0), .val (.int x1), .val (.int x2), .val (.int x3), .val (.int x4), .val (.int x5), .val (.int (v0_k1 x4)), .val (.int (v0_k2 x4)), .val (.int (v0_L x5)), .val (.ref b1), .unset, .unset, .unset] [(.int (128 : Int32)), (.int ((upd (upd (upd (upd (fun _ => (0 : Int32)) 0 (i2bI (i2bI (x0 &&& (127 : Int32))))) 1 (i2bI (i2bI (x1 &&& (127 : Int32))))) 2 (i2bI (i2bI (x2 &&& (127 : Int32))))) 3 (i2bI (i2bI (x3 &&& (127 : Int32))))) 1)), (.int (v0_k1 x4)), (.ref b1)]))
      refine g_ior X5 hx 106 (hb hby at_105) rfl ?_
      show Go p e below s _ _ _ (T5.setTop (mkF m 106 #[.val (.int x0), .val (.int x1), .val (.int x2), .val (.int x3), .val (.int x4), .val (.int x5), .val (.int (v0_k1 x4)), .val (.int (v0_k2 x4)), .val (.int (v0_L x5)), .val (.ref b1), .unset, .unset, .unset] [(.int (((upd (upd (upd (upd (fun _ => (0 : Int32)) 0 (i2bI (i2bI (x0 &&& (127 : Int32))))) 1 (i2bI (i2bI (x1 &&& (127 : Int32))))) 2 (i2bI (i2bI (x2 &&& (127 : Int32))))) 3 (i2bI (i2bI (x3 &&& (127 : Int32))))) 1) ||| (128 : Int32))), (.int (v0_k1 x4)), (.ref b1)]))
      refine g_i2b X5 hx 107 (hb hby at_106) rfl ?_
      show Go p e below s _ _ _ (T5.setTop (mkF m 107 #[.val (.int x0), .val (.int x1), .val (.int x2), .val (.int x3), .val (.int x4), .val (.int x5), .val (.int (v0_k1 x4)), .val (.int (v0_k2 x4)), .val (.int (v0_L x5)), .val (.ref b1), .unset, .unset, .unset] [(.int (i2bI (((upd (upd (upd (upd (fun _ => (0 : Int32)) 0 (i2bI (i2bI (x0 &&& (127 : Int32))))) 1 (i2bI (i2bI (x1 &&& (127 : Int32))))) 2 (i2bI (i2bI (x2 &&& (127 : Int32))))) 3 (i2bI (i2bI (x3 &&& (127 : Int32))))) 1) ||| (128 : Int32)))), (.int (v0_k1 x4)), (.ref b1)]))
      refine g_bastore X5 hx hZ e5 A5 1 (by rw [(own_k1 ‹¬ v0_k1 x4 = (2 : Int32)›)]; rfl) (by decide) 108 (hb hby at_107) rfl ?_
      intro T62 h62 X62 e62 W62 A62
      have N62 := Fr.snoc X62 N5 N_b1
      have Z62 : n0 ≤ h62.size := by rw [W62.size]; exact Z5
      show Go p e below s _ _ _ (T62.setTop (mkF m 108 #[.val (.int x0), .val (.int x1), .val (.int x2), .val (.int x3), .val (.int x4), .val (.int x5), .val (.int (v0_k1 x4)), .val (.int (v0_k2 x4)), .val (.int (v0_L x5)), .val (.ref b1), .unset, .unset, .unset] []))
      refine g_new X62 hx hZ hown (hw _ (List.mem_of_getElem? (i := 2) rfl)) (hw _ (List.mem_of_getElem? (i := 3) rfl)) (hw _ (List.mem_of_getElem? (i := 4) rfl)) e62 111 (hb hby at_108) (by decide) (by decide) rfl ?_
      intro T63 h63 b63 g63 X63 e63 E63 A63 D63
      have N_b63 : n0 ≤ b63 := Nat.le_trans Z62 (Nat.le_of_eq g63.symm)
      have ne_b1_b63 : b1 ≠ b63 := Nat.ne_of_lt (Nat.lt_of_lt_of_le A62.lt (Nat.le_of_eq g63.symm))
      have k63_1 := A62.ext E63
      have Z63 : n0 ≤ h63.size := Nat.le_trans Z62 E63.1
      have F63_bytes : Fld Z h63 b63 "com/example/terms_in_context/termsincontext/index/VarIntInput" "bytes" "[B" .null := D63 (Or.inr (hw _ (List.mem_of_getElem? (i := 12) rfl))) (ty := (.array .byte)) (by decide)
      have F63_length : Fld Z h63 b63 "com/example/terms_in_context/termsincontext/index/VarIntInput" "length" "I" (.int (0 : Int32)) := D63 (Or.inr (hw _ (List.mem_of_getElem? (i := 14) rfl))) (ty := .int) (by decide)
      have F63_offset : Fld Z h63 b63 "com/example/terms_in_context/termsincontext/index/VarIntInput" "offset" "I" (.int (0 : Int32)) := D63 (Or.inl (hw _ (List.mem_of_getElem? (i := 21) rfl))) (ty := .int) (by decide)
      show Go p e below s _ _ _ (T63.setTop (mkF m 111 #[.val (.int x0), .val (.int x1), .val (.int x2), .val (.int x3), .val (.int x4), .val (.int x5), .val (.int (v0_k1 x4)), .val (.int (v0_k2 x4)), .val (.int (v0_L x5)), .val (.ref b1), .unset, .unset, .unset] [(.ref b63)]))
      refine g_dup X63 hx 112 (hb hby at_111) rfl rfl ?_
      show Go p e below s _ _ _ (T63.setTop (mkF m 112 #[.val (.int x0), .val (.int x1), .val (.int x2), .val (.int x3), .val (.int x4), .val (.int x5), .val (.int (v0_k1 x4)), .val (.int (v0_k2 x4)), .val (.int (v0_L x5)), .val (.ref b1), .unset, .unset, .unset] [(.ref b63), (.ref b63)]))
      refine g_aload X63 hx 114 (hb hby at_112) rfl rfl rfl ?_
      show Go p e below s _ _ _ (T63.setTop (mkF m 114 #[.val (.int x0), .val (.int x1), .val (.int x2), .val (.int x3), .val (.int x4), .val (.int x5), .val (.int (v0_k1 x4)), .val (.int (v0_k2 x4)), .val (.int (v0_L x5)), .val (.ref b1), .unset, .unset, .unset] [(.ref b1), (.ref b63), (.ref b63)]))
      refine g_iload X63 hx 116 (hb hby at_114) rfl rfl ?_
      show Go p e below s _ _ _ (T63.setTop (mkF m 116 #[.val (.int x0), .val (.int x1), .val (.int x2), .val (.int x3), .val (.int x4), .val (.int x5), .val (.int (v0_k1 x4)), .val (.int (v0_k2 x4)), .val (.int (v0_L x5)), .val (.ref b1), .unset, .unset, .unset] [(.int (v0_L x5)), (.ref b1), (.ref b63), (.ref b63)]))
      refine g_callI X63 hx hZ rfl hown (hw _ (List.mem_of_getElem? (i := 5) rfl)) (hw _ (List.mem_of_getElem? (i := 6) rfl)) (hw _ (List.mem_of_getElem? (i := 4) rfl)) (hw _ (List.mem_of_getElem? (i := 7) rfl)) (by decide) e63 (rm1 l Z a0 hw [] b63 b1 (v0_L x5) h63 n0 Z63 A63 F63_bytes F63_length F63_offset N_b63) b63 [(.ref b1), (.int (v0_L x5))] [(.ref b63)] 1 rfl (lenOf pd__28_5bBI_29V rfl) rfl (Nat.le_of_eq rfl) (by decide) (by decide) (by decide) (by decide) (by rw [hml]; rfl) (hb hby at_116) ?_
      intro T64 L64 v64 X64 q64
      obtain ⟨rfl, N64, K64, p64_0, p64_1, p64_2⟩ := q64
      have NN64 := Fr.app N62 N64
      have k64_1 := k63_1.keep K64 (nm1 ne_b1_b63 nm0)
      have k64_4 := A63.keep K64
      have Z64 : n0 ≤ T64.heap.size := Nat.le_trans Z63 K64.1
      show Go p e below s _ _ _ (T64.setTop (mkF m 119 #[.val (.int x0), .val (.int x1), .val (.int x2), .val (.int x3), .val (.int x4), .val (.int x5), .val (.int (v0_k1 x4)), .val (.int (v0_k2 x4)), .val (.int (v0_L x5)), .val (.ref b1), .unset, .unset, .unset] [(.ref b63)]))
      refine g_astore X64 hx #[.val (.int x0), .val (.int x1), .val (.int x2), .val (.int x3), .val (.int x4), .val (.int x5), .val (.int (v0_k1 x4)), .val (.int (v0_k2 x4)), .val (.int (v0_L x5)), .val (.ref b1), .val (.ref b63), .unset, .unset] 121 (hb hby at_119) rfl rfl rfl ?_
      show Go p e below s _ _ _ (T64.setTop (mkF m 121 #[.val (.int x0), .val (.int x1), .val (.int x2), .val (.int x3), .val (.int x4), .val (.int x5), .val (.int (v0_k1 x4)), .val (.int (v0_k2 x4)), .val (.int (v0_L x5)), .val (.ref b1), .val (.ref b63), .unset, .unset] []))
      refine g_aload X64 hx 123 (hb hby at_121) rfl rfl rfl ?_
      show Go p e below s _ _ _ (T64.setTop (mkF m 123 #[.val (.int x0), .val (.int x1), .val (.int x2), .val (.int x3), .val (.int x4), .val (.int x5), .val (.int (v0_k1 x4)), .val (.int (v0_k2 x4)), .val (.int (v0_L x5)), .val (.ref b1), .val (.ref b63), .unset, .unset] [(.ref b63)]))
      refine g_callV X64 hx hZ hown (hw _ (List.mem_of_getElem? (i := 15) rfl)) (hw _ (List.mem_of_getElem? (i := 16) rfl)) (hw _ (List.mem_of_getElem? (i := 18) rfl)) (hw _ (List.mem_of_getElem? (i := 17) rfl)) (hw _ (List.mem_of_getElem? (i := 4) rfl)) (hw _ (List.mem_of_getElem? (i := 19) rfl)) (by decide) rfl b63 k64_4 (rm3 l Z a0 hw [] b63 (v0_L x5) (0 : Int32) T64.heap p64_1 p64_2) [] [] 0 rfl (lenOf pd__28_29Z rfl) rfl (Nat.le_of_eq rfl) (by decide) (by decide) (by decide) (by decide) (by rw [hml]; rfl) (hb hby at_123) ?_
      intro T65 L65 v65 X65 q65
      obtain ⟨rfl, rfl, e65⟩ := q65
      have NS65 := Fr.app NN64 (Fr.nil n0)
      show Go p e below s _ _ _ (T65.setTop (mkF m 126 #[.val (.int x0), .val (.int x1), .val (.int x2), .val (.int x3), .val (.int x4), .val (.int x5), .val (.int (v0_k1 x4)), .val (.int (v0_k2 x4)), .val (.int (v0_L x5)), .val (.ref b1), .val (.ref b63), .unset, .unset] [(.int (f3 (v0_L x5) (0 : Int32)))]))
      refine g_istore X65 hx #[.val (.int x0), .val (.int x1), .val (.int x2), .val (.int x3), .val (.int x4), .val (.int x5), .val (.int (v0_k1 x4)), .val (.int (v0_k2 x4)), .val (.int (v0_L x5)), .val (.ref b1), .val (.ref b63), .val (.int (f3 (v0_L x5) (0 : Int32))), .unset] 128 (hb hby at_126) rfl rfl ?_
      show Go p e below s _ _ _ (T65.setTop (mkF m 128 #[.val (.int x0), .val (.int x1), .val (.int x2), .val (.int x3), .val (.int x4), .val (.int x5), .val (.int (v0_k1 x4)), .val (.int (v0_k2 x4)), .val (.int (v0_L x5)), .val (.ref b1), .val (.ref b63), .val (.int (f3 (v0_L x5) (0 : Int32))), .unset] []))
      refine g_iload X65 hx 130 (hb hby at_128) rfl rfl ?_
      show Go p e below s _ _ _ (T65.setTop (mkF m 130 #[.val (.int x0), .val (.int x1), .val (.int x2), .val (.int x3), .val (.int x4), .val (.int x5), .val (.int (v0_k1 x4)), .val (.int (v0_k2 x4)), .val (.int (v0_L x5)), .val (.ref b1), .val (.ref b63), .val (.int (f3 (v0_L x5) (0 : Int32))), .unset] [(.int (f3 (v0_L x5) (0 : Int32)))]))
      refine g_iconst X65 hx (0 : Int32) 131 (hb hby at_130) rfl rfl ?_
      show Go p e below s _ _ _ (T65.setTop (mkF m 131 #[.val (.int x0), .val (.int x1), .val (.int x2), .val (.int x3), .val (.int x4), .val (.int x5), .val (.int (v0_k1 x4)), .val (.int (v0_k2 x4)), .val (.int (v0_L x5)), .val (.ref b1), .val (.ref b63), .val (.int (f3 (v0_L x5) (0 : Int32))), .unset] [(.int (0 : Int32)), (.int (f3 (v0_L x5) (0 : Int32)))]))
      refine g_iload X65 hx 133 (hb hby at_131) rfl rfl ?_
      show Go p e below s _ _ _ (T65.setTop (mkF m 133 #[.val (.int x0), .val (.int x1), .val (.int x2), .val (.int x3), .val (.int x4), .val (.int x5), .val (.int (v0_k1 x4)), .val (.int (v0_k2 x4)), .val (.int (v0_L x5)), .val (.ref b1), .val (.ref b63), .val (.int (f3 (v0_L x5) (0 : Int32))), .unset] [(.int (v0_L x5)), (.int (0 : Int32)), (.int (f3 (v0_L x5) (0 : Int32)))]))
      refine g_icmp_ge X65 hx 140 136 (hb hby at_133) (by decide) rfl rfl (fun h66 => ?_) (fun h66 => ?_)
      · show Go p e below s _ _ _ (T65.setTop (mkF m 136 #[.val (.int x0), .val (.int x1), .val (.int x2), .val (.int x3), .val (.int x4), .val (.int x5), .val (.int (v0_k1 x4)), .val (.int (v0_k2 x4)), .val (.int (v0_L x5)), .val (.ref b1), .val (.ref b63), .val (.int (f3 (v0_L x5) (0 : Int32))), .unset] [(.int (f3 (v0_L x5) (0 : Int32)))]))
        refine g_iconst X65 hx (1 : Int32) 137 (hb hby at_136) rfl rfl ?_
        show Go p e below s _ _ _ (T65.setTop (mkF m 137 #[.val (.int x0), .val (.int x1), .val (.int x2), .val (.int x3), .val (.int x4), .val (.int x5), .val (.int (v0_k1 x4)), .val (.int (v0_k2 x4)), .val (.int (v0_L x5)), .val (.ref b1), .val (.ref b63), .val (.int (f3 (v0_L x5) (0 : Int32))), .unset] [(.int (1 : Int32)), (.int (f3 (v0_L x5) (0 : Int32)))]))
        refine g_goto X65 hx 141 (hb hby at_137) (by decide) rfl ?_
        show Go p e below s _ _ _ (T65.setTop (mkF m 141 #[.val (.int x0), .val (.int x1), .val (.int x2), .val (.int x3), .val (.int x4), .val (.int x5), .val (.int (v0_k1 x4)), .val (.int (v0_k2 x4)), .val (.int (v0_L x5)), .val (.ref b1), .val (.ref b63), .val (.int (f3 (v0_L x5) (0 : Int32))), .unset] [(.int (1 : Int32)), (.int (f3 (v0_L x5) (0 : Int32)))]))
        have h67 : (f3 (v0_L x5) (0 : Int32)) = (1 : Int32) := own_more rfl ‹(0 : Int32) < v0_L x5›
        refine g_icmp_eq X65 hx 146 144 (hb hby at_141) (by decide) rfl rfl (fun _ => ?_) (fun q => absurd h67 q)
        show Go p e below s _ _ _ (T65.setTop (mkF m 146 #[.val (.int x0), .val (.int x1), .val (.int x2), .val (.int x3), .val (.int x4), .val (.int x5), .val (.int (v0_k1 x4)), .val (.int (v0_k2 x4)), .val (.int (v0_L x5)), .val (.ref b1), .val (.ref b63), .val (.int (f3 (v0_L x5) (0 : Int32))), .unset] []))
        refine g_aload X65 hx 148 (hb hby at_146) rfl rfl rfl ?_
        show Go p e below s _ _ _ (T65.setTop (mkF m 148 #[.val (.int x0), .val (.int x1), .val (.int x2), .val (.int x3), .val (.int x4), .val (.int x5), .val (.int (v0_k1 x4)), .val (.int (v0_k2 x4)), .val (.int (v0_L x5)), .val (.ref b1), .val (.ref b63), .val (.int (f3 (v0_L x5) (0 : Int32))), .unset] [(.ref b63)]))
        refine g_callV X65 hx hZ hown (hw _ (List.mem_of_getElem? (i := 15) rfl)) (hw _ (List.mem_of_getElem? (i := 16) rfl)) (hw _ (List.mem_of_getElem? (i := 18) rfl)) (hw _ (List.mem_of_getElem? (i := 17) rfl)) (hw _ (List.mem_of_getElem? (i := 4) rfl)) (hw _ (List.mem_of_getElem? (i := 19) rfl)) (by decide) e65 b63 k64_4 (rm3 l Z a0 hw [] b63 (v0_L x5) (0 : Int32) T64.heap p64_1 p64_2) [] [] 0 rfl (lenOf pd__28_29Z rfl) rfl (Nat.le_of_eq rfl) (by decide) (by decide) (by decide) (by decide) (by rw [hml]; rfl) (hb hby at_148) ?_
        intro T68 L68 v68 X68 q68
        obtain ⟨rfl, rfl, e68⟩ := q68
        have NS68 := Fr.app NS65 (Fr.nil n0)
        show Go p e below s _ _ _ (T68.setTop (mkF m 151 #[.val (.int x0), .val (.int x1), .val (.int x2), .val (.int x3), .val (.int x4), .val (.int x5), .val (.int (v0_k1 x4)), .val (.int (v0_k2 x4)), .val (.int (v0_L x5)), .val (.ref b1), .val (.ref b63), .val (.int (f3 (v0_L x5) (0 : Int32))), .unset] [(.int (f3 (v0_L x5) (0 : Int32)))]))
        refine g_iload X68 hx 153 (hb hby at_151) rfl rfl ?_
        show Go p e below s _ _ _ (T68.setTop (mkF m 153 #[.val (.int x0), .val (.int x1), .val (.int x2), .val (.int x3), .val (.int x4), .val (.int x5), .val (.int (v0_k1 x4)), .val (.int (v0_k2 x4)), .val (.int (v0_L x5)), .val (.ref b1), .val (.ref b63), .val (.int (f3 (v0_L x5) (0 : Int32))), .unset] [(.int (f3 (v0_L x5) (0 : Int32))), (.int (f3 (v0_L x5) (0 : Int32)))]))
        have h69 : (f3 (v0_L x5) (0 : Int32)) = (f3 (v0_L x5) (0 : Int32)) := rfl
        refine g_icmp_eq X68 hx 158 156 (hb hby at_153) (by decide) rfl rfl (fun _ => ?_) (fun q => absurd h69 q)
        show Go p e below s _ _ _ (T68.setTop (mkF m 158 #[.val (.int x0), .val (.int x1), .val (.int x2), .val (.int x3), .val (.int x4), .val (.int x5), .val (.int (v0_k1 x4)), .val (.int (v0_k2 x4)), .val (.int (v0_L x5)), .val (.ref b1), .val (.ref b63), .val (.int (f3 (v0_L x5) (0 : Int32))), .unset] []))
        refine g_iload X68 hx 160 (hb hby at_158) rfl rfl ?_
        show Go p e below s _ _ _ (T68.setTop (mkF m 160 #[.val (.int x0), .val (.int x1), .val (.int x2), .val (.int x3), .val (.int x4), .val (.int x5), .val (.int (v0_k1 x4)), .val (.int (v0_k2 x4)), .val (.int (v0_L x5)), .val (.ref b1), .val (.ref b63), .val (.int (f3 (v0_L x5) (0 : Int32))), .unset] [(.int (f3 (v0_L x5) (0 : Int32)))]))
        have h70 : ¬ ((f3 (v0_L x5) (0 : Int32)) = (0 : Int32)) := fun q => absurd ((own_more rfl ‹(0 : Int32) < v0_L x5›).symm.trans q) (by decide)
        refine g_if0_ne X68 hx 165 163 (hb hby at_160) (by decide) rfl rfl (fun q => absurd q h70) (fun _ => ?_)
        show Go p e below s _ _ _ (T68.setTop (mkF m 165 #[.val (.int x0), .val (.int x1), .val (.int x2), .val (.int x3), .val (.int x4), .val (.int x5), .val (.int (v0_k1 x4)), .val (.int (v0_k2 x4)), .val (.int (v0_L x5)), .val (.ref b1), .val (.ref b63), .val (.int (f3 (v0_L x5) (0 : Int32))), .unset] []))
        refine g_aload X68 hx 167 (hb hby at_165) rfl rfl rfl ?_
        show Go p e below s _ _ _ (T68.setTop (mkF m 167 #[.val (.int x0), .val (.int x1), .val (.int x2), .val (.int x3), .val (.int x4), .val (.int x5), .val (.int (v0_k1 x4)), .val (.int (v0_k2 x4)), .val (.int (v0_L x5)), .val (.ref b1), .val (.ref b63), .val (.int (f3 (v0_L x5) (0 : Int32))), .unset] [(.ref b63)]))
        refine g_callV X68 hx hZ hown (hw _ (List.mem_of_getElem? (i := 22) rfl)) (hw _ (List.mem_of_getElem? (i := 23) rfl)) (hw _ (List.mem_of_getElem? (i := 25) rfl)) (hw _ (List.mem_of_getElem? (i := 24) rfl)) (hw _ (List.mem_of_getElem? (i := 4) rfl)) (hw _ (List.mem_of_getElem? (i := 26) rfl)) (by decide) e68 b63 k64_4 (rm4 l Z a0 hw [] b63 b1 (v0_L x5) (0 : Int32) 4 (upd (upd (upd (upd (upd (fun _ => (0 : Int32)) 0 (i2bI (i2bI (x0 &&& (127 : Int32))))) 1 (i2bI (i2bI (x1 &&& (127 : Int32))))) 2 (i2bI (i2bI (x2 &&& (127 : Int32))))) 3 (i2bI (i2bI (x3 &&& (127 : Int32))))) 1 (i2bI (i2bI (((upd (upd (upd (upd (fun _ => (0 : Int32)) 0 (i2bI (i2bI (x0 &&& (127 : Int32))))) 1 (i2bI (i2bI (x1 &&& (127 : Int32))))) 2 (i2bI (i2bI (x2 &&& (127 : Int32))))) 3 (i2bI (i2bI (x3 &&& (127 : Int32))))) 1) ||| (128 : Int32))))) 0 0 T64.heap n0 Z64 k64_4 p64_0 p64_1 p64_2 k64_1 N_b63 (Ne.symm ne_b1_b63) (rfl : (0 : Int32).toInt = 0) (by decide : 0 + 0 < 4) (fun j hj => absurd hj (Nat.not_lt_zero j) : ∀ j, j < 0 → (upd (upd (upd (upd (upd (fun _ => (0 : Int32)) 0 (i2bI (i2bI (x0 &&& (127 : Int32))))) 1 (i2bI (i2bI (x1 &&& (127 : Int32))))) 2 (i2bI (i2bI (x2 &&& (127 : Int32))))) 3 (i2bI (i2bI (x3 &&& (127 : Int32))))) 1 (i2bI (i2bI (((upd (upd (upd (upd (fun _ => (0 : Int32)) 0 (i2bI (i2bI (x0 &&& (127 : Int32))))) 1 (i2bI (i2bI (x1 &&& (127 : Int32))))) 2 (i2bI (i2bI (x2 &&& (127 : Int32))))) 3 (i2bI (i2bI (x3 &&& (127 : Int32))))) 1) ||| (128 : Int32))))) (0 + j) < 0) (own_b7 _ : ¬ (upd (upd (upd (upd (upd (fun _ => (0 : Int32)) 0 (i2bI (i2bI (x0 &&& (127 : Int32))))) 1 (i2bI (i2bI (x1 &&& (127 : Int32))))) 2 (i2bI (i2bI (x2 &&& (127 : Int32))))) 3 (i2bI (i2bI (x3 &&& (127 : Int32))))) 1 (i2bI (i2bI (((upd (upd (upd (upd (fun _ => (0 : Int32)) 0 (i2bI (i2bI (x0 &&& (127 : Int32))))) 1 (i2bI (i2bI (x1 &&& (127 : Int32))))) 2 (i2bI (i2bI (x2 &&& (127 : Int32))))) 3 (i2bI (i2bI (x3 &&& (127 : Int32))))) 1) ||| (128 : Int32))))) (0 + 0) < 0)) [] [] 0 rfl (lenOf pd__28_29I rfl) rfl (Nat.le_of_eq rfl) (by decide) (by decide) (by decide) (by decide) (by rw [hml]; rfl) (hb hby at_167) ?_
        intro T71 L71 v71 X71 q71
        obtain ⟨rfl, N71, K71, p71_0, p71_1, p71_2⟩ := q71
        have NN71 := Fr.app NS68 N71
        have k71_1 := k64_1.keep K71 (nm1 ne_b1_b63 nm0)
        have k71_4 := k64_4.keep K71
        have Z71 : n0 ≤ T71.heap.size := Nat.le_trans Z64 K71.1
        show Go p e below s _ _ _ (T71.setTop (mkF m 170 #[.val (.int x0), .val (.int x1), .val (.int x2), .val (.int x3), .val (.int x4), .val (.int x5), .val (.int (v0_k1 x4)), .val (.int (v0_k2 x4)), .val (.int (v0_L x5)), .val (.ref b1), .val (.ref b63), .val (.int (f3 (v0_L x5) (0 : Int32))), .unset] [(.int (own_rd (upd (upd (upd (upd (upd (fun _ => (0 : Int32)) 0 (i2bI (i2bI (x0 &&& (127 : Int32))))) 1 (i2bI (i2bI (x1 &&& (127 : Int32))))) 2 (i2bI (i2bI (x2 &&& (127 : Int32))))) 3 (i2bI (i2bI (x3 &&& (127 : Int32))))) 1 (i2bI (i2bI (((upd (upd (upd (upd (fun _ => (0 : Int32)) 0 (i2bI (i2bI (x0 &&& (127 : Int32))))) 1 (i2bI (i2bI (x1 &&& (127 : Int32))))) 2 (i2bI (i2bI (x2 &&& (127 : Int32))))) 3 (i2bI (i2bI (x3 &&& (127 : Int32))))) 1) ||| (128 : Int32))))) 0 0 0 0))]))
        refine g_pop X71 hx 171 (hb hby at_170) rfl rfl ?_
        show Go p e below s _ _ _ (T71.setTop (mkF m 171 #[.val (.int x0), .val (.int x1), .val (.int x2), .val (.int x3), .val (.int x4), .val (.int x5), .val (.int (v0_k1 x4)), .val (.int (v0_k2 x4)), .val (.int (v0_L x5)), .val (.ref b1), .val (.ref b63), .val (.int (f3 (v0_L x5) (0 : Int32))), .unset] []))
        refine g_aload X71 hx 173 (hb hby at_171) rfl rfl rfl ?_
        show Go p e below s _ _ _ (T71.setTop (mkF m 173 #[.val (.int x0), .val (.int x1), .val (.int x2), .val (.int x3), .val (.int x4), .val (.int x5), .val (.int (v0_k1 x4)), .val (.int (v0_k2 x4)), .val (.int (v0_L x5)), .val (.ref b1), .val (.ref b63), .val (.int (f3 (v0_L x5) (0 : Int32))), .unset] [(.ref b63)]))
        refine g_callV X71 hx hZ hown (hw _ (List.mem_of_getElem? (i := 15) rfl)) (hw _ (List.mem_of_getElem? (i := 16) rfl)) (hw _ (List.mem_of_getElem? (i := 18) rfl)) (hw _ (List.mem_of_getElem? (i := 17) rfl)) (hw _ (List.mem_of_getElem? (i := 4) rfl)) (hw _ (List.mem_of_getElem? (i := 19) rfl)) (by decide) rfl b63 k71_4 (rm3 l Z a0 hw [] b63 (v0_L x5) (Int32.ofNat (0 + 0 + 1)) T71.heap p71_1 p71_2) [] [] 0 rfl (lenOf pd__28_29Z rfl) rfl (Nat.le_of_eq rfl) (by decide) (by decide) (by decide) (by decide) (by rw [hml]; rfl) (hb hby at_173) ?_
        intro T72 L72 v72 X72 q72
        obtain ⟨rfl, rfl, e72⟩ := q72
        have NS72 := Fr.app NN71 (Fr.nil n0)
        show Go p e below s _ _ _ (T72.setTop (mkF m 176 #[.val (.int x0), .val (.int x1), .val (.int x2), .val (.int x3), .val (.int x4), .val (.int x5), .val (.int (v0_k1 x4)), .val (.int (v0_k2 x4)), .val (.int (v0_L x5)), .val (.ref b1), .val (.ref b63), .val (.int (f3 (v0_L x5) (0 : Int32))), .unset] [(.int (f3 (v0_L x5) (Int32.ofNat (0 + 0 + 1))))]))
        refine g_istore X72 hx #[.val (.int x0), .val (.int x1), .val (.int x2), .val (.int x3), .val (.int x4), .val (.int x5), .val (.int (v0_k1 x4)), .val (.int (v0_k2 x4)), .val (.int (v0_L x5)), .val (.ref b1), .val (.ref b63), .val (.int (f3 (v0_L x5) (0 : Int32))), .val (.int (f3 (v0_L x5) (Int32.ofNat (0 + 0 + 1))))] 178 (hb hby at_176) rfl rfl ?_
        show Go p e below s _ _ _ (T72.setTop (mkF m 178 #[.val (.int x0), .val (.int x1), .val (.int x2), .val (.int x3), .val (.int x4), .val (.int x5), .val (.int (v0_k1 x4)), .val (.int (v0_k2 x4)), .val (.int (v0_L x5)), .val (.ref b1), .val (.ref b63), .val (.int (f3 (v0_L x5) (0 : Int32))), .val (.int (f3 (v0_L x5) (Int32.ofNat (0 + 0 + 1))))] []))
        refine g_iload X72 hx 180 (hb hby at_178) rfl rfl ?_
        show Go p e below s _ _ _ (T72.setTop (mkF m 180 #[.val (.int x0), .val (.int x1), .val (.int x2), .val (.int x3), .val (.int x4), .val (.int x5), .val (.int (v0_k1 x4)), .val (.int (v0_k2 x4)), .val (.int (v0_L x5)), .val (.ref b1), .val (.ref b63), .val (.int (f3 (v0_L x5) (0 : Int32))), .val (.int (f3 (v0_L x5) (Int32.ofNat (0 + 0 + 1))))] [(.int (f3 (v0_L x5) (Int32.ofNat (0 + 0 + 1))))]))
        refine g_iload X72 hx 182 (hb hby at_180) rfl rfl ?_
        show Go p e below s _ _ _ (T72.setTop (mkF m 182 #[.val (.int x0), .val (.int x1), .val (.int x2), .val (.int x3), .val (.int x4), .val (.int x5), .val (.int (v0_k1 x4)), .val (.int (v0_k2 x4)), .val (.int (v0_L x5)), .val (.ref b1), .val (.ref b63), .val (.int (f3 (v0_L x5) (0 : Int32))), .val (.int (f3 (v0_L x5) (Int32.ofNat (0 + 0 + 1))))] [(.int (v0_k1 x4)), (.int (f3 (v0_L x5) (Int32.ofNat (0 + 0 + 1))))]))
        refine g_iload X72 hx 184 (hb hby at_182) rfl rfl ?_
        show Go p e below s _ _ _ (T72.setTop (mkF m 184 #[.val (.int x0), .val (.int x1), .val (.int x2), .val (.int x3), .val (.int x4), .val (.int x5), .val (.int (v0_k1 x4)), .val (.int (v0_k2 x4)), .val (.int (v0_L x5)), .val (.ref b1), .val (.ref b63), .val (.int (f3 (v0_L x5) (0 : Int32))), .val (.int (f3 (v0_L x5) (Int32.ofNat (0 + 0 + 1))))] [(.int (v0_L x5)), (.int (v0_k1 x4)), (.int (f3 (v0_L x5) (Int32.ofNat (0 + 0 + 1))))]))
        refine g_icmp_ge X72 hx 191 187 (hb hby at_184) (by decide) rfl rfl (fun h73 => ?_) (fun h73 => ?_)
        · show Go p e below s _ _ _ (T72.setTop (mkF m 187 #[.val (.int x0), .val (.int x1), .val (.int x2), .val (.int x3), .val (.int x4), .val (.int x5), .val (.int (v0_k1 x4)), .val (.int (v0_k2 x4)), .val (.int (v0_L x5)), .val (.ref b1), .val (.ref b63), .val (.int (f3 (v0_L x5) (0 : Int32))), .val (.int (f3 (v0_L x5) (Int32.ofNat (0 + 0 + 1))))] [(.int (f3 (v0_L x5) (Int32.ofNat (0 + 0 + 1))))]))
          refine g_iconst X72 hx (1 : Int32) 188 (hb hby at_187) rfl rfl ?_
          show Go p e below s _ _ _ (T72.setTop (mkF m 188 #[.val (.int x0), .val (.int x1), .val (.int x2), .val (.int x3), .val (.int x4), .val (.int x5), .val (.int (v0_k1 x4)), .val (.int (v0_k2 x4)), .val (.int (v0_L x5)), .val (.ref b1), .val (.ref b63), .val (.int (f3 (v0_L x5) (0 : Int32))), .val (.int (f3 (v0_L x5) (Int32.ofNat (0 + 0 + 1))))] [(.int (1 : Int32)), (.int (f3 (v0_L x5) (Int32.ofNat (0 + 0 + 1))))]))
          refine g_goto X72 hx 192 (hb hby at_188) (by decide) rfl ?_
          show Go p e below s _ _ _ (T72.setTop (mkF m 192 #[.val (.int x0), .val (.int x1), .val (.int x2), .val (.int x3), .val (.int x4), .val (.int x5), .val (.int (v0_k1 x4)), .val (.int (v0_k2 x4)), .val (.int (v0_L x5)), .val (.ref b1), .val (.ref b63), .val (.int (f3 (v0_L x5) (0 : Int32))), .val (.int (f3 (v0_L x5) (Int32.ofNat (0 + 0 + 1))))] [(.int (1 : Int32)), (.int (f3 (v0_L x5) (Int32.ofNat (0 + 0 + 1))))]))
          have h74 : (f3 (v0_L x5) (Int32.ofNat (0 + 0 + 1))) = (1 : Int32) := own_more (by rw [(own_k1 ‹¬ v0_k1 x4 = (2 : Int32)›)]; rfl) ‹v0_k1 x4 < v0_L x5›
          refine g_icmp_eq X72 hx 197 195 (hb hby at_192) (by decide) rfl rfl (fun _ => ?_) (fun q => absurd h74 q)
          show Go p e below s _ _ _ (T72.setTop (mkF m 197 #[.val (.int x0), .val (.int x1), .val (.int x2), .val (.int x3), .val (.int x4), .val (.int x5), .val (.int (v0_k1 x4)), .val (.int (v0_k2 x4)), .val (.int (v0_L x5)), .val (.ref b1), .val (.ref b63), .val (.int (f3 (v0_L x5) (0 : Int32))), .val (.int (f3 (v0_L x5) (Int32.ofNat (0 + 0 + 1))))] []))
          refine g_iload X72 hx 199 (hb hby at_197) rfl rfl ?_
          show Go p e below s _ _ _ (T72.setTop (mkF m 199 #[.val (.int x0), .val (.int x1), .val (.int x2), .val (.int x3), .val (.int x4), .val (.int x5), .val (.int (v0_k1 x4)), .val (.int (v0_k2 x4)), .val (.int (v0_L x5)), .val (.ref b1), .val (.ref b63), .val (.int (f3 (v0_L x5) (0 : Int32))), .val (.int (f3 (v0_L x5) (Int32.ofNat (0 + 0 + 1))))] [(.int (f3 (v0_L x5) (Int32.ofNat (0 + 0 + 1))))]))
          have h75 : ¬ ((f3 (v0_L x5) (Int32.ofNat (0 + 0 + 1))) = (0 : Int32)) := fun q => absurd ((own_more (by rw [(own_k1 ‹¬ v0_k1 x4 = (2 : Int32)›)]; rfl) ‹v0_k1 x4 < v0_L x5›).symm.trans q) (by decide)
          refine g_if0_ne X72 hx 204 202 (hb hby at_199) (by decide) rfl rfl (fun q => absurd q h75) (fun _ => ?_)
          show Go p e below s _ _ _ (T72.setTop (mkF m 204 #[.val (.int x0), .val (.int x1), .val (.int x2), .val (.int x3), .val (.int x4), .val (.int x5), .val (.int (v0_k1 x4)), .val (.int (v0_k2 x4)), .val (.int (v0_L x5)), .val (.ref b1), .val (.ref b63), .val (.int (f3 (v0_L x5) (0 : Int32))), .val (.int (f3 (v0_L x5) (Int32.ofNat (0 + 0 + 1))))] []))
          refine g_aload X72 hx 206 (hb hby at_204) rfl rfl rfl ?_
          show Go p e below s _ _ _ (T72.setTop (mkF m 206 #[.val (.int x0), .val (.int x1), .val (.int x2), .val (.int x3), .val (.int x4), .val (.int x5), .val (.int (v0_k1 x4)), .val (.int (v0_k2 x4)), .val (.int (v0_L x5)), .val (.ref b1), .val (.ref b63), .val (.int (f3 (v0_L x5) (0 : Int32))), .val (.int (f3 (v0_L x5) (Int32.ofNat (0 + 0 + 1))))] [(.ref b63)]))
          refine g_callV X72 hx hZ hown (hw _ (List.mem_of_getElem? (i := 22) rfl)) (hw _ (List.mem_of_getElem? (i := 23) rfl)) (hw _ (List.mem_of_getElem? (i := 25) rfl)) (hw _ (List.mem_of_getElem? (i := 24) rfl)) (hw _ (List.mem_of_getElem? (i := 4) rfl)) (hw _ (List.mem_of_getElem? (i := 26) rfl)) (by decide) e72 b63 k71_4 (rm4 l Z a0 hw [] b63 b1 (v0_L x5) (Int32.ofNat (0 + 0 + 1)) 4 (upd (upd (upd (upd (upd (fun _ => (0 : Int32)) 0 (i2bI (i2bI (x0 &&& (127 : Int32))))) 1 (i2bI (i2bI (x1 &&& (127 : Int32))))) 2 (i2bI (i2bI (x2 &&& (127 : Int32))))) 3 (i2bI (i2bI (x3 &&& (127 : Int32))))) 1 (i2bI (i2bI (((upd (upd (upd (upd (fun _ => (0 : Int32)) 0 (i2bI (i2bI (x0 &&& (127 : Int32))))) 1 (i2bI (i2bI (x1 &&& (127 : Int32))))) 2 (i2bI (i2bI (x2 &&& (127 : Int32))))) 3 (i2bI (i2bI (x3 &&& (127 : Int32))))) 1) ||| (128 : Int32))))) 1 1 T71.heap n0 Z71 k71_4 p71_0 p71_1 p71_2 k71_1 N_b63 (Ne.symm ne_b1_b63) (rfl : (Int32.ofNat (0 + 0 + 1)).toInt = 1) (by decide : 1 + 1 < 4) (fun j hj => by have e : j = 0 := (by omega); subst e; exact own_b8 _ : ∀ j, j < 1 → (upd (upd (upd (upd (upd (fun _ => (0 : Int32)) 0 (i2bI (i2bI (x0 &&& (127 : Int32))))) 1 (i2bI (i2bI (x1 &&& (127 : Int32))))) 2 (i2bI (i2bI (x2 &&& (127 : Int32))))) 3 (i2bI (i2bI (x3 &&& (127 : Int32))))) 1 (i2bI (i2bI (((upd (upd (upd (upd (fun _ => (0 : Int32)) 0 (i2bI (i2bI (x0 &&& (127 : Int32))))) 1 (i2bI (i2bI (x1 &&& (127 : Int32))))) 2 (i2bI (i2bI (x2 &&& (127 : Int32))))) 3 (i2bI (i2bI (x3 &&& (127 : Int32))))) 1) ||| (128 : Int32))))) (1 + j) < 0) (own_b7 _ : ¬ (upd (upd (upd (upd (upd (fun _ => (0 : Int32)) 0 (i2bI (i2bI (x0 &&& (127 : Int32))))) 1 (i2bI (i2bI (x1 &&& (127 : Int32))))) 2 (i2bI (i2bI (x2 &&& (127 : Int32))))) 3 (i2bI (i2bI (x3 &&& (127 : Int32))))) 1 (i2bI (i2bI (((upd (upd (upd (upd (fun _ => (0 : Int32)) 0 (i2bI (i2bI (x0 &&& (127 : Int32))))) 1 (i2bI (i2bI (x1 &&& (127 : Int32))))) 2 (i2bI (i2bI (x2 &&& (127 : Int32))))) 3 (i2bI (i2bI (x3 &&& (127 : Int32))))) 1) ||| (128 : Int32))))) (1 + 1) < 0)) [] [] 0 rfl (lenOf pd__28_29I rfl) rfl (Nat.le_of_eq rfl) (by decide) (by decide) (by decide) (by decide) (by rw [hml]; rfl) (hb hby at_206) ?_
          intro T76 L76 v76 X76 q76
          obtain ⟨rfl, N76, K76, p76_0, p76_1, p76_2⟩ := q76
          have NN76 := Fr.app NS72 N76
          have k76_1 := k71_1.keep K76 (nm1 ne_b1_b63 nm0)
          have k76_4 := k71_4.keep K76
          have Z76 : n0 ≤ T76.heap.size := Nat.le_trans Z71 K76.1
          show Go p e below s _ _ _ (T76.setTop (mkF m 209 #[.val (.int x0), .val (.int x1), .val (.int x2), .val (.int x3), .val (.int x4), .val (.int x5), .val (.int (v0_k1 x4)), .val (.int (v0_k2 x4)), .val (.int (v0_L x5)), .val (.ref b1), .val (.ref b63), .val (.int (f3 (v0_L x5) (0 : Int32))), .val (.int (f3 (v0_L x5) (Int32.ofNat (0 + 0 + 1))))] [(.int (own_rd (upd (upd (upd (upd (upd (fun _ => (0 : Int32)) 0 (i2bI (i2bI (x0 &&& (127 : Int32))))) 1 (i2bI (i2bI (x1 &&& (127 : Int32))))) 2 (i2bI (i2bI (x2 &&& (127 : Int32))))) 3 (i2bI (i2bI (x3 &&& (127 : Int32))))) 1 (i2bI (i2bI (((upd (upd (upd (upd (fun _ => (0 : Int32)) 0 (i2bI (i2bI (x0 &&& (127 : Int32))))) 1 (i2bI (i2bI (x1 &&& (127 : Int32))))) 2 (i2bI (i2bI (x2 &&& (127 : Int32))))) 3 (i2bI (i2bI (x3 &&& (127 : Int32))))) 1) ||| (128 : Int32))))) 1 1 0 0))]))
          refine g_pop X76 hx 210 (hb hby at_209) rfl rfl ?_
          show Go p e below s _ _ _ (T76.setTop (mkF m 210 #[.val (.int x0), .val (.int x1), .val (.int x2), .val (.int x3), .val (.int x4), .val (.int x5), .val (.int (v0_k1 x4)), .val (.int (v0_k2 x4)), .val (.int (v0_L x5)), .val (.ref b1), .val (.ref b63), .val (.int (f3 (v0_L x5) (0 : Int32))), .val (.int (f3 (v0_L x5) (Int32.ofNat (0 + 0 + 1))))] []))
          refine g_aload X76 hx 212 (hb hby at_210) rfl rfl rfl ?_
          show Go p e below s _ _ _ (T76.setTop (mkF m 212 #[.val (.int x0), .val (.int x1), .val (.int x2), .val (.int x3), .val (.int x4), .val (.int x5), .val (.int (v0_k1 x4)), .val (.int (v0_k2 x4)), .val (.int (v0_L x5)), .val (.ref b1), .val (.ref b63), .val (.int (f3 (v0_L x5) (0 : Int32))), .val (.int (f3 (v0_L x5) (Int32.ofNat (0 + 0 + 1))))] [(.ref b63)]))
          refine g_callV X76 hx hZ hown (hw _ (List.mem_of_getElem? (i := 15) rfl)) (hw _ (List.mem_of_getElem? (i := 16) rfl)) (hw _ (List.mem_of_getElem? (i := 18) rfl)) (hw _ (List.mem_of_getElem? (i := 17) rfl)) (hw _ (List.mem_of_getElem? (i := 4) rfl)) (hw _ (List.mem_of_getElem? (i := 19) rfl)) (by decide) rfl b63 k76_4 (rm3 l Z a0 hw [] b63 (v0_L x5) (Int32.ofNat (1 + 1 + 1)) T76.heap p76_1 p76_2) [] [] 0 rfl (lenOf pd__28_29Z rfl) rfl (Nat.le_of_eq rfl) (by decide) (by decide) (by decide) (by decide) (by rw [hml]; rfl) (hb hby at_212) ?_
          intro T77 L77 v77 X77 q77
          obtain ⟨rfl, rfl, e77⟩ := q77
          have NS77 := Fr.app NN76 (Fr.nil n0)
          show Go p e below s _ _ _ (T77.setTop (mkF m 215 #[.val (.int x0), .val (.int x1), .val (.int x2), .val (.int x3), .val (.int x4), .val (.int x5), .val (.int (v0_k1 x4)), .val (.int (v0_k2 x4)), .val (.int (v0_L x5)), .val (.ref b1), .val (.ref b63), .val (.int (f3 (v0_L x5) (0 : Int32))), .val (.int (f3 (v0_L x5) (Int32.ofNat (0 + 0 + 1))))] [(.int (f3 (v0_L x5) (Int32.ofNat (1 + 1 + 1))))]))
          refine g_iload X77 hx 217 (hb hby at_215) rfl rfl ?_
          show Go p e below s _ _ _ (T77.setTop (mkF m 217 #[.val (.int x0), .val (.int x1), .val (.int x2), .val (.int x3), .val (.int x4), .val (.int x5), .val (.int (v0_k1 x4)), .val (.int (v0_k2 x4)), .val (.int (v0_L x5)), .val (.ref b1), .val (.ref b63), .val (.int (f3 (v0_L x5) (0 : Int32))), .val (.int (f3 (v0_L x5) (Int32.ofNat (0 + 0 + 1))))] [(.int (v0_k1 x4)), (.int (f3 (v0_L x5) (Int32.ofNat (1 + 1 + 1))))]))
          refine g_iload X77 hx 219 (hb hby at_217) rfl rfl ?_
          show Go p e below s _ _ _ (T77.setTop (mkF m 219 #[.val (.int x0), .val (.int x1), .val (.int x2), .val (.int x3), .val (.int x4), .val (.int x5), .val (.int (v0_k1 x4)), .val (.int (v0_k2 x4)), .val (.int (v0_L x5)), .val (.ref b1), .val (.ref b63), .val (.int (f3 (v0_L x5) (0 : Int32))), .val (.int (f3 (v0_L x5) (Int32.ofNat (0 + 0 + 1))))] [(.int (v0_k2 x4)), (.int (v0_k1 x4)), (.int (f3 (v0_L x5) (Int32.ofNat (1 + 1 + 1))))]))
          refine g_iadd X77 hx 220 (hb hby at_219) rfl ?_
          show Go p e below s _ _ _ (T77.setTop (mkF m 220 #[.val (.int x0), .val (.int x1), .val (.int x2), .val (.int x3), .val (.int x4), .val (.int x5), .val (.int (v0_k1 x4)), .val (.int (v0_k2 x4)), .val (.int (v0_L x5)), .val (.ref b1), .val (.ref b63), .val (.int (f3 (v0_L x5) (0 : Int32))), .val (.int (f3 (v0_L x5) (Int32.ofNat (0 + 0 + 1))))] [(.int ((v0_k1 x4) + (v0_k2 x4))), (.int (f3 (v0_L x5) (Int32.ofNat (1 + 1 + 1))))]))
          refine g_iload X77 hx 222 (hb hby at_220) rfl rfl ?_
          show Go p e below s _ _ _ (T77.setTop (mkF m 222 #[.val (.int x0), .val (.int x1), .val (.int x2), .val (.int x3), .val (.int x4), .val (.int x5), .val (.int (v0_k1 x4)), .val (.int (v0_k2 x4)), .val (.int (v0_L x5)), .val (.ref b1), .val (.ref b63), .val (.int (f3 (v0_L x5) (0 : Int32))), .val (.int (f3 (v0_L x5) (Int32.ofNat (0 + 0 + 1))))] [(.int (v0_L x5)), (.int ((v0_k1 x4) + (v0_k2 x4))), (.int (f3 (v0_L x5) (Int32.ofNat (1 + 1 + 1))))]))
          refine g_icmp_ge X77 hx 229 225 (hb hby at_222) (by decide) rfl rfl (fun h78 => ?_) (fun h78 => ?_)
          · show Go p e below s _ _ _ (T77.setTop (mkF m 225 #[.val (.int x0), .val (.int x1), .val (.int x2), .val (.int x3), .val (.int x4), .val (.int x5), .val (.int (v0_k1 x4)), .val (.int (v0_k2 x4)), .val (.int (v0_L x5)), .val (.ref b1), .val (.ref b63), .val (.int (f3 (v0_L x5) (0 : Int32))), .val (.int (f3 (v0_L x5) (Int32.ofNat (0 + 0 + 1))))] [(.int (f3 (v0_L x5) (Int32.ofNat (1 + 1 + 1))))]))
            refine g_iconst X77 hx (1 : Int32) 226 (hb hby at_225) rfl rfl ?_
            show Go p e below s _ _ _ (T77.setTop (mkF m 226 #[.val (.int x0), .val (.int x1), .val (.int x2), .val (.int x3), .val (.int x4), .val (.int x5), .val (.int (v0_k1 x4)), .val (.int (v0_k2 x4)), .val (.int (v0_L x5)), .val (.ref b1), .val (.ref b63), .val (.int (f3 (v0_L x5) (0 : Int32))), .val (.int (f3 (v0_L x5) (Int32.ofNat (0 + 0 + 1))))] [(.int (1 : Int32)), (.int (f3 (v0_L x5) (Int32.ofNat (1 + 1 + 1))))]))
            refine g_goto X77 hx 230 (hb hby at_226) (by decide) rfl ?_
            show Go p e below s _ _ _ (T77.setTop (mkF m 230 #[.val (.int x0), .val (.int x1), .val (.int x2), .val (.int x3), .val (.int x4), .val (.int x5), .val (.int (v0_k1 x4)), .val (.int (v0_k2 x4)), .val (.int (v0_L x5)), .val (.ref b1), .val (.ref b63), .val (.int (f3 (v0_L x5) (0 : Int32))), .val (.int (f3 (v0_L x5) (Int32.ofNat (0 + 0 + 1))))] [(.int (1 : Int32)), (.int (f3 (v0_L x5) (Int32.ofNat (1 + 1 + 1))))]))
            have h79 : (f3 (v0_L x5) (Int32.ofNat (1 + 1 + 1))) = (1 : Int32) := own_more (by rw [(own_k1 ‹¬ v0_k1 x4 = (2 : Int32)›), ‹v0_k2 x4 = (2 : Int32)›]; rfl) ‹v0_k1 x4 + v0_k2 x4 < v0_L x5›
            refine g_icmp_ne X77 hx 237 233 (hb hby at_230) (by decide) rfl rfl (fun _ => ?_) (fun q => absurd h79 q)
            show Go p e below s _ _ _ (T77.setTop (mkF m 233 #[.val (.int x0), .val (.int x1), .val (.int x2), .val (.int x3), .val (.int x4), .val (.int x5), .val (.int (v0_k1 x4)), .val (.int (v0_k2 x4)), .val (.int (v0_L x5)), .val (.ref b1), .val (.ref b63), .val (.int (f3 (v0_L x5) (0 : Int32))), .val (.int (f3 (v0_L x5) (Int32.ofNat (0 + 0 + 1))))] []))
            refine g_iconst X77 hx (1 : Int32) 234 (hb hby at_233) rfl rfl ?_
            show Go p e below s _ _ _ (T77.setTop (mkF m 234 #[.val (.int x0), .val (.int x1), .val (.int x2), .val (.int x3), .val (.int x4), .val (.int x5), .val (.int (v0_k1 x4)), .val (.int (v0_k2 x4)), .val (.int (v0_L x5)), .val (.ref b1), .val (.ref b63), .val (.int (f3 (v0_L x5) (0 : Int32))), .val (.int (f3 (v0_L x5) (Int32.ofNat (0 + 0 + 1))))] [(.int (1 : Int32))]))
            refine g_goto X77 hx 238 (hb hby at_234) (by decide) rfl ?_
            show Go p e below s _ _ _ (T77.setTop (mkF m 238 #[.val (.int x0), .val (.int x1), .val (.int x2), .val (.int x3), .val (.int x4), .val (.int x5), .val (.int (v0_k1 x4)), .val (.int (v0_k2 x4)), .val (.int (v0_L x5)), .val (.ref b1), .val (.ref b63), .val (.int (f3 (v0_L x5) (0 : Int32))), .val (.int (f3 (v0_L x5) (Int32.ofNat (0 + 0 + 1))))] [(.int (1 : Int32))]))
            exact g_retN X77 hx hret (by simp) hlk (hb hby at_238) (by decide) (by decide) ⟨rfl, NS77⟩
          · show Go p e below s _ _ _ (T77.setTop (mkF m 229 #[.val (.int x0), .val (.int x1), .val (.int x2), .val (.int x3), .val (.int x4), .val (.int x5), .val (.int (v0_k1 x4)), .val (.int (v0_k2 x4)), .val (.int (v0_L x5)), .val (.ref b1), .val (.ref b63), .val (.int (f3 (v0_L x5) (0 : Int32))), .val (.int (f3 (v0_L x5) (Int32.ofNat (0 + 0 + 1))))] [(.int (f3 (v0_L x5) (Int32.ofNat (1 + 1 + 1))))]))
            refine g_iconst X77 hx (0 : Int32) 230 (hb hby at_229) rfl rfl ?_
            show Go p e below s _ _ _ (T77.setTop (mkF m 230 #[.val (.int x0), .val (.int x1), .val (.int x2), .val (.int x3), .val (.int x4), .val (.int x5), .val (.int (v0_k1 x4)), .val (.int (v0_k2 x4)), .val (.int (v0_L x5)), .val (.ref b1), .val (.ref b63), .val (.int (f3 (v0_L x5) (0 : Int32))), .val (.int (f3 (v0_L x5) (Int32.ofNat (0 + 0 + 1))))] [(.int (0 : Int32)), (.int (f3 (v0_L x5) (Int32.ofNat (1 + 1 + 1))))]))
            have h80 : (f3 (v0_L x5) (Int32.ofNat (1 + 1 + 1))) = (0 : Int32) := own_less (by rw [(own_k1 ‹¬ v0_k1 x4 = (2 : Int32)›), ‹v0_k2 x4 = (2 : Int32)›]; rfl) ‹¬ v0_k1 x4 + v0_k2 x4 < v0_L x5›
            refine g_icmp_ne X77 hx 237 233 (hb hby at_230) (by decide) rfl rfl (fun _ => ?_) (fun q => absurd h80 q)
            show Go p e below s _ _ _ (T77.setTop (mkF m 233 #[.val (.int x0), .val (.int x1), .val (.int x2), .val (.int x3), .val (.int x4), .val (.int x5), .val (.int (v0_k1 x4)), .val (.int (v0_k2 x4)), .val (.int (v0_L x5)), .val (.ref b1), .val (.ref b63), .val (.int (f3 (v0_L x5) (0 : Int32))), .val (.int (f3 (v0_L x5) (Int32.ofNat (0 + 0 + 1))))] []))
            refine g_iconst X77 hx (1 : Int32) 234 (hb hby at_233) rfl rfl ?_
            show Go p e below s _ _ _ (T77.setTop (mkF m 234 #[.val (.int x0), .val (.int x1), .val (.int x2), .val (.int x3), .val (.int x4), .val (.int x5), .val (.int (v0_k1 x4)), .val (.int (v0_k2 x4)), .val (.int (v0_L x5)), .val (.ref b1), .val (.ref b63), .val (.int (f3 (v0_L x5) (0 : Int32))), .val (.int (f3 (v0_L x5) (Int32.ofNat (0 + 0 + 1))))] [(.int (1 : Int32))]))
            refine g_goto X77 hx 238 (hb hby at_234) (by decide) rfl ?_
            show Go p e below s _ _ _ (T77.setTop (mkF m 238 #[.val (.int x0), .val (.int x1), .val (.int x2), .val (.int x3), .val (.int x4), .val (.int x5), .val (.int (v0_k1 x4)), .val (.int (v0_k2 x4)), .val (.int (v0_L x5)), .val (.ref b1), .val (.ref b63), .val (.int (f3 (v0_L x5) (0 : Int32))), .val (.int (f3 (v0_L x5) (Int32.ofNat (0 + 0 + 1))))] [(.int (1 : Int32))]))
            exact g_retN X77 hx hret (by simp) hlk (hb hby at_238) (by decide) (by decide) ⟨rfl, NS77⟩
        · show Go p e below s _ _ _ (T72.setTop (mkF m 191 #[.val (.int x0), .val (.int x1), .val (.int x2), .val (.int x3), .val (.int x4), .val (.int x5), .val (.int (v0_k1 x4)), .val (.int (v0_k2 x4)), .val (.int (v0_L x5)), .val (.ref b1), .val (.ref b63), .val (.int (f3 (v0_L x5) (0 : Int32))), .val (.int (f3 (v0_L x5) (Int32.ofNat (0 + 0 + 1))))] [(.int (f3 (v0_L x5) (Int32.ofNat (0 + 0 + 1))))]))
          refine g_iconst X72 hx (0 : Int32) 192 (hb hby at_191) rfl rfl ?_
          show Go p e below s _ _ _ (T72.setTop (mkF m 192 #[.val (.int x0), .val (.int x1), .val (.int x2), .val (.int x3), .val (.int x4), .val (.int x5), .val (.int (v0_k1 x4)), .val (.int (v0_k2 x4)), .val (.int (v0_L x5)), .val (.ref b1), .val (.ref b63), .val (.int (f3 (v0_L x5) (0 : Int32))), .val (.int (f3 (v0_L x5) (Int32.ofNat (0 + 0 + 1))))] [(.int (0 : Int32)), (.int (f3 (v0_L x5) (Int32.ofNat (0 + 0 + 1))))]))
          have h81 : (f3 (v0_L x5) (Int32.ofNat (0 + 0 + 1))) = (0 : Int32) := own_less (by rw [(own_k1 ‹¬ v0_k1 x4 = (2 : Int32)›)]; rfl) ‹¬ v0_k1 x4 < v0_L x5›
          refine g_icmp_eq X72 hx 197 195 (hb hby at_192) (by decide) rfl rfl (fun _ => ?_) (fun q => absurd h81 q)
          show Go p e below s _ _ _ (T72.setTop (mkF m 197 #[.val (.int x0), .val (.int x1), .val (.int x2), .val (.int x3), .val (.int x4), .val (.int x5), .val (.int (v0_k1 x4)), .val (.int (v0_k2 x4)), .val (.int (v0_L x5)), .val (.ref b1), .val (.ref b63), .val (.int (f3 (v0_L x5) (0 : Int32))), .val (.int (f3 (v0_L x5) (Int32.ofNat (0 + 0 + 1))))] []))
          refine g_iload X72 hx 199 (hb hby at_197) rfl rfl ?_
          show Go p e below s _ _ _ (T72.setTop (mkF m 199 #[.val (.int x0), .val (.int x1), .val (.int x2), .val (.int x3), .val (.int x4), .val (.int x5), .val (.int (v0_k1 x4)), .val (.int (v0_k2 x4)), .val (.int (v0_L x5)), .val (.ref b1), .val (.ref b63), .val (.int (f3 (v0_L x5) (0 : Int32))), .val (.int (f3 (v0_L x5) (Int32.ofNat (0 + 0 + 1))))] [(.int (f3 (v0_L x5) (Int32.ofNat (0 + 0 + 1))))]))
          have h82 : (f3 (v0_L x5) (Int32.ofNat (0 + 0 + 1))) = (0 : Int32) := own_less (by rw [(own_k1 ‹¬ v0_k1 x4 = (2 : Int32)›)]; rfl) ‹¬ v0_k1 x4 < v0_L x5›
          refine g_if0_ne X72 hx 204 202 (hb hby at_199) (by decide) rfl rfl (fun _ => ?_) (fun q => absurd h82 q)
          show Go p e below s _ _ _ (T72.setTop (mkF m 202 #[.val (.int x0), .val (.int x1), .val (.int x2), .val (.int x3), .val (.int x4), .val (.int x5), .val (.int (v0_k1 x4)), .val (.int (v0_k2 x4)), .val (.int (v0_L x5)), .val (.ref b1), .val (.ref b63), .val (.int (f3 (v0_L x5) (0 : Int32))), .val (.int (f3 (v0_L x5) (Int32.ofNat (0 + 0 + 1))))] []))
          refine g_iconst X72 hx (1 : Int32) 203 (hb hby at_202) rfl rfl ?_
          show Go p e below s _ _ _ (T72.setTop (mkF m 203 #[.val (.int x0), .val (.int x1), .val (.int x2), .val (.int x3), .val (.int x4), .val (.int x5), .val (.int (v0_k1 x4)), .val (.int (v0_k2 x4)), .val (.int (v0_L x5)), .val (.ref b1), .val (.ref b63), .val (.int (f3 (v0_L x5) (0 : Int32))), .val (.int (f3 (v0_L x5) (Int32.ofNat (0 + 0 + 1))))] [(.int (1 : Int32))]))
          exact g_retN X72 hx hret (by simp) hlk (hb hby at_203) (by decide) (by decide) ⟨rfl, NS72⟩
      · show Go p e below s _ _ _ (T65.setTop (mkF m 140 #[.val (.int x0), .val (.int x1), .val (.int x2), .val (.int x3), .val (.int x4), .val (.int x5), .val (.int (v0_k1 x4)), .val (.int (v0_k2 x4)), .val (.int (v0_L x5)), .val (.ref b1), .val (.ref b63), .val (.int (f3 (v0_L x5) (0 : Int32))), .unset] [(.int (f3 (v0_L x5) (0 : Int32)))]))
        refine g_iconst X65 hx (0 : Int32) 141 (hb hby at_140) rfl rfl ?_
        show Go p e below s _ _ _ (T65.setTop (mkF m 141 #[.val (.int x0), .val (.int x1), .val (.int x2), .val (.int x3), .val (.int x4), .val (.int x5), .val (.int (v0_k1 x4)), .val (.int (v0_k2 x4)), .val (.int (v0_L x5)), .val (.ref b1), .val (.ref b63), .val (.int (f3 (v0_L x5) (0 : Int32))), .unset] [(.int (0 : Int32)), (.int (f3 (v0_L x5) (0 : Int32)))]))
        have h83 : (f3 (v0_L x5) (0 : Int32)) = (0 : Int32) := own_less rfl ‹¬ (0 : Int32) < v0_L x5›
        refine g_icmp_eq X65 hx 146 144 (hb hby at_141) (by decide) rfl rfl (fun _ => ?_) (fun q => absurd h83 q)
        show Go p e below s _ _ _ (T65.setTop (mkF m 146 #[.val (.int x0), .val (.int x1), .val (.int x2), .val (.int x3), .val (.int x4), .val (.int x5), .val (.int (v0_k1 x4)), .val (.int (v0_k2 x4)), .val (.int (v0_L x5)), .val (.ref b1), .val (.ref b63), .val (.int (f3 (v0_L x5) (0 : Int32))), .unset] []))
        refine g_aload X65 hx 148 (hb hby at_146) rfl rfl rfl ?_
        show Go p e below s _ _ _ (T65.setTop (mkF m 148 #[.val (.int x0), .val (.int x1), .val (.int x2), .val (.int x3), .val (.int x4), .val (.int x5), .val (.int (v0_k1 x4)), .val (.int (v0_k2 x4)), .val (.int (v0_L x5)), .val (.ref b1), .val (.ref b63), .val (.int (f3 (v0_L x5) (0 : Int32))), .unset] [(.ref b63)]))
        refine g_callV X65 hx hZ hown (hw _ (List.mem_of_getElem? (i := 15) rfl)) (hw _ (List.mem_of_getElem? (i := 16) rfl)) (hw _ (List.mem_of_getElem? (i := 18) rfl)) (hw _ (List.mem_of_getElem? (i := 17) rfl)) (hw _ (List.mem_of_getElem? (i := 4) rfl)) (hw _ (List.mem_of_getElem? (i := 19) rfl)) (by decide) e65 b63 k64_4 (rm3 l Z a0 hw [] b63 (v0_L x5) (0 : Int32) T64.heap p64_1 p64_2) [] [] 0 rfl (lenOf pd__28_29Z rfl) rfl (Nat.le_of_eq rfl) (by decide) (by decide) (by decide) (by decide) (by rw [hml]; rfl) (hb hby at_148) ?_
        intro T84 L84 v84 X84 q84
        obtain ⟨rfl, rfl, e84⟩ := q84
        have NS84 := Fr.app NS65 (Fr.nil n0)
        show Go p e below s _ _ _ (T84.setTop (mkF m 151 #[.val (.int x0), .val (.int x1), .val (.int x2), .val (.int x3), .val (.int x4), .val (.int x5), .val (.int (v0_k1 x4)), .val (.int (v0_k2 x4)), .val (.int (v0_L x5)), .val (.ref b1), .val (.ref b63), .val (.int (f3 (v0_L x5) (0 : Int32))), .unset] [(.int (f3 (v0_L x5) (0 : Int32)))]))
        refine g_iload X84 hx 153 (hb hby at_151) rfl rfl ?_
        show Go p e below s _ _ _ (T84.setTop (mkF m 153 #[.val (.int x0), .val (.int x1), .val (.int x2), .val (.int x3), .val (.int x4), .val (.int x5), .val (.int (v0_k1 x4)), .val (.int (v0_k2 x4)), .val (.int (v0_L x5)), .val (.ref b1), .val (.ref b63), .val (.int (f3 (v0_L x5) (0 : Int32))), .unset] [(.int (f3 (v0_L x5) (0 : Int32))), (.int (f3 (v0_L x5) (0 : Int32)))]))
        have h85 : (f3 (v0_L x5) (0 : Int32)) = (f3 (v0_L x5) (0 : Int32)) := rfl
        refine g_icmp_eq X84 hx 158 156 (hb hby at_153) (by decide) rfl rfl (fun _ => ?_) (fun q => absurd h85 q)
        show Go p e below s _ _ _ (T84.setTop (mkF m 158 #[.val (.int x0), .val (.int x1), .val (.int x2), .val (.int x3), .val (.int x4), .val (.int x5), .val (.int (v0_k1 x4)), .val (.int (v0_k2 x4)), .val (.int (v0_L x5)), .val (.ref b1), .val (.ref b63), .val (.int (f3 (v0_L x5) (0 : Int32))), .unset] []))
        refine g_iload X84 hx 160 (hb hby at_158) rfl rfl ?_
        show Go p e below s _ _ _ (T84.setTop (mkF m 160 #[.val (.int x0), .val (.int x1), .val (.int x2), .val (.int x3), .val (.int x4), .val (.int x5), .val (.int (v0_k1 x4)), .val (.int (v0_k2 x4)), .val (.int (v0_L x5)), .val (.ref b1), .val (.ref b63), .val (.int (f3 (v0_L x5) (0 : Int32))), .unset] [(.int (f3 (v0_L x5) (0 : Int32)))]))
        have h86 : (f3 (v0_L x5) (0 : Int32)) = (0 : Int32) := own_less rfl ‹¬ (0 : Int32) < v0_L x5›
        refine g_if0_ne X84 hx 165 163 (hb hby at_160) (by decide) rfl rfl (fun _ => ?_) (fun q => absurd h86 q)
        show Go p e below s _ _ _ (T84.setTop (mkF m 163 #[.val (.int x0), .val (.int x1), .val (.int x2), .val (.int x3), .val (.int x4), .val (.int x5), .val (.int (v0_k1 x4)), .val (.int (v0_k2 x4)), .val (.int (v0_L x5)), .val (.ref b1), .val (.ref b63), .val (.int (f3 (v0_L x5) (0 : Int32))), .unset] []))
        refine g_iconst X84 hx (1 : Int32) 164 (hb hby at_163) rfl rfl ?_
        show Go p e below s _ _ _ (T84.setTop (mkF m 164 #[.val (.int x0), .val (.int x1), .val (.int x2), .val (.int x3), .val (.int x4), .val (.int x5), .val (.int (v0_k1 x4)), .val (.int (v0_k2 x4)), .val (.int (v0_L x5)), .val (.ref b1), .val (.ref b63), .val (.int (f3 (v0_L x5) (0 : Int32))), .unset] [(.int (1 : Int32))]))
        exact g_retN X84 hx hret (by simp) hlk (hb hby at_164) (by decide) (by decide) ⟨rfl, NS84⟩
    · show Go p e below s _ _ _ (T5.setTop (mkF m 108 #[.val (.int x0), .val (.int x1), .val (.int x2), .val (.int x3), .val (.int x4), .val (.int x5), .val (.int (v0_k1 x4)), .val (.int (v0_k2 x4)), .val (.int (v0_L x5)), .val (.ref b1), .unset, .unset, .unset] []))
      refine g_new X5 hx hZ hown (hw _ (List.mem_of_getElem? (i := 2) rfl)) (hw _ (List.mem_of_getElem? (i := 3) rfl)) (hw _ (List.mem_of_getElem? (i := 4) rfl)) e5 111 (hb hby at_108) (by decide) (by decide) rfl ?_
      intro T87 h87 b87 g87 X87 e87 E87 A87 D87
      have N_b87 : n0 ≤ b87 := Nat.le_trans Z5 (Nat.le_of_eq g87.symm)
      have ne_b1_b87 : b1 ≠ b87 := Nat.ne_of_lt (Nat.lt_of_lt_of_le A5.lt (Nat.le_of_eq g87.symm))
      have k87_1 := A5.ext E87
      have Z87 : n0 ≤ h87.size := Nat.le_trans Z5 E87.1
      have F87_bytes : Fld Z h87 b87 "com/example/terms_in_context/termsincontext/index/VarIntInput" "bytes" "[B" .null := D87 (Or.inr (hw _ (List.mem_of_getElem? (i := 12) rfl))) (ty := (.array .byte)) (by decide)
      have F87_length : Fld Z h87 b87 "com/example/terms_in_context/termsincontext/index/VarIntInput" "length" "I" (.int (0 : Int32)) := D87 (Or.inr (hw _ (List.mem_of_getElem? (i := 14) rfl))) (ty := .int) (by decide)
      have F87_offset : Fld Z h87 b87 "com/example/terms_in_context/termsincontext/index/VarIntInput" "offset" "I" (.int (0 : Int32)) := D87 (Or.inl (hw _ (List.mem_of_getElem? (i := 21) rfl))) (ty := .int) (by decide)
      show Go p e below s _ _ _ (T87.setTop (mkF m 111 #[.val (.int x0), .val (.int x1), .val (.int x2), .val (.int x3), .val (.int x4), .val (.int x5), .val (.int (v0_k1 x4)), .val (.int (v0_k2 x4)), .val (.int (v0_L x5)), .val (.ref b1), .unset, .unset, .unset] [(.ref b87)]))
      refine g_dup X87 hx 112 (hb hby at_111) rfl rfl ?_
      show Go p e below s _ _ _ (T87.setTop (mkF m 112 #[.val (.int x0), .val (.int x1), .val (.int x2), .val (.int x3), .val (.int x4), .val (.int x5), .val (.int (v0_k1 x4)), .val (.int (v0_k2 x4)), .val (.int (v0_L x5)), .val (.ref b1), .unset, .unset, .unset] [(.ref b87), (.ref b87)]))
      refine g_aload X87 hx 114 (hb hby at_112) rfl rfl rfl ?_
      show Go p e below s _ _ _ (T87.setTop (mkF m 114 #[.val (.int x0), .val (.int x1), .val (.int x2), .val (.int x3), .val (.int x4), .val (.int x5), .val (.int (v0_k1 x4)), .val (.int (v0_k2 x4)), .val (.int (v0_L x5)), .val (.ref b1), .unset, .unset, .unset] [(.ref b1), (.ref b87), (.ref b87)]))
      refine g_iload X87 hx 116 (hb hby at_114) rfl rfl ?_
      show Go p e below s _ _ _ (T87.setTop (mkF m 116 #[.val (.int x0), .val (.int x1), .val (.int x2), .val (.int x3), .val (.int x4), .val (.int x5), .val (.int (v0_k1 x4)), .val (.int (v0_k2 x4)), .val (.int (v0_L x5)), .val (.ref b1), .unset, .unset, .unset] [(.int (v0_L x5)), (.ref b1), (.ref b87), (.ref b87)]))
      refine g_callI X87 hx hZ rfl hown (hw _ (List.mem_of_getElem? (i := 5) rfl)) (hw _ (List.mem_of_getElem? (i := 6) rfl)) (hw _ (List.mem_of_getElem? (i := 4) rfl)) (hw _ (List.mem_of_getElem? (i := 7) rfl)) (by decide) e87 (rm1 l Z a0 hw [] b87 b1 (v0_L x5) h87 n0 Z87 A87 F87_bytes F87_length F87_offset N_b87) b87 [(.ref b1), (.int (v0_L x5))] [(.ref b87)] 1 rfl (lenOf pd__28_5bBI_29V rfl) rfl (Nat.le_of_eq rfl) (by decide) (by decide) (by decide) (by decide) (by rw [hml]; rfl) (hb hby at_116) ?_
      intro T88 L88 v88 X88 q88
      obtain ⟨rfl, N88, K88, p88_0, p88_1, p88_2⟩ := q88
      have NN88 := Fr.app N5 N88
      have k88_1 := k87_1.keep K88 (nm1 ne_b1_b87 nm0)
      have k88_4 := A87.keep K88
      have Z88 : n0 ≤ T88.heap.size := Nat.le_trans Z87 K88.1
      show Go p e below s _ _ _ (T88.setTop (mkF m 119 #[.val (.int x0), .val (.int x1), .val (.int x2), .val (.int x3), .val (.int x4), .val (.int x5), .val (.int (v0_k1 x4)), .val (.int (v0_k2 x4)), .val (.int (v0_L x5)), .val (.ref b1), .unset, .unset, .unset] [(.ref b87)]))
      refine g_astore X88 hx #[.val (.int x0), .val (.int x1), .val (.int x2), .val (.int x3), .val (.int x4), .val (.int x5), .val (.int (v0_k1 x4)), .val (.int (v0_k2 x4)), .val (.int (v0_L x5)), .val (.ref b1), .val (.ref b87), .unset, .unset] 121 (hb hby at_119) rfl rfl rfl ?_
      show Go p e below s _ _ _ (T88.setTop (mkF m 121 #[.val (.int x0), .val (.int x1), .val (.int x2), .val (.int x3), .val (.int x4), .val (.int x5), .val (.int (v0_k1 x4)), .val (.int (v0_k2 x4)), .val (.int (v0_L x5)), .val (.ref b1), .val (.ref b87), .unset, .unset] []))
      refine g_aload X88 hx 123 (hb hby at_121) rfl rfl rfl ?_
      show Go p e below s _ _ _ (T88.setTop (mkF m 123 #[.val (.int x0), .val (.int x1), .val (.int x2), .val (.int x3), .val (.int x4), .val (.int x5), .val (.int (v0_k1 x4)), .val (.int (v0_k2 x4)), .val (.int (v0_L x5)), .val (.ref b1), .val (.ref b87), .unset, .unset] [(.ref b87)]))
      refine g_callV X88 hx hZ hown (hw _ (List.mem_of_getElem? (i := 15) rfl)) (hw _ (List.mem_of_getElem? (i := 16) rfl)) (hw _ (List.mem_of_getElem? (i := 18) rfl)) (hw _ (List.mem_of_getElem? (i := 17) rfl)) (hw _ (List.mem_of_getElem? (i := 4) rfl)) (hw _ (List.mem_of_getElem? (i := 19) rfl)) (by decide) rfl b87 k88_4 (rm3 l Z a0 hw [] b87 (v0_L x5) (0 : Int32) T88.heap p88_1 p88_2) [] [] 0 rfl (lenOf pd__28_29Z rfl) rfl (Nat.le_of_eq rfl) (by decide) (by decide) (by decide) (by decide) (by rw [hml]; rfl) (hb hby at_123) ?_
      intro T89 L89 v89 X89 q89
      obtain ⟨rfl, rfl, e89⟩ := q89
      have NS89 := Fr.app NN88 (Fr.nil n0)
      show Go p e below s _ _ _ (T89.setTop (mkF m 126 #[.val (.int x0), .val (.int x1), .val (.int x2), .val (.int x3), .val (.int x4), .val (.int x5), .val (.int (v0_k1 x4)), .val (.int (v0_k2 x4)), .val (.int (v0_L x5)), .val (.ref b1), .val (.ref b87), .unset, .unset] [(.int (f3 (v0_L x5) (0 : Int32)))]))
      refine g_istore X89 hx #[.val (.int x0), .val (.int x1), .val (.int x2), .val (.int x3), .val (.int x4), .val (.int x5), .val (.int (v0_k1 x4)), .val (.int (v0_k2 x4)), .val (.int (v0_L x5)), .val (.ref b1), .val (.ref b87), .val (.int (f3 (v0_L x5) (0 : Int32))), .unset] 128 (hb hby at_126) rfl rfl ?_
      show Go p e below s _ _ _ (T89.setTop (mkF m 128 #[.val (.int x0), .val (.int x1), .val (.int x2), .val (.int x3), .val (.int x4), .val (.int x5), .val (.int (v0_k1 x4)), .val (.int (v0_k2 x4)), .val (.int (v0_L x5)), .val (.ref b1), .val (.ref b87), .val (.int (f3 (v0_L x5) (0 : Int32))), .unset] []))
      refine g_iload X89 hx 130 (hb hby at_128) rfl rfl ?_
      show Go p e below s _ _ _ (T89.setTop (mkF m 130 #[.val (.int x0), .val (.int x1), .val (.int x2), .val (.int x3), .val (.int x4), .val (.int x5), .val (.int (v0_k1 x4)), .val (.int (v0_k2 x4)), .val (.int (v0_L x5)), .val (.ref b1), .val (.ref b87), .val (.int (f3 (v0_L x5) (0 : Int32))), .unset] [(.int (f3 (v0_L x5) (0 : Int32)))]))
      refine g_iconst X89 hx (0 : Int32) 131 (hb hby at_130) rfl rfl ?_
      show Go p e below s _ _ _ (T89.setTop (mkF m 131 #[.val (.int x0), .val (.int x1), .val (.int x2), .val (.int x3), .val (.int x4), .val (.int x5), .val (.int (v0_k1 x4)), .val (.int (v0_k2 x4)), .val (.int (v0_L x5)), .val (.ref b1), .val (.ref b87), .val (.int (f3 (v0_L x5) (0 : Int32))), .unset] [(.int (0 : Int32)), (.int (f3 (v0_L x5) (0 : Int32)))]))
      refine g_iload X89 hx 133 (hb hby at_131) rfl rfl ?_
      show Go p e below s _ _ _ (T89.setTop (mkF m 133 #[.val (.int x0), .val (.int x1), .val (.int x2), .val (.int x3), .val (.int x4), .val (.int x5), .val (.int (v0_k1 x4)), .val (.int (v0_k2 x4)), .val (.int (v0_L x5)), .val (.ref b1), .val (.ref b87), .val (.int (f3 (v0_L x5) (0 : Int32))), .unset] [(.int (v0_L x5)), (.int (0 : Int32)), (.int (f3 (v0_L x5) (0 : Int32)))]))
      refine g_icmp_ge X89 hx 140 136 (hb hby at_133) (by decide) rfl rfl (fun h90 => ?_) (fun h90 => ?_)
      · show Go p e below s _ _ _ (T89.setTop (mkF m 136 #[.val (.int x0), .val (.int x1), .val (.int x2), .val (.int x3), .val (.int x4), .val (.int x5), .val (.int (v0_k1 x4)), .val (.int (v0_k2 x4)), .val (.int (v0_L x5)), .val (.ref b1), .val (.ref b87), .val (.int (f3 (v0_L x5) (0 : Int32))), .unset] [(.int (f3 (v0_L x5) (0 : Int32)))]))
        refine g_iconst X89 hx (1 : Int32) 137 (hb hby at_136) rfl rfl ?_
        show Go p e below s _ _ _ (T89.setTop (mkF m 137 #[.val (.int x0), .val (.int x1), .val (.int x2), .val (.int x3), .val (.int x4), .val (.int x5), .val (.int (v0_k1 x4)), .val (.int (v0_k2 x4)), .val (.int (v0_L x5)), .val (.ref b1), .val (.ref b87), .val (.int (f3 (v0_L x5) (0 : Int32))), .unset] [(.int (1 : Int32)), (.int (f3 (v0_L x5) (0 : Int32)))]))
        refine g_goto X89 hx 141 (hb hby at_137) (by decide) rfl ?_
        show Go p e below s _ _ _ (T89.setTop (mkF m 141 #[.val (.int x0), .val (.int x1), .val (.int x2), .val (.int x3), .val (.int x4), .val (.int x5), .val (.int (v0_k1 x4)), .val (.int (v0_k2 x4)), .val (.int (v0_L x5)), .val (.ref b1), .val (.ref b87), .val (.int (f3 (v0_L x5) (0 : Int32))), .unset] [(.int (1 : Int32)), (.int (f3 (v0_L x5) (0 : Int32)))]))
        have h91 : (f3 (v0_L x5) (0 : Int32)) = (1 : Int32) := own_more rfl ‹(0 : Int32) < v0_L x5›
        refine g_icmp_eq X89 hx 146 144 (hb hby at_141) (by decide) rfl rfl (fun _ => ?_) (fun q => absurd h91 q)
        show Go p e below s _ _ _ (T89.setTop (mkF m 146 #[.val (.int x0), .val (.int x1), .val (.int x2), .val (.int x3), .val (.int x4), .val (.int x5), .val (.int (v0_k1 x4)), .val (.int (v0_k2 x4)), .val (.int (v0_L x5)), .val (.ref b1), .val (.ref b87), .val (.int (f3 (v0_L x5) (0 : Int32))), .unset] []))
        refine g_aload X89 hx 148 (hb hby at_146) rfl rfl rfl ?_
        show Go p e below s _ _ _ (T89.setTop (mkF m 148 #[.val (.int x0), .val (.int x1), .val (.int x2), .val (.int x3), .val (.int x4), .val (.int x5), .val (.int (v0_k1 x4)), .val (.int (v0_k2 x4)), .val (.int (v0_L x5)), .val (.ref b1), .val (.ref b87), .val (.int (f3 (v0_L x5) (0 : Int32))), .unset] [(.ref b87)]))
        refine g_callV X89 hx hZ hown (hw _ (List.mem_of_getElem? (i := 15) rfl)) (hw _ (List.mem_of_getElem? (i := 16) rfl)) (hw _ (List.mem_of_getElem? (i := 18) rfl)) (hw _ (List.mem_of_getElem? (i := 17) rfl)) (hw _ (List.mem_of_getElem? (i := 4) rfl)) (hw _ (List.mem_of_getElem? (i := 19) rfl)) (by decide) e89 b87 k88_4 (rm3 l Z a0 hw [] b87 (v0_L x5) (0 : Int32) T88.heap p88_1 p88_2) [] [] 0 rfl (lenOf pd__28_29Z rfl) rfl (Nat.le_of_eq rfl) (by decide) (by decide) (by decide) (by decide) (by rw [hml]; rfl) (hb hby at_148) ?_
        intro T92 L92 v92 X92 q92
        obtain ⟨rfl, rfl, e92⟩ := q92
        have NS92 := Fr.app NS89 (Fr.nil n0)
        show Go p e below s _ _ _ (T92.setTop (mkF m 151 #[.val (.int x0), .val (.int x1), .val (.int x2), .val (.int x3), .val (.int x4), .val (.int x5), .val (.int (v0_k1 x4)), .val (.int (v0_k2 x4)), .val (.int (v0_L x5)), .val (.ref b1), .val (.ref b87), .val (.int (f3 (v0_L x5) (0 : Int32))), .unset] [(.int (f3 (v0_L x5) (0 : Int32)))]))
        refine g_iload X92 hx 153 (hb hby at_151) rfl rfl ?_
        show Go p e below s _ _ _ (T92.setTop (mkF m 153 #[.val (.int x0), .val (.int x1), .val (.int x2), .val (.int x3), .val (.int x4), .val (.int x5), .val (.int (v0_k1 x4)), .val (.int (v0_k2 x4)), .val (.int (v0_L x5)), .val (.ref b1), .val (.ref b87), .val (.int (f3 (v0_L x5) (0 : Int32))), .unset] [(.int (f3 (v0_L x5) (0 : Int32))), (.int (f3 (v0_L x5) (0 : Int32)))]))
        have h93 : (f3 (v0_L x5) (0 : Int32)) = (f3 (v0_L x5) (0 : Int32)) := rfl
        refine g_icmp_eq X92 hx 158 156 (hb hby at_153) (by decide) rfl rfl (fun _ => ?_) (fun q => absurd h93 q)
        show Go p e below s _ _ _ (T92.setTop (mkF m 158 #[.val (.int x0), .val (.int x1), .val (.int x2), .val (.int x3), .val (.int x4), .val (.int x5), .val (.int (v0_k1 x4)), .val (.int (v0_k2 x4)), .val (.int (v0_L x5)), .val (.ref b1), .val (.ref b87), .val (.int (f3 (v0_L x5) (0 : Int32))), .unset] []))
        refine g_iload X92 hx 160 (hb hby at_158) rfl rfl ?_
        show Go p e below s _ _ _ (T92.setTop (mkF m 160 #[.val (.int x0), .val (.int x1), .val (.int x2), .val (.int x3), .val (.int x4), .val (.int x5), .val (.int (v0_k1 x4)), .val (.int (v0_k2 x4)), .val (.int (v0_L x5)), .val (.ref b1), .val (.ref b87), .val (.int (f3 (v0_L x5) (0 : Int32))), .unset] [(.int (f3 (v0_L x5) (0 : Int32)))]))
        have h94 : ¬ ((f3 (v0_L x5) (0 : Int32)) = (0 : Int32)) := fun q => absurd ((own_more rfl ‹(0 : Int32) < v0_L x5›).symm.trans q) (by decide)
        refine g_if0_ne X92 hx 165 163 (hb hby at_160) (by decide) rfl rfl (fun q => absurd q h94) (fun _ => ?_)
        show Go p e below s _ _ _ (T92.setTop (mkF m 165 #[.val (.int x0), .val (.int x1), .val (.int x2), .val (.int x3), .val (.int x4), .val (.int x5), .val (.int (v0_k1 x4)), .val (.int (v0_k2 x4)), .val (.int (v0_L x5)), .val (.ref b1), .val (.ref b87), .val (.int (f3 (v0_L x5) (0 : Int32))), .unset] []))
        refine g_aload X92 hx 167 (hb hby at_165) rfl rfl rfl ?_
        show Go p e below s _ _ _ (T92.setTop (mkF m 167 #[.val (.int x0), .val (.int x1), .val (.int x2), .val (.int x3), .val (.int x4), .val (.int x5), .val (.int (v0_k1 x4)), .val (.int (v0_k2 x4)), .val (.int (v0_L x5)), .val (.ref b1), .val (.ref b87), .val (.int (f3 (v0_L x5) (0 : Int32))), .unset] [(.ref b87)]))
        refine g_callV X92 hx hZ hown (hw _ (List.mem_of_getElem? (i := 22) rfl)) (hw _ (List.mem_of_getElem? (i := 23) rfl)) (hw _ (List.mem_of_getElem? (i := 25) rfl)) (hw _ (List.mem_of_getElem? (i := 24) rfl)) (hw _ (List.mem_of_getElem? (i := 4) rfl)) (hw _ (List.mem_of_getElem? (i := 26) rfl)) (by decide) e92 b87 k88_4 (rm4 l Z a0 hw [] b87 b1 (v0_L x5) (0 : Int32) 4 (upd (upd (upd (upd (fun _ => (0 : Int32)) 0 (i2bI (i2bI (x0 &&& (127 : Int32))))) 1 (i2bI (i2bI (x1 &&& (127 : Int32))))) 2 (i2bI (i2bI (x2 &&& (127 : Int32))))) 3 (i2bI (i2bI (x3 &&& (127 : Int32))))) 0 0 T88.heap n0 Z88 k88_4 p88_0 p88_1 p88_2 k88_1 N_b87 (Ne.symm ne_b1_b87) (rfl : (0 : Int32).toInt = 0) (by decide : 0 + 0 < 4) (fun j hj => absurd hj (Nat.not_lt_zero j) : ∀ j, j < 0 → (upd (upd (upd (upd (fun _ => (0 : Int32)) 0 (i2bI (i2bI (x0 &&& (127 : Int32))))) 1 (i2bI (i2bI (x1 &&& (127 : Int32))))) 2 (i2bI (i2bI (x2 &&& (127 : Int32))))) 3 (i2bI (i2bI (x3 &&& (127 : Int32))))) (0 + j) < 0) (own_b7 _ : ¬ (upd (upd (upd (upd (fun _ => (0 : Int32)) 0 (i2bI (i2bI (x0 &&& (127 : Int32))))) 1 (i2bI (i2bI (x1 &&& (127 : Int32))))) 2 (i2bI (i2bI (x2 &&& (127 : Int32))))) 3 (i2bI (i2bI (x3 &&& (127 : Int32))))) (0 + 0) < 0)) [] [] 0 rfl (lenOf pd__28_29I rfl) rfl (Nat.le_of_eq rfl) (by decide) (by decide) (by decide) (by decide) (by rw [hml]; rfl) (hb hby at_167) ?_
        intro T95 L95 v95 X95 q95
        obtain ⟨rfl, N95, K95, p95_0, p95_1, p95_2⟩ := q95
        have NN95 := Fr.app NS92 N95
        have k95_1 := k88_1.keep K95 (nm1 ne_b1_b87 nm0)
        have k95_4 := k88_4.keep K95
        have Z95 : n0 ≤ T95.heap.size := Nat.le_trans Z88 K95.1
        show Go p e below s _ _ _ (T95.setTop (mkF m 170 #[.val (.int x0), .val (.int x1), .val (.int x2), .val (.int x3), .val (.int x4), .val (.int x5), .val (.int (v0_k1 x4)), .val (.int (v0_k2 x4)), .val (.int (v0_L x5)), .val (.ref b1), .val (.ref b87), .val (.int (f3 (v0_L x5) (0 : Int32))), .unset] [(.int (own_rd (upd (upd (upd (upd (fun _ => (0 : Int32)) 0 (i2bI (i2bI (x0 &&& (127 : Int32))))) 1 (i2bI (i2bI (x1 &&& (127 : Int32))))) 2 (i2bI (i2bI (x2 &&& (127 : Int32))))) 3 (i2bI (i2bI (x3 &&& (127 : Int32))))) 0 0 0 0))]))
        refine g_pop X95 hx 171 (hb hby at_170) rfl rfl ?_
        show Go p e below s _ _ _ (T95.setTop (mkF m 171 #[.val (.int x0), .val (.int x1), .val (.int x2), .val (.int x3), .val (.int x4), .val (.int x5), .val (.int (v0_k1 x4)), .val (.int (v0_k2 x4)), .val (.int (v0_L x5)), .val (.ref b1), .val (.ref b87), .val (.int (f3 (v0_L x5) (0 : Int32))), .unset] []))
        refine g_aload X95 hx 173 (hb hby at_171) rfl rfl rfl ?_
        show Go p e below s _ _ _ (T95.setTop (mkF m 173 #[.val (.int x0), .val (.int x1), .val (.int x2), .val (.int x3), .val (.int x4), .val (.int x5), .val (.int (v0_k1 x4)), .val (.int (v0_k2 x4)), .val (.int (v0_L x5)), .val (.ref b1), .val (.ref b87), .val (.int (f3 (v0_L x5) (0 : Int32))), .unset] [(.ref b87)]))
        refine g_callV X95 hx hZ hown (hw _ (List.mem_of_getElem? (i := 15) rfl)) (hw _ (List.mem_of_getElem? (i := 16) rfl)) (hw _ (List.mem_of_getElem? (i := 18) rfl)) (hw _ (List.mem_of_getElem? (i := 17) rfl)) (hw _ (List.mem_of_getElem? (i := 4) rfl)) (hw _ (List.mem_of_getElem? (i := 19) rfl)) (by decide) rfl b87 k95_4 (rm3 l Z a0 hw [] b87 (v0_L x5) (Int32.ofNat (0 + 0 + 1)) T95.heap p95_1 p95_2) [] [] 0 rfl (lenOf pd__28_29Z rfl) rfl (Nat.le_of_eq rfl) (by decide) (by decide) (by decide) (by decide) (by rw [hml]; rfl) (hb hby at_173) ?_
        intro T96 L96 v96 X96 q96
        obtain ⟨rfl, rfl, e96⟩ := q96
        have NS96 := Fr.app NN95 (Fr.nil n0)
        show Go p e below s _ _ _ (T96.setTop (mkF m 176 #[.val (.int x0), .val (.int x1), .val (.int x2), .val (.int x3), .val (.int x4), .val (.int x5), .val (.int (v0_k1 x4)), .val (.int (v0_k2 x4)), .val (.int (v0_L x5)), .val (.ref b1), .val (.ref b87), .val (.int (f3 (v0_L x5) (0 : Int32))), .unset] [(.int (f3 (v0_L x5) (Int32.ofNat (0 + 0 + 1))))]))
        refine g_istore X96 hx #[.val (.int x0), .val (.int x1), .val (.int x2), .val (.int x3), .val (.int x4), .val (.int x5), .val (.int (v0_k1 x4)), .val (.int (v0_k2 x4)), .val (.int (v0_L x5)), .val (.ref b1), .val (.ref b87), .val (.int (f3 (v0_L x5) (0 : Int32))), .val (.int (f3 (v0_L x5) (Int32.ofNat (0 + 0 + 1))))] 178 (hb hby at_176) rfl rfl ?_
        show Go p e below s _ _ _ (T96.setTop (mkF m 178 #[.val (.int x0), .val (.int x1), .val (.int x2), .val (.int x3), .val (.int x4), .val (.int x5), .val (.int (v0_k1 x4)), .val (.int (v0_k2 x4)), .val (.int (v0_L x5)), .val (.ref b1), .val (.ref b87), .val (.int (f3 (v0_L x5) (0 : Int32))), .val (.int (f3 (v0_L x5) (Int32.ofNat (0 + 0 + 1))))] []))
        refine g_iload X96 hx 180 (hb hby at_178) rfl rfl ?_
        show Go p e below s _ _ _ (T96.setTop (mkF m 180 #[.val (.int x0), .val (.int x1), .val (.int x2), .val (.int x3), .val (.int x4), .val (.int x5), .val (.int (v0_k1 x4)), .val (.int (v0_k2 x4)), .val (.int (v0_L x5)), .val (.ref b1), .val (.ref b87), .val (.int (f3 (v0_L x5) (0 : Int32))), .val (.int (f3 (v0_L x5) (Int32.ofNat (0 + 0 + 1))))] [(.int (f3 (v0_L x5) (Int32.ofNat (0 + 0 + 1))))]))
        refine g_iload X96 hx 182 (hb hby at_180) rfl rfl ?_
        show Go p e below s _ _ _ (T96.setTop (mkF m 182 #[.val (.int x0), .val (.int x1), .val (.int x2), .val (.int x3), .val (.int x4), .val (.int x5), .val (.int (v0_k1 x4)), .val (.int (v0_k2 x4)), .val (.int (v0_L x5)), .val (.ref b1), .val (.ref b87), .val (.int (f3 (v0_L x5) (0 : Int32))), .val (.int (f3 (v0_L x5) (Int32.ofNat (0 + 0 + 1))))] [(.int (v0_k1 x4)), (.int (f3 (v0_L x5) (Int32.ofNat (0 + 0 + 1))))]))
        refine g_iload X96 hx 184 (hb hby at_182) rfl rfl ?_
        show Go p e below s _ _ _ (T96.setTop (mkF m 184 #[.val (.int x0), .val (.int x1), .val (.int x2), .val (.int x3), .val (.int x4), .val (.int x5), .val (.int (v0_k1 x4)), .val (.int (v0_k2 x4)), .val (.int (v0_L x5)), .val (.ref b1), .val (.ref b87), .val (.int (f3 (v0_L x5) (0 : Int32))), .val (.int (f3 (v0_L x5) (Int32.ofNat (0 + 0 + 1))))] [(.int (v0_L x5)), (.int (v0_k1 x4)), (.int (f3 (v0_L x5) (Int32.ofNat (0 + 0 + 1))))]))
        refine g_icmp_ge X96 hx 191 187 (hb hby at_184) (by decide) rfl rfl (fun h97 => ?_) (fun h97 => ?_)
        · show Go p e below s _ _ _ (T96.setTop (mkF m 187 #[.val (.int x0), .val (.int x1), .val (.int x2), .val (.int x3), .val (.int x4), .val (.int x5), .val (.int (v0_k1 x4)), .val (.int (v0_k2 x4)), .val (.int (v0_L x5)), .val (.ref b1), .val (.ref b87), .val (.int (f3 (v0_L x5) (0 : Int32))), .val (.int (f3 (v0_L x5) (Int32.ofNat (0 + 0 + 1))))] [(.int (f3 (v0_L x5) (Int32.ofNat (0 + 0 + 1))))]))
          refine g_iconst X96 hx (1 : Int32) 188 (hb hby at_187) rfl rfl ?_
          show Go p e below s _ _ _ (T96.setTop (mkF m 188 #[.val (.int x0), .val (.int x1), .val (.int x2), .val (.int x3), .val (.int x4), .val (.int x5), .val (.int (v0_k1 x4)), .val (.int (v0_k2 x4)), .val (.int (v0_L x5)), .val (.ref b1), .val (.ref b87), .val (.int (f3 (v0_L x5) (0 : Int32))), .val (.int (f3 (v0_L x5) (Int32.ofNat (0 + 0 + 1))))] [(.int (1 : Int32)), (.int (f3 (v0_L x5) (Int32.ofNat (0 + 0 + 1))))]))
          refine g_goto X96 hx 192 (hb hby at_188) (by decide) rfl ?_
          show Go p e below s _ _ _ (T96.setTop (mkF m 192 #[.val (.int x0), .val (.int x1), .val (.int x2), .val (.int x3), .val (.int x4), .val (.int x5), .val (.int (v0_k1 x4)), .val (.int (v0_k2 x4)), .val (.int (v0_L x5)), .val (.ref b1), .val (.ref b87), .val (.int (f3 (v0_L x5) (0 : Int32))), .val (.int (f3 (v0_L x5) (Int32.ofNat (0 + 0 + 1))))] [(.int (1 : Int32)), (.int (f3 (v0_L x5) (Int32.ofNat (0 + 0 + 1))))]))
          have h98 : (f3 (v0_L x5) (Int32.ofNat (0 + 0 + 1))) = (1 : Int32) := own_more (by rw [(own_k1 ‹¬ v0_k1 x4 = (2 : Int32)›)]; rfl) ‹v0_k1 x4 < v0_L x5›
          refine g_icmp_eq X96 hx 197 195 (hb hby at_192) (by decide) rfl rfl (fun _ => ?_) (fun q => absurd h98 q)
          show Go p e below s _ _ _ (T96.setTop (mkF m 197 #[.val (.int x0), .val (.int x1), .val (.int x2), .val (.int x3), .val (.int x4), .val (.int x5), .val (.int (v0_k1 x4)), .val (.int (v0_k2 x4)), .val (.int (v0_L x5)), .val (.ref b1), .val (.ref b87), .val (.int (f3 (v0_L x5) (0 : Int32))), .val (.int (f3 (v0_L x5) (Int32.ofNat (0 + 0 + 1))))] []))
          refine g_iload X96 hx 199 (hb hby at_197) rfl rfl ?_
          show Go p e below s _ _ _ (T96.setTop (mkF m 199 #[.val (.int x0), .val (.int x1), .val (.int x2), .val (.int x3), .val (.int x4), .val (.int x5), .val (.int (v0_k1 x4)), .val (.int (v0_k2 x4)), .val (.int (v0_L x5)), .val (.ref b1), .val (.ref b87), .val (.int (f3 (v0_L x5) (0 : Int32))), .val (.int (f3 (v0_L x5) (Int32.ofNat (0 + 0 + 1))))] [(.int (f3 (v0_L x5) (Int32.ofNat (0 + 0 + 1))))]))
          have h99 : ¬ ((f3 (v0_L x5) (Int32.ofNat (0 + 0 + 1))) = (0 : Int32)) := fun q => absurd ((own_more (by rw [(own_k1 ‹¬ v0_k1 x4 = (2 : Int32)›)]; rfl) ‹v0_k1 x4 < v0_L x5›).symm.trans q) (by decide)
          refine g_if0_ne X96 hx 204 202 (hb hby at_199) (by decide) rfl rfl (fun q => absurd q h99) (fun _ => ?_)
          show Go p e below s _ _ _ (T96.setTop (mkF m 204 #[.val (.int x0), .val (.int x1), .val (.int x2), .val (.int x3), .val (.int x4), .val (.int x5), .val (.int (v0_k1 x4)), .val (.int (v0_k2 x4)), .val (.int (v0_L x5)), .val (.ref b1), .val (.ref b87), .val (.int (f3 (v0_L x5) (0 : Int32))), .val (.int (f3 (v0_L x5) (Int32.ofNat (0 + 0 + 1))))] []))
          refine g_aload X96 hx 206 (hb hby at_204) rfl rfl rfl ?_
          show Go p e below s _ _ _ (T96.setTop (mkF m 206 #[.val (.int x0), .val (.int x1), .val (.int x2), .val (.int x3), .val (.int x4), .val (.int x5), .val (.int (v0_k1 x4)), .val (.int (v0_k2 x4)), .val (.int (v0_L x5)), .val (.ref b1), .val (.ref b87), .val (.int (f3 (v0_L x5) (0 : Int32))), .val (.int (f3 (v0_L x5) (Int32.ofNat (0 + 0 + 1))))] [(.ref b87)]))
          refine g_callV X96 hx hZ hown (hw _ (List.mem_of_getElem? (i := 22) rfl)) (hw _ (List.mem_of_getElem? (i := 23) rfl)) (hw _ (List.mem_of_getElem? (i := 25) rfl)) (hw _ (List.mem_of_getElem? (i := 24) rfl)) (hw _ (List.mem_of_getElem? (i := 4) rfl)) (hw _ (List.mem_of_getElem? (i := 26) rfl)) (by decide) e96 b87 k95_4 (rm4 l Z a0 hw [] b87 b1 (v0_L x5) (Int32.ofNat (0 + 0 + 1)) 4 (upd (upd (upd (upd (fun _ => (0 : Int32)) 0 (i2bI (i2bI (x0 &&& (127 : Int32))))) 1 (i2bI (i2bI (x1 &&& (127 : Int32))))) 2 (i2bI (i2bI (x2 &&& (127 : Int32))))) 3 (i2bI (i2bI (x3 &&& (127 : Int32))))) 1 0 T95.heap n0 Z95 k95_4 p95_0 p95_1 p95_2 k95_1 N_b87 (Ne.symm ne_b1_b87) (rfl : (Int32.ofNat (0 + 0 + 1)).toInt = 1) (by decide : 1 + 0 < 4) (fun j hj => absurd hj (Nat.not_lt_zero j) : ∀ j, j < 0 → (upd (upd (upd (upd (fun _ => (0 : Int32)) 0 (i2bI (i2bI (x0 &&& (127 : Int32))))) 1 (i2bI (i2bI (x1 &&& (127 : Int32))))) 2 (i2bI (i2bI (x2 &&& (127 : Int32))))) 3 (i2bI (i2bI (x3 &&& (127 : Int32))))) (1 + j) < 0) (own_b7 _ : ¬ (upd (upd (upd (upd (fun _ => (0 : Int32)) 0 (i2bI (i2bI (x0 &&& (127 : Int32))))) 1 (i2bI (i2bI (x1 &&& (127 : Int32))))) 2 (i2bI (i2bI (x2 &&& (127 : Int32))))) 3 (i2bI (i2bI (x3 &&& (127 : Int32))))) (1 + 0) < 0)) [] [] 0 rfl (lenOf pd__28_29I rfl) rfl (Nat.le_of_eq rfl) (by decide) (by decide) (by decide) (by decide) (by rw [hml]; rfl) (hb hby at_206) ?_
          intro T100 L100 v100 X100 q100
          obtain ⟨rfl, N100, K100, p100_0, p100_1, p100_2⟩ := q100
          have NN100 := Fr.app NS96 N100
          have k100_1 := k95_1.keep K100 (nm1 ne_b1_b87 nm0)
          have k100_4 := k95_4.keep K100
          have Z100 : n0 ≤ T100.heap.size := Nat.le_trans Z95 K100.1
          show Go p e below s _ _ _ (T100.setTop (mkF m 209 #[.val (.int x0), .val (.int x1), .val (.int x2), .val (.int x3), .val (.int x4), .val (.int x5), .val (.int (v0_k1 x4)), .val (.int (v0_k2 x4)), .val (.int (v0_L x5)), .val (.ref b1), .val (.ref b87), .val (.int (f3 (v0_L x5) (0 : Int32))), .val (.int (f3 (v0_L x5) (Int32.ofNat (0 + 0 + 1))))] [(.int (own_rd (upd (upd (upd (upd (fun _ => (0 : Int32)) 0 (i2bI (i2bI (x0 &&& (127 : Int32))))) 1 (i2bI (i2bI (x1 &&& (127 : Int32))))) 2 (i2bI (i2bI (x2 &&& (127 : Int32))))) 3 (i2bI (i2bI (x3 &&& (127 : Int32))))) 0 1 0 0))]))
          refine g_pop X100 hx 210 (hb hby at_209) rfl rfl ?_
          show Go p e below s _ _ _ (T100.setTop (mkF m 210 #[.val (.int x0), .val (.int x1), .val (.int x2), .val (.int x3), .val (.int x4), .val (.int x5), .val (.int (v0_k1 x4)), .val (.int (v0_k2 x4)), .val (.int (v0_L x5)), .val (.ref b1), .val (.ref b87), .val (.int (f3 (v0_L x5) (0 : Int32))), .val (.int (f3 (v0_L x5) (Int32.ofNat (0 + 0 + 1))))] []))
          refine g_aload X100 hx 212 (hb hby at_210) rfl rfl rfl ?_
          show Go p e below s _ _ _ (T100.setTop (mkF m 212 #[.val (.int x0), .val (.int x1), .val (.int x2), .val (.int x3), .val (.int x4), .val (.int x5), .val (.int (v0_k1 x4)), .val (.int (v0_k2 x4)), .val (.int (v0_L x5)), .val (.ref b1), .val (.ref b87), .val (.int (f3 (v0_L x5) (0 : Int32))), .val (.int (f3 (v0_L x5) (Int32.ofNat (0 + 0 + 1))))] [(.ref b87)]))
          refine g_callV X100 hx hZ hown (hw _ (List.mem_of_getElem? (i := 15) rfl)) (hw _ (List.mem_of_getElem? (i := 16) rfl)) (hw _ (List.mem_of_getElem? (i := 18) rfl)) (hw _ (List.mem_of_getElem? (i := 17) rfl)) (hw _ (List.mem_of_getElem? (i := 4) rfl)) (hw _ (List.mem_of_getElem? (i := 19) rfl)) (by decide) rfl b87 k100_4 (rm3 l Z a0 hw [] b87 (v0_L x5) (Int32.ofNat (1 + 0 + 1)) T100.heap p100_1 p100_2) [] [] 0 rfl (lenOf pd__28_29Z rfl) rfl (Nat.le_of_eq rfl) (by decide) (by decide) (by decide) (by decide) (by rw [hml]; rfl) (hb hby at_212) ?_
          intro T101 L101 v101 X101 q101
          obtain ⟨rfl, rfl, e101⟩ := q101
          have NS101 := Fr.app NN100 (Fr.nil n0)
          show Go p e below s _ _ _ (T101.setTop (mkF m 215 #[.val (.int x0), .val (.int x1), .val (.int x2), .val (.int x3), .val (.int x4), .val (.int x5), .val (.int (v0_k1 x4)), .val (.int (v0_k2 x4)), .val (.int (v0_L x5)), .val (.ref b1), .val (.ref b87), .val (.int (f3 (v0_L x5) (0 : Int32))), .val (.int (f3 (v0_L x5) (Int32.ofNat (0 + 0 + 1))))] [(.int (f3 (v0_L x5) (Int32.ofNat (1 + 0 + 1))))]))
          refine g_iload X101 hx 217 (hb hby at_215) rfl rfl ?_
          show Go p e below s _ _ _ (T101.setTop (mkF m 217 #[.val (.int x0), .val (.int x1), .val (.int x2), .val (.int x3), .val (.int x4), .val (.int x5), .val (.int (v0_k1 x4)), .val (.int (v0_k2 x4)), .val (.int (v0_L x5)), .val (.ref b1), .val (.ref b87), .val (.int (f3 (v0_L x5) (0 : Int32))), .val (.int (f3 (v0_L x5) (Int32.ofNat (0 + 0 + 1))))] [(.int (v0_k1 x4)), (.int (f3 (v0_L x5) (Int32.ofNat (1 + 0 + 1))))]))
          refine g_iload X101 hx 219 (hb hby at_217) rfl rfl ?_
          show Go p e below s _ _ _ (T101.setTop (mkF m 219 #[.val (.int x0), .val (.int x1), .val (.int x2), .val (.int x3), .val (.int x4), .val (.int x5), .val (.int (v0_k1 x4)), .val (.int (v0_k2 x4)), .val (.int (v0_L x5)), .val (.ref b1), .val (.ref b87), .val (.int (f3 (v0_L x5) (0 : Int32))), .val (.int (f3 (v0_L x5) (Int32.ofNat (0 + 0 + 1))))] [(.int (v0_k2 x4)), (.int (v0_k1 x4)), (.int (f3 (v0_L x5) (Int32.ofNat (1 + 0 + 1))))]))
          refine g_iadd X101 hx 220 (hb hby at_219) rfl ?_
          show Go p e below s _ _ _ (T101.setTop (mkF m 220 #[.val (.int x0), .val (.int x1), .val (.int x2), .val (.int x3), .val (.int x4), .val (.int x5), .val (.int (v0_k1 x4)), .val (.int (v0_k2 x4)), .val (.int (v0_L x5)), .val (.ref b1), .val (.ref b87), .val (.int (f3 (v0_L x5) (0 : Int32))), .val (.int (f3 (v0_L x5) (Int32.ofNat (0 + 0 + 1))))] [(.int ((v0_k1 x4) + (v0_k2 x4))), (.int (f3 (v0_L x5) (Int32.ofNat (1 + 0 + 1))))]))
          refine g_iload X101 hx 222 (hb hby at_220) rfl rfl ?_
          show Go p e below s _ _ _ (T101.setTop (mkF m 222 #[.val (.int x0), .val (.int x1), .val (.int x2), .val (.int x3), .val (.int x4), .val (.int x5), .val (.int (v0_k1 x4)), .val (.int (v0_k2 x4)), .val (.int (v0_L x5)), .val (.ref b1), .val (.ref b87), .val (.int (f3 (v0_L x5) (0 : Int32))), .val (.int (f3 (v0_L x5) (Int32.ofNat (0 + 0 + 1))))] [(.int (v0_L x5)), (.int ((v0_k1 x4) + (v0_k2 x4))), (.int (f3 (v0_L x5) (Int32.ofNat (1 + 0 + 1))))]))
          refine g_icmp_ge X101 hx 229 225 (hb hby at_222) (by decide) rfl rfl (fun h102 => ?_) (fun h102 => ?_)
          · show Go p e below s _ _ _ (T101.setTop (mkF m 225 #[.val (.int x0), .val (.int x1), .val (.int x2), .val (.int x3), .val (.int x4), .val (.int x5), .val (.int (v0_k1 x4)), .val (.int (v0_k2 x4)), .val (.int (v0_L x5)), .val (.ref b1), .val (.ref b87), .val (.int (f3 (v0_L x5) (0 : Int32))), .val (.int (f3 (v0_L x5) (Int32.ofNat (0 + 0 + 1))))] [(.int (f3 (v0_L x5) (Int32.ofNat (1 + 0 + 1))))]))
            refine g_iconst X101 hx (1 : Int32) 226 (hb hby at_225) rfl rfl ?_
            show Go p e below s _ _ _ (T101.setTop (mkF m 226 #[.val (.int x0), .val (.int x1), .val (.int x2), .val (.int x3), .val (.int x4), .val (.int x5), .val (.int (v0_k1 x4)), .val (.int (v0_k2 x4)), .val (.int (v0_L x5)), .val (.ref b1), .val (.ref b87), .val (.int (f3 (v0_L x5) (0 : Int32))), .val (.int (f3 (v0_L x5) (Int32.ofNat (0 + 0 + 1))))] [(.int (1 : Int32)), (.int (f3 (v0_L x5) (Int32.ofNat (1 + 0 + 1))))]))
            refine g_goto X101 hx 230 (hb hby at_226) (by decide) rfl ?_
            show Go p e below s _ _ _ (T101.setTop (mkF m 230 #[.val (.int x0), .val (.int x1), .val (.int x2), .val (.int x3), .val (.int x4), .val (.int x5), .val (.int (v0_k1 x4)), .val (.int (v0_k2 x4)), .val (.int (v0_L x5)), .val (.ref b1), .val (.ref b87), .val (.int (f3 (v0_L x5) (0 : Int32))), .val (.int (f3 (v0_L x5) (Int32.ofNat (0 + 0 + 1))))] [(.int (1 : Int32)), (.int (f3 (v0_L x5) (Int32.ofNat (1 + 0 + 1))))]))
            have h103 : (f3 (v0_L x5) (Int32.ofNat (1 + 0 + 1))) = (1 : Int32) := own_more (by rw [(own_k1 ‹¬ v0_k1 x4 = (2 : Int32)›), (own_k2 ‹¬ v0_k2 x4 = (2 : Int32)›)]; rfl) ‹v0_k1 x4 + v0_k2 x4 < v0_L x5›
            refine g_icmp_ne X101 hx 237 233 (hb hby at_230) (by decide) rfl rfl (fun _ => ?_) (fun q => absurd h103 q)
            show Go p e below s _ _ _ (T101.setTop (mkF m 233 #[.val (.int x0), .val (.int x1), .val (.int x2), .val (.int x3), .val (.int x4), .val (.int x5), .val (.int (v0_k1 x4)), .val (.int (v0_k2 x4)), .val (.int (v0_L x5)), .val (.ref b1), .val (.ref b87), .val (.int (f3 (v0_L x5) (0 : Int32))), .val (.int (f3 (v0_L x5) (Int32.ofNat (0 + 0 + 1))))] []))
            refine g_iconst X101 hx (1 : Int32) 234 (hb hby at_233) rfl rfl ?_
            show Go p e below s _ _ _ (T101.setTop (mkF m 234 #[.val (.int x0), .val (.int x1), .val (.int x2), .val (.int x3), .val (.int x4), .val (.int x5), .val (.int (v0_k1 x4)), .val (.int (v0_k2 x4)), .val (.int (v0_L x5)), .val (.ref b1), .val (.ref b87), .val (.int (f3 (v0_L x5) (0 : Int32))), .val (.int (f3 (v0_L x5) (Int32.ofNat (0 + 0 + 1))))] [(.int (1 : Int32))]))
            refine g_goto X101 hx 238 (hb hby at_234) (by decide) rfl ?_
            show Go p e below s _ _ _ (T101.setTop (mkF m 238 #[.val (.int x0), .val (.int x1), .val (.int x2), .val (.int x3), .val (.int x4), .val (.int x5), .val (.int (v0_k1 x4)), .val (.int (v0_k2 x4)), .val (.int (v0_L x5)), .val (.ref b1), .val (.ref b87), .val (.int (f3 (v0_L x5) (0 : Int32))), .val (.int (f3 (v0_L x5) (Int32.ofNat (0 + 0 + 1))))] [(.int (1 : Int32))]))
            exact g_retN X101 hx hret (by simp) hlk (hb hby at_238) (by decide) (by decide) ⟨rfl, NS101⟩
          · show Go p e below s _ _ _ (T101.setTop (mkF m 229 #[.val (.int x0), .val (.int x1), .val (.int x2), .val (.int x3), .val (.int x4), .val (.int x5), .val (.int (v0_k1 x4)), .val (.int (v0_k2 x4)), .val (.int (v0_L x5)), .val (.ref b1), .val (.ref b87), .val (.int (f3 (v0_L x5) (0 : Int32))), .val (.int (f3 (v0_L x5) (Int32.ofNat (0 + 0 + 1))))] [(.int (f3 (v0_L x5) (Int32.ofNat (1 + 0 + 1))))]))
            refine g_iconst X101 hx (0 : Int32) 230 (hb hby at_229) rfl rfl ?_
            show Go p e below s _ _ _ (T101.setTop (mkF m 230 #[.val (.int x0), .val (.int x1), .val (.int x2), .val (.int x3), .val (.int x4), .val (.int x5), .val (.int (v0_k1 x4)), .val (.int (v0_k2 x4)), .val (.int (v0_L x5)), .val (.ref b1), .val (.ref b87), .val (.int (f3 (v0_L x5) (0 : Int32))), .val (.int (f3 (v0_L x5) (Int32.ofNat (0 + 0 + 1))))] [(.int (0 : Int32)), (.int (f3 (v0_L x5) (Int32.ofNat (1 + 0 + 1))))]))
            have h104 : (f3 (v0_L x5) (Int32.ofNat (1 + 0 + 1))) = (0 : Int32) := own_less (by rw [(own_k1 ‹¬ v0_k1 x4 = (2 : Int32)›), (own_k2 ‹¬ v0_k2 x4 = (2 : Int32)›)]; rfl) ‹¬ v0_k1 x4 + v0_k2 x4 < v0_L x5›
            refine g_icmp_ne X101 hx 237 233 (hb hby at_230) (by decide) rfl rfl (fun _ => ?_) (fun q => absurd h104 q)
            show Go p e below s _ _ _ (T101.setTop (mkF m 233 #[.val (.int x0), .val (.int x1), .val (.int x2), .val (.int x3), .val (.int x4), .val (.int x5), .val (.int (v0_k1 x4)), .val (.int (v0_k2 x4)), .val (.int (v0_L x5)), .val (.ref b1), .val (.ref b87), .val (.int (f3 (v0_L x5) (0 : Int32))), .val (.int (f3 (v0_L x5) (Int32.ofNat (0 + 0 + 1))))] []))
            refine g_iconst X101 hx (1 : Int32) 234 (hb hby at_233) rfl rfl ?_
            show Go p e below s _ _ _ (T101.setTop (mkF m 234 #[.val (.int x0), .val (.int x1), .val (.int x2), .val (.int x3), .val (.int x4), .val (.int x5), .val (.int (v0_k1 x4)), .val (.int (v0_k2 x4)), .val (.int (v0_L x5)), .val (.ref b1), .val (.ref b87), .val (.int (f3 (v0_L x5) (0 : Int32))), .val (.int (f3 (v0_L x5) (Int32.ofNat (0 + 0 + 1))))] [(.int (1 : Int32))]))
            refine g_goto X101 hx 238 (hb hby at_234) (by decide) rfl ?_
            show Go p e below s _ _ _ (T101.setTop (mkF m 238 #[.val (.int x0), .val (.int x1), .val (.int x2), .val (.int x3), .val (.int x4), .val (.int x5), .val (.int (v0_k1 x4)), .val (.int (v0_k2 x4)), .val (.int (v0_L x5)), .val (.ref b1), .val (.ref b87), .val (.int (f3 (v0_L x5) (0 : Int32))), .val (.int (f3 (v0_L x5) (Int32.ofNat (0 + 0 + 1))))] [(.int (1 : Int32))]))
            exact g_retN X101 hx hret (by simp) hlk (hb hby at_238) (by decide) (by decide) ⟨rfl, NS101⟩
        · show Go p e below s _ _ _ (T96.setTop (mkF m 191 #[.val (.int x0), .val (.int x1), .val (.int x2), .val (.int x3), .val (.int x4), .val (.int x5), .val (.int (v0_k1 x4)), .val (.int (v0_k2 x4)), .val (.int (v0_L x5)), .val (.ref b1), .val (.ref b87), .val (.int (f3 (v0_L x5) (0 : Int32))), .val (.int (f3 (v0_L x5) (Int32.ofNat (0 + 0 + 1))))] [(.int (f3 (v0_L x5) (Int32.ofNat (0 + 0 + 1))))]))
          refine g_iconst X96 hx (0 : Int32) 192 (hb hby at_191) rfl rfl ?_
          show Go p e below s _ _ _ (T96.setTop (mkF m 192 #[.val (.int x0), .val (.int x1), .val (.int x2), .val (.int x3), .val (.int x4), .val (.int x5), .val (.int (v0_k1 x4)), .val (.int (v0_k2 x4)), .val (.int (v0_L x5)), .val (.ref b1), .val (.ref b87), .val (.int (f3 (v0_L x5) (0 : Int32))), .val (.int (f3 (v0_L x5) (Int32.ofNat (0 + 0 + 1))))] [(.int (0 : Int32)), (.int (f3 (v0_L x5) (Int32.ofNat (0 + 0 + 1))))]))
          have h105 : (f3 (v0_L x5) (Int32.ofNat (0 + 0 + 1))) = (0 : Int32) := own_less (by rw [(own_k1 ‹¬ v0_k1 x4 = (2 : Int32)›)]; rfl) ‹¬ v0_k1 x4 < v0_L x5›
          refine g_icmp_eq X96 hx 197 195 (hb hby at_192) (by decide) rfl rfl (fun _ => ?_) (fun q => absurd h105 q)
          show Go p e below s _ _ _ (T96.setTop (mkF m 197 #[.val (.int x0), .val (.int x1), .val (.int x2), .val (.int x3), .val (.int x4), .val (.int x5), .val (.int (v0_k1 x4)), .val (.int (v0_k2 x4)), .val (.int (v0_L x5)), .val (.ref b1), .val (.ref b87), .val (.int (f3 (v0_L x5) (0 : Int32))), .val (.int (f3 (v0_L x5) (Int32.ofNat (0 + 0 + 1))))] []))
          refine g_iload X96 hx 199 (hb hby at_197) rfl rfl ?_
          show Go p e below s _ _ _ (T96.setTop (mkF m 199 #[.val (.int x0), .val (.int x1), .val (.int x2), .val (.int x3), .val (.int x4), .val (.int x5), .val (.int (v0_k1 x4)), .val (.int (v0_k2 x4)), .val (.int (v0_L x5)), .val (.ref b1), .val (.ref b87), .val (.int (f3 (v0_L x5) (0 : Int32))), .val (.int (f3 (v0_L x5) (Int32.ofNat (0 + 0 + 1))))] [(.int (f3 (v0_L x5) (Int32.ofNat (0 + 0 + 1))))]))
          have h106 : (f3 (v0_L x5) (Int32.ofNat (0 + 0 + 1))) = (0 : Int32) := own_less (by rw [(own_k1 ‹¬ v0_k1 x4 = (2 : Int32)›)]; rfl) ‹¬ v0_k1 x4 < v0_L x5›
          refine g_if0_ne X96 hx 204 202 (hb hby at_199) (by decide) rfl rfl (fun _ => ?_) (fun q => absurd h106 q)
          show Go p e below s _ _ _ (T96.setTop (mkF m 202 #[.val (.int x0), .val (.int x1), .val (.int x2), .val (.int x3), .val (.int x4), .val (.int x5), .val (.int (v0_k1 x4)), .val (.int (v0_k2 x4)), .val (.int (v0_L x5)), .val (.ref b1), .val (.ref b87), .val (.int (f3 (v0_L x5) (0 : Int32))), .val (.int (f3 (v0_L x5) (Int32.ofNat (0 + 0 + 1))))] []))
          refine g_iconst X96 hx (1 : Int32) 203 (hb hby at_202) rfl rfl ?_
          show Go p e below s _ _ _ (T96.setTop (mkF m 203 #[.val (.int x0), .val (.int x1), .val (.int x2), .val (.int x3), .val (.int x4), .val (.int x5), .val (.int (v0_k1 x4)), .val (.int (v0_k2 x4)), .val (.int (v0_L x5)), .val (.ref b1), .val (.ref b87), .val (.int (f3 (v0_L x5) (0 : Int32))), .val (.int (f3 (v0_L x5) (Int32.ofNat (0 + 0 + 1))))] [(.int (1 : Int32))]))
          exact g_retN X96 hx hret (by simp) hlk (hb hby at_203) (by decide) (by decide) ⟨rfl, NS96⟩
      · show Go p e below s _ _ _ (T89.setTop (mkF m 140 #[.val (.int x0), .val (.int x1), .val (.int x2), .val (.int x3), .val (.int x4), .val (.int x5), .val (.int (v0_k1 x4)), .val (.int (v0_k2 x4)), .val (.int (v0_L x5)), .val (.ref b1), .val (.ref b87), .val (.int (f3 (v0_L x5) (0 : Int32))), .unset] [(.int (f3 (v0_L x5) (0 : Int32)))]))
        refine g_iconst X89 hx (0 : Int32) 141 (hb hby at_140) rfl rfl ?_
        show Go p e below s _ _ _ (T89.setTop (mkF m 141 #[.val (.int x0), .val (.int x1), .val (.int x2), .val (.int x3), .val (.int x4), .val (.int x5), .val (.int (v0_k1 x4)), .val (.int (v0_k2 x4)), .val (.int (v0_L x5)), .val (.ref b1), .val (.ref b87), .val (.int (f3 (v0_L x5) (0 : Int32))), .unset] [(.int (0 : Int32)), (.int (f3 (v0_L x5) (0 : Int32)))]))
        have h107 : (f3 (v0_L x5) (0 : Int32)) = (0 : Int32) := own_less rfl ‹¬ (0 : Int32) < v0_L x5›
        refine g_icmp_eq X89 hx 146 144 (hb hby at_141) (by decide) rfl rfl (fun _ => ?_) (fun q => absurd h107 q)
        show Go p e below s _ _ _ (T89.setTop (mkF m 146 #[.val (.int x0), .val (.int x1), .val (.int x2), .val (.int x3), .val (.int x4), .val (.int x5), .val (.int (v0_k1 x4)), .val (.int (v0_k2 x4)), .val (.int (v0_L x5)), .val (.ref b1), .val (.ref b87), .val (.int (f3 (v0_L x5) (0 : Int32))), .unset] []))
        refine g_aload X89 hx 148 (hb hby at_146) rfl rfl rfl ?_
        show Go p e below s _ _ _ (T89.setTop (mkF m 148 #[.val (.int x0), .val (.int x1), .val (.int x2), .val (.int x3), .val (.int x4), .val (.int x5), .val (.int (v0_k1 x4)), .val (.int (v0_k2 x4)), .val (.int (v0_L x5)), .val (.ref b1), .val (.ref b87), .val (.int (f3 (v0_L x5) (0 : Int32))), .unset] [(.ref b87)]))
        refine g_callV X89 hx hZ hown (hw _ (List.mem_of_getElem? (i := 15) rfl)) (hw _ (List.mem_of_getElem? (i := 16) rfl)) (hw _ (List.mem_of_getElem? (i := 18) rfl)) (hw _ (List.mem_of_getElem? (i := 17) rfl)) (hw _ (List.mem_of_getElem? (i := 4) rfl)) (hw _ (List.mem_of_getElem? (i := 19) rfl)) (by decide) e89 b87 k88_4 (rm3 l Z a0 hw [] b87 (v0_L x5) (0 : Int32) T88.heap p88_1 p88_2) [] [] 0 rfl (lenOf pd__28_29Z rfl) rfl (Nat.le_of_eq rfl) (by decide) (by decide) (by decide) (by decide) (by rw [hml]; rfl) (hb hby at_148) ?_
        intro T108 L108 v108 X108 q108
        obtain ⟨rfl, rfl, e108⟩ := q108
        have NS108 := Fr.app NS89 (Fr.nil n0)
        show Go p e below s _ _ _ (T108.setTop (mkF m 151 #[.val (.int x0), .val (.int x1), .val (.int x2), .val (.int x3), .val (.int x4), .val (.int x5), .val (.int (v0_k1 x4)), .val (.int (v0_k2 x4)), .val (.int (v0_L x5)), .val (.ref b1), .val (.ref b87), .val (.int (f3 (v0_L x5) (0 : Int32))), .unset] [(.int (f3 (v0_L x5) (0 : Int32)))]))
        refine g_iload X108 hx 153 (hb hby at_151) rfl rfl ?_
        show Go p e below s _ _ _ (T108.setTop (mkF m 153 #[.val (.int x0), .val (.int x1), .val (.int x2), .val (.int x3), .val (.int x4), .val (.int x5), .val (.int (v0_k1 x4)), .val (.int (v0_k2 x4)), .val (.int (v0_L x5)), .val (.ref b1), .val (.ref b87), .val (.int (f3 (v0_L x5) (0 : Int32))), .unset] [(.int (f3 (v0_L x5) (0 : Int32))), (.int (f3 (v0_L x5) (0 : Int32)))]))
        have h109 : (f3 (v0_L x5) (0 : Int32)) = (f3 (v0_L x5) (0 : Int32)) := rfl
        refine g_icmp_eq X108 hx 158 156 (hb hby at_153) (by decide) rfl rfl (fun _ => ?_) (fun q => absurd h109 q)
        show Go p e below s _ _ _ (T108.setTop (mkF m 158 #[.val (.int x0), .val (.int x1), .val (.int x2), .val (.int x3), .val (.int x4), .val (.int x5), .val (.int (v0_k1 x4)), .val (.int (v0_k2 x4)), .val (.int (v0_L x5)), .val (.ref b1), .val (.ref b87), .val (.int (f3 (v0_L x5) (0 : Int32))), .unset] []))
        refine g_iload X108 hx 160 (hb hby at_158) rfl rfl ?_
        show Go p e below s _ _ _ (T108.setTop (mkF m 160 #[.val (.int x0), .val (.int x1), .val (.int x2), .val (.int x3), .val (.int x4), .val (.int x5), .val (.int (v0_k1 x4)), .val (.int (v0_k2 x4)), .val (.int (v0_L x5)), .val (.ref b1), .val (.ref b87), .val (.int (f3 (v0_L x5) (0 : Int32))), .unset] [(.int (f3 (v0_L x5) (0 : Int32)))]))
        have h110 : (f3 (v0_L x5) (0 : Int32)) = (0 : Int32) := own_less rfl ‹¬ (0 : Int32) < v0_L x5›
        refine g_if0_ne X108 hx 165 163 (hb hby at_160) (by decide) rfl rfl (fun _ => ?_) (fun q => absurd h110 q)
        show Go p e below s _ _ _ (T108.setTop (mkF m 163 #[.val (.int x0), .val (.int x1), .val (.int x2), .val (.int x3), .val (.int x4), .val (.int x5), .val (.int (v0_k1 x4)), .val (.int (v0_k2 x4)), .val (.int (v0_L x5)), .val (.ref b1), .val (.ref b87), .val (.int (f3 (v0_L x5) (0 : Int32))), .unset] []))
        refine g_iconst X108 hx (1 : Int32) 164 (hb hby at_163) rfl rfl ?_
        show Go p e below s _ _ _ (T108.setTop (mkF m 164 #[.val (.int x0), .val (.int x1), .val (.int x2), .val (.int x3), .val (.int x4), .val (.int x5), .val (.int (v0_k1 x4)), .val (.int (v0_k2 x4)), .val (.int (v0_L x5)), .val (.ref b1), .val (.ref b87), .val (.int (f3 (v0_L x5) (0 : Int32))), .unset] [(.int (1 : Int32))]))
        exact g_retN X108 hx hret (by simp) hlk (hb hby at_164) (by decide) (by decide) ⟨rfl, NS108⟩
set_option maxRecDepth 65536 in
set_option maxHeartbeats 40000000 in
theorem comes_1 {Post : Tables → Env → Array Value → State → Outcome → State → Prop} (hpost : ∀ tb e args s v u, (limb_1_1.after args s (.returned v) u = true ∧ limb_1_2.after args s (.returned v) u = true ∧ True) → FrameEnd s (.returned v) u (Jvm.fieldLocs frame_1_writes args s ++ Jvm.arrayLocs frame_1_arrays args s ++ Jvm.staticLocs frame_1_statics s) 16 128 → Post tb e args s (.returned v) u) :
    ArmFor flags0 classFile x code maxLocals ret World_1 tables_1 room_1 Calls_1 rest_1 Pre_1 Post := by
  intro l hfl _ _ p e ha hc hk s m args below hf hA hF happ hP
  obtain ⟨hcalls, hrest, hpre⟩ := hP
  obtain ⟨-, -, -, hnamed, -, -, -, hat⟩ := (Spec.applies_iff hf).mp happ
  obtain ⟨hg, hn⟩ := and_e (Cond.before_iff.mp (show (Jvm.Cond.and given_1 narrow_1).before args s = true from hpre))
  obtain ⟨g1, g2⟩ := and_e hg
  obtain ⟨g3, g4⟩ := and_e g2
  obtain ⟨g5, g6⟩ := and_e g4
  obtain ⟨g7, g8⟩ := and_e g6
  obtain ⟨g9, g10⟩ := and_e g8
  obtain ⟨g11, g12⟩ := and_e g10
  obtain ⟨w0, w1, w2, w3, w4, w5, rfl⟩ : ∃ w0 w1 w2 w3 w4 w5 : Value, args = #[w0, w1, w2, w3, w4, w5] := by
    have hs : args.size = 6 := by simpa [Cond.value, given_1] using g1
    obtain ⟨L⟩ := args
    match L, hs with
    | [w0, w1, w2, w3, w4, w5], _ => exact ⟨w0, w1, w2, w3, w4, w5, rfl⟩
  have hw := fun d (hd : d ∈ tables_1) => atoms_spec (ws := Jvm.Cond.code x code maxLocals ret :: tables_1) hat d (List.mem_cons_of_mem _ hd)
  obtain ⟨i0, ei0⟩ := is_v g3
  obtain rfl : w0 = (.int i0) := Option.some.inj ei0
  obtain ⟨i1, ei1⟩ := is_v g5
  obtain rfl : w1 = (.int i1) := Option.some.inj ei1
  obtain ⟨i2, ei2⟩ := is_v g7
  obtain rfl : w2 = (.int i2) := Option.some.inj ei2
  obtain ⟨i3, ei3⟩ := is_v g9
  obtain rfl : w3 = (.int i3) := Option.some.inj ei3
  obtain ⟨i4, ei4⟩ := is_v g11
  obtain rfl : w4 = (.int i4) := Option.some.inj ei4
  obtain ⟨i5, ei5⟩ := is_v g12
  obtain rfl : w5 = (.int i5) := Option.some.inj ei5
  obtain ⟨n, o, h1, h2, h3, _, L, rfl, ⟨rfl, N⟩, hq⟩ := rm0 l s _ hw tables_1 i0 i1 i2 i3 i4 i5 s.heap s.heap.size (Nat.le_refl _) p e ha hc hk s m _ below hf ((Spec.applies_iff_loose hf).mp happ).1 ⟨rfl, State.Warmed39.refl s, rfl⟩ trivial
  refine ⟨n, _, h1, h2, h3, hpost _ _ _ _ _ _ ⟨Cond.after_iff.mpr rfl, Cond.after_iff.mpr (eq_i res_at (Term.int_eval (1)) rfl), trivial⟩ ⟨hq.1, hq.2.1, (hq.2.2.sift fun y hy => Or.inr (N y hy)).mono (by decide) (by decide)⟩⟩
theorem main_1_1 : Claimed_1_1 := comes_1 fun _ _ _ _ _ _ h hF => ⟨h.1, hF⟩
theorem main_1_2 : Claimed_1_2 := comes_1 fun _ _ _ _ _ _ h hF => ⟨h.2.1, hF⟩
end Jvm.Pilot.@@N@@
namespace Jvm.Pilot.@@N@@
open Jvm Jvm.ClassFile Sem Op Lib Jvm.Free Jvm.Stand Jvm.Pilot.@@N@@.Jvm.D
/-! MADE BY PROGRAM (witnessworld.py) out of the Statement's table words and the real class files: 9 classes; the members and pool entries that the words name. The judged class is class 1, her method 1. -/
namespace start1
open Jvm.ClassFile
def u (s : String) : CpInfo := .utf8 (stringToUtf16 s)
/-- a pool by its gaps: so many unusable entries, then the entry; so many at the end -/
def gap : Nat → List CpInfo → List CpInfo
  | 0, r => r
  | n + 1, r => .unusable :: gap n r
def poolList (es : List (Nat × CpInfo)) (last : Nat) : List CpInfo := es.foldr (fun e r => gap e.1 (e.2 :: r)) (gap last [])
def pool (es : List (Nat × CpInfo)) (last : Nat) : Array CpInfo := ⟨poolList es last⟩
def fileOf (pool : Array CpInfo) (this : Nat) (attrs : Array Attribute := #[]) (ms : Array MethodInfo := #[]) (fl : Nat := 33) (sup : Nat := 0) (ifs : Array Nat := #[]) (fds : Array FieldInfo := #[]) : ClassFile where
  minorVersion := 0
  majorVersion := 65
  constantPool := pool
  accessFlags := fl
  thisClass := this
  superClass := sup
  interfaces := ifs
  fields := fds
  methods := ms
  attributes := attrs
def plain (name : String) (sup : Option ClassId) : Class where
  name := name
  kind := .ordinary
  loader := none
  accessFlags := 33
  super := sup
  interfaces := #[]
  cf := none
  fields := #[]
  methods := #[]
  instanceTypes := #[]
  staticTypes := #[]
  resolved := #[]
  callSites := []
  init := .initialized
  statics := none
  mirror := none

def pool0 : Array CpInfo := pool [(5, u "<init>"), (0, u "()V"), (1, .class_ 10), (1, u "java/lang/Object")] 113

def k0c0 : Code := { maxStack := 0, maxLocals := 1, code := object_method_1_code, exceptionTable := #[], attributes := #[] }
def k0m0 : Method := { name := "<init>", desc := "()V", sig := { parameters := [], returnType := none }, accessFlags := 1, code := some k0c0 }
/-- java/lang/Object -/
def k0 : Class := { plain "java/lang/Object" none with
  accessFlags := 33
  interfaces := #[]
  cf := some (fileOf pool0 8 #[] #[{ accessFlags := 1, nameIndex := 5, descriptorIndex := 6, attributes := #[] }] 33 0 #[] #[])
  fields := #[]
  methods := #[k0m0]
  instanceTypes := #[]
  staticTypes := #[]
  resolved := Array.replicate 124 none
  statics := none }

def pool1 : Array CpInfo := pool [(2, .class_ 4), (1, u "java/lang/Object"), (0, u "<init>"), (0, u "()V"), (0, .integer 2147483647), (0, .class_ 9), (0, u "com/example/terms_in_context/termsincontext/index/VarIntInput"), (0, .methodref 8 11), (0, .nameAndType 5 12), (0, u "([BI)V"), (0, .methodref 8 14), (0, .nameAndType 15 16), (0, u "hasMore"), (0, u "()Z"), (0, .methodref 8 18), (0, .nameAndType 19 20), (0, u "read"), (0, u "()I"), (0, .class_ 22), (0, u "com/example/terms_in_context/termsincontext/index/VarIntInputHasMorePinLaw"), (2, u "law"), (0, u "(IIIIII)Z")] 5

def k1m0 : Method := { name := "<init>", desc := "()V", sig := { parameters := [], returnType := none }, accessFlags := 1, code := none }
def k1c1 : Code := { maxStack := 4, maxLocals := 13, code := code, exceptionTable := #[], attributes := #[] }
def k1m1 : Method := { name := "law", desc := "(IIIIII)Z", sig := { parameters := [.int, .int, .int, .int, .int, .int], returnType := some .boolean }, accessFlags := 9, code := some k1c1 }
/-- com/example/terms_in_context/termsincontext/index/VarIntInputHasMorePinLaw -/
def k1 : Class := { plain "com/example/terms_in_context/termsincontext/index/VarIntInputHasMorePinLaw" (some 0) with
  accessFlags := 49
  interfaces := #[]
  cf := some (fileOf pool1 21 #[] #[{ accessFlags := 1, nameIndex := 5, descriptorIndex := 6, attributes := #[] }, { accessFlags := 9, nameIndex := 25, descriptorIndex := 26, attributes := #[] }] 49 2 #[] #[])
  fields := #[]
  methods := #[k1m0, k1m1]
  instanceTypes := #[]
  staticTypes := #[]
  resolved := Array.replicate 32 none
  statics := none }

def pool2 : Array CpInfo := pool [(1, .methodref 2 3), (0, .class_ 4), (0, .nameAndType 5 6), (0, u "java/lang/Object"), (0, u "<init>"), (0, u "()V"), (0, .fieldref 8 9), (0, .class_ 10), (0, .nameAndType 11 12), (0, u "com/example/terms_in_context/termsincontext/index/VarIntInput"), (0, u "bytes"), (0, u "[B"), (0, .fieldref 8 14), (0, .nameAndType 15 16), (0, u "length"), (0, u "I"), (0, .fieldref 8 18), (0, .nameAndType 19 16), (0, u "offset"), (0, u "([BI)V"), (2, u "hasMore"), (0, u "()Z"), (1, u "read"), (0, u "()I")] 2

def k2c0 : Code := { maxStack := 2, maxLocals := 3, code := prog_29_method_1_code, exceptionTable := #[], attributes := #[] }
def k2m0 : Method := { name := "<init>", desc := "([BI)V", sig := { parameters := [(.array .byte), .int], returnType := none }, accessFlags := 0, code := some k2c0 }
def k2c1 : Code := { maxStack := 2, maxLocals := 1, code := prog_29_method_2_code, exceptionTable := #[], attributes := #[] }
def k2m1 : Method := { name := "hasMore", desc := "()Z", sig := { parameters := [], returnType := some .boolean }, accessFlags := 0, code := some k2c1 }
def k2c2 : Code := { maxStack := 5, maxLocals := 4, code := prog_29_method_3_code, exceptionTable := #[], attributes := #[] }
def k2m2 : Method := { name := "read", desc := "()I", sig := { parameters := [], returnType := some .int }, accessFlags := 0, code := some k2c2 }
/-- com/example/terms_in_context/termsincontext/index/VarIntInput -/
def k2 : Class := { plain "com/example/terms_in_context/termsincontext/index/VarIntInput" (some 0) with
  accessFlags := 48
  interfaces := #[]
  cf := some (fileOf pool2 8 #[] #[{ accessFlags := 0, nameIndex := 5, descriptorIndex := 20, attributes := #[] }, { accessFlags := 0, nameIndex := 23, descriptorIndex := 24, attributes := #[] }, { accessFlags := 0, nameIndex := 26, descriptorIndex := 27, attributes := #[] }] 48 2 #[] #[{ accessFlags := 18, nameIndex := 11, descriptorIndex := 12, attributes := #[] }, { accessFlags := 18, nameIndex := 15, descriptorIndex := 16, attributes := #[] }, { accessFlags := 2, nameIndex := 19, descriptorIndex := 16, attributes := #[] }])
  fields := #[{ name := "bytes", type := (.array .byte), accessFlags := 18, slot := 0, constantValue := 0 }, { name := "length", type := .int, accessFlags := 18, slot := 1, constantValue := 0 }, { name := "offset", type := .int, accessFlags := 2, slot := 2, constantValue := 0 }]
  methods := #[k2m0, k2m1, k2m2]
  instanceTypes := #[(.array .byte), .int, .int]
  staticTypes := #[]
  resolved := Array.replicate 30 none
  statics := none }

def pool3 : Array CpInfo := pool [(1, u "java/lang/Cloneable"), (0, .class_ 1), (0, u "java/lang/Object"), (0, .class_ 3)] 3

/-- java/lang/Cloneable -/
def k3 : Class := { plain "java/lang/Cloneable" (some 0) with
  accessFlags := 1537
  interfaces := #[]
  cf := some (fileOf pool3 2 #[] #[] 1537 4 #[] #[])
  fields := #[]
  methods := #[]
  instanceTypes := #[]
  staticTypes := #[]
  resolved := Array.replicate 8 none
  statics := none }

def pool4 : Array CpInfo := pool [(1, u "java/io/Serializable"), (0, .class_ 1), (0, u "java/lang/Object"), (0, .class_ 3)] 3

/-- java/io/Serializable -/
def k4 : Class := { plain "java/io/Serializable" (some 0) with
  accessFlags := 1537
  interfaces := #[]
  cf := some (fileOf pool4 2 #[] #[] 1537 4 #[] #[])
  fields := #[]
  methods := #[]
  instanceTypes := #[]
  staticTypes := #[]
  resolved := Array.replicate 8 none
  statics := none }

/-- the primitive byte -/
def k5 : Class := { plain "byte" none with kind := .primitive 'B', accessFlags := 0x411 }
/-- [B -/
def k6 : Class := { plain "[B" (some 0) with kind := .array 5 .byte, interfaces := #[3, 4], accessFlags := 1041 }

/-- the primitive int -/
def k7 : Class := { plain "int" none with kind := .primitive 'I', accessFlags := 0x411 }
/-- [I -/
def k8 : Class := { plain "[I" (some 0) with kind := .array 7 .int, interfaces := #[3, 4], accessFlags := 1041 }

def heap : Heap := #[]
def classes : Array Class := #[k0, k1, k2, k3, k4, k5, k6, k7, k8]
def interned : List (Array UInt16 × Addr) := []
def slotsUsed : Nat := 0
def theMethod : MethodId := ⟨1, 1⟩
def args0 : Array Value := #[.int 5, .int 6, .int 7, .int 8, .int 3, .int 10]
def aboutOver (below : List Frame) : State where
  vm := { classes := classes, interned := interned.toArray }
  heap := heap
  slotsUsed := slotsUsed
  threads := #[{ frames := .invoking theMethod args0 :: below }]
def below0 : List Frame := [.native { method := ⟨0, 0⟩, args := #[] }]
def about1 : State := aboutOver below0
def p0 : Program := .bare "" "" ""
def e0 : Env := launch0.env 0 0 0
theorem w_frames : about1.frames = Frame.invoking theMethod args0 :: below0 := rfl
set_option maxRecDepth 65536 in
theorem w_args : argsFit about1.vm theMethod args0 = true := by decide +kernel
set_option maxRecDepth 65536 in
theorem w_heap : heapFits about1 = true := by decide +kernel
set_option maxRecDepth 65536 in
theorem w_runnable : about1.curStatus? = some .runnable := by decide +kernel
set_option maxRecDepth 65536 in
theorem w_alone : about1.alone = true := by decide +kernel
set_option maxRecDepth 65536 in
theorem w_named : about1.methodNamed? x = some theMethod := by decide +kernel
set_option maxRecDepth 65536 in
theorem w_hears : about1.hears theMethod below0 = true := by decide +kernel
set_option maxRecDepth 65536 in
theorem w_ripe : about1.ripe theMethod args0 below0 = true := by decide +kernel
theorem w_running : about1.status = .running := rfl
set_option maxRecDepth 65536 in
theorem w_room : about1.hasRoom e0.platform room_1 = true :=
  launch0.hasRoom_least _ room_1 (by decide +kernel) (by decide +kernel) (by decide +kernel) (by decide +kernel) (by decide +kernel) (by decide +kernel)
theorem allAtoms_all (ts : List Jvm.Cond) (a : Array Jvm.Value) (st : Jvm.State) : (allAtoms ts).before a st = ts.all (fun c => c.before a st) := by
  induction ts with
  | nil => rfl
  | cons c t ih =>
    show (Jvm.Cond.and c (allAtoms t)).before a st = _
    rw [Jvm.Cond.before_and, ih, List.all_cons]
def words1 : List Jvm.Cond := Jvm.Cond.code x code maxLocals ret :: tables_1
/-- a 'code' word, met by the world's own term for the bytes: nothing is compared byte by byte -/
theorem code_word {y : MethodName} {bytes : ByteArray} {mx : Nat} {rt : Option FieldType} {a : Array Value} {s : State} {m : MethodId} {meth : Method} {c : Code} (h1 : s.methodNamed? y = some m) (h2 : s.vm.method? m = some meth) (h3 : meth.code = some c) (h4 : c.code = bytes)
    (h5 : (c.maxLocals == mx && c.exceptionTable.isEmpty && decide (c.maxStack ≤ mostOperands) && decide (meth.sig.returnType = rt) && !meth.locks && decide (parseMethodDescriptor y.desc = some meth.sig)) = true) : (Jvm.Cond.code y bytes mx rt).before a s = true := by
  simp only [Bool.and_eq_true, beq_iff_eq, Bool.not_eq_true', decide_eq_true_eq] at h5
  obtain ⟨⟨⟨⟨⟨g1, g2⟩, g3⟩, g4⟩, g5⟩, g6⟩ := h5
  simp [Cond.before, Cond.holds, Cond.value, h1, h2, h3, h4, g1, g2, g3, g4, g5, g6]
def isCode : Jvm.Cond → Bool
  | .code _ _ _ _ => true
  | _ => false
theorem all_split {L : List Jvm.Cond} {P : Jvm.Cond → Bool} (h1 : L.all (fun c => isCode c || P c) = true) (h2 : ∀ c ∈ L.filter isCode, P c = true) : L.all P = true := by
  refine List.all_eq_true.mpr fun c hc => ?_
  have h := List.all_eq_true.mp h1 c hc
  rcases Bool.eq_false_or_eq_true (isCode c) with hi | hi
  · exact h2 c (List.mem_filter.mpr ⟨hc, hi⟩)
  · simpa [hi] using h
set_option maxRecDepth 65536 in
theorem w_c0 : (Jvm.Cond.code x code maxLocals ret).before args0 about1 = true := code_word (m := ⟨1, 1⟩) (meth := k1m1) (c := k1c1) (by decide +kernel) rfl rfl rfl (by decide +kernel)
set_option maxRecDepth 65536 in
theorem w_c1 : (Jvm.Cond.code ({ cls := "com/example/terms_in_context/termsincontext/index/VarIntInput", name := "<init>", desc := "([BI)V" } : Jvm.MethodName) prog_29_method_1_code (3 : Nat) (Option.none : Option Jvm.ClassFile.FieldType)).before args0 about1 = true := code_word (m := ⟨2, 0⟩) (meth := k2m0) (c := k2c0) (by decide +kernel) rfl rfl rfl (by decide +kernel)
set_option maxRecDepth 65536 in
theorem w_c2 : (Jvm.Cond.code ({ cls := "java/lang/Object", name := "<init>", desc := "()V" } : Jvm.MethodName) object_method_1_code (1 : Nat) (Option.none : Option Jvm.ClassFile.FieldType)).before args0 about1 = true := code_word (m := ⟨0, 0⟩) (meth := k0m0) (c := k0c0) (by decide +kernel) rfl rfl rfl (by decide +kernel)
set_option maxRecDepth 65536 in
theorem w_c3 : (Jvm.Cond.code ({ cls := "com/example/terms_in_context/termsincontext/index/VarIntInput", name := "hasMore", desc := "()Z" } : Jvm.MethodName) prog_29_method_2_code (1 : Nat) (Option.some Jvm.ClassFile.FieldType.boolean)).before args0 about1 = true := code_word (m := ⟨2, 1⟩) (meth := k2m1) (c := k2c1) (by decide +kernel) rfl rfl rfl (by decide +kernel)
set_option maxRecDepth 65536 in
theorem w_c4 : (Jvm.Cond.code ({ cls := "com/example/terms_in_context/termsincontext/index/VarIntInput", name := "read", desc := "()I" } : Jvm.MethodName) prog_29_method_3_code (4 : Nat) (Option.some Jvm.ClassFile.FieldType.int)).before args0 about1 = true := code_word (m := ⟨2, 2⟩) (meth := k2m2) (c := k2c2) (by decide +kernel) rfl rfl rfl (by decide +kernel)
def codes1 : List Jvm.Cond := [Jvm.Cond.code x code maxLocals ret, Jvm.Cond.code ({ cls := "com/example/terms_in_context/termsincontext/index/VarIntInput", name := "<init>", desc := "([BI)V" } : Jvm.MethodName) prog_29_method_1_code (3 : Nat) (Option.none : Option Jvm.ClassFile.FieldType), Jvm.Cond.code ({ cls := "java/lang/Object", name := "<init>", desc := "()V" } : Jvm.MethodName) object_method_1_code (1 : Nat) (Option.none : Option Jvm.ClassFile.FieldType), Jvm.Cond.code ({ cls := "com/example/terms_in_context/termsincontext/index/VarIntInput", name := "hasMore", desc := "()Z" } : Jvm.MethodName) prog_29_method_2_code (1 : Nat) (Option.some Jvm.ClassFile.FieldType.boolean), Jvm.Cond.code ({ cls := "com/example/terms_in_context/termsincontext/index/VarIntInput", name := "read", desc := "()I" } : Jvm.MethodName) prog_29_method_3_code (4 : Nat) (Option.some Jvm.ClassFile.FieldType.int)]
set_option maxRecDepth 65536 in
theorem codes_eq : words1.filter isCode = codes1 := rfl
theorem w_codes : ∀ c ∈ words1.filter isCode, c.before args0 about1 = true := by
  rw [codes_eq]
  intro c hc
  simp only [codes1, List.mem_cons, List.not_mem_nil, or_false] at hc
  rcases hc with rfl | rfl | rfl | rfl | rfl
  · exact w_c0
  · exact w_c1
  · exact w_c2
  · exact w_c3
  · exact w_c4
set_option maxRecDepth 65536 in
theorem w_t1 : (words1.take 24).all (fun c => isCode c || c.before args0 about1) = true := by decide +kernel
set_option maxRecDepth 65536 in
theorem w_t2 : (words1.drop 24).all (fun c => isCode c || c.before args0 about1) = true := by decide +kernel
theorem w_tables : (allAtoms (Jvm.Cond.code x code maxLocals ret :: tables_1)).before args0 about1 = true := by
  rw [allAtoms_all]
  show words1.all (fun c => c.before args0 about1) = true
  refine all_split ?_ w_codes
  rw [← List.take_append_drop 24 words1, List.all_append, w_t1, w_t2]
  rfl
set_option maxRecDepth 65536 in
theorem w_case : (Jvm.Cond.and given_1 narrow_1).before args0 about1 = true := by decide +kernel
theorem w_applies : (headSpec (Jvm.Cond.code x code maxLocals ret :: tables_1) room_1).applies x e0.platform about1 = true :=
  (Spec.applies_iff w_frames).mpr ⟨w_running, w_runnable, w_alone, w_named, w_hears, w_ripe, w_room, w_tables⟩
theorem atStart : AtStart classFile x code maxLocals ret World_1 tables_1 room_1 Calls_1 rest_1 Pre_1 launch0 p0 e0 about1 theMethod args0 below0 :=
  ⟨lists_1, trivial, launch0.admits_env _ _ _, launch0.least_env, fairChoices_fair.cas, fairChoices_fair.clock, w_frames, w_args, w_heap, w_applies, trivial, trivial, w_case⟩
end start1
theorem witness_1 : WitnessClaimed_1 := ⟨start1.p0, start1.e0, start1.about1, start1.theMethod, start1.args0, start1.below0, start1.atStart⟩
end Jvm.Pilot.@@N@@
