import JvmDerived
import JvmDerived.Pilot.@@N@@Statement
import JvmDerived.Pilot.@@N@@Code
set_option linter.unusedVariables false
set_option linter.unusedSimpArgs false
namespace Jvm.RoadKit
open Sem ClassFile Op Lib Jvm.Stand Jvm.Free Jvm.LawKit
section New
variable {p : Program} {l : Launch} {e : Env} {R : Room} {s : State} {m : MethodId} {args : Array Value} {below : List Frame} {meth : Method} {c : Code} {T : State} {locs : List Loc} {cells slots : Nat}
theorem retI (X : Stand p l e R s m args below meth c T locs cells slots) (hx : p.tables.exec = Jvm.exec) {pc : Nat} {Ls : Array Slot} {z : Int32} {rest : List Value} (hret : meth.sig.returnType = some .int) (hd : decode c.code pc = .ok (.ireturn, 1)) {fs : List Frame}
    (hl : ∀ (f : JFrame) (acts : List Action), f.method = m → f.locked = none → f.entered = [] → (doReturn e (T.setTop f) acts (some (.int z))).1 = T.setFrames fs) : Steps p.tables e below (T.setTop (mkF m pc Ls (.int z :: rest))) (T.setFrames fs) := by
  have hm' : T.vm.method? m = some meth := X.method'
  have hn : narrow .int (.int z) = .int z := rfl
  show Steps p.tables e below (T.setTop { method := m, pc := pc, locals := Ls, stack := _ :: rest, locked := none }) _
  jvm_step X.here [X.here.top, hx, hd, hm', hret, hn]
  first | (intro acts; rw [hl _ acts rfl rfl rfl]) | rw [hl _ _ rfl rfl rfl]
  exact Steps.refl _
end New
end Jvm.RoadKit
namespace Jvm.Pilot.@@N@@
open Jvm Jvm.ClassFile Sem Op Lib Jvm.Free Jvm.Stand Jvm.LawKit Jvm.RoadKit Bundle Jvm.Pilot.@@N@@.Jvm.D
section OwnKit
variable {p : Program} {l : Launch} {e : Env} {R : Room} {s : State} {m : MethodId} {args : Array Value} {below : List Frame} {meth : Method} {c : Code} {T : State} {locs : List Loc} {cells slots : Nat} {Z : State} {a0 : Array Value} {h : Heap}
variable {Q : Option Value → Heap → List Loc → Prop} {rc rs pc : Nat} {Ls : Array Slot} {st : List Value}
def Go (p : Program) (e : Env) (below : List Frame) (s : State) (Q : Option Value → Heap → List Loc → Prop) (rc rs : Nat) (F : State) : Prop :=
  ∃ s₂ o, Steps p.tables e below F s₂ ∧ s₂.status = .running ∧ Ended s₂ below o ∧ ∃ v L, o = .returned v ∧ Q v s₂.heap L ∧ FrameEnd s o s₂ L rc rs
theorem Go.by {F F' : State} (g : Go p e below s Q rc rs F') (h : ∀ t, Steps p.tables e below F' t → Steps p.tables e below F t) : Go p e below s Q rc rs F := by
  obtain ⟨s2, o, h1, r⟩ := g
  exact ⟨s2, o, h _ h1, r⟩
def shlI (x y : Int32) : Int32 := x <<< (y &&& 31)
def shrI (x y : Int32) : Int32 := x >>> (y &&& 31)
def ushrI (x y : Int32) : Int32 := (x.toUInt32 >>> (y &&& 31).toUInt32).toInt32
def shlJ (x : Int64) (y : Int32) : Int64 := x <<< (y &&& 0x3f).toInt64
def shrJ (x : Int64) (y : Int32) : Int64 := x >>> (y &&& 0x3f).toInt64
def ushrJ (x : Int64) (y : Int32) : Int64 := (x.toUInt64 >>> (y &&& 0x3f).toInt64.toUInt64).toInt64
def i2bI (x : Int32) : Int32 := x.toInt8.toInt32
def i2cI (x : Int32) : Int32 := x.toUInt32.toUInt16.toUInt32.toInt32
def i2sI (x : Int32) : Int32 := x.toInt16.toInt32
theorem g_iload (X : Stand p l e R s m args below meth c T locs cells slots) (hx : p.tables.exec = Jvm.exec) {k : Nat} {v : Int32} (pc' : Nat) (hd : decode c.code pc = .ok (.iload k, 2)) (hl : Ls[k]? = some (.val (.int v))) (hp : pc + 2 = pc') (g : Go p e below s Q rc rs (T.setTop (mkF m pc' Ls (.int v :: st)))) : Go p e below s Q rc rs (T.setTop (mkF m pc Ls st)) := by
  subst hp; exact g.by fun t k => XS.iload X.here hx rfl hd hl k
theorem g_iloadN (X : Stand p l e R s m args below meth c T locs cells slots) (hx : p.tables.exec = Jvm.exec) {k : Fin 4} {v : Int32} (pc' : Nat) (hd : decode c.code pc = .ok (.iload_n k, 1)) (hl : Ls[k.val]? = some (.val (.int v))) (hp : pc + 1 = pc') (g : Go p e below s Q rc rs (T.setTop (mkF m pc' Ls (.int v :: st)))) : Go p e below s Q rc rs (T.setTop (mkF m pc Ls st)) := by
  subst hp; exact g.by fun t k => XS.iloadN X.here hx rfl hd hl k
theorem g_istore (X : Stand p l e R s m args below meth c T locs cells slots) (hx : p.tables.exec = Jvm.exec) {k : Nat} {v : Int32} (l' : Array Slot) (pc' : Nat) (hd : decode c.code pc = .ok (.istore k, 2)) (hl : storeLocals Ls k (.int v) = some l') (hp : pc + 2 = pc') (g : Go p e below s Q rc rs (T.setTop (mkF m pc' l' st))) : Go p e below s Q rc rs (T.setTop (mkF m pc Ls (.int v :: st))) := by
  subst hp; exact g.by fun t k => XS.istore X.here hx rfl hd rfl hl k
theorem g_istoreN (X : Stand p l e R s m args below meth c T locs cells slots) (hx : p.tables.exec = Jvm.exec) {k : Fin 4} {v : Int32} (l' : Array Slot) (pc' : Nat) (hd : decode c.code pc = .ok (.istore_n k, 1)) (hl : storeLocals Ls k.val (.int v) = some l') (hp : pc + 1 = pc') (g : Go p e below s Q rc rs (T.setTop (mkF m pc' l' st))) : Go p e below s Q rc rs (T.setTop (mkF m pc Ls (.int v :: st))) := by
  subst hp; exact g.by fun t k => XS.istoreN X.here hx rfl hd rfl hl k
theorem g_lload (X : Stand p l e R s m args below meth c T locs cells slots) (hx : p.tables.exec = Jvm.exec) {k : Nat} {v : Int64} (pc' : Nat) (hd : decode c.code pc = .ok (.lload k, 2)) (hl : Ls[k]? = some (.val (.long v))) (hp : pc + 2 = pc') (g : Go p e below s Q rc rs (T.setTop (mkF m pc' Ls (.long v :: st)))) : Go p e below s Q rc rs (T.setTop (mkF m pc Ls st)) := by
  subst hp; exact g.by fun t k => XS.lload X.here hx rfl hd hl k
theorem g_lloadN (X : Stand p l e R s m args below meth c T locs cells slots) (hx : p.tables.exec = Jvm.exec) {k : Fin 4} {v : Int64} (pc' : Nat) (hd : decode c.code pc = .ok (.lload_n k, 1)) (hl : Ls[k.val]? = some (.val (.long v))) (hp : pc + 1 = pc') (g : Go p e below s Q rc rs (T.setTop (mkF m pc' Ls (.long v :: st)))) : Go p e below s Q rc rs (T.setTop (mkF m pc Ls st)) := by
  subst hp; exact g.by fun t k => XS.lloadN X.here hx rfl hd hl k
theorem g_lstore (X : Stand p l e R s m args below meth c T locs cells slots) (hx : p.tables.exec = Jvm.exec) {k : Nat} {v : Int64} (l' : Array Slot) (pc' : Nat) (hd : decode c.code pc = .ok (.lstore k, 2)) (hl : storeLocals Ls k (.long v) = some l') (hp : pc + 2 = pc') (g : Go p e below s Q rc rs (T.setTop (mkF m pc' l' st))) : Go p e below s Q rc rs (T.setTop (mkF m pc Ls (.long v :: st))) := by
  subst hp; exact g.by fun t k => XS.lstore X.here hx rfl hd rfl hl k
theorem g_lstoreN (X : Stand p l e R s m args below meth c T locs cells slots) (hx : p.tables.exec = Jvm.exec) {k : Fin 4} {v : Int64} (l' : Array Slot) (pc' : Nat) (hd : decode c.code pc = .ok (.lstore_n k, 1)) (hl : storeLocals Ls k.val (.long v) = some l') (hp : pc + 1 = pc') (g : Go p e below s Q rc rs (T.setTop (mkF m pc' l' st))) : Go p e below s Q rc rs (T.setTop (mkF m pc Ls (.long v :: st))) := by
  subst hp; exact g.by fun t k => XS.lstoreN X.here hx rfl hd rfl hl k
theorem g_aload (X : Stand p l e R s m args below meth c T locs cells slots) (hx : p.tables.exec = Jvm.exec) {k : Nat} {v : Value} (pc' : Nat) (hd : decode c.code pc = .ok (.aload k, 2)) (hl : Ls[k]? = some (.val v)) (hv : v.isRef = true) (hp : pc + 2 = pc') (g : Go p e below s Q rc rs (T.setTop (mkF m pc' Ls (v :: st)))) : Go p e below s Q rc rs (T.setTop (mkF m pc Ls st)) := by
  subst hp; exact g.by fun t k => XS.aload X.here hx rfl hd hl hv k
theorem g_aloadN (X : Stand p l e R s m args below meth c T locs cells slots) (hx : p.tables.exec = Jvm.exec) {k : Fin 4} {v : Value} (pc' : Nat) (hd : decode c.code pc = .ok (.aload_n k, 1)) (hl : Ls[k.val]? = some (.val v)) (hv : v.isRef = true) (hp : pc + 1 = pc') (g : Go p e below s Q rc rs (T.setTop (mkF m pc' Ls (v :: st)))) : Go p e below s Q rc rs (T.setTop (mkF m pc Ls st)) := by
  subst hp; exact g.by fun t k => XS.aloadN X.here hx rfl hd hl hv k
theorem g_astore (X : Stand p l e R s m args below meth c T locs cells slots) (hx : p.tables.exec = Jvm.exec) {k : Nat} {v : Value} (l' : Array Slot) (pc' : Nat) (hd : decode c.code pc = .ok (.astore k, 2)) (hl : storeLocals Ls k v = some l') (hv : v.isRef = true) (hp : pc + 2 = pc') (g : Go p e below s Q rc rs (T.setTop (mkF m pc' l' st))) : Go p e below s Q rc rs (T.setTop (mkF m pc Ls (v :: st))) := by
  subst hp; exact g.by fun t k => XS.astore X.here hx rfl hd rfl hv hl k
theorem g_astoreN (X : Stand p l e R s m args below meth c T locs cells slots) (hx : p.tables.exec = Jvm.exec) {k : Fin 4} {v : Value} (l' : Array Slot) (pc' : Nat) (hd : decode c.code pc = .ok (.astore_n k, 1)) (hl : storeLocals Ls k.val v = some l') (hv : v.isRef = true) (hp : pc + 1 = pc') (g : Go p e below s Q rc rs (T.setTop (mkF m pc' l' st))) : Go p e below s Q rc rs (T.setTop (mkF m pc Ls (v :: st))) := by
  subst hp; exact g.by fun t k => XS.astoreN X.here hx rfl hd rfl hv hl k
theorem g_istoreS (X : Stand p l e R s m args below meth c T locs cells slots) (hx : p.tables.exec = Jvm.exec) {k : Nat} {v : Int32} {os : Slot} (l' : Array Slot) (pc' : Nat) (hd : decode c.code pc = .ok (.istore k, 2)) (hold : Ls[k]? = some os) (ho : One os) (hl : Ls.setIfInBounds k (.val (.int v)) = l') (hp : pc + 2 = pc') (g : Go p e below s Q rc rs (T.setTop (mkF m pc' l' st))) : Go p e below s Q rc rs (T.setTop (mkF m pc Ls ((.int v) :: st))) := by
  subst hp; exact g.by fun t k => XS.istore X.here hx rfl hd rfl (hl ▸ XS.store1 hold ho rfl) k
theorem g_istoreNS (X : Stand p l e R s m args below meth c T locs cells slots) (hx : p.tables.exec = Jvm.exec) {k : Fin 4} {v : Int32} {os : Slot} (l' : Array Slot) (pc' : Nat) (hd : decode c.code pc = .ok (.istore_n k, 1)) (hold : Ls[k.val]? = some os) (ho : One os) (hl : Ls.setIfInBounds k.val (.val (.int v)) = l') (hp : pc + 1 = pc') (g : Go p e below s Q rc rs (T.setTop (mkF m pc' l' st))) : Go p e below s Q rc rs (T.setTop (mkF m pc Ls ((.int v) :: st))) := by
  subst hp; exact g.by fun t k => XS.istoreN X.here hx rfl hd rfl (hl ▸ XS.store1 hold ho rfl) k
theorem g_astoreS (X : Stand p l e R s m args below meth c T locs cells slots) (hx : p.tables.exec = Jvm.exec) {k : Nat} {v : Value} {os : Slot} (l' : Array Slot) (pc' : Nat) (hd : decode c.code pc = .ok (.astore k, 2)) (hold : Ls[k]? = some os) (ho : One os) (hl : Ls.setIfInBounds k (.val v) = l') (hv : v.isRef = true) (hp : pc + 2 = pc') (g : Go p e below s Q rc rs (T.setTop (mkF m pc' l' st))) : Go p e below s Q rc rs (T.setTop (mkF m pc Ls (v :: st))) := by
  subst hp; exact g.by fun t k => XS.astore X.here hx rfl hd rfl hv (hl ▸ XS.store1 hold ho (by cases v <;> first | rfl | simp_all [Value.isRef])) k
theorem g_astoreNS (X : Stand p l e R s m args below meth c T locs cells slots) (hx : p.tables.exec = Jvm.exec) {k : Fin 4} {v : Value} {os : Slot} (l' : Array Slot) (pc' : Nat) (hd : decode c.code pc = .ok (.astore_n k, 1)) (hold : Ls[k.val]? = some os) (ho : One os) (hl : Ls.setIfInBounds k.val (.val v) = l') (hv : v.isRef = true) (hp : pc + 1 = pc') (g : Go p e below s Q rc rs (T.setTop (mkF m pc' l' st))) : Go p e below s Q rc rs (T.setTop (mkF m pc Ls (v :: st))) := by
  subst hp; exact g.by fun t k => XS.astoreN X.here hx rfl hd rfl hv (hl ▸ XS.store1 hold ho (by cases v <;> first | rfl | simp_all [Value.isRef])) k
theorem g_iconst (X : Stand p l e R s m args below meth c T locs cells slots) (hx : p.tables.exec = Jvm.exec) {i : Int} (v : Int32) (pc' : Nat) (hd : decode c.code pc = .ok (.iconst i, 1)) (hv : Int32.ofInt i = v) (hp : pc + 1 = pc') (g : Go p e below s Q rc rs (T.setTop (mkF m pc' Ls (.int v :: st)))) : Go p e below s Q rc rs (T.setTop (mkF m pc Ls st)) := by
  subst hp hv; exact g.by fun t k => XS.iconst X.here hx rfl hd k
theorem g_bipush (X : Stand p l e R s m args below meth c T locs cells slots) (hx : p.tables.exec = Jvm.exec) {i : Int} (v : Int32) (pc' : Nat) (hd : decode c.code pc = .ok (.bipush i, 2)) (hv : (Int8.ofInt i).toInt32 = v) (hp : pc + 2 = pc') (g : Go p e below s Q rc rs (T.setTop (mkF m pc' Ls (.int v :: st)))) : Go p e below s Q rc rs (T.setTop (mkF m pc Ls st)) := by
  subst hp hv; exact g.by fun t k => XS.bipush X.here hx rfl hd k
theorem g_sipush (X : Stand p l e R s m args below meth c T locs cells slots) (hx : p.tables.exec = Jvm.exec) {i : Int} (v : Int32) (pc' : Nat) (hd : decode c.code pc = .ok (.sipush i, 3)) (hv : (Int16.ofInt i).toInt32 = v) (hp : pc + 3 = pc') (g : Go p e below s Q rc rs (T.setTop (mkF m pc' Ls (.int v :: st)))) : Go p e below s Q rc rs (T.setTop (mkF m pc Ls st)) := by
  subst hp hv; exact g.by fun t k => XS.sipush X.here hx rfl hd k
theorem g_lconst (X : Stand p l e R s m args below meth c T locs cells slots) (hx : p.tables.exec = Jvm.exec) {i : Fin 2} (v : Int64) (pc' : Nat) (hd : decode c.code pc = .ok (.lconst i, 1)) (hv : Int64.ofNat i = v) (hp : pc + 1 = pc') (g : Go p e below s Q rc rs (T.setTop (mkF m pc' Ls (.long v :: st)))) : Go p e below s Q rc rs (T.setTop (mkF m pc Ls st)) := by
  subst hp hv; exact g.by fun t k => XS.lconst X.here hx rfl hd k
theorem g_aconst_null (X : Stand p l e R s m args below meth c T locs cells slots) (hx : p.tables.exec = Jvm.exec) (pc' : Nat) (hd : decode c.code pc = .ok (.aconst_null, 1)) (hp : pc + 1 = pc') (g : Go p e below s Q rc rs (T.setTop (mkF m pc' Ls (.null :: st)))) : Go p e below s Q rc rs (T.setTop (mkF m pc Ls st)) := by
  subst hp; exact g.by fun t k => XS.aconstNull X.here hx rfl hd k
theorem g_ldc (X : Stand p l e R s m args below meth c T locs cells slots) (hx : p.tables.exec = Jvm.exec) (hZ : Z.Warmed39 s.vm) {own : String} {i : Nat} {v : Int32} (hown : s.vm.findClass own = some m.cls) (w : (Cond.constant own i v).before a0 Z = true) (pc' : Nat) (hd : decode c.code pc = .ok (.ldc i, 2)) (hp : pc + 2 = pc') (g : Go p e below s Q rc rs (T.setTop (mkF m pc' Ls (.int v :: st)))) : Go p e below s Q rc rs (T.setTop (mkF m pc Ls st)) := by
  subst hp; exact g.by fun t k => X.ldcInt hx hown (mvT hZ w) (g := mkF m pc Ls st) rfl hd t k
theorem g_ldc_w (X : Stand p l e R s m args below meth c T locs cells slots) (hx : p.tables.exec = Jvm.exec) (hZ : Z.Warmed39 s.vm) {own : String} {i : Nat} {v : Int32} (hown : s.vm.findClass own = some m.cls) (w : (Cond.constant own i v).before a0 Z = true) (pc' : Nat) (hd : decode c.code pc = .ok (.ldc_w i, 3)) (hp : pc + 3 = pc') (g : Go p e below s Q rc rs (T.setTop (mkF m pc' Ls (.int v :: st)))) : Go p e below s Q rc rs (T.setTop (mkF m pc Ls st)) := by
  subst hp; exact g.by fun t k => X.ldcwInt hx hown (mvT hZ w) (g := mkF m pc Ls st) rfl hd t k
theorem g_ldc2_w (X : Stand p l e R s m args below meth c T locs cells slots) (hx : p.tables.exec = Jvm.exec) (hZ : Z.Warmed39 s.vm) {own : String} {i : Nat} {v : Int64} (hown : s.vm.findClass own = some m.cls) (w : (Cond.constantLong own i v).before a0 Z = true) (pc' : Nat) (hd : decode c.code pc = .ok (.ldc2_w i, 3)) (hp : pc + 3 = pc') (g : Go p e below s Q rc rs (T.setTop (mkF m pc' Ls (.long v :: st)))) : Go p e below s Q rc rs (T.setTop (mkF m pc Ls st)) := by
  subst hp; exact g.by fun t k => X.ldc2Long hx hown (mvT hZ w) (g := mkF m pc Ls st) rfl hd t k
theorem g_iadd (X : Stand p l e R s m args below meth c T locs cells slots) (hx : p.tables.exec = Jvm.exec) {x y : Int32} (pc' : Nat) (hd : decode c.code pc = .ok (.iadd, 1)) (hp : pc + 1 = pc') (g : Go p e below s Q rc rs (T.setTop (mkF m pc' Ls (.int (x + y) :: st)))) : Go p e below s Q rc rs (T.setTop (mkF m pc Ls (.int y :: .int x :: st))) := by
  subst hp; exact g.by fun t k => XS.iadd X.here hx rfl hd rfl k
theorem g_isub (X : Stand p l e R s m args below meth c T locs cells slots) (hx : p.tables.exec = Jvm.exec) {x y : Int32} (pc' : Nat) (hd : decode c.code pc = .ok (.isub, 1)) (hp : pc + 1 = pc') (g : Go p e below s Q rc rs (T.setTop (mkF m pc' Ls (.int (x - y) :: st)))) : Go p e below s Q rc rs (T.setTop (mkF m pc Ls (.int y :: .int x :: st))) := by
  subst hp; exact g.by fun t k => XS.isub X.here hx rfl hd rfl k
theorem g_imul (X : Stand p l e R s m args below meth c T locs cells slots) (hx : p.tables.exec = Jvm.exec) {x y : Int32} (pc' : Nat) (hd : decode c.code pc = .ok (.imul, 1)) (hp : pc + 1 = pc') (g : Go p e below s Q rc rs (T.setTop (mkF m pc' Ls (.int (x * y) :: st)))) : Go p e below s Q rc rs (T.setTop (mkF m pc Ls (.int y :: .int x :: st))) := by
  subst hp; exact g.by fun t k => XS.imul X.here hx rfl hd rfl k
theorem g_iand (X : Stand p l e R s m args below meth c T locs cells slots) (hx : p.tables.exec = Jvm.exec) {x y : Int32} (pc' : Nat) (hd : decode c.code pc = .ok (.iand, 1)) (hp : pc + 1 = pc') (g : Go p e below s Q rc rs (T.setTop (mkF m pc' Ls (.int (x &&& y) :: st)))) : Go p e below s Q rc rs (T.setTop (mkF m pc Ls (.int y :: .int x :: st))) := by
  subst hp; exact g.by fun t k => XS.iand X.here hx rfl hd rfl k
theorem g_ior (X : Stand p l e R s m args below meth c T locs cells slots) (hx : p.tables.exec = Jvm.exec) {x y : Int32} (pc' : Nat) (hd : decode c.code pc = .ok (.ior, 1)) (hp : pc + 1 = pc') (g : Go p e below s Q rc rs (T.setTop (mkF m pc' Ls (.int (x ||| y) :: st)))) : Go p e below s Q rc rs (T.setTop (mkF m pc Ls (.int y :: .int x :: st))) := by
  subst hp; exact g.by fun t k => XS.ior X.here hx rfl hd rfl k
theorem g_ixor (X : Stand p l e R s m args below meth c T locs cells slots) (hx : p.tables.exec = Jvm.exec) {x y : Int32} (pc' : Nat) (hd : decode c.code pc = .ok (.ixor, 1)) (hp : pc + 1 = pc') (g : Go p e below s Q rc rs (T.setTop (mkF m pc' Ls (.int (x ^^^ y) :: st)))) : Go p e below s Q rc rs (T.setTop (mkF m pc Ls (.int y :: .int x :: st))) := by
  subst hp; exact g.by fun t k => XS.ixor X.here hx rfl hd rfl k
theorem g_ineg (X : Stand p l e R s m args below meth c T locs cells slots) (hx : p.tables.exec = Jvm.exec) {x : Int32} (pc' : Nat) (hd : decode c.code pc = .ok (.ineg, 1)) (hp : pc + 1 = pc') (g : Go p e below s Q rc rs (T.setTop (mkF m pc' Ls (.int (-x) :: st)))) : Go p e below s Q rc rs (T.setTop (mkF m pc Ls (.int x :: st))) := by
  subst hp; exact g.by fun t k => XS.ineg X.here hx rfl hd rfl k
theorem g_idiv (X : Stand p l e R s m args below meth c T locs cells slots) (hx : p.tables.exec = Jvm.exec) {x y : Int32} (pc' : Nat) (hd : decode c.code pc = .ok (.idiv, 1)) (hy : y ≠ 0) (hp : pc + 1 = pc') (g : Go p e below s Q rc rs (T.setTop (mkF m pc' Ls (.int (x / y) :: st)))) : Go p e below s Q rc rs (T.setTop (mkF m pc Ls (.int y :: .int x :: st))) := by
  subst hp; exact g.by fun t k => XS.idiv X.here hx rfl hd rfl hy k
theorem g_ladd (X : Stand p l e R s m args below meth c T locs cells slots) (hx : p.tables.exec = Jvm.exec) {x y : Int64} (pc' : Nat) (hd : decode c.code pc = .ok (.ladd, 1)) (hp : pc + 1 = pc') (g : Go p e below s Q rc rs (T.setTop (mkF m pc' Ls (.long (x + y) :: st)))) : Go p e below s Q rc rs (T.setTop (mkF m pc Ls (.long y :: .long x :: st))) := by
  subst hp; exact g.by fun t k => XS.ladd X.here hx rfl hd rfl k
theorem g_lsub (X : Stand p l e R s m args below meth c T locs cells slots) (hx : p.tables.exec = Jvm.exec) {x y : Int64} (pc' : Nat) (hd : decode c.code pc = .ok (.lsub, 1)) (hp : pc + 1 = pc') (g : Go p e below s Q rc rs (T.setTop (mkF m pc' Ls (.long (x - y) :: st)))) : Go p e below s Q rc rs (T.setTop (mkF m pc Ls (.long y :: .long x :: st))) := by
  subst hp; exact g.by fun t k => XS.lsub X.here hx rfl hd rfl k
theorem g_lmul (X : Stand p l e R s m args below meth c T locs cells slots) (hx : p.tables.exec = Jvm.exec) {x y : Int64} (pc' : Nat) (hd : decode c.code pc = .ok (.lmul, 1)) (hp : pc + 1 = pc') (g : Go p e below s Q rc rs (T.setTop (mkF m pc' Ls (.long (x * y) :: st)))) : Go p e below s Q rc rs (T.setTop (mkF m pc Ls (.long y :: .long x :: st))) := by
  subst hp; exact g.by fun t k => XS.lmul X.here hx rfl hd rfl k
theorem g_land (X : Stand p l e R s m args below meth c T locs cells slots) (hx : p.tables.exec = Jvm.exec) {x y : Int64} (pc' : Nat) (hd : decode c.code pc = .ok (.land, 1)) (hp : pc + 1 = pc') (g : Go p e below s Q rc rs (T.setTop (mkF m pc' Ls (.long (x &&& y) :: st)))) : Go p e below s Q rc rs (T.setTop (mkF m pc Ls (.long y :: .long x :: st))) := by
  subst hp; exact g.by fun t k => XS.land X.here hx rfl hd rfl k
theorem g_lor (X : Stand p l e R s m args below meth c T locs cells slots) (hx : p.tables.exec = Jvm.exec) {x y : Int64} (pc' : Nat) (hd : decode c.code pc = .ok (.lor, 1)) (hp : pc + 1 = pc') (g : Go p e below s Q rc rs (T.setTop (mkF m pc' Ls (.long (x ||| y) :: st)))) : Go p e below s Q rc rs (T.setTop (mkF m pc Ls (.long y :: .long x :: st))) := by
  subst hp; exact g.by fun t k => XS.lor X.here hx rfl hd rfl k
theorem g_lxor (X : Stand p l e R s m args below meth c T locs cells slots) (hx : p.tables.exec = Jvm.exec) {x y : Int64} (pc' : Nat) (hd : decode c.code pc = .ok (.lxor, 1)) (hp : pc + 1 = pc') (g : Go p e below s Q rc rs (T.setTop (mkF m pc' Ls (.long (x ^^^ y) :: st)))) : Go p e below s Q rc rs (T.setTop (mkF m pc Ls (.long y :: .long x :: st))) := by
  subst hp; exact g.by fun t k => XS.lxor X.here hx rfl hd rfl k
theorem g_lneg (X : Stand p l e R s m args below meth c T locs cells slots) (hx : p.tables.exec = Jvm.exec) {x : Int64} (pc' : Nat) (hd : decode c.code pc = .ok (.lneg, 1)) (hp : pc + 1 = pc') (g : Go p e below s Q rc rs (T.setTop (mkF m pc' Ls (.long (-x) :: st)))) : Go p e below s Q rc rs (T.setTop (mkF m pc Ls (.long x :: st))) := by
  subst hp; exact g.by fun t k => XS.lneg X.here hx rfl hd rfl k
theorem g_ldiv (X : Stand p l e R s m args below meth c T locs cells slots) (hx : p.tables.exec = Jvm.exec) {x y : Int64} (pc' : Nat) (hd : decode c.code pc = .ok (.ldiv, 1)) (hy : y ≠ 0) (hp : pc + 1 = pc') (g : Go p e below s Q rc rs (T.setTop (mkF m pc' Ls (.long (x / y) :: st)))) : Go p e below s Q rc rs (T.setTop (mkF m pc Ls (.long y :: .long x :: st))) := by
  subst hp; exact g.by fun t k => XS.ldiv X.here hx rfl hd rfl hy k
theorem g_irem (X : Stand p l e R s m args below meth c T locs cells slots) (hx : p.tables.exec = Jvm.exec) {x y : Int32} (pc' : Nat) (hd : decode c.code pc = .ok (.irem, 1)) (hy : y ≠ 0) (hp : pc + 1 = pc') (g : Go p e below s Q rc rs (T.setTop (mkF m pc' Ls (.int (x % y) :: st)))) : Go p e below s Q rc rs (T.setTop (mkF m pc Ls (.int y :: .int x :: st))) := by
  subst hp; exact g.by fun t k => iremM X hx rfl hd rfl hy k
theorem g_lrem (X : Stand p l e R s m args below meth c T locs cells slots) (hx : p.tables.exec = Jvm.exec) {x y : Int64} (pc' : Nat) (hd : decode c.code pc = .ok (.lrem, 1)) (hy : y ≠ 0) (hp : pc + 1 = pc') (g : Go p e below s Q rc rs (T.setTop (mkF m pc' Ls (.long (x % y) :: st)))) : Go p e below s Q rc rs (T.setTop (mkF m pc Ls (.long y :: .long x :: st))) := by
  subst hp; exact g.by fun t k => XS.lrem X.here hx rfl hd rfl hy (by rw [lrem_mod]; exact k)
theorem g_ishl (X : Stand p l e R s m args below meth c T locs cells slots) (hx : p.tables.exec = Jvm.exec) {x : Int32} {y : Int32} (pc' : Nat) (hd : decode c.code pc = .ok (.ishl, 1)) (hp : pc + 1 = pc') (g : Go p e below s Q rc rs (T.setTop (mkF m pc' Ls (.int (shlI x y) :: st)))) : Go p e below s Q rc rs (T.setTop (mkF m pc Ls (.int y :: .int x :: st))) := by
  subst hp; exact g.by fun t k => XS.ishl X.here hx rfl hd rfl k
theorem g_ishr (X : Stand p l e R s m args below meth c T locs cells slots) (hx : p.tables.exec = Jvm.exec) {x : Int32} {y : Int32} (pc' : Nat) (hd : decode c.code pc = .ok (.ishr, 1)) (hp : pc + 1 = pc') (g : Go p e below s Q rc rs (T.setTop (mkF m pc' Ls (.int (shrI x y) :: st)))) : Go p e below s Q rc rs (T.setTop (mkF m pc Ls (.int y :: .int x :: st))) := by
  subst hp; exact g.by fun t k => XS.ishr X.here hx rfl hd rfl k
theorem g_iushr (X : Stand p l e R s m args below meth c T locs cells slots) (hx : p.tables.exec = Jvm.exec) {x : Int32} {y : Int32} (pc' : Nat) (hd : decode c.code pc = .ok (.iushr, 1)) (hp : pc + 1 = pc') (g : Go p e below s Q rc rs (T.setTop (mkF m pc' Ls (.int (ushrI x y) :: st)))) : Go p e below s Q rc rs (T.setTop (mkF m pc Ls (.int y :: .int x :: st))) := by
  subst hp; exact g.by fun t k => XS.iushr X.here hx rfl hd rfl k
theorem g_lshl (X : Stand p l e R s m args below meth c T locs cells slots) (hx : p.tables.exec = Jvm.exec) {x : Int64} {y : Int32} (pc' : Nat) (hd : decode c.code pc = .ok (.lshl, 1)) (hp : pc + 1 = pc') (g : Go p e below s Q rc rs (T.setTop (mkF m pc' Ls (.long (shlJ x y) :: st)))) : Go p e below s Q rc rs (T.setTop (mkF m pc Ls (.int y :: .long x :: st))) := by
  subst hp; exact g.by fun t k => XS.lshl X.here hx rfl hd rfl k
theorem g_lshr (X : Stand p l e R s m args below meth c T locs cells slots) (hx : p.tables.exec = Jvm.exec) {x : Int64} {y : Int32} (pc' : Nat) (hd : decode c.code pc = .ok (.lshr, 1)) (hp : pc + 1 = pc') (g : Go p e below s Q rc rs (T.setTop (mkF m pc' Ls (.long (shrJ x y) :: st)))) : Go p e below s Q rc rs (T.setTop (mkF m pc Ls (.int y :: .long x :: st))) := by
  subst hp; exact g.by fun t k => XS.lshr X.here hx rfl hd rfl k
theorem g_lushr (X : Stand p l e R s m args below meth c T locs cells slots) (hx : p.tables.exec = Jvm.exec) {x : Int64} {y : Int32} (pc' : Nat) (hd : decode c.code pc = .ok (.lushr, 1)) (hp : pc + 1 = pc') (g : Go p e below s Q rc rs (T.setTop (mkF m pc' Ls (.long (ushrJ x y) :: st)))) : Go p e below s Q rc rs (T.setTop (mkF m pc Ls (.int y :: .long x :: st))) := by
  subst hp; exact g.by fun t k => XS.lushr X.here hx rfl hd rfl k
theorem g_i2l (X : Stand p l e R s m args below meth c T locs cells slots) (hx : p.tables.exec = Jvm.exec) {x : Int32} (pc' : Nat) (hd : decode c.code pc = .ok (.i2l, 1)) (hp : pc + 1 = pc') (g : Go p e below s Q rc rs (T.setTop (mkF m pc' Ls (.long (x.toInt64) :: st)))) : Go p e below s Q rc rs (T.setTop (mkF m pc Ls (.int x :: st))) := by
  subst hp; exact g.by fun t k => XS.i2l X.here hx rfl hd rfl k
theorem g_l2i (X : Stand p l e R s m args below meth c T locs cells slots) (hx : p.tables.exec = Jvm.exec) {x : Int64} (pc' : Nat) (hd : decode c.code pc = .ok (.l2i, 1)) (hp : pc + 1 = pc') (g : Go p e below s Q rc rs (T.setTop (mkF m pc' Ls (.int (x.toInt32) :: st)))) : Go p e below s Q rc rs (T.setTop (mkF m pc Ls (.long x :: st))) := by
  subst hp; exact g.by fun t k => XS.l2i X.here hx rfl hd rfl k
theorem g_i2b (X : Stand p l e R s m args below meth c T locs cells slots) (hx : p.tables.exec = Jvm.exec) {x : Int32} (pc' : Nat) (hd : decode c.code pc = .ok (.i2b, 1)) (hp : pc + 1 = pc') (g : Go p e below s Q rc rs (T.setTop (mkF m pc' Ls (.int (i2bI x) :: st)))) : Go p e below s Q rc rs (T.setTop (mkF m pc Ls (.int x :: st))) := by
  subst hp; exact g.by fun t k => XS.i2b X.here hx rfl hd rfl k
theorem g_i2c (X : Stand p l e R s m args below meth c T locs cells slots) (hx : p.tables.exec = Jvm.exec) {x : Int32} (pc' : Nat) (hd : decode c.code pc = .ok (.i2c, 1)) (hp : pc + 1 = pc') (g : Go p e below s Q rc rs (T.setTop (mkF m pc' Ls (.int (i2cI x) :: st)))) : Go p e below s Q rc rs (T.setTop (mkF m pc Ls (.int x :: st))) := by
  subst hp; exact g.by fun t k => XS.i2c X.here hx rfl hd rfl k
theorem g_i2s (X : Stand p l e R s m args below meth c T locs cells slots) (hx : p.tables.exec = Jvm.exec) {x : Int32} (pc' : Nat) (hd : decode c.code pc = .ok (.i2s, 1)) (hp : pc + 1 = pc') (g : Go p e below s Q rc rs (T.setTop (mkF m pc' Ls (.int (i2sI x) :: st)))) : Go p e below s Q rc rs (T.setTop (mkF m pc Ls (.int x :: st))) := by
  subst hp; exact g.by fun t k => XS.i2s X.here hx rfl hd rfl k
theorem g_lcmp (X : Stand p l e R s m args below meth c T locs cells slots) (hx : p.tables.exec = Jvm.exec) {x y : Int64} (pc' : Nat) (hd : decode c.code pc = .ok (.lcmp, 1)) (hp : pc + 1 = pc') (g : Go p e below s Q rc rs (T.setTop (mkF m pc' Ls (.int (lcmpW x y) :: st)))) : Go p e below s Q rc rs (T.setTop (mkF m pc Ls (.long y :: .long x :: st))) := by
  subst hp; exact g.by fun t k => XS.lcmp X.here hx rfl hd rfl k
theorem g_iinc (X : Stand p l e R s m args below meth c T locs cells slots) (hx : p.tables.exec = Jvm.exec) {k : Nat} {i : Int} {x : Int32} (v : Int32) (l' : Array Slot) (pc' : Nat) (hd : decode c.code pc = .ok (.iinc k i, 3)) (hv : Int32.ofInt i = v) (hl : Ls[k]? = some (.val (.int x))) (hl' : storeLocals Ls k (.int (x + v)) = some l') (hp : pc + 3 = pc') (g : Go p e below s Q rc rs (T.setTop (mkF m pc' l' st))) : Go p e below s Q rc rs (T.setTop (mkF m pc Ls st)) := by
  subst hp hv; exact g.by fun t k => XS.iinc X.here hx rfl hd hl hl' k
theorem g_dup (X : Stand p l e R s m args below meth c T locs cells slots) (hx : p.tables.exec = Jvm.exec) {x : Value} (pc' : Nat) (hd : decode c.code pc = .ok (.dup, 1)) (hc : x.category = 1) (hp : pc + 1 = pc') (g : Go p e below s Q rc rs (T.setTop (mkF m pc' Ls (x :: x :: st)))) : Go p e below s Q rc rs (T.setTop (mkF m pc Ls (x :: st))) := by
  subst hp; exact g.by fun t k => XS.dup X.here hx rfl hd rfl hc k
theorem g_pop (X : Stand p l e R s m args below meth c T locs cells slots) (hx : p.tables.exec = Jvm.exec) {x : Value} (pc' : Nat) (hd : decode c.code pc = .ok (.pop, 1)) (hc : x.category = 1) (hp : pc + 1 = pc') (g : Go p e below s Q rc rs (T.setTop (mkF m pc' Ls st))) : Go p e below s Q rc rs (T.setTop (mkF m pc Ls (x :: st))) := by
  subst hp; exact g.by fun t k => XS.pop X.here hx rfl hd rfl hc k
theorem g_dup_x1 (X : Stand p l e R s m args below meth c T locs cells slots) (hx : p.tables.exec = Jvm.exec) {x y : Value} (pc' : Nat) (hd : decode c.code pc = .ok (.dup_x1, 1)) (hc : x.category = 1) (hc2 : y.category = 1) (hp : pc + 1 = pc') (g : Go p e below s Q rc rs (T.setTop (mkF m pc' Ls (x :: y :: x :: st)))) : Go p e below s Q rc rs (T.setTop (mkF m pc Ls (x :: y :: st))) := by
  subst hp; exact g.by fun t k => XS.dupX1 X.here hx rfl hd rfl hc hc2 k
theorem g_dup2 (X : Stand p l e R s m args below meth c T locs cells slots) (hx : p.tables.exec = Jvm.exec) {x y : Value} (pc' : Nat) (hd : decode c.code pc = .ok (.dup2, 1)) (hc : x.category = 1) (hc2 : y.category = 1) (hp : pc + 1 = pc') (g : Go p e below s Q rc rs (T.setTop (mkF m pc' Ls (x :: y :: x :: y :: st)))) : Go p e below s Q rc rs (T.setTop (mkF m pc Ls (x :: y :: st))) := by
  subst hp; exact g.by fun t k => XT.dup2 X.here hx rfl hd rfl hc hc2 k
theorem g_dup2L (X : Stand p l e R s m args below meth c T locs cells slots) (hx : p.tables.exec = Jvm.exec) {x : Int64} (pc' : Nat) (hd : decode c.code pc = .ok (.dup2, 1)) (hp : pc + 1 = pc') (g : Go p e below s Q rc rs (T.setTop (mkF m pc' Ls (.long x :: .long x :: st)))) : Go p e below s Q rc rs (T.setTop (mkF m pc Ls (.long x :: st))) := by
  subst hp; exact g.by fun t k => XT.dup2L X.here hx rfl hd rfl k
theorem g_pop2L (X : Stand p l e R s m args below meth c T locs cells slots) (hx : p.tables.exec = Jvm.exec) {x : Int64} (pc' : Nat) (hd : decode c.code pc = .ok (.pop2, 1)) (hp : pc + 1 = pc') (g : Go p e below s Q rc rs (T.setTop (mkF m pc' Ls st))) : Go p e below s Q rc rs (T.setTop (mkF m pc Ls (.long x :: st))) := by
  subst hp; refine g.by fun t k => ?_
  jvm_step X.here [X.here.top, hx, hd, Value.category]
  exact k
theorem g_goto (X : Stand p l e R s m args below meth c T locs cells slots) (hx : p.tables.exec = Jvm.exec) {o : Int} (pc' : Nat) (hd : decode c.code pc = .ok (.goto o, 3)) (ho : 0 ≤ (pc : Int) + o) (hp : ((pc : Int) + o).toNat = pc') (g : Go p e below s Q rc rs (T.setTop (mkF m pc' Ls st))) : Go p e below s Q rc rs (T.setTop (mkF m pc Ls st)) := by
  subst hp; exact g.by fun t k => XS.goto X.here hx rfl rfl hd ho rfl k
theorem g_icmp_lt (X : Stand p l e R s m args below meth c T locs cells slots) (hx : p.tables.exec = Jvm.exec) {x y : Int32} {o : Int} (pcY pcN : Nat) (hd : decode c.code pc = .ok (.if_icmp .lt o, 3)) (ho : 0 ≤ (pc : Int) + o) (hY : ((pc : Int) + o).toNat = pcY) (hN : pc + 3 = pcN) (gp : x < y → Go p e below s Q rc rs (T.setTop (mkF m pcY Ls st))) (gn : ¬ x < y → Go p e below s Q rc rs (T.setTop (mkF m pcN Ls st))) : Go p e below s Q rc rs (T.setTop (mkF m pc Ls (.int y :: .int x :: st))) := by
  subst hY hN
  by_cases q : x < y
  · exact (gp q).by fun t k => XS.icmpYes X.here hx rfl rfl hd rfl (tlt q).1 ho rfl k
  · exact (gn q).by fun t k => XS.icmpNo X.here hx rfl hd rfl (flt q).1 k
theorem g_if0_lt (X : Stand p l e R s m args below meth c T locs cells slots) (hx : p.tables.exec = Jvm.exec) {x : Int32} {o : Int} (pcY pcN : Nat) (hd : decode c.code pc = .ok (.ifCond .lt o, 3)) (ho : 0 ≤ (pc : Int) + o) (hY : ((pc : Int) + o).toNat = pcY) (hN : pc + 3 = pcN) (gp : x < 0 → Go p e below s Q rc rs (T.setTop (mkF m pcY Ls st))) (gn : ¬ x < 0 → Go p e below s Q rc rs (T.setTop (mkF m pcN Ls st))) : Go p e below s Q rc rs (T.setTop (mkF m pc Ls (.int x :: st))) := by
  subst hY hN
  by_cases q : x < 0
  · exact (gp q).by fun t k => XS.ifYes X.here hx rfl rfl hd rfl ((if0 _ _).trans (tlt q).1) ho rfl k
  · exact (gn q).by fun t k => XS.ifNo X.here hx rfl hd rfl ((if0 _ _).trans (flt q).1) k
theorem g_lc_lt (X : Stand p l e R s m args below meth c T locs cells slots) (hx : p.tables.exec = Jvm.exec) {x y : Int64} {o : Int} (pcY pcN : Nat) (hd : decode c.code pc = .ok (.ifCond .lt o, 3)) (ho : 0 ≤ (pc : Int) + o) (hY : ((pc : Int) + o).toNat = pcY) (hN : pc + 3 = pcN) (gp : x < y → Go p e below s Q rc rs (T.setTop (mkF m pcY Ls st))) (gn : ¬ x < y → Go p e below s Q rc rs (T.setTop (mkF m pcN Ls st))) : Go p e below s Q rc rs (T.setTop (mkF m pc Ls (.int (lcmpW x y) :: st))) :=
  g_if0_lt X hx pcY pcN hd ho hY hN (fun q => gp ((lw_lt x y).1 q)) (fun q => gn fun r => q ((lw_lt x y).2 r))
theorem g_icmp_ge (X : Stand p l e R s m args below meth c T locs cells slots) (hx : p.tables.exec = Jvm.exec) {x y : Int32} {o : Int} (pcY pcN : Nat) (hd : decode c.code pc = .ok (.if_icmp .ge o, 3)) (ho : 0 ≤ (pc : Int) + o) (hY : ((pc : Int) + o).toNat = pcY) (hN : pc + 3 = pcN) (gp : x < y → Go p e below s Q rc rs (T.setTop (mkF m pcN Ls st))) (gn : ¬ x < y → Go p e below s Q rc rs (T.setTop (mkF m pcY Ls st))) : Go p e below s Q rc rs (T.setTop (mkF m pc Ls (.int y :: .int x :: st))) := by
  subst hY hN
  by_cases q : x < y
  · exact (gp q).by fun t k => XS.icmpNo X.here hx rfl hd rfl (tlt q).2.1 k
  · exact (gn q).by fun t k => XS.icmpYes X.here hx rfl rfl hd rfl (flt q).2.1 ho rfl k
theorem g_if0_ge (X : Stand p l e R s m args below meth c T locs cells slots) (hx : p.tables.exec = Jvm.exec) {x : Int32} {o : Int} (pcY pcN : Nat) (hd : decode c.code pc = .ok (.ifCond .ge o, 3)) (ho : 0 ≤ (pc : Int) + o) (hY : ((pc : Int) + o).toNat = pcY) (hN : pc + 3 = pcN) (gp : x < 0 → Go p e below s Q rc rs (T.setTop (mkF m pcN Ls st))) (gn : ¬ x < 0 → Go p e below s Q rc rs (T.setTop (mkF m pcY Ls st))) : Go p e below s Q rc rs (T.setTop (mkF m pc Ls (.int x :: st))) := by
  subst hY hN
  by_cases q : x < 0
  · exact (gp q).by fun t k => XS.ifNo X.here hx rfl hd rfl ((if0 _ _).trans (tlt q).2.1) k
  · exact (gn q).by fun t k => XS.ifYes X.here hx rfl rfl hd rfl ((if0 _ _).trans (flt q).2.1) ho rfl k
theorem g_lc_ge (X : Stand p l e R s m args below meth c T locs cells slots) (hx : p.tables.exec = Jvm.exec) {x y : Int64} {o : Int} (pcY pcN : Nat) (hd : decode c.code pc = .ok (.ifCond .ge o, 3)) (ho : 0 ≤ (pc : Int) + o) (hY : ((pc : Int) + o).toNat = pcY) (hN : pc + 3 = pcN) (gp : x < y → Go p e below s Q rc rs (T.setTop (mkF m pcN Ls st))) (gn : ¬ x < y → Go p e below s Q rc rs (T.setTop (mkF m pcY Ls st))) : Go p e below s Q rc rs (T.setTop (mkF m pc Ls (.int (lcmpW x y) :: st))) :=
  g_if0_ge X hx pcY pcN hd ho hY hN (fun q => gp ((lw_lt x y).1 q)) (fun q => gn fun r => q ((lw_lt x y).2 r))
theorem g_icmp_gt (X : Stand p l e R s m args below meth c T locs cells slots) (hx : p.tables.exec = Jvm.exec) {x y : Int32} {o : Int} (pcY pcN : Nat) (hd : decode c.code pc = .ok (.if_icmp .gt o, 3)) (ho : 0 ≤ (pc : Int) + o) (hY : ((pc : Int) + o).toNat = pcY) (hN : pc + 3 = pcN) (gp : y < x → Go p e below s Q rc rs (T.setTop (mkF m pcY Ls st))) (gn : ¬ y < x → Go p e below s Q rc rs (T.setTop (mkF m pcN Ls st))) : Go p e below s Q rc rs (T.setTop (mkF m pc Ls (.int y :: .int x :: st))) := by
  subst hY hN
  by_cases q : y < x
  · exact (gp q).by fun t k => XS.icmpYes X.here hx rfl rfl hd rfl (tlt q).2.2.1 ho rfl k
  · exact (gn q).by fun t k => XS.icmpNo X.here hx rfl hd rfl (flt q).2.2.1 k
theorem g_if0_gt (X : Stand p l e R s m args below meth c T locs cells slots) (hx : p.tables.exec = Jvm.exec) {x : Int32} {o : Int} (pcY pcN : Nat) (hd : decode c.code pc = .ok (.ifCond .gt o, 3)) (ho : 0 ≤ (pc : Int) + o) (hY : ((pc : Int) + o).toNat = pcY) (hN : pc + 3 = pcN) (gp : 0 < x → Go p e below s Q rc rs (T.setTop (mkF m pcY Ls st))) (gn : ¬ 0 < x → Go p e below s Q rc rs (T.setTop (mkF m pcN Ls st))) : Go p e below s Q rc rs (T.setTop (mkF m pc Ls (.int x :: st))) := by
  subst hY hN
  by_cases q : 0 < x
  · exact (gp q).by fun t k => XS.ifYes X.here hx rfl rfl hd rfl ((if0 _ _).trans (tlt q).2.2.1) ho rfl k
  · exact (gn q).by fun t k => XS.ifNo X.here hx rfl hd rfl ((if0 _ _).trans (flt q).2.2.1) k
theorem g_lc_gt (X : Stand p l e R s m args below meth c T locs cells slots) (hx : p.tables.exec = Jvm.exec) {x y : Int64} {o : Int} (pcY pcN : Nat) (hd : decode c.code pc = .ok (.ifCond .gt o, 3)) (ho : 0 ≤ (pc : Int) + o) (hY : ((pc : Int) + o).toNat = pcY) (hN : pc + 3 = pcN) (gp : y < x → Go p e below s Q rc rs (T.setTop (mkF m pcY Ls st))) (gn : ¬ y < x → Go p e below s Q rc rs (T.setTop (mkF m pcN Ls st))) : Go p e below s Q rc rs (T.setTop (mkF m pc Ls (.int (lcmpW x y) :: st))) :=
  g_if0_gt X hx pcY pcN hd ho hY hN (fun q => gp ((lw_gt x y).1 q)) (fun q => gn fun r => q ((lw_gt x y).2 r))
theorem g_icmp_le (X : Stand p l e R s m args below meth c T locs cells slots) (hx : p.tables.exec = Jvm.exec) {x y : Int32} {o : Int} (pcY pcN : Nat) (hd : decode c.code pc = .ok (.if_icmp .le o, 3)) (ho : 0 ≤ (pc : Int) + o) (hY : ((pc : Int) + o).toNat = pcY) (hN : pc + 3 = pcN) (gp : y < x → Go p e below s Q rc rs (T.setTop (mkF m pcN Ls st))) (gn : ¬ y < x → Go p e below s Q rc rs (T.setTop (mkF m pcY Ls st))) : Go p e below s Q rc rs (T.setTop (mkF m pc Ls (.int y :: .int x :: st))) := by
  subst hY hN
  by_cases q : y < x
  · exact (gp q).by fun t k => XS.icmpNo X.here hx rfl hd rfl (tlt q).2.2.2 k
  · exact (gn q).by fun t k => XS.icmpYes X.here hx rfl rfl hd rfl (flt q).2.2.2 ho rfl k
theorem g_if0_le (X : Stand p l e R s m args below meth c T locs cells slots) (hx : p.tables.exec = Jvm.exec) {x : Int32} {o : Int} (pcY pcN : Nat) (hd : decode c.code pc = .ok (.ifCond .le o, 3)) (ho : 0 ≤ (pc : Int) + o) (hY : ((pc : Int) + o).toNat = pcY) (hN : pc + 3 = pcN) (gp : 0 < x → Go p e below s Q rc rs (T.setTop (mkF m pcN Ls st))) (gn : ¬ 0 < x → Go p e below s Q rc rs (T.setTop (mkF m pcY Ls st))) : Go p e below s Q rc rs (T.setTop (mkF m pc Ls (.int x :: st))) := by
  subst hY hN
  by_cases q : 0 < x
  · exact (gp q).by fun t k => XS.ifNo X.here hx rfl hd rfl ((if0 _ _).trans (tlt q).2.2.2) k
  · exact (gn q).by fun t k => XS.ifYes X.here hx rfl rfl hd rfl ((if0 _ _).trans (flt q).2.2.2) ho rfl k
theorem g_lc_le (X : Stand p l e R s m args below meth c T locs cells slots) (hx : p.tables.exec = Jvm.exec) {x y : Int64} {o : Int} (pcY pcN : Nat) (hd : decode c.code pc = .ok (.ifCond .le o, 3)) (ho : 0 ≤ (pc : Int) + o) (hY : ((pc : Int) + o).toNat = pcY) (hN : pc + 3 = pcN) (gp : y < x → Go p e below s Q rc rs (T.setTop (mkF m pcN Ls st))) (gn : ¬ y < x → Go p e below s Q rc rs (T.setTop (mkF m pcY Ls st))) : Go p e below s Q rc rs (T.setTop (mkF m pc Ls (.int (lcmpW x y) :: st))) :=
  g_if0_le X hx pcY pcN hd ho hY hN (fun q => gp ((lw_gt x y).1 q)) (fun q => gn fun r => q ((lw_gt x y).2 r))
theorem g_icmp_eq (X : Stand p l e R s m args below meth c T locs cells slots) (hx : p.tables.exec = Jvm.exec) {x y : Int32} {o : Int} (pcY pcN : Nat) (hd : decode c.code pc = .ok (.if_icmp .eq o, 3)) (ho : 0 ≤ (pc : Int) + o) (hY : ((pc : Int) + o).toNat = pcY) (hN : pc + 3 = pcN) (gp : x = y → Go p e below s Q rc rs (T.setTop (mkF m pcY Ls st))) (gn : ¬ x = y → Go p e below s Q rc rs (T.setTop (mkF m pcN Ls st))) : Go p e below s Q rc rs (T.setTop (mkF m pc Ls (.int y :: .int x :: st))) := by
  subst hY hN
  by_cases q : x = y
  · exact (gp q).by fun t k => XS.icmpYes X.here hx rfl rfl hd rfl (teq q).1 ho rfl k
  · exact (gn q).by fun t k => XS.icmpNo X.here hx rfl hd rfl (feq q).1 k
theorem g_if0_eq (X : Stand p l e R s m args below meth c T locs cells slots) (hx : p.tables.exec = Jvm.exec) {x : Int32} {o : Int} (pcY pcN : Nat) (hd : decode c.code pc = .ok (.ifCond .eq o, 3)) (ho : 0 ≤ (pc : Int) + o) (hY : ((pc : Int) + o).toNat = pcY) (hN : pc + 3 = pcN) (gp : x = 0 → Go p e below s Q rc rs (T.setTop (mkF m pcY Ls st))) (gn : ¬ x = 0 → Go p e below s Q rc rs (T.setTop (mkF m pcN Ls st))) : Go p e below s Q rc rs (T.setTop (mkF m pc Ls (.int x :: st))) := by
  subst hY hN
  by_cases q : x = 0
  · exact (gp q).by fun t k => XS.ifYes X.here hx rfl rfl hd rfl ((if0 _ _).trans (teq q).1) ho rfl k
  · exact (gn q).by fun t k => XS.ifNo X.here hx rfl hd rfl ((if0 _ _).trans (feq q).1) k
theorem g_lc_eq (X : Stand p l e R s m args below meth c T locs cells slots) (hx : p.tables.exec = Jvm.exec) {x y : Int64} {o : Int} (pcY pcN : Nat) (hd : decode c.code pc = .ok (.ifCond .eq o, 3)) (ho : 0 ≤ (pc : Int) + o) (hY : ((pc : Int) + o).toNat = pcY) (hN : pc + 3 = pcN) (gp : x = y → Go p e below s Q rc rs (T.setTop (mkF m pcY Ls st))) (gn : ¬ x = y → Go p e below s Q rc rs (T.setTop (mkF m pcN Ls st))) : Go p e below s Q rc rs (T.setTop (mkF m pc Ls (.int (lcmpW x y) :: st))) :=
  g_if0_eq X hx pcY pcN hd ho hY hN (fun q => gp ((lw_eq x y).1 q)) (fun q => gn fun r => q ((lw_eq x y).2 r))
theorem g_icmp_ne (X : Stand p l e R s m args below meth c T locs cells slots) (hx : p.tables.exec = Jvm.exec) {x y : Int32} {o : Int} (pcY pcN : Nat) (hd : decode c.code pc = .ok (.if_icmp .ne o, 3)) (ho : 0 ≤ (pc : Int) + o) (hY : ((pc : Int) + o).toNat = pcY) (hN : pc + 3 = pcN) (gp : x = y → Go p e below s Q rc rs (T.setTop (mkF m pcN Ls st))) (gn : ¬ x = y → Go p e below s Q rc rs (T.setTop (mkF m pcY Ls st))) : Go p e below s Q rc rs (T.setTop (mkF m pc Ls (.int y :: .int x :: st))) := by
  subst hY hN
  by_cases q : x = y
  · exact (gp q).by fun t k => XS.icmpNo X.here hx rfl hd rfl (teq q).2 k
  · exact (gn q).by fun t k => XS.icmpYes X.here hx rfl rfl hd rfl (feq q).2 ho rfl k
theorem g_if0_ne (X : Stand p l e R s m args below meth c T locs cells slots) (hx : p.tables.exec = Jvm.exec) {x : Int32} {o : Int} (pcY pcN : Nat) (hd : decode c.code pc = .ok (.ifCond .ne o, 3)) (ho : 0 ≤ (pc : Int) + o) (hY : ((pc : Int) + o).toNat = pcY) (hN : pc + 3 = pcN) (gp : x = 0 → Go p e below s Q rc rs (T.setTop (mkF m pcN Ls st))) (gn : ¬ x = 0 → Go p e below s Q rc rs (T.setTop (mkF m pcY Ls st))) : Go p e below s Q rc rs (T.setTop (mkF m pc Ls (.int x :: st))) := by
  subst hY hN
  by_cases q : x = 0
  · exact (gp q).by fun t k => XS.ifNo X.here hx rfl hd rfl ((if0 _ _).trans (teq q).2) k
  · exact (gn q).by fun t k => XS.ifYes X.here hx rfl rfl hd rfl ((if0 _ _).trans (feq q).2) ho rfl k
theorem g_lc_ne (X : Stand p l e R s m args below meth c T locs cells slots) (hx : p.tables.exec = Jvm.exec) {x y : Int64} {o : Int} (pcY pcN : Nat) (hd : decode c.code pc = .ok (.ifCond .ne o, 3)) (ho : 0 ≤ (pc : Int) + o) (hY : ((pc : Int) + o).toNat = pcY) (hN : pc + 3 = pcN) (gp : x = y → Go p e below s Q rc rs (T.setTop (mkF m pcN Ls st))) (gn : ¬ x = y → Go p e below s Q rc rs (T.setTop (mkF m pcY Ls st))) : Go p e below s Q rc rs (T.setTop (mkF m pc Ls (.int (lcmpW x y) :: st))) :=
  g_if0_ne X hx pcY pcN hd ho hY hN (fun q => gp ((lw_eq x y).1 q)) (fun q => gn fun r => q ((lw_eq x y).2 r))
theorem g_ifnull_no (X : Stand p l e R s m args below meth c T locs cells slots) (hx : p.tables.exec = Jvm.exec) {b : Addr} {o : Int} (pc' : Nat) (hd : decode c.code pc = .ok (.ifnull o, 3)) (hp : pc + 3 = pc') (g : Go p e below s Q rc rs (T.setTop (mkF m pc' Ls st))) : Go p e below s Q rc rs (T.setTop (mkF m pc Ls (.ref b :: st))) := by
  subst hp; exact g.by fun t k => XS.ifnullNo X.here hx rfl hd rfl k
theorem g_ifnonnull_yes (X : Stand p l e R s m args below meth c T locs cells slots) (hx : p.tables.exec = Jvm.exec) {b : Addr} {o : Int} (pc' : Nat) (hd : decode c.code pc = .ok (.ifnonnull o, 3)) (ho : 0 ≤ (pc : Int) + o) (hp : ((pc : Int) + o).toNat = pc') (g : Go p e below s Q rc rs (T.setTop (mkF m pc' Ls st))) : Go p e below s Q rc rs (T.setTop (mkF m pc Ls (.ref b :: st))) := by
  subst hp; exact g.by fun t k => XS.ifnonnullYes X.here hx rfl rfl hd rfl ho rfl k
theorem g_retI (X : Stand p l e R s m args below meth c T locs cells slots) (hx : p.tables.exec = Jvm.exec) (hret : meth.sig.returnType = some .int) (hlk : meth.locks = false) {z : Int32} (hd : decode c.code pc = .ok (.ireturn, 1)) (hc : cells ≤ rc) (hs : slots ≤ rs) (hQ : Q (some (.int z)) T.heap locs) : Go p e below s Q rc rs (T.setTop (mkF m pc Ls (.int z :: st))) := by
  obtain ⟨fs, hr, hrun, hended, hW, hsame⟩ := X.leave (v := some (.int z)) (fun q => by rw [hret] at q; cases q) hlk
  exact ⟨_, _, retI X hx hret hd hr, hrun, hended, _, _, rfl, hQ, ⟨_, rfl⟩, hW, hsame.mono hc hs⟩
theorem g_retN (X : Stand p l e R s m args below meth c T locs cells slots) (hx : p.tables.exec = Jvm.exec) {ty : FieldType} (hret : meth.sig.returnType = some ty) (ht : ty = .boolean ∨ ty = .byte ∨ ty = .char ∨ ty = .short) (hlk : meth.locks = false) {z : Int32} (hd : decode c.code pc = .ok (.ireturn, 1)) (hc : cells ≤ rc) (hs : slots ≤ rs) (hQ : Q (some (.int (nar ty z))) T.heap locs) : Go p e below s Q rc rs (T.setTop (mkF m pc Ls (.int z :: st))) := by
  obtain ⟨fs, hr, hrun, hended, hW, hsame⟩ := X.leave (v := some (.int (nar ty z))) (fun q => by rw [hret] at q; cases q) hlk
  exact ⟨_, _, retN X hx hret ht hd hr, hrun, hended, _, _, rfl, hQ, ⟨_, rfl⟩, hW, hsame.mono hc hs⟩
theorem g_retJ (X : Stand p l e R s m args below meth c T locs cells slots) (hx : p.tables.exec = Jvm.exec) (hret : meth.sig.returnType = some .long) (hlk : meth.locks = false) {z : Int64} (hd : decode c.code pc = .ok (.lreturn, 1)) (hc : cells ≤ rc) (hs : slots ≤ rs) (hQ : Q (some (.long z)) T.heap locs) : Go p e below s Q rc rs (T.setTop (mkF m pc Ls (.long z :: st))) := by
  obtain ⟨fs, hr, hrun, hended, hW, hsame⟩ := X.leave (v := some (.long z)) (fun q => by rw [hret] at q; cases q) hlk
  exact ⟨_, _, retOut X hx hret rfl (Or.inr (Or.inl ⟨rfl, rfl, z, rfl⟩)) hd hr, hrun, hended, _, _, rfl, hQ, ⟨_, rfl⟩, hW, hsame.mono hc hs⟩
theorem g_retA (X : Stand p l e R s m args below meth c T locs cells slots) (hx : p.tables.exec = Jvm.exec) {ty : FieldType} (hret : meth.sig.returnType = some ty) (ht : ty.isReference = true) (hlk : meth.locks = false) {b : Addr} (hd : decode c.code pc = .ok (.areturn, 1)) (hc : cells ≤ rc) (hs : slots ≤ rs) (hQ : Q (some (.ref b)) T.heap locs) : Go p e below s Q rc rs (T.setTop (mkF m pc Ls [.ref b])) := by
  obtain ⟨fs, hr, hrun, hended, hW, hsame⟩ := X.leave (v := some (.ref b)) (fun q => by rw [hret] at q; cases q) hlk
  exact ⟨_, _, X.areturnOut hx rfl hret ht hd hr, hrun, hended, _, _, rfl, hQ, ⟨_, rfl⟩, hW, hsame.mono hc hs⟩
theorem g_retV (X : Stand p l e R s m args below meth c T locs cells slots) (hx : p.tables.exec = Jvm.exec) (hret : meth.sig.returnType = none) (hlk : meth.locks = false) (hd : decode c.code pc = .ok (.return_, 1)) (hc : cells ≤ rc) (hs : slots ≤ rs) (hQ : Q none T.heap locs) : Go p e below s Q rc rs (T.setTop (mkF m pc Ls [])) := by
  obtain ⟨fs, hr, hrun, hended, hW, hsame⟩ := X.leave (v := none) (fun _ => rfl) hlk
  exact ⟨_, _, X.returnOut hx hret hd hr, hrun, hended, _, _, rfl, hQ, ⟨_, rfl⟩, hW, hsame.mono hc hs⟩
theorem g_body {y : MethodName} {bytes : ByteArray} {maxL : Nat} {ret : Option FieldType} {ws : List Jvm.Cond} {rm : Room} {as : Array Value} (hpn : plainFor y = true)
    (body : ∀ p e s m below meth c T, Stand p l e rm s m as below meth c T [] 0 0 → p.tables.exec = Jvm.exec → c.code = bytes → c.maxLocals = maxL → meth.sig.returnType = ret → meth.locks = false → s.vm.findClass y.cls = some m.cls → meth.name = y.name → Z.Warmed39 s.vm → T.heap = h → Go p e below s Q rc rs (T.setTop (entryFrame m as maxL))) :
    MetFree l y (head1 (Jvm.Cond.code y bytes maxL ret :: ws) rm) (fun a U => a = as ∧ Z.Warmed39 U.vm ∧ U.heap = h) (fun _ _ _ _ _ => True) (fun _ U o U' => ∃ v L, o = .returned v ∧ Q v U'.heap L ∧ FrameEnd U o U' L rc rs) := by
  refine MetFree.of_bodySF hpn hisR ?_
  intro p e s m args below meth c s₁ Bd hml hP hK
  obtain ⟨rfl, hZ, hh⟩ := hP
  exact body p e s m below meth c s₁ (Stand.of_body Bd) Bd.exec Bd.bytes hml Bd.returns Bd.notSynchronized (findClass_of_methodNamed Bd.named) (name_of_methodNamed Bd.named Bd.method).1 hZ (by rw [← hh, Bd.state]; rfl)
theorem g_callS (X : Stand p l e R s m args below meth c T locs cells slots) (hx : p.tables.exec = Jvm.exec) (hZ : Z.Warmed39 s.vm) {own : String} {i : Nat} {y : MethodName} {bytes : ByteArray} {maxL : Nat} {ret : Option FieldType} {rm : Room} {as : Array Value} {Q' : Option Value → Heap → List Loc → Prop} (hown : s.vm.findClass own = some m.cls) (w1 : (Jvm.Cond.methodLink own i y).before a0 Z = true) (w2 : (Jvm.Cond.static y).before a0 Z = true) (w3 : (Jvm.Cond.initialized y.cls).before a0 Z = true) (w4 : (Jvm.Cond.code y bytes maxL ret).before a0 Z = true) (hy : y.cls ≠ "java/lang/invoke/MethodHandle" ∧ y.cls ≠ "java/lang/invoke/VarHandle") (eT : T.heap = h) (hM : MetFree l y (head1 [Jvm.Cond.code y bytes maxL ret] rm) (fun a U => a = as ∧ Z.Warmed39 U.vm ∧ U.heap = h) (fun _ _ _ _ _ => True) (fun _ U o U' => ∃ v L, o = .returned v ∧ Q' v U'.heap L ∧ FrameEnd U o U' L rm.cells rm.slots)) (argsL rest : List Value) (W : Nat) (has : argsL.toArray = as) (hlen : ∀ sig, parseMethodDescriptor y.desc = some sig → argsL.length = sig.parameters.length) (hst : st = argsL.reverse ++ rest) (hW : (rest.map fun v => v.category).sum ≤ W) (hf : rm.frames + 1 ≤ R.frames) (hlo : W + (maxL + 11) + rm.locals ≤ R.locals) (hcl : cells + rm.cells ≤ R.cells) (hsl : slots + rm.slots ≤ R.slots) (hsz : Ls.size = c.maxLocals) (hd : decode c.code pc = .ok (.invokestatic i, 3)) (k : ∀ T' L v, Stand p l e R s m args below meth c T' (locs ++ L) (cells + rm.cells) (slots + rm.slots) → Q' v T'.heap L → Go p e below s Q rc rs (T'.setTop (mkF m (pc + 3) Ls (v.toList ++ rest)))) : Go p e below s Q rc rs (T.setTop (mkF m pc Ls st)) := by
  subst hst has
  obtain ⟨_, _, ⟨T', L', k', n'⟩, -, X', ⟨Lc, hQ, e1, e2, e3⟩, stp⟩ := Jvm.LawKit.callS X hx (y := y) hown (mvT hZ w1) (mvT hZ w2) (mvT hZ w3) (mvT hZ w4) hy (backOf (W := W) hM hZ w4 w3 hf hlo) (g := mkF m pc Ls (argsL.reverse ++ rest)) rfl hsz (argsL := argsL) (rest := rest) hlen rfl (by show 2 * 0 + _ ≤ _; omega) hd (fun _ _ => ⟨rfl, eT, hcl, hsl⟩)
  dsimp only [Pt.U, Pt.locs, Pt.cells, Pt.slots] at X' e1 e2 e3 stp hQ
  subst e1 e2 e3
  exact (k _ _ _ X' hQ).by stp
theorem g_callI (X : Stand p l e R s m args below meth c T locs cells slots) (hx : p.tables.exec = Jvm.exec) (hZ : Z.Warmed39 s.vm) {own : String} {i : Nat} {y : MethodName} {bytes : ByteArray} {maxL : Nat} {rm : Room} {as : Array Value} {Q' : Option Value → Heap → List Loc → Prop} (hy1 : y.name = "<init>") (hown : s.vm.findClass own = some m.cls) (w1 : (Jvm.Cond.methodLink own i y).before a0 Z = true) (w2 : (Jvm.Cond.instanceMethod y).before a0 Z = true) (w3 : (Jvm.Cond.initialized y.cls).before a0 Z = true) (w4 : (Jvm.Cond.code y bytes maxL none).before a0 Z = true) (hy : y.cls ≠ "java/lang/invoke/MethodHandle" ∧ y.cls ≠ "java/lang/invoke/VarHandle") (eT : T.heap = h) (hM : MetFree l y (head1 [Jvm.Cond.code y bytes maxL none] rm) (fun a U => a = as ∧ Z.Warmed39 U.vm ∧ U.heap = h) (fun _ _ _ _ _ => True) (fun _ U o U' => ∃ v L, o = .returned v ∧ Q' v U'.heap L ∧ FrameEnd U o U' L rm.cells rm.slots)) (b : Addr) (argsL rest : List Value) (W : Nat) (has : (.ref b :: argsL : List Value).toArray = as) (hlen : ∀ sig, parseMethodDescriptor y.desc = some sig → argsL.length = sig.parameters.length) (hst : st = argsL.reverse ++ .ref b :: rest) (hW : (rest.map fun v => v.category).sum ≤ W) (hf : rm.frames + 1 ≤ R.frames) (hlo : W + (maxL + 11) + rm.locals ≤ R.locals) (hcl : cells + rm.cells ≤ R.cells) (hsl : slots + rm.slots ≤ R.slots) (hsz : Ls.size = c.maxLocals) (hd : decode c.code pc = .ok (.invokespecial i, 3)) (k : ∀ T' L v, Stand p l e R s m args below meth c T' (locs ++ L) (cells + rm.cells) (slots + rm.slots) → Q' v T'.heap L → Go p e below s Q rc rs (T'.setTop (mkF m (pc + 3) Ls (v.toList ++ rest)))) : Go p e below s Q rc rs (T.setTop (mkF m pc Ls st)) := by
  subst hst has
  obtain ⟨_, _, ⟨T', L', k', n'⟩, -, X', ⟨Lc, hQ, e1, e2, e3⟩, stp⟩ := X.specialBack hx (y := y) hy1 hown (mvT hZ w1) (mvT hZ w2) (mvT hZ w4) hy (backOf (W := W) hM hZ w4 w3 hf hlo) (g := mkF m pc Ls (argsL.reverse ++ .ref b :: rest)) rfl hsz (Steps.refl _) (a := b) (argsL := argsL) (rest := rest) hlen rfl (by show 2 * 0 + _ ≤ _; omega) hd (fun _ _ => ⟨rfl, eT, hcl, hsl⟩)
  dsimp only [Pt.U, Pt.locs, Pt.cells, Pt.slots] at X' e1 e2 e3 stp hQ
  subst e1 e2 e3
  exact (k _ _ _ X' hQ).by fun t k => stp.trans k
theorem g_callV (X : Stand p l e R s m args below meth c T locs cells slots) (hx : p.tables.exec = Jvm.exec) (hZ : Z.Warmed39 s.vm) {own C : String} {i : Nat} {y : MethodName} {bytes : ByteArray} {maxL : Nat} {ret : Option FieldType} {rm : Room} {as : Array Value} {Q' : Option Value → Heap → List Loc → Prop} (hown : s.vm.findClass own = some m.cls) (w1 : (Jvm.Cond.methodLink own i y).before a0 Z = true) (w2 : (Jvm.Cond.declares y).before a0 Z = true) (w5 : (Jvm.Cond.selects C y y).before a0 Z = true) (w6 : (Jvm.Cond.instanceMethod y).before a0 Z = true) (w3 : (Jvm.Cond.initialized y.cls).before a0 Z = true) (w4 : (Jvm.Cond.code y bytes maxL ret).before a0 Z = true) (hy : y.cls ≠ "java/lang/invoke/MethodHandle" ∧ y.cls ≠ "java/lang/invoke/VarHandle") (eT : T.heap = h) (b : Addr) (E : Exa Z h b C) (hM : MetFree l y (head1 [Jvm.Cond.code y bytes maxL ret] rm) (fun a U => a = as ∧ Z.Warmed39 U.vm ∧ U.heap = h) (fun _ _ _ _ _ => True) (fun _ U o U' => ∃ v L, o = .returned v ∧ Q' v U'.heap L ∧ FrameEnd U o U' L rm.cells rm.slots)) (argsL rest : List Value) (W : Nat) (has : (.ref b :: argsL : List Value).toArray = as) (hlen : ∀ sig, parseMethodDescriptor y.desc = some sig → argsL.length = sig.parameters.length) (hst : st = argsL.reverse ++ .ref b :: rest) (hW : (rest.map fun v => v.category).sum ≤ W) (hf : rm.frames + 1 ≤ R.frames) (hlo : W + (maxL + 11) + rm.locals ≤ R.locals) (hcl : cells + rm.cells ≤ R.cells) (hsl : slots + rm.slots ≤ R.slots) (hsz : Ls.size = c.maxLocals) (hd : decode c.code pc = .ok (.invokevirtual i, 3)) (k : ∀ T' L v, Stand p l e R s m args below meth c T' (locs ++ L) (cells + rm.cells) (slots + rm.slots) → Q' v T'.heap L → Go p e below s Q rc rs (T'.setTop (mkF m (pc + 3) Ls (v.toList ++ rest)))) : Go p e below s Q rc rs (T.setTop (mkF m pc Ls st)) := by
  subst hst has
  obtain ⟨cq, kq, qa, qb, qc⟩ := isOf hZ eT E
  obtain ⟨_, _, ⟨T', L', k', n'⟩, -, X', ⟨Lc, hQ, e1, e2, e3⟩, stp⟩ := X.virtualBack hx (y := y) (z := y) hown (mvT hZ w1) (mvT hZ w2) (notFace_of_selects (args := #[]) (mvT hZ w5)) (mvT hZ w5) (mvT hZ w6) hy (backOf (W := W) hM hZ w4 w3 hf hlo) qa qc (g := mkF m pc Ls (argsL.reverse ++ .ref b :: rest)) rfl hsz (Steps.refl _) (argsL := argsL) (rest := rest) hlen rfl (by show 2 * 0 + _ ≤ _; omega) hd (fun _ _ => ⟨rfl, eT, hcl, hsl⟩)
  dsimp only [Pt.U, Pt.locs, Pt.cells, Pt.slots] at X' e1 e2 e3 stp hQ
  subst e1 e2 e3
  exact (k _ _ _ X' hQ).by fun t k => stp.trans k
theorem g_callP (X : Stand p l e R s m args below meth c T locs cells slots) (hx : p.tables.exec = Jvm.exec) (hZ : Z.Warmed39 s.vm) {own C : String} {i : Nat} {y : MethodName} {bytes : ByteArray} {maxL : Nat} {ret : Option FieldType} {rm : Room} {as : Array Value} {Q' : Option Value → Heap → List Loc → Prop} (hown : s.vm.findClass own = some m.cls) (w1 : (Jvm.Cond.methodLink own i y).before a0 Z = true) (w2 : (Jvm.Cond.instanceMethod y).before a0 Z = true) {kk : Nat} (w5 : (Jvm.Cond.instantiable y.cls kk).before a0 Z = true) (w6 : (Jvm.Cond.privateMethod y).before a0 Z = true) (w3 : (Jvm.Cond.initialized y.cls).before a0 Z = true) (w4 : (Jvm.Cond.code y bytes maxL ret).before a0 Z = true) (hy : y.cls ≠ "java/lang/invoke/MethodHandle" ∧ y.cls ≠ "java/lang/invoke/VarHandle") (eT : T.heap = h) (b : Addr) (E : Exa Z h b C) (hM : MetFree l y (head1 [Jvm.Cond.code y bytes maxL ret] rm) (fun a U => a = as ∧ Z.Warmed39 U.vm ∧ U.heap = h) (fun _ _ _ _ _ => True) (fun _ U o U' => ∃ v L, o = .returned v ∧ Q' v U'.heap L ∧ FrameEnd U o U' L rm.cells rm.slots)) (argsL rest : List Value) (W : Nat) (has : (.ref b :: argsL : List Value).toArray = as) (hlen : ∀ sig, parseMethodDescriptor y.desc = some sig → argsL.length = sig.parameters.length) (hst : st = argsL.reverse ++ .ref b :: rest) (hW : (rest.map fun v => v.category).sum ≤ W) (hf : rm.frames + 1 ≤ R.frames) (hlo : W + (maxL + 11) + rm.locals ≤ R.locals) (hcl : cells + rm.cells ≤ R.cells) (hsl : slots + rm.slots ≤ R.slots) (hsz : Ls.size = c.maxLocals) (hd : decode c.code pc = .ok (.invokevirtual i, 3)) (k : ∀ T' L v, Stand p l e R s m args below meth c T' (locs ++ L) (cells + rm.cells) (slots + rm.slots) → Q' v T'.heap L → Go p e below s Q rc rs (T'.setTop (mkF m (pc + 3) Ls (v.toList ++ rest)))) : Go p e below s Q rc rs (T.setTop (mkF m pc Ls st)) := by
  subst hst has
  obtain ⟨cq, q, q'⟩ := E.cell
  have hpv := Cond.privateMethod_at (mvP hZ w6 (args := #[]))
  obtain ⟨c1, k1, r1, r2, -, r4, -⟩ := Cond.instantiable_spec (mvT hZ w5 (args := args))
  have hsel : (Jvm.Cond.selects y.cls y y).before args s = true := selects_self_of_private r1 r2 (Bool.or_eq_false_iff.mp r4).1 hpv (mvT hZ w2) hy
  obtain ⟨_, _, ⟨T', L', k', n'⟩, -, X', ⟨Lc, hQ, e1, e2, e3⟩, stp⟩ := X.privateBack hx (y := y) hown (mvT hZ w1) (mvT hZ w2) hsel hpv (mvT hZ w4) hy (backOf (W := W) hM hZ w4 w3 hf hlo) (g := mkF m pc Ls (argsL.reverse ++ .ref b :: rest)) rfl hsz (Steps.refl _) (a := b) (by rw [eT]; exact q) q' (argsL := argsL) (rest := rest) hlen rfl (by show 2 * 0 + _ ≤ _; omega) hd (fun _ _ => ⟨rfl, eT, hcl, hsl⟩)
  dsimp only [Pt.U, Pt.locs, Pt.cells, Pt.slots] at X' e1 e2 e3 stp hQ
  subst e1 e2 e3
  exact (k _ _ _ X' hQ).by fun t k => stp.trans k
theorem g_initO (X : Stand p l e R s m args below meth c T locs cells slots) (hx : p.tables.exec = Jvm.exec) (hZ : Z.Warmed39 s.vm) {own : String} {i : Nat} (hown : s.vm.findClass own = some m.cls) (w1 : (Jvm.Cond.methodLink own i Lib.objectInit).before a0 Z = true) (w2 : (Jvm.Cond.instanceMethod Lib.objectInit).before a0 Z = true) (w3 : (Jvm.Cond.code Lib.objectInit ⟨#[0xb1]⟩ 1 none).before a0 Z = true) (eT : T.heap = h) {b : Addr} (pc' : Nat) (hsz : Ls.size = c.maxLocals) (hd : decode c.code pc = .ok (.invokespecial i, 3)) (hf : 1 ≤ R.frames) (W : Nat) (hW : (st.map fun v => v.category).sum ≤ W) (hlo : W + 12 ≤ R.locals) (hp : pc + 3 = pc') (k : ∀ T', Stand p l e R s m args below meth c T' locs cells slots → T'.heap = h → Go p e below s Q rc rs (T'.setTop (mkF m pc' Ls st))) : Go p e below s Q rc rs (T.setTop (mkF m pc Ls (.ref b :: st))) := by
  subst hp
  obtain ⟨T', X', e', stp⟩ := initO X hx hZ hown w1 w2 w3 eT (g := mkF m pc Ls (.ref b :: st)) rfl hsz rfl hd hf (W := W) (by show 2 * 0 + _ ≤ _; omega) hlo
  exact (k _ X' e').by stp
theorem g_getF (X : Stand p l e R s m args below meth c T locs cells slots) (hx : p.tables.exec = Jvm.exec) (hZ : Z.Warmed39 s.vm) {own R0 O n d : String} {i : Nat} (hown : s.vm.findClass own = some m.cls) (w : (Jvm.Cond.fieldLink own i R0 n d).before a0 Z = true) (via : Via Z R0 O n d) (eT : T.heap = h) {b : Addr} {v : Value} (F : Fld Z h b O n d v) (pc' : Nat) (hd : decode c.code pc = .ok (.getfield i, 3)) (hp : pc + 3 = pc') (k : ∀ T', Stand p l e R s m args below meth c T' locs cells slots → T'.heap = h → Go p e below s Q rc rs (T'.setTop (mkF m pc' Ls (v :: st)))) : Go p e below s Q rc rs (T.setTop (mkF m pc Ls (.ref b :: st))) := by
  subst hp
  obtain ⟨T', X', e', stp⟩ := getF X hx hZ hown (host := "") (Or.inl w) via eT F (g := mkF m pc Ls (.ref b :: st)) rfl rfl hd
  exact (k _ X' e').by stp
theorem g_putF (X : Stand p l e R s m args below meth c T locs cells slots) (hx : p.tables.exec = Jvm.exec) (hZ : Z.Warmed39 s.vm) {own R0 O n d C : String} {i kk : Nat} {ty : FieldType} (hown : s.vm.findClass own = some m.cls) (w : (Jvm.Cond.fieldLink own i R0 n d).before a0 Z = true) (via : Via Z R0 O n d) (eT : T.heap = h) {b : Addr} {v old : Value} (F : Fld Z h b O n d old) (E : Exa Z h b C) (L : (Jvm.Cond.lays C O n d).before a0 Z = true ∨ ((Jvm.Cond.laysFinal C O n d).before a0 Z = true ∧ own = O ∧ meth.name = "<init>")) (wi : (Jvm.Cond.instantiable C kk).before a0 Z = true) (hty : parseFieldDescriptor d = some ty) (hn : narrow ty v = v) (hf : fits ty v = true) (pc' : Nat) (hd : decode c.code pc = .ok (.putfield i, 3)) (hp : pc + 3 = pc') (k : ∀ T' h', Stand p l e R s m args below meth c T' (locs ++ [⟨b, Jvm.RoadKit.slotOf Z O n d⟩]) cells slots → T'.heap = h' → Wr h h' b (Jvm.RoadKit.slotOf Z O n d) v → Go p e below s Q rc rs (T'.setTop (mkF m pc' Ls st))) : Go p e below s Q rc rs (T.setTop (mkF m pc Ls (v :: .ref b :: st))) := by
  subst hp
  obtain ⟨T', h', X', e', W', stp⟩ := putF X hx hZ hown (host := "") (Or.inl w) via eT F E L wi hty hn hf (g := mkF m pc Ls (v :: .ref b :: st)) rfl rfl hd
  exact (k _ _ X' e' W').by stp
theorem g_new (X : Stand p l e R s m args below meth c T locs cells slots) (hx : p.tables.exec = Jvm.exec) (hZ : Z.Warmed39 s.vm) {own C : String} {i n : Nat} (hown : s.vm.findClass own = some m.cls) (w : (Jvm.Cond.classLink own i C).before a0 Z = true) (wi : (Jvm.Cond.instantiable C n).before a0 Z = true) (wz : (Jvm.Cond.initialized C).before a0 Z = true) (eT : T.heap = h) (pc' : Nat) (hd : decode c.code pc = .ok (.new i, 3)) (hcl : cells + 1 ≤ R.cells) (hsl : slots + n ≤ R.slots) (hp : pc + 3 = pc') (k : ∀ T' h' b, b = h.size → Stand p l e R s m args below meth c T' locs (cells + 1) (slots + n) → T'.heap = h' → Ext h h' → Exa Z h' b C → (∀ {O nm d : String} {ty : FieldType}, Laid Z a0 C O nm d → parseFieldDescriptor d = some ty → Fld Z h' b O nm d (defaultValue ty)) → Go p e below s Q rc rs (T'.setTop (mkF m pc' Ls (.ref b :: st)))) : Go p e below s Q rc rs (T.setTop (mkF m pc Ls st)) := by
  subst hp
  obtain ⟨T', h', X', e', E', A', D', -, stp⟩ := newO X hx hZ hown w wi wz eT (g := mkF m pc Ls st) rfl hd hcl hsl
  exact (k _ _ _ rfl X' e' E' A' D').by stp
/-- an array of n places whose j-th holds f j -/
def AV (Z : State) (h : Heap) (a : Addr) (ty : FieldType) (n : Nat) (f : Nat → Value) : Prop := ∃ c : Cell, Arr Z h a c ty ∧ c.slots.size = n ∧ n < 2 ^ 31 ∧ ∀ j, j < n → c.slots[j]? = some (f j)
theorem AV.ext {h' : Heap} {a : Addr} {ty : FieldType} {n : Nat} {f : Nat → Value} (F : AV Z h a ty n f) (E : Ext h h') : AV Z h' a ty n f := by obtain ⟨c, A, r⟩ := F; exact ⟨c, A.ext E, r⟩
theorem AV.other {h' : Heap} {a b : Addr} {ty : FieldType} {n sl : Nat} {f : Nat → Value} {v : Value} (F : AV Z h a ty n f) (W : Wr h h' b sl v) (q : a ≠ b) : AV Z h' a ty n f := by obtain ⟨c, A, r⟩ := F; exact ⟨c, A.other W q, r⟩
theorem AV.keep {h' : Heap} {a : Addr} {ws : List Addr} {ty : FieldType} {n : Nat} {f : Nat → Value} (F : AV Z h a ty n f) (K : Keep h h' ws) (q : a ∉ ws) : AV Z h' a ty n f := by obtain ⟨c, A, r⟩ := F; exact ⟨c, ⟨K.2.1 a c A.1 q, A.2⟩, r⟩
theorem AV.lt {a : Addr} {ty : FieldType} {n : Nat} {f : Nat → Value} (F : AV Z h a ty n f) : a < h.size := by obtain ⟨c, A, -⟩ := F; exact A.lt
theorem AV.small {a : Addr} {ty : FieldType} {n : Nat} {f : Nat → Value} (F : AV Z h a ty n f) : n < 2 ^ 31 := by obtain ⟨c, -, -, q, -⟩ := F; exact q
theorem AV.congr {a : Addr} {ty : FieldType} {n : Nat} {f g : Nat → Value} (F : AV Z h a ty n f) (q : ∀ j, j < n → f j = g j) : AV Z h a ty n g := by obtain ⟨c, A, r1, r2, r3⟩ := F; exact ⟨c, A, r1, r2, fun j hj => by rw [r3 j hj, q j hj]⟩
theorem own_idx {j : Int32} {i : Nat} (q : j.toInt = i) : ¬ j < 0 ∧ j.toNatClampNeg = i := by
  refine ⟨?_, ?_⟩
  · rw [Int32.lt_iff_toInt_lt, q]; simp
  · show j.toInt.toNat = i; omega
theorem own_in {j : Int32} {i : Nat} {cl : Cell} (q : j.toInt = i) (hi : i < cl.slots.size) : ¬ (j < 0 ∨ cl.slots.size ≤ j.toNatClampNeg) := by
  obtain ⟨q1, q2⟩ := own_idx q
  rintro (z | z)
  · exact q1 z
  · omega
def upd {α : Type} (g : Nat → α) (j : Nat) (x : α) : Nat → α := fun q => if q = j then x else g q
def AI (Z : State) (h : Heap) (a : Addr) (n : Nat) (g : Nat → Int32) : Prop := AV Z h a .int n (fun j => .int (g j))
def AJ (Z : State) (h : Heap) (a : Addr) (n : Nat) (g : Nat → Int64) : Prop := AV Z h a .long n (fun j => .long (g j))
def AB (Z : State) (h : Heap) (a : Addr) (n : Nat) (g : Nat → Int32) : Prop := AV Z h a .byte n (fun j => .int (g j))
theorem nm0 {a : Addr} : a ∉ ([] : List Addr) := nofun
theorem nm1 {a b : Addr} {ws : List Addr} (q : a ≠ b) (r : a ∉ ws) : a ∉ b :: ws := fun z => by
  rcases List.mem_cons.mp z with z | z
  · exact q z
  · exact r z
theorem AI.ext {h' : Heap} {a : Addr} {n : Nat} {g : Nat → Int32} (F : AI Z h a n g) (E : Ext h h') : AI Z h' a n g := AV.ext F E
theorem AI.other {h' : Heap} {a b : Addr} {n sl : Nat} {g : Nat → Int32} {v : Value} (F : AI Z h a n g) (W : Wr h h' b sl v) (q : a ≠ b) : AI Z h' a n g := AV.other F W q
theorem AI.keep {h' : Heap} {a : Addr} {ws : List Addr} {n : Nat} {g : Nat → Int32} (F : AI Z h a n g) (K : Keep h h' ws) (q : a ∉ ws) : AI Z h' a n g := AV.keep F K q
theorem AI.lt {a : Addr} {n : Nat} {g : Nat → Int32} (F : AI Z h a n g) : a < h.size := AV.lt F
theorem AI.small {a : Addr} {n : Nat} {g : Nat → Int32} (F : AI Z h a n g) : n < 2 ^ 31 := AV.small F
theorem AI.congr {a : Addr} {n : Nat} {g g' : Nat → Int32} (F : AI Z h a n g) (q : ∀ j, j < n → g j = g' j) : AI Z h a n g' := AV.congr F fun j hj => by rw [q j hj]
theorem AJ.ext {h' : Heap} {a : Addr} {n : Nat} {g : Nat → Int64} (F : AJ Z h a n g) (E : Ext h h') : AJ Z h' a n g := AV.ext F E
theorem AJ.other {h' : Heap} {a b : Addr} {n sl : Nat} {g : Nat → Int64} {v : Value} (F : AJ Z h a n g) (W : Wr h h' b sl v) (q : a ≠ b) : AJ Z h' a n g := AV.other F W q
theorem AJ.keep {h' : Heap} {a : Addr} {ws : List Addr} {n : Nat} {g : Nat → Int64} (F : AJ Z h a n g) (K : Keep h h' ws) (q : a ∉ ws) : AJ Z h' a n g := AV.keep F K q
theorem AJ.lt {a : Addr} {n : Nat} {g : Nat → Int64} (F : AJ Z h a n g) : a < h.size := AV.lt F
theorem AJ.small {a : Addr} {n : Nat} {g : Nat → Int64} (F : AJ Z h a n g) : n < 2 ^ 31 := AV.small F
theorem AJ.congr {a : Addr} {n : Nat} {g g' : Nat → Int64} (F : AJ Z h a n g) (q : ∀ j, j < n → g j = g' j) : AJ Z h a n g' := AV.congr F fun j hj => by rw [q j hj]
theorem AB.ext {h' : Heap} {a : Addr} {n : Nat} {g : Nat → Int32} (F : AB Z h a n g) (E : Ext h h') : AB Z h' a n g := AV.ext F E
theorem AB.other {h' : Heap} {a b : Addr} {n sl : Nat} {g : Nat → Int32} {v : Value} (F : AB Z h a n g) (W : Wr h h' b sl v) (q : a ≠ b) : AB Z h' a n g := AV.other F W q
theorem AB.keep {h' : Heap} {a : Addr} {ws : List Addr} {n : Nat} {g : Nat → Int32} (F : AB Z h a n g) (K : Keep h h' ws) (q : a ∉ ws) : AB Z h' a n g := AV.keep F K q
theorem AB.lt {a : Addr} {n : Nat} {g : Nat → Int32} (F : AB Z h a n g) : a < h.size := AV.lt F
theorem AB.small {a : Addr} {n : Nat} {g : Nat → Int32} (F : AB Z h a n g) : n < 2 ^ 31 := AV.small F
theorem AB.congr {a : Addr} {n : Nat} {g g' : Nat → Int32} (F : AB Z h a n g) (q : ∀ j, j < n → g j = g' j) : AB Z h a n g' := AV.congr F fun j hj => by rw [q j hj]
theorem g_iaload (X : Stand p l e R s m args below meth c T locs cells slots) (hx : p.tables.exec = Jvm.exec) (hZ : Z.Warmed39 s.vm) (eT : T.heap = h) {b : Addr} {n : Nat} {g : Nat → Int32} (A : AI Z h b n g) {j : Int32} (jn : Nat) (hj : j.toInt = jn) (hlt : jn < n) (pc' : Nat) (hd : decode c.code pc = .ok (.iaload, 1)) (hp : pc + 1 = pc') (k : Go p e below s Q rc rs (T.setTop (mkF m pc' Ls (.int (g jn) :: st)))) : Go p e below s Q rc rs (T.setTop (mkF m pc Ls (.int j :: .ref b :: st))) := by
  subst hp
  obtain ⟨cl, A1, A2, A3, A4⟩ := A
  exact k.by fun t k => X.iaload hx (j := j) (by rw [eT]; exact A1.1) (State.isArrayOf_alike hZ.alike A1.2.1) A1.2.2 (own_in hj (by omega)) (by rw [(own_idx hj).2]; exact A4 _ hlt) (g := mkF m pc Ls (.int j :: .ref b :: st)) rfl rfl hd t k
theorem g_laload (X : Stand p l e R s m args below meth c T locs cells slots) (hx : p.tables.exec = Jvm.exec) (hZ : Z.Warmed39 s.vm) (eT : T.heap = h) {b : Addr} {n : Nat} {g : Nat → Int64} (A : AJ Z h b n g) {j : Int32} (jn : Nat) (hj : j.toInt = jn) (hlt : jn < n) (pc' : Nat) (hd : decode c.code pc = .ok (.laload, 1)) (hp : pc + 1 = pc') (k : Go p e below s Q rc rs (T.setTop (mkF m pc' Ls (.long (g jn) :: st)))) : Go p e below s Q rc rs (T.setTop (mkF m pc Ls (.int j :: .ref b :: st))) := by
  subst hp
  obtain ⟨cl, A1, A2, A3, A4⟩ := A
  exact k.by fun t k => X.laload hx (j := j) (by rw [eT]; exact A1.1) (State.isArrayOf_alike hZ.alike A1.2.1) A1.2.2 (own_in hj (by omega)) (by rw [(own_idx hj).2]; exact A4 _ hlt) (g := mkF m pc Ls (.int j :: .ref b :: st)) rfl rfl hd t k
theorem g_baload (X : Stand p l e R s m args below meth c T locs cells slots) (hx : p.tables.exec = Jvm.exec) (hZ : Z.Warmed39 s.vm) (eT : T.heap = h) {b : Addr} {n : Nat} {g : Nat → Int32} (A : AB Z h b n g) {j : Int32} (jn : Nat) (hj : j.toInt = jn) (hlt : jn < n) (pc' : Nat) (hd : decode c.code pc = .ok (.baload, 1)) (hp : pc + 1 = pc') (k : Go p e below s Q rc rs (T.setTop (mkF m pc' Ls (.int (g jn) :: st)))) : Go p e below s Q rc rs (T.setTop (mkF m pc Ls (.int j :: .ref b :: st))) := by
  subst hp
  obtain ⟨cl, A1, A2, A3, A4⟩ := A
  exact k.by fun t k => X.baloadBytes hx (j := j) (by rw [eT]; exact A1.1) (State.isArrayOf_alike hZ.alike A1.2.1) A1.2.2 (own_in hj (by omega)) (by rw [(own_idx hj).2]; exact A4 _ hlt) (g := mkF m pc Ls (.int j :: .ref b :: st)) rfl rfl hd t k
theorem g_iastore (X : Stand p l e R s m args below meth c T locs cells slots) (hx : p.tables.exec = Jvm.exec) (hZ : Z.Warmed39 s.vm) (eT : T.heap = h) {b : Addr} {n : Nat} {g : Nat → Int32} (A : AI Z h b n g) {j : Int32} {x : Int32} (jn : Nat) (hj : j.toInt = jn) (hlt : jn < n) (pc' : Nat) (hd : decode c.code pc = .ok (.iastore, 1)) (hp : pc + 1 = pc') (k : ∀ T' h', Stand p l e R s m args below meth c T' (locs ++ [⟨b, jn⟩]) cells slots → T'.heap = h' → Wr h h' b jn (.int x) → AI Z h' b n (upd g jn x) → Go p e below s Q rc rs (T'.setTop (mkF m pc' Ls st))) : Go p e below s Q rc rs (T.setTop (mkF m pc Ls (.int x :: .int j :: .ref b :: st))) := by
  subst hp
  obtain ⟨cl, A1, A2, A3, A4⟩ := A
  obtain ⟨T', h', X', e', W', stp⟩ := stI X hx hZ eT A1 (j := j) (x := x) (own_in hj (by omega)) (g := mkF m pc Ls (.int x :: .int j :: .ref b :: st)) rfl rfl hd
  rw [(own_idx hj).2] at X' W'
  refine (k _ _ X' e' W' ⟨_, A1.same W', by rw [sz_set]; exact A2, A3, fun q hq => ?_⟩).by stp
  by_cases z : q = jn
  · subst z; simp [Cell.setSlot, A2, hq, upd]; try rfl
  · simp only [upd, z, if_false]; rw [← A4 q hq]; simp only [Cell.setSlot]; rw [Array.getElem?_setIfInBounds_ne (Ne.symm z)]
theorem g_lastore (X : Stand p l e R s m args below meth c T locs cells slots) (hx : p.tables.exec = Jvm.exec) (hZ : Z.Warmed39 s.vm) (eT : T.heap = h) {b : Addr} {n : Nat} {g : Nat → Int64} (A : AJ Z h b n g) {j : Int32} {x : Int64} (jn : Nat) (hj : j.toInt = jn) (hlt : jn < n) (pc' : Nat) (hd : decode c.code pc = .ok (.lastore, 1)) (hp : pc + 1 = pc') (k : ∀ T' h', Stand p l e R s m args below meth c T' (locs ++ [⟨b, jn⟩]) cells slots → T'.heap = h' → Wr h h' b jn (.long x) → AJ Z h' b n (upd g jn x) → Go p e below s Q rc rs (T'.setTop (mkF m pc' Ls st))) : Go p e below s Q rc rs (T.setTop (mkF m pc Ls (.long x :: .int j :: .ref b :: st))) := by
  subst hp
  obtain ⟨cl, A1, A2, A3, A4⟩ := A
  obtain ⟨T', h', X', e', W', stp⟩ := stJ X hx hZ eT A1 (j := j) (x := x) (own_in hj (by omega)) (g := mkF m pc Ls (.long x :: .int j :: .ref b :: st)) rfl rfl hd
  rw [(own_idx hj).2] at X' W'
  refine (k _ _ X' e' W' ⟨_, A1.same W', by rw [sz_set]; exact A2, A3, fun q hq => ?_⟩).by stp
  by_cases z : q = jn
  · subst z; simp [Cell.setSlot, A2, hq, upd]; try rfl
  · simp only [upd, z, if_false]; rw [← A4 q hq]; simp only [Cell.setSlot]; rw [Array.getElem?_setIfInBounds_ne (Ne.symm z)]
theorem g_bastore (X : Stand p l e R s m args below meth c T locs cells slots) (hx : p.tables.exec = Jvm.exec) (hZ : Z.Warmed39 s.vm) (eT : T.heap = h) {b : Addr} {n : Nat} {g : Nat → Int32} (A : AB Z h b n g) {j : Int32} {x : Int32} (jn : Nat) (hj : j.toInt = jn) (hlt : jn < n) (pc' : Nat) (hd : decode c.code pc = .ok (.bastore, 1)) (hp : pc + 1 = pc') (k : ∀ T' h', Stand p l e R s m args below meth c T' (locs ++ [⟨b, jn⟩]) cells slots → T'.heap = h' → Wr h h' b jn (.int (nar .byte x)) → AB Z h' b n (upd g jn (i2bI x)) → Go p e below s Q rc rs (T'.setTop (mkF m pc' Ls st))) : Go p e below s Q rc rs (T.setTop (mkF m pc Ls (.int x :: .int j :: .ref b :: st))) := by
  subst hp
  obtain ⟨cl, A1, A2, A3, A4⟩ := A
  obtain ⟨T', h', X', e', W', stp⟩ := stB X hx hZ eT A1 (j := j) (x := x) (own_in hj (by omega)) (g := mkF m pc Ls (.int x :: .int j :: .ref b :: st)) rfl rfl hd
  rw [(own_idx hj).2] at X' W'
  refine (k _ _ X' e' W' ⟨_, A1.same W', by rw [sz_set]; exact A2, A3, fun q hq => ?_⟩).by stp
  by_cases z : q = jn
  · subst z; simp [Cell.setSlot, A2, hq, upd]; try rfl
  · simp only [upd, z, if_false]; rw [← A4 q hq]; simp only [Cell.setSlot]; rw [Array.getElem?_setIfInBounds_ne (Ne.symm z)]
theorem g_arraylengthI (X : Stand p l e R s m args below meth c T locs cells slots) (hx : p.tables.exec = Jvm.exec) (hZ : Z.Warmed39 s.vm) (eT : T.heap = h) {b : Addr} {n : Nat} {g : Nat → Int32} (A : AI Z h b n g) (v : Int32) (hv : n.toInt32 = v) (pc' : Nat) (hd : decode c.code pc = .ok (.arraylength, 1)) (hp : pc + 1 = pc') (k : Go p e below s Q rc rs (T.setTop (mkF m pc' Ls (.int v :: st)))) : Go p e below s Q rc rs (T.setTop (mkF m pc Ls (.ref b :: st))) := by
  subst hp hv
  obtain ⟨cl, A1, A2, A3, A4⟩ := A
  subst A2
  exact k.by fun t k => X.arraylength hx (by rw [eT]; exact A1.1) (State.isArrayOf_alike hZ.alike A1.2.1) (g := mkF m pc Ls (.ref b :: st)) rfl rfl hd t k
theorem g_arraylengthJ (X : Stand p l e R s m args below meth c T locs cells slots) (hx : p.tables.exec = Jvm.exec) (hZ : Z.Warmed39 s.vm) (eT : T.heap = h) {b : Addr} {n : Nat} {g : Nat → Int64} (A : AJ Z h b n g) (v : Int32) (hv : n.toInt32 = v) (pc' : Nat) (hd : decode c.code pc = .ok (.arraylength, 1)) (hp : pc + 1 = pc') (k : Go p e below s Q rc rs (T.setTop (mkF m pc' Ls (.int v :: st)))) : Go p e below s Q rc rs (T.setTop (mkF m pc Ls (.ref b :: st))) := by
  subst hp hv
  obtain ⟨cl, A1, A2, A3, A4⟩ := A
  subst A2
  exact k.by fun t k => X.arraylength hx (by rw [eT]; exact A1.1) (State.isArrayOf_alike hZ.alike A1.2.1) (g := mkF m pc Ls (.ref b :: st)) rfl rfl hd t k
theorem g_arraylengthB (X : Stand p l e R s m args below meth c T locs cells slots) (hx : p.tables.exec = Jvm.exec) (hZ : Z.Warmed39 s.vm) (eT : T.heap = h) {b : Addr} {n : Nat} {g : Nat → Int32} (A : AB Z h b n g) (v : Int32) (hv : n.toInt32 = v) (pc' : Nat) (hd : decode c.code pc = .ok (.arraylength, 1)) (hp : pc + 1 = pc') (k : Go p e below s Q rc rs (T.setTop (mkF m pc' Ls (.int v :: st)))) : Go p e below s Q rc rs (T.setTop (mkF m pc Ls (.ref b :: st))) := by
  subst hp hv
  obtain ⟨cl, A1, A2, A3, A4⟩ := A
  subst A2
  exact k.by fun t k => X.arraylength hx (by rw [eT]; exact A1.1) (State.isArrayOf_alike hZ.alike A1.2.1) (g := mkF m pc Ls (.ref b :: st)) rfl rfl hd t k
theorem g_newarr (X : Stand p l e R s m args below meth c T locs cells slots) (hx : p.tables.exec = Jvm.exec) (hZ : Z.Warmed39 s.vm) {aty : ArrayType} (w : (Jvm.Cond.arrayClass (newarray.typeOf aty)).before a0 Z = true) (eT : T.heap = h) {n : Int32} (N cap : Nat) (hn : n.toInt = N) (hcap : N ≤ cap) (hb : cap * 8 ≤ 536870912) (pc' : Nat) (hd : decode c.code pc = .ok (.newarray aty, 2)) (hcl : cells + 1 ≤ R.cells) (hsl : slots + cap ≤ R.slots) (hp : pc + 2 = pc') (k : ∀ T' h' b, b = h.size → Stand p l e R s m args below meth c T' locs (cells + 1) (slots + cap) → T'.heap = h' → Ext h h' → AV Z h' b (newarray.typeOf aty) N (fun _ => defaultValue (newarray.typeOf aty)) → Go p e below s Q rc rs (T'.setTop (mkF m pc' Ls (.ref b :: st)))) : Go p e below s Q rc rs (T.setTop (mkF m pc Ls (.int n :: st))) := by
  subst hp
  obtain ⟨q1, q2⟩ := own_idx hn
  obtain ⟨T', h', kA, X', e', E', A', stp⟩ := newP X hx hZ w eT (g := mkF m pc Ls (.int n :: st)) rfl hd rfl q1 (cap := cap) (by rw [q2]; exact hcap) hb hcl hsl
  have hN : N < 2 ^ 31 := by have := n.toInt_lt; omega
  refine (k _ _ _ rfl X' e' E' ⟨_, A', by rw [sz_new, q2], hN, fun j hj => ?_⟩).by stp
  simp [newA, q2, hj]
theorem g_newarrayI (X : Stand p l e R s m args below meth c T locs cells slots) (hx : p.tables.exec = Jvm.exec) (hZ : Z.Warmed39 s.vm) (w : (Jvm.Cond.arrayClass .int).before a0 Z = true) (eT : T.heap = h) {n : Int32} (N cap : Nat) (hn : n.toInt = N) (hcap : N ≤ cap) (hb : cap * 8 ≤ 536870912) (pc' : Nat) (hd : decode c.code pc = .ok (.newarray .int, 2)) (hcl : cells + 1 ≤ R.cells) (hsl : slots + cap ≤ R.slots) (hp : pc + 2 = pc') (k : ∀ T' h' b, b = h.size → Stand p l e R s m args below meth c T' locs (cells + 1) (slots + cap) → T'.heap = h' → Ext h h' → AI Z h' b N (fun _ => (0 : Int32)) → Go p e below s Q rc rs (T'.setTop (mkF m pc' Ls (.ref b :: st)))) : Go p e below s Q rc rs (T.setTop (mkF m pc Ls (.int n :: st))) :=
  g_newarr X hx hZ (aty := .int) w eT N cap hn hcap hb pc' hd hcl hsl hp fun T' h' b q1 q2 q3 q4 q5 => k T' h' b q1 q2 q3 q4 q5
theorem g_newarrayJ (X : Stand p l e R s m args below meth c T locs cells slots) (hx : p.tables.exec = Jvm.exec) (hZ : Z.Warmed39 s.vm) (w : (Jvm.Cond.arrayClass .long).before a0 Z = true) (eT : T.heap = h) {n : Int32} (N cap : Nat) (hn : n.toInt = N) (hcap : N ≤ cap) (hb : cap * 8 ≤ 536870912) (pc' : Nat) (hd : decode c.code pc = .ok (.newarray .long, 2)) (hcl : cells + 1 ≤ R.cells) (hsl : slots + cap ≤ R.slots) (hp : pc + 2 = pc') (k : ∀ T' h' b, b = h.size → Stand p l e R s m args below meth c T' locs (cells + 1) (slots + cap) → T'.heap = h' → Ext h h' → AJ Z h' b N (fun _ => (0 : Int64)) → Go p e below s Q rc rs (T'.setTop (mkF m pc' Ls (.ref b :: st)))) : Go p e below s Q rc rs (T.setTop (mkF m pc Ls (.int n :: st))) :=
  g_newarr X hx hZ (aty := .long) w eT N cap hn hcap hb pc' hd hcl hsl hp fun T' h' b q1 q2 q3 q4 q5 => k T' h' b q1 q2 q3 q4 q5
theorem g_newarrayB (X : Stand p l e R s m args below meth c T locs cells slots) (hx : p.tables.exec = Jvm.exec) (hZ : Z.Warmed39 s.vm) (w : (Jvm.Cond.arrayClass .byte).before a0 Z = true) (eT : T.heap = h) {n : Int32} (N cap : Nat) (hn : n.toInt = N) (hcap : N ≤ cap) (hb : cap * 8 ≤ 536870912) (pc' : Nat) (hd : decode c.code pc = .ok (.newarray .byte, 2)) (hcl : cells + 1 ≤ R.cells) (hsl : slots + cap ≤ R.slots) (hp : pc + 2 = pc') (k : ∀ T' h' b, b = h.size → Stand p l e R s m args below meth c T' locs (cells + 1) (slots + cap) → T'.heap = h' → Ext h h' → AB Z h' b N (fun _ => (0 : Int32)) → Go p e below s Q rc rs (T'.setTop (mkF m pc' Ls (.ref b :: st)))) : Go p e below s Q rc rs (T.setTop (mkF m pc Ls (.int n :: st))) :=
  g_newarr X hx hZ (aty := .byte) w eT N cap hn hcap hb pc' hd hcl hsl hp fun T' h' b q1 q2 q3 q4 q5 => k T' h' b q1 q2 q3 q4 q5
end OwnKit
section OwnCopy
variable {p : Program} {l : Launch} {e : Env} {R : Room} {s : State} {m : MethodId} {args : Array Value} {below : List Frame} {meth : Method} {c : Code} {T : State} {locs : List Loc} {cells slots : Nat} {Z : State} {a0 : Array Value} {h : Heap}
variable {Q : Option Value → Heap → List Loc → Prop} {rc rs pc : Nat} {Ls : Array Slot} {st : List Value}
theorem g_newarrayIE (X : Stand p l e R s m args below meth c T locs cells slots) (hx : p.tables.exec = Jvm.exec) (hZ : Z.Warmed39 s.vm) (w : (Jvm.Cond.arrayClass .int).before a0 Z = true) (eT : T.heap = h) {n : Int32} (N cap : Nat) (hn : n.toInt = N) (hcap : N ≤ cap) (hb : cap * 8 ≤ 536870912) (pc' : Nat) (hd : decode c.code pc = .ok (.newarray .int, 2)) (hcl : cells + 1 ≤ R.cells) (hsl : slots + cap ≤ R.slots) (hp : pc + 2 = pc') (k : ∀ T' h' b, b = h.size → Stand p l e R s m args below meth c T' locs (cells + 1) (slots + cap) → T'.heap = h' → Ext h h' → AI Z h' b N (fun _ => (0 : Int32)) → Exa Z h' b "[I" → Go p e below s Q rc rs (T'.setTop (mkF m pc' Ls (.ref b :: st)))) : Go p e below s Q rc rs (T.setTop (mkF m pc Ls (.int n :: st))) := by
  subst hp
  obtain ⟨q1, q2⟩ := own_idx hn
  obtain ⟨T', h', kA, X', e', E', A', Ex, stp⟩ := newPE X hx hZ (aty := .int) w eT (g := mkF m pc Ls (.int n :: st)) rfl hd rfl q1 (cap := cap) (by rw [q2]; exact hcap) hb hcl hsl (ad := "[I") (by decide)
  have hN : N < 2 ^ 31 := by have := n.toInt_lt; omega
  refine (k _ _ _ rfl X' e' E' ⟨_, A', by rw [sz_new, q2], hN, fun j hj => ?_⟩ Ex).by stp
  show _ = some (defaultValue (newarray.typeOf .int))
  simp [newA, q2, hj]
theorem g_cloneI (X : Stand p l e R s m args below meth c T locs cells slots) (hx : p.tables.exec = Jvm.exec) (hZ : Z.Warmed39 s.vm) {own : String} {i : Nat} (hown : s.vm.findClass own = some m.cls) (w1 : (Jvm.Cond.methodLink own i ⟨"[I", "clone", "()Ljava/lang/Object;"⟩).before a0 Z = true) (w2 : (Jvm.Cond.sameMethod "[I" "java/lang/Object" "clone" "()Ljava/lang/Object;").before a0 Z = true) (w3 : (Jvm.Cond.native ⟨"java/lang/Object", "clone", "()Ljava/lang/Object;"⟩).before a0 Z = true) (w4 : (Jvm.Cond.instanceMethod ⟨"java/lang/Object", "clone", "()Ljava/lang/Object;"⟩).before a0 Z = true) (w5 : (Jvm.Cond.selects "[I" ⟨"[I", "clone", "()Ljava/lang/Object;"⟩ ⟨"java/lang/Object", "clone", "()Ljava/lang/Object;"⟩).before a0 Z = true) (w6 : (Jvm.Cond.castable "[I" "java/lang/Cloneable").before a0 Z = true) (eT : T.heap = h) {b : Addr} {n : Nat} {g : Nat → Int32} (A : AI Z h b n g) (E : Exa Z h b "[I") (cap : Nat) (hcap : n ≤ cap) (pc' : Nat) (hsz : Ls.size = c.maxLocals) (hd : decode c.code pc = .ok (.invokevirtual i, 3)) (hf : 1 ≤ R.frames) (W : Nat) (hW : (st.map fun v => v.category).sum ≤ W) (hlo : W + 14 ≤ R.locals) (hcl : cells + 1 ≤ R.cells) (hsl : slots + cap ≤ R.slots) (hp : pc + 3 = pc') (k : ∀ T' h' b', b' = h.size → Stand p l e R s m args below meth c T' locs (cells + 1) (slots + cap) → T'.heap = h' → Ext h h' → AI Z h' b' n g → Exa Z h' b' "[I" → Go p e below s Q rc rs (T'.setTop (mkF m pc' Ls (.ref b' :: st)))) : Go p e below s Q rc rs (T.setTop (mkF m pc Ls (.ref b :: st))) := by
  subst hp
  obtain ⟨cl, A1, A2, A3, A4⟩ := A
  have F : FitC Z cl := fun j v hv => by
    have hj : j < n := by rw [← A2]; exact (Array.getElem?_eq_some_iff.mp hv).1
    rw [A4 j hj] at hv; cases hv
    obtain ⟨-, k2, hk2, comp, hkind⟩ := A1.2.1
    simp [State.fitsSlot, State.slotType?, hk2, hkind, fits]
  obtain ⟨T', h', X', e', E', A', Ex, stp⟩ := cloneA X hx hZ hown w1 w2 w3 w4 w5 w6 eT A1 E F (g := mkF m pc Ls (.ref b :: st)) rfl hsz rfl hd hf (W := W) (cap := cap) (by show 2 * 0 + _ ≤ _; omega) hlo (by omega) hcl hsl
  exact (k _ _ _ rfl X' e' E' ⟨_, A', A2, A3, A4⟩ Ex).by stp
theorem g_castA (X : Stand p l e R s m args below meth c T locs cells slots) (hx : p.tables.exec = Jvm.exec) (hZ : Z.Warmed39 s.vm) {own K C : String} {i : Nat} (hown : s.vm.findClass own = some m.cls) (w : (Jvm.Cond.classLink own i K).before a0 Z = true) (wc : (Jvm.Cond.castable C K).before a0 Z = true) (eT : T.heap = h) {b : Addr} (E : Exa Z h b C) (pc' : Nat) (hd : decode c.code pc = .ok (.checkcast i, 3)) (hp : pc + 3 = pc') (k : ∀ T', Stand p l e R s m args below meth c T' locs cells slots → T'.heap = h → Go p e below s Q rc rs (T'.setTop (mkF m pc' Ls (.ref b :: st)))) : Go p e below s Q rc rs (T.setTop (mkF m pc Ls (.ref b :: st))) := by
  subst hp
  obtain ⟨T', X', e', stp⟩ := castY X hx hZ hown w eT (Ins.of_exa E wc) (g := mkF m pc Ls (.ref b :: st)) rfl rfl hd
  exact (k _ X' e').by stp
theorem AI.arv {a : Addr} {n : Nat} {g : Nat → Int32} (A : AI Z h a n g) : ∃ k, Arv Z h a k .int (Int32.ofNat n) ((List.range n).map fun j => .int (g j)) (.int 0) ∧ ¬ (Int32.ofNat n) < 0 ∧ (Int32.ofNat n).toNatClampNeg = n := by
  obtain ⟨cl, A1, A2, A3, A4⟩ := A
  have q := own_idx (Int32.toInt_ofNat_of_lt A3)
  refine ⟨cl.cls, ⟨cl, A1, rfl, by rw [A2, q.2], q.1, fun j hj => ?_, fun j hj => ?_⟩, q⟩
  · rw [A4 j (by omega)]; simp [List.getD_eq_getElem?_getD, show j < n by omega]
  · simp [List.getD_eq_getElem?_getD, show j < n by omega, fits]
theorem g_copyI (X : Stand p l e R s m args below meth c T locs cells slots) (hx : p.tables.exec = Jvm.exec) (hZ : Z.Warmed39 s.vm) {own : String} {i : Nat} (hown : s.vm.findClass own = some m.cls) (w1 : (Jvm.Cond.methodLink own i Jvm.Stand.acN).before a0 Z = true) (w2 : (Jvm.Cond.native Jvm.Stand.acN).before a0 Z = true) (w3 : (Jvm.Cond.static Jvm.Stand.acN).before a0 Z = true) (w4 : (Jvm.Cond.initialized "java/lang/System").before a0 Z = true) (eT : T.heap = h) {a b : Addr} {n n' : Nat} {g g' : Nat → Int32} (A : AI Z h a n g) (B : AI Z h b n' g') {nn : Int32} (cnt : Nat) (hn : nn.toInt = cnt) (h4 : cnt ≤ n) (h5 : cnt ≤ n') {n0 : Nat} (N : Fr n0 locs) (ge : n0 ≤ b) (pc' : Nat) (hsz : Ls.size = c.maxLocals) (hd : decode c.code pc = .ok (.invokestatic i, 3)) (hf : 1 ≤ R.frames) (W : Nat) (hW : (st.map fun v => v.category).sum ≤ W) (hlo : W + (nativeFrameWords "java/lang/System" "arraycopy" 5 + 11) ≤ R.locals) (hp : pc + 3 = pc') (k : ∀ T' h' L, Stand p l e R s m args below meth c T' L cells slots → T'.heap = h' → Fr n0 L → Keep h h' [b] → AI Z h' b n' (fun j => if j < cnt then g j else g' j) → Go p e below s Q rc rs (T'.setTop (mkF m pc' Ls st))) : Go p e below s Q rc rs (T.setTop (mkF m pc Ls (.int nn :: .int 0 :: .ref b :: .int 0 :: .ref a :: st))) := by
  subst hp
  obtain ⟨kA, A1, p1, p2⟩ := A.arv
  obtain ⟨kB, B1, p3, p4⟩ := B.arv
  obtain ⟨q1, q2⟩ := own_idx hn
  have hB := B.small
  obtain ⟨T', h', L, X', e', N', K', B', stp⟩ := cpA X hx hZ hown w1 w2 w3 w4 eT A1 B1 (Or.inl ⟨rfl, rfl⟩) (sp := 0) (dp := 0) (nn := nn) (by decide) (by decide) q1 (by rw [p2, q2]; show 0 + _ ≤ _; omega) (by rw [p4, q2]; show 0 + _ ≤ _; omega) rfl (by rw [q2]; show 0 + _ ≤ _; simp; omega) N ge (g := mkF m pc Ls (.int nn :: .int 0 :: .ref b :: .int 0 :: .ref a :: st)) rfl hsz rfl hd hf (W := W) (by show 2 * 0 + _ ≤ _; omega) hlo
  refine (k _ _ _ X' e' N' K' ?_).by stp
  obtain ⟨cl, C1, -, C2, -, C3, -⟩ := B'
  rw [p4] at C2
  refine ⟨cl, C1, C2, hB, fun j hj => ?_⟩
  rw [C3 j (by omega), q2]
  have z0 : (0 : Int32).toNatClampNeg = 0 := rfl
  rw [z0]
  by_cases hc : j < cnt
  · simp [List.getD_eq_getElem?_getD, List.getElem?_append, hc, show j < n by omega]
  · simp [List.getD_eq_getElem?_getD, List.getElem?_append, hc, show j < n' by omega, show cnt + (j - cnt) = j by omega]
end OwnCopy
/-- what read() gives: k bytes more behind the one at i -/
def own_rd (g : Nat → Int32) : Nat → Nat → Int32 → Int32 → Int32
  | 0, i, acc, sh => acc ||| shlI (g i &&& 127) sh
  | k + 1, i, acc, sh => own_rd g k (i + 1) (acc ||| shlI (g i &&& 127) sh) (sh + 7)
theorem own_ofNat {x : Int32} {n : Nat} (h : x.toInt = n) : x = Int32.ofNat n := by
  apply Int32.toInt_inj.mp
  rw [h, Int32.toInt_ofNat_of_lt (by have := x.toInt_lt; omega)]
theorem own_add {x y : Int32} {i j : Nat} (h : x.toInt = i) (hy : y.toInt = j) (hb : i + j < 2 ^ 31) : (x + y).toInt = ((i + j : Nat) : Int) := by
  rw [Int32.toInt_add, h, hy]
  exact Int.bmod_eq_of_le (by omega) (by omega)
theorem d2_0 : decode method_2_code 0 = .ok (.lload_n 0, 1) := by decide +kernel
theorem d2_1 : decode method_2_code 1 = .ok (.bipush 7, 2) := by decide +kernel
theorem d2_3 : decode method_2_code 3 = .ok (.iload_n 2, 1) := by decide +kernel
theorem d2_4 : decode method_2_code 4 = .ok (.imul, 1) := by decide +kernel
theorem d2_5 : decode method_2_code 5 = .ok (.lushr, 1) := by decide +kernel
theorem d2_6 : decode method_2_code 6 = .ok (.ldc2_w 7, 3) := by decide +kernel
theorem d2_9 : decode method_2_code 9 = .ok (.land, 1) := by decide +kernel
theorem d2_10 : decode method_2_code 10 = .ok (.l2i, 1) := by decide +kernel
theorem d2_11 : decode method_2_code 11 = .ok (.istore_n 3, 1) := by decide +kernel
theorem d2_12 : decode method_2_code 12 = .ok (.iload_n 3, 1) := by decide +kernel
theorem d2_13 : decode method_2_code 13 = .ok (.ifCond .ne 7, 3) := by decide +kernel
theorem d2_16 : decode method_2_code 16 = .ok (.iconst 1, 1) := by decide +kernel
theorem d2_17 : decode method_2_code 17 = .ok (.goto 4, 3) := by decide +kernel
theorem d2_20 : decode method_2_code 20 = .ok (.iload_n 3, 1) := by decide +kernel
theorem d2_21 : decode method_2_code 21 = .ok (.ireturn, 1) := by decide +kernel
theorem pn_2 : plainName "com/example/terms_in_context/termsincontext/index/PostingsPositionsPinLaw" = true := by first | (simp [plainName, overriddenIn]; done) | decide +kernel
theorem ef_2 (m : MethodId) (x0 : Int64) (x1 : Int32) : entryFrame m #[(.long x0), (.int x1)] 4 = mkF m 0 #[.val (.long x0), .second, .val (.int x1), .unset] [] := by first | (simp [entryFrame, mkF, argsToLocals, Value.category]; done) | rfl
def f2 (x0 : Int64) (x1 : Int32) : Int32 := if (((ushrJ x0 ((7 : Int32) * x1)) &&& (127 : Int64)).toInt32) = (0 : Int32) then (1 : Int32) else (((ushrJ x0 ((7 : Int32) * x1)) &&& (127 : Int64)).toInt32)
def Q2 (x0 : Int64) (x1 : Int32) (h0 : Heap) (v : Option Value) (h : Heap) (L : List Loc) : Prop := v = some (.int (f2 x0 x1)) ∧ L = [] ∧ h = h0
set_option maxRecDepth 65536 in
set_option maxHeartbeats 40000000 in
theorem rm2 (l : Launch) (Z : State) (a0 : Array Value) (hw : ∀ d ∈ tables_1, d.before a0 Z = true) (ws : List Jvm.Cond) (x0 : Int64) (x1 : Int32) (h0 : Heap) :
    MetFree l (⟨"com/example/terms_in_context/termsincontext/index/PostingsPositionsPinLaw", "delta", "(JI)I"⟩ : MethodName) (head1 (Jvm.Cond.code (⟨"com/example/terms_in_context/termsincontext/index/PostingsPositionsPinLaw", "delta", "(JI)I"⟩ : MethodName) method_2_code 4 (some .int) :: ws) ({ frames := 0, cells := 0, slots := 0, locals := 0 } : Room)) (fun a U => a = #[(.long x0), (.int x1)] ∧ Z.Warmed39 U.vm ∧ U.heap = h0) (fun _ _ _ _ _ => True) (fun _ U o U' => ∃ v L, o = .returned v ∧ Q2 x0 x1 h0 v U'.heap L ∧ FrameEnd U o U' L ({ frames := 0, cells := 0, slots := 0, locals := 0 } : Room).cells ({ frames := 0, cells := 0, slots := 0, locals := 0 } : Room).slots) := by
  refine g_body (plainFor_of_name pn_2) ?_
  intro p e s m below meth c T0 X0 hx hby hml hret hlk hown hnm hZ e0
  rw [ef_2]
  show Go p e below s _ _ _ (T0.setTop (mkF m 0 #[.val (.long x0), .second, .val (.int x1), .unset] []))
  refine g_lloadN X0 hx 1 (hb hby d2_0) rfl rfl ?_
  show Go p e below s _ _ _ (T0.setTop (mkF m 1 #[.val (.long x0), .second, .val (.int x1), .unset] [(.long x0)]))
  refine g_bipush X0 hx (7 : Int32) 3 (hb hby d2_1) rfl rfl ?_
  show Go p e below s _ _ _ (T0.setTop (mkF m 3 #[.val (.long x0), .second, .val (.int x1), .unset] [(.int (7 : Int32)), (.long x0)]))
  refine g_iloadN X0 hx 4 (hb hby d2_3) rfl rfl ?_
  show Go p e below s _ _ _ (T0.setTop (mkF m 4 #[.val (.long x0), .second, .val (.int x1), .unset] [(.int x1), (.int (7 : Int32)), (.long x0)]))
  refine g_imul X0 hx 5 (hb hby d2_4) rfl ?_
  show Go p e below s _ _ _ (T0.setTop (mkF m 5 #[.val (.long x0), .second, .val (.int x1), .unset] [(.int ((7 : Int32) * x1)), (.long x0)]))
  refine g_lushr X0 hx 6 (hb hby d2_5) rfl ?_
  show Go p e below s _ _ _ (T0.setTop (mkF m 6 #[.val (.long x0), .second, .val (.int x1), .unset] [(.long (ushrJ x0 ((7 : Int32) * x1)))]))
  refine g_ldc2_w X0 hx hZ hown (hw _ (List.mem_of_getElem? (i := 9) rfl)) 9 (hb hby d2_6) rfl ?_
  show Go p e below s _ _ _ (T0.setTop (mkF m 9 #[.val (.long x0), .second, .val (.int x1), .unset] [(.long (127 : Int64)), (.long (ushrJ x0 ((7 : Int32) * x1)))]))
  refine g_land X0 hx 10 (hb hby d2_9) rfl ?_
  show Go p e below s _ _ _ (T0.setTop (mkF m 10 #[.val (.long x0), .second, .val (.int x1), .unset] [(.long ((ushrJ x0 ((7 : Int32) * x1)) &&& (127 : Int64)))]))
  refine g_l2i X0 hx 11 (hb hby d2_10) rfl ?_
  show Go p e below s _ _ _ (T0.setTop (mkF m 11 #[.val (.long x0), .second, .val (.int x1), .unset] [(.int (((ushrJ x0 ((7 : Int32) * x1)) &&& (127 : Int64)).toInt32))]))
  refine g_istoreN X0 hx #[.val (.long x0), .second, .val (.int x1), .val (.int (((ushrJ x0 ((7 : Int32) * x1)) &&& (127 : Int64)).toInt32))] 12 (hb hby d2_11) rfl rfl ?_
  show Go p e below s _ _ _ (T0.setTop (mkF m 12 #[.val (.long x0), .second, .val (.int x1), .val (.int (((ushrJ x0 ((7 : Int32) * x1)) &&& (127 : Int64)).toInt32))] []))
  refine g_iloadN X0 hx 13 (hb hby d2_12) rfl rfl ?_
  show Go p e below s _ _ _ (T0.setTop (mkF m 13 #[.val (.long x0), .second, .val (.int x1), .val (.int (((ushrJ x0 ((7 : Int32) * x1)) &&& (127 : Int64)).toInt32))] [(.int (((ushrJ x0 ((7 : Int32) * x1)) &&& (127 : Int64)).toInt32))]))
  refine g_if0_ne X0 hx 20 16 (hb hby d2_13) (by decide) rfl rfl (fun h1 => ?_) (fun h1 => ?_)
  · show Go p e below s _ _ _ (T0.setTop (mkF m 16 #[.val (.long x0), .second, .val (.int x1), .val (.int (((ushrJ x0 ((7 : Int32) * x1)) &&& (127 : Int64)).toInt32))] []))
    refine g_iconst X0 hx (1 : Int32) 17 (hb hby d2_16) rfl rfl ?_
    show Go p e below s _ _ _ (T0.setTop (mkF m 17 #[.val (.long x0), .second, .val (.int x1), .val (.int (((ushrJ x0 ((7 : Int32) * x1)) &&& (127 : Int64)).toInt32))] [(.int (1 : Int32))]))
    refine g_goto X0 hx 21 (hb hby d2_17) (by decide) rfl ?_
    show Go p e below s _ _ _ (T0.setTop (mkF m 21 #[.val (.long x0), .second, .val (.int x1), .val (.int (((ushrJ x0 ((7 : Int32) * x1)) &&& (127 : Int64)).toInt32))] [(.int (1 : Int32))]))
    exact g_retI X0 hx hret hlk (hb hby d2_21) (by decide) (by decide) ⟨congrArg (fun z => some (Value.int z)) (show (1 : Int32) = (f2 x0 x1) from by rw [f2, if_pos h1]), rfl, e0⟩
  · show Go p e below s _ _ _ (T0.setTop (mkF m 20 #[.val (.long x0), .second, .val (.int x1), .val (.int (((ushrJ x0 ((7 : Int32) * x1)) &&& (127 : Int64)).toInt32))] []))
    refine g_iloadN X0 hx 21 (hb hby d2_20) rfl rfl ?_
    show Go p e below s _ _ _ (T0.setTop (mkF m 21 #[.val (.long x0), .second, .val (.int x1), .val (.int (((ushrJ x0 ((7 : Int32) * x1)) &&& (127 : Int64)).toInt32))] [(.int (((ushrJ x0 ((7 : Int32) * x1)) &&& (127 : Int64)).toInt32))]))
    exact g_retI X0 hx hret hlk (hb hby d2_21) (by decide) (by decide) ⟨congrArg (fun z => some (Value.int z)) (show (((ushrJ x0 ((7 : Int32) * x1)) &&& (127 : Int64)).toInt32) = (f2 x0 x1) from by rw [f2, if_neg h1]), rfl, e0⟩
theorem d8_0 : decode jdk_29_method_69_code 0 = .ok (.iload_n 0, 1) := by decide +kernel
theorem d8_1 : decode jdk_29_method_69_code 1 = .ok (.iload_n 1, 1) := by decide +kernel
theorem d8_2 : decode jdk_29_method_69_code 2 = .ok (.if_icmp .gt 7, 3) := by decide +kernel
theorem d8_5 : decode jdk_29_method_69_code 5 = .ok (.iload_n 0, 1) := by decide +kernel
theorem d8_6 : decode jdk_29_method_69_code 6 = .ok (.goto 4, 3) := by decide +kernel
theorem d8_9 : decode jdk_29_method_69_code 9 = .ok (.iload_n 1, 1) := by decide +kernel
theorem d8_10 : decode jdk_29_method_69_code 10 = .ok (.ireturn, 1) := by decide +kernel
theorem ef_8 (m : MethodId) (x0 : Int32) (x1 : Int32) : entryFrame m #[(.int x0), (.int x1)] 2 = mkF m 0 #[.val (.int x0), .val (.int x1)] [] := by first | (simp [entryFrame, mkF, argsToLocals, Value.category]; done) | rfl
def f8 (x0 : Int32) (x1 : Int32) : Int32 := if x1 < x0 then x1 else x0
def Q8 (x0 : Int32) (x1 : Int32) (h0 : Heap) (v : Option Value) (h : Heap) (L : List Loc) : Prop := v = some (.int (f8 x0 x1)) ∧ L = [] ∧ h = h0
set_option maxRecDepth 65536 in
set_option maxHeartbeats 40000000 in
theorem rm8 (l : Launch) (Z : State) (a0 : Array Value) (hw : ∀ d ∈ tables_1, d.before a0 Z = true) (ws : List Jvm.Cond) (x0 : Int32) (x1 : Int32) (h0 : Heap) :
    MetFree l (⟨"java/lang/Math", "min", "(II)I"⟩ : MethodName) (head1 (Jvm.Cond.code (⟨"java/lang/Math", "min", "(II)I"⟩ : MethodName) jdk_29_method_69_code 2 (some .int) :: ws) ({ frames := 0, cells := 0, slots := 0, locals := 0 } : Room)) (fun a U => a = #[(.int x0), (.int x1)] ∧ Z.Warmed39 U.vm ∧ U.heap = h0) (fun _ _ _ _ _ => True) (fun _ U o U' => ∃ v L, o = .returned v ∧ Q8 x0 x1 h0 v U'.heap L ∧ FrameEnd U o U' L ({ frames := 0, cells := 0, slots := 0, locals := 0 } : Room).cells ({ frames := 0, cells := 0, slots := 0, locals := 0 } : Room).slots) := by
  refine g_body (Jvm.Free.JP.mathPlain rfl (by decide +kernel)) ?_
  intro p e s m below meth c T0 X0 hx hby hml hret hlk hown hnm hZ e0
  rw [ef_8]
  show Go p e below s _ _ _ (T0.setTop (mkF m 0 #[.val (.int x0), .val (.int x1)] []))
  refine g_iloadN X0 hx 1 (hb hby d8_0) rfl rfl ?_
  show Go p e below s _ _ _ (T0.setTop (mkF m 1 #[.val (.int x0), .val (.int x1)] [(.int x0)]))
  refine g_iloadN X0 hx 2 (hb hby d8_1) rfl rfl ?_
  show Go p e below s _ _ _ (T0.setTop (mkF m 2 #[.val (.int x0), .val (.int x1)] [(.int x1), (.int x0)]))
  refine g_icmp_gt X0 hx 9 5 (hb hby d8_2) (by decide) rfl rfl (fun h1 => ?_) (fun h1 => ?_)
  · show Go p e below s _ _ _ (T0.setTop (mkF m 9 #[.val (.int x0), .val (.int x1)] []))
    refine g_iloadN X0 hx 10 (hb hby d8_9) rfl rfl ?_
    show Go p e below s _ _ _ (T0.setTop (mkF m 10 #[.val (.int x0), .val (.int x1)] [(.int x1)]))
    exact g_retI X0 hx hret hlk (hb hby d8_10) (by decide) (by decide) ⟨congrArg (fun z => some (Value.int z)) (show x1 = (f8 x0 x1) from by rw [f8, if_pos h1]), rfl, e0⟩
  · show Go p e below s _ _ _ (T0.setTop (mkF m 5 #[.val (.int x0), .val (.int x1)] []))
    refine g_iloadN X0 hx 6 (hb hby d8_5) rfl rfl ?_
    show Go p e below s _ _ _ (T0.setTop (mkF m 6 #[.val (.int x0), .val (.int x1)] [(.int x0)]))
    refine g_goto X0 hx 10 (hb hby d8_6) (by decide) rfl ?_
    show Go p e below s _ _ _ (T0.setTop (mkF m 10 #[.val (.int x0), .val (.int x1)] [(.int x0)]))
    exact g_retI X0 hx hret hlk (hb hby d8_10) (by decide) (by decide) ⟨congrArg (fun z => some (Value.int z)) (show x0 = (f8 x0 x1) from by rw [f8, if_neg h1]), rfl, e0⟩
theorem d13_0 : decode jdk_29_method_65_code 0 = .ok (.iload_n 0, 1) := by decide +kernel
theorem d13_1 : decode jdk_29_method_65_code 1 = .ok (.iload_n 1, 1) := by decide +kernel
theorem d13_2 : decode jdk_29_method_65_code 2 = .ok (.if_icmp .lt 7, 3) := by decide +kernel
theorem d13_5 : decode jdk_29_method_65_code 5 = .ok (.iload_n 0, 1) := by decide +kernel
theorem d13_6 : decode jdk_29_method_65_code 6 = .ok (.goto 4, 3) := by decide +kernel
theorem d13_9 : decode jdk_29_method_65_code 9 = .ok (.iload_n 1, 1) := by decide +kernel
theorem d13_10 : decode jdk_29_method_65_code 10 = .ok (.ireturn, 1) := by decide +kernel
theorem ef_13 (m : MethodId) (x0 : Int32) (x1 : Int32) : entryFrame m #[(.int x0), (.int x1)] 2 = mkF m 0 #[.val (.int x0), .val (.int x1)] [] := by first | (simp [entryFrame, mkF, argsToLocals, Value.category]; done) | rfl
def f13 (x0 : Int32) (x1 : Int32) : Int32 := if x0 < x1 then x1 else x0
def Q13 (x0 : Int32) (x1 : Int32) (h0 : Heap) (v : Option Value) (h : Heap) (L : List Loc) : Prop := v = some (.int (f13 x0 x1)) ∧ L = [] ∧ h = h0
set_option maxRecDepth 65536 in
set_option maxHeartbeats 40000000 in
theorem rm13 (l : Launch) (Z : State) (a0 : Array Value) (hw : ∀ d ∈ tables_1, d.before a0 Z = true) (ws : List Jvm.Cond) (x0 : Int32) (x1 : Int32) (h0 : Heap) :
    MetFree l (⟨"java/lang/Math", "max", "(II)I"⟩ : MethodName) (head1 (Jvm.Cond.code (⟨"java/lang/Math", "max", "(II)I"⟩ : MethodName) jdk_29_method_65_code 2 (some .int) :: ws) ({ frames := 0, cells := 0, slots := 0, locals := 0 } : Room)) (fun a U => a = #[(.int x0), (.int x1)] ∧ Z.Warmed39 U.vm ∧ U.heap = h0) (fun _ _ _ _ _ => True) (fun _ U o U' => ∃ v L, o = .returned v ∧ Q13 x0 x1 h0 v U'.heap L ∧ FrameEnd U o U' L ({ frames := 0, cells := 0, slots := 0, locals := 0 } : Room).cells ({ frames := 0, cells := 0, slots := 0, locals := 0 } : Room).slots) := by
  refine g_body (Jvm.Free.JP.mathPlain rfl (by decide +kernel)) ?_
  intro p e s m below meth c T0 X0 hx hby hml hret hlk hown hnm hZ e0
  rw [ef_13]
  show Go p e below s _ _ _ (T0.setTop (mkF m 0 #[.val (.int x0), .val (.int x1)] []))
  refine g_iloadN X0 hx 1 (hb hby d13_0) rfl rfl ?_
  show Go p e below s _ _ _ (T0.setTop (mkF m 1 #[.val (.int x0), .val (.int x1)] [(.int x0)]))
  refine g_iloadN X0 hx 2 (hb hby d13_1) rfl rfl ?_
  show Go p e below s _ _ _ (T0.setTop (mkF m 2 #[.val (.int x0), .val (.int x1)] [(.int x1), (.int x0)]))
  refine g_icmp_lt X0 hx 9 5 (hb hby d13_2) (by decide) rfl rfl (fun h1 => ?_) (fun h1 => ?_)
  · show Go p e below s _ _ _ (T0.setTop (mkF m 9 #[.val (.int x0), .val (.int x1)] []))
    refine g_iloadN X0 hx 10 (hb hby d13_9) rfl rfl ?_
    show Go p e below s _ _ _ (T0.setTop (mkF m 10 #[.val (.int x0), .val (.int x1)] [(.int x1)]))
    exact g_retI X0 hx hret hlk (hb hby d13_10) (by decide) (by decide) ⟨congrArg (fun z => some (Value.int z)) (show x1 = (f13 x0 x1) from by rw [f13, if_pos h1]), rfl, e0⟩
  · show Go p e below s _ _ _ (T0.setTop (mkF m 5 #[.val (.int x0), .val (.int x1)] []))
    refine g_iloadN X0 hx 6 (hb hby d13_5) rfl rfl ?_
    show Go p e below s _ _ _ (T0.setTop (mkF m 6 #[.val (.int x0), .val (.int x1)] [(.int x0)]))
    refine g_goto X0 hx 10 (hb hby d13_6) (by decide) rfl ?_
    show Go p e below s _ _ _ (T0.setTop (mkF m 10 #[.val (.int x0), .val (.int x1)] [(.int x0)]))
    exact g_retI X0 hx hret hlk (hb hby d13_10) (by decide) (by decide) ⟨congrArg (fun z => some (Value.int z)) (show x0 = (f13 x0 x1) from by rw [f13, if_neg h1]), rfl, e0⟩
theorem d5_0 : decode prog_30_method_1_code 0 = .ok (.aload_n 0, 1) := by decide +kernel
theorem d5_1 : decode prog_30_method_1_code 1 = .ok (.invokespecial 1, 3) := by decide +kernel
theorem d5_4 : decode prog_30_method_1_code 4 = .ok (.aload_n 0, 1) := by decide +kernel
theorem d5_5 : decode prog_30_method_1_code 5 = .ok (.aload_n 1, 1) := by decide +kernel
theorem d5_6 : decode prog_30_method_1_code 6 = .ok (.putfield 7, 3) := by decide +kernel
theorem d5_9 : decode prog_30_method_1_code 9 = .ok (.aload_n 0, 1) := by decide +kernel
theorem d5_10 : decode prog_30_method_1_code 10 = .ok (.iload_n 2, 1) := by decide +kernel
theorem d5_11 : decode prog_30_method_1_code 11 = .ok (.putfield 13, 3) := by decide +kernel
theorem d5_14 : decode prog_30_method_1_code 14 = .ok (.return_, 1) := by decide +kernel
theorem pn_5 : plainName "com/example/terms_in_context/termsincontext/index/VarIntInput" = true := by first | (simp [plainName, overriddenIn]; done) | decide +kernel
theorem ef_5 (m : MethodId) (x0 : Addr) (x1 : Addr) (x2 : Int32) : entryFrame m #[(.ref x0), (.ref x1), (.int x2)] 3 = mkF m 0 #[.val (.ref x0), .val (.ref x1), .val (.int x2)] [] := by first | (simp [entryFrame, mkF, argsToLocals, Value.category]; done) | rfl
def Q5 (Z : State) (x0 : Addr) (x1 : Addr) (x2 : Int32) (h0 : Heap) (n0 : Nat) (v : Option Value) (h : Heap) (L : List Loc) : Prop := v = none ∧ Fr n0 L ∧ Keep h0 h [x0] ∧ Fld Z h x0 "com/example/terms_in_context/termsincontext/index/VarIntInput" "bytes" "[B" (.ref x1) ∧ Fld Z h x0 "com/example/terms_in_context/termsincontext/index/VarIntInput" "length" "I" (.int x2) ∧ Fld Z h x0 "com/example/terms_in_context/termsincontext/index/VarIntInput" "offset" "I" (.int (0 : Int32))
set_option maxRecDepth 65536 in
set_option maxHeartbeats 40000000 in
theorem rm5 (l : Launch) (Z : State) (a0 : Array Value) (hw : ∀ d ∈ tables_1, d.before a0 Z = true) (ws : List Jvm.Cond) (x0 : Addr) (x1 : Addr) (x2 : Int32) (h0 : Heap) (n0 : Nat) (Z0 : n0 ≤ h0.size) (P0 : Exa Z h0 x0 "com/example/terms_in_context/termsincontext/index/VarIntInput") (P1 : Fld Z h0 x0 "com/example/terms_in_context/termsincontext/index/VarIntInput" "bytes" "[B" .null) (P2 : Fld Z h0 x0 "com/example/terms_in_context/termsincontext/index/VarIntInput" "length" "I" (.int (0 : Int32))) (P3 : Fld Z h0 x0 "com/example/terms_in_context/termsincontext/index/VarIntInput" "offset" "I" (.int (0 : Int32))) (P4 : n0 ≤ x0) :
    MetFree l (⟨"com/example/terms_in_context/termsincontext/index/VarIntInput", "<init>", "([BI)V"⟩ : MethodName) (head1 (Jvm.Cond.code (⟨"com/example/terms_in_context/termsincontext/index/VarIntInput", "<init>", "([BI)V"⟩ : MethodName) prog_30_method_1_code 3 none :: ws) ({ frames := 1, cells := 0, slots := 0, locals := 12 } : Room)) (fun a U => a = #[(.ref x0), (.ref x1), (.int x2)] ∧ Z.Warmed39 U.vm ∧ U.heap = h0) (fun _ _ _ _ _ => True) (fun _ U o U' => ∃ v L, o = .returned v ∧ Q5 Z x0 x1 x2 h0 n0 v U'.heap L ∧ FrameEnd U o U' L ({ frames := 1, cells := 0, slots := 0, locals := 12 } : Room).cells ({ frames := 1, cells := 0, slots := 0, locals := 12 } : Room).slots) := by
  refine g_body (plainFor_of_name pn_5) ?_
  intro p e s m below meth c T0 X0 hx hby hml hret hlk hown hnm hZ e0
  rw [ef_5]
  have N0 := Fr.nil n0
  show Go p e below s _ _ _ (T0.setTop (mkF m 0 #[.val (.ref x0), .val (.ref x1), .val (.int x2)] []))
  refine g_aloadN X0 hx 1 (hb hby d5_0) rfl rfl rfl ?_
  show Go p e below s _ _ _ (T0.setTop (mkF m 1 #[.val (.ref x0), .val (.ref x1), .val (.int x2)] [(.ref x0)]))
  refine g_initO X0 hx hZ hown (hw _ (List.mem_of_getElem? (i := 30) rfl)) (hw _ (List.mem_of_getElem? (i := 17) rfl)) (hw _ (List.mem_of_getElem? (i := 18) rfl)) e0 4 (by rw [hml]; rfl) (hb hby d5_1) (by decide) 0 (Nat.le_of_eq rfl) (by decide) rfl ?_
  intro T1 X1 e1
  show Go p e below s _ _ _ (T1.setTop (mkF m 4 #[.val (.ref x0), .val (.ref x1), .val (.int x2)] []))
  refine g_aloadN X1 hx 5 (hb hby d5_4) rfl rfl rfl ?_
  show Go p e below s _ _ _ (T1.setTop (mkF m 5 #[.val (.ref x0), .val (.ref x1), .val (.int x2)] [(.ref x0)]))
  refine g_aloadN X1 hx 6 (hb hby d5_5) rfl rfl rfl ?_
  show Go p e below s _ _ _ (T1.setTop (mkF m 6 #[.val (.ref x0), .val (.ref x1), .val (.int x2)] [(.ref x1), (.ref x0)]))
  refine g_putF X1 hx hZ hown (hw _ (List.mem_of_getElem? (i := 31) rfl)) Via.refl e1 P1 P0 (Or.inr ⟨(hw _ (List.mem_of_getElem? (i := 32) rfl)), rfl, hnm⟩) (hw _ (List.mem_of_getElem? (i := 25) rfl)) (ty := (.array .byte)) (by decide) rfl rfl 9 (hb hby d5_6) rfl ?_
  intro T2 h2 X2 e2 W2
  have K2 := (Keep.refl h0 [x0]).wr W2 (Or.inl (List.mem_of_getElem? (i := 0) rfl))
  have N2 := Fr.snoc X2 N0 P4
  have k2_0 := P0.wr W2
  have k2_2 := P2.other W2 (Or.inr (slot_ne (Or.inr (hw _ (List.mem_of_getElem? (i := 34) rfl))) (Or.inr (hw _ (List.mem_of_getElem? (i := 32) rfl))) (by decide) (t := .int) (t' := (.array .byte)) (by decide) (by decide)))
  have k2_3 := P3.other W2 (Or.inr (slot_ne (Or.inl (hw _ (List.mem_of_getElem? (i := 70) rfl))) (Or.inr (hw _ (List.mem_of_getElem? (i := 32) rfl))) (by decide) (t := .int) (t' := (.array .byte)) (by decide) (by decide)))
  have Z2 : n0 ≤ h2.size := by rw [W2.size]; exact Z0
  have F2 := P1.same W2
  show Go p e below s _ _ _ (T2.setTop (mkF m 9 #[.val (.ref x0), .val (.ref x1), .val (.int x2)] []))
  refine g_aloadN X2 hx 10 (hb hby d5_9) rfl rfl rfl ?_
  show Go p e below s _ _ _ (T2.setTop (mkF m 10 #[.val (.ref x0), .val (.ref x1), .val (.int x2)] [(.ref x0)]))
  refine g_iloadN X2 hx 11 (hb hby d5_10) rfl rfl ?_
  show Go p e below s _ _ _ (T2.setTop (mkF m 11 #[.val (.ref x0), .val (.ref x1), .val (.int x2)] [(.int x2), (.ref x0)]))
  refine g_putF X2 hx hZ hown (hw _ (List.mem_of_getElem? (i := 33) rfl)) Via.refl e2 k2_2 k2_0 (Or.inr ⟨(hw _ (List.mem_of_getElem? (i := 34) rfl)), rfl, hnm⟩) (hw _ (List.mem_of_getElem? (i := 25) rfl)) (ty := .int) (by decide) rfl rfl 14 (hb hby d5_11) rfl ?_
  intro T3 h3 X3 e3 W3
  have K3 := K2.wr W3 (Or.inl (List.mem_of_getElem? (i := 0) rfl))
  have N3 := Fr.snoc X3 N2 P4
  have k3_0 := k2_0.wr W3
  have k3_2 := k2_3.other W3 (Or.inr (slot_ne (Or.inl (hw _ (List.mem_of_getElem? (i := 70) rfl))) (Or.inr (hw _ (List.mem_of_getElem? (i := 34) rfl))) (by decide) (t := .int) (t' := .int) (by decide) (by decide)))
  have k3_4 := F2.other W3 (Or.inr (slot_ne (Or.inr (hw _ (List.mem_of_getElem? (i := 32) rfl))) (Or.inr (hw _ (List.mem_of_getElem? (i := 34) rfl))) (by decide) (t := (.array .byte)) (t' := .int) (by decide) (by decide)))
  have Z3 : n0 ≤ h3.size := by rw [W3.size]; exact Z2
  have F3 := k2_2.same W3
  show Go p e below s _ _ _ (T3.setTop (mkF m 14 #[.val (.ref x0), .val (.ref x1), .val (.int x2)] []))
  exact g_retV X3 hx hret hlk (hb hby d5_14) (by decide) (by decide) (by rw [e3]; exact ⟨rfl, N3, K3, k3_4, F3, k3_2⟩)
theorem d11_0 : decode prog_30_method_2_code 0 = .ok (.aload_n 0, 1) := by decide +kernel
theorem d11_1 : decode prog_30_method_2_code 1 = .ok (.getfield 17, 3) := by decide +kernel
theorem d11_4 : decode prog_30_method_2_code 4 = .ok (.aload_n 0, 1) := by decide +kernel
theorem d11_5 : decode prog_30_method_2_code 5 = .ok (.getfield 13, 3) := by decide +kernel
theorem d11_8 : decode prog_30_method_2_code 8 = .ok (.if_icmp .ge 7, 3) := by decide +kernel
theorem d11_11 : decode prog_30_method_2_code 11 = .ok (.iconst 1, 1) := by decide +kernel
theorem d11_12 : decode prog_30_method_2_code 12 = .ok (.goto 4, 3) := by decide +kernel
theorem d11_15 : decode prog_30_method_2_code 15 = .ok (.iconst 0, 1) := by decide +kernel
theorem d11_16 : decode prog_30_method_2_code 16 = .ok (.ireturn, 1) := by decide +kernel
theorem ef_11 (m : MethodId) (x0 : Addr) : entryFrame m #[(.ref x0)] 1 = mkF m 0 #[.val (.ref x0)] [] := by first | (simp [entryFrame, mkF, argsToLocals, Value.category]; done) | rfl
def f11 (ln : Int32) (of : Int32) : Int32 := if of < ln then (1 : Int32) else (0 : Int32)
def Q11 (Z : State) (x0 : Addr) (ln : Int32) (of : Int32) (h0 : Heap) (v : Option Value) (h : Heap) (L : List Loc) : Prop := v = some (.int (f11 ln of)) ∧ L = [] ∧ h = h0
set_option maxRecDepth 65536 in
set_option maxHeartbeats 40000000 in
theorem rm11 (l : Launch) (Z : State) (a0 : Array Value) (hw : ∀ d ∈ tables_1, d.before a0 Z = true) (ws : List Jvm.Cond) (x0 : Addr) (ln : Int32) (of : Int32) (h0 : Heap) (P0 : Fld Z h0 x0 "com/example/terms_in_context/termsincontext/index/VarIntInput" "length" "I" (.int ln)) (P1 : Fld Z h0 x0 "com/example/terms_in_context/termsincontext/index/VarIntInput" "offset" "I" (.int of)) :
    MetFree l (⟨"com/example/terms_in_context/termsincontext/index/VarIntInput", "hasMore", "()Z"⟩ : MethodName) (head1 (Jvm.Cond.code (⟨"com/example/terms_in_context/termsincontext/index/VarIntInput", "hasMore", "()Z"⟩ : MethodName) prog_30_method_2_code 1 (some .boolean) :: ws) ({ frames := 0, cells := 0, slots := 0, locals := 0 } : Room)) (fun a U => a = #[(.ref x0)] ∧ Z.Warmed39 U.vm ∧ U.heap = h0) (fun _ _ _ _ _ => True) (fun _ U o U' => ∃ v L, o = .returned v ∧ Q11 Z x0 ln of h0 v U'.heap L ∧ FrameEnd U o U' L ({ frames := 0, cells := 0, slots := 0, locals := 0 } : Room).cells ({ frames := 0, cells := 0, slots := 0, locals := 0 } : Room).slots) := by
  refine g_body (plainFor_of_name pn_5) ?_
  intro p e s m below meth c T0 X0 hx hby hml hret hlk hown hnm hZ e0
  rw [ef_11]
  show Go p e below s _ _ _ (T0.setTop (mkF m 0 #[.val (.ref x0)] []))
  refine g_aloadN X0 hx 1 (hb hby d11_0) rfl rfl rfl ?_
  show Go p e below s _ _ _ (T0.setTop (mkF m 1 #[.val (.ref x0)] [(.ref x0)]))
  refine g_getF X0 hx hZ hown (hw _ (List.mem_of_getElem? (i := 69) rfl)) Via.refl e0 P1 4 (hb hby d11_1) rfl ?_
  intro T1 X1 e1
  show Go p e below s _ _ _ (T1.setTop (mkF m 4 #[.val (.ref x0)] [(.int of)]))
  refine g_aloadN X1 hx 5 (hb hby d11_4) rfl rfl rfl ?_
  show Go p e below s _ _ _ (T1.setTop (mkF m 5 #[.val (.ref x0)] [(.ref x0), (.int of)]))
  refine g_getF X1 hx hZ hown (hw _ (List.mem_of_getElem? (i := 33) rfl)) Via.refl e1 P0 8 (hb hby d11_5) rfl ?_
  intro T2 X2 e2
  show Go p e below s _ _ _ (T2.setTop (mkF m 8 #[.val (.ref x0)] [(.int ln), (.int of)]))
  refine g_icmp_ge X2 hx 15 11 (hb hby d11_8) (by decide) rfl rfl (fun h3 => ?_) (fun h3 => ?_)
  · show Go p e below s _ _ _ (T2.setTop (mkF m 11 #[.val (.ref x0)] []))
    refine g_iconst X2 hx (1 : Int32) 12 (hb hby d11_11) rfl rfl ?_
    show Go p e below s _ _ _ (T2.setTop (mkF m 12 #[.val (.ref x0)] [(.int (1 : Int32))]))
    refine g_goto X2 hx 16 (hb hby d11_12) (by decide) rfl ?_
    show Go p e below s _ _ _ (T2.setTop (mkF m 16 #[.val (.ref x0)] [(.int (1 : Int32))]))
    exact g_retN X2 hx hret (by simp) hlk (hb hby d11_16) (by decide) (by decide) ⟨congrArg (fun z => some (Value.int z)) (show (1 : Int32) = (f11 ln of) from by rw [f11, if_pos h3]), rfl, e2⟩
  · show Go p e below s _ _ _ (T2.setTop (mkF m 15 #[.val (.ref x0)] []))
    refine g_iconst X2 hx (0 : Int32) 16 (hb hby d11_15) rfl rfl ?_
    show Go p e below s _ _ _ (T2.setTop (mkF m 16 #[.val (.ref x0)] [(.int (0 : Int32))]))
    exact g_retN X2 hx hret (by simp) hlk (hb hby d11_16) (by decide) (by decide) ⟨congrArg (fun z => some (Value.int z)) (show (0 : Int32) = (f11 ln of) from by rw [f11, if_neg h3]), rfl, e2⟩
def Q12 (Z : State) (x0 : Addr) (a1 : Addr) (ln : Int32) (of0 : Int32) (n : Nat) (g : Nat → Int32) (on0 : Nat) (k0 : Nat) (h0 : Heap) (n0 : Nat) (v : Option Value) (h : Heap) (L : List Loc) : Prop := v = some (.int (own_rd g k0 on0 0 0)) ∧ Fr n0 L ∧ Keep h0 h [x0] ∧ Fld Z h x0 "com/example/terms_in_context/termsincontext/index/VarIntInput" "bytes" "[B" (.ref a1) ∧ Fld Z h x0 "com/example/terms_in_context/termsincontext/index/VarIntInput" "length" "I" (.int ln) ∧ Fld Z h x0 "com/example/terms_in_context/termsincontext/index/VarIntInput" "offset" "I" (.int (Int32.ofNat (on0 + k0 + 1)))
theorem d12_4 : decode prog_30_method_3_code 4 = .ok (.aload_n 0, 1) := by decide +kernel
theorem d12_5 : decode prog_30_method_3_code 5 = .ok (.getfield 7, 3) := by decide +kernel
theorem d12_8 : decode prog_30_method_3_code 8 = .ok (.aload_n 0, 1) := by decide +kernel
theorem d12_9 : decode prog_30_method_3_code 9 = .ok (.dup, 1) := by decide +kernel
theorem d12_10 : decode prog_30_method_3_code 10 = .ok (.getfield 17, 3) := by decide +kernel
theorem d12_13 : decode prog_30_method_3_code 13 = .ok (.dup_x1, 1) := by decide +kernel
theorem d12_14 : decode prog_30_method_3_code 14 = .ok (.iconst 1, 1) := by decide +kernel
theorem d12_15 : decode prog_30_method_3_code 15 = .ok (.iadd, 1) := by decide +kernel
theorem d12_16 : decode prog_30_method_3_code 16 = .ok (.putfield 17, 3) := by decide +kernel
theorem d12_19 : decode prog_30_method_3_code 19 = .ok (.baload, 1) := by decide +kernel
theorem d12_20 : decode prog_30_method_3_code 20 = .ok (.istore_n 3, 1) := by decide +kernel
theorem d12_21 : decode prog_30_method_3_code 21 = .ok (.iload_n 1, 1) := by decide +kernel
theorem d12_22 : decode prog_30_method_3_code 22 = .ok (.iload_n 3, 1) := by decide +kernel
theorem d12_23 : decode prog_30_method_3_code 23 = .ok (.bipush 127, 2) := by decide +kernel
theorem d12_25 : decode prog_30_method_3_code 25 = .ok (.iand, 1) := by decide +kernel
theorem d12_26 : decode prog_30_method_3_code 26 = .ok (.iload_n 2, 1) := by decide +kernel
theorem d12_27 : decode prog_30_method_3_code 27 = .ok (.ishl, 1) := by decide +kernel
theorem d12_28 : decode prog_30_method_3_code 28 = .ok (.ior, 1) := by decide +kernel
theorem d12_29 : decode prog_30_method_3_code 29 = .ok (.istore_n 1, 1) := by decide +kernel
theorem d12_30 : decode prog_30_method_3_code 30 = .ok (.iinc 2 7, 3) := by decide +kernel
theorem d12_33 : decode prog_30_method_3_code 33 = .ok (.iload_n 3, 1) := by decide +kernel
theorem d12_34 : decode prog_30_method_3_code 34 = .ok (.ifCond .lt (-30), 3) := by decide +kernel
theorem d12_37 : decode prog_30_method_3_code 37 = .ok (.iload_n 1, 1) := by decide +kernel
theorem d12_38 : decode prog_30_method_3_code 38 = .ok (.ireturn, 1) := by decide +kernel
set_option maxRecDepth 65536 in
set_option maxHeartbeats 40000000 in
theorem sg12 (l : Launch) (Z : State) (a0 : Array Value) (hw : ∀ d ∈ tables_1, d.before a0 Z = true) {p : Program} {e : Env} {s : State} {m : MethodId} {args : Array Value} {below : List Frame} {meth : Method} {c : Code} (hx : p.tables.exec = Jvm.exec) (hby : c.code = prog_30_method_3_code) (hml : c.maxLocals = 4) (hret : meth.sig.returnType = some .int) (hlk : meth.locks = false) (hown : s.vm.findClass "com/example/terms_in_context/termsincontext/index/VarIntInput" = some m.cls) (hnm : meth.name = "read") (hZ : Z.Warmed39 s.vm) (x0 : Addr) (a1 : Addr) (ln : Int32) (of0 : Int32) (n : Nat) (g : Nat → Int32) (on0 : Nat) (k0 : Nat) (h0 : Heap) (n0 : Nat) (ho0 : of0.toInt = on0) (hk0 : on0 + k0 < n) (hn0 : ∀ j, j < k0 → g (on0 + j) < 0) (hp0 : ¬ g (on0 + k0) < 0) : ∀ (k : Nat) (of : Int32) (on : Nat) (acc : Int32) (sh : Int32) (s3 : Slot) (T0 : State) (locs : List Loc) (hS : Heap), Stand p l e ({ frames := 0, cells := 0, slots := 0, locals := 0 } : Room) s m args below meth c T0 locs 0 0 → T0.heap = hS → n0 ≤ hS.size → Fr n0 locs → Keep h0 hS [x0] → Exa Z hS x0 "com/example/terms_in_context/termsincontext/index/VarIntInput" → Fld Z hS x0 "com/example/terms_in_context/termsincontext/index/VarIntInput" "bytes" "[B" (.ref a1) → Fld Z hS x0 "com/example/terms_in_context/termsincontext/index/VarIntInput" "length" "I" (.int ln) → Fld Z hS x0 "com/example/terms_in_context/termsincontext/index/VarIntInput" "offset" "I" (.int of) → AB Z hS a1 n g → n0 ≤ x0 → x0 ≠ a1 → (of.toInt = on) → (on + k = on0 + k0) → (∀ j, j < k → g (on + j) < 0) → (¬ g (on + k) < 0) → (own_rd g k on acc sh = own_rd g k0 on0 0 0) → (One s3) → Go p e below s (Q12 Z x0 a1 ln of0 n g on0 k0 h0 n0) ({ frames := 0, cells := 0, slots := 0, locals := 0 } : Room).cells ({ frames := 0, cells := 0, slots := 0, locals := 0 } : Room).slots (T0.setTop (mkF m 4 #[.val (.ref x0), .val (.int acc), .val (.int sh), s3] [])) := by
  intro k
  induction k with
  | zero =>
    intro of on acc sh s3 T0 locs hS X0 e0 Z0 N0 K0 P0 P1 P2 P3 P4 P5 P6 ho he hn hp hv hs3
    refine g_aloadN X0 hx 5 (hb hby d12_4) rfl rfl rfl ?_
    show Go p e below s _ _ _ (T0.setTop (mkF m 5 #[.val (.ref x0), .val (.int acc), .val (.int sh), s3] [(.ref x0)]))
    refine g_getF X0 hx hZ hown (hw _ (List.mem_of_getElem? (i := 31) rfl)) Via.refl e0 P1 8 (hb hby d12_5) rfl ?_
    intro T1 X1 e1
    show Go p e below s _ _ _ (T1.setTop (mkF m 8 #[.val (.ref x0), .val (.int acc), .val (.int sh), s3] [(.ref a1)]))
    refine g_aloadN X1 hx 9 (hb hby d12_8) rfl rfl rfl ?_
    show Go p e below s _ _ _ (T1.setTop (mkF m 9 #[.val (.ref x0), .val (.int acc), .val (.int sh), s3] [(.ref x0), (.ref a1)]))
    refine g_dup X1 hx 10 (hb hby d12_9) rfl rfl ?_
    show Go p e below s _ _ _ (T1.setTop (mkF m 10 #[.val (.ref x0), .val (.int acc), .val (.int sh), s3] [(.ref x0), (.ref x0), (.ref a1)]))
    refine g_getF X1 hx hZ hown (hw _ (List.mem_of_getElem? (i := 69) rfl)) Via.refl e1 P3 13 (hb hby d12_10) rfl ?_
    intro T2 X2 e2
    show Go p e below s _ _ _ (T2.setTop (mkF m 13 #[.val (.ref x0), .val (.int acc), .val (.int sh), s3] [(.int of), (.ref x0), (.ref a1)]))
    refine g_dup_x1 X2 hx 14 (hb hby d12_13) rfl rfl rfl ?_
    show Go p e below s _ _ _ (T2.setTop (mkF m 14 #[.val (.ref x0), .val (.int acc), .val (.int sh), s3] [(.int of), (.ref x0), (.int of), (.ref a1)]))
    refine g_iconst X2 hx (1 : Int32) 15 (hb hby d12_14) rfl rfl ?_
    show Go p e below s _ _ _ (T2.setTop (mkF m 15 #[.val (.ref x0), .val (.int acc), .val (.int sh), s3] [(.int (1 : Int32)), (.int of), (.ref x0), (.int of), (.ref a1)]))
    refine g_iadd X2 hx 16 (hb hby d12_15) rfl ?_
    show Go p e below s _ _ _ (T2.setTop (mkF m 16 #[.val (.ref x0), .val (.int acc), .val (.int sh), s3] [(.int (of + (1 : Int32))), (.ref x0), (.int of), (.ref a1)]))
    refine g_putF X2 hx hZ hown (hw _ (List.mem_of_getElem? (i := 69) rfl)) Via.refl e2 P3 P0 (Or.inl (hw _ (List.mem_of_getElem? (i := 70) rfl))) (hw _ (List.mem_of_getElem? (i := 25) rfl)) (ty := .int) (by decide) rfl rfl 19 (hb hby d12_16) rfl ?_
    intro T3 h3 X3 e3 W3
    have K3 := K0.wr W3 (Or.inl (List.mem_of_getElem? (i := 0) rfl))
    have N3 := Fr.snoc X3 N0 P5
    have k3_0 := P0.wr W3
    have k3_1 := P1.other W3 (Or.inr (slot_ne (Or.inr (hw _ (List.mem_of_getElem? (i := 32) rfl))) (Or.inl (hw _ (List.mem_of_getElem? (i := 70) rfl))) (by decide) (t := (.array .byte)) (t' := .int) (by decide) (by decide)))
    have k3_2 := P2.other W3 (Or.inr (slot_ne (Or.inr (hw _ (List.mem_of_getElem? (i := 34) rfl))) (Or.inl (hw _ (List.mem_of_getElem? (i := 70) rfl))) (by decide) (t := .int) (t' := .int) (by decide) (by decide)))
    have k3_4 := P4.other W3 (Ne.symm P6)
    have Z3 : n0 ≤ h3.size := by rw [W3.size]; exact Z0
    have F3 := P3.same W3
    show Go p e below s _ _ _ (T3.setTop (mkF m 19 #[.val (.ref x0), .val (.int acc), .val (.int sh), s3] [(.int of), (.ref a1)]))
    refine g_baload X3 hx hZ e3 k3_4 on ho (by omega) 20 (hb hby d12_19) rfl ?_
    show Go p e below s _ _ _ (T3.setTop (mkF m 20 #[.val (.ref x0), .val (.int acc), .val (.int sh), s3] [(.int (g on))]))
    refine g_istoreNS X3 hx #[.val (.ref x0), .val (.int acc), .val (.int sh), .val (.int (g on))] 21 (hb hby d12_20) rfl hs3 rfl rfl ?_
    show Go p e below s _ _ _ (T3.setTop (mkF m 21 #[.val (.ref x0), .val (.int acc), .val (.int sh), .val (.int (g on))] []))
    refine g_iloadN X3 hx 22 (hb hby d12_21) rfl rfl ?_
    show Go p e below s _ _ _ (T3.setTop (mkF m 22 #[.val (.ref x0), .val (.int acc), .val (.int sh), .val (.int (g on))] [(.int acc)]))
    refine g_iloadN X3 hx 23 (hb hby d12_22) rfl rfl ?_
    show Go p e below s _ _ _ (T3.setTop (mkF m 23 #[.val (.ref x0), .val (.int acc), .val (.int sh), .val (.int (g on))] [(.int (g on)), (.int acc)]))
    refine g_bipush X3 hx (127 : Int32) 25 (hb hby d12_23) rfl rfl ?_
    show Go p e below s _ _ _ (T3.setTop (mkF m 25 #[.val (.ref x0), .val (.int acc), .val (.int sh), .val (.int (g on))] [(.int (127 : Int32)), (.int (g on)), (.int acc)]))
    refine g_iand X3 hx 26 (hb hby d12_25) rfl ?_
    show Go p e below s _ _ _ (T3.setTop (mkF m 26 #[.val (.ref x0), .val (.int acc), .val (.int sh), .val (.int (g on))] [(.int ((g on) &&& (127 : Int32))), (.int acc)]))
    refine g_iloadN X3 hx 27 (hb hby d12_26) rfl rfl ?_
    show Go p e below s _ _ _ (T3.setTop (mkF m 27 #[.val (.ref x0), .val (.int acc), .val (.int sh), .val (.int (g on))] [(.int sh), (.int ((g on) &&& (127 : Int32))), (.int acc)]))
    refine g_ishl X3 hx 28 (hb hby d12_27) rfl ?_
    show Go p e below s _ _ _ (T3.setTop (mkF m 28 #[.val (.ref x0), .val (.int acc), .val (.int sh), .val (.int (g on))] [(.int (shlI ((g on) &&& (127 : Int32)) sh)), (.int acc)]))
    refine g_ior X3 hx 29 (hb hby d12_28) rfl ?_
    show Go p e below s _ _ _ (T3.setTop (mkF m 29 #[.val (.ref x0), .val (.int acc), .val (.int sh), .val (.int (g on))] [(.int (acc ||| (shlI ((g on) &&& (127 : Int32)) sh)))]))
    refine g_istoreN X3 hx #[.val (.ref x0), .val (.int (acc ||| (shlI ((g on) &&& (127 : Int32)) sh))), .val (.int sh), .val (.int (g on))] 30 (hb hby d12_29) rfl rfl ?_
    show Go p e below s _ _ _ (T3.setTop (mkF m 30 #[.val (.ref x0), .val (.int (acc ||| (shlI ((g on) &&& (127 : Int32)) sh))), .val (.int sh), .val (.int (g on))] []))
    refine g_iinc X3 hx (7 : Int32) #[.val (.ref x0), .val (.int (acc ||| (shlI ((g on) &&& (127 : Int32)) sh))), .val (.int (sh + (7 : Int32))), .val (.int (g on))] 33 (hb hby d12_30) rfl rfl rfl rfl ?_
    show Go p e below s _ _ _ (T3.setTop (mkF m 33 #[.val (.ref x0), .val (.int (acc ||| (shlI ((g on) &&& (127 : Int32)) sh))), .val (.int (sh + (7 : Int32))), .val (.int (g on))] []))
    refine g_iloadN X3 hx 34 (hb hby d12_33) rfl rfl ?_
    show Go p e below s _ _ _ (T3.setTop (mkF m 34 #[.val (.ref x0), .val (.int (acc ||| (shlI ((g on) &&& (127 : Int32)) sh))), .val (.int (sh + (7 : Int32))), .val (.int (g on))] [(.int (g on))]))
    have h5 : ¬ ((g on) < (0 : Int32)) := by simpa using hp
    refine g_if0_lt X3 hx 4 37 (hb hby d12_34) (by decide) rfl rfl (fun q => absurd q h5) (fun _ => ?_)
    show Go p e below s _ _ _ (T3.setTop (mkF m 37 #[.val (.ref x0), .val (.int (acc ||| (shlI ((g on) &&& (127 : Int32)) sh))), .val (.int (sh + (7 : Int32))), .val (.int (g on))] []))
    refine g_iloadN X3 hx 38 (hb hby d12_37) rfl rfl ?_
    show Go p e below s _ _ _ (T3.setTop (mkF m 38 #[.val (.ref x0), .val (.int (acc ||| (shlI ((g on) &&& (127 : Int32)) sh))), .val (.int (sh + (7 : Int32))), .val (.int (g on))] [(.int (acc ||| (shlI ((g on) &&& (127 : Int32)) sh)))]))
    exact g_retI X3 hx hret hlk (hb hby d12_38) (by decide) (by decide) (by rw [e3]; exact ⟨congrArg (fun z => some (Value.int z)) hv, N3, K3, k3_1, k3_2, (by rw [show Int32.ofNat (on0 + k0 + 1) = of + (1 : Int32) from (own_ofNat (by rw [own_add ho (j := 1) rfl (by have := P4.small; omega)]; omega)).symm]; exact F3)⟩)
  | succ k ih =>
    intro of on acc sh s3 T0 locs hS X0 e0 Z0 N0 K0 P0 P1 P2 P3 P4 P5 P6 ho he hn hp hv hs3
    refine g_aloadN X0 hx 5 (hb hby d12_4) rfl rfl rfl ?_
    show Go p e below s _ _ _ (T0.setTop (mkF m 5 #[.val (.ref x0), .val (.int acc), .val (.int sh), s3] [(.ref x0)]))
    refine g_getF X0 hx hZ hown (hw _ (List.mem_of_getElem? (i := 31) rfl)) Via.refl e0 P1 8 (hb hby d12_5) rfl ?_
    intro T6 X6 e6
    show Go p e below s _ _ _ (T6.setTop (mkF m 8 #[.val (.ref x0), .val (.int acc), .val (.int sh), s3] [(.ref a1)]))
    refine g_aloadN X6 hx 9 (hb hby d12_8) rfl rfl rfl ?_
    show Go p e below s _ _ _ (T6.setTop (mkF m 9 #[.val (.ref x0), .val (.int acc), .val (.int sh), s3] [(.ref x0), (.ref a1)]))
    refine g_dup X6 hx 10 (hb hby d12_9) rfl rfl ?_
    show Go p e below s _ _ _ (T6.setTop (mkF m 10 #[.val (.ref x0), .val (.int acc), .val (.int sh), s3] [(.ref x0), (.ref x0), (.ref a1)]))
    refine g_getF X6 hx hZ hown (hw _ (List.mem_of_getElem? (i := 69) rfl)) Via.refl e6 P3 13 (hb hby d12_10) rfl ?_
    intro T7 X7 e7
    show Go p e below s _ _ _ (T7.setTop (mkF m 13 #[.val (.ref x0), .val (.int acc), .val (.int sh), s3] [(.int of), (.ref x0), (.ref a1)]))
    refine g_dup_x1 X7 hx 14 (hb hby d12_13) rfl rfl rfl ?_
    show Go p e below s _ _ _ (T7.setTop (mkF m 14 #[.val (.ref x0), .val (.int acc), .val (.int sh), s3] [(.int of), (.ref x0), (.int of), (.ref a1)]))
    refine g_iconst X7 hx (1 : Int32) 15 (hb hby d12_14) rfl rfl ?_
    show Go p e below s _ _ _ (T7.setTop (mkF m 15 #[.val (.ref x0), .val (.int acc), .val (.int sh), s3] [(.int (1 : Int32)), (.int of), (.ref x0), (.int of), (.ref a1)]))
    refine g_iadd X7 hx 16 (hb hby d12_15) rfl ?_
    show Go p e below s _ _ _ (T7.setTop (mkF m 16 #[.val (.ref x0), .val (.int acc), .val (.int sh), s3] [(.int (of + (1 : Int32))), (.ref x0), (.int of), (.ref a1)]))
    refine g_putF X7 hx hZ hown (hw _ (List.mem_of_getElem? (i := 69) rfl)) Via.refl e7 P3 P0 (Or.inl (hw _ (List.mem_of_getElem? (i := 70) rfl))) (hw _ (List.mem_of_getElem? (i := 25) rfl)) (ty := .int) (by decide) rfl rfl 19 (hb hby d12_16) rfl ?_
    intro T8 h8 X8 e8 W8
    have K8 := K0.wr W8 (Or.inl (List.mem_of_getElem? (i := 0) rfl))
    have N8 := Fr.snoc X8 N0 P5
    have k8_0 := P0.wr W8
    have k8_1 := P1.other W8 (Or.inr (slot_ne (Or.inr (hw _ (List.mem_of_getElem? (i := 32) rfl))) (Or.inl (hw _ (List.mem_of_getElem? (i := 70) rfl))) (by decide) (t := (.array .byte)) (t' := .int) (by decide) (by decide)))
    have k8_2 := P2.other W8 (Or.inr (slot_ne (Or.inr (hw _ (List.mem_of_getElem? (i := 34) rfl))) (Or.inl (hw _ (List.mem_of_getElem? (i := 70) rfl))) (by decide) (t := .int) (t' := .int) (by decide) (by decide)))
    have k8_4 := P4.other W8 (Ne.symm P6)
    have Z8 : n0 ≤ h8.size := by rw [W8.size]; exact Z0
    have F8 := P3.same W8
    show Go p e below s _ _ _ (T8.setTop (mkF m 19 #[.val (.ref x0), .val (.int acc), .val (.int sh), s3] [(.int of), (.ref a1)]))
    refine g_baload X8 hx hZ e8 k8_4 on ho (by omega) 20 (hb hby d12_19) rfl ?_
    show Go p e below s _ _ _ (T8.setTop (mkF m 20 #[.val (.ref x0), .val (.int acc), .val (.int sh), s3] [(.int (g on))]))
    refine g_istoreNS X8 hx #[.val (.ref x0), .val (.int acc), .val (.int sh), .val (.int (g on))] 21 (hb hby d12_20) rfl hs3 rfl rfl ?_
    show Go p e below s _ _ _ (T8.setTop (mkF m 21 #[.val (.ref x0), .val (.int acc), .val (.int sh), .val (.int (g on))] []))
    refine g_iloadN X8 hx 22 (hb hby d12_21) rfl rfl ?_
    show Go p e below s _ _ _ (T8.setTop (mkF m 22 #[.val (.ref x0), .val (.int acc), .val (.int sh), .val (.int (g on))] [(.int acc)]))
    refine g_iloadN X8 hx 23 (hb hby d12_22) rfl rfl ?_
    show Go p e below s _ _ _ (T8.setTop (mkF m 23 #[.val (.ref x0), .val (.int acc), .val (.int sh), .val (.int (g on))] [(.int (g on)), (.int acc)]))
    refine g_bipush X8 hx (127 : Int32) 25 (hb hby d12_23) rfl rfl ?_
    show Go p e below s _ _ _ (T8.setTop (mkF m 25 #[.val (.ref x0), .val (.int acc), .val (.int sh), .val (.int (g on))] [(.int (127 : Int32)), (.int (g on)), (.int acc)]))
    refine g_iand X8 hx 26 (hb hby d12_25) rfl ?_
    show Go p e below s _ _ _ (T8.setTop (mkF m 26 #[.val (.ref x0), .val (.int acc), .val (.int sh), .val (.int (g on))] [(.int ((g on) &&& (127 : Int32))), (.int acc)]))
    refine g_iloadN X8 hx 27 (hb hby d12_26) rfl rfl ?_
    show Go p e below s _ _ _ (T8.setTop (mkF m 27 #[.val (.ref x0), .val (.int acc), .val (.int sh), .val (.int (g on))] [(.int sh), (.int ((g on) &&& (127 : Int32))), (.int acc)]))
    refine g_ishl X8 hx 28 (hb hby d12_27) rfl ?_
    show Go p e below s _ _ _ (T8.setTop (mkF m 28 #[.val (.ref x0), .val (.int acc), .val (.int sh), .val (.int (g on))] [(.int (shlI ((g on) &&& (127 : Int32)) sh)), (.int acc)]))
    refine g_ior X8 hx 29 (hb hby d12_28) rfl ?_
    show Go p e below s _ _ _ (T8.setTop (mkF m 29 #[.val (.ref x0), .val (.int acc), .val (.int sh), .val (.int (g on))] [(.int (acc ||| (shlI ((g on) &&& (127 : Int32)) sh)))]))
    refine g_istoreN X8 hx #[.val (.ref x0), .val (.int (acc ||| (shlI ((g on) &&& (127 : Int32)) sh))), .val (.int sh), .val (.int (g on))] 30 (hb hby d12_29) rfl rfl ?_
    show Go p e below s _ _ _ (T8.setTop (mkF m 30 #[.val (.ref x0), .val (.int (acc ||| (shlI ((g on) &&& (127 : Int32)) sh))), .val (.int sh), .val (.int (g on))] []))
    refine g_iinc X8 hx (7 : Int32) #[.val (.ref x0), .val (.int (acc ||| (shlI ((g on) &&& (127 : Int32)) sh))), .val (.int (sh + (7 : Int32))), .val (.int (g on))] 33 (hb hby d12_30) rfl rfl rfl rfl ?_
    show Go p e below s _ _ _ (T8.setTop (mkF m 33 #[.val (.ref x0), .val (.int (acc ||| (shlI ((g on) &&& (127 : Int32)) sh))), .val (.int (sh + (7 : Int32))), .val (.int (g on))] []))
    refine g_iloadN X8 hx 34 (hb hby d12_33) rfl rfl ?_
    show Go p e below s _ _ _ (T8.setTop (mkF m 34 #[.val (.ref x0), .val (.int (acc ||| (shlI ((g on) &&& (127 : Int32)) sh))), .val (.int (sh + (7 : Int32))), .val (.int (g on))] [(.int (g on))]))
    have h10 : (g on) < (0 : Int32) := by simpa using hn 0 (by omega)
    refine g_if0_lt X8 hx 4 37 (hb hby d12_34) (by decide) rfl rfl (fun _ => ?_) (fun q => absurd h10 q)
    show Go p e below s _ _ _ (T8.setTop (mkF m 4 #[.val (.ref x0), .val (.int (acc ||| (shlI ((g on) &&& (127 : Int32)) sh))), .val (.int (sh + (7 : Int32))), .val (.int (g on))] []))
    exact ih (of + (1 : Int32)) (on + 1) (acc ||| (shlI ((g on) &&& (127 : Int32)) sh)) (sh + (7 : Int32)) (.val (.int (g on))) _ _ _ X8 e8 Z8 N8 K8 k8_0 k8_1 k8_2 F8 k8_4 P5 P6 (own_add ho rfl (by have := P4.small; omega)) (by omega) (fun j hj => by have := hn (j + 1) (by omega); rwa [show on + (j + 1) = on + 1 + j from by omega] at this) (by rwa [show on + (k + 1) = on + 1 + k from by omega] at hp) hv (One.val rfl)
theorem d12_0 : decode prog_30_method_3_code 0 = .ok (.iconst 0, 1) := by decide +kernel
theorem d12_1 : decode prog_30_method_3_code 1 = .ok (.istore_n 1, 1) := by decide +kernel
theorem d12_2 : decode prog_30_method_3_code 2 = .ok (.iconst 0, 1) := by decide +kernel
theorem d12_3 : decode prog_30_method_3_code 3 = .ok (.istore_n 2, 1) := by decide +kernel
theorem ef_12 (m : MethodId) (x0 : Addr) : entryFrame m #[(.ref x0)] 4 = mkF m 0 #[.val (.ref x0), .unset, .unset, .unset] [] := by first | (simp [entryFrame, mkF, argsToLocals, Value.category]; done) | rfl
set_option maxRecDepth 65536 in
set_option maxHeartbeats 40000000 in
theorem rm12 (l : Launch) (Z : State) (a0 : Array Value) (hw : ∀ d ∈ tables_1, d.before a0 Z = true) (ws : List Jvm.Cond) (x0 : Addr) (a1 : Addr) (ln : Int32) (of0 : Int32) (n : Nat) (g : Nat → Int32) (on0 : Nat) (k0 : Nat) (h0 : Heap) (n0 : Nat) (Z0 : n0 ≤ h0.size) (P0 : Exa Z h0 x0 "com/example/terms_in_context/termsincontext/index/VarIntInput") (P1 : Fld Z h0 x0 "com/example/terms_in_context/termsincontext/index/VarIntInput" "bytes" "[B" (.ref a1)) (P2 : Fld Z h0 x0 "com/example/terms_in_context/termsincontext/index/VarIntInput" "length" "I" (.int ln)) (P3 : Fld Z h0 x0 "com/example/terms_in_context/termsincontext/index/VarIntInput" "offset" "I" (.int of0)) (P4 : AB Z h0 a1 n g) (P5 : n0 ≤ x0) (P6 : x0 ≠ a1) (ho0 : of0.toInt = on0) (hk0 : on0 + k0 < n) (hn0 : ∀ j, j < k0 → g (on0 + j) < 0) (hp0 : ¬ g (on0 + k0) < 0) :
    MetFree l (⟨"com/example/terms_in_context/termsincontext/index/VarIntInput", "read", "()I"⟩ : MethodName) (head1 (Jvm.Cond.code (⟨"com/example/terms_in_context/termsincontext/index/VarIntInput", "read", "()I"⟩ : MethodName) prog_30_method_3_code 4 (some .int) :: ws) ({ frames := 0, cells := 0, slots := 0, locals := 0 } : Room)) (fun a U => a = #[(.ref x0)] ∧ Z.Warmed39 U.vm ∧ U.heap = h0) (fun _ _ _ _ _ => True) (fun _ U o U' => ∃ v L, o = .returned v ∧ Q12 Z x0 a1 ln of0 n g on0 k0 h0 n0 v U'.heap L ∧ FrameEnd U o U' L ({ frames := 0, cells := 0, slots := 0, locals := 0 } : Room).cells ({ frames := 0, cells := 0, slots := 0, locals := 0 } : Room).slots) := by
  refine g_body (plainFor_of_name pn_5) ?_
  intro p e s m below meth c T0 X0 hx hby hml hret hlk hown hnm hZ e0
  rw [ef_12]
  have N0 := Fr.nil n0
  show Go p e below s _ _ _ (T0.setTop (mkF m 0 #[.val (.ref x0), .unset, .unset, .unset] []))
  refine g_iconst X0 hx (0 : Int32) 1 (hb hby d12_0) rfl rfl ?_
  show Go p e below s _ _ _ (T0.setTop (mkF m 1 #[.val (.ref x0), .unset, .unset, .unset] [(.int (0 : Int32))]))
  refine g_istoreN X0 hx #[.val (.ref x0), .val (.int (0 : Int32)), .unset, .unset] 2 (hb hby d12_1) rfl rfl ?_
  show Go p e below s _ _ _ (T0.setTop (mkF m 2 #[.val (.ref x0), .val (.int (0 : Int32)), .unset, .unset] []))
  refine g_iconst X0 hx (0 : Int32) 3 (hb hby d12_2) rfl rfl ?_
  show Go p e below s _ _ _ (T0.setTop (mkF m 3 #[.val (.ref x0), .val (.int (0 : Int32)), .unset, .unset] [(.int (0 : Int32))]))
  refine g_istoreN X0 hx #[.val (.ref x0), .val (.int (0 : Int32)), .val (.int (0 : Int32)), .unset] 4 (hb hby d12_3) rfl rfl ?_
  show Go p e below s _ _ _ (T0.setTop (mkF m 4 #[.val (.ref x0), .val (.int (0 : Int32)), .val (.int (0 : Int32)), .unset] []))
  exact sg12 l Z a0 hw hx hby hml hret hlk hown hnm hZ x0 a1 ln of0 n g on0 k0 h0 n0 ho0 hk0 hn0 hp0 k0 of0 on0 (0 : Int32) (0 : Int32) .unset _ _ _ X0 e0 Z0 N0 (Keep.refl h0 [x0]) P0 P1 P2 P3 P4 P5 P6 ho0 rfl hn0 hp0 rfl One.u
theorem own_n32 {n : Nat} (h : n < 2 ^ 31) : (n.toInt32).toInt = n := Int32.toInt_ofNat_of_lt h
theorem own_mn {x : Int32} {m n : Nat} (hm : x.toInt = m) (h : x = n.toInt32) (hn : n < 2 ^ 31) : m = n := by
  have := own_n32 hn; rw [h] at hm; omega
theorem own_min {x : Int32} {m n : Nat} (hm : x.toInt = m) (h : m ≤ n) (hn : n < 2 ^ 31) : (f8 n.toInt32 x).toInt = m := by
  have := own_n32 hn
  unfold f8; split
  · exact hm
  · rename_i q; rw [Int32.lt_iff_toInt_lt] at q; omega
theorem own_s1 {x : Int32} {i j : Nat} (h : x.toInt = i) (hj : j = i + 1) (hb : j < 1000) : (x + 1).toInt = j := by
  have e : (1 : Int32).toInt = 1 := rfl
  have a := c_iadd x 1; have r := rng32 (x + 1); omega
theorem own_f0 {x : Int32} {f : Nat} (h : x.toInt = f) (q : ¬ (0 : Int32) < x) : f = 0 := by
  rw [Int32.lt_iff_toInt_lt] at q; have e : (0 : Int32).toInt = 0 := rfl; omega
theorem own_fm {x a b : Int32} {f c : Nat} (h : x.toInt = f) (ha : a.toInt = c) (hb : b.toInt = ((c + 1 : Nat) : Int)) (p : a < x) (q : ¬ b < x) : f = c + 1 := by
  rw [Int32.lt_iff_toInt_lt] at p q; omega
theorem own_f9 {x : Int32} {f : Nat} (h : x.toInt = f) (hf : f ≤ 9) (p : (8 : Int32) < x) : f = 9 := by
  rw [Int32.lt_iff_toInt_lt] at p; have e : (8 : Int32).toInt = 8 := rfl; omega
theorem own_lt {x a : Int32} {f k : Nat} (h : x.toInt = f) (ha : a.toInt = k) (p : a < x) : k < f := by
  rw [Int32.lt_iff_toInt_lt] at p; omega
theorem own_len {x : Int32} {f : Nat} (h : x.toInt = f) : f.toInt32 = x := (own_ofNat h).symm
def own_wf (g : Nat → Int32) (kn : Nat) (a b : Int32) (s : Int64) : Nat → Nat → Int32
  | 0 => upd (upd g kn a) (kn + 1) b
  | c + 1 => upd (own_wf g kn a b s c) (kn + 2 + c) (i2bI (i2bI (f2 s (Int32.ofNat c))))
def own_p (s : Int64) : Nat → Int32
  | 0 => 0 + f2 s 0
  | i + 1 => own_p s i + f2 s (Int32.ofNat (i + 1))
def own_sm (g : Nat → Int32) (o : Nat) : Nat → Int32
  | 0 => 0
  | k + 1 => own_sm g o k + own_rd g 0 (o + k) 0 0
def own_ps (g : Nat → Int32) (o : Nat) (q : Nat → Int32) : Nat → Nat → Int32
  | 0 => q
  | k + 1 => upd (own_ps g o q k) k (own_sm g o (k + 1))
theorem own_toI {n : Nat} (h : n < 2 ^ 31) : (Int32.ofNat n).toInt = n := Int32.toInt_ofNat_of_lt h
theorem own_nlt {x y : Int32} {i f : Nat} (hx : x.toInt = i) (hy : y.toInt = f) (h : f ≤ i) : ¬ x < y := by rw [Int32.lt_iff_toInt_lt]; omega
theorem own_ilt {x y : Int32} {i f : Nat} (hx : x.toInt = i) (hy : y.toInt = f) (h : i < f) : x < y := by rw [Int32.lt_iff_toInt_lt]; omega
theorem own_nr {y : Int32} {n f : Nat} (hy : y.toInt = f) (h : f ≤ n) (hn : n ≤ 16) : ¬ n.toInt32 < y := by
  have := own_n32 (n := n) (by omega); rw [Int32.lt_iff_toInt_lt]; omega
theorem own_mx {y : Int32} {f : Nat} (hy : y.toInt = f) (h : f = 9) : (f13 y ((8 : Int32) * (2 : Int32))).toInt = ((16 : Nat) : Int) := by
  have e : ((8 : Int32) * (2 : Int32)).toInt = 16 := rfl
  unfold f13; split
  · exact e
  · rename_i q; rw [Int32.lt_iff_toInt_lt] at q; omega

theorem pd__28II_29I : parseMethodDescriptor "(II)I" = some ⟨[.int, .int], some .int⟩ := by decide +kernel
theorem d7_0 : decode jdk_65_method_123_code 0 = .ok (.iload_n 1, 1) := by decide +kernel
theorem d7_1 : decode jdk_65_method_123_code 1 = .ok (.aload_n 0, 1) := by decide +kernel
theorem d7_2 : decode jdk_65_method_123_code 2 = .ok (.arraylength, 1) := by decide +kernel
theorem d7_3 : decode jdk_65_method_123_code 3 = .ok (.if_icmp .ne 11, 3) := by decide +kernel
theorem d7_6 : decode jdk_65_method_123_code 6 = .ok (.aload_n 0, 1) := by decide +kernel
theorem d7_7 : decode jdk_65_method_123_code 7 = .ok (.invokevirtual 316, 3) := by decide +kernel
theorem d7_10 : decode jdk_65_method_123_code 10 = .ok (.checkcast 317, 3) := by decide +kernel
theorem d7_13 : decode jdk_65_method_123_code 13 = .ok (.areturn, 1) := by decide +kernel
theorem d7_14 : decode jdk_65_method_123_code 14 = .ok (.iload_n 1, 1) := by decide +kernel
theorem d7_15 : decode jdk_65_method_123_code 15 = .ok (.newarray .int, 2) := by decide +kernel
theorem d7_17 : decode jdk_65_method_123_code 17 = .ok (.astore_n 2, 1) := by decide +kernel
theorem d7_18 : decode jdk_65_method_123_code 18 = .ok (.aload_n 0, 1) := by decide +kernel
theorem d7_19 : decode jdk_65_method_123_code 19 = .ok (.iconst 0, 1) := by decide +kernel
theorem d7_20 : decode jdk_65_method_123_code 20 = .ok (.aload_n 2, 1) := by decide +kernel
theorem d7_21 : decode jdk_65_method_123_code 21 = .ok (.iconst 0, 1) := by decide +kernel
theorem d7_22 : decode jdk_65_method_123_code 22 = .ok (.aload_n 0, 1) := by decide +kernel
theorem d7_23 : decode jdk_65_method_123_code 23 = .ok (.arraylength, 1) := by decide +kernel
theorem d7_24 : decode jdk_65_method_123_code 24 = .ok (.iload_n 1, 1) := by decide +kernel
theorem d7_25 : decode jdk_65_method_123_code 25 = .ok (.invokestatic 304, 3) := by decide +kernel
theorem d7_28 : decode jdk_65_method_123_code 28 = .ok (.invokestatic 150, 3) := by decide +kernel
theorem d7_31 : decode jdk_65_method_123_code 31 = .ok (.aload_n 2, 1) := by decide +kernel
theorem d7_32 : decode jdk_65_method_123_code 32 = .ok (.areturn, 1) := by decide +kernel
theorem pn_7 : plainName "java/util/Arrays" = true := by first | (simp [plainName, overriddenIn]; done) | decide +kernel
theorem ef_7 (m : MethodId) (x0 : Addr) (x1 : Int32) : entryFrame m #[(.ref x0), (.int x1)] 3 = mkF m 0 #[.val (.ref x0), .val (.int x1), .unset] [] := by first | (simp [entryFrame, mkF, argsToLocals, Value.category]; done) | rfl
def Q7 (Z : State) (x0 : Addr) (x1 : Int32) (n : Nat) (g : Nat → Int32) (mn : Nat) (h0 : Heap) (n0 : Nat) (v : Option Value) (h : Heap) (L : List Loc) : Prop := ∃ b1 : Addr, v = some (.ref b1) ∧ Fr n0 L ∧ Keep h0 h [] ∧ h0.size ≤ b1 ∧ AI Z h b1 mn g
set_option maxRecDepth 65536 in
set_option maxHeartbeats 40000000 in
theorem rm7 (l : Launch) (Z : State) (a0 : Array Value) (hw : ∀ d ∈ tables_1, d.before a0 Z = true) (ws : List Jvm.Cond) (x0 : Addr) (x1 : Int32) (n : Nat) (g : Nat → Int32) (mn : Nat) (h0 : Heap) (n0 : Nat) (Z0 : n0 ≤ h0.size) (P0 : AI Z h0 x0 n g) (P1 : Exa Z h0 x0 "[I") (hm : x1.toInt = mn) (hmn : mn ≤ n) (hn16 : n ≤ 16) :
    MetFree l (⟨"java/util/Arrays", "copyOf", "([II)[I"⟩ : MethodName) (head1 (Jvm.Cond.code (⟨"java/util/Arrays", "copyOf", "([II)[I"⟩ : MethodName) jdk_65_method_123_code 3 (some (.array .int)) :: ws) ({ frames := 1, cells := 1, slots := 16, locals := 40 } : Room)) (fun a U => a = #[(.ref x0), (.int x1)] ∧ Z.Warmed39 U.vm ∧ U.heap = h0) (fun _ _ _ _ _ => True) (fun _ U o U' => ∃ v L, o = .returned v ∧ Q7 Z x0 x1 n g mn h0 n0 v U'.heap L ∧ FrameEnd U o U' L ({ frames := 1, cells := 1, slots := 16, locals := 40 } : Room).cells ({ frames := 1, cells := 1, slots := 16, locals := 40 } : Room).slots) := by
  refine g_body (plainFor_of_name pn_7) ?_
  intro p e s m below meth c T0 X0 hx hby hml hret hlk hown hnm hZ e0
  rw [ef_7]
  have N0 := Fr.nil n0
  show Go p e below s _ _ _ (T0.setTop (mkF m 0 #[.val (.ref x0), .val (.int x1), .unset] []))
  refine g_iloadN X0 hx 1 (hb hby d7_0) rfl rfl ?_
  show Go p e below s _ _ _ (T0.setTop (mkF m 1 #[.val (.ref x0), .val (.int x1), .unset] [(.int x1)]))
  refine g_aloadN X0 hx 2 (hb hby d7_1) rfl rfl rfl ?_
  show Go p e below s _ _ _ (T0.setTop (mkF m 2 #[.val (.ref x0), .val (.int x1), .unset] [(.ref x0), (.int x1)]))
  refine g_arraylengthI X0 hx hZ e0 P0 (n.toInt32) rfl 3 (hb hby d7_2) rfl ?_
  show Go p e below s _ _ _ (T0.setTop (mkF m 3 #[.val (.ref x0), .val (.int x1), .unset] [(.int (n.toInt32)), (.int x1)]))
  refine g_icmp_ne X0 hx 14 6 (hb hby d7_3) (by decide) rfl rfl (fun h2 => ?_) (fun h2 => ?_)
  · show Go p e below s _ _ _ (T0.setTop (mkF m 6 #[.val (.ref x0), .val (.int x1), .unset] []))
    refine g_aloadN X0 hx 7 (hb hby d7_6) rfl rfl rfl ?_
    show Go p e below s _ _ _ (T0.setTop (mkF m 7 #[.val (.ref x0), .val (.int x1), .unset] [(.ref x0)]))
    refine g_cloneI X0 hx hZ hown (hw _ (List.mem_of_getElem? (i := 79) rfl)) (hw _ (List.mem_of_getElem? (i := 80) rfl)) (hw _ (List.mem_of_getElem? (i := 84) rfl)) (hw _ (List.mem_of_getElem? (i := 82) rfl)) (hw _ (List.mem_of_getElem? (i := 83) rfl)) (hw _ (List.mem_of_getElem? (i := 85) rfl)) e0 P0 P1 16 hn16 10 (by rw [hml]; rfl) (hb hby d7_7) (by decide) 0 (Nat.le_of_eq rfl) (by decide) (by decide) (by decide) rfl ?_
    intro T3 h3 b3 g3 X3 e3 E3 A3 D3
    have N_b3 : n0 ≤ b3 := Nat.le_trans Z0 (Nat.le_of_eq g3.symm)
    have sz_b3 := Nat.le_trans (Keep.refl h0 []).1 (Nat.le_of_eq g3.symm)
    have ne_x0_b3 : x0 ≠ b3 := Nat.ne_of_lt (Nat.lt_of_lt_of_le P0.lt (Nat.le_of_eq g3.symm))
    have k3_0 := P0.ext E3
    have k3_1 := P1.ext E3
    have Z3 : n0 ≤ h3.size := Nat.le_trans Z0 E3.1
    have K3 := (Keep.refl h0 []).ext E3
    show Go p e below s _ _ _ (T3.setTop (mkF m 10 #[.val (.ref x0), .val (.int x1), .unset] [(.ref b3)]))
    refine g_castA X3 hx hZ hown (hw _ (List.mem_of_getElem? (i := 86) rfl)) (hw _ (List.mem_of_getElem? (i := 87) rfl)) e3 D3 13 (hb hby d7_10) rfl ?_
    intro T4 X4 e4
    show Go p e below s _ _ _ (T4.setTop (mkF m 13 #[.val (.ref x0), .val (.int x1), .unset] [(.ref b3)]))
    exact g_retA X4 hx hret rfl hlk (hb hby d7_13) (by decide) (by decide) (by rw [e4]; exact ⟨b3, rfl, N0, K3, sz_b3, (by rw [own_mn hm h2 P0.small]; exact A3)⟩)
  · show Go p e below s _ _ _ (T0.setTop (mkF m 14 #[.val (.ref x0), .val (.int x1), .unset] []))
    refine g_iloadN X0 hx 15 (hb hby d7_14) rfl rfl ?_
    show Go p e below s _ _ _ (T0.setTop (mkF m 15 #[.val (.ref x0), .val (.int x1), .unset] [(.int x1)]))
    refine g_newarrayIE X0 hx hZ (hw _ (List.mem_of_getElem? (i := 21) rfl)) e0 mn 16 hm (Nat.le_trans hmn hn16) (by decide) 17 (hb hby d7_15) (by decide) (by decide) rfl ?_
    intro T5 h5 b5 g5 X5 e5 E5 A5 D5
    have N_b5 : n0 ≤ b5 := Nat.le_trans Z0 (Nat.le_of_eq g5.symm)
    have sz_b5 := Nat.le_trans (Keep.refl h0 []).1 (Nat.le_of_eq g5.symm)
    have ne_x0_b5 : x0 ≠ b5 := Nat.ne_of_lt (Nat.lt_of_lt_of_le P0.lt (Nat.le_of_eq g5.symm))
    have k5_0 := P0.ext E5
    have k5_1 := P1.ext E5
    have Z5 : n0 ≤ h5.size := Nat.le_trans Z0 E5.1
    have K5 := (Keep.refl h0 []).ext E5
    show Go p e below s _ _ _ (T5.setTop (mkF m 17 #[.val (.ref x0), .val (.int x1), .unset] [(.ref b5)]))
    refine g_astoreN X5 hx #[.val (.ref x0), .val (.int x1), .val (.ref b5)] 18 (hb hby d7_17) rfl rfl rfl ?_
    show Go p e below s _ _ _ (T5.setTop (mkF m 18 #[.val (.ref x0), .val (.int x1), .val (.ref b5)] []))
    refine g_aloadN X5 hx 19 (hb hby d7_18) rfl rfl rfl ?_
    show Go p e below s _ _ _ (T5.setTop (mkF m 19 #[.val (.ref x0), .val (.int x1), .val (.ref b5)] [(.ref x0)]))
    refine g_iconst X5 hx (0 : Int32) 20 (hb hby d7_19) rfl rfl ?_
    show Go p e below s _ _ _ (T5.setTop (mkF m 20 #[.val (.ref x0), .val (.int x1), .val (.ref b5)] [(.int (0 : Int32)), (.ref x0)]))
    refine g_aloadN X5 hx 21 (hb hby d7_20) rfl rfl rfl ?_
    show Go p e below s _ _ _ (T5.setTop (mkF m 21 #[.val (.ref x0), .val (.int x1), .val (.ref b5)] [(.ref b5), (.int (0 : Int32)), (.ref x0)]))
    refine g_iconst X5 hx (0 : Int32) 22 (hb hby d7_21) rfl rfl ?_
    show Go p e below s _ _ _ (T5.setTop (mkF m 22 #[.val (.ref x0), .val (.int x1), .val (.ref b5)] [(.int (0 : Int32)), (.ref b5), (.int (0 : Int32)), (.ref x0)]))
    refine g_aloadN X5 hx 23 (hb hby d7_22) rfl rfl rfl ?_
    show Go p e below s _ _ _ (T5.setTop (mkF m 23 #[.val (.ref x0), .val (.int x1), .val (.ref b5)] [(.ref x0), (.int (0 : Int32)), (.ref b5), (.int (0 : Int32)), (.ref x0)]))
    refine g_arraylengthI X5 hx hZ e5 k5_0 (n.toInt32) rfl 24 (hb hby d7_23) rfl ?_
    show Go p e below s _ _ _ (T5.setTop (mkF m 24 #[.val (.ref x0), .val (.int x1), .val (.ref b5)] [(.int (n.toInt32)), (.int (0 : Int32)), (.ref b5), (.int (0 : Int32)), (.ref x0)]))
    refine g_iloadN X5 hx 25 (hb hby d7_24) rfl rfl ?_
    show Go p e below s _ _ _ (T5.setTop (mkF m 25 #[.val (.ref x0), .val (.int x1), .val (.ref b5)] [(.int x1), (.int (n.toInt32)), (.int (0 : Int32)), (.ref b5), (.int (0 : Int32)), (.ref x0)]))
    refine g_callS X5 hx hZ hown (hw _ (List.mem_of_getElem? (i := 48) rfl)) (hw _ (List.mem_of_getElem? (i := 49) rfl)) (hw _ (List.mem_of_getElem? (i := 50) rfl)) (hw _ (List.mem_of_getElem? (i := 51) rfl)) (by decide) e5 (rm8 l Z a0 hw [] (n.toInt32) x1 h5) [(.int (n.toInt32)), (.int x1)] [(.int (0 : Int32)), (.ref b5), (.int (0 : Int32)), (.ref x0)] 4 rfl (lenOf pd__28II_29I rfl) rfl (Nat.le_of_eq rfl) (by decide) (by decide) (by decide) (by decide) (by rw [hml]; rfl) (hb hby d7_25) ?_
    intro T7 L7 v7 X7 q7
    obtain ⟨rfl, rfl, e7⟩ := q7
    have NS7 := Fr.app N0 (Fr.nil n0)
    show Go p e below s _ _ _ (T7.setTop (mkF m 28 #[.val (.ref x0), .val (.int x1), .val (.ref b5)] [(.int (f8 (n.toInt32) x1)), (.int (0 : Int32)), (.ref b5), (.int (0 : Int32)), (.ref x0)]))
    refine g_copyI X7 hx hZ hown (hw _ (List.mem_of_getElem? (i := 52) rfl)) (hw _ (List.mem_of_getElem? (i := 55) rfl)) (hw _ (List.mem_of_getElem? (i := 53) rfl)) (hw _ (List.mem_of_getElem? (i := 54) rfl)) e7 k5_0 A5 mn (own_min hm hmn P0.small) hmn (Nat.le_refl mn) NS7 N_b5 31 (by rw [hml]; rfl) (hb hby d7_28) (by decide) 0 (Nat.le_of_eq rfl) (by decide) rfl ?_
    intro T8 h8 L8 X8 e8 N8 K8 A8
    have KK8 := K5.trans K8 (by intro x hx; cases List.mem_singleton.mp hx; exact (Or.inr sz_b5))
    have k8_0 := k5_0.keep K8 (nm1 ne_x0_b5 nm0)
    have k8_1 := k5_1.keep K8
    have k8_5 := D5.keep K8
    have Z8 : n0 ≤ h8.size := Nat.le_trans Z5 K8.1
    show Go p e below s _ _ _ (T8.setTop (mkF m 31 #[.val (.ref x0), .val (.int x1), .val (.ref b5)] []))
    refine g_aloadN X8 hx 32 (hb hby d7_31) rfl rfl rfl ?_
    show Go p e below s _ _ _ (T8.setTop (mkF m 32 #[.val (.ref x0), .val (.int x1), .val (.ref b5)] [(.ref b5)]))
    exact g_retA X8 hx hret rfl hlk (hb hby d7_32) (by decide) (by decide) (by rw [e8]; exact ⟨b5, rfl, N8, KK8, sz_b5, (AI.congr A8 fun j hj => if_pos hj)⟩)
theorem pd__28_5bII_29_5bI : parseMethodDescriptor "([II)[I" = some ⟨[(.array .int), .int], some (.array .int)⟩ := by decide +kernel
theorem d6_0 : decode prog_23_method_5_code 0 = .ok (.aload_n 0, 1) := by decide +kernel
theorem d6_1 : decode prog_23_method_5_code 1 = .ok (.getfield 13, 3) := by decide +kernel
theorem d6_4 : decode prog_23_method_5_code 4 = .ok (.aload_n 0, 1) := by decide +kernel
theorem d6_5 : decode prog_23_method_5_code 5 = .ok (.getfield 34, 3) := by decide +kernel
theorem d6_8 : decode prog_23_method_5_code 8 = .ok (.invokestatic 43, 3) := by decide +kernel
theorem d6_11 : decode prog_23_method_5_code 11 = .ok (.areturn, 1) := by decide +kernel
theorem pn_6 : plainName "com/example/terms_in_context/termsincontext/index/Postings" = true := by first | (simp [plainName, overriddenIn]; done) | decide +kernel
theorem ef_6 (m : MethodId) (x0 : Addr) : entryFrame m #[(.ref x0)] 1 = mkF m 0 #[.val (.ref x0)] [] := by first | (simp [entryFrame, mkF, argsToLocals, Value.category]; done) | rfl
def Q6 (Z : State) (x0 : Addr) (pa : Addr) (fr : Int32) (n : Nat) (g : Nat → Int32) (mn : Nat) (h0 : Heap) (n0 : Nat) (v : Option Value) (h : Heap) (L : List Loc) : Prop := ∃ b1 : Addr, v = some (.ref b1) ∧ Fr n0 L ∧ Keep h0 h [] ∧ h0.size ≤ b1 ∧ AI Z h b1 mn g
set_option maxRecDepth 65536 in
set_option maxHeartbeats 40000000 in
theorem rm6 (l : Launch) (Z : State) (a0 : Array Value) (hw : ∀ d ∈ tables_1, d.before a0 Z = true) (ws : List Jvm.Cond) (x0 : Addr) (pa : Addr) (fr : Int32) (n : Nat) (g : Nat → Int32) (mn : Nat) (h0 : Heap) (n0 : Nat) (Z0 : n0 ≤ h0.size) (P0 : Fld Z h0 x0 "com/example/terms_in_context/termsincontext/index/Postings" "positions" "[I" (.ref pa)) (P1 : Fld Z h0 x0 "com/example/terms_in_context/termsincontext/index/Postings" "frequency" "I" (.int fr)) (P2 : AI Z h0 pa n g) (P3 : Exa Z h0 pa "[I") (hm : fr.toInt = mn) (hmn : mn ≤ n) (hn16 : n ≤ 16) :
    MetFree l (⟨"com/example/terms_in_context/termsincontext/index/Postings", "positions", "()[I"⟩ : MethodName) (head1 (Jvm.Cond.code (⟨"com/example/terms_in_context/termsincontext/index/Postings", "positions", "()[I"⟩ : MethodName) prog_23_method_5_code 1 (some (.array .int)) :: ws) ({ frames := 2, cells := 1, slots := 16, locals := 54 } : Room)) (fun a U => a = #[(.ref x0)] ∧ Z.Warmed39 U.vm ∧ U.heap = h0) (fun _ _ _ _ _ => True) (fun _ U o U' => ∃ v L, o = .returned v ∧ Q6 Z x0 pa fr n g mn h0 n0 v U'.heap L ∧ FrameEnd U o U' L ({ frames := 2, cells := 1, slots := 16, locals := 54 } : Room).cells ({ frames := 2, cells := 1, slots := 16, locals := 54 } : Room).slots) := by
  refine g_body (plainFor_of_name pn_6) ?_
  intro p e s m below meth c T0 X0 hx hby hml hret hlk hown hnm hZ e0
  rw [ef_6]
  have N0 := Fr.nil n0
  show Go p e below s _ _ _ (T0.setTop (mkF m 0 #[.val (.ref x0)] []))
  refine g_aloadN X0 hx 1 (hb hby d6_0) rfl rfl rfl ?_
  show Go p e below s _ _ _ (T0.setTop (mkF m 1 #[.val (.ref x0)] [(.ref x0)]))
  refine g_getF X0 hx hZ hown (hw _ (List.mem_of_getElem? (i := 22) rfl)) Via.refl e0 P0 4 (hb hby d6_1) rfl ?_
  intro T1 X1 e1
  show Go p e below s _ _ _ (T1.setTop (mkF m 4 #[.val (.ref x0)] [(.ref pa)]))
  refine g_aloadN X1 hx 5 (hb hby d6_4) rfl rfl rfl ?_
  show Go p e below s _ _ _ (T1.setTop (mkF m 5 #[.val (.ref x0)] [(.ref x0), (.ref pa)]))
  refine g_getF X1 hx hZ hown (hw _ (List.mem_of_getElem? (i := 42) rfl)) Via.refl e1 P1 8 (hb hby d6_5) rfl ?_
  intro T2 X2 e2
  show Go p e below s _ _ _ (T2.setTop (mkF m 8 #[.val (.ref x0)] [(.int fr), (.ref pa)]))
  refine g_callS X2 hx hZ hown (hw _ (List.mem_of_getElem? (i := 44) rfl)) (hw _ (List.mem_of_getElem? (i := 45) rfl)) (hw _ (List.mem_of_getElem? (i := 46) rfl)) (hw _ (List.mem_of_getElem? (i := 47) rfl)) (by decide) e2 (rm7 l Z a0 hw [] pa fr n g mn h0 n0 Z0 P2 P3 (hm : fr.toInt = mn) (hmn : mn ≤ n) (hn16 : n ≤ 16)) [(.ref pa), (.int fr)] [] 0 rfl (lenOf pd__28_5bII_29_5bI rfl) rfl (Nat.le_of_eq rfl) (by decide) (by decide) (by decide) (by decide) (by rw [hml]; rfl) (hb hby d6_8) ?_
  intro T3 L3 v3 X3 q3
  obtain ⟨b3_0, rfl, N3, K3, sz3_0, p3_0⟩ := q3
  have NN3 := Fr.app N0 N3
  have N_b3_0 : n0 ≤ b3_0 := Nat.le_trans Z0 sz3_0
  have sz_b3_0 := Nat.le_trans (Keep.refl h0 []).1 sz3_0
  have ne_x0_b3_0 : x0 ≠ b3_0 := Nat.ne_of_lt (Nat.lt_of_lt_of_le P0.lt sz3_0)
  have ne_pa_b3_0 : pa ≠ b3_0 := Nat.ne_of_lt (Nat.lt_of_lt_of_le P2.lt sz3_0)
  have KK3 := (Keep.refl h0 []).trans K3 (fun x hx => nomatch hx)
  have k3_0 := P0.keep K3 nm0
  have k3_1 := P1.keep K3 nm0
  have k3_2 := P2.keep K3 nm0
  have k3_3 := P3.keep K3
  have Z3 : n0 ≤ T3.heap.size := Nat.le_trans Z0 K3.1
  show Go p e below s _ _ _ (T3.setTop (mkF m 11 #[.val (.ref x0)] [(.ref b3_0)]))
  exact g_retA X3 hx hret rfl hlk (hb hby d6_11) (by decide) (by decide) ⟨b3_0, rfl, NN3, KK3, sz_b3_0, p3_0⟩
theorem pd__28_5bBI_29V : parseMethodDescriptor "([BI)V" = some ⟨[(.array .byte), .int], none⟩ := by decide +kernel
theorem d3_0 : decode prog_23_method_1_code 0 = .ok (.aload_n 0, 1) := by decide +kernel
theorem d3_1 : decode prog_23_method_1_code 1 = .ok (.invokespecial 1, 3) := by decide +kernel
theorem d3_4 : decode prog_23_method_1_code 4 = .ok (.aload_n 0, 1) := by decide +kernel
theorem d3_5 : decode prog_23_method_1_code 5 = .ok (.iconst (-1), 1) := by decide +kernel
theorem d3_6 : decode prog_23_method_1_code 6 = .ok (.putfield 7, 3) := by decide +kernel
theorem d3_9 : decode prog_23_method_1_code 9 = .ok (.aload_n 0, 1) := by decide +kernel
theorem d3_10 : decode prog_23_method_1_code 10 = .ok (.bipush 8, 2) := by decide +kernel
theorem d3_12 : decode prog_23_method_1_code 12 = .ok (.newarray .int, 2) := by decide +kernel
theorem d3_14 : decode prog_23_method_1_code 14 = .ok (.putfield 13, 3) := by decide +kernel
theorem d3_17 : decode prog_23_method_1_code 17 = .ok (.aload_n 0, 1) := by decide +kernel
theorem d3_18 : decode prog_23_method_1_code 18 = .ok (.new 17, 3) := by decide +kernel
theorem d3_21 : decode prog_23_method_1_code 21 = .ok (.dup, 1) := by decide +kernel
theorem d3_22 : decode prog_23_method_1_code 22 = .ok (.aload_n 1, 1) := by decide +kernel
theorem d3_23 : decode prog_23_method_1_code 23 = .ok (.iload_n 2, 1) := by decide +kernel
theorem d3_24 : decode prog_23_method_1_code 24 = .ok (.invokespecial 19, 3) := by decide +kernel
theorem d3_27 : decode prog_23_method_1_code 27 = .ok (.putfield 22, 3) := by decide +kernel
theorem d3_30 : decode prog_23_method_1_code 30 = .ok (.return_, 1) := by decide +kernel
theorem ef_3 (m : MethodId) (x0 : Addr) (x1 : Addr) (x2 : Int32) : entryFrame m #[(.ref x0), (.ref x1), (.int x2)] 3 = mkF m 0 #[.val (.ref x0), .val (.ref x1), .val (.int x2)] [] := by first | (simp [entryFrame, mkF, argsToLocals, Value.category]; done) | rfl
def Q3 (Z : State) (x0 : Addr) (x1 : Addr) (x2 : Int32) (h0 : Heap) (n0 : Nat) (v : Option Value) (h : Heap) (L : List Loc) : Prop := v = none ∧ Fr n0 L ∧ Keep h0 h [x0] ∧ ∃ b1 b2 : Addr, h0.size ≤ b1 ∧ h0.size ≤ b2 ∧ b1 ≠ b2 ∧ Fld Z h x0 "com/example/terms_in_context/termsincontext/index/Postings" "document" "I" (.int (-1 : Int32)) ∧ Fld Z h x0 "com/example/terms_in_context/termsincontext/index/Postings" "positions" "[I" (.ref b1) ∧ Fld Z h x0 "com/example/terms_in_context/termsincontext/index/Postings" "in" "Lcom/example/terms_in_context/termsincontext/index/VarIntInput;" (.ref b2) ∧ Fld Z h x0 "com/example/terms_in_context/termsincontext/index/Postings" "frequency" "I" (.int (0 : Int32)) ∧ Exa Z h b1 "[I" ∧ AI Z h b1 8 (fun _ => (0 : Int32)) ∧ Exa Z h b2 "com/example/terms_in_context/termsincontext/index/VarIntInput" ∧ Fld Z h b2 "com/example/terms_in_context/termsincontext/index/VarIntInput" "bytes" "[B" (.ref x1) ∧ Fld Z h b2 "com/example/terms_in_context/termsincontext/index/VarIntInput" "length" "I" (.int x2) ∧ Fld Z h b2 "com/example/terms_in_context/termsincontext/index/VarIntInput" "offset" "I" (.int (0 : Int32))
set_option maxRecDepth 65536 in
set_option maxHeartbeats 40000000 in
theorem rm3 (l : Launch) (Z : State) (a0 : Array Value) (hw : ∀ d ∈ tables_1, d.before a0 Z = true) (ws : List Jvm.Cond) (x0 : Addr) (x1 : Addr) (x2 : Int32) (h0 : Heap) (n0 : Nat) (Z0 : n0 ≤ h0.size) (P0 : Exa Z h0 x0 "com/example/terms_in_context/termsincontext/index/Postings") (P1 : Fld Z h0 x0 "com/example/terms_in_context/termsincontext/index/Postings" "document" "I" (.int (0 : Int32))) (P2 : Fld Z h0 x0 "com/example/terms_in_context/termsincontext/index/Postings" "positions" "[I" .null) (P3 : Fld Z h0 x0 "com/example/terms_in_context/termsincontext/index/Postings" "in" "Lcom/example/terms_in_context/termsincontext/index/VarIntInput;" .null) (P4 : Fld Z h0 x0 "com/example/terms_in_context/termsincontext/index/Postings" "frequency" "I" (.int (0 : Int32))) (P5 : n0 ≤ x0) :
    MetFree l (⟨"com/example/terms_in_context/termsincontext/index/Postings", "<init>", "([BI)V"⟩ : MethodName) (head1 (Jvm.Cond.code (⟨"com/example/terms_in_context/termsincontext/index/Postings", "<init>", "([BI)V"⟩ : MethodName) prog_23_method_1_code 3 none :: ws) ({ frames := 2, cells := 2, slots := 11, locals := 28 } : Room)) (fun a U => a = #[(.ref x0), (.ref x1), (.int x2)] ∧ Z.Warmed39 U.vm ∧ U.heap = h0) (fun _ _ _ _ _ => True) (fun _ U o U' => ∃ v L, o = .returned v ∧ Q3 Z x0 x1 x2 h0 n0 v U'.heap L ∧ FrameEnd U o U' L ({ frames := 2, cells := 2, slots := 11, locals := 28 } : Room).cells ({ frames := 2, cells := 2, slots := 11, locals := 28 } : Room).slots) := by
  refine g_body (plainFor_of_name pn_6) ?_
  intro p e s m below meth c T0 X0 hx hby hml hret hlk hown hnm hZ e0
  rw [ef_3]
  have N0 := Fr.nil n0
  show Go p e below s _ _ _ (T0.setTop (mkF m 0 #[.val (.ref x0), .val (.ref x1), .val (.int x2)] []))
  refine g_aloadN X0 hx 1 (hb hby d3_0) rfl rfl rfl ?_
  show Go p e below s _ _ _ (T0.setTop (mkF m 1 #[.val (.ref x0), .val (.ref x1), .val (.int x2)] [(.ref x0)]))
  refine g_initO X0 hx hZ hown (hw _ (List.mem_of_getElem? (i := 16) rfl)) (hw _ (List.mem_of_getElem? (i := 17) rfl)) (hw _ (List.mem_of_getElem? (i := 18) rfl)) e0 4 (by rw [hml]; rfl) (hb hby d3_1) (by decide) 0 (Nat.le_of_eq rfl) (by decide) rfl ?_
  intro T1 X1 e1
  show Go p e below s _ _ _ (T1.setTop (mkF m 4 #[.val (.ref x0), .val (.ref x1), .val (.int x2)] []))
  refine g_aloadN X1 hx 5 (hb hby d3_4) rfl rfl rfl ?_
  show Go p e below s _ _ _ (T1.setTop (mkF m 5 #[.val (.ref x0), .val (.ref x1), .val (.int x2)] [(.ref x0)]))
  refine g_iconst X1 hx (-1 : Int32) 6 (hb hby d3_5) rfl rfl ?_
  show Go p e below s _ _ _ (T1.setTop (mkF m 6 #[.val (.ref x0), .val (.ref x1), .val (.int x2)] [(.int (-1 : Int32)), (.ref x0)]))
  refine g_putF X1 hx hZ hown (hw _ (List.mem_of_getElem? (i := 19) rfl)) Via.refl e1 P1 P0 (Or.inl (hw _ (List.mem_of_getElem? (i := 20) rfl))) (hw _ (List.mem_of_getElem? (i := 11) rfl)) (ty := .int) (by decide) rfl rfl 9 (hb hby d3_6) rfl ?_
  intro T2 h2 X2 e2 W2
  have K2 := (Keep.refl h0 [x0]).wr W2 (Or.inl (List.mem_of_getElem? (i := 0) rfl))
  have N2 := Fr.snoc X2 N0 P5
  have k2_0 := P0.wr W2
  have k2_2 := P2.other W2 (Or.inr (slot_ne (Or.inl (hw _ (List.mem_of_getElem? (i := 23) rfl))) (Or.inl (hw _ (List.mem_of_getElem? (i := 20) rfl))) (by decide) (t := (.array .int)) (t' := .int) (by decide) (by decide)))
  have k2_3 := P3.other W2 (Or.inr (slot_ne (Or.inr (hw _ (List.mem_of_getElem? (i := 36) rfl))) (Or.inl (hw _ (List.mem_of_getElem? (i := 20) rfl))) (by decide) (t := (.object "com/example/terms_in_context/termsincontext/index/VarIntInput")) (t' := .int) (by decide) (by decide)))
  have k2_4 := P4.other W2 (Or.inr (slot_ne (Or.inl (hw _ (List.mem_of_getElem? (i := 43) rfl))) (Or.inl (hw _ (List.mem_of_getElem? (i := 20) rfl))) (by decide) (t := .int) (t' := .int) (by decide) (by decide)))
  have Z2 : n0 ≤ h2.size := by rw [W2.size]; exact Z0
  have F2 := P1.same W2
  show Go p e below s _ _ _ (T2.setTop (mkF m 9 #[.val (.ref x0), .val (.ref x1), .val (.int x2)] []))
  refine g_aloadN X2 hx 10 (hb hby d3_9) rfl rfl rfl ?_
  show Go p e below s _ _ _ (T2.setTop (mkF m 10 #[.val (.ref x0), .val (.ref x1), .val (.int x2)] [(.ref x0)]))
  refine g_bipush X2 hx (8 : Int32) 12 (hb hby d3_10) rfl rfl ?_
  show Go p e below s _ _ _ (T2.setTop (mkF m 12 #[.val (.ref x0), .val (.ref x1), .val (.int x2)] [(.int (8 : Int32)), (.ref x0)]))
  refine g_newarrayIE X2 hx hZ (hw _ (List.mem_of_getElem? (i := 21) rfl)) e2 8 8 rfl (by decide) (by decide) 14 (hb hby d3_12) (by decide) (by decide) rfl ?_
  intro T3 h3 b3 g3 X3 e3 E3 A3 D3
  have N_b3 : n0 ≤ b3 := Nat.le_trans Z2 (Nat.le_of_eq g3.symm)
  have sz_b3 := Nat.le_trans K2.1 (Nat.le_of_eq g3.symm)
  have ne_x0_b3 : x0 ≠ b3 := Nat.ne_of_lt (Nat.lt_of_lt_of_le k2_0.lt (Nat.le_of_eq g3.symm))
  have k3_0 := k2_0.ext E3
  have k3_1 := k2_2.ext E3
  have k3_2 := k2_3.ext E3
  have k3_3 := k2_4.ext E3
  have k3_5 := F2.ext E3
  have Z3 : n0 ≤ h3.size := Nat.le_trans Z2 E3.1
  have K3 := K2.ext E3
  show Go p e below s _ _ _ (T3.setTop (mkF m 14 #[.val (.ref x0), .val (.ref x1), .val (.int x2)] [(.ref b3), (.ref x0)]))
  refine g_putF X3 hx hZ hown (hw _ (List.mem_of_getElem? (i := 22) rfl)) Via.refl e3 k3_1 k3_0 (Or.inl (hw _ (List.mem_of_getElem? (i := 23) rfl))) (hw _ (List.mem_of_getElem? (i := 11) rfl)) (ty := (.array .int)) (by decide) rfl rfl 17 (hb hby d3_14) rfl ?_
  intro T4 h4 X4 e4 W4
  have K4 := K3.wr W4 (Or.inl (List.mem_of_getElem? (i := 0) rfl))
  have N4 := Fr.snoc X4 N2 P5
  have k4_0 := k3_0.wr W4
  have k4_2 := k3_2.other W4 (Or.inr (slot_ne (Or.inr (hw _ (List.mem_of_getElem? (i := 36) rfl))) (Or.inl (hw _ (List.mem_of_getElem? (i := 23) rfl))) (by decide) (t := (.object "com/example/terms_in_context/termsincontext/index/VarIntInput")) (t' := (.array .int)) (by decide) (by decide)))
  have k4_3 := k3_3.other W4 (Or.inr (slot_ne (Or.inl (hw _ (List.mem_of_getElem? (i := 43) rfl))) (Or.inl (hw _ (List.mem_of_getElem? (i := 23) rfl))) (by decide) (t := .int) (t' := (.array .int)) (by decide) (by decide)))
  have k4_5 := k3_5.other W4 (Or.inr (slot_ne (Or.inl (hw _ (List.mem_of_getElem? (i := 20) rfl))) (Or.inl (hw _ (List.mem_of_getElem? (i := 23) rfl))) (by decide) (t := .int) (t' := (.array .int)) (by decide) (by decide)))
  have k4_8 := A3.other W4 (Ne.symm ne_x0_b3)
  have k4_9 := D3.wr W4
  have Z4 : n0 ≤ h4.size := by rw [W4.size]; exact Z3
  have F4 := k3_1.same W4
  show Go p e below s _ _ _ (T4.setTop (mkF m 17 #[.val (.ref x0), .val (.ref x1), .val (.int x2)] []))
  refine g_aloadN X4 hx 18 (hb hby d3_17) rfl rfl rfl ?_
  show Go p e below s _ _ _ (T4.setTop (mkF m 18 #[.val (.ref x0), .val (.ref x1), .val (.int x2)] [(.ref x0)]))
  refine g_new X4 hx hZ hown (hw _ (List.mem_of_getElem? (i := 24) rfl)) (hw _ (List.mem_of_getElem? (i := 25) rfl)) (hw _ (List.mem_of_getElem? (i := 26) rfl)) e4 21 (hb hby d3_18) (by decide) (by decide) rfl ?_
  intro T5 h5 b5 g5 X5 e5 E5 A5 D5
  have N_b5 : n0 ≤ b5 := Nat.le_trans Z4 (Nat.le_of_eq g5.symm)
  have sz_b5 := Nat.le_trans K4.1 (Nat.le_of_eq g5.symm)
  have ne_x0_b5 : x0 ≠ b5 := Nat.ne_of_lt (Nat.lt_of_lt_of_le k4_0.lt (Nat.le_of_eq g5.symm))
  have ne_b3_b5 : b3 ≠ b5 := Nat.ne_of_lt (Nat.lt_of_lt_of_le k4_8.lt (Nat.le_of_eq g5.symm))
  have k5_0 := k4_0.ext E5
  have k5_1 := k4_2.ext E5
  have k5_2 := k4_3.ext E5
  have k5_4 := k4_5.ext E5
  have k5_7 := k4_8.ext E5
  have k5_8 := k4_9.ext E5
  have k5_9 := F4.ext E5
  have Z5 : n0 ≤ h5.size := Nat.le_trans Z4 E5.1
  have K5 := K4.ext E5
  have F5_bytes : Fld Z h5 b5 "com/example/terms_in_context/termsincontext/index/VarIntInput" "bytes" "[B" .null := D5 (Or.inr (hw _ (List.mem_of_getElem? (i := 32) rfl))) (ty := (.array .byte)) (by decide)
  have F5_length : Fld Z h5 b5 "com/example/terms_in_context/termsincontext/index/VarIntInput" "length" "I" (.int (0 : Int32)) := D5 (Or.inr (hw _ (List.mem_of_getElem? (i := 34) rfl))) (ty := .int) (by decide)
  have F5_offset : Fld Z h5 b5 "com/example/terms_in_context/termsincontext/index/VarIntInput" "offset" "I" (.int (0 : Int32)) := D5 (Or.inl (hw _ (List.mem_of_getElem? (i := 70) rfl))) (ty := .int) (by decide)
  show Go p e below s _ _ _ (T5.setTop (mkF m 21 #[.val (.ref x0), .val (.ref x1), .val (.int x2)] [(.ref b5), (.ref x0)]))
  refine g_dup X5 hx 22 (hb hby d3_21) rfl rfl ?_
  show Go p e below s _ _ _ (T5.setTop (mkF m 22 #[.val (.ref x0), .val (.ref x1), .val (.int x2)] [(.ref b5), (.ref b5), (.ref x0)]))
  refine g_aloadN X5 hx 23 (hb hby d3_22) rfl rfl rfl ?_
  show Go p e below s _ _ _ (T5.setTop (mkF m 23 #[.val (.ref x0), .val (.ref x1), .val (.int x2)] [(.ref x1), (.ref b5), (.ref b5), (.ref x0)]))
  refine g_iloadN X5 hx 24 (hb hby d3_23) rfl rfl ?_
  show Go p e below s _ _ _ (T5.setTop (mkF m 24 #[.val (.ref x0), .val (.ref x1), .val (.int x2)] [(.int x2), (.ref x1), (.ref b5), (.ref b5), (.ref x0)]))
  refine g_callI X5 hx hZ rfl hown (hw _ (List.mem_of_getElem? (i := 27) rfl)) (hw _ (List.mem_of_getElem? (i := 28) rfl)) (hw _ (List.mem_of_getElem? (i := 26) rfl)) (hw _ (List.mem_of_getElem? (i := 29) rfl)) (by decide) e5 (rm5 l Z a0 hw [] b5 x1 x2 h5 n0 Z5 A5 F5_bytes F5_length F5_offset N_b5) b5 [(.ref x1), (.int x2)] [(.ref b5), (.ref x0)] 2 rfl (lenOf pd__28_5bBI_29V rfl) rfl (Nat.le_of_eq rfl) (by decide) (by decide) (by decide) (by decide) (by rw [hml]; rfl) (hb hby d3_24) ?_
  intro T6 L6 v6 X6 q6
  obtain ⟨rfl, N6, K6, p6_0, p6_1, p6_2⟩ := q6
  have NN6 := Fr.app N4 N6
  have KK6 := K5.trans K6 (by intro x hx; cases List.mem_singleton.mp hx; exact (Or.inr sz_b5))
  have k6_0 := k5_0.keep K6
  have k6_1 := k5_1.keep K6 (nm1 ne_x0_b5 nm0)
  have k6_2 := k5_2.keep K6 (nm1 ne_x0_b5 nm0)
  have k6_4 := k5_4.keep K6 (nm1 ne_x0_b5 nm0)
  have k6_7 := k5_7.keep K6 (nm1 ne_b3_b5 nm0)
  have k6_8 := k5_8.keep K6
  have k6_9 := k5_9.keep K6 (nm1 ne_x0_b5 nm0)
  have k6_13 := A5.keep K6
  have Z6 : n0 ≤ T6.heap.size := Nat.le_trans Z5 K6.1
  show Go p e below s _ _ _ (T6.setTop (mkF m 27 #[.val (.ref x0), .val (.ref x1), .val (.int x2)] [(.ref b5), (.ref x0)]))
  refine g_putF X6 hx hZ hown (hw _ (List.mem_of_getElem? (i := 35) rfl)) Via.refl rfl k6_1 k6_0 (Or.inr ⟨(hw _ (List.mem_of_getElem? (i := 36) rfl)), rfl, hnm⟩) (hw _ (List.mem_of_getElem? (i := 11) rfl)) (ty := (.object "com/example/terms_in_context/termsincontext/index/VarIntInput")) (by decide) rfl rfl 30 (hb hby d3_27) rfl ?_
  intro T7 h7 X7 e7 W7
  have K7 := KK6.wr W7 (Or.inl (List.mem_of_getElem? (i := 0) rfl))
  have N7 := Fr.snoc X7 NN6 P5
  have k7_0 := k6_0.wr W7
  have k7_2 := k6_2.other W7 (Or.inr (slot_ne (Or.inl (hw _ (List.mem_of_getElem? (i := 43) rfl))) (Or.inr (hw _ (List.mem_of_getElem? (i := 36) rfl))) (by decide) (t := .int) (t' := (.object "com/example/terms_in_context/termsincontext/index/VarIntInput")) (by decide) (by decide)))
  have k7_4 := k6_4.other W7 (Or.inr (slot_ne (Or.inl (hw _ (List.mem_of_getElem? (i := 20) rfl))) (Or.inr (hw _ (List.mem_of_getElem? (i := 36) rfl))) (by decide) (t := .int) (t' := (.object "com/example/terms_in_context/termsincontext/index/VarIntInput")) (by decide) (by decide)))
  have k7_7 := k6_7.other W7 (Ne.symm ne_x0_b3)
  have k7_8 := k6_8.wr W7
  have k7_9 := k6_9.other W7 (Or.inr (slot_ne (Or.inl (hw _ (List.mem_of_getElem? (i := 23) rfl))) (Or.inr (hw _ (List.mem_of_getElem? (i := 36) rfl))) (by decide) (t := (.array .int)) (t' := (.object "com/example/terms_in_context/termsincontext/index/VarIntInput")) (by decide) (by decide)))
  have k7_13 := k6_13.wr W7
  have k7_14 := p6_0.other W7 (Or.inl (Ne.symm ne_x0_b5))
  have k7_15 := p6_1.other W7 (Or.inl (Ne.symm ne_x0_b5))
  have k7_16 := p6_2.other W7 (Or.inl (Ne.symm ne_x0_b5))
  have Z7 : n0 ≤ h7.size := by rw [W7.size]; exact Z6
  have F7 := k6_1.same W7
  show Go p e below s _ _ _ (T7.setTop (mkF m 30 #[.val (.ref x0), .val (.ref x1), .val (.int x2)] []))
  exact g_retV X7 hx hret hlk (hb hby d3_30) (by decide) (by decide) (by rw [e7]; exact ⟨rfl, N7, K7, b3, b5, sz_b3, sz_b5, ne_b3_b5, k7_4, k7_9, F7, k7_2, k7_8, k7_7, k7_13, k7_14, k7_15, k7_16⟩)
theorem pd__28JI_29I : parseMethodDescriptor "(JI)I" = some ⟨[.long, .int], some .int⟩ := by decide +kernel
theorem d1_0 : decode method_3_code 0 = .ok (.aload_n 0, 1) := by decide +kernel
theorem d1_1 : decode method_3_code 1 = .ok (.iload_n 1, 1) := by decide +kernel
theorem d1_2 : decode method_3_code 2 = .ok (.iload_n 2, 1) := by decide +kernel
theorem d1_3 : decode method_3_code 3 = .ok (.i2b, 1) := by decide +kernel
theorem d1_4 : decode method_3_code 4 = .ok (.bastore, 1) := by decide +kernel
theorem d1_5 : decode method_3_code 5 = .ok (.iload_n 1, 1) := by decide +kernel
theorem d1_6 : decode method_3_code 6 = .ok (.iconst 1, 1) := by decide +kernel
theorem d1_7 : decode method_3_code 7 = .ok (.iadd, 1) := by decide +kernel
theorem d1_8 : decode method_3_code 8 = .ok (.istore_n 1, 1) := by decide +kernel
theorem d1_9 : decode method_3_code 9 = .ok (.aload_n 0, 1) := by decide +kernel
theorem d1_10 : decode method_3_code 10 = .ok (.iload_n 1, 1) := by decide +kernel
theorem d1_11 : decode method_3_code 11 = .ok (.iload_n 3, 1) := by decide +kernel
theorem d1_12 : decode method_3_code 12 = .ok (.i2b, 1) := by decide +kernel
theorem d1_13 : decode method_3_code 13 = .ok (.bastore, 1) := by decide +kernel
theorem d1_14 : decode method_3_code 14 = .ok (.iload_n 1, 1) := by decide +kernel
theorem d1_15 : decode method_3_code 15 = .ok (.iconst 1, 1) := by decide +kernel
theorem d1_16 : decode method_3_code 16 = .ok (.iadd, 1) := by decide +kernel
theorem d1_17 : decode method_3_code 17 = .ok (.istore_n 1, 1) := by decide +kernel
theorem d1_18 : decode method_3_code 18 = .ok (.iconst 0, 1) := by decide +kernel
theorem d1_19 : decode method_3_code 19 = .ok (.iload_n 3, 1) := by decide +kernel
theorem d1_20 : decode method_3_code 20 = .ok (.if_icmp .ge 17, 3) := by decide +kernel
theorem d1_23 : decode method_3_code 23 = .ok (.aload_n 0, 1) := by decide +kernel
theorem d1_24 : decode method_3_code 24 = .ok (.iload_n 1, 1) := by decide +kernel
theorem d1_25 : decode method_3_code 25 = .ok (.lload 4, 2) := by decide +kernel
theorem d1_27 : decode method_3_code 27 = .ok (.iconst 0, 1) := by decide +kernel
theorem d1_28 : decode method_3_code 28 = .ok (.invokestatic 9, 3) := by decide +kernel
theorem d1_31 : decode method_3_code 31 = .ok (.i2b, 1) := by decide +kernel
theorem d1_32 : decode method_3_code 32 = .ok (.bastore, 1) := by decide +kernel
theorem d1_33 : decode method_3_code 33 = .ok (.iload_n 1, 1) := by decide +kernel
theorem d1_34 : decode method_3_code 34 = .ok (.iconst 1, 1) := by decide +kernel
theorem d1_35 : decode method_3_code 35 = .ok (.iadd, 1) := by decide +kernel
theorem d1_36 : decode method_3_code 36 = .ok (.istore_n 1, 1) := by decide +kernel
theorem d1_37 : decode method_3_code 37 = .ok (.iconst 1, 1) := by decide +kernel
theorem d1_38 : decode method_3_code 38 = .ok (.iload_n 3, 1) := by decide +kernel
theorem d1_39 : decode method_3_code 39 = .ok (.if_icmp .ge 17, 3) := by decide +kernel
theorem d1_42 : decode method_3_code 42 = .ok (.aload_n 0, 1) := by decide +kernel
theorem d1_43 : decode method_3_code 43 = .ok (.iload_n 1, 1) := by decide +kernel
theorem d1_44 : decode method_3_code 44 = .ok (.lload 4, 2) := by decide +kernel
theorem d1_46 : decode method_3_code 46 = .ok (.iconst 1, 1) := by decide +kernel
theorem d1_47 : decode method_3_code 47 = .ok (.invokestatic 9, 3) := by decide +kernel
theorem d1_50 : decode method_3_code 50 = .ok (.i2b, 1) := by decide +kernel
theorem d1_51 : decode method_3_code 51 = .ok (.bastore, 1) := by decide +kernel
theorem d1_52 : decode method_3_code 52 = .ok (.iload_n 1, 1) := by decide +kernel
theorem d1_53 : decode method_3_code 53 = .ok (.iconst 1, 1) := by decide +kernel
theorem d1_54 : decode method_3_code 54 = .ok (.iadd, 1) := by decide +kernel
theorem d1_55 : decode method_3_code 55 = .ok (.istore_n 1, 1) := by decide +kernel
theorem d1_56 : decode method_3_code 56 = .ok (.iconst 2, 1) := by decide +kernel
theorem d1_57 : decode method_3_code 57 = .ok (.iload_n 3, 1) := by decide +kernel
theorem d1_58 : decode method_3_code 58 = .ok (.if_icmp .ge 17, 3) := by decide +kernel
theorem d1_61 : decode method_3_code 61 = .ok (.aload_n 0, 1) := by decide +kernel
theorem d1_62 : decode method_3_code 62 = .ok (.iload_n 1, 1) := by decide +kernel
theorem d1_63 : decode method_3_code 63 = .ok (.lload 4, 2) := by decide +kernel
theorem d1_65 : decode method_3_code 65 = .ok (.iconst 2, 1) := by decide +kernel
theorem d1_66 : decode method_3_code 66 = .ok (.invokestatic 9, 3) := by decide +kernel
theorem d1_69 : decode method_3_code 69 = .ok (.i2b, 1) := by decide +kernel
theorem d1_70 : decode method_3_code 70 = .ok (.bastore, 1) := by decide +kernel
theorem d1_71 : decode method_3_code 71 = .ok (.iload_n 1, 1) := by decide +kernel
theorem d1_72 : decode method_3_code 72 = .ok (.iconst 1, 1) := by decide +kernel
theorem d1_73 : decode method_3_code 73 = .ok (.iadd, 1) := by decide +kernel
theorem d1_74 : decode method_3_code 74 = .ok (.istore_n 1, 1) := by decide +kernel
theorem d1_75 : decode method_3_code 75 = .ok (.iconst 3, 1) := by decide +kernel
theorem d1_76 : decode method_3_code 76 = .ok (.iload_n 3, 1) := by decide +kernel
theorem d1_77 : decode method_3_code 77 = .ok (.if_icmp .ge 17, 3) := by decide +kernel
theorem d1_80 : decode method_3_code 80 = .ok (.aload_n 0, 1) := by decide +kernel
theorem d1_81 : decode method_3_code 81 = .ok (.iload_n 1, 1) := by decide +kernel
theorem d1_82 : decode method_3_code 82 = .ok (.lload 4, 2) := by decide +kernel
theorem d1_84 : decode method_3_code 84 = .ok (.iconst 3, 1) := by decide +kernel
theorem d1_85 : decode method_3_code 85 = .ok (.invokestatic 9, 3) := by decide +kernel
theorem d1_88 : decode method_3_code 88 = .ok (.i2b, 1) := by decide +kernel
theorem d1_89 : decode method_3_code 89 = .ok (.bastore, 1) := by decide +kernel
theorem d1_90 : decode method_3_code 90 = .ok (.iload_n 1, 1) := by decide +kernel
theorem d1_91 : decode method_3_code 91 = .ok (.iconst 1, 1) := by decide +kernel
theorem d1_92 : decode method_3_code 92 = .ok (.iadd, 1) := by decide +kernel
theorem d1_93 : decode method_3_code 93 = .ok (.istore_n 1, 1) := by decide +kernel
theorem d1_94 : decode method_3_code 94 = .ok (.iconst 4, 1) := by decide +kernel
theorem d1_95 : decode method_3_code 95 = .ok (.iload_n 3, 1) := by decide +kernel
theorem d1_96 : decode method_3_code 96 = .ok (.if_icmp .ge 17, 3) := by decide +kernel
theorem d1_99 : decode method_3_code 99 = .ok (.aload_n 0, 1) := by decide +kernel
theorem d1_100 : decode method_3_code 100 = .ok (.iload_n 1, 1) := by decide +kernel
theorem d1_101 : decode method_3_code 101 = .ok (.lload 4, 2) := by decide +kernel
theorem d1_103 : decode method_3_code 103 = .ok (.iconst 4, 1) := by decide +kernel
theorem d1_104 : decode method_3_code 104 = .ok (.invokestatic 9, 3) := by decide +kernel
theorem d1_107 : decode method_3_code 107 = .ok (.i2b, 1) := by decide +kernel
theorem d1_108 : decode method_3_code 108 = .ok (.bastore, 1) := by decide +kernel
theorem d1_109 : decode method_3_code 109 = .ok (.iload_n 1, 1) := by decide +kernel
theorem d1_110 : decode method_3_code 110 = .ok (.iconst 1, 1) := by decide +kernel
theorem d1_111 : decode method_3_code 111 = .ok (.iadd, 1) := by decide +kernel
theorem d1_112 : decode method_3_code 112 = .ok (.istore_n 1, 1) := by decide +kernel
theorem d1_113 : decode method_3_code 113 = .ok (.iconst 5, 1) := by decide +kernel
theorem d1_114 : decode method_3_code 114 = .ok (.iload_n 3, 1) := by decide +kernel
theorem d1_115 : decode method_3_code 115 = .ok (.if_icmp .ge 17, 3) := by decide +kernel
theorem d1_118 : decode method_3_code 118 = .ok (.aload_n 0, 1) := by decide +kernel
theorem d1_119 : decode method_3_code 119 = .ok (.iload_n 1, 1) := by decide +kernel
theorem d1_120 : decode method_3_code 120 = .ok (.lload 4, 2) := by decide +kernel
theorem d1_122 : decode method_3_code 122 = .ok (.iconst 5, 1) := by decide +kernel
theorem d1_123 : decode method_3_code 123 = .ok (.invokestatic 9, 3) := by decide +kernel
theorem d1_126 : decode method_3_code 126 = .ok (.i2b, 1) := by decide +kernel
theorem d1_127 : decode method_3_code 127 = .ok (.bastore, 1) := by decide +kernel
theorem d1_128 : decode method_3_code 128 = .ok (.iload_n 1, 1) := by decide +kernel
theorem d1_129 : decode method_3_code 129 = .ok (.iconst 1, 1) := by decide +kernel
theorem d1_130 : decode method_3_code 130 = .ok (.iadd, 1) := by decide +kernel
theorem d1_131 : decode method_3_code 131 = .ok (.istore_n 1, 1) := by decide +kernel
theorem d1_132 : decode method_3_code 132 = .ok (.bipush 6, 2) := by decide +kernel
theorem d1_134 : decode method_3_code 134 = .ok (.iload_n 3, 1) := by decide +kernel
theorem d1_135 : decode method_3_code 135 = .ok (.if_icmp .ge 18, 3) := by decide +kernel
theorem d1_138 : decode method_3_code 138 = .ok (.aload_n 0, 1) := by decide +kernel
theorem d1_139 : decode method_3_code 139 = .ok (.iload_n 1, 1) := by decide +kernel
theorem d1_140 : decode method_3_code 140 = .ok (.lload 4, 2) := by decide +kernel
theorem d1_142 : decode method_3_code 142 = .ok (.bipush 6, 2) := by decide +kernel
theorem d1_144 : decode method_3_code 144 = .ok (.invokestatic 9, 3) := by decide +kernel
theorem d1_147 : decode method_3_code 147 = .ok (.i2b, 1) := by decide +kernel
theorem d1_148 : decode method_3_code 148 = .ok (.bastore, 1) := by decide +kernel
theorem d1_149 : decode method_3_code 149 = .ok (.iload_n 1, 1) := by decide +kernel
theorem d1_150 : decode method_3_code 150 = .ok (.iconst 1, 1) := by decide +kernel
theorem d1_151 : decode method_3_code 151 = .ok (.iadd, 1) := by decide +kernel
theorem d1_152 : decode method_3_code 152 = .ok (.istore_n 1, 1) := by decide +kernel
theorem d1_153 : decode method_3_code 153 = .ok (.bipush 7, 2) := by decide +kernel
theorem d1_155 : decode method_3_code 155 = .ok (.iload_n 3, 1) := by decide +kernel
theorem d1_156 : decode method_3_code 156 = .ok (.if_icmp .ge 18, 3) := by decide +kernel
theorem d1_159 : decode method_3_code 159 = .ok (.aload_n 0, 1) := by decide +kernel
theorem d1_160 : decode method_3_code 160 = .ok (.iload_n 1, 1) := by decide +kernel
theorem d1_161 : decode method_3_code 161 = .ok (.lload 4, 2) := by decide +kernel
theorem d1_163 : decode method_3_code 163 = .ok (.bipush 7, 2) := by decide +kernel
theorem d1_165 : decode method_3_code 165 = .ok (.invokestatic 9, 3) := by decide +kernel
theorem d1_168 : decode method_3_code 168 = .ok (.i2b, 1) := by decide +kernel
theorem d1_169 : decode method_3_code 169 = .ok (.bastore, 1) := by decide +kernel
theorem d1_170 : decode method_3_code 170 = .ok (.iload_n 1, 1) := by decide +kernel
theorem d1_171 : decode method_3_code 171 = .ok (.iconst 1, 1) := by decide +kernel
theorem d1_172 : decode method_3_code 172 = .ok (.iadd, 1) := by decide +kernel
theorem d1_173 : decode method_3_code 173 = .ok (.istore_n 1, 1) := by decide +kernel
theorem d1_174 : decode method_3_code 174 = .ok (.bipush 8, 2) := by decide +kernel
theorem d1_176 : decode method_3_code 176 = .ok (.iload_n 3, 1) := by decide +kernel
theorem d1_177 : decode method_3_code 177 = .ok (.if_icmp .ge 18, 3) := by decide +kernel
theorem d1_180 : decode method_3_code 180 = .ok (.aload_n 0, 1) := by decide +kernel
theorem d1_181 : decode method_3_code 181 = .ok (.iload_n 1, 1) := by decide +kernel
theorem d1_182 : decode method_3_code 182 = .ok (.lload 4, 2) := by decide +kernel
theorem d1_184 : decode method_3_code 184 = .ok (.bipush 8, 2) := by decide +kernel
theorem d1_186 : decode method_3_code 186 = .ok (.invokestatic 9, 3) := by decide +kernel
theorem d1_189 : decode method_3_code 189 = .ok (.i2b, 1) := by decide +kernel
theorem d1_190 : decode method_3_code 190 = .ok (.bastore, 1) := by decide +kernel
theorem d1_191 : decode method_3_code 191 = .ok (.iload_n 1, 1) := by decide +kernel
theorem d1_192 : decode method_3_code 192 = .ok (.iconst 1, 1) := by decide +kernel
theorem d1_193 : decode method_3_code 193 = .ok (.iadd, 1) := by decide +kernel
theorem d1_194 : decode method_3_code 194 = .ok (.istore_n 1, 1) := by decide +kernel
theorem d1_195 : decode method_3_code 195 = .ok (.iload_n 1, 1) := by decide +kernel
theorem d1_196 : decode method_3_code 196 = .ok (.ireturn, 1) := by decide +kernel
theorem ef_1 (m : MethodId) (x0 : Addr) (x1 : Int32) (x2 : Int32) (x3 : Int32) (x4 : Int64) : entryFrame m #[(.ref x0), (.int x1), (.int x2), (.int x3), (.long x4)] 6 = mkF m 0 #[.val (.ref x0), .val (.int x1), .val (.int x2), .val (.int x3), .val (.long x4), .second] [] := by first | (simp [entryFrame, mkF, argsToLocals, Value.category]; done) | rfl
def Q1 (Z : State) (x0 : Addr) (x1 : Int32) (x2 : Int32) (x3 : Int32) (x4 : Int64) (g : Nat → Int32) (kn : Nat) (fn : Nat) (h0 : Heap) (n0 : Nat) (v : Option Value) (h : Heap) (L : List Loc) : Prop := v = some (.int (Int32.ofNat (kn + 2 + fn))) ∧ Fr n0 L ∧ Keep h0 h [x0] ∧ AB Z h x0 22 (own_wf g kn (i2bI (i2bI x2)) (i2bI (i2bI x3)) x4 fn)
set_option maxRecDepth 65536 in
set_option maxHeartbeats 40000000 in
theorem rm1 (l : Launch) (Z : State) (a0 : Array Value) (hw : ∀ d ∈ tables_1, d.before a0 Z = true) (ws : List Jvm.Cond) (x0 : Addr) (x1 : Int32) (x2 : Int32) (x3 : Int32) (x4 : Int64) (g : Nat → Int32) (kn : Nat) (fn : Nat) (h0 : Heap) (n0 : Nat) (Z0 : n0 ≤ h0.size) (P0 : AB Z h0 x0 22 g) (P1 : n0 ≤ x0) (hk : x1.toInt = kn) (hf : x3.toInt = fn) (hfn : fn ≤ 9) (hkn : kn + 2 + fn ≤ 22) (hk11 : kn ≤ 11) :
    MetFree l (⟨"com/example/terms_in_context/termsincontext/index/PostingsPositionsPinLaw", "writeDoc", "([BIIIJ)I"⟩ : MethodName) (head1 (Jvm.Cond.code (⟨"com/example/terms_in_context/termsincontext/index/PostingsPositionsPinLaw", "writeDoc", "([BIIIJ)I"⟩ : MethodName) method_3_code 6 (some .int) :: ws) ({ frames := 1, cells := 0, slots := 0, locals := 17 } : Room)) (fun a U => a = #[(.ref x0), (.int x1), (.int x2), (.int x3), (.long x4)] ∧ Z.Warmed39 U.vm ∧ U.heap = h0) (fun _ _ _ _ _ => True) (fun _ U o U' => ∃ v L, o = .returned v ∧ Q1 Z x0 x1 x2 x3 x4 g kn fn h0 n0 v U'.heap L ∧ FrameEnd U o U' L ({ frames := 1, cells := 0, slots := 0, locals := 17 } : Room).cells ({ frames := 1, cells := 0, slots := 0, locals := 17 } : Room).slots) := by
  refine g_body (plainFor_of_name pn_2) ?_
  intro p e s m below meth c T0 X0 hx hby hml hret hlk hown hnm hZ e0
  rw [ef_1]
  have N0 := Fr.nil n0
  show Go p e below s _ _ _ (T0.setTop (mkF m 0 #[.val (.ref x0), .val (.int x1), .val (.int x2), .val (.int x3), .val (.long x4), .second] []))
  refine g_aloadN X0 hx 1 (hb hby d1_0) rfl rfl rfl ?_
  show Go p e below s _ _ _ (T0.setTop (mkF m 1 #[.val (.ref x0), .val (.int x1), .val (.int x2), .val (.int x3), .val (.long x4), .second] [(.ref x0)]))
  refine g_iloadN X0 hx 2 (hb hby d1_1) rfl rfl ?_
  show Go p e below s _ _ _ (T0.setTop (mkF m 2 #[.val (.ref x0), .val (.int x1), .val (.int x2), .val (.int x3), .val (.long x4), .second] [(.int x1), (.ref x0)]))
  refine g_iloadN X0 hx 3 (hb hby d1_2) rfl rfl ?_
  show Go p e below s _ _ _ (T0.setTop (mkF m 3 #[.val (.ref x0), .val (.int x1), .val (.int x2), .val (.int x3), .val (.long x4), .second] [(.int x2), (.int x1), (.ref x0)]))
  refine g_i2b X0 hx 4 (hb hby d1_3) rfl ?_
  show Go p e below s _ _ _ (T0.setTop (mkF m 4 #[.val (.ref x0), .val (.int x1), .val (.int x2), .val (.int x3), .val (.long x4), .second] [(.int (i2bI x2)), (.int x1), (.ref x0)]))
  refine g_bastore X0 hx hZ e0 P0 (kn + 0) hk (by omega) 5 (hb hby d1_4) rfl ?_
  intro T1 h1 X1 e1 W1 A1
  have K1 := (Keep.refl h0 [x0]).wr W1 (Or.inl (List.mem_of_getElem? (i := 0) rfl))
  have N1 := Fr.snoc X1 N0 P1
  have Z1 : n0 ≤ h1.size := by rw [W1.size]; exact Z0
  show Go p e below s _ _ _ (T1.setTop (mkF m 5 #[.val (.ref x0), .val (.int x1), .val (.int x2), .val (.int x3), .val (.long x4), .second] []))
  refine g_iloadN X1 hx 6 (hb hby d1_5) rfl rfl ?_
  show Go p e below s _ _ _ (T1.setTop (mkF m 6 #[.val (.ref x0), .val (.int x1), .val (.int x2), .val (.int x3), .val (.long x4), .second] [(.int x1)]))
  refine g_iconst X1 hx (1 : Int32) 7 (hb hby d1_6) rfl rfl ?_
  show Go p e below s _ _ _ (T1.setTop (mkF m 7 #[.val (.ref x0), .val (.int x1), .val (.int x2), .val (.int x3), .val (.long x4), .second] [(.int (1 : Int32)), (.int x1)]))
  refine g_iadd X1 hx 8 (hb hby d1_7) rfl ?_
  show Go p e below s _ _ _ (T1.setTop (mkF m 8 #[.val (.ref x0), .val (.int x1), .val (.int x2), .val (.int x3), .val (.long x4), .second] [(.int (x1 + (1 : Int32)))]))
  refine g_istoreN X1 hx #[.val (.ref x0), .val (.int (x1 + (1 : Int32))), .val (.int x2), .val (.int x3), .val (.long x4), .second] 9 (hb hby d1_8) rfl rfl ?_
  show Go p e below s _ _ _ (T1.setTop (mkF m 9 #[.val (.ref x0), .val (.int (x1 + (1 : Int32))), .val (.int x2), .val (.int x3), .val (.long x4), .second] []))
  refine g_aloadN X1 hx 10 (hb hby d1_9) rfl rfl rfl ?_
  show Go p e below s _ _ _ (T1.setTop (mkF m 10 #[.val (.ref x0), .val (.int (x1 + (1 : Int32))), .val (.int x2), .val (.int x3), .val (.long x4), .second] [(.ref x0)]))
  refine g_iloadN X1 hx 11 (hb hby d1_10) rfl rfl ?_
  show Go p e below s _ _ _ (T1.setTop (mkF m 11 #[.val (.ref x0), .val (.int (x1 + (1 : Int32))), .val (.int x2), .val (.int x3), .val (.long x4), .second] [(.int (x1 + (1 : Int32))), (.ref x0)]))
  refine g_iloadN X1 hx 12 (hb hby d1_11) rfl rfl ?_
  show Go p e below s _ _ _ (T1.setTop (mkF m 12 #[.val (.ref x0), .val (.int (x1 + (1 : Int32))), .val (.int x2), .val (.int x3), .val (.long x4), .second] [(.int x3), (.int (x1 + (1 : Int32))), (.ref x0)]))
  refine g_i2b X1 hx 13 (hb hby d1_12) rfl ?_
  show Go p e below s _ _ _ (T1.setTop (mkF m 13 #[.val (.ref x0), .val (.int (x1 + (1 : Int32))), .val (.int x2), .val (.int x3), .val (.long x4), .second] [(.int (i2bI x3)), (.int (x1 + (1 : Int32))), (.ref x0)]))
  refine g_bastore X1 hx hZ e1 A1 (kn + 1) (own_s1 hk (j := kn + 1) rfl (by omega)) (by omega) 14 (hb hby d1_13) rfl ?_
  intro T2 h2 X2 e2 W2 A2
  have K2 := K1.wr W2 (Or.inl (List.mem_of_getElem? (i := 0) rfl))
  have N2 := Fr.snoc X2 N1 P1
  have Z2 : n0 ≤ h2.size := by rw [W2.size]; exact Z1
  show Go p e below s _ _ _ (T2.setTop (mkF m 14 #[.val (.ref x0), .val (.int (x1 + (1 : Int32))), .val (.int x2), .val (.int x3), .val (.long x4), .second] []))
  refine g_iloadN X2 hx 15 (hb hby d1_14) rfl rfl ?_
  show Go p e below s _ _ _ (T2.setTop (mkF m 15 #[.val (.ref x0), .val (.int (x1 + (1 : Int32))), .val (.int x2), .val (.int x3), .val (.long x4), .second] [(.int (x1 + (1 : Int32)))]))
  refine g_iconst X2 hx (1 : Int32) 16 (hb hby d1_15) rfl rfl ?_
  show Go p e below s _ _ _ (T2.setTop (mkF m 16 #[.val (.ref x0), .val (.int (x1 + (1 : Int32))), .val (.int x2), .val (.int x3), .val (.long x4), .second] [(.int (1 : Int32)), (.int (x1 + (1 : Int32)))]))
  refine g_iadd X2 hx 17 (hb hby d1_16) rfl ?_
  show Go p e below s _ _ _ (T2.setTop (mkF m 17 #[.val (.ref x0), .val (.int (x1 + (1 : Int32))), .val (.int x2), .val (.int x3), .val (.long x4), .second] [(.int ((x1 + (1 : Int32)) + (1 : Int32)))]))
  refine g_istoreN X2 hx #[.val (.ref x0), .val (.int ((x1 + (1 : Int32)) + (1 : Int32))), .val (.int x2), .val (.int x3), .val (.long x4), .second] 18 (hb hby d1_17) rfl rfl ?_
  show Go p e below s _ _ _ (T2.setTop (mkF m 18 #[.val (.ref x0), .val (.int ((x1 + (1 : Int32)) + (1 : Int32))), .val (.int x2), .val (.int x3), .val (.long x4), .second] []))
  refine g_iconst X2 hx (0 : Int32) 19 (hb hby d1_18) rfl rfl ?_
  show Go p e below s _ _ _ (T2.setTop (mkF m 19 #[.val (.ref x0), .val (.int ((x1 + (1 : Int32)) + (1 : Int32))), .val (.int x2), .val (.int x3), .val (.long x4), .second] [(.int (0 : Int32))]))
  refine g_iloadN X2 hx 20 (hb hby d1_19) rfl rfl ?_
  show Go p e below s _ _ _ (T2.setTop (mkF m 20 #[.val (.ref x0), .val (.int ((x1 + (1 : Int32)) + (1 : Int32))), .val (.int x2), .val (.int x3), .val (.long x4), .second] [(.int x3), (.int (0 : Int32))]))
  refine g_icmp_ge X2 hx 37 23 (hb hby d1_20) (by decide) rfl rfl (fun h3 => ?_) (fun h3 => ?_)
  · show Go p e below s _ _ _ (T2.setTop (mkF m 23 #[.val (.ref x0), .val (.int ((x1 + (1 : Int32)) + (1 : Int32))), .val (.int x2), .val (.int x3), .val (.long x4), .second] []))
    refine g_aloadN X2 hx 24 (hb hby d1_23) rfl rfl rfl ?_
    show Go p e below s _ _ _ (T2.setTop (mkF m 24 #[.val (.ref x0), .val (.int ((x1 + (1 : Int32)) + (1 : Int32))), .val (.int x2), .val (.int x3), .val (.long x4), .second] [(.ref x0)]))
    refine g_iloadN X2 hx 25 (hb hby d1_24) rfl rfl ?_
    show Go p e below s _ _ _ (T2.setTop (mkF m 25 #[.val (.ref x0), .val (.int ((x1 + (1 : Int32)) + (1 : Int32))), .val (.int x2), .val (.int x3), .val (.long x4), .second] [(.int ((x1 + (1 : Int32)) + (1 : Int32))), (.ref x0)]))
    refine g_lload X2 hx 27 (hb hby d1_25) rfl rfl ?_
    show Go p e below s _ _ _ (T2.setTop (mkF m 27 #[.val (.ref x0), .val (.int ((x1 + (1 : Int32)) + (1 : Int32))), .val (.int x2), .val (.int x3), .val (.long x4), .second] [(.long x4), (.int ((x1 + (1 : Int32)) + (1 : Int32))), (.ref x0)]))
    refine g_iconst X2 hx (0 : Int32) 28 (hb hby d1_27) rfl rfl ?_
    show Go p e below s _ _ _ (T2.setTop (mkF m 28 #[.val (.ref x0), .val (.int ((x1 + (1 : Int32)) + (1 : Int32))), .val (.int x2), .val (.int x3), .val (.long x4), .second] [(.int (0 : Int32)), (.long x4), (.int ((x1 + (1 : Int32)) + (1 : Int32))), (.ref x0)]))
    refine g_callS X2 hx hZ hown (hw _ (List.mem_of_getElem? (i := 6) rfl)) (hw _ (List.mem_of_getElem? (i := 7) rfl)) (hw _ (List.mem_of_getElem? (i := 4) rfl)) (hw _ (List.mem_of_getElem? (i := 8) rfl)) (by decide) e2 (rm2 l Z a0 hw [] x4 (0 : Int32) h2) [(.long x4), (.int (0 : Int32))] [(.int ((x1 + (1 : Int32)) + (1 : Int32))), (.ref x0)] 2 rfl (lenOf pd__28JI_29I rfl) rfl (Nat.le_of_eq rfl) (by decide) (by decide) (by decide) (by decide) (by rw [hml]; rfl) (hb hby d1_28) ?_
    intro T4 L4 v4 X4 q4
    obtain ⟨rfl, rfl, e4⟩ := q4
    have NS4 := Fr.app N2 (Fr.nil n0)
    show Go p e below s _ _ _ (T4.setTop (mkF m 31 #[.val (.ref x0), .val (.int ((x1 + (1 : Int32)) + (1 : Int32))), .val (.int x2), .val (.int x3), .val (.long x4), .second] [(.int (f2 x4 (0 : Int32))), (.int ((x1 + (1 : Int32)) + (1 : Int32))), (.ref x0)]))
    refine g_i2b X4 hx 32 (hb hby d1_31) rfl ?_
    show Go p e below s _ _ _ (T4.setTop (mkF m 32 #[.val (.ref x0), .val (.int ((x1 + (1 : Int32)) + (1 : Int32))), .val (.int x2), .val (.int x3), .val (.long x4), .second] [(.int (i2bI (f2 x4 (0 : Int32)))), (.int ((x1 + (1 : Int32)) + (1 : Int32))), (.ref x0)]))
    refine g_bastore X4 hx hZ e4 A2 (kn + 2) (own_s1 (own_s1 hk (j := kn + 1) rfl (by omega)) (j := kn + 2) rfl (by omega)) (by omega) 33 (hb hby d1_32) rfl ?_
    intro T5 h5 X5 e5 W5 A5
    have K5 := K2.wr W5 (Or.inl (List.mem_of_getElem? (i := 0) rfl))
    have N5 := Fr.snoc X5 NS4 P1
    have Z5 : n0 ≤ h5.size := by rw [W5.size]; exact Z2
    show Go p e below s _ _ _ (T5.setTop (mkF m 33 #[.val (.ref x0), .val (.int ((x1 + (1 : Int32)) + (1 : Int32))), .val (.int x2), .val (.int x3), .val (.long x4), .second] []))
    refine g_iloadN X5 hx 34 (hb hby d1_33) rfl rfl ?_
    show Go p e below s _ _ _ (T5.setTop (mkF m 34 #[.val (.ref x0), .val (.int ((x1 + (1 : Int32)) + (1 : Int32))), .val (.int x2), .val (.int x3), .val (.long x4), .second] [(.int ((x1 + (1 : Int32)) + (1 : Int32)))]))
    refine g_iconst X5 hx (1 : Int32) 35 (hb hby d1_34) rfl rfl ?_
    show Go p e below s _ _ _ (T5.setTop (mkF m 35 #[.val (.ref x0), .val (.int ((x1 + (1 : Int32)) + (1 : Int32))), .val (.int x2), .val (.int x3), .val (.long x4), .second] [(.int (1 : Int32)), (.int ((x1 + (1 : Int32)) + (1 : Int32)))]))
    refine g_iadd X5 hx 36 (hb hby d1_35) rfl ?_
    show Go p e below s _ _ _ (T5.setTop (mkF m 36 #[.val (.ref x0), .val (.int ((x1 + (1 : Int32)) + (1 : Int32))), .val (.int x2), .val (.int x3), .val (.long x4), .second] [(.int (((x1 + (1 : Int32)) + (1 : Int32)) + (1 : Int32)))]))
    refine g_istoreN X5 hx #[.val (.ref x0), .val (.int (((x1 + (1 : Int32)) + (1 : Int32)) + (1 : Int32))), .val (.int x2), .val (.int x3), .val (.long x4), .second] 37 (hb hby d1_36) rfl rfl ?_
    show Go p e below s _ _ _ (T5.setTop (mkF m 37 #[.val (.ref x0), .val (.int (((x1 + (1 : Int32)) + (1 : Int32)) + (1 : Int32))), .val (.int x2), .val (.int x3), .val (.long x4), .second] []))
    refine g_iconst X5 hx (1 : Int32) 38 (hb hby d1_37) rfl rfl ?_
    show Go p e below s _ _ _ (T5.setTop (mkF m 38 #[.val (.ref x0), .val (.int (((x1 + (1 : Int32)) + (1 : Int32)) + (1 : Int32))), .val (.int x2), .val (.int x3), .val (.long x4), .second] [(.int (1 : Int32))]))
    refine g_iloadN X5 hx 39 (hb hby d1_38) rfl rfl ?_
    show Go p e below s _ _ _ (T5.setTop (mkF m 39 #[.val (.ref x0), .val (.int (((x1 + (1 : Int32)) + (1 : Int32)) + (1 : Int32))), .val (.int x2), .val (.int x3), .val (.long x4), .second] [(.int x3), (.int (1 : Int32))]))
    refine g_icmp_ge X5 hx 56 42 (hb hby d1_39) (by decide) rfl rfl (fun h6 => ?_) (fun h6 => ?_)
    · show Go p e below s _ _ _ (T5.setTop (mkF m 42 #[.val (.ref x0), .val (.int (((x1 + (1 : Int32)) + (1 : Int32)) + (1 : Int32))), .val (.int x2), .val (.int x3), .val (.long x4), .second] []))
      refine g_aloadN X5 hx 43 (hb hby d1_42) rfl rfl rfl ?_
      show Go p e below s _ _ _ (T5.setTop (mkF m 43 #[.val (.ref x0), .val (.int (((x1 + (1 : Int32)) + (1 : Int32)) + (1 : Int32))), .val (.int x2), .val (.int x3), .val (.long x4), .second] [(.ref x0)]))
      refine g_iloadN X5 hx 44 (hb hby d1_43) rfl rfl ?_
      show Go p e below s _ _ _ (T5.setTop (mkF m 44 #[.val (.ref x0), .val (.int (((x1 + (1 : Int32)) + (1 : Int32)) + (1 : Int32))), .val (.int x2), .val (.int x3), .val (.long x4), .second] [(.int (((x1 + (1 : Int32)) + (1 : Int32)) + (1 : Int32))), (.ref x0)]))
      refine g_lload X5 hx 46 (hb hby d1_44) rfl rfl ?_
      show Go p e below s _ _ _ (T5.setTop (mkF m 46 #[.val (.ref x0), .val (.int (((x1 + (1 : Int32)) + (1 : Int32)) + (1 : Int32))), .val (.int x2), .val (.int x3), .val (.long x4), .second] [(.long x4), (.int (((x1 + (1 : Int32)) + (1 : Int32)) + (1 : Int32))), (.ref x0)]))
      refine g_iconst X5 hx (1 : Int32) 47 (hb hby d1_46) rfl rfl ?_
      show Go p e below s _ _ _ (T5.setTop (mkF m 47 #[.val (.ref x0), .val (.int (((x1 + (1 : Int32)) + (1 : Int32)) + (1 : Int32))), .val (.int x2), .val (.int x3), .val (.long x4), .second] [(.int (1 : Int32)), (.long x4), (.int (((x1 + (1 : Int32)) + (1 : Int32)) + (1 : Int32))), (.ref x0)]))
      refine g_callS X5 hx hZ hown (hw _ (List.mem_of_getElem? (i := 6) rfl)) (hw _ (List.mem_of_getElem? (i := 7) rfl)) (hw _ (List.mem_of_getElem? (i := 4) rfl)) (hw _ (List.mem_of_getElem? (i := 8) rfl)) (by decide) e5 (rm2 l Z a0 hw [] x4 (1 : Int32) h5) [(.long x4), (.int (1 : Int32))] [(.int (((x1 + (1 : Int32)) + (1 : Int32)) + (1 : Int32))), (.ref x0)] 2 rfl (lenOf pd__28JI_29I rfl) rfl (Nat.le_of_eq rfl) (by decide) (by decide) (by decide) (by decide) (by rw [hml]; rfl) (hb hby d1_47) ?_
      intro T7 L7 v7 X7 q7
      obtain ⟨rfl, rfl, e7⟩ := q7
      have NS7 := Fr.app N5 (Fr.nil n0)
      show Go p e below s _ _ _ (T7.setTop (mkF m 50 #[.val (.ref x0), .val (.int (((x1 + (1 : Int32)) + (1 : Int32)) + (1 : Int32))), .val (.int x2), .val (.int x3), .val (.long x4), .second] [(.int (f2 x4 (1 : Int32))), (.int (((x1 + (1 : Int32)) + (1 : Int32)) + (1 : Int32))), (.ref x0)]))
      refine g_i2b X7 hx 51 (hb hby d1_50) rfl ?_
      show Go p e below s _ _ _ (T7.setTop (mkF m 51 #[.val (.ref x0), .val (.int (((x1 + (1 : Int32)) + (1 : Int32)) + (1 : Int32))), .val (.int x2), .val (.int x3), .val (.long x4), .second] [(.int (i2bI (f2 x4 (1 : Int32)))), (.int (((x1 + (1 : Int32)) + (1 : Int32)) + (1 : Int32))), (.ref x0)]))
      refine g_bastore X7 hx hZ e7 A5 (kn + 3) (own_s1 (own_s1 (own_s1 hk (j := kn + 1) rfl (by omega)) (j := kn + 2) rfl (by omega)) (j := kn + 3) rfl (by omega)) (by omega) 52 (hb hby d1_51) rfl ?_
      intro T8 h8 X8 e8 W8 A8
      have K8 := K5.wr W8 (Or.inl (List.mem_of_getElem? (i := 0) rfl))
      have N8 := Fr.snoc X8 NS7 P1
      have Z8 : n0 ≤ h8.size := by rw [W8.size]; exact Z5
      show Go p e below s _ _ _ (T8.setTop (mkF m 52 #[.val (.ref x0), .val (.int (((x1 + (1 : Int32)) + (1 : Int32)) + (1 : Int32))), .val (.int x2), .val (.int x3), .val (.long x4), .second] []))
      refine g_iloadN X8 hx 53 (hb hby d1_52) rfl rfl ?_
      show Go p e below s _ _ _ (T8.setTop (mkF m 53 #[.val (.ref x0), .val (.int (((x1 + (1 : Int32)) + (1 : Int32)) + (1 : Int32))), .val (.int x2), .val (.int x3), .val (.long x4), .second] [(.int (((x1 + (1 : Int32)) + (1 : Int32)) + (1 : Int32)))]))
      refine g_iconst X8 hx (1 : Int32) 54 (hb hby d1_53) rfl rfl ?_
      show Go p e below s _ _ _ (T8.setTop (mkF m 54 #[.val (.ref x0), .val (.int (((x1 + (1 : Int32)) + (1 : Int32)) + (1 : Int32))), .val (.int x2), .val (.int x3), .val (.long x4), .second] [(.int (1 : Int32)), (.int (((x1 + (1 : Int32)) + (1 : Int32)) + (1 : Int32)))]))
      refine g_iadd X8 hx 55 (hb hby d1_54) rfl ?_
      show Go p e below s _ _ _ (T8.setTop (mkF m 55 #[.val (.ref x0), .val (.int (((x1 + (1 : Int32)) + (1 : Int32)) + (1 : Int32))), .val (.int x2), .val (.int x3), .val (.long x4), .second] [(.int ((((x1 + (1 : Int32)) + (1 : Int32)) + (1 : Int32)) + (1 : Int32)))]))
      refine g_istoreN X8 hx #[.val (.ref x0), .val (.int ((((x1 + (1 : Int32)) + (1 : Int32)) + (1 : Int32)) + (1 : Int32))), .val (.int x2), .val (.int x3), .val (.long x4), .second] 56 (hb hby d1_55) rfl rfl ?_
      show Go p e below s _ _ _ (T8.setTop (mkF m 56 #[.val (.ref x0), .val (.int ((((x1 + (1 : Int32)) + (1 : Int32)) + (1 : Int32)) + (1 : Int32))), .val (.int x2), .val (.int x3), .val (.long x4), .second] []))
      refine g_iconst X8 hx (2 : Int32) 57 (hb hby d1_56) rfl rfl ?_
      show Go p e below s _ _ _ (T8.setTop (mkF m 57 #[.val (.ref x0), .val (.int ((((x1 + (1 : Int32)) + (1 : Int32)) + (1 : Int32)) + (1 : Int32))), .val (.int x2), .val (.int x3), .val (.long x4), .second] [(.int (2 : Int32))]))
      refine g_iloadN X8 hx 58 (hb hby d1_57) rfl rfl ?_
      show Go p e below s _ _ _ (T8.setTop (mkF m 58 #[.val (.ref x0), .val (.int ((((x1 + (1 : Int32)) + (1 : Int32)) + (1 : Int32)) + (1 : Int32))), .val (.int x2), .val (.int x3), .val (.long x4), .second] [(.int x3), (.int (2 : Int32))]))
      refine g_icmp_ge X8 hx 75 61 (hb hby d1_58) (by decide) rfl rfl (fun h9 => ?_) (fun h9 => ?_)
      · show Go p e below s _ _ _ (T8.setTop (mkF m 61 #[.val (.ref x0), .val (.int ((((x1 + (1 : Int32)) + (1 : Int32)) + (1 : Int32)) + (1 : Int32))), .val (.int x2), .val (.int x3), .val (.long x4), .second] []))
        refine g_aloadN X8 hx 62 (hb hby d1_61) rfl rfl rfl ?_
        show Go p e below s _ _ _ (T8.setTop (mkF m 62 #[.val (.ref x0), .val (.int ((((x1 + (1 : Int32)) + (1 : Int32)) + (1 : Int32)) + (1 : Int32))), .val (.int x2), .val (.int x3), .val (.long x4), .second] [(.ref x0)]))
        refine g_iloadN X8 hx 63 (hb hby d1_62) rfl rfl ?_
        show Go p e below s _ _ _ (T8.setTop (mkF m 63 #[.val (.ref x0), .val (.int ((((x1 + (1 : Int32)) + (1 : Int32)) + (1 : Int32)) + (1 : Int32))), .val (.int x2), .val (.int x3), .val (.long x4), .second] [(.int ((((x1 + (1 : Int32)) + (1 : Int32)) + (1 : Int32)) + (1 : Int32))), (.ref x0)]))
        refine g_lload X8 hx 65 (hb hby d1_63) rfl rfl ?_
        show Go p e below s _ _ _ (T8.setTop (mkF m 65 #[.val (.ref x0), .val (.int ((((x1 + (1 : Int32)) + (1 : Int32)) + (1 : Int32)) + (1 : Int32))), .val (.int x2), .val (.int x3), .val (.long x4), .second] [(.long x4), (.int ((((x1 + (1 : Int32)) + (1 : Int32)) + (1 : Int32)) + (1 : Int32))), (.ref x0)]))
        refine g_iconst X8 hx (2 : Int32) 66 (hb hby d1_65) rfl rfl ?_
        show Go p e below s _ _ _ (T8.setTop (mkF m 66 #[.val (.ref x0), .val (.int ((((x1 + (1 : Int32)) + (1 : Int32)) + (1 : Int32)) + (1 : Int32))), .val (.int x2), .val (.int x3), .val (.long x4), .second] [(.int (2 : Int32)), (.long x4), (.int ((((x1 + (1 : Int32)) + (1 : Int32)) + (1 : Int32)) + (1 : Int32))), (.ref x0)]))
        refine g_callS X8 hx hZ hown (hw _ (List.mem_of_getElem? (i := 6) rfl)) (hw _ (List.mem_of_getElem? (i := 7) rfl)) (hw _ (List.mem_of_getElem? (i := 4) rfl)) (hw _ (List.mem_of_getElem? (i := 8) rfl)) (by decide) e8 (rm2 l Z a0 hw [] x4 (2 : Int32) h8) [(.long x4), (.int (2 : Int32))] [(.int ((((x1 + (1 : Int32)) + (1 : Int32)) + (1 : Int32)) + (1 : Int32))), (.ref x0)] 2 rfl (lenOf pd__28JI_29I rfl) rfl (Nat.le_of_eq rfl) (by decide) (by decide) (by decide) (by decide) (by rw [hml]; rfl) (hb hby d1_66) ?_
        intro T10 L10 v10 X10 q10
        obtain ⟨rfl, rfl, e10⟩ := q10
        have NS10 := Fr.app N8 (Fr.nil n0)
        show Go p e below s _ _ _ (T10.setTop (mkF m 69 #[.val (.ref x0), .val (.int ((((x1 + (1 : Int32)) + (1 : Int32)) + (1 : Int32)) + (1 : Int32))), .val (.int x2), .val (.int x3), .val (.long x4), .second] [(.int (f2 x4 (2 : Int32))), (.int ((((x1 + (1 : Int32)) + (1 : Int32)) + (1 : Int32)) + (1 : Int32))), (.ref x0)]))
        refine g_i2b X10 hx 70 (hb hby d1_69) rfl ?_
        show Go p e below s _ _ _ (T10.setTop (mkF m 70 #[.val (.ref x0), .val (.int ((((x1 + (1 : Int32)) + (1 : Int32)) + (1 : Int32)) + (1 : Int32))), .val (.int x2), .val (.int x3), .val (.long x4), .second] [(.int (i2bI (f2 x4 (2 : Int32)))), (.int ((((x1 + (1 : Int32)) + (1 : Int32)) + (1 : Int32)) + (1 : Int32))), (.ref x0)]))
        refine g_bastore X10 hx hZ e10 A8 (kn + 4) (own_s1 (own_s1 (own_s1 (own_s1 hk (j := kn + 1) rfl (by omega)) (j := kn + 2) rfl (by omega)) (j := kn + 3) rfl (by omega)) (j := kn + 4) rfl (by omega)) (by omega) 71 (hb hby d1_70) rfl ?_
        intro T11 h11 X11 e11 W11 A11
        have K11 := K8.wr W11 (Or.inl (List.mem_of_getElem? (i := 0) rfl))
        have N11 := Fr.snoc X11 NS10 P1
        have Z11 : n0 ≤ h11.size := by rw [W11.size]; exact Z8
        show Go p e below s _ _ _ (T11.setTop (mkF m 71 #[.val (.ref x0), .val (.int ((((x1 + (1 : Int32)) + (1 : Int32)) + (1 : Int32)) + (1 : Int32))), .val (.int x2), .val (.int x3), .val (.long x4), .second] []))
        refine g_iloadN X11 hx 72 (hb hby d1_71) rfl rfl ?_
        show Go p e below s _ _ _ (T11.setTop (mkF m 72 #[.val (.ref x0), .val (.int ((((x1 + (1 : Int32)) + (1 : Int32)) + (1 : Int32)) + (1 : Int32))), .val (.int x2), .val (.int x3), .val (.long x4), .second] [(.int ((((x1 + (1 : Int32)) + (1 : Int32)) + (1 : Int32)) + (1 : Int32)))]))
        refine g_iconst X11 hx (1 : Int32) 73 (hb hby d1_72) rfl rfl ?_
        show Go p e below s _ _ _ (T11.setTop (mkF m 73 #[.val (.ref x0), .val (.int ((((x1 + (1 : Int32)) + (1 : Int32)) + (1 : Int32)) + (1 : Int32))), .val (.int x2), .val (.int x3), .val (.long x4), .second] [(.int (1 : Int32)), (.int ((((x1 + (1 : Int32)) + (1 : Int32)) + (1 : Int32)) + (1 : Int32)))]))
        refine g_iadd X11 hx 74 (hb hby d1_73) rfl ?_
        show Go p e below s _ _ _ (T11.setTop (mkF m 74 #[.val (.ref x0), .val (.int ((((x1 + (1 : Int32)) + (1 : Int32)) + (1 : Int32)) + (1 : Int32))), .val (.int x2), .val (.int x3), .val (.long x4), .second] [(.int (((((x1 + (1 : Int32)) + (1 : Int32)) + (1 : Int32)) + (1 : Int32)) + (1 : Int32)))]))
        refine g_istoreN X11 hx #[.val (.ref x0), .val (.int (((((x1 + (1 : Int32)) + (1 : Int32)) + (1 : Int32)) + (1 : Int32)) + (1 : Int32))), .val (.int x2), .val (.int x3), .val (.long x4), .second] 75 (hb hby d1_74) rfl rfl ?_
        show Go p e below s _ _ _ (T11.setTop (mkF m 75 #[.val (.ref x0), .val (.int (((((x1 + (1 : Int32)) + (1 : Int32)) + (1 : Int32)) + (1 : Int32)) + (1 : Int32))), .val (.int x2), .val (.int x3), .val (.long x4), .second] []))
        refine g_iconst X11 hx (3 : Int32) 76 (hb hby d1_75) rfl rfl ?_
        show Go p e below s _ _ _ (T11.setTop (mkF m 76 #[.val (.ref x0), .val (.int (((((x1 + (1 : Int32)) + (1 : Int32)) + (1 : Int32)) + (1 : Int32)) + (1 : Int32))), .val (.int x2), .val (.int x3), .val (.long x4), .second] [(.int (3 : Int32))]))
        refine g_iloadN X11 hx 77 (hb hby d1_76) rfl rfl ?_
        show Go p e below s _ _ _ (T11.setTop (mkF m 77 #[.val (.ref x0), .val (.int (((((x1 + (1 : Int32)) + (1 : Int32)) + (1 : Int32)) + (1 : Int32)) + (1 : Int32))), .val (.int x2), .val (.int x3), .val (.long x4), .second] [(.int x3), (.int (3 : Int32))]))
        refine g_icmp_ge X11 hx 94 80 (hb hby d1_77) (by decide) rfl rfl (fun h12 => ?_) (fun h12 => ?_)
        · show Go p e below s _ _ _ (T11.setTop (mkF m 80 #[.val (.ref x0), .val (.int (((((x1 + (1 : Int32)) + (1 : Int32)) + (1 : Int32)) + (1 : Int32)) + (1 : Int32))), .val (.int x2), .val (.int x3), .val (.long x4), .second] []))
          refine g_aloadN X11 hx 81 (hb hby d1_80) rfl rfl rfl ?_
          show Go p e below s _ _ _ (T11.setTop (mkF m 81 #[.val (.ref x0), .val (.int (((((x1 + (1 : Int32)) + (1 : Int32)) + (1 : Int32)) + (1 : Int32)) + (1 : Int32))), .val (.int x2), .val (.int x3), .val (.long x4), .second] [(.ref x0)]))
          refine g_iloadN X11 hx 82 (hb hby d1_81) rfl rfl ?_
          show Go p e below s _ _ _ (T11.setTop (mkF m 82 #[.val (.ref x0), .val (.int (((((x1 + (1 : Int32)) + (1 : Int32)) + (1 : Int32)) + (1 : Int32)) + (1 : Int32))), .val (.int x2), .val (.int x3), .val (.long x4), .second] [(.int (((((x1 + (1 : Int32)) + (1 : Int32)) + (1 : Int32)) + (1 : Int32)) + (1 : Int32))), (.ref x0)]))
          refine g_lload X11 hx 84 (hb hby d1_82) rfl rfl ?_
          show Go p e below s _ _ _ (T11.setTop (mkF m 84 #[.val (.ref x0), .val (.int (((((x1 + (1 : Int32)) + (1 : Int32)) + (1 : Int32)) + (1 : Int32)) + (1 : Int32))), .val (.int x2), .val (.int x3), .val (.long x4), .second] [(.long x4), (.int (((((x1 + (1 : Int32)) + (1 : Int32)) + (1 : Int32)) + (1 : Int32)) + (1 : Int32))), (.ref x0)]))
          refine g_iconst X11 hx (3 : Int32) 85 (hb hby d1_84) rfl rfl ?_
          show Go p e below s _ _ _ (T11.setTop (mkF m 85 #[.val (.ref x0), .val (.int (((((x1 + (1 : Int32)) + (1 : Int32)) + (1 : Int32)) + (1 : Int32)) + (1 : Int32))), .val (.int x2), .val (.int x3), .val (.long x4), .second] [(.int (3 : Int32)), (.long x4), (.int (((((x1 + (1 : Int32)) + (1 : Int32)) + (1 : Int32)) + (1 : Int32)) + (1 : Int32))), (.ref x0)]))
          refine g_callS X11 hx hZ hown (hw _ (List.mem_of_getElem? (i := 6) rfl)) (hw _ (List.mem_of_getElem? (i := 7) rfl)) (hw _ (List.mem_of_getElem? (i := 4) rfl)) (hw _ (List.mem_of_getElem? (i := 8) rfl)) (by decide) e11 (rm2 l Z a0 hw [] x4 (3 : Int32) h11) [(.long x4), (.int (3 : Int32))] [(.int (((((x1 + (1 : Int32)) + (1 : Int32)) + (1 : Int32)) + (1 : Int32)) + (1 : Int32))), (.ref x0)] 2 rfl (lenOf pd__28JI_29I rfl) rfl (Nat.le_of_eq rfl) (by decide) (by decide) (by decide) (by decide) (by rw [hml]; rfl) (hb hby d1_85) ?_
          intro T13 L13 v13 X13 q13
          obtain ⟨rfl, rfl, e13⟩ := q13
          have NS13 := Fr.app N11 (Fr.nil n0)
          show Go p e below s _ _ _ (T13.setTop (mkF m 88 #[.val (.ref x0), .val (.int (((((x1 + (1 : Int32)) + (1 : Int32)) + (1 : Int32)) + (1 : Int32)) + (1 : Int32))), .val (.int x2), .val (.int x3), .val (.long x4), .second] [(.int (f2 x4 (3 : Int32))), (.int (((((x1 + (1 : Int32)) + (1 : Int32)) + (1 : Int32)) + (1 : Int32)) + (1 : Int32))), (.ref x0)]))
          refine g_i2b X13 hx 89 (hb hby d1_88) rfl ?_
          show Go p e below s _ _ _ (T13.setTop (mkF m 89 #[.val (.ref x0), .val (.int (((((x1 + (1 : Int32)) + (1 : Int32)) + (1 : Int32)) + (1 : Int32)) + (1 : Int32))), .val (.int x2), .val (.int x3), .val (.long x4), .second] [(.int (i2bI (f2 x4 (3 : Int32)))), (.int (((((x1 + (1 : Int32)) + (1 : Int32)) + (1 : Int32)) + (1 : Int32)) + (1 : Int32))), (.ref x0)]))
          refine g_bastore X13 hx hZ e13 A11 (kn + 5) (own_s1 (own_s1 (own_s1 (own_s1 (own_s1 hk (j := kn + 1) rfl (by omega)) (j := kn + 2) rfl (by omega)) (j := kn + 3) rfl (by omega)) (j := kn + 4) rfl (by omega)) (j := kn + 5) rfl (by omega)) (by omega) 90 (hb hby d1_89) rfl ?_
          intro T14 h14 X14 e14 W14 A14
          have K14 := K11.wr W14 (Or.inl (List.mem_of_getElem? (i := 0) rfl))
          have N14 := Fr.snoc X14 NS13 P1
          have Z14 : n0 ≤ h14.size := by rw [W14.size]; exact Z11
          show Go p e below s _ _ _ (T14.setTop (mkF m 90 #[.val (.ref x0), .val (.int (((((x1 + (1 : Int32)) + (1 : Int32)) + (1 : Int32)) + (1 : Int32)) + (1 : Int32))), .val (.int x2), .val (.int x3), .val (.long x4), .second] []))
          refine g_iloadN X14 hx 91 (hb hby d1_90) rfl rfl ?_
          show Go p e below s _ _ _ (T14.setTop (mkF m 91 #[.val (.ref x0), .val (.int (((((x1 + (1 : Int32)) + (1 : Int32)) + (1 : Int32)) + (1 : Int32)) + (1 : Int32))), .val (.int x2), .val (.int x3), .val (.long x4), .second] [(.int (((((x1 + (1 : Int32)) + (1 : Int32)) + (1 : Int32)) + (1 : Int32)) + (1 : Int32)))]))
          refine g_iconst X14 hx (1 : Int32) 92 (hb hby d1_91) rfl rfl ?_
          show Go p e below s _ _ _ (T14.setTop (mkF m 92 #[.val (.ref x0), .val (.int (((((x1 + (1 : Int32)) + (1 : Int32)) + (1 : Int32)) + (1 : Int32)) + (1 : Int32))), .val (.int x2), .val (.int x3), .val (.long x4), .second] [(.int (1 : Int32)), (.int (((((x1 + (1 : Int32)) + (1 : Int32)) + (1 : Int32)) + (1 : Int32)) + (1 : Int32)))]))
          refine g_iadd X14 hx 93 (hb hby d1_92) rfl ?_
          show Go p e below s _ _ _ (T14.setTop (mkF m 93 #[.val (.ref x0), .val (.int (((((x1 + (1 : Int32)) + (1 : Int32)) + (1 : Int32)) + (1 : Int32)) + (1 : Int32))), .val (.int x2), .val (.int x3), .val (.long x4), .second] [(.int ((((((x1 + (1 : Int32)) + (1 : Int32)) + (1 : Int32)) + (1 : Int32)) + (1 : Int32)) + (1 : Int32)))]))
          refine g_istoreN X14 hx #[.val (.ref x0), .val (.int ((((((x1 + (1 : Int32)) + (1 : Int32)) + (1 : Int32)) + (1 : Int32)) + (1 : Int32)) + (1 : Int32))), .val (.int x2), .val (.int x3), .val (.long x4), .second] 94 (hb hby d1_93) rfl rfl ?_
          show Go p e below s _ _ _ (T14.setTop (mkF m 94 #[.val (.ref x0), .val (.int ((((((x1 + (1 : Int32)) + (1 : Int32)) + (1 : Int32)) + (1 : Int32)) + (1 : Int32)) + (1 : Int32))), .val (.int x2), .val (.int x3), .val (.long x4), .second] []))
          refine g_iconst X14 hx (4 : Int32) 95 (hb hby d1_94) rfl rfl ?_
          show Go p e below s _ _ _ (T14.setTop (mkF m 95 #[.val (.ref x0), .val (.int ((((((x1 + (1 : Int32)) + (1 : Int32)) + (1 : Int32)) + (1 : Int32)) + (1 : Int32)) + (1 : Int32))), .val (.int x2), .val (.int x3), .val (.long x4), .second] [(.int (4 : Int32))]))
          refine g_iloadN X14 hx 96 (hb hby d1_95) rfl rfl ?_
          show Go p e below s _ _ _ (T14.setTop (mkF m 96 #[.val (.ref x0), .val (.int ((((((x1 + (1 : Int32)) + (1 : Int32)) + (1 : Int32)) + (1 : Int32)) + (1 : Int32)) + (1 : Int32))), .val (.int x2), .val (.int x3), .val (.long x4), .second] [(.int x3), (.int (4 : Int32))]))
          refine g_icmp_ge X14 hx 113 99 (hb hby d1_96) (by decide) rfl rfl (fun h15 => ?_) (fun h15 => ?_)
          · show Go p e below s _ _ _ (T14.setTop (mkF m 99 #[.val (.ref x0), .val (.int ((((((x1 + (1 : Int32)) + (1 : Int32)) + (1 : Int32)) + (1 : Int32)) + (1 : Int32)) + (1 : Int32))), .val (.int x2), .val (.int x3), .val (.long x4), .second] []))
            refine g_aloadN X14 hx 100 (hb hby d1_99) rfl rfl rfl ?_
            show Go p e below s _ _ _ (T14.setTop (mkF m 100 #[.val (.ref x0), .val (.int ((((((x1 + (1 : Int32)) + (1 : Int32)) + (1 : Int32)) + (1 : Int32)) + (1 : Int32)) + (1 : Int32))), .val (.int x2), .val (.int x3), .val (.long x4), .second] [(.ref x0)]))
            refine g_iloadN X14 hx 101 (hb hby d1_100) rfl rfl ?_
            show Go p e below s _ _ _ (T14.setTop (mkF m 101 #[.val (.ref x0), .val (.int ((((((x1 + (1 : Int32)) + (1 : Int32)) + (1 : Int32)) + (1 : Int32)) + (1 : Int32)) + (1 : Int32))), .val (.int x2), .val (.int x3), .val (.long x4), .second] [(.int ((((((x1 + (1 : Int32)) + (1 : Int32)) + (1 : Int32)) + (1 : Int32)) + (1 : Int32)) + (1 : Int32))), (.ref x0)]))
            refine g_lload X14 hx 103 (hb hby d1_101) rfl rfl ?_
            show Go p e below s _ _ _ (T14.setTop (mkF m 103 #[.val (.ref x0), .val (.int ((((((x1 + (1 : Int32)) + (1 : Int32)) + (1 : Int32)) + (1 : Int32)) + (1 : Int32)) + (1 : Int32))), .val (.int x2), .val (.int x3), .val (.long x4), .second] [(.long x4), (.int ((((((x1 + (1 : Int32)) + (1 : Int32)) + (1 : Int32)) + (1 : Int32)) + (1 : Int32)) + (1 : Int32))), (.ref x0)]))
            refine g_iconst X14 hx (4 : Int32) 104 (hb hby d1_103) rfl rfl ?_
            show Go p e below s _ _ _ (T14.setTop (mkF m 104 #[.val (.ref x0), .val (.int ((((((x1 + (1 : Int32)) + (1 : Int32)) + (1 : Int32)) + (1 : Int32)) + (1 : Int32)) + (1 : Int32))), .val (.int x2), .val (.int x3), .val (.long x4), .second] [(.int (4 : Int32)), (.long x4), (.int ((((((x1 + (1 : Int32)) + (1 : Int32)) + (1 : Int32)) + (1 : Int32)) + (1 : Int32)) + (1 : Int32))), (.ref x0)]))
            refine g_callS X14 hx hZ hown (hw _ (List.mem_of_getElem? (i := 6) rfl)) (hw _ (List.mem_of_getElem? (i := 7) rfl)) (hw _ (List.mem_of_getElem? (i := 4) rfl)) (hw _ (List.mem_of_getElem? (i := 8) rfl)) (by decide) e14 (rm2 l Z a0 hw [] x4 (4 : Int32) h14) [(.long x4), (.int (4 : Int32))] [(.int ((((((x1 + (1 : Int32)) + (1 : Int32)) + (1 : Int32)) + (1 : Int32)) + (1 : Int32)) + (1 : Int32))), (.ref x0)] 2 rfl (lenOf pd__28JI_29I rfl) rfl (Nat.le_of_eq rfl) (by decide) (by decide) (by decide) (by decide) (by rw [hml]; rfl) (hb hby d1_104) ?_
            intro T16 L16 v16 X16 q16
            obtain ⟨rfl, rfl, e16⟩ := q16
            have NS16 := Fr.app N14 (Fr.nil n0)
            show Go p e below s _ _ _ (T16.setTop (mkF m 107 #[.val (.ref x0), .val (.int ((((((x1 + (1 : Int32)) + (1 : Int32)) + (1 : Int32)) + (1 : Int32)) + (1 : Int32)) + (1 : Int32))), .val (.int x2), .val (.int x3), .val (.long x4), .second] [(.int (f2 x4 (4 : Int32))), (.int ((((((x1 + (1 : Int32)) + (1 : Int32)) + (1 : Int32)) + (1 : Int32)) + (1 : Int32)) + (1 : Int32))), (.ref x0)]))
            refine g_i2b X16 hx 108 (hb hby d1_107) rfl ?_
            show Go p e below s _ _ _ (T16.setTop (mkF m 108 #[.val (.ref x0), .val (.int ((((((x1 + (1 : Int32)) + (1 : Int32)) + (1 : Int32)) + (1 : Int32)) + (1 : Int32)) + (1 : Int32))), .val (.int x2), .val (.int x3), .val (.long x4), .second] [(.int (i2bI (f2 x4 (4 : Int32)))), (.int ((((((x1 + (1 : Int32)) + (1 : Int32)) + (1 : Int32)) + (1 : Int32)) + (1 : Int32)) + (1 : Int32))), (.ref x0)]))
            refine g_bastore X16 hx hZ e16 A14 (kn + 6) (own_s1 (own_s1 (own_s1 (own_s1 (own_s1 (own_s1 hk (j := kn + 1) rfl (by omega)) (j := kn + 2) rfl (by omega)) (j := kn + 3) rfl (by omega)) (j := kn + 4) rfl (by omega)) (j := kn + 5) rfl (by omega)) (j := kn + 6) rfl (by omega)) (by omega) 109 (hb hby d1_108) rfl ?_
            intro T17 h17 X17 e17 W17 A17
            have K17 := K14.wr W17 (Or.inl (List.mem_of_getElem? (i := 0) rfl))
            have N17 := Fr.snoc X17 NS16 P1
            have Z17 : n0 ≤ h17.size := by rw [W17.size]; exact Z14
            show Go p e below s _ _ _ (T17.setTop (mkF m 109 #[.val (.ref x0), .val (.int ((((((x1 + (1 : Int32)) + (1 : Int32)) + (1 : Int32)) + (1 : Int32)) + (1 : Int32)) + (1 : Int32))), .val (.int x2), .val (.int x3), .val (.long x4), .second] []))
            refine g_iloadN X17 hx 110 (hb hby d1_109) rfl rfl ?_
            show Go p e below s _ _ _ (T17.setTop (mkF m 110 #[.val (.ref x0), .val (.int ((((((x1 + (1 : Int32)) + (1 : Int32)) + (1 : Int32)) + (1 : Int32)) + (1 : Int32)) + (1 : Int32))), .val (.int x2), .val (.int x3), .val (.long x4), .second] [(.int ((((((x1 + (1 : Int32)) + (1 : Int32)) + (1 : Int32)) + (1 : Int32)) + (1 : Int32)) + (1 : Int32)))]))
            refine g_iconst X17 hx (1 : Int32) 111 (hb hby d1_110) rfl rfl ?_
            show Go p e below s _ _ _ (T17.setTop (mkF m 111 #[.val (.ref x0), .val (.int ((((((x1 + (1 : Int32)) + (1 : Int32)) + (1 : Int32)) + (1 : Int32)) + (1 : Int32)) + (1 : Int32))), .val (.int x2), .val (.int x3), .val (.long x4), .second] [(.int (1 : Int32)), (.int ((((((x1 + (1 : Int32)) + (1 : Int32)) + (1 : Int32)) + (1 : Int32)) + (1 : Int32)) + (1 : Int32)))]))
            refine g_iadd X17 hx 112 (hb hby d1_111) rfl ?_
            show Go p e below s _ _ _ (T17.setTop (mkF m 112 #[.val (.ref x0), .val (.int ((((((x1 + (1 : Int32)) + (1 : Int32)) + (1 : Int32)) + (1 : Int32)) + (1 : Int32)) + (1 : Int32))), .val (.int x2), .val (.int x3), .val (.long x4), .second] [(.int (((((((x1 + (1 : Int32)) + (1 : Int32)) + (1 : Int32)) + (1 : Int32)) + (1 : Int32)) + (1 : Int32)) + (1 : Int32)))]))
            refine g_istoreN X17 hx #[.val (.ref x0), .val (.int (((((((x1 + (1 : Int32)) + (1 : Int32)) + (1 : Int32)) + (1 : Int32)) + (1 : Int32)) + (1 : Int32)) + (1 : Int32))), .val (.int x2), .val (.int x3), .val (.long x4), .second] 113 (hb hby d1_112) rfl rfl ?_
            show Go p e below s _ _ _ (T17.setTop (mkF m 113 #[.val (.ref x0), .val (.int (((((((x1 + (1 : Int32)) + (1 : Int32)) + (1 : Int32)) + (1 : Int32)) + (1 : Int32)) + (1 : Int32)) + (1 : Int32))), .val (.int x2), .val (.int x3), .val (.long x4), .second] []))
            refine g_iconst X17 hx (5 : Int32) 114 (hb hby d1_113) rfl rfl ?_
            show Go p e below s _ _ _ (T17.setTop (mkF m 114 #[.val (.ref x0), .val (.int (((((((x1 + (1 : Int32)) + (1 : Int32)) + (1 : Int32)) + (1 : Int32)) + (1 : Int32)) + (1 : Int32)) + (1 : Int32))), .val (.int x2), .val (.int x3), .val (.long x4), .second] [(.int (5 : Int32))]))
            refine g_iloadN X17 hx 115 (hb hby d1_114) rfl rfl ?_
            show Go p e below s _ _ _ (T17.setTop (mkF m 115 #[.val (.ref x0), .val (.int (((((((x1 + (1 : Int32)) + (1 : Int32)) + (1 : Int32)) + (1 : Int32)) + (1 : Int32)) + (1 : Int32)) + (1 : Int32))), .val (.int x2), .val (.int x3), .val (.long x4), .second] [(.int x3), (.int (5 : Int32))]))
            refine g_icmp_ge X17 hx 132 118 (hb hby d1_115) (by decide) rfl rfl (fun h18 => ?_) (fun h18 => ?_)
            · show Go p e below s _ _ _ (T17.setTop (mkF m 118 #[.val (.ref x0), .val (.int (((((((x1 + (1 : Int32)) + (1 : Int32)) + (1 : Int32)) + (1 : Int32)) + (1 : Int32)) + (1 : Int32)) + (1 : Int32))), .val (.int x2), .val (.int x3), .val (.long x4), .second] []))
              refine g_aloadN X17 hx 119 (hb hby d1_118) rfl rfl rfl ?_
              show Go p e below s _ _ _ (T17.setTop (mkF m 119 #[.val (.ref x0), .val (.int (((((((x1 + (1 : Int32)) + (1 : Int32)) + (1 : Int32)) + (1 : Int32)) + (1 : Int32)) + (1 : Int32)) + (1 : Int32))), .val (.int x2), .val (.int x3), .val (.long x4), .second] [(.ref x0)]))
              refine g_iloadN X17 hx 120 (hb hby d1_119) rfl rfl ?_
              show Go p e below s _ _ _ (T17.setTop (mkF m 120 #[.val (.ref x0), .val (.int (((((((x1 + (1 : Int32)) + (1 : Int32)) + (1 : Int32)) + (1 : Int32)) + (1 : Int32)) + (1 : Int32)) + (1 : Int32))), .val (.int x2), .val (.int x3), .val (.long x4), .second] [(.int (((((((x1 + (1 : Int32)) + (1 : Int32)) + (1 : Int32)) + (1 : Int32)) + (1 : Int32)) + (1 : Int32)) + (1 : Int32))), (.ref x0)]))
              refine g_lload X17 hx 122 (hb hby d1_120) rfl rfl ?_
              show Go p e below s _ _ _ (T17.setTop (mkF m 122 #[.val (.ref x0), .val (.int (((((((x1 + (1 : Int32)) + (1 : Int32)) + (1 : Int32)) + (1 : Int32)) + (1 : Int32)) + (1 : Int32)) + (1 : Int32))), .val (.int x2), .val (.int x3), .val (.long x4), .second] [(.long x4), (.int (((((((x1 + (1 : Int32)) + (1 : Int32)) + (1 : Int32)) + (1 : Int32)) + (1 : Int32)) + (1 : Int32)) + (1 : Int32))), (.ref x0)]))
              refine g_iconst X17 hx (5 : Int32) 123 (hb hby d1_122) rfl rfl ?_
              show Go p e below s _ _ _ (T17.setTop (mkF m 123 #[.val (.ref x0), .val (.int (((((((x1 + (1 : Int32)) + (1 : Int32)) + (1 : Int32)) + (1 : Int32)) + (1 : Int32)) + (1 : Int32)) + (1 : Int32))), .val (.int x2), .val (.int x3), .val (.long x4), .second] [(.int (5 : Int32)), (.long x4), (.int (((((((x1 + (1 : Int32)) + (1 : Int32)) + (1 : Int32)) + (1 : Int32)) + (1 : Int32)) + (1 : Int32)) + (1 : Int32))), (.ref x0)]))
              refine g_callS X17 hx hZ hown (hw _ (List.mem_of_getElem? (i := 6) rfl)) (hw _ (List.mem_of_getElem? (i := 7) rfl)) (hw _ (List.mem_of_getElem? (i := 4) rfl)) (hw _ (List.mem_of_getElem? (i := 8) rfl)) (by decide) e17 (rm2 l Z a0 hw [] x4 (5 : Int32) h17) [(.long x4), (.int (5 : Int32))] [(.int (((((((x1 + (1 : Int32)) + (1 : Int32)) + (1 : Int32)) + (1 : Int32)) + (1 : Int32)) + (1 : Int32)) + (1 : Int32))), (.ref x0)] 2 rfl (lenOf pd__28JI_29I rfl) rfl (Nat.le_of_eq rfl) (by decide) (by decide) (by decide) (by decide) (by rw [hml]; rfl) (hb hby d1_123) ?_
              intro T19 L19 v19 X19 q19
              obtain ⟨rfl, rfl, e19⟩ := q19
              have NS19 := Fr.app N17 (Fr.nil n0)
              show Go p e below s _ _ _ (T19.setTop (mkF m 126 #[.val (.ref x0), .val (.int (((((((x1 + (1 : Int32)) + (1 : Int32)) + (1 : Int32)) + (1 : Int32)) + (1 : Int32)) + (1 : Int32)) + (1 : Int32))), .val (.int x2), .val (.int x3), .val (.long x4), .second] [(.int (f2 x4 (5 : Int32))), (.int (((((((x1 + (1 : Int32)) + (1 : Int32)) + (1 : Int32)) + (1 : Int32)) + (1 : Int32)) + (1 : Int32)) + (1 : Int32))), (.ref x0)]))
              refine g_i2b X19 hx 127 (hb hby d1_126) rfl ?_
              show Go p e below s _ _ _ (T19.setTop (mkF m 127 #[.val (.ref x0), .val (.int (((((((x1 + (1 : Int32)) + (1 : Int32)) + (1 : Int32)) + (1 : Int32)) + (1 : Int32)) + (1 : Int32)) + (1 : Int32))), .val (.int x2), .val (.int x3), .val (.long x4), .second] [(.int (i2bI (f2 x4 (5 : Int32)))), (.int (((((((x1 + (1 : Int32)) + (1 : Int32)) + (1 : Int32)) + (1 : Int32)) + (1 : Int32)) + (1 : Int32)) + (1 : Int32))), (.ref x0)]))
              refine g_bastore X19 hx hZ e19 A17 (kn + 7) (own_s1 (own_s1 (own_s1 (own_s1 (own_s1 (own_s1 (own_s1 hk (j := kn + 1) rfl (by omega)) (j := kn + 2) rfl (by omega)) (j := kn + 3) rfl (by omega)) (j := kn + 4) rfl (by omega)) (j := kn + 5) rfl (by omega)) (j := kn + 6) rfl (by omega)) (j := kn + 7) rfl (by omega)) (by omega) 128 (hb hby d1_127) rfl ?_
              intro T20 h20 X20 e20 W20 A20
              have K20 := K17.wr W20 (Or.inl (List.mem_of_getElem? (i := 0) rfl))
              have N20 := Fr.snoc X20 NS19 P1
              have Z20 : n0 ≤ h20.size := by rw [W20.size]; exact Z17
              show Go p e below s _ _ _ (T20.setTop (mkF m 128 #[.val (.ref x0), .val (.int (((((((x1 + (1 : Int32)) + (1 : Int32)) + (1 : Int32)) + (1 : Int32)) + (1 : Int32)) + (1 : Int32)) + (1 : Int32))), .val (.int x2), .val (.int x3), .val (.long x4), .second] []))
              refine g_iloadN X20 hx 129 (hb hby d1_128) rfl rfl ?_
              show Go p e below s _ _ _ (T20.setTop (mkF m 129 #[.val (.ref x0), .val (.int (((((((x1 + (1 : Int32)) + (1 : Int32)) + (1 : Int32)) + (1 : Int32)) + (1 : Int32)) + (1 : Int32)) + (1 : Int32))), .val (.int x2), .val (.int x3), .val (.long x4), .second] [(.int (((((((x1 + (1 : Int32)) + (1 : Int32)) + (1 : Int32)) + (1 : Int32)) + (1 : Int32)) + (1 : Int32)) + (1 : Int32)))]))
              refine g_iconst X20 hx (1 : Int32) 130 (hb hby d1_129) rfl rfl ?_
              show Go p e below s _ _ _ (T20.setTop (mkF m 130 #[.val (.ref x0), .val (.int (((((((x1 + (1 : Int32)) + (1 : Int32)) + (1 : Int32)) + (1 : Int32)) + (1 : Int32)) + (1 : Int32)) + (1 : Int32))), .val (.int x2), .val (.int x3), .val (.long x4), .second] [(.int (1 : Int32)), (.int (((((((x1 + (1 : Int32)) + (1 : Int32)) + (1 : Int32)) + (1 : Int32)) + (1 : Int32)) + (1 : Int32)) + (1 : Int32)))]))
              refine g_iadd X20 hx 131 (hb hby d1_130) rfl ?_
              show Go p e below s _ _ _ (T20.setTop (mkF m 131 #[.val (.ref x0), .val (.int (((((((x1 + (1 : Int32)) + (1 : Int32)) + (1 : Int32)) + (1 : Int32)) + (1 : Int32)) + (1 : Int32)) + (1 : Int32))), .val (.int x2), .val (.int x3), .val (.long x4), .second] [(.int ((((((((x1 + (1 : Int32)) + (1 : Int32)) + (1 : Int32)) + (1 : Int32)) + (1 : Int32)) + (1 : Int32)) + (1 : Int32)) + (1 : Int32)))]))
              refine g_istoreN X20 hx #[.val (.ref x0), .val (.int ((((((((x1 + (1 : Int32)) + (1 : Int32)) + (1 : Int32)) + (1 : Int32)) + (1 : Int32)) + (1 : Int32)) + (1 : Int32)) + (1 : Int32))), .val (.int x2), .val (.int x3), .val (.long x4), .second] 132 (hb hby d1_131) rfl rfl ?_
              show Go p e below s _ _ _ (T20.setTop (mkF m 132 #[.val (.ref x0), .val (.int ((((((((x1 + (1 : Int32)) + (1 : Int32)) + (1 : Int32)) + (1 : Int32)) + (1 : Int32)) + (1 : Int32)) + (1 : Int32)) + (1 : Int32))), .val (.int x2), .val (.int x3), .val (.long x4), .second] []))
              refine g_bipush X20 hx (6 : Int32) 134 (hb hby d1_132) rfl rfl ?_
              show Go p e below s _ _ _ (T20.setTop (mkF m 134 #[.val (.ref x0), .val (.int ((((((((x1 + (1 : Int32)) + (1 : Int32)) + (1 : Int32)) + (1 : Int32)) + (1 : Int32)) + (1 : Int32)) + (1 : Int32)) + (1 : Int32))), .val (.int x2), .val (.int x3), .val (.long x4), .second] [(.int (6 : Int32))]))
              refine g_iloadN X20 hx 135 (hb hby d1_134) rfl rfl ?_
              show Go p e below s _ _ _ (T20.setTop (mkF m 135 #[.val (.ref x0), .val (.int ((((((((x1 + (1 : Int32)) + (1 : Int32)) + (1 : Int32)) + (1 : Int32)) + (1 : Int32)) + (1 : Int32)) + (1 : Int32)) + (1 : Int32))), .val (.int x2), .val (.int x3), .val (.long x4), .second] [(.int x3), (.int (6 : Int32))]))
              refine g_icmp_ge X20 hx 153 138 (hb hby d1_135) (by decide) rfl rfl (fun h21 => ?_) (fun h21 => ?_)
              · show Go p e below s _ _ _ (T20.setTop (mkF m 138 #[.val (.ref x0), .val (.int ((((((((x1 + (1 : Int32)) + (1 : Int32)) + (1 : Int32)) + (1 : Int32)) + (1 : Int32)) + (1 : Int32)) + (1 : Int32)) + (1 : Int32))), .val (.int x2), .val (.int x3), .val (.long x4), .second] []))
                refine g_aloadN X20 hx 139 (hb hby d1_138) rfl rfl rfl ?_
                show Go p e below s _ _ _ (T20.setTop (mkF m 139 #[.val (.ref x0), .val (.int ((((((((x1 + (1 : Int32)) + (1 : Int32)) + (1 : Int32)) + (1 : Int32)) + (1 : Int32)) + (1 : Int32)) + (1 : Int32)) + (1 : Int32))), .val (.int x2), .val (.int x3), .val (.long x4), .second] [(.ref x0)]))
                refine g_iloadN X20 hx 140 (hb hby d1_139) rfl rfl ?_
                show Go p e below s _ _ _ (T20.setTop (mkF m 140 #[.val (.ref x0), .val (.int ((((((((x1 + (1 : Int32)) + (1 : Int32)) + (1 : Int32)) + (1 : Int32)) + (1 : Int32)) + (1 : Int32)) + (1 : Int32)) + (1 : Int32))), .val (.int x2), .val (.int x3), .val (.long x4), .second] [(.int ((((((((x1 + (1 : Int32)) + (1 : Int32)) + (1 : Int32)) + (1 : Int32)) + (1 : Int32)) + (1 : Int32)) + (1 : Int32)) + (1 : Int32))), (.ref x0)]))
                refine g_lload X20 hx 142 (hb hby d1_140) rfl rfl ?_
                show Go p e below s _ _ _ (T20.setTop (mkF m 142 #[.val (.ref x0), .val (.int ((((((((x1 + (1 : Int32)) + (1 : Int32)) + (1 : Int32)) + (1 : Int32)) + (1 : Int32)) + (1 : Int32)) + (1 : Int32)) + (1 : Int32))), .val (.int x2), .val (.int x3), .val (.long x4), .second] [(.long x4), (.int ((((((((x1 + (1 : Int32)) + (1 : Int32)) + (1 : Int32)) + (1 : Int32)) + (1 : Int32)) + (1 : Int32)) + (1 : Int32)) + (1 : Int32))), (.ref x0)]))
                refine g_bipush X20 hx (6 : Int32) 144 (hb hby d1_142) rfl rfl ?_
                show Go p e below s _ _ _ (T20.setTop (mkF m 144 #[.val (.ref x0), .val (.int ((((((((x1 + (1 : Int32)) + (1 : Int32)) + (1 : Int32)) + (1 : Int32)) + (1 : Int32)) + (1 : Int32)) + (1 : Int32)) + (1 : Int32))), .val (.int x2), .val (.int x3), .val (.long x4), .second] [(.int (6 : Int32)), (.long x4), (.int ((((((((x1 + (1 : Int32)) + (1 : Int32)) + (1 : Int32)) + (1 : Int32)) + (1 : Int32)) + (1 : Int32)) + (1 : Int32)) + (1 : Int32))), (.ref x0)]))
                refine g_callS X20 hx hZ hown (hw _ (List.mem_of_getElem? (i := 6) rfl)) (hw _ (List.mem_of_getElem? (i := 7) rfl)) (hw _ (List.mem_of_getElem? (i := 4) rfl)) (hw _ (List.mem_of_getElem? (i := 8) rfl)) (by decide) e20 (rm2 l Z a0 hw [] x4 (6 : Int32) h20) [(.long x4), (.int (6 : Int32))] [(.int ((((((((x1 + (1 : Int32)) + (1 : Int32)) + (1 : Int32)) + (1 : Int32)) + (1 : Int32)) + (1 : Int32)) + (1 : Int32)) + (1 : Int32))), (.ref x0)] 2 rfl (lenOf pd__28JI_29I rfl) rfl (Nat.le_of_eq rfl) (by decide) (by decide) (by decide) (by decide) (by rw [hml]; rfl) (hb hby d1_144) ?_
                intro T22 L22 v22 X22 q22
                obtain ⟨rfl, rfl, e22⟩ := q22
                have NS22 := Fr.app N20 (Fr.nil n0)
                show Go p e below s _ _ _ (T22.setTop (mkF m 147 #[.val (.ref x0), .val (.int ((((((((x1 + (1 : Int32)) + (1 : Int32)) + (1 : Int32)) + (1 : Int32)) + (1 : Int32)) + (1 : Int32)) + (1 : Int32)) + (1 : Int32))), .val (.int x2), .val (.int x3), .val (.long x4), .second] [(.int (f2 x4 (6 : Int32))), (.int ((((((((x1 + (1 : Int32)) + (1 : Int32)) + (1 : Int32)) + (1 : Int32)) + (1 : Int32)) + (1 : Int32)) + (1 : Int32)) + (1 : Int32))), (.ref x0)]))
                refine g_i2b X22 hx 148 (hb hby d1_147) rfl ?_
                show Go p e below s _ _ _ (T22.setTop (mkF m 148 #[.val (.ref x0), .val (.int ((((((((x1 + (1 : Int32)) + (1 : Int32)) + (1 : Int32)) + (1 : Int32)) + (1 : Int32)) + (1 : Int32)) + (1 : Int32)) + (1 : Int32))), .val (.int x2), .val (.int x3), .val (.long x4), .second] [(.int (i2bI (f2 x4 (6 : Int32)))), (.int ((((((((x1 + (1 : Int32)) + (1 : Int32)) + (1 : Int32)) + (1 : Int32)) + (1 : Int32)) + (1 : Int32)) + (1 : Int32)) + (1 : Int32))), (.ref x0)]))
                refine g_bastore X22 hx hZ e22 A20 (kn + 8) (own_s1 (own_s1 (own_s1 (own_s1 (own_s1 (own_s1 (own_s1 (own_s1 hk (j := kn + 1) rfl (by omega)) (j := kn + 2) rfl (by omega)) (j := kn + 3) rfl (by omega)) (j := kn + 4) rfl (by omega)) (j := kn + 5) rfl (by omega)) (j := kn + 6) rfl (by omega)) (j := kn + 7) rfl (by omega)) (j := kn + 8) rfl (by omega)) (by omega) 149 (hb hby d1_148) rfl ?_
                intro T23 h23 X23 e23 W23 A23
                have K23 := K20.wr W23 (Or.inl (List.mem_of_getElem? (i := 0) rfl))
                have N23 := Fr.snoc X23 NS22 P1
                have Z23 : n0 ≤ h23.size := by rw [W23.size]; exact Z20
                show Go p e below s _ _ _ (T23.setTop (mkF m 149 #[.val (.ref x0), .val (.int ((((((((x1 + (1 : Int32)) + (1 : Int32)) + (1 : Int32)) + (1 : Int32)) + (1 : Int32)) + (1 : Int32)) + (1 : Int32)) + (1 : Int32))), .val (.int x2), .val (.int x3), .val (.long x4), .second] []))
                refine g_iloadN X23 hx 150 (hb hby d1_149) rfl rfl ?_
                show Go p e below s _ _ _ (T23.setTop (mkF m 150 #[.val (.ref x0), .val (.int ((((((((x1 + (1 : Int32)) + (1 : Int32)) + (1 : Int32)) + (1 : Int32)) + (1 : Int32)) + (1 : Int32)) + (1 : Int32)) + (1 : Int32))), .val (.int x2), .val (.int x3), .val (.long x4), .second] [(.int ((((((((x1 + (1 : Int32)) + (1 : Int32)) + (1 : Int32)) + (1 : Int32)) + (1 : Int32)) + (1 : Int32)) + (1 : Int32)) + (1 : Int32)))]))
                refine g_iconst X23 hx (1 : Int32) 151 (hb hby d1_150) rfl rfl ?_
                show Go p e below s _ _ _ (T23.setTop (mkF m 151 #[.val (.ref x0), .val (.int ((((((((x1 + (1 : Int32)) + (1 : Int32)) + (1 : Int32)) + (1 : Int32)) + (1 : Int32)) + (1 : Int32)) + (1 : Int32)) + (1 : Int32))), .val (.int x2), .val (.int x3), .val (.long x4), .second] [(.int (1 : Int32)), (.int ((((((((x1 + (1 : Int32)) + (1 : Int32)) + (1 : Int32)) + (1 : Int32)) + (1 : Int32)) + (1 : Int32)) + (1 : Int32)) + (1 : Int32)))]))
                refine g_iadd X23 hx 152 (hb hby d1_151) rfl ?_
                show Go p e below s _ _ _ (T23.setTop (mkF m 152 #[.val (.ref x0), .val (.int ((((((((x1 + (1 : Int32)) + (1 : Int32)) + (1 : Int32)) + (1 : Int32)) + (1 : Int32)) + (1 : Int32)) + (1 : Int32)) + (1 : Int32))), .val (.int x2), .val (.int x3), .val (.long x4), .second] [(.int (((((((((x1 + (1 : Int32)) + (1 : Int32)) + (1 : Int32)) + (1 : Int32)) + (1 : Int32)) + (1 : Int32)) + (1 : Int32)) + (1 : Int32)) + (1 : Int32)))]))
                refine g_istoreN X23 hx #[.val (.ref x0), .val (.int (((((((((x1 + (1 : Int32)) + (1 : Int32)) + (1 : Int32)) + (1 : Int32)) + (1 : Int32)) + (1 : Int32)) + (1 : Int32)) + (1 : Int32)) + (1 : Int32))), .val (.int x2), .val (.int x3), .val (.long x4), .second] 153 (hb hby d1_152) rfl rfl ?_
                show Go p e below s _ _ _ (T23.setTop (mkF m 153 #[.val (.ref x0), .val (.int (((((((((x1 + (1 : Int32)) + (1 : Int32)) + (1 : Int32)) + (1 : Int32)) + (1 : Int32)) + (1 : Int32)) + (1 : Int32)) + (1 : Int32)) + (1 : Int32))), .val (.int x2), .val (.int x3), .val (.long x4), .second] []))
                refine g_bipush X23 hx (7 : Int32) 155 (hb hby d1_153) rfl rfl ?_
                show Go p e below s _ _ _ (T23.setTop (mkF m 155 #[.val (.ref x0), .val (.int (((((((((x1 + (1 : Int32)) + (1 : Int32)) + (1 : Int32)) + (1 : Int32)) + (1 : Int32)) + (1 : Int32)) + (1 : Int32)) + (1 : Int32)) + (1 : Int32))), .val (.int x2), .val (.int x3), .val (.long x4), .second] [(.int (7 : Int32))]))
                refine g_iloadN X23 hx 156 (hb hby d1_155) rfl rfl ?_
                show Go p e below s _ _ _ (T23.setTop (mkF m 156 #[.val (.ref x0), .val (.int (((((((((x1 + (1 : Int32)) + (1 : Int32)) + (1 : Int32)) + (1 : Int32)) + (1 : Int32)) + (1 : Int32)) + (1 : Int32)) + (1 : Int32)) + (1 : Int32))), .val (.int x2), .val (.int x3), .val (.long x4), .second] [(.int x3), (.int (7 : Int32))]))
                refine g_icmp_ge X23 hx 174 159 (hb hby d1_156) (by decide) rfl rfl (fun h24 => ?_) (fun h24 => ?_)
                · show Go p e below s _ _ _ (T23.setTop (mkF m 159 #[.val (.ref x0), .val (.int (((((((((x1 + (1 : Int32)) + (1 : Int32)) + (1 : Int32)) + (1 : Int32)) + (1 : Int32)) + (1 : Int32)) + (1 : Int32)) + (1 : Int32)) + (1 : Int32))), .val (.int x2), .val (.int x3), .val (.long x4), .second] []))
                  refine g_aloadN X23 hx 160 (hb hby d1_159) rfl rfl rfl ?_
                  show Go p e below s _ _ _ (T23.setTop (mkF m 160 #[.val (.ref x0), .val (.int (((((((((x1 + (1 : Int32)) + (1 : Int32)) + (1 : Int32)) + (1 : Int32)) + (1 : Int32)) + (1 : Int32)) + (1 : Int32)) + (1 : Int32)) + (1 : Int32))), .val (.int x2), .val (.int x3), .val (.long x4), .second] [(.ref x0)]))
                  refine g_iloadN X23 hx 161 (hb hby d1_160) rfl rfl ?_
                  show Go p e below s _ _ _ (T23.setTop (mkF m 161 #[.val (.ref x0), .val (.int (((((((((x1 + (1 : Int32)) + (1 : Int32)) + (1 : Int32)) + (1 : Int32)) + (1 : Int32)) + (1 : Int32)) + (1 : Int32)) + (1 : Int32)) + (1 : Int32))), .val (.int x2), .val (.int x3), .val (.long x4), .second] [(.int (((((((((x1 + (1 : Int32)) + (1 : Int32)) + (1 : Int32)) + (1 : Int32)) + (1 : Int32)) + (1 : Int32)) + (1 : Int32)) + (1 : Int32)) + (1 : Int32))), (.ref x0)]))
                  refine g_lload X23 hx 163 (hb hby d1_161) rfl rfl ?_
                  show Go p e below s _ _ _ (T23.setTop (mkF m 163 #[.val (.ref x0), .val (.int (((((((((x1 + (1 : Int32)) + (1 : Int32)) + (1 : Int32)) + (1 : Int32)) + (1 : Int32)) + (1 : Int32)) + (1 : Int32)) + (1 : Int32)) + (1 : Int32))), .val (.int x2), .val (.int x3), .val (.long x4), .second] [(.long x4), (.int (((((((((x1 + (1 : Int32)) + (1 : Int32)) + (1 : Int32)) + (1 : Int32)) + (1 : Int32)) + (1 : Int32)) + (1 : Int32)) + (1 : Int32)) + (1 : Int32))), (.ref x0)]))
                  refine g_bipush X23 hx (7 : Int32) 165 (hb hby d1_163) rfl rfl ?_
                  show Go p e below s _ _ _ (T23.setTop (mkF m 165 #[.val (.ref x0), .val (.int (((((((((x1 + (1 : Int32)) + (1 : Int32)) + (1 : Int32)) + (1 : Int32)) + (1 : Int32)) + (1 : Int32)) + (1 : Int32)) + (1 : Int32)) + (1 : Int32))), .val (.int x2), .val (.int x3), .val (.long x4), .second] [(.int (7 : Int32)), (.long x4), (.int (((((((((x1 + (1 : Int32)) + (1 : Int32)) + (1 : Int32)) + (1 : Int32)) + (1 : Int32)) + (1 : Int32)) + (1 : Int32)) + (1 : Int32)) + (1 : Int32))), (.ref x0)]))
                  refine g_callS X23 hx hZ hown (hw _ (List.mem_of_getElem? (i := 6) rfl)) (hw _ (List.mem_of_getElem? (i := 7) rfl)) (hw _ (List.mem_of_getElem? (i := 4) rfl)) (hw _ (List.mem_of_getElem? (i := 8) rfl)) (by decide) e23 (rm2 l Z a0 hw [] x4 (7 : Int32) h23) [(.long x4), (.int (7 : Int32))] [(.int (((((((((x1 + (1 : Int32)) + (1 : Int32)) + (1 : Int32)) + (1 : Int32)) + (1 : Int32)) + (1 : Int32)) + (1 : Int32)) + (1 : Int32)) + (1 : Int32))), (.ref x0)] 2 rfl (lenOf pd__28JI_29I rfl) rfl (Nat.le_of_eq rfl) (by decide) (by decide) (by decide) (by decide) (by rw [hml]; rfl) (hb hby d1_165) ?_
                  intro T25 L25 v25 X25 q25
                  obtain ⟨rfl, rfl, e25⟩ := q25
                  have NS25 := Fr.app N23 (Fr.nil n0)
                  show Go p e below s _ _ _ (T25.setTop (mkF m 168 #[.val (.ref x0), .val (.int (((((((((x1 + (1 : Int32)) + (1 : Int32)) + (1 : Int32)) + (1 : Int32)) + (1 : Int32)) + (1 : Int32)) + (1 : Int32)) + (1 : Int32)) + (1 : Int32))), .val (.int x2), .val (.int x3), .val (.long x4), .second] [(.int (f2 x4 (7 : Int32))), (.int (((((((((x1 + (1 : Int32)) + (1 : Int32)) + (1 : Int32)) + (1 : Int32)) + (1 : Int32)) + (1 : Int32)) + (1 : Int32)) + (1 : Int32)) + (1 : Int32))), (.ref x0)]))
                  refine g_i2b X25 hx 169 (hb hby d1_168) rfl ?_
                  show Go p e below s _ _ _ (T25.setTop (mkF m 169 #[.val (.ref x0), .val (.int (((((((((x1 + (1 : Int32)) + (1 : Int32)) + (1 : Int32)) + (1 : Int32)) + (1 : Int32)) + (1 : Int32)) + (1 : Int32)) + (1 : Int32)) + (1 : Int32))), .val (.int x2), .val (.int x3), .val (.long x4), .second] [(.int (i2bI (f2 x4 (7 : Int32)))), (.int (((((((((x1 + (1 : Int32)) + (1 : Int32)) + (1 : Int32)) + (1 : Int32)) + (1 : Int32)) + (1 : Int32)) + (1 : Int32)) + (1 : Int32)) + (1 : Int32))), (.ref x0)]))
                  refine g_bastore X25 hx hZ e25 A23 (kn + 9) (own_s1 (own_s1 (own_s1 (own_s1 (own_s1 (own_s1 (own_s1 (own_s1 (own_s1 hk (j := kn + 1) rfl (by omega)) (j := kn + 2) rfl (by omega)) (j := kn + 3) rfl (by omega)) (j := kn + 4) rfl (by omega)) (j := kn + 5) rfl (by omega)) (j := kn + 6) rfl (by omega)) (j := kn + 7) rfl (by omega)) (j := kn + 8) rfl (by omega)) (j := kn + 9) rfl (by omega)) (by omega) 170 (hb hby d1_169) rfl ?_
                  intro T26 h26 X26 e26 W26 A26
                  have K26 := K23.wr W26 (Or.inl (List.mem_of_getElem? (i := 0) rfl))
                  have N26 := Fr.snoc X26 NS25 P1
                  have Z26 : n0 ≤ h26.size := by rw [W26.size]; exact Z23
                  show Go p e below s _ _ _ (T26.setTop (mkF m 170 #[.val (.ref x0), .val (.int (((((((((x1 + (1 : Int32)) + (1 : Int32)) + (1 : Int32)) + (1 : Int32)) + (1 : Int32)) + (1 : Int32)) + (1 : Int32)) + (1 : Int32)) + (1 : Int32))), .val (.int x2), .val (.int x3), .val (.long x4), .second] []))
                  refine g_iloadN X26 hx 171 (hb hby d1_170) rfl rfl ?_
                  show Go p e below s _ _ _ (T26.setTop (mkF m 171 #[.val (.ref x0), .val (.int (((((((((x1 + (1 : Int32)) + (1 : Int32)) + (1 : Int32)) + (1 : Int32)) + (1 : Int32)) + (1 : Int32)) + (1 : Int32)) + (1 : Int32)) + (1 : Int32))), .val (.int x2), .val (.int x3), .val (.long x4), .second] [(.int (((((((((x1 + (1 : Int32)) + (1 : Int32)) + (1 : Int32)) + (1 : Int32)) + (1 : Int32)) + (1 : Int32)) + (1 : Int32)) + (1 : Int32)) + (1 : Int32)))]))
                  refine g_iconst X26 hx (1 : Int32) 172 (hb hby d1_171) rfl rfl ?_
                  show Go p e below s _ _ _ (T26.setTop (mkF m 172 #[.val (.ref x0), .val (.int (((((((((x1 + (1 : Int32)) + (1 : Int32)) + (1 : Int32)) + (1 : Int32)) + (1 : Int32)) + (1 : Int32)) + (1 : Int32)) + (1 : Int32)) + (1 : Int32))), .val (.int x2), .val (.int x3), .val (.long x4), .second] [(.int (1 : Int32)), (.int (((((((((x1 + (1 : Int32)) + (1 : Int32)) + (1 : Int32)) + (1 : Int32)) + (1 : Int32)) + (1 : Int32)) + (1 : Int32)) + (1 : Int32)) + (1 : Int32)))]))
                  refine g_iadd X26 hx 173 (hb hby d1_172) rfl ?_
                  show Go p e below s _ _ _ (T26.setTop (mkF m 173 #[.val (.ref x0), .val (.int (((((((((x1 + (1 : Int32)) + (1 : Int32)) + (1 : Int32)) + (1 : Int32)) + (1 : Int32)) + (1 : Int32)) + (1 : Int32)) + (1 : Int32)) + (1 : Int32))), .val (.int x2), .val (.int x3), .val (.long x4), .second] [(.int ((((((((((x1 + (1 : Int32)) + (1 : Int32)) + (1 : Int32)) + (1 : Int32)) + (1 : Int32)) + (1 : Int32)) + (1 : Int32)) + (1 : Int32)) + (1 : Int32)) + (1 : Int32)))]))
                  refine g_istoreN X26 hx #[.val (.ref x0), .val (.int ((((((((((x1 + (1 : Int32)) + (1 : Int32)) + (1 : Int32)) + (1 : Int32)) + (1 : Int32)) + (1 : Int32)) + (1 : Int32)) + (1 : Int32)) + (1 : Int32)) + (1 : Int32))), .val (.int x2), .val (.int x3), .val (.long x4), .second] 174 (hb hby d1_173) rfl rfl ?_
                  show Go p e below s _ _ _ (T26.setTop (mkF m 174 #[.val (.ref x0), .val (.int ((((((((((x1 + (1 : Int32)) + (1 : Int32)) + (1 : Int32)) + (1 : Int32)) + (1 : Int32)) + (1 : Int32)) + (1 : Int32)) + (1 : Int32)) + (1 : Int32)) + (1 : Int32))), .val (.int x2), .val (.int x3), .val (.long x4), .second] []))
                  refine g_bipush X26 hx (8 : Int32) 176 (hb hby d1_174) rfl rfl ?_
                  show Go p e below s _ _ _ (T26.setTop (mkF m 176 #[.val (.ref x0), .val (.int ((((((((((x1 + (1 : Int32)) + (1 : Int32)) + (1 : Int32)) + (1 : Int32)) + (1 : Int32)) + (1 : Int32)) + (1 : Int32)) + (1 : Int32)) + (1 : Int32)) + (1 : Int32))), .val (.int x2), .val (.int x3), .val (.long x4), .second] [(.int (8 : Int32))]))
                  refine g_iloadN X26 hx 177 (hb hby d1_176) rfl rfl ?_
                  show Go p e below s _ _ _ (T26.setTop (mkF m 177 #[.val (.ref x0), .val (.int ((((((((((x1 + (1 : Int32)) + (1 : Int32)) + (1 : Int32)) + (1 : Int32)) + (1 : Int32)) + (1 : Int32)) + (1 : Int32)) + (1 : Int32)) + (1 : Int32)) + (1 : Int32))), .val (.int x2), .val (.int x3), .val (.long x4), .second] [(.int x3), (.int (8 : Int32))]))
                  refine g_icmp_ge X26 hx 195 180 (hb hby d1_177) (by decide) rfl rfl (fun h27 => ?_) (fun h27 => ?_)
                  · show Go p e below s _ _ _ (T26.setTop (mkF m 180 #[.val (.ref x0), .val (.int ((((((((((x1 + (1 : Int32)) + (1 : Int32)) + (1 : Int32)) + (1 : Int32)) + (1 : Int32)) + (1 : Int32)) + (1 : Int32)) + (1 : Int32)) + (1 : Int32)) + (1 : Int32))), .val (.int x2), .val (.int x3), .val (.long x4), .second] []))
                    refine g_aloadN X26 hx 181 (hb hby d1_180) rfl rfl rfl ?_
                    show Go p e below s _ _ _ (T26.setTop (mkF m 181 #[.val (.ref x0), .val (.int ((((((((((x1 + (1 : Int32)) + (1 : Int32)) + (1 : Int32)) + (1 : Int32)) + (1 : Int32)) + (1 : Int32)) + (1 : Int32)) + (1 : Int32)) + (1 : Int32)) + (1 : Int32))), .val (.int x2), .val (.int x3), .val (.long x4), .second] [(.ref x0)]))
                    refine g_iloadN X26 hx 182 (hb hby d1_181) rfl rfl ?_
                    show Go p e below s _ _ _ (T26.setTop (mkF m 182 #[.val (.ref x0), .val (.int ((((((((((x1 + (1 : Int32)) + (1 : Int32)) + (1 : Int32)) + (1 : Int32)) + (1 : Int32)) + (1 : Int32)) + (1 : Int32)) + (1 : Int32)) + (1 : Int32)) + (1 : Int32))), .val (.int x2), .val (.int x3), .val (.long x4), .second] [(.int ((((((((((x1 + (1 : Int32)) + (1 : Int32)) + (1 : Int32)) + (1 : Int32)) + (1 : Int32)) + (1 : Int32)) + (1 : Int32)) + (1 : Int32)) + (1 : Int32)) + (1 : Int32))), (.ref x0)]))
                    refine g_lload X26 hx 184 (hb hby d1_182) rfl rfl ?_
                    show Go p e below s _ _ _ (T26.setTop (mkF m 184 #[.val (.ref x0), .val (.int ((((((((((x1 + (1 : Int32)) + (1 : Int32)) + (1 : Int32)) + (1 : Int32)) + (1 : Int32)) + (1 : Int32)) + (1 : Int32)) + (1 : Int32)) + (1 : Int32)) + (1 : Int32))), .val (.int x2), .val (.int x3), .val (.long x4), .second] [(.long x4), (.int ((((((((((x1 + (1 : Int32)) + (1 : Int32)) + (1 : Int32)) + (1 : Int32)) + (1 : Int32)) + (1 : Int32)) + (1 : Int32)) + (1 : Int32)) + (1 : Int32)) + (1 : Int32))), (.ref x0)]))
                    refine g_bipush X26 hx (8 : Int32) 186 (hb hby d1_184) rfl rfl ?_
                    show Go p e below s _ _ _ (T26.setTop (mkF m 186 #[.val (.ref x0), .val (.int ((((((((((x1 + (1 : Int32)) + (1 : Int32)) + (1 : Int32)) + (1 : Int32)) + (1 : Int32)) + (1 : Int32)) + (1 : Int32)) + (1 : Int32)) + (1 : Int32)) + (1 : Int32))), .val (.int x2), .val (.int x3), .val (.long x4), .second] [(.int (8 : Int32)), (.long x4), (.int ((((((((((x1 + (1 : Int32)) + (1 : Int32)) + (1 : Int32)) + (1 : Int32)) + (1 : Int32)) + (1 : Int32)) + (1 : Int32)) + (1 : Int32)) + (1 : Int32)) + (1 : Int32))), (.ref x0)]))
                    refine g_callS X26 hx hZ hown (hw _ (List.mem_of_getElem? (i := 6) rfl)) (hw _ (List.mem_of_getElem? (i := 7) rfl)) (hw _ (List.mem_of_getElem? (i := 4) rfl)) (hw _ (List.mem_of_getElem? (i := 8) rfl)) (by decide) e26 (rm2 l Z a0 hw [] x4 (8 : Int32) h26) [(.long x4), (.int (8 : Int32))] [(.int ((((((((((x1 + (1 : Int32)) + (1 : Int32)) + (1 : Int32)) + (1 : Int32)) + (1 : Int32)) + (1 : Int32)) + (1 : Int32)) + (1 : Int32)) + (1 : Int32)) + (1 : Int32))), (.ref x0)] 2 rfl (lenOf pd__28JI_29I rfl) rfl (Nat.le_of_eq rfl) (by decide) (by decide) (by decide) (by decide) (by rw [hml]; rfl) (hb hby d1_186) ?_
                    intro T28 L28 v28 X28 q28
                    obtain ⟨rfl, rfl, e28⟩ := q28
                    have NS28 := Fr.app N26 (Fr.nil n0)
                    show Go p e below s _ _ _ (T28.setTop (mkF m 189 #[.val (.ref x0), .val (.int ((((((((((x1 + (1 : Int32)) + (1 : Int32)) + (1 : Int32)) + (1 : Int32)) + (1 : Int32)) + (1 : Int32)) + (1 : Int32)) + (1 : Int32)) + (1 : Int32)) + (1 : Int32))), .val (.int x2), .val (.int x3), .val (.long x4), .second] [(.int (f2 x4 (8 : Int32))), (.int ((((((((((x1 + (1 : Int32)) + (1 : Int32)) + (1 : Int32)) + (1 : Int32)) + (1 : Int32)) + (1 : Int32)) + (1 : Int32)) + (1 : Int32)) + (1 : Int32)) + (1 : Int32))), (.ref x0)]))
                    refine g_i2b X28 hx 190 (hb hby d1_189) rfl ?_
                    show Go p e below s _ _ _ (T28.setTop (mkF m 190 #[.val (.ref x0), .val (.int ((((((((((x1 + (1 : Int32)) + (1 : Int32)) + (1 : Int32)) + (1 : Int32)) + (1 : Int32)) + (1 : Int32)) + (1 : Int32)) + (1 : Int32)) + (1 : Int32)) + (1 : Int32))), .val (.int x2), .val (.int x3), .val (.long x4), .second] [(.int (i2bI (f2 x4 (8 : Int32)))), (.int ((((((((((x1 + (1 : Int32)) + (1 : Int32)) + (1 : Int32)) + (1 : Int32)) + (1 : Int32)) + (1 : Int32)) + (1 : Int32)) + (1 : Int32)) + (1 : Int32)) + (1 : Int32))), (.ref x0)]))
                    refine g_bastore X28 hx hZ e28 A26 (kn + 10) (own_s1 (own_s1 (own_s1 (own_s1 (own_s1 (own_s1 (own_s1 (own_s1 (own_s1 (own_s1 hk (j := kn + 1) rfl (by omega)) (j := kn + 2) rfl (by omega)) (j := kn + 3) rfl (by omega)) (j := kn + 4) rfl (by omega)) (j := kn + 5) rfl (by omega)) (j := kn + 6) rfl (by omega)) (j := kn + 7) rfl (by omega)) (j := kn + 8) rfl (by omega)) (j := kn + 9) rfl (by omega)) (j := kn + 10) rfl (by omega)) (by omega) 191 (hb hby d1_190) rfl ?_
                    intro T29 h29 X29 e29 W29 A29
                    have K29 := K26.wr W29 (Or.inl (List.mem_of_getElem? (i := 0) rfl))
                    have N29 := Fr.snoc X29 NS28 P1
                    have Z29 : n0 ≤ h29.size := by rw [W29.size]; exact Z26
                    show Go p e below s _ _ _ (T29.setTop (mkF m 191 #[.val (.ref x0), .val (.int ((((((((((x1 + (1 : Int32)) + (1 : Int32)) + (1 : Int32)) + (1 : Int32)) + (1 : Int32)) + (1 : Int32)) + (1 : Int32)) + (1 : Int32)) + (1 : Int32)) + (1 : Int32))), .val (.int x2), .val (.int x3), .val (.long x4), .second] []))
                    refine g_iloadN X29 hx 192 (hb hby d1_191) rfl rfl ?_
                    show Go p e below s _ _ _ (T29.setTop (mkF m 192 #[.val (.ref x0), .val (.int ((((((((((x1 + (1 : Int32)) + (1 : Int32)) + (1 : Int32)) + (1 : Int32)) + (1 : Int32)) + (1 : Int32)) + (1 : Int32)) + (1 : Int32)) + (1 : Int32)) + (1 : Int32))), .val (.int x2), .val (.int x3), .val (.long x4), .second] [(.int ((((((((((x1 + (1 : Int32)) + (1 : Int32)) + (1 : Int32)) + (1 : Int32)) + (1 : Int32)) + (1 : Int32)) + (1 : Int32)) + (1 : Int32)) + (1 : Int32)) + (1 : Int32)))]))
                    refine g_iconst X29 hx (1 : Int32) 193 (hb hby d1_192) rfl rfl ?_
                    show Go p e below s _ _ _ (T29.setTop (mkF m 193 #[.val (.ref x0), .val (.int ((((((((((x1 + (1 : Int32)) + (1 : Int32)) + (1 : Int32)) + (1 : Int32)) + (1 : Int32)) + (1 : Int32)) + (1 : Int32)) + (1 : Int32)) + (1 : Int32)) + (1 : Int32))), .val (.int x2), .val (.int x3), .val (.long x4), .second] [(.int (1 : Int32)), (.int ((((((((((x1 + (1 : Int32)) + (1 : Int32)) + (1 : Int32)) + (1 : Int32)) + (1 : Int32)) + (1 : Int32)) + (1 : Int32)) + (1 : Int32)) + (1 : Int32)) + (1 : Int32)))]))
                    refine g_iadd X29 hx 194 (hb hby d1_193) rfl ?_
                    show Go p e below s _ _ _ (T29.setTop (mkF m 194 #[.val (.ref x0), .val (.int ((((((((((x1 + (1 : Int32)) + (1 : Int32)) + (1 : Int32)) + (1 : Int32)) + (1 : Int32)) + (1 : Int32)) + (1 : Int32)) + (1 : Int32)) + (1 : Int32)) + (1 : Int32))), .val (.int x2), .val (.int x3), .val (.long x4), .second] [(.int (((((((((((x1 + (1 : Int32)) + (1 : Int32)) + (1 : Int32)) + (1 : Int32)) + (1 : Int32)) + (1 : Int32)) + (1 : Int32)) + (1 : Int32)) + (1 : Int32)) + (1 : Int32)) + (1 : Int32)))]))
                    refine g_istoreN X29 hx #[.val (.ref x0), .val (.int (((((((((((x1 + (1 : Int32)) + (1 : Int32)) + (1 : Int32)) + (1 : Int32)) + (1 : Int32)) + (1 : Int32)) + (1 : Int32)) + (1 : Int32)) + (1 : Int32)) + (1 : Int32)) + (1 : Int32))), .val (.int x2), .val (.int x3), .val (.long x4), .second] 195 (hb hby d1_194) rfl rfl ?_
                    show Go p e below s _ _ _ (T29.setTop (mkF m 195 #[.val (.ref x0), .val (.int (((((((((((x1 + (1 : Int32)) + (1 : Int32)) + (1 : Int32)) + (1 : Int32)) + (1 : Int32)) + (1 : Int32)) + (1 : Int32)) + (1 : Int32)) + (1 : Int32)) + (1 : Int32)) + (1 : Int32))), .val (.int x2), .val (.int x3), .val (.long x4), .second] []))
                    refine g_iloadN X29 hx 196 (hb hby d1_195) rfl rfl ?_
                    show Go p e below s _ _ _ (T29.setTop (mkF m 196 #[.val (.ref x0), .val (.int (((((((((((x1 + (1 : Int32)) + (1 : Int32)) + (1 : Int32)) + (1 : Int32)) + (1 : Int32)) + (1 : Int32)) + (1 : Int32)) + (1 : Int32)) + (1 : Int32)) + (1 : Int32)) + (1 : Int32))), .val (.int x2), .val (.int x3), .val (.long x4), .second] [(.int (((((((((((x1 + (1 : Int32)) + (1 : Int32)) + (1 : Int32)) + (1 : Int32)) + (1 : Int32)) + (1 : Int32)) + (1 : Int32)) + (1 : Int32)) + (1 : Int32)) + (1 : Int32)) + (1 : Int32)))]))
                    exact g_retI X29 hx hret hlk (hb hby d1_196) (by decide) (by decide) (by rw [e29]; exact ⟨congrArg (fun z => some (Value.int z)) (own_ofNat (by rw [(own_f9 hf hfn h27)]; exact (own_s1 (own_s1 (own_s1 (own_s1 (own_s1 (own_s1 (own_s1 (own_s1 (own_s1 (own_s1 (own_s1 hk (j := kn + 1) rfl (by omega)) (j := kn + 2) rfl (by omega)) (j := kn + 3) rfl (by omega)) (j := kn + 4) rfl (by omega)) (j := kn + 5) rfl (by omega)) (j := kn + 6) rfl (by omega)) (j := kn + 7) rfl (by omega)) (j := kn + 8) rfl (by omega)) (j := kn + 9) rfl (by omega)) (j := kn + 10) rfl (by omega)) (j := kn + 11) rfl (by omega)))), N29, K29, (by rw [(own_f9 hf hfn h27)]; exact A29)⟩)
                  · show Go p e below s _ _ _ (T26.setTop (mkF m 195 #[.val (.ref x0), .val (.int ((((((((((x1 + (1 : Int32)) + (1 : Int32)) + (1 : Int32)) + (1 : Int32)) + (1 : Int32)) + (1 : Int32)) + (1 : Int32)) + (1 : Int32)) + (1 : Int32)) + (1 : Int32))), .val (.int x2), .val (.int x3), .val (.long x4), .second] []))
                    refine g_iloadN X26 hx 196 (hb hby d1_195) rfl rfl ?_
                    show Go p e below s _ _ _ (T26.setTop (mkF m 196 #[.val (.ref x0), .val (.int ((((((((((x1 + (1 : Int32)) + (1 : Int32)) + (1 : Int32)) + (1 : Int32)) + (1 : Int32)) + (1 : Int32)) + (1 : Int32)) + (1 : Int32)) + (1 : Int32)) + (1 : Int32))), .val (.int x2), .val (.int x3), .val (.long x4), .second] [(.int ((((((((((x1 + (1 : Int32)) + (1 : Int32)) + (1 : Int32)) + (1 : Int32)) + (1 : Int32)) + (1 : Int32)) + (1 : Int32)) + (1 : Int32)) + (1 : Int32)) + (1 : Int32)))]))
                    exact g_retI X26 hx hret hlk (hb hby d1_196) (by decide) (by decide) (by rw [e26]; exact ⟨congrArg (fun z => some (Value.int z)) (own_ofNat (by rw [(own_fm hf (c := 7) rfl rfl h24 h27)]; exact (own_s1 (own_s1 (own_s1 (own_s1 (own_s1 (own_s1 (own_s1 (own_s1 (own_s1 (own_s1 hk (j := kn + 1) rfl (by omega)) (j := kn + 2) rfl (by omega)) (j := kn + 3) rfl (by omega)) (j := kn + 4) rfl (by omega)) (j := kn + 5) rfl (by omega)) (j := kn + 6) rfl (by omega)) (j := kn + 7) rfl (by omega)) (j := kn + 8) rfl (by omega)) (j := kn + 9) rfl (by omega)) (j := kn + 10) rfl (by omega)))), N26, K26, (by rw [(own_fm hf (c := 7) rfl rfl h24 h27)]; exact A26)⟩)
                · show Go p e below s _ _ _ (T23.setTop (mkF m 174 #[.val (.ref x0), .val (.int (((((((((x1 + (1 : Int32)) + (1 : Int32)) + (1 : Int32)) + (1 : Int32)) + (1 : Int32)) + (1 : Int32)) + (1 : Int32)) + (1 : Int32)) + (1 : Int32))), .val (.int x2), .val (.int x3), .val (.long x4), .second] []))
                  refine g_bipush X23 hx (8 : Int32) 176 (hb hby d1_174) rfl rfl ?_
                  show Go p e below s _ _ _ (T23.setTop (mkF m 176 #[.val (.ref x0), .val (.int (((((((((x1 + (1 : Int32)) + (1 : Int32)) + (1 : Int32)) + (1 : Int32)) + (1 : Int32)) + (1 : Int32)) + (1 : Int32)) + (1 : Int32)) + (1 : Int32))), .val (.int x2), .val (.int x3), .val (.long x4), .second] [(.int (8 : Int32))]))
                  refine g_iloadN X23 hx 177 (hb hby d1_176) rfl rfl ?_
                  show Go p e below s _ _ _ (T23.setTop (mkF m 177 #[.val (.ref x0), .val (.int (((((((((x1 + (1 : Int32)) + (1 : Int32)) + (1 : Int32)) + (1 : Int32)) + (1 : Int32)) + (1 : Int32)) + (1 : Int32)) + (1 : Int32)) + (1 : Int32))), .val (.int x2), .val (.int x3), .val (.long x4), .second] [(.int x3), (.int (8 : Int32))]))
                  have h30 : ¬ ((8 : Int32) < x3) := fun q => h24 (Int32.lt_trans (by decide) q)
                  refine g_icmp_ge X23 hx 195 180 (hb hby d1_177) (by decide) rfl rfl (fun q => absurd q h30) (fun _ => ?_)
                  show Go p e below s _ _ _ (T23.setTop (mkF m 195 #[.val (.ref x0), .val (.int (((((((((x1 + (1 : Int32)) + (1 : Int32)) + (1 : Int32)) + (1 : Int32)) + (1 : Int32)) + (1 : Int32)) + (1 : Int32)) + (1 : Int32)) + (1 : Int32))), .val (.int x2), .val (.int x3), .val (.long x4), .second] []))
                  refine g_iloadN X23 hx 196 (hb hby d1_195) rfl rfl ?_
                  show Go p e below s _ _ _ (T23.setTop (mkF m 196 #[.val (.ref x0), .val (.int (((((((((x1 + (1 : Int32)) + (1 : Int32)) + (1 : Int32)) + (1 : Int32)) + (1 : Int32)) + (1 : Int32)) + (1 : Int32)) + (1 : Int32)) + (1 : Int32))), .val (.int x2), .val (.int x3), .val (.long x4), .second] [(.int (((((((((x1 + (1 : Int32)) + (1 : Int32)) + (1 : Int32)) + (1 : Int32)) + (1 : Int32)) + (1 : Int32)) + (1 : Int32)) + (1 : Int32)) + (1 : Int32)))]))
                  exact g_retI X23 hx hret hlk (hb hby d1_196) (by decide) (by decide) (by rw [e23]; exact ⟨congrArg (fun z => some (Value.int z)) (own_ofNat (by rw [(own_fm hf (c := 6) rfl rfl h21 h24)]; exact (own_s1 (own_s1 (own_s1 (own_s1 (own_s1 (own_s1 (own_s1 (own_s1 (own_s1 hk (j := kn + 1) rfl (by omega)) (j := kn + 2) rfl (by omega)) (j := kn + 3) rfl (by omega)) (j := kn + 4) rfl (by omega)) (j := kn + 5) rfl (by omega)) (j := kn + 6) rfl (by omega)) (j := kn + 7) rfl (by omega)) (j := kn + 8) rfl (by omega)) (j := kn + 9) rfl (by omega)))), N23, K23, (by rw [(own_fm hf (c := 6) rfl rfl h21 h24)]; exact A23)⟩)
              · show Go p e below s _ _ _ (T20.setTop (mkF m 153 #[.val (.ref x0), .val (.int ((((((((x1 + (1 : Int32)) + (1 : Int32)) + (1 : Int32)) + (1 : Int32)) + (1 : Int32)) + (1 : Int32)) + (1 : Int32)) + (1 : Int32))), .val (.int x2), .val (.int x3), .val (.long x4), .second] []))
                refine g_bipush X20 hx (7 : Int32) 155 (hb hby d1_153) rfl rfl ?_
                show Go p e below s _ _ _ (T20.setTop (mkF m 155 #[.val (.ref x0), .val (.int ((((((((x1 + (1 : Int32)) + (1 : Int32)) + (1 : Int32)) + (1 : Int32)) + (1 : Int32)) + (1 : Int32)) + (1 : Int32)) + (1 : Int32))), .val (.int x2), .val (.int x3), .val (.long x4), .second] [(.int (7 : Int32))]))
                refine g_iloadN X20 hx 156 (hb hby d1_155) rfl rfl ?_
                show Go p e below s _ _ _ (T20.setTop (mkF m 156 #[.val (.ref x0), .val (.int ((((((((x1 + (1 : Int32)) + (1 : Int32)) + (1 : Int32)) + (1 : Int32)) + (1 : Int32)) + (1 : Int32)) + (1 : Int32)) + (1 : Int32))), .val (.int x2), .val (.int x3), .val (.long x4), .second] [(.int x3), (.int (7 : Int32))]))
                have h31 : ¬ ((7 : Int32) < x3) := fun q => h21 (Int32.lt_trans (by decide) q)
                refine g_icmp_ge X20 hx 174 159 (hb hby d1_156) (by decide) rfl rfl (fun q => absurd q h31) (fun _ => ?_)
                show Go p e below s _ _ _ (T20.setTop (mkF m 174 #[.val (.ref x0), .val (.int ((((((((x1 + (1 : Int32)) + (1 : Int32)) + (1 : Int32)) + (1 : Int32)) + (1 : Int32)) + (1 : Int32)) + (1 : Int32)) + (1 : Int32))), .val (.int x2), .val (.int x3), .val (.long x4), .second] []))
                refine g_bipush X20 hx (8 : Int32) 176 (hb hby d1_174) rfl rfl ?_
                show Go p e below s _ _ _ (T20.setTop (mkF m 176 #[.val (.ref x0), .val (.int ((((((((x1 + (1 : Int32)) + (1 : Int32)) + (1 : Int32)) + (1 : Int32)) + (1 : Int32)) + (1 : Int32)) + (1 : Int32)) + (1 : Int32))), .val (.int x2), .val (.int x3), .val (.long x4), .second] [(.int (8 : Int32))]))
                refine g_iloadN X20 hx 177 (hb hby d1_176) rfl rfl ?_
                show Go p e below s _ _ _ (T20.setTop (mkF m 177 #[.val (.ref x0), .val (.int ((((((((x1 + (1 : Int32)) + (1 : Int32)) + (1 : Int32)) + (1 : Int32)) + (1 : Int32)) + (1 : Int32)) + (1 : Int32)) + (1 : Int32))), .val (.int x2), .val (.int x3), .val (.long x4), .second] [(.int x3), (.int (8 : Int32))]))
                have h32 : ¬ ((8 : Int32) < x3) := fun q => h21 (Int32.lt_trans (by decide) q)
                refine g_icmp_ge X20 hx 195 180 (hb hby d1_177) (by decide) rfl rfl (fun q => absurd q h32) (fun _ => ?_)
                show Go p e below s _ _ _ (T20.setTop (mkF m 195 #[.val (.ref x0), .val (.int ((((((((x1 + (1 : Int32)) + (1 : Int32)) + (1 : Int32)) + (1 : Int32)) + (1 : Int32)) + (1 : Int32)) + (1 : Int32)) + (1 : Int32))), .val (.int x2), .val (.int x3), .val (.long x4), .second] []))
                refine g_iloadN X20 hx 196 (hb hby d1_195) rfl rfl ?_
                show Go p e below s _ _ _ (T20.setTop (mkF m 196 #[.val (.ref x0), .val (.int ((((((((x1 + (1 : Int32)) + (1 : Int32)) + (1 : Int32)) + (1 : Int32)) + (1 : Int32)) + (1 : Int32)) + (1 : Int32)) + (1 : Int32))), .val (.int x2), .val (.int x3), .val (.long x4), .second] [(.int ((((((((x1 + (1 : Int32)) + (1 : Int32)) + (1 : Int32)) + (1 : Int32)) + (1 : Int32)) + (1 : Int32)) + (1 : Int32)) + (1 : Int32)))]))
                exact g_retI X20 hx hret hlk (hb hby d1_196) (by decide) (by decide) (by rw [e20]; exact ⟨congrArg (fun z => some (Value.int z)) (own_ofNat (by rw [(own_fm hf (c := 5) rfl rfl h18 h21)]; exact (own_s1 (own_s1 (own_s1 (own_s1 (own_s1 (own_s1 (own_s1 (own_s1 hk (j := kn + 1) rfl (by omega)) (j := kn + 2) rfl (by omega)) (j := kn + 3) rfl (by omega)) (j := kn + 4) rfl (by omega)) (j := kn + 5) rfl (by omega)) (j := kn + 6) rfl (by omega)) (j := kn + 7) rfl (by omega)) (j := kn + 8) rfl (by omega)))), N20, K20, (by rw [(own_fm hf (c := 5) rfl rfl h18 h21)]; exact A20)⟩)
            · show Go p e below s _ _ _ (T17.setTop (mkF m 132 #[.val (.ref x0), .val (.int (((((((x1 + (1 : Int32)) + (1 : Int32)) + (1 : Int32)) + (1 : Int32)) + (1 : Int32)) + (1 : Int32)) + (1 : Int32))), .val (.int x2), .val (.int x3), .val (.long x4), .second] []))
              refine g_bipush X17 hx (6 : Int32) 134 (hb hby d1_132) rfl rfl ?_
              show Go p e below s _ _ _ (T17.setTop (mkF m 134 #[.val (.ref x0), .val (.int (((((((x1 + (1 : Int32)) + (1 : Int32)) + (1 : Int32)) + (1 : Int32)) + (1 : Int32)) + (1 : Int32)) + (1 : Int32))), .val (.int x2), .val (.int x3), .val (.long x4), .second] [(.int (6 : Int32))]))
              refine g_iloadN X17 hx 135 (hb hby d1_134) rfl rfl ?_
              show Go p e below s _ _ _ (T17.setTop (mkF m 135 #[.val (.ref x0), .val (.int (((((((x1 + (1 : Int32)) + (1 : Int32)) + (1 : Int32)) + (1 : Int32)) + (1 : Int32)) + (1 : Int32)) + (1 : Int32))), .val (.int x2), .val (.int x3), .val (.long x4), .second] [(.int x3), (.int (6 : Int32))]))
              have h33 : ¬ ((6 : Int32) < x3) := fun q => h18 (Int32.lt_trans (by decide) q)
              refine g_icmp_ge X17 hx 153 138 (hb hby d1_135) (by decide) rfl rfl (fun q => absurd q h33) (fun _ => ?_)
              show Go p e below s _ _ _ (T17.setTop (mkF m 153 #[.val (.ref x0), .val (.int (((((((x1 + (1 : Int32)) + (1 : Int32)) + (1 : Int32)) + (1 : Int32)) + (1 : Int32)) + (1 : Int32)) + (1 : Int32))), .val (.int x2), .val (.int x3), .val (.long x4), .second] []))
              refine g_bipush X17 hx (7 : Int32) 155 (hb hby d1_153) rfl rfl ?_
              show Go p e below s _ _ _ (T17.setTop (mkF m 155 #[.val (.ref x0), .val (.int (((((((x1 + (1 : Int32)) + (1 : Int32)) + (1 : Int32)) + (1 : Int32)) + (1 : Int32)) + (1 : Int32)) + (1 : Int32))), .val (.int x2), .val (.int x3), .val (.long x4), .second] [(.int (7 : Int32))]))
              refine g_iloadN X17 hx 156 (hb hby d1_155) rfl rfl ?_
              show Go p e below s _ _ _ (T17.setTop (mkF m 156 #[.val (.ref x0), .val (.int (((((((x1 + (1 : Int32)) + (1 : Int32)) + (1 : Int32)) + (1 : Int32)) + (1 : Int32)) + (1 : Int32)) + (1 : Int32))), .val (.int x2), .val (.int x3), .val (.long x4), .second] [(.int x3), (.int (7 : Int32))]))
              have h34 : ¬ ((7 : Int32) < x3) := fun q => h18 (Int32.lt_trans (by decide) q)
              refine g_icmp_ge X17 hx 174 159 (hb hby d1_156) (by decide) rfl rfl (fun q => absurd q h34) (fun _ => ?_)
              show Go p e below s _ _ _ (T17.setTop (mkF m 174 #[.val (.ref x0), .val (.int (((((((x1 + (1 : Int32)) + (1 : Int32)) + (1 : Int32)) + (1 : Int32)) + (1 : Int32)) + (1 : Int32)) + (1 : Int32))), .val (.int x2), .val (.int x3), .val (.long x4), .second] []))
              refine g_bipush X17 hx (8 : Int32) 176 (hb hby d1_174) rfl rfl ?_
              show Go p e below s _ _ _ (T17.setTop (mkF m 176 #[.val (.ref x0), .val (.int (((((((x1 + (1 : Int32)) + (1 : Int32)) + (1 : Int32)) + (1 : Int32)) + (1 : Int32)) + (1 : Int32)) + (1 : Int32))), .val (.int x2), .val (.int x3), .val (.long x4), .second] [(.int (8 : Int32))]))
              refine g_iloadN X17 hx 177 (hb hby d1_176) rfl rfl ?_
              show Go p e below s _ _ _ (T17.setTop (mkF m 177 #[.val (.ref x0), .val (.int (((((((x1 + (1 : Int32)) + (1 : Int32)) + (1 : Int32)) + (1 : Int32)) + (1 : Int32)) + (1 : Int32)) + (1 : Int32))), .val (.int x2), .val (.int x3), .val (.long x4), .second] [(.int x3), (.int (8 : Int32))]))
              have h35 : ¬ ((8 : Int32) < x3) := fun q => h18 (Int32.lt_trans (by decide) q)
              refine g_icmp_ge X17 hx 195 180 (hb hby d1_177) (by decide) rfl rfl (fun q => absurd q h35) (fun _ => ?_)
              show Go p e below s _ _ _ (T17.setTop (mkF m 195 #[.val (.ref x0), .val (.int (((((((x1 + (1 : Int32)) + (1 : Int32)) + (1 : Int32)) + (1 : Int32)) + (1 : Int32)) + (1 : Int32)) + (1 : Int32))), .val (.int x2), .val (.int x3), .val (.long x4), .second] []))
              refine g_iloadN X17 hx 196 (hb hby d1_195) rfl rfl ?_
              show Go p e below s _ _ _ (T17.setTop (mkF m 196 #[.val (.ref x0), .val (.int (((((((x1 + (1 : Int32)) + (1 : Int32)) + (1 : Int32)) + (1 : Int32)) + (1 : Int32)) + (1 : Int32)) + (1 : Int32))), .val (.int x2), .val (.int x3), .val (.long x4), .second] [(.int (((((((x1 + (1 : Int32)) + (1 : Int32)) + (1 : Int32)) + (1 : Int32)) + (1 : Int32)) + (1 : Int32)) + (1 : Int32)))]))
              exact g_retI X17 hx hret hlk (hb hby d1_196) (by decide) (by decide) (by rw [e17]; exact ⟨congrArg (fun z => some (Value.int z)) (own_ofNat (by rw [(own_fm hf (c := 4) rfl rfl h15 h18)]; exact (own_s1 (own_s1 (own_s1 (own_s1 (own_s1 (own_s1 (own_s1 hk (j := kn + 1) rfl (by omega)) (j := kn + 2) rfl (by omega)) (j := kn + 3) rfl (by omega)) (j := kn + 4) rfl (by omega)) (j := kn + 5) rfl (by omega)) (j := kn + 6) rfl (by omega)) (j := kn + 7) rfl (by omega)))), N17, K17, (by rw [(own_fm hf (c := 4) rfl rfl h15 h18)]; exact A17)⟩)
          · show Go p e below s _ _ _ (T14.setTop (mkF m 113 #[.val (.ref x0), .val (.int ((((((x1 + (1 : Int32)) + (1 : Int32)) + (1 : Int32)) + (1 : Int32)) + (1 : Int32)) + (1 : Int32))), .val (.int x2), .val (.int x3), .val (.long x4), .second] []))
            refine g_iconst X14 hx (5 : Int32) 114 (hb hby d1_113) rfl rfl ?_
            show Go p e below s _ _ _ (T14.setTop (mkF m 114 #[.val (.ref x0), .val (.int ((((((x1 + (1 : Int32)) + (1 : Int32)) + (1 : Int32)) + (1 : Int32)) + (1 : Int32)) + (1 : Int32))), .val (.int x2), .val (.int x3), .val (.long x4), .second] [(.int (5 : Int32))]))
            refine g_iloadN X14 hx 115 (hb hby d1_114) rfl rfl ?_
            show Go p e below s _ _ _ (T14.setTop (mkF m 115 #[.val (.ref x0), .val (.int ((((((x1 + (1 : Int32)) + (1 : Int32)) + (1 : Int32)) + (1 : Int32)) + (1 : Int32)) + (1 : Int32))), .val (.int x2), .val (.int x3), .val (.long x4), .second] [(.int x3), (.int (5 : Int32))]))
            have h36 : ¬ ((5 : Int32) < x3) := fun q => h15 (Int32.lt_trans (by decide) q)
            refine g_icmp_ge X14 hx 132 118 (hb hby d1_115) (by decide) rfl rfl (fun q => absurd q h36) (fun _ => ?_)
            show Go p e below s _ _ _ (T14.setTop (mkF m 132 #[.val (.ref x0), .val (.int ((((((x1 + (1 : Int32)) + (1 : Int32)) + (1 : Int32)) + (1 : Int32)) + (1 : Int32)) + (1 : Int32))), .val (.int x2), .val (.int x3), .val (.long x4), .second] []))
            refine g_bipush X14 hx (6 : Int32) 134 (hb hby d1_132) rfl rfl ?_
            show Go p e below s _ _ _ (T14.setTop (mkF m 134 #[.val (.ref x0), .val (.int ((((((x1 + (1 : Int32)) + (1 : Int32)) + (1 : Int32)) + (1 : Int32)) + (1 : Int32)) + (1 : Int32))), .val (.int x2), .val (.int x3), .val (.long x4), .second] [(.int (6 : Int32))]))
            refine g_iloadN X14 hx 135 (hb hby d1_134) rfl rfl ?_
            show Go p e below s _ _ _ (T14.setTop (mkF m 135 #[.val (.ref x0), .val (.int ((((((x1 + (1 : Int32)) + (1 : Int32)) + (1 : Int32)) + (1 : Int32)) + (1 : Int32)) + (1 : Int32))), .val (.int x2), .val (.int x3), .val (.long x4), .second] [(.int x3), (.int (6 : Int32))]))
            have h37 : ¬ ((6 : Int32) < x3) := fun q => h15 (Int32.lt_trans (by decide) q)
            refine g_icmp_ge X14 hx 153 138 (hb hby d1_135) (by decide) rfl rfl (fun q => absurd q h37) (fun _ => ?_)
            show Go p e below s _ _ _ (T14.setTop (mkF m 153 #[.val (.ref x0), .val (.int ((((((x1 + (1 : Int32)) + (1 : Int32)) + (1 : Int32)) + (1 : Int32)) + (1 : Int32)) + (1 : Int32))), .val (.int x2), .val (.int x3), .val (.long x4), .second] []))
            refine g_bipush X14 hx (7 : Int32) 155 (hb hby d1_153) rfl rfl ?_
            show Go p e below s _ _ _ (T14.setTop (mkF m 155 #[.val (.ref x0), .val (.int ((((((x1 + (1 : Int32)) + (1 : Int32)) + (1 : Int32)) + (1 : Int32)) + (1 : Int32)) + (1 : Int32))), .val (.int x2), .val (.int x3), .val (.long x4), .second] [(.int (7 : Int32))]))
            refine g_iloadN X14 hx 156 (hb hby d1_155) rfl rfl ?_
            show Go p e below s _ _ _ (T14.setTop (mkF m 156 #[.val (.ref x0), .val (.int ((((((x1 + (1 : Int32)) + (1 : Int32)) + (1 : Int32)) + (1 : Int32)) + (1 : Int32)) + (1 : Int32))), .val (.int x2), .val (.int x3), .val (.long x4), .second] [(.int x3), (.int (7 : Int32))]))
            have h38 : ¬ ((7 : Int32) < x3) := fun q => h15 (Int32.lt_trans (by decide) q)
            refine g_icmp_ge X14 hx 174 159 (hb hby d1_156) (by decide) rfl rfl (fun q => absurd q h38) (fun _ => ?_)
            show Go p e below s _ _ _ (T14.setTop (mkF m 174 #[.val (.ref x0), .val (.int ((((((x1 + (1 : Int32)) + (1 : Int32)) + (1 : Int32)) + (1 : Int32)) + (1 : Int32)) + (1 : Int32))), .val (.int x2), .val (.int x3), .val (.long x4), .second] []))
            refine g_bipush X14 hx (8 : Int32) 176 (hb hby d1_174) rfl rfl ?_
            show Go p e below s _ _ _ (T14.setTop (mkF m 176 #[.val (.ref x0), .val (.int ((((((x1 + (1 : Int32)) + (1 : Int32)) + (1 : Int32)) + (1 : Int32)) + (1 : Int32)) + (1 : Int32))), .val (.int x2), .val (.int x3), .val (.long x4), .second] [(.int (8 : Int32))]))
            refine g_iloadN X14 hx 177 (hb hby d1_176) rfl rfl ?_
            show Go p e below s _ _ _ (T14.setTop (mkF m 177 #[.val (.ref x0), .val (.int ((((((x1 + (1 : Int32)) + (1 : Int32)) + (1 : Int32)) + (1 : Int32)) + (1 : Int32)) + (1 : Int32))), .val (.int x2), .val (.int x3), .val (.long x4), .second] [(.int x3), (.int (8 : Int32))]))
            have h39 : ¬ ((8 : Int32) < x3) := fun q => h15 (Int32.lt_trans (by decide) q)
            refine g_icmp_ge X14 hx 195 180 (hb hby d1_177) (by decide) rfl rfl (fun q => absurd q h39) (fun _ => ?_)
            show Go p e below s _ _ _ (T14.setTop (mkF m 195 #[.val (.ref x0), .val (.int ((((((x1 + (1 : Int32)) + (1 : Int32)) + (1 : Int32)) + (1 : Int32)) + (1 : Int32)) + (1 : Int32))), .val (.int x2), .val (.int x3), .val (.long x4), .second] []))
            refine g_iloadN X14 hx 196 (hb hby d1_195) rfl rfl ?_
            show Go p e below s _ _ _ (T14.setTop (mkF m 196 #[.val (.ref x0), .val (.int ((((((x1 + (1 : Int32)) + (1 : Int32)) + (1 : Int32)) + (1 : Int32)) + (1 : Int32)) + (1 : Int32))), .val (.int x2), .val (.int x3), .val (.long x4), .second] [(.int ((((((x1 + (1 : Int32)) + (1 : Int32)) + (1 : Int32)) + (1 : Int32)) + (1 : Int32)) + (1 : Int32)))]))
            exact g_retI X14 hx hret hlk (hb hby d1_196) (by decide) (by decide) (by rw [e14]; exact ⟨congrArg (fun z => some (Value.int z)) (own_ofNat (by rw [(own_fm hf (c := 3) rfl rfl h12 h15)]; exact (own_s1 (own_s1 (own_s1 (own_s1 (own_s1 (own_s1 hk (j := kn + 1) rfl (by omega)) (j := kn + 2) rfl (by omega)) (j := kn + 3) rfl (by omega)) (j := kn + 4) rfl (by omega)) (j := kn + 5) rfl (by omega)) (j := kn + 6) rfl (by omega)))), N14, K14, (by rw [(own_fm hf (c := 3) rfl rfl h12 h15)]; exact A14)⟩)
        · show Go p e below s _ _ _ (T11.setTop (mkF m 94 #[.val (.ref x0), .val (.int (((((x1 + (1 : Int32)) + (1 : Int32)) + (1 : Int32)) + (1 : Int32)) + (1 : Int32))), .val (.int x2), .val (.int x3), .val (.long x4), .second] []))
          refine g_iconst X11 hx (4 : Int32) 95 (hb hby d1_94) rfl rfl ?_
          show Go p e below s _ _ _ (T11.setTop (mkF m 95 #[.val (.ref x0), .val (.int (((((x1 + (1 : Int32)) + (1 : Int32)) + (1 : Int32)) + (1 : Int32)) + (1 : Int32))), .val (.int x2), .val (.int x3), .val (.long x4), .second] [(.int (4 : Int32))]))
          refine g_iloadN X11 hx 96 (hb hby d1_95) rfl rfl ?_
          show Go p e below s _ _ _ (T11.setTop (mkF m 96 #[.val (.ref x0), .val (.int (((((x1 + (1 : Int32)) + (1 : Int32)) + (1 : Int32)) + (1 : Int32)) + (1 : Int32))), .val (.int x2), .val (.int x3), .val (.long x4), .second] [(.int x3), (.int (4 : Int32))]))
          have h40 : ¬ ((4 : Int32) < x3) := fun q => h12 (Int32.lt_trans (by decide) q)
          refine g_icmp_ge X11 hx 113 99 (hb hby d1_96) (by decide) rfl rfl (fun q => absurd q h40) (fun _ => ?_)
          show Go p e below s _ _ _ (T11.setTop (mkF m 113 #[.val (.ref x0), .val (.int (((((x1 + (1 : Int32)) + (1 : Int32)) + (1 : Int32)) + (1 : Int32)) + (1 : Int32))), .val (.int x2), .val (.int x3), .val (.long x4), .second] []))
          refine g_iconst X11 hx (5 : Int32) 114 (hb hby d1_113) rfl rfl ?_
          show Go p e below s _ _ _ (T11.setTop (mkF m 114 #[.val (.ref x0), .val (.int (((((x1 + (1 : Int32)) + (1 : Int32)) + (1 : Int32)) + (1 : Int32)) + (1 : Int32))), .val (.int x2), .val (.int x3), .val (.long x4), .second] [(.int (5 : Int32))]))
          refine g_iloadN X11 hx 115 (hb hby d1_114) rfl rfl ?_
          show Go p e below s _ _ _ (T11.setTop (mkF m 115 #[.val (.ref x0), .val (.int (((((x1 + (1 : Int32)) + (1 : Int32)) + (1 : Int32)) + (1 : Int32)) + (1 : Int32))), .val (.int x2), .val (.int x3), .val (.long x4), .second] [(.int x3), (.int (5 : Int32))]))
          have h41 : ¬ ((5 : Int32) < x3) := fun q => h12 (Int32.lt_trans (by decide) q)
          refine g_icmp_ge X11 hx 132 118 (hb hby d1_115) (by decide) rfl rfl (fun q => absurd q h41) (fun _ => ?_)
          show Go p e below s _ _ _ (T11.setTop (mkF m 132 #[.val (.ref x0), .val (.int (((((x1 + (1 : Int32)) + (1 : Int32)) + (1 : Int32)) + (1 : Int32)) + (1 : Int32))), .val (.int x2), .val (.int x3), .val (.long x4), .second] []))
          refine g_bipush X11 hx (6 : Int32) 134 (hb hby d1_132) rfl rfl ?_
          show Go p e below s _ _ _ (T11.setTop (mkF m 134 #[.val (.ref x0), .val (.int (((((x1 + (1 : Int32)) + (1 : Int32)) + (1 : Int32)) + (1 : Int32)) + (1 : Int32))), .val (.int x2), .val (.int x3), .val (.long x4), .second] [(.int (6 : Int32))]))
          refine g_iloadN X11 hx 135 (hb hby d1_134) rfl rfl ?_
          show Go p e below s _ _ _ (T11.setTop (mkF m 135 #[.val (.ref x0), .val (.int (((((x1 + (1 : Int32)) + (1 : Int32)) + (1 : Int32)) + (1 : Int32)) + (1 : Int32))), .val (.int x2), .val (.int x3), .val (.long x4), .second] [(.int x3), (.int (6 : Int32))]))
          have h42 : ¬ ((6 : Int32) < x3) := fun q => h12 (Int32.lt_trans (by decide) q)
          refine g_icmp_ge X11 hx 153 138 (hb hby d1_135) (by decide) rfl rfl (fun q => absurd q h42) (fun _ => ?_)
          show Go p e below s _ _ _ (T11.setTop (mkF m 153 #[.val (.ref x0), .val (.int (((((x1 + (1 : Int32)) + (1 : Int32)) + (1 : Int32)) + (1 : Int32)) + (1 : Int32))), .val (.int x2), .val (.int x3), .val (.long x4), .second] []))
          refine g_bipush X11 hx (7 : Int32) 155 (hb hby d1_153) rfl rfl ?_
          show Go p e below s _ _ _ (T11.setTop (mkF m 155 #[.val (.ref x0), .val (.int (((((x1 + (1 : Int32)) + (1 : Int32)) + (1 : Int32)) + (1 : Int32)) + (1 : Int32))), .val (.int x2), .val (.int x3), .val (.long x4), .second] [(.int (7 : Int32))]))
          refine g_iloadN X11 hx 156 (hb hby d1_155) rfl rfl ?_
          show Go p e below s _ _ _ (T11.setTop (mkF m 156 #[.val (.ref x0), .val (.int (((((x1 + (1 : Int32)) + (1 : Int32)) + (1 : Int32)) + (1 : Int32)) + (1 : Int32))), .val (.int x2), .val (.int x3), .val (.long x4), .second] [(.int x3), (.int (7 : Int32))]))
          have h43 : ¬ ((7 : Int32) < x3) := fun q => h12 (Int32.lt_trans (by decide) q)
          refine g_icmp_ge X11 hx 174 159 (hb hby d1_156) (by decide) rfl rfl (fun q => absurd q h43) (fun _ => ?_)
          show Go p e below s _ _ _ (T11.setTop (mkF m 174 #[.val (.ref x0), .val (.int (((((x1 + (1 : Int32)) + (1 : Int32)) + (1 : Int32)) + (1 : Int32)) + (1 : Int32))), .val (.int x2), .val (.int x3), .val (.long x4), .second] []))
          refine g_bipush X11 hx (8 : Int32) 176 (hb hby d1_174) rfl rfl ?_
          show Go p e below s _ _ _ (T11.setTop (mkF m 176 #[.val (.ref x0), .val (.int (((((x1 + (1 : Int32)) + (1 : Int32)) + (1 : Int32)) + (1 : Int32)) + (1 : Int32))), .val (.int x2), .val (.int x3), .val (.long x4), .second] [(.int (8 : Int32))]))
          refine g_iloadN X11 hx 177 (hb hby d1_176) rfl rfl ?_
          show Go p e below s _ _ _ (T11.setTop (mkF m 177 #[.val (.ref x0), .val (.int (((((x1 + (1 : Int32)) + (1 : Int32)) + (1 : Int32)) + (1 : Int32)) + (1 : Int32))), .val (.int x2), .val (.int x3), .val (.long x4), .second] [(.int x3), (.int (8 : Int32))]))
          have h44 : ¬ ((8 : Int32) < x3) := fun q => h12 (Int32.lt_trans (by decide) q)
          refine g_icmp_ge X11 hx 195 180 (hb hby d1_177) (by decide) rfl rfl (fun q => absurd q h44) (fun _ => ?_)
          show Go p e below s _ _ _ (T11.setTop (mkF m 195 #[.val (.ref x0), .val (.int (((((x1 + (1 : Int32)) + (1 : Int32)) + (1 : Int32)) + (1 : Int32)) + (1 : Int32))), .val (.int x2), .val (.int x3), .val (.long x4), .second] []))
          refine g_iloadN X11 hx 196 (hb hby d1_195) rfl rfl ?_
          show Go p e below s _ _ _ (T11.setTop (mkF m 196 #[.val (.ref x0), .val (.int (((((x1 + (1 : Int32)) + (1 : Int32)) + (1 : Int32)) + (1 : Int32)) + (1 : Int32))), .val (.int x2), .val (.int x3), .val (.long x4), .second] [(.int (((((x1 + (1 : Int32)) + (1 : Int32)) + (1 : Int32)) + (1 : Int32)) + (1 : Int32)))]))
          exact g_retI X11 hx hret hlk (hb hby d1_196) (by decide) (by decide) (by rw [e11]; exact ⟨congrArg (fun z => some (Value.int z)) (own_ofNat (by rw [(own_fm hf (c := 2) rfl rfl h9 h12)]; exact (own_s1 (own_s1 (own_s1 (own_s1 (own_s1 hk (j := kn + 1) rfl (by omega)) (j := kn + 2) rfl (by omega)) (j := kn + 3) rfl (by omega)) (j := kn + 4) rfl (by omega)) (j := kn + 5) rfl (by omega)))), N11, K11, (by rw [(own_fm hf (c := 2) rfl rfl h9 h12)]; exact A11)⟩)
      · show Go p e below s _ _ _ (T8.setTop (mkF m 75 #[.val (.ref x0), .val (.int ((((x1 + (1 : Int32)) + (1 : Int32)) + (1 : Int32)) + (1 : Int32))), .val (.int x2), .val (.int x3), .val (.long x4), .second] []))
        refine g_iconst X8 hx (3 : Int32) 76 (hb hby d1_75) rfl rfl ?_
        show Go p e below s _ _ _ (T8.setTop (mkF m 76 #[.val (.ref x0), .val (.int ((((x1 + (1 : Int32)) + (1 : Int32)) + (1 : Int32)) + (1 : Int32))), .val (.int x2), .val (.int x3), .val (.long x4), .second] [(.int (3 : Int32))]))
        refine g_iloadN X8 hx 77 (hb hby d1_76) rfl rfl ?_
        show Go p e below s _ _ _ (T8.setTop (mkF m 77 #[.val (.ref x0), .val (.int ((((x1 + (1 : Int32)) + (1 : Int32)) + (1 : Int32)) + (1 : Int32))), .val (.int x2), .val (.int x3), .val (.long x4), .second] [(.int x3), (.int (3 : Int32))]))
        have h45 : ¬ ((3 : Int32) < x3) := fun q => h9 (Int32.lt_trans (by decide) q)
        refine g_icmp_ge X8 hx 94 80 (hb hby d1_77) (by decide) rfl rfl (fun q => absurd q h45) (fun _ => ?_)
        show Go p e below s _ _ _ (T8.setTop (mkF m 94 #[.val (.ref x0), .val (.int ((((x1 + (1 : Int32)) + (1 : Int32)) + (1 : Int32)) + (1 : Int32))), .val (.int x2), .val (.int x3), .val (.long x4), .second] []))
        refine g_iconst X8 hx (4 : Int32) 95 (hb hby d1_94) rfl rfl ?_
        show Go p e below s _ _ _ (T8.setTop (mkF m 95 #[.val (.ref x0), .val (.int ((((x1 + (1 : Int32)) + (1 : Int32)) + (1 : Int32)) + (1 : Int32))), .val (.int x2), .val (.int x3), .val (.long x4), .second] [(.int (4 : Int32))]))
        refine g_iloadN X8 hx 96 (hb hby d1_95) rfl rfl ?_
        show Go p e below s _ _ _ (T8.setTop (mkF m 96 #[.val (.ref x0), .val (.int ((((x1 + (1 : Int32)) + (1 : Int32)) + (1 : Int32)) + (1 : Int32))), .val (.int x2), .val (.int x3), .val (.long x4), .second] [(.int x3), (.int (4 : Int32))]))
        have h46 : ¬ ((4 : Int32) < x3) := fun q => h9 (Int32.lt_trans (by decide) q)
        refine g_icmp_ge X8 hx 113 99 (hb hby d1_96) (by decide) rfl rfl (fun q => absurd q h46) (fun _ => ?_)
        show Go p e below s _ _ _ (T8.setTop (mkF m 113 #[.val (.ref x0), .val (.int ((((x1 + (1 : Int32)) + (1 : Int32)) + (1 : Int32)) + (1 : Int32))), .val (.int x2), .val (.int x3), .val (.long x4), .second] []))
        refine g_iconst X8 hx (5 : Int32) 114 (hb hby d1_113) rfl rfl ?_
        show Go p e below s _ _ _ (T8.setTop (mkF m 114 #[.val (.ref x0), .val (.int ((((x1 + (1 : Int32)) + (1 : Int32)) + (1 : Int32)) + (1 : Int32))), .val (.int x2), .val (.int x3), .val (.long x4), .second] [(.int (5 : Int32))]))
        refine g_iloadN X8 hx 115 (hb hby d1_114) rfl rfl ?_
        show Go p e below s _ _ _ (T8.setTop (mkF m 115 #[.val (.ref x0), .val (.int ((((x1 + (1 : Int32)) + (1 : Int32)) + (1 : Int32)) + (1 : Int32))), .val (.int x2), .val (.int x3), .val (.long x4), .second] [(.int x3), (.int (5 : Int32))]))
        have h47 : ¬ ((5 : Int32) < x3) := fun q => h9 (Int32.lt_trans (by decide) q)
        refine g_icmp_ge X8 hx 132 118 (hb hby d1_115) (by decide) rfl rfl (fun q => absurd q h47) (fun _ => ?_)
        show Go p e below s _ _ _ (T8.setTop (mkF m 132 #[.val (.ref x0), .val (.int ((((x1 + (1 : Int32)) + (1 : Int32)) + (1 : Int32)) + (1 : Int32))), .val (.int x2), .val (.int x3), .val (.long x4), .second] []))
        refine g_bipush X8 hx (6 : Int32) 134 (hb hby d1_132) rfl rfl ?_
        show Go p e below s _ _ _ (T8.setTop (mkF m 134 #[.val (.ref x0), .val (.int ((((x1 + (1 : Int32)) + (1 : Int32)) + (1 : Int32)) + (1 : Int32))), .val (.int x2), .val (.int x3), .val (.long x4), .second] [(.int (6 : Int32))]))
        refine g_iloadN X8 hx 135 (hb hby d1_134) rfl rfl ?_
        show Go p e below s _ _ _ (T8.setTop (mkF m 135 #[.val (.ref x0), .val (.int ((((x1 + (1 : Int32)) + (1 : Int32)) + (1 : Int32)) + (1 : Int32))), .val (.int x2), .val (.int x3), .val (.long x4), .second] [(.int x3), (.int (6 : Int32))]))
        have h48 : ¬ ((6 : Int32) < x3) := fun q => h9 (Int32.lt_trans (by decide) q)
        refine g_icmp_ge X8 hx 153 138 (hb hby d1_135) (by decide) rfl rfl (fun q => absurd q h48) (fun _ => ?_)
        show Go p e below s _ _ _ (T8.setTop (mkF m 153 #[.val (.ref x0), .val (.int ((((x1 + (1 : Int32)) + (1 : Int32)) + (1 : Int32)) + (1 : Int32))), .val (.int x2), .val (.int x3), .val (.long x4), .second] []))
        refine g_bipush X8 hx (7 : Int32) 155 (hb hby d1_153) rfl rfl ?_
        show Go p e below s _ _ _ (T8.setTop (mkF m 155 #[.val (.ref x0), .val (.int ((((x1 + (1 : Int32)) + (1 : Int32)) + (1 : Int32)) + (1 : Int32))), .val (.int x2), .val (.int x3), .val (.long x4), .second] [(.int (7 : Int32))]))
        refine g_iloadN X8 hx 156 (hb hby d1_155) rfl rfl ?_
        show Go p e below s _ _ _ (T8.setTop (mkF m 156 #[.val (.ref x0), .val (.int ((((x1 + (1 : Int32)) + (1 : Int32)) + (1 : Int32)) + (1 : Int32))), .val (.int x2), .val (.int x3), .val (.long x4), .second] [(.int x3), (.int (7 : Int32))]))
        have h49 : ¬ ((7 : Int32) < x3) := fun q => h9 (Int32.lt_trans (by decide) q)
        refine g_icmp_ge X8 hx 174 159 (hb hby d1_156) (by decide) rfl rfl (fun q => absurd q h49) (fun _ => ?_)
        show Go p e below s _ _ _ (T8.setTop (mkF m 174 #[.val (.ref x0), .val (.int ((((x1 + (1 : Int32)) + (1 : Int32)) + (1 : Int32)) + (1 : Int32))), .val (.int x2), .val (.int x3), .val (.long x4), .second] []))
        refine g_bipush X8 hx (8 : Int32) 176 (hb hby d1_174) rfl rfl ?_
        show Go p e below s _ _ _ (T8.setTop (mkF m 176 #[.val (.ref x0), .val (.int ((((x1 + (1 : Int32)) + (1 : Int32)) + (1 : Int32)) + (1 : Int32))), .val (.int x2), .val (.int x3), .val (.long x4), .second] [(.int (8 : Int32))]))
        refine g_iloadN X8 hx 177 (hb hby d1_176) rfl rfl ?_
        show Go p e below s _ _ _ (T8.setTop (mkF m 177 #[.val (.ref x0), .val (.int ((((x1 + (1 : Int32)) + (1 : Int32)) + (1 : Int32)) + (1 : Int32))), .val (.int x2), .val (.int x3), .val (.long x4), .second] [(.int x3), (.int (8 : Int32))]))
        have h50 : ¬ ((8 : Int32) < x3) := fun q => h9 (Int32.lt_trans (by decide) q)
        refine g_icmp_ge X8 hx 195 180 (hb hby d1_177) (by decide) rfl rfl (fun q => absurd q h50) (fun _ => ?_)
        show Go p e below s _ _ _ (T8.setTop (mkF m 195 #[.val (.ref x0), .val (.int ((((x1 + (1 : Int32)) + (1 : Int32)) + (1 : Int32)) + (1 : Int32))), .val (.int x2), .val (.int x3), .val (.long x4), .second] []))
        refine g_iloadN X8 hx 196 (hb hby d1_195) rfl rfl ?_
        show Go p e below s _ _ _ (T8.setTop (mkF m 196 #[.val (.ref x0), .val (.int ((((x1 + (1 : Int32)) + (1 : Int32)) + (1 : Int32)) + (1 : Int32))), .val (.int x2), .val (.int x3), .val (.long x4), .second] [(.int ((((x1 + (1 : Int32)) + (1 : Int32)) + (1 : Int32)) + (1 : Int32)))]))
        exact g_retI X8 hx hret hlk (hb hby d1_196) (by decide) (by decide) (by rw [e8]; exact ⟨congrArg (fun z => some (Value.int z)) (own_ofNat (by rw [(own_fm hf (c := 1) rfl rfl h6 h9)]; exact (own_s1 (own_s1 (own_s1 (own_s1 hk (j := kn + 1) rfl (by omega)) (j := kn + 2) rfl (by omega)) (j := kn + 3) rfl (by omega)) (j := kn + 4) rfl (by omega)))), N8, K8, (by rw [(own_fm hf (c := 1) rfl rfl h6 h9)]; exact A8)⟩)
    · show Go p e below s _ _ _ (T5.setTop (mkF m 56 #[.val (.ref x0), .val (.int (((x1 + (1 : Int32)) + (1 : Int32)) + (1 : Int32))), .val (.int x2), .val (.int x3), .val (.long x4), .second] []))
      refine g_iconst X5 hx (2 : Int32) 57 (hb hby d1_56) rfl rfl ?_
      show Go p e below s _ _ _ (T5.setTop (mkF m 57 #[.val (.ref x0), .val (.int (((x1 + (1 : Int32)) + (1 : Int32)) + (1 : Int32))), .val (.int x2), .val (.int x3), .val (.long x4), .second] [(.int (2 : Int32))]))
      refine g_iloadN X5 hx 58 (hb hby d1_57) rfl rfl ?_
      show Go p e below s _ _ _ (T5.setTop (mkF m 58 #[.val (.ref x0), .val (.int (((x1 + (1 : Int32)) + (1 : Int32)) + (1 : Int32))), .val (.int x2), .val (.int x3), .val (.long x4), .second] [(.int x3), (.int (2 : Int32))]))
      have h51 : ¬ ((2 : Int32) < x3) := fun q => h6 (Int32.lt_trans (by decide) q)
      refine g_icmp_ge X5 hx 75 61 (hb hby d1_58) (by decide) rfl rfl (fun q => absurd q h51) (fun _ => ?_)
      show Go p e below s _ _ _ (T5.setTop (mkF m 75 #[.val (.ref x0), .val (.int (((x1 + (1 : Int32)) + (1 : Int32)) + (1 : Int32))), .val (.int x2), .val (.int x3), .val (.long x4), .second] []))
      refine g_iconst X5 hx (3 : Int32) 76 (hb hby d1_75) rfl rfl ?_
      show Go p e below s _ _ _ (T5.setTop (mkF m 76 #[.val (.ref x0), .val (.int (((x1 + (1 : Int32)) + (1 : Int32)) + (1 : Int32))), .val (.int x2), .val (.int x3), .val (.long x4), .second] [(.int (3 : Int32))]))
      refine g_iloadN X5 hx 77 (hb hby d1_76) rfl rfl ?_
      show Go p e below s _ _ _ (T5.setTop (mkF m 77 #[.val (.ref x0), .val (.int (((x1 + (1 : Int32)) + (1 : Int32)) + (1 : Int32))), .val (.int x2), .val (.int x3), .val (.long x4), .second] [(.int x3), (.int (3 : Int32))]))
      have h52 : ¬ ((3 : Int32) < x3) := fun q => h6 (Int32.lt_trans (by decide) q)
      refine g_icmp_ge X5 hx 94 80 (hb hby d1_77) (by decide) rfl rfl (fun q => absurd q h52) (fun _ => ?_)
      show Go p e below s _ _ _ (T5.setTop (mkF m 94 #[.val (.ref x0), .val (.int (((x1 + (1 : Int32)) + (1 : Int32)) + (1 : Int32))), .val (.int x2), .val (.int x3), .val (.long x4), .second] []))
      refine g_iconst X5 hx (4 : Int32) 95 (hb hby d1_94) rfl rfl ?_
      show Go p e below s _ _ _ (T5.setTop (mkF m 95 #[.val (.ref x0), .val (.int (((x1 + (1 : Int32)) + (1 : Int32)) + (1 : Int32))), .val (.int x2), .val (.int x3), .val (.long x4), .second] [(.int (4 : Int32))]))
      refine g_iloadN X5 hx 96 (hb hby d1_95) rfl rfl ?_
      show Go p e below s _ _ _ (T5.setTop (mkF m 96 #[.val (.ref x0), .val (.int (((x1 + (1 : Int32)) + (1 : Int32)) + (1 : Int32))), .val (.int x2), .val (.int x3), .val (.long x4), .second] [(.int x3), (.int (4 : Int32))]))
      have h53 : ¬ ((4 : Int32) < x3) := fun q => h6 (Int32.lt_trans (by decide) q)
      refine g_icmp_ge X5 hx 113 99 (hb hby d1_96) (by decide) rfl rfl (fun q => absurd q h53) (fun _ => ?_)
      show Go p e below s _ _ _ (T5.setTop (mkF m 113 #[.val (.ref x0), .val (.int (((x1 + (1 : Int32)) + (1 : Int32)) + (1 : Int32))), .val (.int x2), .val (.int x3), .val (.long x4), .second] []))
      refine g_iconst X5 hx (5 : Int32) 114 (hb hby d1_113) rfl rfl ?_
      show Go p e below s _ _ _ (T5.setTop (mkF m 114 #[.val (.ref x0), .val (.int (((x1 + (1 : Int32)) + (1 : Int32)) + (1 : Int32))), .val (.int x2), .val (.int x3), .val (.long x4), .second] [(.int (5 : Int32))]))
      refine g_iloadN X5 hx 115 (hb hby d1_114) rfl rfl ?_
      show Go p e below s _ _ _ (T5.setTop (mkF m 115 #[.val (.ref x0), .val (.int (((x1 + (1 : Int32)) + (1 : Int32)) + (1 : Int32))), .val (.int x2), .val (.int x3), .val (.long x4), .second] [(.int x3), (.int (5 : Int32))]))
      have h54 : ¬ ((5 : Int32) < x3) := fun q => h6 (Int32.lt_trans (by decide) q)
      refine g_icmp_ge X5 hx 132 118 (hb hby d1_115) (by decide) rfl rfl (fun q => absurd q h54) (fun _ => ?_)
      show Go p e below s _ _ _ (T5.setTop (mkF m 132 #[.val (.ref x0), .val (.int (((x1 + (1 : Int32)) + (1 : Int32)) + (1 : Int32))), .val (.int x2), .val (.int x3), .val (.long x4), .second] []))
      refine g_bipush X5 hx (6 : Int32) 134 (hb hby d1_132) rfl rfl ?_
      show Go p e below s _ _ _ (T5.setTop (mkF m 134 #[.val (.ref x0), .val (.int (((x1 + (1 : Int32)) + (1 : Int32)) + (1 : Int32))), .val (.int x2), .val (.int x3), .val (.long x4), .second] [(.int (6 : Int32))]))
      refine g_iloadN X5 hx 135 (hb hby d1_134) rfl rfl ?_
      show Go p e below s _ _ _ (T5.setTop (mkF m 135 #[.val (.ref x0), .val (.int (((x1 + (1 : Int32)) + (1 : Int32)) + (1 : Int32))), .val (.int x2), .val (.int x3), .val (.long x4), .second] [(.int x3), (.int (6 : Int32))]))
      have h55 : ¬ ((6 : Int32) < x3) := fun q => h6 (Int32.lt_trans (by decide) q)
      refine g_icmp_ge X5 hx 153 138 (hb hby d1_135) (by decide) rfl rfl (fun q => absurd q h55) (fun _ => ?_)
      show Go p e below s _ _ _ (T5.setTop (mkF m 153 #[.val (.ref x0), .val (.int (((x1 + (1 : Int32)) + (1 : Int32)) + (1 : Int32))), .val (.int x2), .val (.int x3), .val (.long x4), .second] []))
      refine g_bipush X5 hx (7 : Int32) 155 (hb hby d1_153) rfl rfl ?_
      show Go p e below s _ _ _ (T5.setTop (mkF m 155 #[.val (.ref x0), .val (.int (((x1 + (1 : Int32)) + (1 : Int32)) + (1 : Int32))), .val (.int x2), .val (.int x3), .val (.long x4), .second] [(.int (7 : Int32))]))
      refine g_iloadN X5 hx 156 (hb hby d1_155) rfl rfl ?_
      show Go p e below s _ _ _ (T5.setTop (mkF m 156 #[.val (.ref x0), .val (.int (((x1 + (1 : Int32)) + (1 : Int32)) + (1 : Int32))), .val (.int x2), .val (.int x3), .val (.long x4), .second] [(.int x3), (.int (7 : Int32))]))
      have h56 : ¬ ((7 : Int32) < x3) := fun q => h6 (Int32.lt_trans (by decide) q)
      refine g_icmp_ge X5 hx 174 159 (hb hby d1_156) (by decide) rfl rfl (fun q => absurd q h56) (fun _ => ?_)
      show Go p e below s _ _ _ (T5.setTop (mkF m 174 #[.val (.ref x0), .val (.int (((x1 + (1 : Int32)) + (1 : Int32)) + (1 : Int32))), .val (.int x2), .val (.int x3), .val (.long x4), .second] []))
      refine g_bipush X5 hx (8 : Int32) 176 (hb hby d1_174) rfl rfl ?_
      show Go p e below s _ _ _ (T5.setTop (mkF m 176 #[.val (.ref x0), .val (.int (((x1 + (1 : Int32)) + (1 : Int32)) + (1 : Int32))), .val (.int x2), .val (.int x3), .val (.long x4), .second] [(.int (8 : Int32))]))
      refine g_iloadN X5 hx 177 (hb hby d1_176) rfl rfl ?_
      show Go p e below s _ _ _ (T5.setTop (mkF m 177 #[.val (.ref x0), .val (.int (((x1 + (1 : Int32)) + (1 : Int32)) + (1 : Int32))), .val (.int x2), .val (.int x3), .val (.long x4), .second] [(.int x3), (.int (8 : Int32))]))
      have h57 : ¬ ((8 : Int32) < x3) := fun q => h6 (Int32.lt_trans (by decide) q)
      refine g_icmp_ge X5 hx 195 180 (hb hby d1_177) (by decide) rfl rfl (fun q => absurd q h57) (fun _ => ?_)
      show Go p e below s _ _ _ (T5.setTop (mkF m 195 #[.val (.ref x0), .val (.int (((x1 + (1 : Int32)) + (1 : Int32)) + (1 : Int32))), .val (.int x2), .val (.int x3), .val (.long x4), .second] []))
      refine g_iloadN X5 hx 196 (hb hby d1_195) rfl rfl ?_
      show Go p e below s _ _ _ (T5.setTop (mkF m 196 #[.val (.ref x0), .val (.int (((x1 + (1 : Int32)) + (1 : Int32)) + (1 : Int32))), .val (.int x2), .val (.int x3), .val (.long x4), .second] [(.int (((x1 + (1 : Int32)) + (1 : Int32)) + (1 : Int32)))]))
      exact g_retI X5 hx hret hlk (hb hby d1_196) (by decide) (by decide) (by rw [e5]; exact ⟨congrArg (fun z => some (Value.int z)) (own_ofNat (by rw [(own_fm hf (c := 0) rfl rfl h3 h6)]; exact (own_s1 (own_s1 (own_s1 hk (j := kn + 1) rfl (by omega)) (j := kn + 2) rfl (by omega)) (j := kn + 3) rfl (by omega)))), N5, K5, (by rw [(own_fm hf (c := 0) rfl rfl h3 h6)]; exact A5)⟩)
  · show Go p e below s _ _ _ (T2.setTop (mkF m 37 #[.val (.ref x0), .val (.int ((x1 + (1 : Int32)) + (1 : Int32))), .val (.int x2), .val (.int x3), .val (.long x4), .second] []))
    refine g_iconst X2 hx (1 : Int32) 38 (hb hby d1_37) rfl rfl ?_
    show Go p e below s _ _ _ (T2.setTop (mkF m 38 #[.val (.ref x0), .val (.int ((x1 + (1 : Int32)) + (1 : Int32))), .val (.int x2), .val (.int x3), .val (.long x4), .second] [(.int (1 : Int32))]))
    refine g_iloadN X2 hx 39 (hb hby d1_38) rfl rfl ?_
    show Go p e below s _ _ _ (T2.setTop (mkF m 39 #[.val (.ref x0), .val (.int ((x1 + (1 : Int32)) + (1 : Int32))), .val (.int x2), .val (.int x3), .val (.long x4), .second] [(.int x3), (.int (1 : Int32))]))
    have h58 : ¬ ((1 : Int32) < x3) := fun q => h3 (Int32.lt_trans (by decide) q)
    refine g_icmp_ge X2 hx 56 42 (hb hby d1_39) (by decide) rfl rfl (fun q => absurd q h58) (fun _ => ?_)
    show Go p e below s _ _ _ (T2.setTop (mkF m 56 #[.val (.ref x0), .val (.int ((x1 + (1 : Int32)) + (1 : Int32))), .val (.int x2), .val (.int x3), .val (.long x4), .second] []))
    refine g_iconst X2 hx (2 : Int32) 57 (hb hby d1_56) rfl rfl ?_
    show Go p e below s _ _ _ (T2.setTop (mkF m 57 #[.val (.ref x0), .val (.int ((x1 + (1 : Int32)) + (1 : Int32))), .val (.int x2), .val (.int x3), .val (.long x4), .second] [(.int (2 : Int32))]))
    refine g_iloadN X2 hx 58 (hb hby d1_57) rfl rfl ?_
    show Go p e below s _ _ _ (T2.setTop (mkF m 58 #[.val (.ref x0), .val (.int ((x1 + (1 : Int32)) + (1 : Int32))), .val (.int x2), .val (.int x3), .val (.long x4), .second] [(.int x3), (.int (2 : Int32))]))
    have h59 : ¬ ((2 : Int32) < x3) := fun q => h3 (Int32.lt_trans (by decide) q)
    refine g_icmp_ge X2 hx 75 61 (hb hby d1_58) (by decide) rfl rfl (fun q => absurd q h59) (fun _ => ?_)
    show Go p e below s _ _ _ (T2.setTop (mkF m 75 #[.val (.ref x0), .val (.int ((x1 + (1 : Int32)) + (1 : Int32))), .val (.int x2), .val (.int x3), .val (.long x4), .second] []))
    refine g_iconst X2 hx (3 : Int32) 76 (hb hby d1_75) rfl rfl ?_
    show Go p e below s _ _ _ (T2.setTop (mkF m 76 #[.val (.ref x0), .val (.int ((x1 + (1 : Int32)) + (1 : Int32))), .val (.int x2), .val (.int x3), .val (.long x4), .second] [(.int (3 : Int32))]))
    refine g_iloadN X2 hx 77 (hb hby d1_76) rfl rfl ?_
    show Go p e below s _ _ _ (T2.setTop (mkF m 77 #[.val (.ref x0), .val (.int ((x1 + (1 : Int32)) + (1 : Int32))), .val (.int x2), .val (.int x3), .val (.long x4), .second] [(.int x3), (.int (3 : Int32))]))
    have h60 : ¬ ((3 : Int32) < x3) := fun q => h3 (Int32.lt_trans (by decide) q)
    refine g_icmp_ge X2 hx 94 80 (hb hby d1_77) (by decide) rfl rfl (fun q => absurd q h60) (fun _ => ?_)
    show Go p e below s _ _ _ (T2.setTop (mkF m 94 #[.val (.ref x0), .val (.int ((x1 + (1 : Int32)) + (1 : Int32))), .val (.int x2), .val (.int x3), .val (.long x4), .second] []))
    refine g_iconst X2 hx (4 : Int32) 95 (hb hby d1_94) rfl rfl ?_
    show Go p e below s _ _ _ (T2.setTop (mkF m 95 #[.val (.ref x0), .val (.int ((x1 + (1 : Int32)) + (1 : Int32))), .val (.int x2), .val (.int x3), .val (.long x4), .second] [(.int (4 : Int32))]))
    refine g_iloadN X2 hx 96 (hb hby d1_95) rfl rfl ?_
    show Go p e below s _ _ _ (T2.setTop (mkF m 96 #[.val (.ref x0), .val (.int ((x1 + (1 : Int32)) + (1 : Int32))), .val (.int x2), .val (.int x3), .val (.long x4), .second] [(.int x3), (.int (4 : Int32))]))
    have h61 : ¬ ((4 : Int32) < x3) := fun q => h3 (Int32.lt_trans (by decide) q)
    refine g_icmp_ge X2 hx 113 99 (hb hby d1_96) (by decide) rfl rfl (fun q => absurd q h61) (fun _ => ?_)
    show Go p e below s _ _ _ (T2.setTop (mkF m 113 #[.val (.ref x0), .val (.int ((x1 + (1 : Int32)) + (1 : Int32))), .val (.int x2), .val (.int x3), .val (.long x4), .second] []))
    refine g_iconst X2 hx (5 : Int32) 114 (hb hby d1_113) rfl rfl ?_
    show Go p e below s _ _ _ (T2.setTop (mkF m 114 #[.val (.ref x0), .val (.int ((x1 + (1 : Int32)) + (1 : Int32))), .val (.int x2), .val (.int x3), .val (.long x4), .second] [(.int (5 : Int32))]))
    refine g_iloadN X2 hx 115 (hb hby d1_114) rfl rfl ?_
    show Go p e below s _ _ _ (T2.setTop (mkF m 115 #[.val (.ref x0), .val (.int ((x1 + (1 : Int32)) + (1 : Int32))), .val (.int x2), .val (.int x3), .val (.long x4), .second] [(.int x3), (.int (5 : Int32))]))
    have h62 : ¬ ((5 : Int32) < x3) := fun q => h3 (Int32.lt_trans (by decide) q)
    refine g_icmp_ge X2 hx 132 118 (hb hby d1_115) (by decide) rfl rfl (fun q => absurd q h62) (fun _ => ?_)
    show Go p e below s _ _ _ (T2.setTop (mkF m 132 #[.val (.ref x0), .val (.int ((x1 + (1 : Int32)) + (1 : Int32))), .val (.int x2), .val (.int x3), .val (.long x4), .second] []))
    refine g_bipush X2 hx (6 : Int32) 134 (hb hby d1_132) rfl rfl ?_
    show Go p e below s _ _ _ (T2.setTop (mkF m 134 #[.val (.ref x0), .val (.int ((x1 + (1 : Int32)) + (1 : Int32))), .val (.int x2), .val (.int x3), .val (.long x4), .second] [(.int (6 : Int32))]))
    refine g_iloadN X2 hx 135 (hb hby d1_134) rfl rfl ?_
    show Go p e below s _ _ _ (T2.setTop (mkF m 135 #[.val (.ref x0), .val (.int ((x1 + (1 : Int32)) + (1 : Int32))), .val (.int x2), .val (.int x3), .val (.long x4), .second] [(.int x3), (.int (6 : Int32))]))
    have h63 : ¬ ((6 : Int32) < x3) := fun q => h3 (Int32.lt_trans (by decide) q)
    refine g_icmp_ge X2 hx 153 138 (hb hby d1_135) (by decide) rfl rfl (fun q => absurd q h63) (fun _ => ?_)
    show Go p e below s _ _ _ (T2.setTop (mkF m 153 #[.val (.ref x0), .val (.int ((x1 + (1 : Int32)) + (1 : Int32))), .val (.int x2), .val (.int x3), .val (.long x4), .second] []))
    refine g_bipush X2 hx (7 : Int32) 155 (hb hby d1_153) rfl rfl ?_
    show Go p e below s _ _ _ (T2.setTop (mkF m 155 #[.val (.ref x0), .val (.int ((x1 + (1 : Int32)) + (1 : Int32))), .val (.int x2), .val (.int x3), .val (.long x4), .second] [(.int (7 : Int32))]))
    refine g_iloadN X2 hx 156 (hb hby d1_155) rfl rfl ?_
    show Go p e below s _ _ _ (T2.setTop (mkF m 156 #[.val (.ref x0), .val (.int ((x1 + (1 : Int32)) + (1 : Int32))), .val (.int x2), .val (.int x3), .val (.long x4), .second] [(.int x3), (.int (7 : Int32))]))
    have h64 : ¬ ((7 : Int32) < x3) := fun q => h3 (Int32.lt_trans (by decide) q)
    refine g_icmp_ge X2 hx 174 159 (hb hby d1_156) (by decide) rfl rfl (fun q => absurd q h64) (fun _ => ?_)
    show Go p e below s _ _ _ (T2.setTop (mkF m 174 #[.val (.ref x0), .val (.int ((x1 + (1 : Int32)) + (1 : Int32))), .val (.int x2), .val (.int x3), .val (.long x4), .second] []))
    refine g_bipush X2 hx (8 : Int32) 176 (hb hby d1_174) rfl rfl ?_
    show Go p e below s _ _ _ (T2.setTop (mkF m 176 #[.val (.ref x0), .val (.int ((x1 + (1 : Int32)) + (1 : Int32))), .val (.int x2), .val (.int x3), .val (.long x4), .second] [(.int (8 : Int32))]))
    refine g_iloadN X2 hx 177 (hb hby d1_176) rfl rfl ?_
    show Go p e below s _ _ _ (T2.setTop (mkF m 177 #[.val (.ref x0), .val (.int ((x1 + (1 : Int32)) + (1 : Int32))), .val (.int x2), .val (.int x3), .val (.long x4), .second] [(.int x3), (.int (8 : Int32))]))
    have h65 : ¬ ((8 : Int32) < x3) := fun q => h3 (Int32.lt_trans (by decide) q)
    refine g_icmp_ge X2 hx 195 180 (hb hby d1_177) (by decide) rfl rfl (fun q => absurd q h65) (fun _ => ?_)
    show Go p e below s _ _ _ (T2.setTop (mkF m 195 #[.val (.ref x0), .val (.int ((x1 + (1 : Int32)) + (1 : Int32))), .val (.int x2), .val (.int x3), .val (.long x4), .second] []))
    refine g_iloadN X2 hx 196 (hb hby d1_195) rfl rfl ?_
    show Go p e below s _ _ _ (T2.setTop (mkF m 196 #[.val (.ref x0), .val (.int ((x1 + (1 : Int32)) + (1 : Int32))), .val (.int x2), .val (.int x3), .val (.long x4), .second] [(.int ((x1 + (1 : Int32)) + (1 : Int32)))]))
    exact g_retI X2 hx hret hlk (hb hby d1_196) (by decide) (by decide) (by rw [e2]; exact ⟨congrArg (fun z => some (Value.int z)) (own_ofNat (by rw [(own_f0 hf h3)]; exact (own_s1 (own_s1 hk (j := kn + 1) rfl (by omega)) (j := kn + 2) rfl (by omega)))), N2, K2, (by rw [(own_f0 hf h3)]; exact A2)⟩)
theorem d9_0 : decode method_4_code 0 = .ok (.aload_n 0, 1) := by decide +kernel
theorem d9_1 : decode method_4_code 1 = .ok (.ifnull 9, 3) := by decide +kernel
theorem d9_4 : decode method_4_code 4 = .ok (.aload_n 0, 1) := by decide +kernel
theorem d9_5 : decode method_4_code 5 = .ok (.arraylength, 1) := by decide +kernel
theorem d9_6 : decode method_4_code 6 = .ok (.iload_n 1, 1) := by decide +kernel
theorem d9_7 : decode method_4_code 7 = .ok (.if_icmp .eq 5, 3) := by decide +kernel
theorem d9_12 : decode method_4_code 12 = .ok (.iconst 0, 1) := by decide +kernel
theorem d9_13 : decode method_4_code 13 = .ok (.istore 4, 2) := by decide +kernel
theorem d9_15 : decode method_4_code 15 = .ok (.iload 4, 2) := by decide +kernel
theorem d9_17 : decode method_4_code 17 = .ok (.lload_n 2, 1) := by decide +kernel
theorem d9_18 : decode method_4_code 18 = .ok (.iconst 0, 1) := by decide +kernel
theorem d9_19 : decode method_4_code 19 = .ok (.invokestatic 9, 3) := by decide +kernel
theorem d9_22 : decode method_4_code 22 = .ok (.iadd, 1) := by decide +kernel
theorem d9_23 : decode method_4_code 23 = .ok (.istore 4, 2) := by decide +kernel
theorem d9_25 : decode method_4_code 25 = .ok (.iconst 0, 1) := by decide +kernel
theorem d9_26 : decode method_4_code 26 = .ok (.iload_n 1, 1) := by decide +kernel
theorem d9_27 : decode method_4_code 27 = .ok (.if_icmp .ge 13, 3) := by decide +kernel
theorem d9_30 : decode method_4_code 30 = .ok (.aload_n 0, 1) := by decide +kernel
theorem d9_31 : decode method_4_code 31 = .ok (.iconst 0, 1) := by decide +kernel
theorem d9_32 : decode method_4_code 32 = .ok (.iaload, 1) := by decide +kernel
theorem d9_33 : decode method_4_code 33 = .ok (.iload 4, 2) := by decide +kernel
theorem d9_35 : decode method_4_code 35 = .ok (.if_icmp .eq 5, 3) := by decide +kernel
theorem d9_40 : decode method_4_code 40 = .ok (.iload 4, 2) := by decide +kernel
theorem d9_42 : decode method_4_code 42 = .ok (.lload_n 2, 1) := by decide +kernel
theorem d9_43 : decode method_4_code 43 = .ok (.iconst 1, 1) := by decide +kernel
theorem d9_44 : decode method_4_code 44 = .ok (.invokestatic 9, 3) := by decide +kernel
theorem d9_47 : decode method_4_code 47 = .ok (.iadd, 1) := by decide +kernel
theorem d9_48 : decode method_4_code 48 = .ok (.istore 4, 2) := by decide +kernel
theorem d9_50 : decode method_4_code 50 = .ok (.iconst 1, 1) := by decide +kernel
theorem d9_51 : decode method_4_code 51 = .ok (.iload_n 1, 1) := by decide +kernel
theorem d9_52 : decode method_4_code 52 = .ok (.if_icmp .ge 13, 3) := by decide +kernel
theorem d9_55 : decode method_4_code 55 = .ok (.aload_n 0, 1) := by decide +kernel
theorem d9_56 : decode method_4_code 56 = .ok (.iconst 1, 1) := by decide +kernel
theorem d9_57 : decode method_4_code 57 = .ok (.iaload, 1) := by decide +kernel
theorem d9_58 : decode method_4_code 58 = .ok (.iload 4, 2) := by decide +kernel
theorem d9_60 : decode method_4_code 60 = .ok (.if_icmp .eq 5, 3) := by decide +kernel
theorem d9_65 : decode method_4_code 65 = .ok (.iload 4, 2) := by decide +kernel
theorem d9_67 : decode method_4_code 67 = .ok (.lload_n 2, 1) := by decide +kernel
theorem d9_68 : decode method_4_code 68 = .ok (.iconst 2, 1) := by decide +kernel
theorem d9_69 : decode method_4_code 69 = .ok (.invokestatic 9, 3) := by decide +kernel
theorem d9_72 : decode method_4_code 72 = .ok (.iadd, 1) := by decide +kernel
theorem d9_73 : decode method_4_code 73 = .ok (.istore 4, 2) := by decide +kernel
theorem d9_75 : decode method_4_code 75 = .ok (.iconst 2, 1) := by decide +kernel
theorem d9_76 : decode method_4_code 76 = .ok (.iload_n 1, 1) := by decide +kernel
theorem d9_77 : decode method_4_code 77 = .ok (.if_icmp .ge 13, 3) := by decide +kernel
theorem d9_80 : decode method_4_code 80 = .ok (.aload_n 0, 1) := by decide +kernel
theorem d9_81 : decode method_4_code 81 = .ok (.iconst 2, 1) := by decide +kernel
theorem d9_82 : decode method_4_code 82 = .ok (.iaload, 1) := by decide +kernel
theorem d9_83 : decode method_4_code 83 = .ok (.iload 4, 2) := by decide +kernel
theorem d9_85 : decode method_4_code 85 = .ok (.if_icmp .eq 5, 3) := by decide +kernel
theorem d9_90 : decode method_4_code 90 = .ok (.iload 4, 2) := by decide +kernel
theorem d9_92 : decode method_4_code 92 = .ok (.lload_n 2, 1) := by decide +kernel
theorem d9_93 : decode method_4_code 93 = .ok (.iconst 3, 1) := by decide +kernel
theorem d9_94 : decode method_4_code 94 = .ok (.invokestatic 9, 3) := by decide +kernel
theorem d9_97 : decode method_4_code 97 = .ok (.iadd, 1) := by decide +kernel
theorem d9_98 : decode method_4_code 98 = .ok (.istore 4, 2) := by decide +kernel
theorem d9_100 : decode method_4_code 100 = .ok (.iconst 3, 1) := by decide +kernel
theorem d9_101 : decode method_4_code 101 = .ok (.iload_n 1, 1) := by decide +kernel
theorem d9_102 : decode method_4_code 102 = .ok (.if_icmp .ge 13, 3) := by decide +kernel
theorem d9_105 : decode method_4_code 105 = .ok (.aload_n 0, 1) := by decide +kernel
theorem d9_106 : decode method_4_code 106 = .ok (.iconst 3, 1) := by decide +kernel
theorem d9_107 : decode method_4_code 107 = .ok (.iaload, 1) := by decide +kernel
theorem d9_108 : decode method_4_code 108 = .ok (.iload 4, 2) := by decide +kernel
theorem d9_110 : decode method_4_code 110 = .ok (.if_icmp .eq 5, 3) := by decide +kernel
theorem d9_115 : decode method_4_code 115 = .ok (.iload 4, 2) := by decide +kernel
theorem d9_117 : decode method_4_code 117 = .ok (.lload_n 2, 1) := by decide +kernel
theorem d9_118 : decode method_4_code 118 = .ok (.iconst 4, 1) := by decide +kernel
theorem d9_119 : decode method_4_code 119 = .ok (.invokestatic 9, 3) := by decide +kernel
theorem d9_122 : decode method_4_code 122 = .ok (.iadd, 1) := by decide +kernel
theorem d9_123 : decode method_4_code 123 = .ok (.istore 4, 2) := by decide +kernel
theorem d9_125 : decode method_4_code 125 = .ok (.iconst 4, 1) := by decide +kernel
theorem d9_126 : decode method_4_code 126 = .ok (.iload_n 1, 1) := by decide +kernel
theorem d9_127 : decode method_4_code 127 = .ok (.if_icmp .ge 13, 3) := by decide +kernel
theorem d9_130 : decode method_4_code 130 = .ok (.aload_n 0, 1) := by decide +kernel
theorem d9_131 : decode method_4_code 131 = .ok (.iconst 4, 1) := by decide +kernel
theorem d9_132 : decode method_4_code 132 = .ok (.iaload, 1) := by decide +kernel
theorem d9_133 : decode method_4_code 133 = .ok (.iload 4, 2) := by decide +kernel
theorem d9_135 : decode method_4_code 135 = .ok (.if_icmp .eq 5, 3) := by decide +kernel
theorem d9_140 : decode method_4_code 140 = .ok (.iload 4, 2) := by decide +kernel
theorem d9_142 : decode method_4_code 142 = .ok (.lload_n 2, 1) := by decide +kernel
theorem d9_143 : decode method_4_code 143 = .ok (.iconst 5, 1) := by decide +kernel
theorem d9_144 : decode method_4_code 144 = .ok (.invokestatic 9, 3) := by decide +kernel
theorem d9_147 : decode method_4_code 147 = .ok (.iadd, 1) := by decide +kernel
theorem d9_148 : decode method_4_code 148 = .ok (.istore 4, 2) := by decide +kernel
theorem d9_150 : decode method_4_code 150 = .ok (.iconst 5, 1) := by decide +kernel
theorem d9_151 : decode method_4_code 151 = .ok (.iload_n 1, 1) := by decide +kernel
theorem d9_152 : decode method_4_code 152 = .ok (.if_icmp .ge 13, 3) := by decide +kernel
theorem d9_155 : decode method_4_code 155 = .ok (.aload_n 0, 1) := by decide +kernel
theorem d9_156 : decode method_4_code 156 = .ok (.iconst 5, 1) := by decide +kernel
theorem d9_157 : decode method_4_code 157 = .ok (.iaload, 1) := by decide +kernel
theorem d9_158 : decode method_4_code 158 = .ok (.iload 4, 2) := by decide +kernel
theorem d9_160 : decode method_4_code 160 = .ok (.if_icmp .eq 5, 3) := by decide +kernel
theorem d9_165 : decode method_4_code 165 = .ok (.iload 4, 2) := by decide +kernel
theorem d9_167 : decode method_4_code 167 = .ok (.lload_n 2, 1) := by decide +kernel
theorem d9_168 : decode method_4_code 168 = .ok (.bipush 6, 2) := by decide +kernel
theorem d9_170 : decode method_4_code 170 = .ok (.invokestatic 9, 3) := by decide +kernel
theorem d9_173 : decode method_4_code 173 = .ok (.iadd, 1) := by decide +kernel
theorem d9_174 : decode method_4_code 174 = .ok (.istore 4, 2) := by decide +kernel
theorem d9_176 : decode method_4_code 176 = .ok (.bipush 6, 2) := by decide +kernel
theorem d9_178 : decode method_4_code 178 = .ok (.iload_n 1, 1) := by decide +kernel
theorem d9_179 : decode method_4_code 179 = .ok (.if_icmp .ge 14, 3) := by decide +kernel
theorem d9_182 : decode method_4_code 182 = .ok (.aload_n 0, 1) := by decide +kernel
theorem d9_183 : decode method_4_code 183 = .ok (.bipush 6, 2) := by decide +kernel
theorem d9_185 : decode method_4_code 185 = .ok (.iaload, 1) := by decide +kernel
theorem d9_186 : decode method_4_code 186 = .ok (.iload 4, 2) := by decide +kernel
theorem d9_188 : decode method_4_code 188 = .ok (.if_icmp .eq 5, 3) := by decide +kernel
theorem d9_193 : decode method_4_code 193 = .ok (.iload 4, 2) := by decide +kernel
theorem d9_195 : decode method_4_code 195 = .ok (.lload_n 2, 1) := by decide +kernel
theorem d9_196 : decode method_4_code 196 = .ok (.bipush 7, 2) := by decide +kernel
theorem d9_198 : decode method_4_code 198 = .ok (.invokestatic 9, 3) := by decide +kernel
theorem d9_201 : decode method_4_code 201 = .ok (.iadd, 1) := by decide +kernel
theorem d9_202 : decode method_4_code 202 = .ok (.istore 4, 2) := by decide +kernel
theorem d9_204 : decode method_4_code 204 = .ok (.bipush 7, 2) := by decide +kernel
theorem d9_206 : decode method_4_code 206 = .ok (.iload_n 1, 1) := by decide +kernel
theorem d9_207 : decode method_4_code 207 = .ok (.if_icmp .ge 14, 3) := by decide +kernel
theorem d9_210 : decode method_4_code 210 = .ok (.aload_n 0, 1) := by decide +kernel
theorem d9_211 : decode method_4_code 211 = .ok (.bipush 7, 2) := by decide +kernel
theorem d9_213 : decode method_4_code 213 = .ok (.iaload, 1) := by decide +kernel
theorem d9_214 : decode method_4_code 214 = .ok (.iload 4, 2) := by decide +kernel
theorem d9_216 : decode method_4_code 216 = .ok (.if_icmp .eq 5, 3) := by decide +kernel
theorem d9_221 : decode method_4_code 221 = .ok (.iload 4, 2) := by decide +kernel
theorem d9_223 : decode method_4_code 223 = .ok (.lload_n 2, 1) := by decide +kernel
theorem d9_224 : decode method_4_code 224 = .ok (.bipush 8, 2) := by decide +kernel
theorem d9_226 : decode method_4_code 226 = .ok (.invokestatic 9, 3) := by decide +kernel
theorem d9_229 : decode method_4_code 229 = .ok (.iadd, 1) := by decide +kernel
theorem d9_230 : decode method_4_code 230 = .ok (.istore 4, 2) := by decide +kernel
theorem d9_232 : decode method_4_code 232 = .ok (.bipush 8, 2) := by decide +kernel
theorem d9_234 : decode method_4_code 234 = .ok (.iload_n 1, 1) := by decide +kernel
theorem d9_235 : decode method_4_code 235 = .ok (.if_icmp .ge 14, 3) := by decide +kernel
theorem d9_238 : decode method_4_code 238 = .ok (.aload_n 0, 1) := by decide +kernel
theorem d9_239 : decode method_4_code 239 = .ok (.bipush 8, 2) := by decide +kernel
theorem d9_241 : decode method_4_code 241 = .ok (.iaload, 1) := by decide +kernel
theorem d9_242 : decode method_4_code 242 = .ok (.iload 4, 2) := by decide +kernel
theorem d9_244 : decode method_4_code 244 = .ok (.if_icmp .eq 5, 3) := by decide +kernel
theorem d9_249 : decode method_4_code 249 = .ok (.iconst 1, 1) := by decide +kernel
theorem d9_250 : decode method_4_code 250 = .ok (.ireturn, 1) := by decide +kernel
theorem ef_9 (m : MethodId) (x0 : Addr) (x1 : Int32) (x2 : Int64) : entryFrame m #[(.ref x0), (.int x1), (.long x2)] 5 = mkF m 0 #[.val (.ref x0), .val (.int x1), .val (.long x2), .second, .unset] [] := by first | (simp [entryFrame, mkF, argsToLocals, Value.category]; done) | rfl
def Q9 (Z : State) (x0 : Addr) (x1 : Int32) (x2 : Int64) (g : Nat → Int32) (fn : Nat) (h0 : Heap) (v : Option Value) (h : Heap) (L : List Loc) : Prop := v = some (.int (1 : Int32)) ∧ L = [] ∧ h = h0
set_option maxRecDepth 65536 in
set_option maxHeartbeats 40000000 in
theorem rm9 (l : Launch) (Z : State) (a0 : Array Value) (hw : ∀ d ∈ tables_1, d.before a0 Z = true) (ws : List Jvm.Cond) (x0 : Addr) (x1 : Int32) (x2 : Int64) (g : Nat → Int32) (fn : Nat) (h0 : Heap) (P0 : AI Z h0 x0 fn g) (hf : x1.toInt = fn) (hs : ∀ i, i < fn → g i = own_p x2 i) :
    MetFree l (⟨"com/example/terms_in_context/termsincontext/index/PostingsPositionsPinLaw", "matches", "([IIJ)Z"⟩ : MethodName) (head1 (Jvm.Cond.code (⟨"com/example/terms_in_context/termsincontext/index/PostingsPositionsPinLaw", "matches", "([IIJ)Z"⟩ : MethodName) method_4_code 5 (some .boolean) :: ws) ({ frames := 1, cells := 0, slots := 0, locals := 16 } : Room)) (fun a U => a = #[(.ref x0), (.int x1), (.long x2)] ∧ Z.Warmed39 U.vm ∧ U.heap = h0) (fun _ _ _ _ _ => True) (fun _ U o U' => ∃ v L, o = .returned v ∧ Q9 Z x0 x1 x2 g fn h0 v U'.heap L ∧ FrameEnd U o U' L ({ frames := 1, cells := 0, slots := 0, locals := 16 } : Room).cells ({ frames := 1, cells := 0, slots := 0, locals := 16 } : Room).slots) := by
  refine g_body (plainFor_of_name pn_2) ?_
  intro p e s m below meth c T0 X0 hx hby hml hret hlk hown hnm hZ e0
  rw [ef_9]
  show Go p e below s _ _ _ (T0.setTop (mkF m 0 #[.val (.ref x0), .val (.int x1), .val (.long x2), .second, .unset] []))
  refine g_aloadN X0 hx 1 (hb hby d9_0) rfl rfl rfl ?_
  show Go p e below s _ _ _ (T0.setTop (mkF m 1 #[.val (.ref x0), .val (.int x1), .val (.long x2), .second, .unset] [(.ref x0)]))
  refine g_ifnull_no X0 hx 4 (hb hby d9_1) rfl ?_
  show Go p e below s _ _ _ (T0.setTop (mkF m 4 #[.val (.ref x0), .val (.int x1), .val (.long x2), .second, .unset] []))
  refine g_aloadN X0 hx 5 (hb hby d9_4) rfl rfl rfl ?_
  show Go p e below s _ _ _ (T0.setTop (mkF m 5 #[.val (.ref x0), .val (.int x1), .val (.long x2), .second, .unset] [(.ref x0)]))
  refine g_arraylengthI X0 hx hZ e0 P0 (fn.toInt32) rfl 6 (hb hby d9_5) rfl ?_
  show Go p e below s _ _ _ (T0.setTop (mkF m 6 #[.val (.ref x0), .val (.int x1), .val (.long x2), .second, .unset] [(.int (fn.toInt32))]))
  refine g_iloadN X0 hx 7 (hb hby d9_6) rfl rfl ?_
  show Go p e below s _ _ _ (T0.setTop (mkF m 7 #[.val (.ref x0), .val (.int x1), .val (.long x2), .second, .unset] [(.int x1), (.int (fn.toInt32))]))
  have h2 : (fn.toInt32) = x1 := own_len hf
  refine g_icmp_eq X0 hx 12 10 (hb hby d9_7) (by decide) rfl rfl (fun _ => ?_) (fun q => absurd h2 q)
  show Go p e below s _ _ _ (T0.setTop (mkF m 12 #[.val (.ref x0), .val (.int x1), .val (.long x2), .second, .unset] []))
  refine g_iconst X0 hx (0 : Int32) 13 (hb hby d9_12) rfl rfl ?_
  show Go p e below s _ _ _ (T0.setTop (mkF m 13 #[.val (.ref x0), .val (.int x1), .val (.long x2), .second, .unset] [(.int (0 : Int32))]))
  refine g_istore X0 hx #[.val (.ref x0), .val (.int x1), .val (.long x2), .second, .val (.int (0 : Int32))] 15 (hb hby d9_13) rfl rfl ?_
  show Go p e below s _ _ _ (T0.setTop (mkF m 15 #[.val (.ref x0), .val (.int x1), .val (.long x2), .second, .val (.int (0 : Int32))] []))
  refine g_iload X0 hx 17 (hb hby d9_15) rfl rfl ?_
  show Go p e below s _ _ _ (T0.setTop (mkF m 17 #[.val (.ref x0), .val (.int x1), .val (.long x2), .second, .val (.int (0 : Int32))] [(.int (0 : Int32))]))
  refine g_lloadN X0 hx 18 (hb hby d9_17) rfl rfl ?_
  show Go p e below s _ _ _ (T0.setTop (mkF m 18 #[.val (.ref x0), .val (.int x1), .val (.long x2), .second, .val (.int (0 : Int32))] [(.long x2), (.int (0 : Int32))]))
  refine g_iconst X0 hx (0 : Int32) 19 (hb hby d9_18) rfl rfl ?_
  show Go p e below s _ _ _ (T0.setTop (mkF m 19 #[.val (.ref x0), .val (.int x1), .val (.long x2), .second, .val (.int (0 : Int32))] [(.int (0 : Int32)), (.long x2), (.int (0 : Int32))]))
  refine g_callS X0 hx hZ hown (hw _ (List.mem_of_getElem? (i := 6) rfl)) (hw _ (List.mem_of_getElem? (i := 7) rfl)) (hw _ (List.mem_of_getElem? (i := 4) rfl)) (hw _ (List.mem_of_getElem? (i := 8) rfl)) (by decide) e0 (rm2 l Z a0 hw [] x2 (0 : Int32) h0) [(.long x2), (.int (0 : Int32))] [(.int (0 : Int32))] 1 rfl (lenOf pd__28JI_29I rfl) rfl (Nat.le_of_eq rfl) (by decide) (by decide) (by decide) (by decide) (by rw [hml]; rfl) (hb hby d9_19) ?_
  intro T3 L3 v3 X3 q3
  obtain ⟨rfl, rfl, e3⟩ := q3
  show Go p e below s _ _ _ (T3.setTop (mkF m 22 #[.val (.ref x0), .val (.int x1), .val (.long x2), .second, .val (.int (0 : Int32))] [(.int (f2 x2 (0 : Int32))), (.int (0 : Int32))]))
  refine g_iadd X3 hx 23 (hb hby d9_22) rfl ?_
  show Go p e below s _ _ _ (T3.setTop (mkF m 23 #[.val (.ref x0), .val (.int x1), .val (.long x2), .second, .val (.int (0 : Int32))] [(.int ((0 : Int32) + (f2 x2 (0 : Int32))))]))
  refine g_istore X3 hx #[.val (.ref x0), .val (.int x1), .val (.long x2), .second, .val (.int ((0 : Int32) + (f2 x2 (0 : Int32))))] 25 (hb hby d9_23) rfl rfl ?_
  show Go p e below s _ _ _ (T3.setTop (mkF m 25 #[.val (.ref x0), .val (.int x1), .val (.long x2), .second, .val (.int ((0 : Int32) + (f2 x2 (0 : Int32))))] []))
  refine g_iconst X3 hx (0 : Int32) 26 (hb hby d9_25) rfl rfl ?_
  show Go p e below s _ _ _ (T3.setTop (mkF m 26 #[.val (.ref x0), .val (.int x1), .val (.long x2), .second, .val (.int ((0 : Int32) + (f2 x2 (0 : Int32))))] [(.int (0 : Int32))]))
  refine g_iloadN X3 hx 27 (hb hby d9_26) rfl rfl ?_
  show Go p e below s _ _ _ (T3.setTop (mkF m 27 #[.val (.ref x0), .val (.int x1), .val (.long x2), .second, .val (.int ((0 : Int32) + (f2 x2 (0 : Int32))))] [(.int x1), (.int (0 : Int32))]))
  refine g_icmp_ge X3 hx 40 30 (hb hby d9_27) (by decide) rfl rfl (fun h4 => ?_) (fun h4 => ?_)
  · show Go p e below s _ _ _ (T3.setTop (mkF m 30 #[.val (.ref x0), .val (.int x1), .val (.long x2), .second, .val (.int ((0 : Int32) + (f2 x2 (0 : Int32))))] []))
    refine g_aloadN X3 hx 31 (hb hby d9_30) rfl rfl rfl ?_
    show Go p e below s _ _ _ (T3.setTop (mkF m 31 #[.val (.ref x0), .val (.int x1), .val (.long x2), .second, .val (.int ((0 : Int32) + (f2 x2 (0 : Int32))))] [(.ref x0)]))
    refine g_iconst X3 hx (0 : Int32) 32 (hb hby d9_31) rfl rfl ?_
    show Go p e below s _ _ _ (T3.setTop (mkF m 32 #[.val (.ref x0), .val (.int x1), .val (.long x2), .second, .val (.int ((0 : Int32) + (f2 x2 (0 : Int32))))] [(.int (0 : Int32)), (.ref x0)]))
    refine g_iaload X3 hx hZ e3 P0 0 rfl (own_lt hf (k := 0) rfl h4) 33 (hb hby d9_32) rfl ?_
    show Go p e below s _ _ _ (T3.setTop (mkF m 33 #[.val (.ref x0), .val (.int x1), .val (.long x2), .second, .val (.int ((0 : Int32) + (f2 x2 (0 : Int32))))] [(.int (g 0))]))
    refine g_iload X3 hx 35 (hb hby d9_33) rfl rfl ?_
    show Go p e below s _ _ _ (T3.setTop (mkF m 35 #[.val (.ref x0), .val (.int x1), .val (.long x2), .second, .val (.int ((0 : Int32) + (f2 x2 (0 : Int32))))] [(.int ((0 : Int32) + (f2 x2 (0 : Int32)))), (.int (g 0))]))
    have h6 : (g 0) = ((0 : Int32) + (f2 x2 (0 : Int32))) := hs 0 (own_lt hf (k := 0) rfl h4)
    refine g_icmp_eq X3 hx 40 38 (hb hby d9_35) (by decide) rfl rfl (fun _ => ?_) (fun q => absurd h6 q)
    show Go p e below s _ _ _ (T3.setTop (mkF m 40 #[.val (.ref x0), .val (.int x1), .val (.long x2), .second, .val (.int ((0 : Int32) + (f2 x2 (0 : Int32))))] []))
    refine g_iload X3 hx 42 (hb hby d9_40) rfl rfl ?_
    show Go p e below s _ _ _ (T3.setTop (mkF m 42 #[.val (.ref x0), .val (.int x1), .val (.long x2), .second, .val (.int ((0 : Int32) + (f2 x2 (0 : Int32))))] [(.int ((0 : Int32) + (f2 x2 (0 : Int32))))]))
    refine g_lloadN X3 hx 43 (hb hby d9_42) rfl rfl ?_
    show Go p e below s _ _ _ (T3.setTop (mkF m 43 #[.val (.ref x0), .val (.int x1), .val (.long x2), .second, .val (.int ((0 : Int32) + (f2 x2 (0 : Int32))))] [(.long x2), (.int ((0 : Int32) + (f2 x2 (0 : Int32))))]))
    refine g_iconst X3 hx (1 : Int32) 44 (hb hby d9_43) rfl rfl ?_
    show Go p e below s _ _ _ (T3.setTop (mkF m 44 #[.val (.ref x0), .val (.int x1), .val (.long x2), .second, .val (.int ((0 : Int32) + (f2 x2 (0 : Int32))))] [(.int (1 : Int32)), (.long x2), (.int ((0 : Int32) + (f2 x2 (0 : Int32))))]))
    refine g_callS X3 hx hZ hown (hw _ (List.mem_of_getElem? (i := 6) rfl)) (hw _ (List.mem_of_getElem? (i := 7) rfl)) (hw _ (List.mem_of_getElem? (i := 4) rfl)) (hw _ (List.mem_of_getElem? (i := 8) rfl)) (by decide) e3 (rm2 l Z a0 hw [] x2 (1 : Int32) h0) [(.long x2), (.int (1 : Int32))] [(.int ((0 : Int32) + (f2 x2 (0 : Int32))))] 1 rfl (lenOf pd__28JI_29I rfl) rfl (Nat.le_of_eq rfl) (by decide) (by decide) (by decide) (by decide) (by rw [hml]; rfl) (hb hby d9_44) ?_
    intro T7 L7 v7 X7 q7
    obtain ⟨rfl, rfl, e7⟩ := q7
    show Go p e below s _ _ _ (T7.setTop (mkF m 47 #[.val (.ref x0), .val (.int x1), .val (.long x2), .second, .val (.int ((0 : Int32) + (f2 x2 (0 : Int32))))] [(.int (f2 x2 (1 : Int32))), (.int ((0 : Int32) + (f2 x2 (0 : Int32))))]))
    refine g_iadd X7 hx 48 (hb hby d9_47) rfl ?_
    show Go p e below s _ _ _ (T7.setTop (mkF m 48 #[.val (.ref x0), .val (.int x1), .val (.long x2), .second, .val (.int ((0 : Int32) + (f2 x2 (0 : Int32))))] [(.int (((0 : Int32) + (f2 x2 (0 : Int32))) + (f2 x2 (1 : Int32))))]))
    refine g_istore X7 hx #[.val (.ref x0), .val (.int x1), .val (.long x2), .second, .val (.int (((0 : Int32) + (f2 x2 (0 : Int32))) + (f2 x2 (1 : Int32))))] 50 (hb hby d9_48) rfl rfl ?_
    show Go p e below s _ _ _ (T7.setTop (mkF m 50 #[.val (.ref x0), .val (.int x1), .val (.long x2), .second, .val (.int (((0 : Int32) + (f2 x2 (0 : Int32))) + (f2 x2 (1 : Int32))))] []))
    refine g_iconst X7 hx (1 : Int32) 51 (hb hby d9_50) rfl rfl ?_
    show Go p e below s _ _ _ (T7.setTop (mkF m 51 #[.val (.ref x0), .val (.int x1), .val (.long x2), .second, .val (.int (((0 : Int32) + (f2 x2 (0 : Int32))) + (f2 x2 (1 : Int32))))] [(.int (1 : Int32))]))
    refine g_iloadN X7 hx 52 (hb hby d9_51) rfl rfl ?_
    show Go p e below s _ _ _ (T7.setTop (mkF m 52 #[.val (.ref x0), .val (.int x1), .val (.long x2), .second, .val (.int (((0 : Int32) + (f2 x2 (0 : Int32))) + (f2 x2 (1 : Int32))))] [(.int x1), (.int (1 : Int32))]))
    refine g_icmp_ge X7 hx 65 55 (hb hby d9_52) (by decide) rfl rfl (fun h8 => ?_) (fun h8 => ?_)
    · show Go p e below s _ _ _ (T7.setTop (mkF m 55 #[.val (.ref x0), .val (.int x1), .val (.long x2), .second, .val (.int (((0 : Int32) + (f2 x2 (0 : Int32))) + (f2 x2 (1 : Int32))))] []))
      refine g_aloadN X7 hx 56 (hb hby d9_55) rfl rfl rfl ?_
      show Go p e below s _ _ _ (T7.setTop (mkF m 56 #[.val (.ref x0), .val (.int x1), .val (.long x2), .second, .val (.int (((0 : Int32) + (f2 x2 (0 : Int32))) + (f2 x2 (1 : Int32))))] [(.ref x0)]))
      refine g_iconst X7 hx (1 : Int32) 57 (hb hby d9_56) rfl rfl ?_
      show Go p e below s _ _ _ (T7.setTop (mkF m 57 #[.val (.ref x0), .val (.int x1), .val (.long x2), .second, .val (.int (((0 : Int32) + (f2 x2 (0 : Int32))) + (f2 x2 (1 : Int32))))] [(.int (1 : Int32)), (.ref x0)]))
      refine g_iaload X7 hx hZ e7 P0 1 rfl (own_lt hf (k := 1) rfl h8) 58 (hb hby d9_57) rfl ?_
      show Go p e below s _ _ _ (T7.setTop (mkF m 58 #[.val (.ref x0), .val (.int x1), .val (.long x2), .second, .val (.int (((0 : Int32) + (f2 x2 (0 : Int32))) + (f2 x2 (1 : Int32))))] [(.int (g 1))]))
      refine g_iload X7 hx 60 (hb hby d9_58) rfl rfl ?_
      show Go p e below s _ _ _ (T7.setTop (mkF m 60 #[.val (.ref x0), .val (.int x1), .val (.long x2), .second, .val (.int (((0 : Int32) + (f2 x2 (0 : Int32))) + (f2 x2 (1 : Int32))))] [(.int (((0 : Int32) + (f2 x2 (0 : Int32))) + (f2 x2 (1 : Int32)))), (.int (g 1))]))
      have h10 : (g 1) = (((0 : Int32) + (f2 x2 (0 : Int32))) + (f2 x2 (1 : Int32))) := hs 1 (own_lt hf (k := 1) rfl h8)
      refine g_icmp_eq X7 hx 65 63 (hb hby d9_60) (by decide) rfl rfl (fun _ => ?_) (fun q => absurd h10 q)
      show Go p e below s _ _ _ (T7.setTop (mkF m 65 #[.val (.ref x0), .val (.int x1), .val (.long x2), .second, .val (.int (((0 : Int32) + (f2 x2 (0 : Int32))) + (f2 x2 (1 : Int32))))] []))
      refine g_iload X7 hx 67 (hb hby d9_65) rfl rfl ?_
      show Go p e below s _ _ _ (T7.setTop (mkF m 67 #[.val (.ref x0), .val (.int x1), .val (.long x2), .second, .val (.int (((0 : Int32) + (f2 x2 (0 : Int32))) + (f2 x2 (1 : Int32))))] [(.int (((0 : Int32) + (f2 x2 (0 : Int32))) + (f2 x2 (1 : Int32))))]))
      refine g_lloadN X7 hx 68 (hb hby d9_67) rfl rfl ?_
      show Go p e below s _ _ _ (T7.setTop (mkF m 68 #[.val (.ref x0), .val (.int x1), .val (.long x2), .second, .val (.int (((0 : Int32) + (f2 x2 (0 : Int32))) + (f2 x2 (1 : Int32))))] [(.long x2), (.int (((0 : Int32) + (f2 x2 (0 : Int32))) + (f2 x2 (1 : Int32))))]))
      refine g_iconst X7 hx (2 : Int32) 69 (hb hby d9_68) rfl rfl ?_
      show Go p e below s _ _ _ (T7.setTop (mkF m 69 #[.val (.ref x0), .val (.int x1), .val (.long x2), .second, .val (.int (((0 : Int32) + (f2 x2 (0 : Int32))) + (f2 x2 (1 : Int32))))] [(.int (2 : Int32)), (.long x2), (.int (((0 : Int32) + (f2 x2 (0 : Int32))) + (f2 x2 (1 : Int32))))]))
      refine g_callS X7 hx hZ hown (hw _ (List.mem_of_getElem? (i := 6) rfl)) (hw _ (List.mem_of_getElem? (i := 7) rfl)) (hw _ (List.mem_of_getElem? (i := 4) rfl)) (hw _ (List.mem_of_getElem? (i := 8) rfl)) (by decide) e7 (rm2 l Z a0 hw [] x2 (2 : Int32) h0) [(.long x2), (.int (2 : Int32))] [(.int (((0 : Int32) + (f2 x2 (0 : Int32))) + (f2 x2 (1 : Int32))))] 1 rfl (lenOf pd__28JI_29I rfl) rfl (Nat.le_of_eq rfl) (by decide) (by decide) (by decide) (by decide) (by rw [hml]; rfl) (hb hby d9_69) ?_
      intro T11 L11 v11 X11 q11
      obtain ⟨rfl, rfl, e11⟩ := q11
      show Go p e below s _ _ _ (T11.setTop (mkF m 72 #[.val (.ref x0), .val (.int x1), .val (.long x2), .second, .val (.int (((0 : Int32) + (f2 x2 (0 : Int32))) + (f2 x2 (1 : Int32))))] [(.int (f2 x2 (2 : Int32))), (.int (((0 : Int32) + (f2 x2 (0 : Int32))) + (f2 x2 (1 : Int32))))]))
      refine g_iadd X11 hx 73 (hb hby d9_72) rfl ?_
      show Go p e below s _ _ _ (T11.setTop (mkF m 73 #[.val (.ref x0), .val (.int x1), .val (.long x2), .second, .val (.int (((0 : Int32) + (f2 x2 (0 : Int32))) + (f2 x2 (1 : Int32))))] [(.int ((((0 : Int32) + (f2 x2 (0 : Int32))) + (f2 x2 (1 : Int32))) + (f2 x2 (2 : Int32))))]))
      refine g_istore X11 hx #[.val (.ref x0), .val (.int x1), .val (.long x2), .second, .val (.int ((((0 : Int32) + (f2 x2 (0 : Int32))) + (f2 x2 (1 : Int32))) + (f2 x2 (2 : Int32))))] 75 (hb hby d9_73) rfl rfl ?_
      show Go p e below s _ _ _ (T11.setTop (mkF m 75 #[.val (.ref x0), .val (.int x1), .val (.long x2), .second, .val (.int ((((0 : Int32) + (f2 x2 (0 : Int32))) + (f2 x2 (1 : Int32))) + (f2 x2 (2 : Int32))))] []))
      refine g_iconst X11 hx (2 : Int32) 76 (hb hby d9_75) rfl rfl ?_
      show Go p e below s _ _ _ (T11.setTop (mkF m 76 #[.val (.ref x0), .val (.int x1), .val (.long x2), .second, .val (.int ((((0 : Int32) + (f2 x2 (0 : Int32))) + (f2 x2 (1 : Int32))) + (f2 x2 (2 : Int32))))] [(.int (2 : Int32))]))
      refine g_iloadN X11 hx 77 (hb hby d9_76) rfl rfl ?_
      show Go p e below s _ _ _ (T11.setTop (mkF m 77 #[.val (.ref x0), .val (.int x1), .val (.long x2), .second, .val (.int ((((0 : Int32) + (f2 x2 (0 : Int32))) + (f2 x2 (1 : Int32))) + (f2 x2 (2 : Int32))))] [(.int x1), (.int (2 : Int32))]))
      refine g_icmp_ge X11 hx 90 80 (hb hby d9_77) (by decide) rfl rfl (fun h12 => ?_) (fun h12 => ?_)
      · show Go p e below s _ _ _ (T11.setTop (mkF m 80 #[.val (.ref x0), .val (.int x1), .val (.long x2), .second, .val (.int ((((0 : Int32) + (f2 x2 (0 : Int32))) + (f2 x2 (1 : Int32))) + (f2 x2 (2 : Int32))))] []))
        refine g_aloadN X11 hx 81 (hb hby d9_80) rfl rfl rfl ?_
        show Go p e below s _ _ _ (T11.setTop (mkF m 81 #[.val (.ref x0), .val (.int x1), .val (.long x2), .second, .val (.int ((((0 : Int32) + (f2 x2 (0 : Int32))) + (f2 x2 (1 : Int32))) + (f2 x2 (2 : Int32))))] [(.ref x0)]))
        refine g_iconst X11 hx (2 : Int32) 82 (hb hby d9_81) rfl rfl ?_
        show Go p e below s _ _ _ (T11.setTop (mkF m 82 #[.val (.ref x0), .val (.int x1), .val (.long x2), .second, .val (.int ((((0 : Int32) + (f2 x2 (0 : Int32))) + (f2 x2 (1 : Int32))) + (f2 x2 (2 : Int32))))] [(.int (2 : Int32)), (.ref x0)]))
        refine g_iaload X11 hx hZ e11 P0 2 rfl (own_lt hf (k := 2) rfl h12) 83 (hb hby d9_82) rfl ?_
        show Go p e below s _ _ _ (T11.setTop (mkF m 83 #[.val (.ref x0), .val (.int x1), .val (.long x2), .second, .val (.int ((((0 : Int32) + (f2 x2 (0 : Int32))) + (f2 x2 (1 : Int32))) + (f2 x2 (2 : Int32))))] [(.int (g 2))]))
        refine g_iload X11 hx 85 (hb hby d9_83) rfl rfl ?_
        show Go p e below s _ _ _ (T11.setTop (mkF m 85 #[.val (.ref x0), .val (.int x1), .val (.long x2), .second, .val (.int ((((0 : Int32) + (f2 x2 (0 : Int32))) + (f2 x2 (1 : Int32))) + (f2 x2 (2 : Int32))))] [(.int ((((0 : Int32) + (f2 x2 (0 : Int32))) + (f2 x2 (1 : Int32))) + (f2 x2 (2 : Int32)))), (.int (g 2))]))
        have h14 : (g 2) = ((((0 : Int32) + (f2 x2 (0 : Int32))) + (f2 x2 (1 : Int32))) + (f2 x2 (2 : Int32))) := hs 2 (own_lt hf (k := 2) rfl h12)
        refine g_icmp_eq X11 hx 90 88 (hb hby d9_85) (by decide) rfl rfl (fun _ => ?_) (fun q => absurd h14 q)
        show Go p e below s _ _ _ (T11.setTop (mkF m 90 #[.val (.ref x0), .val (.int x1), .val (.long x2), .second, .val (.int ((((0 : Int32) + (f2 x2 (0 : Int32))) + (f2 x2 (1 : Int32))) + (f2 x2 (2 : Int32))))] []))
        refine g_iload X11 hx 92 (hb hby d9_90) rfl rfl ?_
        show Go p e below s _ _ _ (T11.setTop (mkF m 92 #[.val (.ref x0), .val (.int x1), .val (.long x2), .second, .val (.int ((((0 : Int32) + (f2 x2 (0 : Int32))) + (f2 x2 (1 : Int32))) + (f2 x2 (2 : Int32))))] [(.int ((((0 : Int32) + (f2 x2 (0 : Int32))) + (f2 x2 (1 : Int32))) + (f2 x2 (2 : Int32))))]))
        refine g_lloadN X11 hx 93 (hb hby d9_92) rfl rfl ?_
        show Go p e below s _ _ _ (T11.setTop (mkF m 93 #[.val (.ref x0), .val (.int x1), .val (.long x2), .second, .val (.int ((((0 : Int32) + (f2 x2 (0 : Int32))) + (f2 x2 (1 : Int32))) + (f2 x2 (2 : Int32))))] [(.long x2), (.int ((((0 : Int32) + (f2 x2 (0 : Int32))) + (f2 x2 (1 : Int32))) + (f2 x2 (2 : Int32))))]))
        refine g_iconst X11 hx (3 : Int32) 94 (hb hby d9_93) rfl rfl ?_
        show Go p e below s _ _ _ (T11.setTop (mkF m 94 #[.val (.ref x0), .val (.int x1), .val (.long x2), .second, .val (.int ((((0 : Int32) + (f2 x2 (0 : Int32))) + (f2 x2 (1 : Int32))) + (f2 x2 (2 : Int32))))] [(.int (3 : Int32)), (.long x2), (.int ((((0 : Int32) + (f2 x2 (0 : Int32))) + (f2 x2 (1 : Int32))) + (f2 x2 (2 : Int32))))]))
        refine g_callS X11 hx hZ hown (hw _ (List.mem_of_getElem? (i := 6) rfl)) (hw _ (List.mem_of_getElem? (i := 7) rfl)) (hw _ (List.mem_of_getElem? (i := 4) rfl)) (hw _ (List.mem_of_getElem? (i := 8) rfl)) (by decide) e11 (rm2 l Z a0 hw [] x2 (3 : Int32) h0) [(.long x2), (.int (3 : Int32))] [(.int ((((0 : Int32) + (f2 x2 (0 : Int32))) + (f2 x2 (1 : Int32))) + (f2 x2 (2 : Int32))))] 1 rfl (lenOf pd__28JI_29I rfl) rfl (Nat.le_of_eq rfl) (by decide) (by decide) (by decide) (by decide) (by rw [hml]; rfl) (hb hby d9_94) ?_
        intro T15 L15 v15 X15 q15
        obtain ⟨rfl, rfl, e15⟩ := q15
        show Go p e below s _ _ _ (T15.setTop (mkF m 97 #[.val (.ref x0), .val (.int x1), .val (.long x2), .second, .val (.int ((((0 : Int32) + (f2 x2 (0 : Int32))) + (f2 x2 (1 : Int32))) + (f2 x2 (2 : Int32))))] [(.int (f2 x2 (3 : Int32))), (.int ((((0 : Int32) + (f2 x2 (0 : Int32))) + (f2 x2 (1 : Int32))) + (f2 x2 (2 : Int32))))]))
        refine g_iadd X15 hx 98 (hb hby d9_97) rfl ?_
        show Go p e below s _ _ _ (T15.setTop (mkF m 98 #[.val (.ref x0), .val (.int x1), .val (.long x2), .second, .val (.int ((((0 : Int32) + (f2 x2 (0 : Int32))) + (f2 x2 (1 : Int32))) + (f2 x2 (2 : Int32))))] [(.int (((((0 : Int32) + (f2 x2 (0 : Int32))) + (f2 x2 (1 : Int32))) + (f2 x2 (2 : Int32))) + (f2 x2 (3 : Int32))))]))
        refine g_istore X15 hx #[.val (.ref x0), .val (.int x1), .val (.long x2), .second, .val (.int (((((0 : Int32) + (f2 x2 (0 : Int32))) + (f2 x2 (1 : Int32))) + (f2 x2 (2 : Int32))) + (f2 x2 (3 : Int32))))] 100 (hb hby d9_98) rfl rfl ?_
        show Go p e below s _ _ _ (T15.setTop (mkF m 100 #[.val (.ref x0), .val (.int x1), .val (.long x2), .second, .val (.int (((((0 : Int32) + (f2 x2 (0 : Int32))) + (f2 x2 (1 : Int32))) + (f2 x2 (2 : Int32))) + (f2 x2 (3 : Int32))))] []))
        refine g_iconst X15 hx (3 : Int32) 101 (hb hby d9_100) rfl rfl ?_
        show Go p e below s _ _ _ (T15.setTop (mkF m 101 #[.val (.ref x0), .val (.int x1), .val (.long x2), .second, .val (.int (((((0 : Int32) + (f2 x2 (0 : Int32))) + (f2 x2 (1 : Int32))) + (f2 x2 (2 : Int32))) + (f2 x2 (3 : Int32))))] [(.int (3 : Int32))]))
        refine g_iloadN X15 hx 102 (hb hby d9_101) rfl rfl ?_
        show Go p e below s _ _ _ (T15.setTop (mkF m 102 #[.val (.ref x0), .val (.int x1), .val (.long x2), .second, .val (.int (((((0 : Int32) + (f2 x2 (0 : Int32))) + (f2 x2 (1 : Int32))) + (f2 x2 (2 : Int32))) + (f2 x2 (3 : Int32))))] [(.int x1), (.int (3 : Int32))]))
        refine g_icmp_ge X15 hx 115 105 (hb hby d9_102) (by decide) rfl rfl (fun h16 => ?_) (fun h16 => ?_)
        · show Go p e below s _ _ _ (T15.setTop (mkF m 105 #[.val (.ref x0), .val (.int x1), .val (.long x2), .second, .val (.int (((((0 : Int32) + (f2 x2 (0 : Int32))) + (f2 x2 (1 : Int32))) + (f2 x2 (2 : Int32))) + (f2 x2 (3 : Int32))))] []))
          refine g_aloadN X15 hx 106 (hb hby d9_105) rfl rfl rfl ?_
          show Go p e below s _ _ _ (T15.setTop (mkF m 106 #[.val (.ref x0), .val (.int x1), .val (.long x2), .second, .val (.int (((((0 : Int32) + (f2 x2 (0 : Int32))) + (f2 x2 (1 : Int32))) + (f2 x2 (2 : Int32))) + (f2 x2 (3 : Int32))))] [(.ref x0)]))
          refine g_iconst X15 hx (3 : Int32) 107 (hb hby d9_106) rfl rfl ?_
          show Go p e below s _ _ _ (T15.setTop (mkF m 107 #[.val (.ref x0), .val (.int x1), .val (.long x2), .second, .val (.int (((((0 : Int32) + (f2 x2 (0 : Int32))) + (f2 x2 (1 : Int32))) + (f2 x2 (2 : Int32))) + (f2 x2 (3 : Int32))))] [(.int (3 : Int32)), (.ref x0)]))
          refine g_iaload X15 hx hZ e15 P0 3 rfl (own_lt hf (k := 3) rfl h16) 108 (hb hby d9_107) rfl ?_
          show Go p e below s _ _ _ (T15.setTop (mkF m 108 #[.val (.ref x0), .val (.int x1), .val (.long x2), .second, .val (.int (((((0 : Int32) + (f2 x2 (0 : Int32))) + (f2 x2 (1 : Int32))) + (f2 x2 (2 : Int32))) + (f2 x2 (3 : Int32))))] [(.int (g 3))]))
          refine g_iload X15 hx 110 (hb hby d9_108) rfl rfl ?_
          show Go p e below s _ _ _ (T15.setTop (mkF m 110 #[.val (.ref x0), .val (.int x1), .val (.long x2), .second, .val (.int (((((0 : Int32) + (f2 x2 (0 : Int32))) + (f2 x2 (1 : Int32))) + (f2 x2 (2 : Int32))) + (f2 x2 (3 : Int32))))] [(.int (((((0 : Int32) + (f2 x2 (0 : Int32))) + (f2 x2 (1 : Int32))) + (f2 x2 (2 : Int32))) + (f2 x2 (3 : Int32)))), (.int (g 3))]))
          have h18 : (g 3) = (((((0 : Int32) + (f2 x2 (0 : Int32))) + (f2 x2 (1 : Int32))) + (f2 x2 (2 : Int32))) + (f2 x2 (3 : Int32))) := hs 3 (own_lt hf (k := 3) rfl h16)
          refine g_icmp_eq X15 hx 115 113 (hb hby d9_110) (by decide) rfl rfl (fun _ => ?_) (fun q => absurd h18 q)
          show Go p e below s _ _ _ (T15.setTop (mkF m 115 #[.val (.ref x0), .val (.int x1), .val (.long x2), .second, .val (.int (((((0 : Int32) + (f2 x2 (0 : Int32))) + (f2 x2 (1 : Int32))) + (f2 x2 (2 : Int32))) + (f2 x2 (3 : Int32))))] []))
          refine g_iload X15 hx 117 (hb hby d9_115) rfl rfl ?_
          show Go p e below s _ _ _ (T15.setTop (mkF m 117 #[.val (.ref x0), .val (.int x1), .val (.long x2), .second, .val (.int (((((0 : Int32) + (f2 x2 (0 : Int32))) + (f2 x2 (1 : Int32))) + (f2 x2 (2 : Int32))) + (f2 x2 (3 : Int32))))] [(.int (((((0 : Int32) + (f2 x2 (0 : Int32))) + (f2 x2 (1 : Int32))) + (f2 x2 (2 : Int32))) + (f2 x2 (3 : Int32))))]))
          refine g_lloadN X15 hx 118 (hb hby d9_117) rfl rfl ?_
          show Go p e below s _ _ _ (T15.setTop (mkF m 118 #[.val (.ref x0), .val (.int x1), .val (.long x2), .second, .val (.int (((((0 : Int32) + (f2 x2 (0 : Int32))) + (f2 x2 (1 : Int32))) + (f2 x2 (2 : Int32))) + (f2 x2 (3 : Int32))))] [(.long x2), (.int (((((0 : Int32) + (f2 x2 (0 : Int32))) + (f2 x2 (1 : Int32))) + (f2 x2 (2 : Int32))) + (f2 x2 (3 : Int32))))]))
          refine g_iconst X15 hx (4 : Int32) 119 (hb hby d9_118) rfl rfl ?_
          show Go p e below s _ _ _ (T15.setTop (mkF m 119 #[.val (.ref x0), .val (.int x1), .val (.long x2), .second, .val (.int (((((0 : Int32) + (f2 x2 (0 : Int32))) + (f2 x2 (1 : Int32))) + (f2 x2 (2 : Int32))) + (f2 x2 (3 : Int32))))] [(.int (4 : Int32)), (.long x2), (.int (((((0 : Int32) + (f2 x2 (0 : Int32))) + (f2 x2 (1 : Int32))) + (f2 x2 (2 : Int32))) + (f2 x2 (3 : Int32))))]))
          refine g_callS X15 hx hZ hown (hw _ (List.mem_of_getElem? (i := 6) rfl)) (hw _ (List.mem_of_getElem? (i := 7) rfl)) (hw _ (List.mem_of_getElem? (i := 4) rfl)) (hw _ (List.mem_of_getElem? (i := 8) rfl)) (by decide) e15 (rm2 l Z a0 hw [] x2 (4 : Int32) h0) [(.long x2), (.int (4 : Int32))] [(.int (((((0 : Int32) + (f2 x2 (0 : Int32))) + (f2 x2 (1 : Int32))) + (f2 x2 (2 : Int32))) + (f2 x2 (3 : Int32))))] 1 rfl (lenOf pd__28JI_29I rfl) rfl (Nat.le_of_eq rfl) (by decide) (by decide) (by decide) (by decide) (by rw [hml]; rfl) (hb hby d9_119) ?_
          intro T19 L19 v19 X19 q19
          obtain ⟨rfl, rfl, e19⟩ := q19
          show Go p e below s _ _ _ (T19.setTop (mkF m 122 #[.val (.ref x0), .val (.int x1), .val (.long x2), .second, .val (.int (((((0 : Int32) + (f2 x2 (0 : Int32))) + (f2 x2 (1 : Int32))) + (f2 x2 (2 : Int32))) + (f2 x2 (3 : Int32))))] [(.int (f2 x2 (4 : Int32))), (.int (((((0 : Int32) + (f2 x2 (0 : Int32))) + (f2 x2 (1 : Int32))) + (f2 x2 (2 : Int32))) + (f2 x2 (3 : Int32))))]))
          refine g_iadd X19 hx 123 (hb hby d9_122) rfl ?_
          show Go p e below s _ _ _ (T19.setTop (mkF m 123 #[.val (.ref x0), .val (.int x1), .val (.long x2), .second, .val (.int (((((0 : Int32) + (f2 x2 (0 : Int32))) + (f2 x2 (1 : Int32))) + (f2 x2 (2 : Int32))) + (f2 x2 (3 : Int32))))] [(.int ((((((0 : Int32) + (f2 x2 (0 : Int32))) + (f2 x2 (1 : Int32))) + (f2 x2 (2 : Int32))) + (f2 x2 (3 : Int32))) + (f2 x2 (4 : Int32))))]))
          refine g_istore X19 hx #[.val (.ref x0), .val (.int x1), .val (.long x2), .second, .val (.int ((((((0 : Int32) + (f2 x2 (0 : Int32))) + (f2 x2 (1 : Int32))) + (f2 x2 (2 : Int32))) + (f2 x2 (3 : Int32))) + (f2 x2 (4 : Int32))))] 125 (hb hby d9_123) rfl rfl ?_
          show Go p e below s _ _ _ (T19.setTop (mkF m 125 #[.val (.ref x0), .val (.int x1), .val (.long x2), .second, .val (.int ((((((0 : Int32) + (f2 x2 (0 : Int32))) + (f2 x2 (1 : Int32))) + (f2 x2 (2 : Int32))) + (f2 x2 (3 : Int32))) + (f2 x2 (4 : Int32))))] []))
          refine g_iconst X19 hx (4 : Int32) 126 (hb hby d9_125) rfl rfl ?_
          show Go p e below s _ _ _ (T19.setTop (mkF m 126 #[.val (.ref x0), .val (.int x1), .val (.long x2), .second, .val (.int ((((((0 : Int32) + (f2 x2 (0 : Int32))) + (f2 x2 (1 : Int32))) + (f2 x2 (2 : Int32))) + (f2 x2 (3 : Int32))) + (f2 x2 (4 : Int32))))] [(.int (4 : Int32))]))
          refine g_iloadN X19 hx 127 (hb hby d9_126) rfl rfl ?_
          show Go p e below s _ _ _ (T19.setTop (mkF m 127 #[.val (.ref x0), .val (.int x1), .val (.long x2), .second, .val (.int ((((((0 : Int32) + (f2 x2 (0 : Int32))) + (f2 x2 (1 : Int32))) + (f2 x2 (2 : Int32))) + (f2 x2 (3 : Int32))) + (f2 x2 (4 : Int32))))] [(.int x1), (.int (4 : Int32))]))
          refine g_icmp_ge X19 hx 140 130 (hb hby d9_127) (by decide) rfl rfl (fun h20 => ?_) (fun h20 => ?_)
          · show Go p e below s _ _ _ (T19.setTop (mkF m 130 #[.val (.ref x0), .val (.int x1), .val (.long x2), .second, .val (.int ((((((0 : Int32) + (f2 x2 (0 : Int32))) + (f2 x2 (1 : Int32))) + (f2 x2 (2 : Int32))) + (f2 x2 (3 : Int32))) + (f2 x2 (4 : Int32))))] []))
            refine g_aloadN X19 hx 131 (hb hby d9_130) rfl rfl rfl ?_
            show Go p e below s _ _ _ (T19.setTop (mkF m 131 #[.val (.ref x0), .val (.int x1), .val (.long x2), .second, .val (.int ((((((0 : Int32) + (f2 x2 (0 : Int32))) + (f2 x2 (1 : Int32))) + (f2 x2 (2 : Int32))) + (f2 x2 (3 : Int32))) + (f2 x2 (4 : Int32))))] [(.ref x0)]))
            refine g_iconst X19 hx (4 : Int32) 132 (hb hby d9_131) rfl rfl ?_
            show Go p e below s _ _ _ (T19.setTop (mkF m 132 #[.val (.ref x0), .val (.int x1), .val (.long x2), .second, .val (.int ((((((0 : Int32) + (f2 x2 (0 : Int32))) + (f2 x2 (1 : Int32))) + (f2 x2 (2 : Int32))) + (f2 x2 (3 : Int32))) + (f2 x2 (4 : Int32))))] [(.int (4 : Int32)), (.ref x0)]))
            refine g_iaload X19 hx hZ e19 P0 4 rfl (own_lt hf (k := 4) rfl h20) 133 (hb hby d9_132) rfl ?_
            show Go p e below s _ _ _ (T19.setTop (mkF m 133 #[.val (.ref x0), .val (.int x1), .val (.long x2), .second, .val (.int ((((((0 : Int32) + (f2 x2 (0 : Int32))) + (f2 x2 (1 : Int32))) + (f2 x2 (2 : Int32))) + (f2 x2 (3 : Int32))) + (f2 x2 (4 : Int32))))] [(.int (g 4))]))
            refine g_iload X19 hx 135 (hb hby d9_133) rfl rfl ?_
            show Go p e below s _ _ _ (T19.setTop (mkF m 135 #[.val (.ref x0), .val (.int x1), .val (.long x2), .second, .val (.int ((((((0 : Int32) + (f2 x2 (0 : Int32))) + (f2 x2 (1 : Int32))) + (f2 x2 (2 : Int32))) + (f2 x2 (3 : Int32))) + (f2 x2 (4 : Int32))))] [(.int ((((((0 : Int32) + (f2 x2 (0 : Int32))) + (f2 x2 (1 : Int32))) + (f2 x2 (2 : Int32))) + (f2 x2 (3 : Int32))) + (f2 x2 (4 : Int32)))), (.int (g 4))]))
            have h22 : (g 4) = ((((((0 : Int32) + (f2 x2 (0 : Int32))) + (f2 x2 (1 : Int32))) + (f2 x2 (2 : Int32))) + (f2 x2 (3 : Int32))) + (f2 x2 (4 : Int32))) := hs 4 (own_lt hf (k := 4) rfl h20)
            refine g_icmp_eq X19 hx 140 138 (hb hby d9_135) (by decide) rfl rfl (fun _ => ?_) (fun q => absurd h22 q)
            show Go p e below s _ _ _ (T19.setTop (mkF m 140 #[.val (.ref x0), .val (.int x1), .val (.long x2), .second, .val (.int ((((((0 : Int32) + (f2 x2 (0 : Int32))) + (f2 x2 (1 : Int32))) + (f2 x2 (2 : Int32))) + (f2 x2 (3 : Int32))) + (f2 x2 (4 : Int32))))] []))
            refine g_iload X19 hx 142 (hb hby d9_140) rfl rfl ?_
            show Go p e below s _ _ _ (T19.setTop (mkF m 142 #[.val (.ref x0), .val (.int x1), .val (.long x2), .second, .val (.int ((((((0 : Int32) + (f2 x2 (0 : Int32))) + (f2 x2 (1 : Int32))) + (f2 x2 (2 : Int32))) + (f2 x2 (3 : Int32))) + (f2 x2 (4 : Int32))))] [(.int ((((((0 : Int32) + (f2 x2 (0 : Int32))) + (f2 x2 (1 : Int32))) + (f2 x2 (2 : Int32))) + (f2 x2 (3 : Int32))) + (f2 x2 (4 : Int32))))]))
            refine g_lloadN X19 hx 143 (hb hby d9_142) rfl rfl ?_
            show Go p e below s _ _ _ (T19.setTop (mkF m 143 #[.val (.ref x0), .val (.int x1), .val (.long x2), .second, .val (.int ((((((0 : Int32) + (f2 x2 (0 : Int32))) + (f2 x2 (1 : Int32))) + (f2 x2 (2 : Int32))) + (f2 x2 (3 : Int32))) + (f2 x2 (4 : Int32))))] [(.long x2), (.int ((((((0 : Int32) + (f2 x2 (0 : Int32))) + (f2 x2 (1 : Int32))) + (f2 x2 (2 : Int32))) + (f2 x2 (3 : Int32))) + (f2 x2 (4 : Int32))))]))
            refine g_iconst X19 hx (5 : Int32) 144 (hb hby d9_143) rfl rfl ?_
            show Go p e below s _ _ _ (T19.setTop (mkF m 144 #[.val (.ref x0), .val (.int x1), .val (.long x2), .second, .val (.int ((((((0 : Int32) + (f2 x2 (0 : Int32))) + (f2 x2 (1 : Int32))) + (f2 x2 (2 : Int32))) + (f2 x2 (3 : Int32))) + (f2 x2 (4 : Int32))))] [(.int (5 : Int32)), (.long x2), (.int ((((((0 : Int32) + (f2 x2 (0 : Int32))) + (f2 x2 (1 : Int32))) + (f2 x2 (2 : Int32))) + (f2 x2 (3 : Int32))) + (f2 x2 (4 : Int32))))]))
            refine g_callS X19 hx hZ hown (hw _ (List.mem_of_getElem? (i := 6) rfl)) (hw _ (List.mem_of_getElem? (i := 7) rfl)) (hw _ (List.mem_of_getElem? (i := 4) rfl)) (hw _ (List.mem_of_getElem? (i := 8) rfl)) (by decide) e19 (rm2 l Z a0 hw [] x2 (5 : Int32) h0) [(.long x2), (.int (5 : Int32))] [(.int ((((((0 : Int32) + (f2 x2 (0 : Int32))) + (f2 x2 (1 : Int32))) + (f2 x2 (2 : Int32))) + (f2 x2 (3 : Int32))) + (f2 x2 (4 : Int32))))] 1 rfl (lenOf pd__28JI_29I rfl) rfl (Nat.le_of_eq rfl) (by decide) (by decide) (by decide) (by decide) (by rw [hml]; rfl) (hb hby d9_144) ?_
            intro T23 L23 v23 X23 q23
            obtain ⟨rfl, rfl, e23⟩ := q23
            show Go p e below s _ _ _ (T23.setTop (mkF m 147 #[.val (.ref x0), .val (.int x1), .val (.long x2), .second, .val (.int ((((((0 : Int32) + (f2 x2 (0 : Int32))) + (f2 x2 (1 : Int32))) + (f2 x2 (2 : Int32))) + (f2 x2 (3 : Int32))) + (f2 x2 (4 : Int32))))] [(.int (f2 x2 (5 : Int32))), (.int ((((((0 : Int32) + (f2 x2 (0 : Int32))) + (f2 x2 (1 : Int32))) + (f2 x2 (2 : Int32))) + (f2 x2 (3 : Int32))) + (f2 x2 (4 : Int32))))]))
            refine g_iadd X23 hx 148 (hb hby d9_147) rfl ?_
            show Go p e below s _ _ _ (T23.setTop (mkF m 148 #[.val (.ref x0), .val (.int x1), .val (.long x2), .second, .val (.int ((((((0 : Int32) + (f2 x2 (0 : Int32))) + (f2 x2 (1 : Int32))) + (f2 x2 (2 : Int32))) + (f2 x2 (3 : Int32))) + (f2 x2 (4 : Int32))))] [(.int (((((((0 : Int32) + (f2 x2 (0 : Int32))) + (f2 x2 (1 : Int32))) + (f2 x2 (2 : Int32))) + (f2 x2 (3 : Int32))) + (f2 x2 (4 : Int32))) + (f2 x2 (5 : Int32))))]))
            refine g_istore X23 hx #[.val (.ref x0), .val (.int x1), .val (.long x2), .second, .val (.int (((((((0 : Int32) + (f2 x2 (0 : Int32))) + (f2 x2 (1 : Int32))) + (f2 x2 (2 : Int32))) + (f2 x2 (3 : Int32))) + (f2 x2 (4 : Int32))) + (f2 x2 (5 : Int32))))] 150 (hb hby d9_148) rfl rfl ?_
            show Go p e below s _ _ _ (T23.setTop (mkF m 150 #[.val (.ref x0), .val (.int x1), .val (.long x2), .second, .val (.int (((((((0 : Int32) + (f2 x2 (0 : Int32))) + (f2 x2 (1 : Int32))) + (f2 x2 (2 : Int32))) + (f2 x2 (3 : Int32))) + (f2 x2 (4 : Int32))) + (f2 x2 (5 : Int32))))] []))
            refine g_iconst X23 hx (5 : Int32) 151 (hb hby d9_150) rfl rfl ?_
            show Go p e below s _ _ _ (T23.setTop (mkF m 151 #[.val (.ref x0), .val (.int x1), .val (.long x2), .second, .val (.int (((((((0 : Int32) + (f2 x2 (0 : Int32))) + (f2 x2 (1 : Int32))) + (f2 x2 (2 : Int32))) + (f2 x2 (3 : Int32))) + (f2 x2 (4 : Int32))) + (f2 x2 (5 : Int32))))] [(.int (5 : Int32))]))
            refine g_iloadN X23 hx 152 (hb hby d9_151) rfl rfl ?_
            show Go p e below s _ _ _ (T23.setTop (mkF m 152 #[.val (.ref x0), .val (.int x1), .val (.long x2), .second, .val (.int (((((((0 : Int32) + (f2 x2 (0 : Int32))) + (f2 x2 (1 : Int32))) + (f2 x2 (2 : Int32))) + (f2 x2 (3 : Int32))) + (f2 x2 (4 : Int32))) + (f2 x2 (5 : Int32))))] [(.int x1), (.int (5 : Int32))]))
            refine g_icmp_ge X23 hx 165 155 (hb hby d9_152) (by decide) rfl rfl (fun h24 => ?_) (fun h24 => ?_)
            · show Go p e below s _ _ _ (T23.setTop (mkF m 155 #[.val (.ref x0), .val (.int x1), .val (.long x2), .second, .val (.int (((((((0 : Int32) + (f2 x2 (0 : Int32))) + (f2 x2 (1 : Int32))) + (f2 x2 (2 : Int32))) + (f2 x2 (3 : Int32))) + (f2 x2 (4 : Int32))) + (f2 x2 (5 : Int32))))] []))
              refine g_aloadN X23 hx 156 (hb hby d9_155) rfl rfl rfl ?_
              show Go p e below s _ _ _ (T23.setTop (mkF m 156 #[.val (.ref x0), .val (.int x1), .val (.long x2), .second, .val (.int (((((((0 : Int32) + (f2 x2 (0 : Int32))) + (f2 x2 (1 : Int32))) + (f2 x2 (2 : Int32))) + (f2 x2 (3 : Int32))) + (f2 x2 (4 : Int32))) + (f2 x2 (5 : Int32))))] [(.ref x0)]))
              refine g_iconst X23 hx (5 : Int32) 157 (hb hby d9_156) rfl rfl ?_
              show Go p e below s _ _ _ (T23.setTop (mkF m 157 #[.val (.ref x0), .val (.int x1), .val (.long x2), .second, .val (.int (((((((0 : Int32) + (f2 x2 (0 : Int32))) + (f2 x2 (1 : Int32))) + (f2 x2 (2 : Int32))) + (f2 x2 (3 : Int32))) + (f2 x2 (4 : Int32))) + (f2 x2 (5 : Int32))))] [(.int (5 : Int32)), (.ref x0)]))
              refine g_iaload X23 hx hZ e23 P0 5 rfl (own_lt hf (k := 5) rfl h24) 158 (hb hby d9_157) rfl ?_
              show Go p e below s _ _ _ (T23.setTop (mkF m 158 #[.val (.ref x0), .val (.int x1), .val (.long x2), .second, .val (.int (((((((0 : Int32) + (f2 x2 (0 : Int32))) + (f2 x2 (1 : Int32))) + (f2 x2 (2 : Int32))) + (f2 x2 (3 : Int32))) + (f2 x2 (4 : Int32))) + (f2 x2 (5 : Int32))))] [(.int (g 5))]))
              refine g_iload X23 hx 160 (hb hby d9_158) rfl rfl ?_
              show Go p e below s _ _ _ (T23.setTop (mkF m 160 #[.val (.ref x0), .val (.int x1), .val (.long x2), .second, .val (.int (((((((0 : Int32) + (f2 x2 (0 : Int32))) + (f2 x2 (1 : Int32))) + (f2 x2 (2 : Int32))) + (f2 x2 (3 : Int32))) + (f2 x2 (4 : Int32))) + (f2 x2 (5 : Int32))))] [(.int (((((((0 : Int32) + (f2 x2 (0 : Int32))) + (f2 x2 (1 : Int32))) + (f2 x2 (2 : Int32))) + (f2 x2 (3 : Int32))) + (f2 x2 (4 : Int32))) + (f2 x2 (5 : Int32)))), (.int (g 5))]))
              have h26 : (g 5) = (((((((0 : Int32) + (f2 x2 (0 : Int32))) + (f2 x2 (1 : Int32))) + (f2 x2 (2 : Int32))) + (f2 x2 (3 : Int32))) + (f2 x2 (4 : Int32))) + (f2 x2 (5 : Int32))) := hs 5 (own_lt hf (k := 5) rfl h24)
              refine g_icmp_eq X23 hx 165 163 (hb hby d9_160) (by decide) rfl rfl (fun _ => ?_) (fun q => absurd h26 q)
              show Go p e below s _ _ _ (T23.setTop (mkF m 165 #[.val (.ref x0), .val (.int x1), .val (.long x2), .second, .val (.int (((((((0 : Int32) + (f2 x2 (0 : Int32))) + (f2 x2 (1 : Int32))) + (f2 x2 (2 : Int32))) + (f2 x2 (3 : Int32))) + (f2 x2 (4 : Int32))) + (f2 x2 (5 : Int32))))] []))
              refine g_iload X23 hx 167 (hb hby d9_165) rfl rfl ?_
              show Go p e below s _ _ _ (T23.setTop (mkF m 167 #[.val (.ref x0), .val (.int x1), .val (.long x2), .second, .val (.int (((((((0 : Int32) + (f2 x2 (0 : Int32))) + (f2 x2 (1 : Int32))) + (f2 x2 (2 : Int32))) + (f2 x2 (3 : Int32))) + (f2 x2 (4 : Int32))) + (f2 x2 (5 : Int32))))] [(.int (((((((0 : Int32) + (f2 x2 (0 : Int32))) + (f2 x2 (1 : Int32))) + (f2 x2 (2 : Int32))) + (f2 x2 (3 : Int32))) + (f2 x2 (4 : Int32))) + (f2 x2 (5 : Int32))))]))
              refine g_lloadN X23 hx 168 (hb hby d9_167) rfl rfl ?_
              show Go p e below s _ _ _ (T23.setTop (mkF m 168 #[.val (.ref x0), .val (.int x1), .val (.long x2), .second, .val (.int (((((((0 : Int32) + (f2 x2 (0 : Int32))) + (f2 x2 (1 : Int32))) + (f2 x2 (2 : Int32))) + (f2 x2 (3 : Int32))) + (f2 x2 (4 : Int32))) + (f2 x2 (5 : Int32))))] [(.long x2), (.int (((((((0 : Int32) + (f2 x2 (0 : Int32))) + (f2 x2 (1 : Int32))) + (f2 x2 (2 : Int32))) + (f2 x2 (3 : Int32))) + (f2 x2 (4 : Int32))) + (f2 x2 (5 : Int32))))]))
              refine g_bipush X23 hx (6 : Int32) 170 (hb hby d9_168) rfl rfl ?_
              show Go p e below s _ _ _ (T23.setTop (mkF m 170 #[.val (.ref x0), .val (.int x1), .val (.long x2), .second, .val (.int (((((((0 : Int32) + (f2 x2 (0 : Int32))) + (f2 x2 (1 : Int32))) + (f2 x2 (2 : Int32))) + (f2 x2 (3 : Int32))) + (f2 x2 (4 : Int32))) + (f2 x2 (5 : Int32))))] [(.int (6 : Int32)), (.long x2), (.int (((((((0 : Int32) + (f2 x2 (0 : Int32))) + (f2 x2 (1 : Int32))) + (f2 x2 (2 : Int32))) + (f2 x2 (3 : Int32))) + (f2 x2 (4 : Int32))) + (f2 x2 (5 : Int32))))]))
              refine g_callS X23 hx hZ hown (hw _ (List.mem_of_getElem? (i := 6) rfl)) (hw _ (List.mem_of_getElem? (i := 7) rfl)) (hw _ (List.mem_of_getElem? (i := 4) rfl)) (hw _ (List.mem_of_getElem? (i := 8) rfl)) (by decide) e23 (rm2 l Z a0 hw [] x2 (6 : Int32) h0) [(.long x2), (.int (6 : Int32))] [(.int (((((((0 : Int32) + (f2 x2 (0 : Int32))) + (f2 x2 (1 : Int32))) + (f2 x2 (2 : Int32))) + (f2 x2 (3 : Int32))) + (f2 x2 (4 : Int32))) + (f2 x2 (5 : Int32))))] 1 rfl (lenOf pd__28JI_29I rfl) rfl (Nat.le_of_eq rfl) (by decide) (by decide) (by decide) (by decide) (by rw [hml]; rfl) (hb hby d9_170) ?_
              intro T27 L27 v27 X27 q27
              obtain ⟨rfl, rfl, e27⟩ := q27
              show Go p e below s _ _ _ (T27.setTop (mkF m 173 #[.val (.ref x0), .val (.int x1), .val (.long x2), .second, .val (.int (((((((0 : Int32) + (f2 x2 (0 : Int32))) + (f2 x2 (1 : Int32))) + (f2 x2 (2 : Int32))) + (f2 x2 (3 : Int32))) + (f2 x2 (4 : Int32))) + (f2 x2 (5 : Int32))))] [(.int (f2 x2 (6 : Int32))), (.int (((((((0 : Int32) + (f2 x2 (0 : Int32))) + (f2 x2 (1 : Int32))) + (f2 x2 (2 : Int32))) + (f2 x2 (3 : Int32))) + (f2 x2 (4 : Int32))) + (f2 x2 (5 : Int32))))]))
              refine g_iadd X27 hx 174 (hb hby d9_173) rfl ?_
              show Go p e below s _ _ _ (T27.setTop (mkF m 174 #[.val (.ref x0), .val (.int x1), .val (.long x2), .second, .val (.int (((((((0 : Int32) + (f2 x2 (0 : Int32))) + (f2 x2 (1 : Int32))) + (f2 x2 (2 : Int32))) + (f2 x2 (3 : Int32))) + (f2 x2 (4 : Int32))) + (f2 x2 (5 : Int32))))] [(.int ((((((((0 : Int32) + (f2 x2 (0 : Int32))) + (f2 x2 (1 : Int32))) + (f2 x2 (2 : Int32))) + (f2 x2 (3 : Int32))) + (f2 x2 (4 : Int32))) + (f2 x2 (5 : Int32))) + (f2 x2 (6 : Int32))))]))
              refine g_istore X27 hx #[.val (.ref x0), .val (.int x1), .val (.long x2), .second, .val (.int ((((((((0 : Int32) + (f2 x2 (0 : Int32))) + (f2 x2 (1 : Int32))) + (f2 x2 (2 : Int32))) + (f2 x2 (3 : Int32))) + (f2 x2 (4 : Int32))) + (f2 x2 (5 : Int32))) + (f2 x2 (6 : Int32))))] 176 (hb hby d9_174) rfl rfl ?_
              show Go p e below s _ _ _ (T27.setTop (mkF m 176 #[.val (.ref x0), .val (.int x1), .val (.long x2), .second, .val (.int ((((((((0 : Int32) + (f2 x2 (0 : Int32))) + (f2 x2 (1 : Int32))) + (f2 x2 (2 : Int32))) + (f2 x2 (3 : Int32))) + (f2 x2 (4 : Int32))) + (f2 x2 (5 : Int32))) + (f2 x2 (6 : Int32))))] []))
              refine g_bipush X27 hx (6 : Int32) 178 (hb hby d9_176) rfl rfl ?_
              show Go p e below s _ _ _ (T27.setTop (mkF m 178 #[.val (.ref x0), .val (.int x1), .val (.long x2), .second, .val (.int ((((((((0 : Int32) + (f2 x2 (0 : Int32))) + (f2 x2 (1 : Int32))) + (f2 x2 (2 : Int32))) + (f2 x2 (3 : Int32))) + (f2 x2 (4 : Int32))) + (f2 x2 (5 : Int32))) + (f2 x2 (6 : Int32))))] [(.int (6 : Int32))]))
              refine g_iloadN X27 hx 179 (hb hby d9_178) rfl rfl ?_
              show Go p e below s _ _ _ (T27.setTop (mkF m 179 #[.val (.ref x0), .val (.int x1), .val (.long x2), .second, .val (.int ((((((((0 : Int32) + (f2 x2 (0 : Int32))) + (f2 x2 (1 : Int32))) + (f2 x2 (2 : Int32))) + (f2 x2 (3 : Int32))) + (f2 x2 (4 : Int32))) + (f2 x2 (5 : Int32))) + (f2 x2 (6 : Int32))))] [(.int x1), (.int (6 : Int32))]))
              refine g_icmp_ge X27 hx 193 182 (hb hby d9_179) (by decide) rfl rfl (fun h28 => ?_) (fun h28 => ?_)
              · show Go p e below s _ _ _ (T27.setTop (mkF m 182 #[.val (.ref x0), .val (.int x1), .val (.long x2), .second, .val (.int ((((((((0 : Int32) + (f2 x2 (0 : Int32))) + (f2 x2 (1 : Int32))) + (f2 x2 (2 : Int32))) + (f2 x2 (3 : Int32))) + (f2 x2 (4 : Int32))) + (f2 x2 (5 : Int32))) + (f2 x2 (6 : Int32))))] []))
                refine g_aloadN X27 hx 183 (hb hby d9_182) rfl rfl rfl ?_
                show Go p e below s _ _ _ (T27.setTop (mkF m 183 #[.val (.ref x0), .val (.int x1), .val (.long x2), .second, .val (.int ((((((((0 : Int32) + (f2 x2 (0 : Int32))) + (f2 x2 (1 : Int32))) + (f2 x2 (2 : Int32))) + (f2 x2 (3 : Int32))) + (f2 x2 (4 : Int32))) + (f2 x2 (5 : Int32))) + (f2 x2 (6 : Int32))))] [(.ref x0)]))
                refine g_bipush X27 hx (6 : Int32) 185 (hb hby d9_183) rfl rfl ?_
                show Go p e below s _ _ _ (T27.setTop (mkF m 185 #[.val (.ref x0), .val (.int x1), .val (.long x2), .second, .val (.int ((((((((0 : Int32) + (f2 x2 (0 : Int32))) + (f2 x2 (1 : Int32))) + (f2 x2 (2 : Int32))) + (f2 x2 (3 : Int32))) + (f2 x2 (4 : Int32))) + (f2 x2 (5 : Int32))) + (f2 x2 (6 : Int32))))] [(.int (6 : Int32)), (.ref x0)]))
                refine g_iaload X27 hx hZ e27 P0 6 rfl (own_lt hf (k := 6) rfl h28) 186 (hb hby d9_185) rfl ?_
                show Go p e below s _ _ _ (T27.setTop (mkF m 186 #[.val (.ref x0), .val (.int x1), .val (.long x2), .second, .val (.int ((((((((0 : Int32) + (f2 x2 (0 : Int32))) + (f2 x2 (1 : Int32))) + (f2 x2 (2 : Int32))) + (f2 x2 (3 : Int32))) + (f2 x2 (4 : Int32))) + (f2 x2 (5 : Int32))) + (f2 x2 (6 : Int32))))] [(.int (g 6))]))
                refine g_iload X27 hx 188 (hb hby d9_186) rfl rfl ?_
                show Go p e below s _ _ _ (T27.setTop (mkF m 188 #[.val (.ref x0), .val (.int x1), .val (.long x2), .second, .val (.int ((((((((0 : Int32) + (f2 x2 (0 : Int32))) + (f2 x2 (1 : Int32))) + (f2 x2 (2 : Int32))) + (f2 x2 (3 : Int32))) + (f2 x2 (4 : Int32))) + (f2 x2 (5 : Int32))) + (f2 x2 (6 : Int32))))] [(.int ((((((((0 : Int32) + (f2 x2 (0 : Int32))) + (f2 x2 (1 : Int32))) + (f2 x2 (2 : Int32))) + (f2 x2 (3 : Int32))) + (f2 x2 (4 : Int32))) + (f2 x2 (5 : Int32))) + (f2 x2 (6 : Int32)))), (.int (g 6))]))
                have h30 : (g 6) = ((((((((0 : Int32) + (f2 x2 (0 : Int32))) + (f2 x2 (1 : Int32))) + (f2 x2 (2 : Int32))) + (f2 x2 (3 : Int32))) + (f2 x2 (4 : Int32))) + (f2 x2 (5 : Int32))) + (f2 x2 (6 : Int32))) := hs 6 (own_lt hf (k := 6) rfl h28)
                refine g_icmp_eq X27 hx 193 191 (hb hby d9_188) (by decide) rfl rfl (fun _ => ?_) (fun q => absurd h30 q)
                show Go p e below s _ _ _ (T27.setTop (mkF m 193 #[.val (.ref x0), .val (.int x1), .val (.long x2), .second, .val (.int ((((((((0 : Int32) + (f2 x2 (0 : Int32))) + (f2 x2 (1 : Int32))) + (f2 x2 (2 : Int32))) + (f2 x2 (3 : Int32))) + (f2 x2 (4 : Int32))) + (f2 x2 (5 : Int32))) + (f2 x2 (6 : Int32))))] []))
                refine g_iload X27 hx 195 (hb hby d9_193) rfl rfl ?_
                show Go p e below s _ _ _ (T27.setTop (mkF m 195 #[.val (.ref x0), .val (.int x1), .val (.long x2), .second, .val (.int ((((((((0 : Int32) + (f2 x2 (0 : Int32))) + (f2 x2 (1 : Int32))) + (f2 x2 (2 : Int32))) + (f2 x2 (3 : Int32))) + (f2 x2 (4 : Int32))) + (f2 x2 (5 : Int32))) + (f2 x2 (6 : Int32))))] [(.int ((((((((0 : Int32) + (f2 x2 (0 : Int32))) + (f2 x2 (1 : Int32))) + (f2 x2 (2 : Int32))) + (f2 x2 (3 : Int32))) + (f2 x2 (4 : Int32))) + (f2 x2 (5 : Int32))) + (f2 x2 (6 : Int32))))]))
                refine g_lloadN X27 hx 196 (hb hby d9_195) rfl rfl ?_
                show Go p e below s _ _ _ (T27.setTop (mkF m 196 #[.val (.ref x0), .val (.int x1), .val (.long x2), .second, .val (.int ((((((((0 : Int32) + (f2 x2 (0 : Int32))) + (f2 x2 (1 : Int32))) + (f2 x2 (2 : Int32))) + (f2 x2 (3 : Int32))) + (f2 x2 (4 : Int32))) + (f2 x2 (5 : Int32))) + (f2 x2 (6 : Int32))))] [(.long x2), (.int ((((((((0 : Int32) + (f2 x2 (0 : Int32))) + (f2 x2 (1 : Int32))) + (f2 x2 (2 : Int32))) + (f2 x2 (3 : Int32))) + (f2 x2 (4 : Int32))) + (f2 x2 (5 : Int32))) + (f2 x2 (6 : Int32))))]))
                refine g_bipush X27 hx (7 : Int32) 198 (hb hby d9_196) rfl rfl ?_
                show Go p e below s _ _ _ (T27.setTop (mkF m 198 #[.val (.ref x0), .val (.int x1), .val (.long x2), .second, .val (.int ((((((((0 : Int32) + (f2 x2 (0 : Int32))) + (f2 x2 (1 : Int32))) + (f2 x2 (2 : Int32))) + (f2 x2 (3 : Int32))) + (f2 x2 (4 : Int32))) + (f2 x2 (5 : Int32))) + (f2 x2 (6 : Int32))))] [(.int (7 : Int32)), (.long x2), (.int ((((((((0 : Int32) + (f2 x2 (0 : Int32))) + (f2 x2 (1 : Int32))) + (f2 x2 (2 : Int32))) + (f2 x2 (3 : Int32))) + (f2 x2 (4 : Int32))) + (f2 x2 (5 : Int32))) + (f2 x2 (6 : Int32))))]))
                refine g_callS X27 hx hZ hown (hw _ (List.mem_of_getElem? (i := 6) rfl)) (hw _ (List.mem_of_getElem? (i := 7) rfl)) (hw _ (List.mem_of_getElem? (i := 4) rfl)) (hw _ (List.mem_of_getElem? (i := 8) rfl)) (by decide) e27 (rm2 l Z a0 hw [] x2 (7 : Int32) h0) [(.long x2), (.int (7 : Int32))] [(.int ((((((((0 : Int32) + (f2 x2 (0 : Int32))) + (f2 x2 (1 : Int32))) + (f2 x2 (2 : Int32))) + (f2 x2 (3 : Int32))) + (f2 x2 (4 : Int32))) + (f2 x2 (5 : Int32))) + (f2 x2 (6 : Int32))))] 1 rfl (lenOf pd__28JI_29I rfl) rfl (Nat.le_of_eq rfl) (by decide) (by decide) (by decide) (by decide) (by rw [hml]; rfl) (hb hby d9_198) ?_
                intro T31 L31 v31 X31 q31
                obtain ⟨rfl, rfl, e31⟩ := q31
                show Go p e below s _ _ _ (T31.setTop (mkF m 201 #[.val (.ref x0), .val (.int x1), .val (.long x2), .second, .val (.int ((((((((0 : Int32) + (f2 x2 (0 : Int32))) + (f2 x2 (1 : Int32))) + (f2 x2 (2 : Int32))) + (f2 x2 (3 : Int32))) + (f2 x2 (4 : Int32))) + (f2 x2 (5 : Int32))) + (f2 x2 (6 : Int32))))] [(.int (f2 x2 (7 : Int32))), (.int ((((((((0 : Int32) + (f2 x2 (0 : Int32))) + (f2 x2 (1 : Int32))) + (f2 x2 (2 : Int32))) + (f2 x2 (3 : Int32))) + (f2 x2 (4 : Int32))) + (f2 x2 (5 : Int32))) + (f2 x2 (6 : Int32))))]))
                refine g_iadd X31 hx 202 (hb hby d9_201) rfl ?_
                show Go p e below s _ _ _ (T31.setTop (mkF m 202 #[.val (.ref x0), .val (.int x1), .val (.long x2), .second, .val (.int ((((((((0 : Int32) + (f2 x2 (0 : Int32))) + (f2 x2 (1 : Int32))) + (f2 x2 (2 : Int32))) + (f2 x2 (3 : Int32))) + (f2 x2 (4 : Int32))) + (f2 x2 (5 : Int32))) + (f2 x2 (6 : Int32))))] [(.int (((((((((0 : Int32) + (f2 x2 (0 : Int32))) + (f2 x2 (1 : Int32))) + (f2 x2 (2 : Int32))) + (f2 x2 (3 : Int32))) + (f2 x2 (4 : Int32))) + (f2 x2 (5 : Int32))) + (f2 x2 (6 : Int32))) + (f2 x2 (7 : Int32))))]))
                refine g_istore X31 hx #[.val (.ref x0), .val (.int x1), .val (.long x2), .second, .val (.int (((((((((0 : Int32) + (f2 x2 (0 : Int32))) + (f2 x2 (1 : Int32))) + (f2 x2 (2 : Int32))) + (f2 x2 (3 : Int32))) + (f2 x2 (4 : Int32))) + (f2 x2 (5 : Int32))) + (f2 x2 (6 : Int32))) + (f2 x2 (7 : Int32))))] 204 (hb hby d9_202) rfl rfl ?_
                show Go p e below s _ _ _ (T31.setTop (mkF m 204 #[.val (.ref x0), .val (.int x1), .val (.long x2), .second, .val (.int (((((((((0 : Int32) + (f2 x2 (0 : Int32))) + (f2 x2 (1 : Int32))) + (f2 x2 (2 : Int32))) + (f2 x2 (3 : Int32))) + (f2 x2 (4 : Int32))) + (f2 x2 (5 : Int32))) + (f2 x2 (6 : Int32))) + (f2 x2 (7 : Int32))))] []))
                refine g_bipush X31 hx (7 : Int32) 206 (hb hby d9_204) rfl rfl ?_
                show Go p e below s _ _ _ (T31.setTop (mkF m 206 #[.val (.ref x0), .val (.int x1), .val (.long x2), .second, .val (.int (((((((((0 : Int32) + (f2 x2 (0 : Int32))) + (f2 x2 (1 : Int32))) + (f2 x2 (2 : Int32))) + (f2 x2 (3 : Int32))) + (f2 x2 (4 : Int32))) + (f2 x2 (5 : Int32))) + (f2 x2 (6 : Int32))) + (f2 x2 (7 : Int32))))] [(.int (7 : Int32))]))
                refine g_iloadN X31 hx 207 (hb hby d9_206) rfl rfl ?_
                show Go p e below s _ _ _ (T31.setTop (mkF m 207 #[.val (.ref x0), .val (.int x1), .val (.long x2), .second, .val (.int (((((((((0 : Int32) + (f2 x2 (0 : Int32))) + (f2 x2 (1 : Int32))) + (f2 x2 (2 : Int32))) + (f2 x2 (3 : Int32))) + (f2 x2 (4 : Int32))) + (f2 x2 (5 : Int32))) + (f2 x2 (6 : Int32))) + (f2 x2 (7 : Int32))))] [(.int x1), (.int (7 : Int32))]))
                refine g_icmp_ge X31 hx 221 210 (hb hby d9_207) (by decide) rfl rfl (fun h32 => ?_) (fun h32 => ?_)
                · show Go p e below s _ _ _ (T31.setTop (mkF m 210 #[.val (.ref x0), .val (.int x1), .val (.long x2), .second, .val (.int (((((((((0 : Int32) + (f2 x2 (0 : Int32))) + (f2 x2 (1 : Int32))) + (f2 x2 (2 : Int32))) + (f2 x2 (3 : Int32))) + (f2 x2 (4 : Int32))) + (f2 x2 (5 : Int32))) + (f2 x2 (6 : Int32))) + (f2 x2 (7 : Int32))))] []))
                  refine g_aloadN X31 hx 211 (hb hby d9_210) rfl rfl rfl ?_
                  show Go p e below s _ _ _ (T31.setTop (mkF m 211 #[.val (.ref x0), .val (.int x1), .val (.long x2), .second, .val (.int (((((((((0 : Int32) + (f2 x2 (0 : Int32))) + (f2 x2 (1 : Int32))) + (f2 x2 (2 : Int32))) + (f2 x2 (3 : Int32))) + (f2 x2 (4 : Int32))) + (f2 x2 (5 : Int32))) + (f2 x2 (6 : Int32))) + (f2 x2 (7 : Int32))))] [(.ref x0)]))
                  refine g_bipush X31 hx (7 : Int32) 213 (hb hby d9_211) rfl rfl ?_
                  show Go p e below s _ _ _ (T31.setTop (mkF m 213 #[.val (.ref x0), .val (.int x1), .val (.long x2), .second, .val (.int (((((((((0 : Int32) + (f2 x2 (0 : Int32))) + (f2 x2 (1 : Int32))) + (f2 x2 (2 : Int32))) + (f2 x2 (3 : Int32))) + (f2 x2 (4 : Int32))) + (f2 x2 (5 : Int32))) + (f2 x2 (6 : Int32))) + (f2 x2 (7 : Int32))))] [(.int (7 : Int32)), (.ref x0)]))
                  refine g_iaload X31 hx hZ e31 P0 7 rfl (own_lt hf (k := 7) rfl h32) 214 (hb hby d9_213) rfl ?_
                  show Go p e below s _ _ _ (T31.setTop (mkF m 214 #[.val (.ref x0), .val (.int x1), .val (.long x2), .second, .val (.int (((((((((0 : Int32) + (f2 x2 (0 : Int32))) + (f2 x2 (1 : Int32))) + (f2 x2 (2 : Int32))) + (f2 x2 (3 : Int32))) + (f2 x2 (4 : Int32))) + (f2 x2 (5 : Int32))) + (f2 x2 (6 : Int32))) + (f2 x2 (7 : Int32))))] [(.int (g 7))]))
                  refine g_iload X31 hx 216 (hb hby d9_214) rfl rfl ?_
                  show Go p e below s _ _ _ (T31.setTop (mkF m 216 #[.val (.ref x0), .val (.int x1), .val (.long x2), .second, .val (.int (((((((((0 : Int32) + (f2 x2 (0 : Int32))) + (f2 x2 (1 : Int32))) + (f2 x2 (2 : Int32))) + (f2 x2 (3 : Int32))) + (f2 x2 (4 : Int32))) + (f2 x2 (5 : Int32))) + (f2 x2 (6 : Int32))) + (f2 x2 (7 : Int32))))] [(.int (((((((((0 : Int32) + (f2 x2 (0 : Int32))) + (f2 x2 (1 : Int32))) + (f2 x2 (2 : Int32))) + (f2 x2 (3 : Int32))) + (f2 x2 (4 : Int32))) + (f2 x2 (5 : Int32))) + (f2 x2 (6 : Int32))) + (f2 x2 (7 : Int32)))), (.int (g 7))]))
                  have h34 : (g 7) = (((((((((0 : Int32) + (f2 x2 (0 : Int32))) + (f2 x2 (1 : Int32))) + (f2 x2 (2 : Int32))) + (f2 x2 (3 : Int32))) + (f2 x2 (4 : Int32))) + (f2 x2 (5 : Int32))) + (f2 x2 (6 : Int32))) + (f2 x2 (7 : Int32))) := hs 7 (own_lt hf (k := 7) rfl h32)
                  refine g_icmp_eq X31 hx 221 219 (hb hby d9_216) (by decide) rfl rfl (fun _ => ?_) (fun q => absurd h34 q)
                  show Go p e below s _ _ _ (T31.setTop (mkF m 221 #[.val (.ref x0), .val (.int x1), .val (.long x2), .second, .val (.int (((((((((0 : Int32) + (f2 x2 (0 : Int32))) + (f2 x2 (1 : Int32))) + (f2 x2 (2 : Int32))) + (f2 x2 (3 : Int32))) + (f2 x2 (4 : Int32))) + (f2 x2 (5 : Int32))) + (f2 x2 (6 : Int32))) + (f2 x2 (7 : Int32))))] []))
                  refine g_iload X31 hx 223 (hb hby d9_221) rfl rfl ?_
                  show Go p e below s _ _ _ (T31.setTop (mkF m 223 #[.val (.ref x0), .val (.int x1), .val (.long x2), .second, .val (.int (((((((((0 : Int32) + (f2 x2 (0 : Int32))) + (f2 x2 (1 : Int32))) + (f2 x2 (2 : Int32))) + (f2 x2 (3 : Int32))) + (f2 x2 (4 : Int32))) + (f2 x2 (5 : Int32))) + (f2 x2 (6 : Int32))) + (f2 x2 (7 : Int32))))] [(.int (((((((((0 : Int32) + (f2 x2 (0 : Int32))) + (f2 x2 (1 : Int32))) + (f2 x2 (2 : Int32))) + (f2 x2 (3 : Int32))) + (f2 x2 (4 : Int32))) + (f2 x2 (5 : Int32))) + (f2 x2 (6 : Int32))) + (f2 x2 (7 : Int32))))]))
                  refine g_lloadN X31 hx 224 (hb hby d9_223) rfl rfl ?_
                  show Go p e below s _ _ _ (T31.setTop (mkF m 224 #[.val (.ref x0), .val (.int x1), .val (.long x2), .second, .val (.int (((((((((0 : Int32) + (f2 x2 (0 : Int32))) + (f2 x2 (1 : Int32))) + (f2 x2 (2 : Int32))) + (f2 x2 (3 : Int32))) + (f2 x2 (4 : Int32))) + (f2 x2 (5 : Int32))) + (f2 x2 (6 : Int32))) + (f2 x2 (7 : Int32))))] [(.long x2), (.int (((((((((0 : Int32) + (f2 x2 (0 : Int32))) + (f2 x2 (1 : Int32))) + (f2 x2 (2 : Int32))) + (f2 x2 (3 : Int32))) + (f2 x2 (4 : Int32))) + (f2 x2 (5 : Int32))) + (f2 x2 (6 : Int32))) + (f2 x2 (7 : Int32))))]))
                  refine g_bipush X31 hx (8 : Int32) 226 (hb hby d9_224) rfl rfl ?_
                  show Go p e below s _ _ _ (T31.setTop (mkF m 226 #[.val (.ref x0), .val (.int x1), .val (.long x2), .second, .val (.int (((((((((0 : Int32) + (f2 x2 (0 : Int32))) + (f2 x2 (1 : Int32))) + (f2 x2 (2 : Int32))) + (f2 x2 (3 : Int32))) + (f2 x2 (4 : Int32))) + (f2 x2 (5 : Int32))) + (f2 x2 (6 : Int32))) + (f2 x2 (7 : Int32))))] [(.int (8 : Int32)), (.long x2), (.int (((((((((0 : Int32) + (f2 x2 (0 : Int32))) + (f2 x2 (1 : Int32))) + (f2 x2 (2 : Int32))) + (f2 x2 (3 : Int32))) + (f2 x2 (4 : Int32))) + (f2 x2 (5 : Int32))) + (f2 x2 (6 : Int32))) + (f2 x2 (7 : Int32))))]))
                  refine g_callS X31 hx hZ hown (hw _ (List.mem_of_getElem? (i := 6) rfl)) (hw _ (List.mem_of_getElem? (i := 7) rfl)) (hw _ (List.mem_of_getElem? (i := 4) rfl)) (hw _ (List.mem_of_getElem? (i := 8) rfl)) (by decide) e31 (rm2 l Z a0 hw [] x2 (8 : Int32) h0) [(.long x2), (.int (8 : Int32))] [(.int (((((((((0 : Int32) + (f2 x2 (0 : Int32))) + (f2 x2 (1 : Int32))) + (f2 x2 (2 : Int32))) + (f2 x2 (3 : Int32))) + (f2 x2 (4 : Int32))) + (f2 x2 (5 : Int32))) + (f2 x2 (6 : Int32))) + (f2 x2 (7 : Int32))))] 1 rfl (lenOf pd__28JI_29I rfl) rfl (Nat.le_of_eq rfl) (by decide) (by decide) (by decide) (by decide) (by rw [hml]; rfl) (hb hby d9_226) ?_
                  intro T35 L35 v35 X35 q35
                  obtain ⟨rfl, rfl, e35⟩ := q35
                  show Go p e below s _ _ _ (T35.setTop (mkF m 229 #[.val (.ref x0), .val (.int x1), .val (.long x2), .second, .val (.int (((((((((0 : Int32) + (f2 x2 (0 : Int32))) + (f2 x2 (1 : Int32))) + (f2 x2 (2 : Int32))) + (f2 x2 (3 : Int32))) + (f2 x2 (4 : Int32))) + (f2 x2 (5 : Int32))) + (f2 x2 (6 : Int32))) + (f2 x2 (7 : Int32))))] [(.int (f2 x2 (8 : Int32))), (.int (((((((((0 : Int32) + (f2 x2 (0 : Int32))) + (f2 x2 (1 : Int32))) + (f2 x2 (2 : Int32))) + (f2 x2 (3 : Int32))) + (f2 x2 (4 : Int32))) + (f2 x2 (5 : Int32))) + (f2 x2 (6 : Int32))) + (f2 x2 (7 : Int32))))]))
                  refine g_iadd X35 hx 230 (hb hby d9_229) rfl ?_
                  show Go p e below s _ _ _ (T35.setTop (mkF m 230 #[.val (.ref x0), .val (.int x1), .val (.long x2), .second, .val (.int (((((((((0 : Int32) + (f2 x2 (0 : Int32))) + (f2 x2 (1 : Int32))) + (f2 x2 (2 : Int32))) + (f2 x2 (3 : Int32))) + (f2 x2 (4 : Int32))) + (f2 x2 (5 : Int32))) + (f2 x2 (6 : Int32))) + (f2 x2 (7 : Int32))))] [(.int ((((((((((0 : Int32) + (f2 x2 (0 : Int32))) + (f2 x2 (1 : Int32))) + (f2 x2 (2 : Int32))) + (f2 x2 (3 : Int32))) + (f2 x2 (4 : Int32))) + (f2 x2 (5 : Int32))) + (f2 x2 (6 : Int32))) + (f2 x2 (7 : Int32))) + (f2 x2 (8 : Int32))))]))
                  refine g_istore X35 hx #[.val (.ref x0), .val (.int x1), .val (.long x2), .second, .val (.int ((((((((((0 : Int32) + (f2 x2 (0 : Int32))) + (f2 x2 (1 : Int32))) + (f2 x2 (2 : Int32))) + (f2 x2 (3 : Int32))) + (f2 x2 (4 : Int32))) + (f2 x2 (5 : Int32))) + (f2 x2 (6 : Int32))) + (f2 x2 (7 : Int32))) + (f2 x2 (8 : Int32))))] 232 (hb hby d9_230) rfl rfl ?_
                  show Go p e below s _ _ _ (T35.setTop (mkF m 232 #[.val (.ref x0), .val (.int x1), .val (.long x2), .second, .val (.int ((((((((((0 : Int32) + (f2 x2 (0 : Int32))) + (f2 x2 (1 : Int32))) + (f2 x2 (2 : Int32))) + (f2 x2 (3 : Int32))) + (f2 x2 (4 : Int32))) + (f2 x2 (5 : Int32))) + (f2 x2 (6 : Int32))) + (f2 x2 (7 : Int32))) + (f2 x2 (8 : Int32))))] []))
                  refine g_bipush X35 hx (8 : Int32) 234 (hb hby d9_232) rfl rfl ?_
                  show Go p e below s _ _ _ (T35.setTop (mkF m 234 #[.val (.ref x0), .val (.int x1), .val (.long x2), .second, .val (.int ((((((((((0 : Int32) + (f2 x2 (0 : Int32))) + (f2 x2 (1 : Int32))) + (f2 x2 (2 : Int32))) + (f2 x2 (3 : Int32))) + (f2 x2 (4 : Int32))) + (f2 x2 (5 : Int32))) + (f2 x2 (6 : Int32))) + (f2 x2 (7 : Int32))) + (f2 x2 (8 : Int32))))] [(.int (8 : Int32))]))
                  refine g_iloadN X35 hx 235 (hb hby d9_234) rfl rfl ?_
                  show Go p e below s _ _ _ (T35.setTop (mkF m 235 #[.val (.ref x0), .val (.int x1), .val (.long x2), .second, .val (.int ((((((((((0 : Int32) + (f2 x2 (0 : Int32))) + (f2 x2 (1 : Int32))) + (f2 x2 (2 : Int32))) + (f2 x2 (3 : Int32))) + (f2 x2 (4 : Int32))) + (f2 x2 (5 : Int32))) + (f2 x2 (6 : Int32))) + (f2 x2 (7 : Int32))) + (f2 x2 (8 : Int32))))] [(.int x1), (.int (8 : Int32))]))
                  refine g_icmp_ge X35 hx 249 238 (hb hby d9_235) (by decide) rfl rfl (fun h36 => ?_) (fun h36 => ?_)
                  · show Go p e below s _ _ _ (T35.setTop (mkF m 238 #[.val (.ref x0), .val (.int x1), .val (.long x2), .second, .val (.int ((((((((((0 : Int32) + (f2 x2 (0 : Int32))) + (f2 x2 (1 : Int32))) + (f2 x2 (2 : Int32))) + (f2 x2 (3 : Int32))) + (f2 x2 (4 : Int32))) + (f2 x2 (5 : Int32))) + (f2 x2 (6 : Int32))) + (f2 x2 (7 : Int32))) + (f2 x2 (8 : Int32))))] []))
                    refine g_aloadN X35 hx 239 (hb hby d9_238) rfl rfl rfl ?_
                    show Go p e below s _ _ _ (T35.setTop (mkF m 239 #[.val (.ref x0), .val (.int x1), .val (.long x2), .second, .val (.int ((((((((((0 : Int32) + (f2 x2 (0 : Int32))) + (f2 x2 (1 : Int32))) + (f2 x2 (2 : Int32))) + (f2 x2 (3 : Int32))) + (f2 x2 (4 : Int32))) + (f2 x2 (5 : Int32))) + (f2 x2 (6 : Int32))) + (f2 x2 (7 : Int32))) + (f2 x2 (8 : Int32))))] [(.ref x0)]))
                    refine g_bipush X35 hx (8 : Int32) 241 (hb hby d9_239) rfl rfl ?_
                    show Go p e below s _ _ _ (T35.setTop (mkF m 241 #[.val (.ref x0), .val (.int x1), .val (.long x2), .second, .val (.int ((((((((((0 : Int32) + (f2 x2 (0 : Int32))) + (f2 x2 (1 : Int32))) + (f2 x2 (2 : Int32))) + (f2 x2 (3 : Int32))) + (f2 x2 (4 : Int32))) + (f2 x2 (5 : Int32))) + (f2 x2 (6 : Int32))) + (f2 x2 (7 : Int32))) + (f2 x2 (8 : Int32))))] [(.int (8 : Int32)), (.ref x0)]))
                    refine g_iaload X35 hx hZ e35 P0 8 rfl (own_lt hf (k := 8) rfl h36) 242 (hb hby d9_241) rfl ?_
                    show Go p e below s _ _ _ (T35.setTop (mkF m 242 #[.val (.ref x0), .val (.int x1), .val (.long x2), .second, .val (.int ((((((((((0 : Int32) + (f2 x2 (0 : Int32))) + (f2 x2 (1 : Int32))) + (f2 x2 (2 : Int32))) + (f2 x2 (3 : Int32))) + (f2 x2 (4 : Int32))) + (f2 x2 (5 : Int32))) + (f2 x2 (6 : Int32))) + (f2 x2 (7 : Int32))) + (f2 x2 (8 : Int32))))] [(.int (g 8))]))
                    refine g_iload X35 hx 244 (hb hby d9_242) rfl rfl ?_
                    show Go p e below s _ _ _ (T35.setTop (mkF m 244 #[.val (.ref x0), .val (.int x1), .val (.long x2), .second, .val (.int ((((((((((0 : Int32) + (f2 x2 (0 : Int32))) + (f2 x2 (1 : Int32))) + (f2 x2 (2 : Int32))) + (f2 x2 (3 : Int32))) + (f2 x2 (4 : Int32))) + (f2 x2 (5 : Int32))) + (f2 x2 (6 : Int32))) + (f2 x2 (7 : Int32))) + (f2 x2 (8 : Int32))))] [(.int ((((((((((0 : Int32) + (f2 x2 (0 : Int32))) + (f2 x2 (1 : Int32))) + (f2 x2 (2 : Int32))) + (f2 x2 (3 : Int32))) + (f2 x2 (4 : Int32))) + (f2 x2 (5 : Int32))) + (f2 x2 (6 : Int32))) + (f2 x2 (7 : Int32))) + (f2 x2 (8 : Int32)))), (.int (g 8))]))
                    have h38 : (g 8) = ((((((((((0 : Int32) + (f2 x2 (0 : Int32))) + (f2 x2 (1 : Int32))) + (f2 x2 (2 : Int32))) + (f2 x2 (3 : Int32))) + (f2 x2 (4 : Int32))) + (f2 x2 (5 : Int32))) + (f2 x2 (6 : Int32))) + (f2 x2 (7 : Int32))) + (f2 x2 (8 : Int32))) := hs 8 (own_lt hf (k := 8) rfl h36)
                    refine g_icmp_eq X35 hx 249 247 (hb hby d9_244) (by decide) rfl rfl (fun _ => ?_) (fun q => absurd h38 q)
                    show Go p e below s _ _ _ (T35.setTop (mkF m 249 #[.val (.ref x0), .val (.int x1), .val (.long x2), .second, .val (.int ((((((((((0 : Int32) + (f2 x2 (0 : Int32))) + (f2 x2 (1 : Int32))) + (f2 x2 (2 : Int32))) + (f2 x2 (3 : Int32))) + (f2 x2 (4 : Int32))) + (f2 x2 (5 : Int32))) + (f2 x2 (6 : Int32))) + (f2 x2 (7 : Int32))) + (f2 x2 (8 : Int32))))] []))
                    refine g_iconst X35 hx (1 : Int32) 250 (hb hby d9_249) rfl rfl ?_
                    show Go p e below s _ _ _ (T35.setTop (mkF m 250 #[.val (.ref x0), .val (.int x1), .val (.long x2), .second, .val (.int ((((((((((0 : Int32) + (f2 x2 (0 : Int32))) + (f2 x2 (1 : Int32))) + (f2 x2 (2 : Int32))) + (f2 x2 (3 : Int32))) + (f2 x2 (4 : Int32))) + (f2 x2 (5 : Int32))) + (f2 x2 (6 : Int32))) + (f2 x2 (7 : Int32))) + (f2 x2 (8 : Int32))))] [(.int (1 : Int32))]))
                    exact g_retN X35 hx hret (by simp) hlk (hb hby d9_250) (by decide) (by decide) ⟨rfl, rfl, e35⟩
                  · show Go p e below s _ _ _ (T35.setTop (mkF m 249 #[.val (.ref x0), .val (.int x1), .val (.long x2), .second, .val (.int ((((((((((0 : Int32) + (f2 x2 (0 : Int32))) + (f2 x2 (1 : Int32))) + (f2 x2 (2 : Int32))) + (f2 x2 (3 : Int32))) + (f2 x2 (4 : Int32))) + (f2 x2 (5 : Int32))) + (f2 x2 (6 : Int32))) + (f2 x2 (7 : Int32))) + (f2 x2 (8 : Int32))))] []))
                    refine g_iconst X35 hx (1 : Int32) 250 (hb hby d9_249) rfl rfl ?_
                    show Go p e below s _ _ _ (T35.setTop (mkF m 250 #[.val (.ref x0), .val (.int x1), .val (.long x2), .second, .val (.int ((((((((((0 : Int32) + (f2 x2 (0 : Int32))) + (f2 x2 (1 : Int32))) + (f2 x2 (2 : Int32))) + (f2 x2 (3 : Int32))) + (f2 x2 (4 : Int32))) + (f2 x2 (5 : Int32))) + (f2 x2 (6 : Int32))) + (f2 x2 (7 : Int32))) + (f2 x2 (8 : Int32))))] [(.int (1 : Int32))]))
                    exact g_retN X35 hx hret (by simp) hlk (hb hby d9_250) (by decide) (by decide) ⟨rfl, rfl, e35⟩
                · show Go p e below s _ _ _ (T31.setTop (mkF m 221 #[.val (.ref x0), .val (.int x1), .val (.long x2), .second, .val (.int (((((((((0 : Int32) + (f2 x2 (0 : Int32))) + (f2 x2 (1 : Int32))) + (f2 x2 (2 : Int32))) + (f2 x2 (3 : Int32))) + (f2 x2 (4 : Int32))) + (f2 x2 (5 : Int32))) + (f2 x2 (6 : Int32))) + (f2 x2 (7 : Int32))))] []))
                  refine g_iload X31 hx 223 (hb hby d9_221) rfl rfl ?_
                  show Go p e below s _ _ _ (T31.setTop (mkF m 223 #[.val (.ref x0), .val (.int x1), .val (.long x2), .second, .val (.int (((((((((0 : Int32) + (f2 x2 (0 : Int32))) + (f2 x2 (1 : Int32))) + (f2 x2 (2 : Int32))) + (f2 x2 (3 : Int32))) + (f2 x2 (4 : Int32))) + (f2 x2 (5 : Int32))) + (f2 x2 (6 : Int32))) + (f2 x2 (7 : Int32))))] [(.int (((((((((0 : Int32) + (f2 x2 (0 : Int32))) + (f2 x2 (1 : Int32))) + (f2 x2 (2 : Int32))) + (f2 x2 (3 : Int32))) + (f2 x2 (4 : Int32))) + (f2 x2 (5 : Int32))) + (f2 x2 (6 : Int32))) + (f2 x2 (7 : Int32))))]))
                  refine g_lloadN X31 hx 224 (hb hby d9_223) rfl rfl ?_
                  show Go p e below s _ _ _ (T31.setTop (mkF m 224 #[.val (.ref x0), .val (.int x1), .val (.long x2), .second, .val (.int (((((((((0 : Int32) + (f2 x2 (0 : Int32))) + (f2 x2 (1 : Int32))) + (f2 x2 (2 : Int32))) + (f2 x2 (3 : Int32))) + (f2 x2 (4 : Int32))) + (f2 x2 (5 : Int32))) + (f2 x2 (6 : Int32))) + (f2 x2 (7 : Int32))))] [(.long x2), (.int (((((((((0 : Int32) + (f2 x2 (0 : Int32))) + (f2 x2 (1 : Int32))) + (f2 x2 (2 : Int32))) + (f2 x2 (3 : Int32))) + (f2 x2 (4 : Int32))) + (f2 x2 (5 : Int32))) + (f2 x2 (6 : Int32))) + (f2 x2 (7 : Int32))))]))
                  refine g_bipush X31 hx (8 : Int32) 226 (hb hby d9_224) rfl rfl ?_
                  show Go p e below s _ _ _ (T31.setTop (mkF m 226 #[.val (.ref x0), .val (.int x1), .val (.long x2), .second, .val (.int (((((((((0 : Int32) + (f2 x2 (0 : Int32))) + (f2 x2 (1 : Int32))) + (f2 x2 (2 : Int32))) + (f2 x2 (3 : Int32))) + (f2 x2 (4 : Int32))) + (f2 x2 (5 : Int32))) + (f2 x2 (6 : Int32))) + (f2 x2 (7 : Int32))))] [(.int (8 : Int32)), (.long x2), (.int (((((((((0 : Int32) + (f2 x2 (0 : Int32))) + (f2 x2 (1 : Int32))) + (f2 x2 (2 : Int32))) + (f2 x2 (3 : Int32))) + (f2 x2 (4 : Int32))) + (f2 x2 (5 : Int32))) + (f2 x2 (6 : Int32))) + (f2 x2 (7 : Int32))))]))
                  refine g_callS X31 hx hZ hown (hw _ (List.mem_of_getElem? (i := 6) rfl)) (hw _ (List.mem_of_getElem? (i := 7) rfl)) (hw _ (List.mem_of_getElem? (i := 4) rfl)) (hw _ (List.mem_of_getElem? (i := 8) rfl)) (by decide) e31 (rm2 l Z a0 hw [] x2 (8 : Int32) h0) [(.long x2), (.int (8 : Int32))] [(.int (((((((((0 : Int32) + (f2 x2 (0 : Int32))) + (f2 x2 (1 : Int32))) + (f2 x2 (2 : Int32))) + (f2 x2 (3 : Int32))) + (f2 x2 (4 : Int32))) + (f2 x2 (5 : Int32))) + (f2 x2 (6 : Int32))) + (f2 x2 (7 : Int32))))] 1 rfl (lenOf pd__28JI_29I rfl) rfl (Nat.le_of_eq rfl) (by decide) (by decide) (by decide) (by decide) (by rw [hml]; rfl) (hb hby d9_226) ?_
                  intro T39 L39 v39 X39 q39
                  obtain ⟨rfl, rfl, e39⟩ := q39
                  show Go p e below s _ _ _ (T39.setTop (mkF m 229 #[.val (.ref x0), .val (.int x1), .val (.long x2), .second, .val (.int (((((((((0 : Int32) + (f2 x2 (0 : Int32))) + (f2 x2 (1 : Int32))) + (f2 x2 (2 : Int32))) + (f2 x2 (3 : Int32))) + (f2 x2 (4 : Int32))) + (f2 x2 (5 : Int32))) + (f2 x2 (6 : Int32))) + (f2 x2 (7 : Int32))))] [(.int (f2 x2 (8 : Int32))), (.int (((((((((0 : Int32) + (f2 x2 (0 : Int32))) + (f2 x2 (1 : Int32))) + (f2 x2 (2 : Int32))) + (f2 x2 (3 : Int32))) + (f2 x2 (4 : Int32))) + (f2 x2 (5 : Int32))) + (f2 x2 (6 : Int32))) + (f2 x2 (7 : Int32))))]))
                  refine g_iadd X39 hx 230 (hb hby d9_229) rfl ?_
                  show Go p e below s _ _ _ (T39.setTop (mkF m 230 #[.val (.ref x0), .val (.int x1), .val (.long x2), .second, .val (.int (((((((((0 : Int32) + (f2 x2 (0 : Int32))) + (f2 x2 (1 : Int32))) + (f2 x2 (2 : Int32))) + (f2 x2 (3 : Int32))) + (f2 x2 (4 : Int32))) + (f2 x2 (5 : Int32))) + (f2 x2 (6 : Int32))) + (f2 x2 (7 : Int32))))] [(.int ((((((((((0 : Int32) + (f2 x2 (0 : Int32))) + (f2 x2 (1 : Int32))) + (f2 x2 (2 : Int32))) + (f2 x2 (3 : Int32))) + (f2 x2 (4 : Int32))) + (f2 x2 (5 : Int32))) + (f2 x2 (6 : Int32))) + (f2 x2 (7 : Int32))) + (f2 x2 (8 : Int32))))]))
                  refine g_istore X39 hx #[.val (.ref x0), .val (.int x1), .val (.long x2), .second, .val (.int ((((((((((0 : Int32) + (f2 x2 (0 : Int32))) + (f2 x2 (1 : Int32))) + (f2 x2 (2 : Int32))) + (f2 x2 (3 : Int32))) + (f2 x2 (4 : Int32))) + (f2 x2 (5 : Int32))) + (f2 x2 (6 : Int32))) + (f2 x2 (7 : Int32))) + (f2 x2 (8 : Int32))))] 232 (hb hby d9_230) rfl rfl ?_
                  show Go p e below s _ _ _ (T39.setTop (mkF m 232 #[.val (.ref x0), .val (.int x1), .val (.long x2), .second, .val (.int ((((((((((0 : Int32) + (f2 x2 (0 : Int32))) + (f2 x2 (1 : Int32))) + (f2 x2 (2 : Int32))) + (f2 x2 (3 : Int32))) + (f2 x2 (4 : Int32))) + (f2 x2 (5 : Int32))) + (f2 x2 (6 : Int32))) + (f2 x2 (7 : Int32))) + (f2 x2 (8 : Int32))))] []))
                  refine g_bipush X39 hx (8 : Int32) 234 (hb hby d9_232) rfl rfl ?_
                  show Go p e below s _ _ _ (T39.setTop (mkF m 234 #[.val (.ref x0), .val (.int x1), .val (.long x2), .second, .val (.int ((((((((((0 : Int32) + (f2 x2 (0 : Int32))) + (f2 x2 (1 : Int32))) + (f2 x2 (2 : Int32))) + (f2 x2 (3 : Int32))) + (f2 x2 (4 : Int32))) + (f2 x2 (5 : Int32))) + (f2 x2 (6 : Int32))) + (f2 x2 (7 : Int32))) + (f2 x2 (8 : Int32))))] [(.int (8 : Int32))]))
                  refine g_iloadN X39 hx 235 (hb hby d9_234) rfl rfl ?_
                  show Go p e below s _ _ _ (T39.setTop (mkF m 235 #[.val (.ref x0), .val (.int x1), .val (.long x2), .second, .val (.int ((((((((((0 : Int32) + (f2 x2 (0 : Int32))) + (f2 x2 (1 : Int32))) + (f2 x2 (2 : Int32))) + (f2 x2 (3 : Int32))) + (f2 x2 (4 : Int32))) + (f2 x2 (5 : Int32))) + (f2 x2 (6 : Int32))) + (f2 x2 (7 : Int32))) + (f2 x2 (8 : Int32))))] [(.int x1), (.int (8 : Int32))]))
                  have h40 : ¬ ((8 : Int32) < x1) := fun q => h32 (Int32.lt_trans (by decide) q)
                  refine g_icmp_ge X39 hx 249 238 (hb hby d9_235) (by decide) rfl rfl (fun q => absurd q h40) (fun _ => ?_)
                  show Go p e below s _ _ _ (T39.setTop (mkF m 249 #[.val (.ref x0), .val (.int x1), .val (.long x2), .second, .val (.int ((((((((((0 : Int32) + (f2 x2 (0 : Int32))) + (f2 x2 (1 : Int32))) + (f2 x2 (2 : Int32))) + (f2 x2 (3 : Int32))) + (f2 x2 (4 : Int32))) + (f2 x2 (5 : Int32))) + (f2 x2 (6 : Int32))) + (f2 x2 (7 : Int32))) + (f2 x2 (8 : Int32))))] []))
                  refine g_iconst X39 hx (1 : Int32) 250 (hb hby d9_249) rfl rfl ?_
                  show Go p e below s _ _ _ (T39.setTop (mkF m 250 #[.val (.ref x0), .val (.int x1), .val (.long x2), .second, .val (.int ((((((((((0 : Int32) + (f2 x2 (0 : Int32))) + (f2 x2 (1 : Int32))) + (f2 x2 (2 : Int32))) + (f2 x2 (3 : Int32))) + (f2 x2 (4 : Int32))) + (f2 x2 (5 : Int32))) + (f2 x2 (6 : Int32))) + (f2 x2 (7 : Int32))) + (f2 x2 (8 : Int32))))] [(.int (1 : Int32))]))
                  exact g_retN X39 hx hret (by simp) hlk (hb hby d9_250) (by decide) (by decide) ⟨rfl, rfl, e39⟩
              · show Go p e below s _ _ _ (T27.setTop (mkF m 193 #[.val (.ref x0), .val (.int x1), .val (.long x2), .second, .val (.int ((((((((0 : Int32) + (f2 x2 (0 : Int32))) + (f2 x2 (1 : Int32))) + (f2 x2 (2 : Int32))) + (f2 x2 (3 : Int32))) + (f2 x2 (4 : Int32))) + (f2 x2 (5 : Int32))) + (f2 x2 (6 : Int32))))] []))
                refine g_iload X27 hx 195 (hb hby d9_193) rfl rfl ?_
                show Go p e below s _ _ _ (T27.setTop (mkF m 195 #[.val (.ref x0), .val (.int x1), .val (.long x2), .second, .val (.int ((((((((0 : Int32) + (f2 x2 (0 : Int32))) + (f2 x2 (1 : Int32))) + (f2 x2 (2 : Int32))) + (f2 x2 (3 : Int32))) + (f2 x2 (4 : Int32))) + (f2 x2 (5 : Int32))) + (f2 x2 (6 : Int32))))] [(.int ((((((((0 : Int32) + (f2 x2 (0 : Int32))) + (f2 x2 (1 : Int32))) + (f2 x2 (2 : Int32))) + (f2 x2 (3 : Int32))) + (f2 x2 (4 : Int32))) + (f2 x2 (5 : Int32))) + (f2 x2 (6 : Int32))))]))
                refine g_lloadN X27 hx 196 (hb hby d9_195) rfl rfl ?_
                show Go p e below s _ _ _ (T27.setTop (mkF m 196 #[.val (.ref x0), .val (.int x1), .val (.long x2), .second, .val (.int ((((((((0 : Int32) + (f2 x2 (0 : Int32))) + (f2 x2 (1 : Int32))) + (f2 x2 (2 : Int32))) + (f2 x2 (3 : Int32))) + (f2 x2 (4 : Int32))) + (f2 x2 (5 : Int32))) + (f2 x2 (6 : Int32))))] [(.long x2), (.int ((((((((0 : Int32) + (f2 x2 (0 : Int32))) + (f2 x2 (1 : Int32))) + (f2 x2 (2 : Int32))) + (f2 x2 (3 : Int32))) + (f2 x2 (4 : Int32))) + (f2 x2 (5 : Int32))) + (f2 x2 (6 : Int32))))]))
                refine g_bipush X27 hx (7 : Int32) 198 (hb hby d9_196) rfl rfl ?_
                show Go p e below s _ _ _ (T27.setTop (mkF m 198 #[.val (.ref x0), .val (.int x1), .val (.long x2), .second, .val (.int ((((((((0 : Int32) + (f2 x2 (0 : Int32))) + (f2 x2 (1 : Int32))) + (f2 x2 (2 : Int32))) + (f2 x2 (3 : Int32))) + (f2 x2 (4 : Int32))) + (f2 x2 (5 : Int32))) + (f2 x2 (6 : Int32))))] [(.int (7 : Int32)), (.long x2), (.int ((((((((0 : Int32) + (f2 x2 (0 : Int32))) + (f2 x2 (1 : Int32))) + (f2 x2 (2 : Int32))) + (f2 x2 (3 : Int32))) + (f2 x2 (4 : Int32))) + (f2 x2 (5 : Int32))) + (f2 x2 (6 : Int32))))]))
                refine g_callS X27 hx hZ hown (hw _ (List.mem_of_getElem? (i := 6) rfl)) (hw _ (List.mem_of_getElem? (i := 7) rfl)) (hw _ (List.mem_of_getElem? (i := 4) rfl)) (hw _ (List.mem_of_getElem? (i := 8) rfl)) (by decide) e27 (rm2 l Z a0 hw [] x2 (7 : Int32) h0) [(.long x2), (.int (7 : Int32))] [(.int ((((((((0 : Int32) + (f2 x2 (0 : Int32))) + (f2 x2 (1 : Int32))) + (f2 x2 (2 : Int32))) + (f2 x2 (3 : Int32))) + (f2 x2 (4 : Int32))) + (f2 x2 (5 : Int32))) + (f2 x2 (6 : Int32))))] 1 rfl (lenOf pd__28JI_29I rfl) rfl (Nat.le_of_eq rfl) (by decide) (by decide) (by decide) (by decide) (by rw [hml]; rfl) (hb hby d9_198) ?_
                intro T41 L41 v41 X41 q41
                obtain ⟨rfl, rfl, e41⟩ := q41
                show Go p e below s _ _ _ (T41.setTop (mkF m 201 #[.val (.ref x0), .val (.int x1), .val (.long x2), .second, .val (.int ((((((((0 : Int32) + (f2 x2 (0 : Int32))) + (f2 x2 (1 : Int32))) + (f2 x2 (2 : Int32))) + (f2 x2 (3 : Int32))) + (f2 x2 (4 : Int32))) + (f2 x2 (5 : Int32))) + (f2 x2 (6 : Int32))))] [(.int (f2 x2 (7 : Int32))), (.int ((((((((0 : Int32) + (f2 x2 (0 : Int32))) + (f2 x2 (1 : Int32))) + (f2 x2 (2 : Int32))) + (f2 x2 (3 : Int32))) + (f2 x2 (4 : Int32))) + (f2 x2 (5 : Int32))) + (f2 x2 (6 : Int32))))]))
                refine g_iadd X41 hx 202 (hb hby d9_201) rfl ?_
                show Go p e below s _ _ _ (T41.setTop (mkF m 202 #[.val (.ref x0), .val (.int x1), .val (.long x2), .second, .val (.int ((((((((0 : Int32) + (f2 x2 (0 : Int32))) + (f2 x2 (1 : Int32))) + (f2 x2 (2 : Int32))) + (f2 x2 (3 : Int32))) + (f2 x2 (4 : Int32))) + (f2 x2 (5 : Int32))) + (f2 x2 (6 : Int32))))] [(.int (((((((((0 : Int32) + (f2 x2 (0 : Int32))) + (f2 x2 (1 : Int32))) + (f2 x2 (2 : Int32))) + (f2 x2 (3 : Int32))) + (f2 x2 (4 : Int32))) + (f2 x2 (5 : Int32))) + (f2 x2 (6 : Int32))) + (f2 x2 (7 : Int32))))]))
                refine g_istore X41 hx #[.val (.ref x0), .val (.int x1), .val (.long x2), .second, .val (.int (((((((((0 : Int32) + (f2 x2 (0 : Int32))) + (f2 x2 (1 : Int32))) + (f2 x2 (2 : Int32))) + (f2 x2 (3 : Int32))) + (f2 x2 (4 : Int32))) + (f2 x2 (5 : Int32))) + (f2 x2 (6 : Int32))) + (f2 x2 (7 : Int32))))] 204 (hb hby d9_202) rfl rfl ?_
                show Go p e below s _ _ _ (T41.setTop (mkF m 204 #[.val (.ref x0), .val (.int x1), .val (.long x2), .second, .val (.int (((((((((0 : Int32) + (f2 x2 (0 : Int32))) + (f2 x2 (1 : Int32))) + (f2 x2 (2 : Int32))) + (f2 x2 (3 : Int32))) + (f2 x2 (4 : Int32))) + (f2 x2 (5 : Int32))) + (f2 x2 (6 : Int32))) + (f2 x2 (7 : Int32))))] []))
                refine g_bipush X41 hx (7 : Int32) 206 (hb hby d9_204) rfl rfl ?_
                show Go p e below s _ _ _ (T41.setTop (mkF m 206 #[.val (.ref x0), .val (.int x1), .val (.long x2), .second, .val (.int (((((((((0 : Int32) + (f2 x2 (0 : Int32))) + (f2 x2 (1 : Int32))) + (f2 x2 (2 : Int32))) + (f2 x2 (3 : Int32))) + (f2 x2 (4 : Int32))) + (f2 x2 (5 : Int32))) + (f2 x2 (6 : Int32))) + (f2 x2 (7 : Int32))))] [(.int (7 : Int32))]))
                refine g_iloadN X41 hx 207 (hb hby d9_206) rfl rfl ?_
                show Go p e below s _ _ _ (T41.setTop (mkF m 207 #[.val (.ref x0), .val (.int x1), .val (.long x2), .second, .val (.int (((((((((0 : Int32) + (f2 x2 (0 : Int32))) + (f2 x2 (1 : Int32))) + (f2 x2 (2 : Int32))) + (f2 x2 (3 : Int32))) + (f2 x2 (4 : Int32))) + (f2 x2 (5 : Int32))) + (f2 x2 (6 : Int32))) + (f2 x2 (7 : Int32))))] [(.int x1), (.int (7 : Int32))]))
                have h42 : ¬ ((7 : Int32) < x1) := fun q => h28 (Int32.lt_trans (by decide) q)
                refine g_icmp_ge X41 hx 221 210 (hb hby d9_207) (by decide) rfl rfl (fun q => absurd q h42) (fun _ => ?_)
                show Go p e below s _ _ _ (T41.setTop (mkF m 221 #[.val (.ref x0), .val (.int x1), .val (.long x2), .second, .val (.int (((((((((0 : Int32) + (f2 x2 (0 : Int32))) + (f2 x2 (1 : Int32))) + (f2 x2 (2 : Int32))) + (f2 x2 (3 : Int32))) + (f2 x2 (4 : Int32))) + (f2 x2 (5 : Int32))) + (f2 x2 (6 : Int32))) + (f2 x2 (7 : Int32))))] []))
                refine g_iload X41 hx 223 (hb hby d9_221) rfl rfl ?_
                show Go p e below s _ _ _ (T41.setTop (mkF m 223 #[.val (.ref x0), .val (.int x1), .val (.long x2), .second, .val (.int (((((((((0 : Int32) + (f2 x2 (0 : Int32))) + (f2 x2 (1 : Int32))) + (f2 x2 (2 : Int32))) + (f2 x2 (3 : Int32))) + (f2 x2 (4 : Int32))) + (f2 x2 (5 : Int32))) + (f2 x2 (6 : Int32))) + (f2 x2 (7 : Int32))))] [(.int (((((((((0 : Int32) + (f2 x2 (0 : Int32))) + (f2 x2 (1 : Int32))) + (f2 x2 (2 : Int32))) + (f2 x2 (3 : Int32))) + (f2 x2 (4 : Int32))) + (f2 x2 (5 : Int32))) + (f2 x2 (6 : Int32))) + (f2 x2 (7 : Int32))))]))
                refine g_lloadN X41 hx 224 (hb hby d9_223) rfl rfl ?_
                show Go p e below s _ _ _ (T41.setTop (mkF m 224 #[.val (.ref x0), .val (.int x1), .val (.long x2), .second, .val (.int (((((((((0 : Int32) + (f2 x2 (0 : Int32))) + (f2 x2 (1 : Int32))) + (f2 x2 (2 : Int32))) + (f2 x2 (3 : Int32))) + (f2 x2 (4 : Int32))) + (f2 x2 (5 : Int32))) + (f2 x2 (6 : Int32))) + (f2 x2 (7 : Int32))))] [(.long x2), (.int (((((((((0 : Int32) + (f2 x2 (0 : Int32))) + (f2 x2 (1 : Int32))) + (f2 x2 (2 : Int32))) + (f2 x2 (3 : Int32))) + (f2 x2 (4 : Int32))) + (f2 x2 (5 : Int32))) + (f2 x2 (6 : Int32))) + (f2 x2 (7 : Int32))))]))
                refine g_bipush X41 hx (8 : Int32) 226 (hb hby d9_224) rfl rfl ?_
                show Go p e below s _ _ _ (T41.setTop (mkF m 226 #[.val (.ref x0), .val (.int x1), .val (.long x2), .second, .val (.int (((((((((0 : Int32) + (f2 x2 (0 : Int32))) + (f2 x2 (1 : Int32))) + (f2 x2 (2 : Int32))) + (f2 x2 (3 : Int32))) + (f2 x2 (4 : Int32))) + (f2 x2 (5 : Int32))) + (f2 x2 (6 : Int32))) + (f2 x2 (7 : Int32))))] [(.int (8 : Int32)), (.long x2), (.int (((((((((0 : Int32) + (f2 x2 (0 : Int32))) + (f2 x2 (1 : Int32))) + (f2 x2 (2 : Int32))) + (f2 x2 (3 : Int32))) + (f2 x2 (4 : Int32))) + (f2 x2 (5 : Int32))) + (f2 x2 (6 : Int32))) + (f2 x2 (7 : Int32))))]))
                refine g_callS X41 hx hZ hown (hw _ (List.mem_of_getElem? (i := 6) rfl)) (hw _ (List.mem_of_getElem? (i := 7) rfl)) (hw _ (List.mem_of_getElem? (i := 4) rfl)) (hw _ (List.mem_of_getElem? (i := 8) rfl)) (by decide) e41 (rm2 l Z a0 hw [] x2 (8 : Int32) h0) [(.long x2), (.int (8 : Int32))] [(.int (((((((((0 : Int32) + (f2 x2 (0 : Int32))) + (f2 x2 (1 : Int32))) + (f2 x2 (2 : Int32))) + (f2 x2 (3 : Int32))) + (f2 x2 (4 : Int32))) + (f2 x2 (5 : Int32))) + (f2 x2 (6 : Int32))) + (f2 x2 (7 : Int32))))] 1 rfl (lenOf pd__28JI_29I rfl) rfl (Nat.le_of_eq rfl) (by decide) (by decide) (by decide) (by decide) (by rw [hml]; rfl) (hb hby d9_226) ?_
                intro T43 L43 v43 X43 q43
                obtain ⟨rfl, rfl, e43⟩ := q43
                show Go p e below s _ _ _ (T43.setTop (mkF m 229 #[.val (.ref x0), .val (.int x1), .val (.long x2), .second, .val (.int (((((((((0 : Int32) + (f2 x2 (0 : Int32))) + (f2 x2 (1 : Int32))) + (f2 x2 (2 : Int32))) + (f2 x2 (3 : Int32))) + (f2 x2 (4 : Int32))) + (f2 x2 (5 : Int32))) + (f2 x2 (6 : Int32))) + (f2 x2 (7 : Int32))))] [(.int (f2 x2 (8 : Int32))), (.int (((((((((0 : Int32) + (f2 x2 (0 : Int32))) + (f2 x2 (1 : Int32))) + (f2 x2 (2 : Int32))) + (f2 x2 (3 : Int32))) + (f2 x2 (4 : Int32))) + (f2 x2 (5 : Int32))) + (f2 x2 (6 : Int32))) + (f2 x2 (7 : Int32))))]))
                refine g_iadd X43 hx 230 (hb hby d9_229) rfl ?_
                show Go p e below s _ _ _ (T43.setTop (mkF m 230 #[.val (.ref x0), .val (.int x1), .val (.long x2), .second, .val (.int (((((((((0 : Int32) + (f2 x2 (0 : Int32))) + (f2 x2 (1 : Int32))) + (f2 x2 (2 : Int32))) + (f2 x2 (3 : Int32))) + (f2 x2 (4 : Int32))) + (f2 x2 (5 : Int32))) + (f2 x2 (6 : Int32))) + (f2 x2 (7 : Int32))))] [(.int ((((((((((0 : Int32) + (f2 x2 (0 : Int32))) + (f2 x2 (1 : Int32))) + (f2 x2 (2 : Int32))) + (f2 x2 (3 : Int32))) + (f2 x2 (4 : Int32))) + (f2 x2 (5 : Int32))) + (f2 x2 (6 : Int32))) + (f2 x2 (7 : Int32))) + (f2 x2 (8 : Int32))))]))
                refine g_istore X43 hx #[.val (.ref x0), .val (.int x1), .val (.long x2), .second, .val (.int ((((((((((0 : Int32) + (f2 x2 (0 : Int32))) + (f2 x2 (1 : Int32))) + (f2 x2 (2 : Int32))) + (f2 x2 (3 : Int32))) + (f2 x2 (4 : Int32))) + (f2 x2 (5 : Int32))) + (f2 x2 (6 : Int32))) + (f2 x2 (7 : Int32))) + (f2 x2 (8 : Int32))))] 232 (hb hby d9_230) rfl rfl ?_
                show Go p e below s _ _ _ (T43.setTop (mkF m 232 #[.val (.ref x0), .val (.int x1), .val (.long x2), .second, .val (.int ((((((((((0 : Int32) + (f2 x2 (0 : Int32))) + (f2 x2 (1 : Int32))) + (f2 x2 (2 : Int32))) + (f2 x2 (3 : Int32))) + (f2 x2 (4 : Int32))) + (f2 x2 (5 : Int32))) + (f2 x2 (6 : Int32))) + (f2 x2 (7 : Int32))) + (f2 x2 (8 : Int32))))] []))
                refine g_bipush X43 hx (8 : Int32) 234 (hb hby d9_232) rfl rfl ?_
                show Go p e below s _ _ _ (T43.setTop (mkF m 234 #[.val (.ref x0), .val (.int x1), .val (.long x2), .second, .val (.int ((((((((((0 : Int32) + (f2 x2 (0 : Int32))) + (f2 x2 (1 : Int32))) + (f2 x2 (2 : Int32))) + (f2 x2 (3 : Int32))) + (f2 x2 (4 : Int32))) + (f2 x2 (5 : Int32))) + (f2 x2 (6 : Int32))) + (f2 x2 (7 : Int32))) + (f2 x2 (8 : Int32))))] [(.int (8 : Int32))]))
                refine g_iloadN X43 hx 235 (hb hby d9_234) rfl rfl ?_
                show Go p e below s _ _ _ (T43.setTop (mkF m 235 #[.val (.ref x0), .val (.int x1), .val (.long x2), .second, .val (.int ((((((((((0 : Int32) + (f2 x2 (0 : Int32))) + (f2 x2 (1 : Int32))) + (f2 x2 (2 : Int32))) + (f2 x2 (3 : Int32))) + (f2 x2 (4 : Int32))) + (f2 x2 (5 : Int32))) + (f2 x2 (6 : Int32))) + (f2 x2 (7 : Int32))) + (f2 x2 (8 : Int32))))] [(.int x1), (.int (8 : Int32))]))
                have h44 : ¬ ((8 : Int32) < x1) := fun q => h28 (Int32.lt_trans (by decide) q)
                refine g_icmp_ge X43 hx 249 238 (hb hby d9_235) (by decide) rfl rfl (fun q => absurd q h44) (fun _ => ?_)
                show Go p e below s _ _ _ (T43.setTop (mkF m 249 #[.val (.ref x0), .val (.int x1), .val (.long x2), .second, .val (.int ((((((((((0 : Int32) + (f2 x2 (0 : Int32))) + (f2 x2 (1 : Int32))) + (f2 x2 (2 : Int32))) + (f2 x2 (3 : Int32))) + (f2 x2 (4 : Int32))) + (f2 x2 (5 : Int32))) + (f2 x2 (6 : Int32))) + (f2 x2 (7 : Int32))) + (f2 x2 (8 : Int32))))] []))
                refine g_iconst X43 hx (1 : Int32) 250 (hb hby d9_249) rfl rfl ?_
                show Go p e below s _ _ _ (T43.setTop (mkF m 250 #[.val (.ref x0), .val (.int x1), .val (.long x2), .second, .val (.int ((((((((((0 : Int32) + (f2 x2 (0 : Int32))) + (f2 x2 (1 : Int32))) + (f2 x2 (2 : Int32))) + (f2 x2 (3 : Int32))) + (f2 x2 (4 : Int32))) + (f2 x2 (5 : Int32))) + (f2 x2 (6 : Int32))) + (f2 x2 (7 : Int32))) + (f2 x2 (8 : Int32))))] [(.int (1 : Int32))]))
                exact g_retN X43 hx hret (by simp) hlk (hb hby d9_250) (by decide) (by decide) ⟨rfl, rfl, e43⟩
            · show Go p e below s _ _ _ (T23.setTop (mkF m 165 #[.val (.ref x0), .val (.int x1), .val (.long x2), .second, .val (.int (((((((0 : Int32) + (f2 x2 (0 : Int32))) + (f2 x2 (1 : Int32))) + (f2 x2 (2 : Int32))) + (f2 x2 (3 : Int32))) + (f2 x2 (4 : Int32))) + (f2 x2 (5 : Int32))))] []))
              refine g_iload X23 hx 167 (hb hby d9_165) rfl rfl ?_
              show Go p e below s _ _ _ (T23.setTop (mkF m 167 #[.val (.ref x0), .val (.int x1), .val (.long x2), .second, .val (.int (((((((0 : Int32) + (f2 x2 (0 : Int32))) + (f2 x2 (1 : Int32))) + (f2 x2 (2 : Int32))) + (f2 x2 (3 : Int32))) + (f2 x2 (4 : Int32))) + (f2 x2 (5 : Int32))))] [(.int (((((((0 : Int32) + (f2 x2 (0 : Int32))) + (f2 x2 (1 : Int32))) + (f2 x2 (2 : Int32))) + (f2 x2 (3 : Int32))) + (f2 x2 (4 : Int32))) + (f2 x2 (5 : Int32))))]))
              refine g_lloadN X23 hx 168 (hb hby d9_167) rfl rfl ?_
              show Go p e below s _ _ _ (T23.setTop (mkF m 168 #[.val (.ref x0), .val (.int x1), .val (.long x2), .second, .val (.int (((((((0 : Int32) + (f2 x2 (0 : Int32))) + (f2 x2 (1 : Int32))) + (f2 x2 (2 : Int32))) + (f2 x2 (3 : Int32))) + (f2 x2 (4 : Int32))) + (f2 x2 (5 : Int32))))] [(.long x2), (.int (((((((0 : Int32) + (f2 x2 (0 : Int32))) + (f2 x2 (1 : Int32))) + (f2 x2 (2 : Int32))) + (f2 x2 (3 : Int32))) + (f2 x2 (4 : Int32))) + (f2 x2 (5 : Int32))))]))
              refine g_bipush X23 hx (6 : Int32) 170 (hb hby d9_168) rfl rfl ?_
              show Go p e below s _ _ _ (T23.setTop (mkF m 170 #[.val (.ref x0), .val (.int x1), .val (.long x2), .second, .val (.int (((((((0 : Int32) + (f2 x2 (0 : Int32))) + (f2 x2 (1 : Int32))) + (f2 x2 (2 : Int32))) + (f2 x2 (3 : Int32))) + (f2 x2 (4 : Int32))) + (f2 x2 (5 : Int32))))] [(.int (6 : Int32)), (.long x2), (.int (((((((0 : Int32) + (f2 x2 (0 : Int32))) + (f2 x2 (1 : Int32))) + (f2 x2 (2 : Int32))) + (f2 x2 (3 : Int32))) + (f2 x2 (4 : Int32))) + (f2 x2 (5 : Int32))))]))
              refine g_callS X23 hx hZ hown (hw _ (List.mem_of_getElem? (i := 6) rfl)) (hw _ (List.mem_of_getElem? (i := 7) rfl)) (hw _ (List.mem_of_getElem? (i := 4) rfl)) (hw _ (List.mem_of_getElem? (i := 8) rfl)) (by decide) e23 (rm2 l Z a0 hw [] x2 (6 : Int32) h0) [(.long x2), (.int (6 : Int32))] [(.int (((((((0 : Int32) + (f2 x2 (0 : Int32))) + (f2 x2 (1 : Int32))) + (f2 x2 (2 : Int32))) + (f2 x2 (3 : Int32))) + (f2 x2 (4 : Int32))) + (f2 x2 (5 : Int32))))] 1 rfl (lenOf pd__28JI_29I rfl) rfl (Nat.le_of_eq rfl) (by decide) (by decide) (by decide) (by decide) (by rw [hml]; rfl) (hb hby d9_170) ?_
              intro T45 L45 v45 X45 q45
              obtain ⟨rfl, rfl, e45⟩ := q45
              show Go p e below s _ _ _ (T45.setTop (mkF m 173 #[.val (.ref x0), .val (.int x1), .val (.long x2), .second, .val (.int (((((((0 : Int32) + (f2 x2 (0 : Int32))) + (f2 x2 (1 : Int32))) + (f2 x2 (2 : Int32))) + (f2 x2 (3 : Int32))) + (f2 x2 (4 : Int32))) + (f2 x2 (5 : Int32))))] [(.int (f2 x2 (6 : Int32))), (.int (((((((0 : Int32) + (f2 x2 (0 : Int32))) + (f2 x2 (1 : Int32))) + (f2 x2 (2 : Int32))) + (f2 x2 (3 : Int32))) + (f2 x2 (4 : Int32))) + (f2 x2 (5 : Int32))))]))
              refine g_iadd X45 hx 174 (hb hby d9_173) rfl ?_
              show Go p e below s _ _ _ (T45.setTop (mkF m 174 #[.val (.ref x0), .val (.int x1), .val (.long x2), .second, .val (.int (((((((0 : Int32) + (f2 x2 (0 : Int32))) + (f2 x2 (1 : Int32))) + (f2 x2 (2 : Int32))) + (f2 x2 (3 : Int32))) + (f2 x2 (4 : Int32))) + (f2 x2 (5 : Int32))))] [(.int ((((((((0 : Int32) + (f2 x2 (0 : Int32))) + (f2 x2 (1 : Int32))) + (f2 x2 (2 : Int32))) + (f2 x2 (3 : Int32))) + (f2 x2 (4 : Int32))) + (f2 x2 (5 : Int32))) + (f2 x2 (6 : Int32))))]))
              refine g_istore X45 hx #[.val (.ref x0), .val (.int x1), .val (.long x2), .second, .val (.int ((((((((0 : Int32) + (f2 x2 (0 : Int32))) + (f2 x2 (1 : Int32))) + (f2 x2 (2 : Int32))) + (f2 x2 (3 : Int32))) + (f2 x2 (4 : Int32))) + (f2 x2 (5 : Int32))) + (f2 x2 (6 : Int32))))] 176 (hb hby d9_174) rfl rfl ?_
              show Go p e below s _ _ _ (T45.setTop (mkF m 176 #[.val (.ref x0), .val (.int x1), .val (.long x2), .second, .val (.int ((((((((0 : Int32) + (f2 x2 (0 : Int32))) + (f2 x2 (1 : Int32))) + (f2 x2 (2 : Int32))) + (f2 x2 (3 : Int32))) + (f2 x2 (4 : Int32))) + (f2 x2 (5 : Int32))) + (f2 x2 (6 : Int32))))] []))
              refine g_bipush X45 hx (6 : Int32) 178 (hb hby d9_176) rfl rfl ?_
              show Go p e below s _ _ _ (T45.setTop (mkF m 178 #[.val (.ref x0), .val (.int x1), .val (.long x2), .second, .val (.int ((((((((0 : Int32) + (f2 x2 (0 : Int32))) + (f2 x2 (1 : Int32))) + (f2 x2 (2 : Int32))) + (f2 x2 (3 : Int32))) + (f2 x2 (4 : Int32))) + (f2 x2 (5 : Int32))) + (f2 x2 (6 : Int32))))] [(.int (6 : Int32))]))
              refine g_iloadN X45 hx 179 (hb hby d9_178) rfl rfl ?_
              show Go p e below s _ _ _ (T45.setTop (mkF m 179 #[.val (.ref x0), .val (.int x1), .val (.long x2), .second, .val (.int ((((((((0 : Int32) + (f2 x2 (0 : Int32))) + (f2 x2 (1 : Int32))) + (f2 x2 (2 : Int32))) + (f2 x2 (3 : Int32))) + (f2 x2 (4 : Int32))) + (f2 x2 (5 : Int32))) + (f2 x2 (6 : Int32))))] [(.int x1), (.int (6 : Int32))]))
              have h46 : ¬ ((6 : Int32) < x1) := fun q => h24 (Int32.lt_trans (by decide) q)
              refine g_icmp_ge X45 hx 193 182 (hb hby d9_179) (by decide) rfl rfl (fun q => absurd q h46) (fun _ => ?_)
              show Go p e below s _ _ _ (T45.setTop (mkF m 193 #[.val (.ref x0), .val (.int x1), .val (.long x2), .second, .val (.int ((((((((0 : Int32) + (f2 x2 (0 : Int32))) + (f2 x2 (1 : Int32))) + (f2 x2 (2 : Int32))) + (f2 x2 (3 : Int32))) + (f2 x2 (4 : Int32))) + (f2 x2 (5 : Int32))) + (f2 x2 (6 : Int32))))] []))
              refine g_iload X45 hx 195 (hb hby d9_193) rfl rfl ?_
              show Go p e below s _ _ _ (T45.setTop (mkF m 195 #[.val (.ref x0), .val (.int x1), .val (.long x2), .second, .val (.int ((((((((0 : Int32) + (f2 x2 (0 : Int32))) + (f2 x2 (1 : Int32))) + (f2 x2 (2 : Int32))) + (f2 x2 (3 : Int32))) + (f2 x2 (4 : Int32))) + (f2 x2 (5 : Int32))) + (f2 x2 (6 : Int32))))] [(.int ((((((((0 : Int32) + (f2 x2 (0 : Int32))) + (f2 x2 (1 : Int32))) + (f2 x2 (2 : Int32))) + (f2 x2 (3 : Int32))) + (f2 x2 (4 : Int32))) + (f2 x2 (5 : Int32))) + (f2 x2 (6 : Int32))))]))
              refine g_lloadN X45 hx 196 (hb hby d9_195) rfl rfl ?_
              show Go p e below s _ _ _ (T45.setTop (mkF m 196 #[.val (.ref x0), .val (.int x1), .val (.long x2), .second, .val (.int ((((((((0 : Int32) + (f2 x2 (0 : Int32))) + (f2 x2 (1 : Int32))) + (f2 x2 (2 : Int32))) + (f2 x2 (3 : Int32))) + (f2 x2 (4 : Int32))) + (f2 x2 (5 : Int32))) + (f2 x2 (6 : Int32))))] [(.long x2), (.int ((((((((0 : Int32) + (f2 x2 (0 : Int32))) + (f2 x2 (1 : Int32))) + (f2 x2 (2 : Int32))) + (f2 x2 (3 : Int32))) + (f2 x2 (4 : Int32))) + (f2 x2 (5 : Int32))) + (f2 x2 (6 : Int32))))]))
              refine g_bipush X45 hx (7 : Int32) 198 (hb hby d9_196) rfl rfl ?_
              show Go p e below s _ _ _ (T45.setTop (mkF m 198 #[.val (.ref x0), .val (.int x1), .val (.long x2), .second, .val (.int ((((((((0 : Int32) + (f2 x2 (0 : Int32))) + (f2 x2 (1 : Int32))) + (f2 x2 (2 : Int32))) + (f2 x2 (3 : Int32))) + (f2 x2 (4 : Int32))) + (f2 x2 (5 : Int32))) + (f2 x2 (6 : Int32))))] [(.int (7 : Int32)), (.long x2), (.int ((((((((0 : Int32) + (f2 x2 (0 : Int32))) + (f2 x2 (1 : Int32))) + (f2 x2 (2 : Int32))) + (f2 x2 (3 : Int32))) + (f2 x2 (4 : Int32))) + (f2 x2 (5 : Int32))) + (f2 x2 (6 : Int32))))]))
              refine g_callS X45 hx hZ hown (hw _ (List.mem_of_getElem? (i := 6) rfl)) (hw _ (List.mem_of_getElem? (i := 7) rfl)) (hw _ (List.mem_of_getElem? (i := 4) rfl)) (hw _ (List.mem_of_getElem? (i := 8) rfl)) (by decide) e45 (rm2 l Z a0 hw [] x2 (7 : Int32) h0) [(.long x2), (.int (7 : Int32))] [(.int ((((((((0 : Int32) + (f2 x2 (0 : Int32))) + (f2 x2 (1 : Int32))) + (f2 x2 (2 : Int32))) + (f2 x2 (3 : Int32))) + (f2 x2 (4 : Int32))) + (f2 x2 (5 : Int32))) + (f2 x2 (6 : Int32))))] 1 rfl (lenOf pd__28JI_29I rfl) rfl (Nat.le_of_eq rfl) (by decide) (by decide) (by decide) (by decide) (by rw [hml]; rfl) (hb hby d9_198) ?_
              intro T47 L47 v47 X47 q47
              obtain ⟨rfl, rfl, e47⟩ := q47
              show Go p e below s _ _ _ (T47.setTop (mkF m 201 #[.val (.ref x0), .val (.int x1), .val (.long x2), .second, .val (.int ((((((((0 : Int32) + (f2 x2 (0 : Int32))) + (f2 x2 (1 : Int32))) + (f2 x2 (2 : Int32))) + (f2 x2 (3 : Int32))) + (f2 x2 (4 : Int32))) + (f2 x2 (5 : Int32))) + (f2 x2 (6 : Int32))))] [(.int (f2 x2 (7 : Int32))), (.int ((((((((0 : Int32) + (f2 x2 (0 : Int32))) + (f2 x2 (1 : Int32))) + (f2 x2 (2 : Int32))) + (f2 x2 (3 : Int32))) + (f2 x2 (4 : Int32))) + (f2 x2 (5 : Int32))) + (f2 x2 (6 : Int32))))]))
              refine g_iadd X47 hx 202 (hb hby d9_201) rfl ?_
              show Go p e below s _ _ _ (T47.setTop (mkF m 202 #[.val (.ref x0), .val (.int x1), .val (.long x2), .second, .val (.int ((((((((0 : Int32) + (f2 x2 (0 : Int32))) + (f2 x2 (1 : Int32))) + (f2 x2 (2 : Int32))) + (f2 x2 (3 : Int32))) + (f2 x2 (4 : Int32))) + (f2 x2 (5 : Int32))) + (f2 x2 (6 : Int32))))] [(.int (((((((((0 : Int32) + (f2 x2 (0 : Int32))) + (f2 x2 (1 : Int32))) + (f2 x2 (2 : Int32))) + (f2 x2 (3 : Int32))) + (f2 x2 (4 : Int32))) + (f2 x2 (5 : Int32))) + (f2 x2 (6 : Int32))) + (f2 x2 (7 : Int32))))]))
              refine g_istore X47 hx #[.val (.ref x0), .val (.int x1), .val (.long x2), .second, .val (.int (((((((((0 : Int32) + (f2 x2 (0 : Int32))) + (f2 x2 (1 : Int32))) + (f2 x2 (2 : Int32))) + (f2 x2 (3 : Int32))) + (f2 x2 (4 : Int32))) + (f2 x2 (5 : Int32))) + (f2 x2 (6 : Int32))) + (f2 x2 (7 : Int32))))] 204 (hb hby d9_202) rfl rfl ?_
              show Go p e below s _ _ _ (T47.setTop (mkF m 204 #[.val (.ref x0), .val (.int x1), .val (.long x2), .second, .val (.int (((((((((0 : Int32) + (f2 x2 (0 : Int32))) + (f2 x2 (1 : Int32))) + (f2 x2 (2 : Int32))) + (f2 x2 (3 : Int32))) + (f2 x2 (4 : Int32))) + (f2 x2 (5 : Int32))) + (f2 x2 (6 : Int32))) + (f2 x2 (7 : Int32))))] []))
              refine g_bipush X47 hx (7 : Int32) 206 (hb hby d9_204) rfl rfl ?_
              show Go p e below s _ _ _ (T47.setTop (mkF m 206 #[.val (.ref x0), .val (.int x1), .val (.long x2), .second, .val (.int (((((((((0 : Int32) + (f2 x2 (0 : Int32))) + (f2 x2 (1 : Int32))) + (f2 x2 (2 : Int32))) + (f2 x2 (3 : Int32))) + (f2 x2 (4 : Int32))) + (f2 x2 (5 : Int32))) + (f2 x2 (6 : Int32))) + (f2 x2 (7 : Int32))))] [(.int (7 : Int32))]))
              refine g_iloadN X47 hx 207 (hb hby d9_206) rfl rfl ?_
              show Go p e below s _ _ _ (T47.setTop (mkF m 207 #[.val (.ref x0), .val (.int x1), .val (.long x2), .second, .val (.int (((((((((0 : Int32) + (f2 x2 (0 : Int32))) + (f2 x2 (1 : Int32))) + (f2 x2 (2 : Int32))) + (f2 x2 (3 : Int32))) + (f2 x2 (4 : Int32))) + (f2 x2 (5 : Int32))) + (f2 x2 (6 : Int32))) + (f2 x2 (7 : Int32))))] [(.int x1), (.int (7 : Int32))]))
              have h48 : ¬ ((7 : Int32) < x1) := fun q => h24 (Int32.lt_trans (by decide) q)
              refine g_icmp_ge X47 hx 221 210 (hb hby d9_207) (by decide) rfl rfl (fun q => absurd q h48) (fun _ => ?_)
              show Go p e below s _ _ _ (T47.setTop (mkF m 221 #[.val (.ref x0), .val (.int x1), .val (.long x2), .second, .val (.int (((((((((0 : Int32) + (f2 x2 (0 : Int32))) + (f2 x2 (1 : Int32))) + (f2 x2 (2 : Int32))) + (f2 x2 (3 : Int32))) + (f2 x2 (4 : Int32))) + (f2 x2 (5 : Int32))) + (f2 x2 (6 : Int32))) + (f2 x2 (7 : Int32))))] []))
              refine g_iload X47 hx 223 (hb hby d9_221) rfl rfl ?_
              show Go p e below s _ _ _ (T47.setTop (mkF m 223 #[.val (.ref x0), .val (.int x1), .val (.long x2), .second, .val (.int (((((((((0 : Int32) + (f2 x2 (0 : Int32))) + (f2 x2 (1 : Int32))) + (f2 x2 (2 : Int32))) + (f2 x2 (3 : Int32))) + (f2 x2 (4 : Int32))) + (f2 x2 (5 : Int32))) + (f2 x2 (6 : Int32))) + (f2 x2 (7 : Int32))))] [(.int (((((((((0 : Int32) + (f2 x2 (0 : Int32))) + (f2 x2 (1 : Int32))) + (f2 x2 (2 : Int32))) + (f2 x2 (3 : Int32))) + (f2 x2 (4 : Int32))) + (f2 x2 (5 : Int32))) + (f2 x2 (6 : Int32))) + (f2 x2 (7 : Int32))))]))
              refine g_lloadN X47 hx 224 (hb hby d9_223) rfl rfl ?_
              show Go p e below s _ _ _ (T47.setTop (mkF m 224 #[.val (.ref x0), .val (.int x1), .val (.long x2), .second, .val (.int (((((((((0 : Int32) + (f2 x2 (0 : Int32))) + (f2 x2 (1 : Int32))) + (f2 x2 (2 : Int32))) + (f2 x2 (3 : Int32))) + (f2 x2 (4 : Int32))) + (f2 x2 (5 : Int32))) + (f2 x2 (6 : Int32))) + (f2 x2 (7 : Int32))))] [(.long x2), (.int (((((((((0 : Int32) + (f2 x2 (0 : Int32))) + (f2 x2 (1 : Int32))) + (f2 x2 (2 : Int32))) + (f2 x2 (3 : Int32))) + (f2 x2 (4 : Int32))) + (f2 x2 (5 : Int32))) + (f2 x2 (6 : Int32))) + (f2 x2 (7 : Int32))))]))
              refine g_bipush X47 hx (8 : Int32) 226 (hb hby d9_224) rfl rfl ?_
              show Go p e below s _ _ _ (T47.setTop (mkF m 226 #[.val (.ref x0), .val (.int x1), .val (.long x2), .second, .val (.int (((((((((0 : Int32) + (f2 x2 (0 : Int32))) + (f2 x2 (1 : Int32))) + (f2 x2 (2 : Int32))) + (f2 x2 (3 : Int32))) + (f2 x2 (4 : Int32))) + (f2 x2 (5 : Int32))) + (f2 x2 (6 : Int32))) + (f2 x2 (7 : Int32))))] [(.int (8 : Int32)), (.long x2), (.int (((((((((0 : Int32) + (f2 x2 (0 : Int32))) + (f2 x2 (1 : Int32))) + (f2 x2 (2 : Int32))) + (f2 x2 (3 : Int32))) + (f2 x2 (4 : Int32))) + (f2 x2 (5 : Int32))) + (f2 x2 (6 : Int32))) + (f2 x2 (7 : Int32))))]))
              refine g_callS X47 hx hZ hown (hw _ (List.mem_of_getElem? (i := 6) rfl)) (hw _ (List.mem_of_getElem? (i := 7) rfl)) (hw _ (List.mem_of_getElem? (i := 4) rfl)) (hw _ (List.mem_of_getElem? (i := 8) rfl)) (by decide) e47 (rm2 l Z a0 hw [] x2 (8 : Int32) h0) [(.long x2), (.int (8 : Int32))] [(.int (((((((((0 : Int32) + (f2 x2 (0 : Int32))) + (f2 x2 (1 : Int32))) + (f2 x2 (2 : Int32))) + (f2 x2 (3 : Int32))) + (f2 x2 (4 : Int32))) + (f2 x2 (5 : Int32))) + (f2 x2 (6 : Int32))) + (f2 x2 (7 : Int32))))] 1 rfl (lenOf pd__28JI_29I rfl) rfl (Nat.le_of_eq rfl) (by decide) (by decide) (by decide) (by decide) (by rw [hml]; rfl) (hb hby d9_226) ?_
              intro T49 L49 v49 X49 q49
              obtain ⟨rfl, rfl, e49⟩ := q49
              show Go p e below s _ _ _ (T49.setTop (mkF m 229 #[.val (.ref x0), .val (.int x1), .val (.long x2), .second, .val (.int (((((((((0 : Int32) + (f2 x2 (0 : Int32))) + (f2 x2 (1 : Int32))) + (f2 x2 (2 : Int32))) + (f2 x2 (3 : Int32))) + (f2 x2 (4 : Int32))) + (f2 x2 (5 : Int32))) + (f2 x2 (6 : Int32))) + (f2 x2 (7 : Int32))))] [(.int (f2 x2 (8 : Int32))), (.int (((((((((0 : Int32) + (f2 x2 (0 : Int32))) + (f2 x2 (1 : Int32))) + (f2 x2 (2 : Int32))) + (f2 x2 (3 : Int32))) + (f2 x2 (4 : Int32))) + (f2 x2 (5 : Int32))) + (f2 x2 (6 : Int32))) + (f2 x2 (7 : Int32))))]))
              refine g_iadd X49 hx 230 (hb hby d9_229) rfl ?_
              show Go p e below s _ _ _ (T49.setTop (mkF m 230 #[.val (.ref x0), .val (.int x1), .val (.long x2), .second, .val (.int (((((((((0 : Int32) + (f2 x2 (0 : Int32))) + (f2 x2 (1 : Int32))) + (f2 x2 (2 : Int32))) + (f2 x2 (3 : Int32))) + (f2 x2 (4 : Int32))) + (f2 x2 (5 : Int32))) + (f2 x2 (6 : Int32))) + (f2 x2 (7 : Int32))))] [(.int ((((((((((0 : Int32) + (f2 x2 (0 : Int32))) + (f2 x2 (1 : Int32))) + (f2 x2 (2 : Int32))) + (f2 x2 (3 : Int32))) + (f2 x2 (4 : Int32))) + (f2 x2 (5 : Int32))) + (f2 x2 (6 : Int32))) + (f2 x2 (7 : Int32))) + (f2 x2 (8 : Int32))))]))
              refine g_istore X49 hx #[.val (.ref x0), .val (.int x1), .val (.long x2), .second, .val (.int ((((((((((0 : Int32) + (f2 x2 (0 : Int32))) + (f2 x2 (1 : Int32))) + (f2 x2 (2 : Int32))) + (f2 x2 (3 : Int32))) + (f2 x2 (4 : Int32))) + (f2 x2 (5 : Int32))) + (f2 x2 (6 : Int32))) + (f2 x2 (7 : Int32))) + (f2 x2 (8 : Int32))))] 232 (hb hby d9_230) rfl rfl ?_
              show Go p e below s _ _ _ (T49.setTop (mkF m 232 #[.val (.ref x0), .val (.int x1), .val (.long x2), .second, .val (.int ((((((((((0 : Int32) + (f2 x2 (0 : Int32))) + (f2 x2 (1 : Int32))) + (f2 x2 (2 : Int32))) + (f2 x2 (3 : Int32))) + (f2 x2 (4 : Int32))) + (f2 x2 (5 : Int32))) + (f2 x2 (6 : Int32))) + (f2 x2 (7 : Int32))) + (f2 x2 (8 : Int32))))] []))
              refine g_bipush X49 hx (8 : Int32) 234 (hb hby d9_232) rfl rfl ?_
              show Go p e below s _ _ _ (T49.setTop (mkF m 234 #[.val (.ref x0), .val (.int x1), .val (.long x2), .second, .val (.int ((((((((((0 : Int32) + (f2 x2 (0 : Int32))) + (f2 x2 (1 : Int32))) + (f2 x2 (2 : Int32))) + (f2 x2 (3 : Int32))) + (f2 x2 (4 : Int32))) + (f2 x2 (5 : Int32))) + (f2 x2 (6 : Int32))) + (f2 x2 (7 : Int32))) + (f2 x2 (8 : Int32))))] [(.int (8 : Int32))]))
              refine g_iloadN X49 hx 235 (hb hby d9_234) rfl rfl ?_
              show Go p e below s _ _ _ (T49.setTop (mkF m 235 #[.val (.ref x0), .val (.int x1), .val (.long x2), .second, .val (.int ((((((((((0 : Int32) + (f2 x2 (0 : Int32))) + (f2 x2 (1 : Int32))) + (f2 x2 (2 : Int32))) + (f2 x2 (3 : Int32))) + (f2 x2 (4 : Int32))) + (f2 x2 (5 : Int32))) + (f2 x2 (6 : Int32))) + (f2 x2 (7 : Int32))) + (f2 x2 (8 : Int32))))] [(.int x1), (.int (8 : Int32))]))
              have h50 : ¬ ((8 : Int32) < x1) := fun q => h24 (Int32.lt_trans (by decide) q)
              refine g_icmp_ge X49 hx 249 238 (hb hby d9_235) (by decide) rfl rfl (fun q => absurd q h50) (fun _ => ?_)
              show Go p e below s _ _ _ (T49.setTop (mkF m 249 #[.val (.ref x0), .val (.int x1), .val (.long x2), .second, .val (.int ((((((((((0 : Int32) + (f2 x2 (0 : Int32))) + (f2 x2 (1 : Int32))) + (f2 x2 (2 : Int32))) + (f2 x2 (3 : Int32))) + (f2 x2 (4 : Int32))) + (f2 x2 (5 : Int32))) + (f2 x2 (6 : Int32))) + (f2 x2 (7 : Int32))) + (f2 x2 (8 : Int32))))] []))
              refine g_iconst X49 hx (1 : Int32) 250 (hb hby d9_249) rfl rfl ?_
              show Go p e below s _ _ _ (T49.setTop (mkF m 250 #[.val (.ref x0), .val (.int x1), .val (.long x2), .second, .val (.int ((((((((((0 : Int32) + (f2 x2 (0 : Int32))) + (f2 x2 (1 : Int32))) + (f2 x2 (2 : Int32))) + (f2 x2 (3 : Int32))) + (f2 x2 (4 : Int32))) + (f2 x2 (5 : Int32))) + (f2 x2 (6 : Int32))) + (f2 x2 (7 : Int32))) + (f2 x2 (8 : Int32))))] [(.int (1 : Int32))]))
              exact g_retN X49 hx hret (by simp) hlk (hb hby d9_250) (by decide) (by decide) ⟨rfl, rfl, e49⟩
          · show Go p e below s _ _ _ (T19.setTop (mkF m 140 #[.val (.ref x0), .val (.int x1), .val (.long x2), .second, .val (.int ((((((0 : Int32) + (f2 x2 (0 : Int32))) + (f2 x2 (1 : Int32))) + (f2 x2 (2 : Int32))) + (f2 x2 (3 : Int32))) + (f2 x2 (4 : Int32))))] []))
            refine g_iload X19 hx 142 (hb hby d9_140) rfl rfl ?_
            show Go p e below s _ _ _ (T19.setTop (mkF m 142 #[.val (.ref x0), .val (.int x1), .val (.long x2), .second, .val (.int ((((((0 : Int32) + (f2 x2 (0 : Int32))) + (f2 x2 (1 : Int32))) + (f2 x2 (2 : Int32))) + (f2 x2 (3 : Int32))) + (f2 x2 (4 : Int32))))] [(.int ((((((0 : Int32) + (f2 x2 (0 : Int32))) + (f2 x2 (1 : Int32))) + (f2 x2 (2 : Int32))) + (f2 x2 (3 : Int32))) + (f2 x2 (4 : Int32))))]))
            refine g_lloadN X19 hx 143 (hb hby d9_142) rfl rfl ?_
            show Go p e below s _ _ _ (T19.setTop (mkF m 143 #[.val (.ref x0), .val (.int x1), .val (.long x2), .second, .val (.int ((((((0 : Int32) + (f2 x2 (0 : Int32))) + (f2 x2 (1 : Int32))) + (f2 x2 (2 : Int32))) + (f2 x2 (3 : Int32))) + (f2 x2 (4 : Int32))))] [(.long x2), (.int ((((((0 : Int32) + (f2 x2 (0 : Int32))) + (f2 x2 (1 : Int32))) + (f2 x2 (2 : Int32))) + (f2 x2 (3 : Int32))) + (f2 x2 (4 : Int32))))]))
            refine g_iconst X19 hx (5 : Int32) 144 (hb hby d9_143) rfl rfl ?_
            show Go p e below s _ _ _ (T19.setTop (mkF m 144 #[.val (.ref x0), .val (.int x1), .val (.long x2), .second, .val (.int ((((((0 : Int32) + (f2 x2 (0 : Int32))) + (f2 x2 (1 : Int32))) + (f2 x2 (2 : Int32))) + (f2 x2 (3 : Int32))) + (f2 x2 (4 : Int32))))] [(.int (5 : Int32)), (.long x2), (.int ((((((0 : Int32) + (f2 x2 (0 : Int32))) + (f2 x2 (1 : Int32))) + (f2 x2 (2 : Int32))) + (f2 x2 (3 : Int32))) + (f2 x2 (4 : Int32))))]))
            refine g_callS X19 hx hZ hown (hw _ (List.mem_of_getElem? (i := 6) rfl)) (hw _ (List.mem_of_getElem? (i := 7) rfl)) (hw _ (List.mem_of_getElem? (i := 4) rfl)) (hw _ (List.mem_of_getElem? (i := 8) rfl)) (by decide) e19 (rm2 l Z a0 hw [] x2 (5 : Int32) h0) [(.long x2), (.int (5 : Int32))] [(.int ((((((0 : Int32) + (f2 x2 (0 : Int32))) + (f2 x2 (1 : Int32))) + (f2 x2 (2 : Int32))) + (f2 x2 (3 : Int32))) + (f2 x2 (4 : Int32))))] 1 rfl (lenOf pd__28JI_29I rfl) rfl (Nat.le_of_eq rfl) (by decide) (by decide) (by decide) (by decide) (by rw [hml]; rfl) (hb hby d9_144) ?_
            intro T51 L51 v51 X51 q51
            obtain ⟨rfl, rfl, e51⟩ := q51
            show Go p e below s _ _ _ (T51.setTop (mkF m 147 #[.val (.ref x0), .val (.int x1), .val (.long x2), .second, .val (.int ((((((0 : Int32) + (f2 x2 (0 : Int32))) + (f2 x2 (1 : Int32))) + (f2 x2 (2 : Int32))) + (f2 x2 (3 : Int32))) + (f2 x2 (4 : Int32))))] [(.int (f2 x2 (5 : Int32))), (.int ((((((0 : Int32) + (f2 x2 (0 : Int32))) + (f2 x2 (1 : Int32))) + (f2 x2 (2 : Int32))) + (f2 x2 (3 : Int32))) + (f2 x2 (4 : Int32))))]))
            refine g_iadd X51 hx 148 (hb hby d9_147) rfl ?_
            show Go p e below s _ _ _ (T51.setTop (mkF m 148 #[.val (.ref x0), .val (.int x1), .val (.long x2), .second, .val (.int ((((((0 : Int32) + (f2 x2 (0 : Int32))) + (f2 x2 (1 : Int32))) + (f2 x2 (2 : Int32))) + (f2 x2 (3 : Int32))) + (f2 x2 (4 : Int32))))] [(.int (((((((0 : Int32) + (f2 x2 (0 : Int32))) + (f2 x2 (1 : Int32))) + (f2 x2 (2 : Int32))) + (f2 x2 (3 : Int32))) + (f2 x2 (4 : Int32))) + (f2 x2 (5 : Int32))))]))
            refine g_istore X51 hx #[.val (.ref x0), .val (.int x1), .val (.long x2), .second, .val (.int (((((((0 : Int32) + (f2 x2 (0 : Int32))) + (f2 x2 (1 : Int32))) + (f2 x2 (2 : Int32))) + (f2 x2 (3 : Int32))) + (f2 x2 (4 : Int32))) + (f2 x2 (5 : Int32))))] 150 (hb hby d9_148) rfl rfl ?_
            show Go p e below s _ _ _ (T51.setTop (mkF m 150 #[.val (.ref x0), .val (.int x1), .val (.long x2), .second, .val (.int (((((((0 : Int32) + (f2 x2 (0 : Int32))) + (f2 x2 (1 : Int32))) + (f2 x2 (2 : Int32))) + (f2 x2 (3 : Int32))) + (f2 x2 (4 : Int32))) + (f2 x2 (5 : Int32))))] []))
            refine g_iconst X51 hx (5 : Int32) 151 (hb hby d9_150) rfl rfl ?_
            show Go p e below s _ _ _ (T51.setTop (mkF m 151 #[.val (.ref x0), .val (.int x1), .val (.long x2), .second, .val (.int (((((((0 : Int32) + (f2 x2 (0 : Int32))) + (f2 x2 (1 : Int32))) + (f2 x2 (2 : Int32))) + (f2 x2 (3 : Int32))) + (f2 x2 (4 : Int32))) + (f2 x2 (5 : Int32))))] [(.int (5 : Int32))]))
            refine g_iloadN X51 hx 152 (hb hby d9_151) rfl rfl ?_
            show Go p e below s _ _ _ (T51.setTop (mkF m 152 #[.val (.ref x0), .val (.int x1), .val (.long x2), .second, .val (.int (((((((0 : Int32) + (f2 x2 (0 : Int32))) + (f2 x2 (1 : Int32))) + (f2 x2 (2 : Int32))) + (f2 x2 (3 : Int32))) + (f2 x2 (4 : Int32))) + (f2 x2 (5 : Int32))))] [(.int x1), (.int (5 : Int32))]))
            have h52 : ¬ ((5 : Int32) < x1) := fun q => h20 (Int32.lt_trans (by decide) q)
            refine g_icmp_ge X51 hx 165 155 (hb hby d9_152) (by decide) rfl rfl (fun q => absurd q h52) (fun _ => ?_)
            show Go p e below s _ _ _ (T51.setTop (mkF m 165 #[.val (.ref x0), .val (.int x1), .val (.long x2), .second, .val (.int (((((((0 : Int32) + (f2 x2 (0 : Int32))) + (f2 x2 (1 : Int32))) + (f2 x2 (2 : Int32))) + (f2 x2 (3 : Int32))) + (f2 x2 (4 : Int32))) + (f2 x2 (5 : Int32))))] []))
            refine g_iload X51 hx 167 (hb hby d9_165) rfl rfl ?_
            show Go p e below s _ _ _ (T51.setTop (mkF m 167 #[.val (.ref x0), .val (.int x1), .val (.long x2), .second, .val (.int (((((((0 : Int32) + (f2 x2 (0 : Int32))) + (f2 x2 (1 : Int32))) + (f2 x2 (2 : Int32))) + (f2 x2 (3 : Int32))) + (f2 x2 (4 : Int32))) + (f2 x2 (5 : Int32))))] [(.int (((((((0 : Int32) + (f2 x2 (0 : Int32))) + (f2 x2 (1 : Int32))) + (f2 x2 (2 : Int32))) + (f2 x2 (3 : Int32))) + (f2 x2 (4 : Int32))) + (f2 x2 (5 : Int32))))]))
            refine g_lloadN X51 hx 168 (hb hby d9_167) rfl rfl ?_
            show Go p e below s _ _ _ (T51.setTop (mkF m 168 #[.val (.ref x0), .val (.int x1), .val (.long x2), .second, .val (.int (((((((0 : Int32) + (f2 x2 (0 : Int32))) + (f2 x2 (1 : Int32))) + (f2 x2 (2 : Int32))) + (f2 x2 (3 : Int32))) + (f2 x2 (4 : Int32))) + (f2 x2 (5 : Int32))))] [(.long x2), (.int (((((((0 : Int32) + (f2 x2 (0 : Int32))) + (f2 x2 (1 : Int32))) + (f2 x2 (2 : Int32))) + (f2 x2 (3 : Int32))) + (f2 x2 (4 : Int32))) + (f2 x2 (5 : Int32))))]))
            refine g_bipush X51 hx (6 : Int32) 170 (hb hby d9_168) rfl rfl ?_
            show Go p e below s _ _ _ (T51.setTop (mkF m 170 #[.val (.ref x0), .val (.int x1), .val (.long x2), .second, .val (.int (((((((0 : Int32) + (f2 x2 (0 : Int32))) + (f2 x2 (1 : Int32))) + (f2 x2 (2 : Int32))) + (f2 x2 (3 : Int32))) + (f2 x2 (4 : Int32))) + (f2 x2 (5 : Int32))))] [(.int (6 : Int32)), (.long x2), (.int (((((((0 : Int32) + (f2 x2 (0 : Int32))) + (f2 x2 (1 : Int32))) + (f2 x2 (2 : Int32))) + (f2 x2 (3 : Int32))) + (f2 x2 (4 : Int32))) + (f2 x2 (5 : Int32))))]))
            refine g_callS X51 hx hZ hown (hw _ (List.mem_of_getElem? (i := 6) rfl)) (hw _ (List.mem_of_getElem? (i := 7) rfl)) (hw _ (List.mem_of_getElem? (i := 4) rfl)) (hw _ (List.mem_of_getElem? (i := 8) rfl)) (by decide) e51 (rm2 l Z a0 hw [] x2 (6 : Int32) h0) [(.long x2), (.int (6 : Int32))] [(.int (((((((0 : Int32) + (f2 x2 (0 : Int32))) + (f2 x2 (1 : Int32))) + (f2 x2 (2 : Int32))) + (f2 x2 (3 : Int32))) + (f2 x2 (4 : Int32))) + (f2 x2 (5 : Int32))))] 1 rfl (lenOf pd__28JI_29I rfl) rfl (Nat.le_of_eq rfl) (by decide) (by decide) (by decide) (by decide) (by rw [hml]; rfl) (hb hby d9_170) ?_
            intro T53 L53 v53 X53 q53
            obtain ⟨rfl, rfl, e53⟩ := q53
            show Go p e below s _ _ _ (T53.setTop (mkF m 173 #[.val (.ref x0), .val (.int x1), .val (.long x2), .second, .val (.int (((((((0 : Int32) + (f2 x2 (0 : Int32))) + (f2 x2 (1 : Int32))) + (f2 x2 (2 : Int32))) + (f2 x2 (3 : Int32))) + (f2 x2 (4 : Int32))) + (f2 x2 (5 : Int32))))] [(.int (f2 x2 (6 : Int32))), (.int (((((((0 : Int32) + (f2 x2 (0 : Int32))) + (f2 x2 (1 : Int32))) + (f2 x2 (2 : Int32))) + (f2 x2 (3 : Int32))) + (f2 x2 (4 : Int32))) + (f2 x2 (5 : Int32))))]))
            refine g_iadd X53 hx 174 (hb hby d9_173) rfl ?_
            show Go p e below s _ _ _ (T53.setTop (mkF m 174 #[.val (.ref x0), .val (.int x1), .val (.long x2), .second, .val (.int (((((((0 : Int32) + (f2 x2 (0 : Int32))) + (f2 x2 (1 : Int32))) + (f2 x2 (2 : Int32))) + (f2 x2 (3 : Int32))) + (f2 x2 (4 : Int32))) + (f2 x2 (5 : Int32))))] [(.int ((((((((0 : Int32) + (f2 x2 (0 : Int32))) + (f2 x2 (1 : Int32))) + (f2 x2 (2 : Int32))) + (f2 x2 (3 : Int32))) + (f2 x2 (4 : Int32))) + (f2 x2 (5 : Int32))) + (f2 x2 (6 : Int32))))]))
            refine g_istore X53 hx #[.val (.ref x0), .val (.int x1), .val (.long x2), .second, .val (.int ((((((((0 : Int32) + (f2 x2 (0 : Int32))) + (f2 x2 (1 : Int32))) + (f2 x2 (2 : Int32))) + (f2 x2 (3 : Int32))) + (f2 x2 (4 : Int32))) + (f2 x2 (5 : Int32))) + (f2 x2 (6 : Int32))))] 176 (hb hby d9_174) rfl rfl ?_
            show Go p e below s _ _ _ (T53.setTop (mkF m 176 #[.val (.ref x0), .val (.int x1), .val (.long x2), .second, .val (.int ((((((((0 : Int32) + (f2 x2 (0 : Int32))) + (f2 x2 (1 : Int32))) + (f2 x2 (2 : Int32))) + (f2 x2 (3 : Int32))) + (f2 x2 (4 : Int32))) + (f2 x2 (5 : Int32))) + (f2 x2 (6 : Int32))))] []))
            refine g_bipush X53 hx (6 : Int32) 178 (hb hby d9_176) rfl rfl ?_
            show Go p e below s _ _ _ (T53.setTop (mkF m 178 #[.val (.ref x0), .val (.int x1), .val (.long x2), .second, .val (.int ((((((((0 : Int32) + (f2 x2 (0 : Int32))) + (f2 x2 (1 : Int32))) + (f2 x2 (2 : Int32))) + (f2 x2 (3 : Int32))) + (f2 x2 (4 : Int32))) + (f2 x2 (5 : Int32))) + (f2 x2 (6 : Int32))))] [(.int (6 : Int32))]))
            refine g_iloadN X53 hx 179 (hb hby d9_178) rfl rfl ?_
            show Go p e below s _ _ _ (T53.setTop (mkF m 179 #[.val (.ref x0), .val (.int x1), .val (.long x2), .second, .val (.int ((((((((0 : Int32) + (f2 x2 (0 : Int32))) + (f2 x2 (1 : Int32))) + (f2 x2 (2 : Int32))) + (f2 x2 (3 : Int32))) + (f2 x2 (4 : Int32))) + (f2 x2 (5 : Int32))) + (f2 x2 (6 : Int32))))] [(.int x1), (.int (6 : Int32))]))
            have h54 : ¬ ((6 : Int32) < x1) := fun q => h20 (Int32.lt_trans (by decide) q)
            refine g_icmp_ge X53 hx 193 182 (hb hby d9_179) (by decide) rfl rfl (fun q => absurd q h54) (fun _ => ?_)
            show Go p e below s _ _ _ (T53.setTop (mkF m 193 #[.val (.ref x0), .val (.int x1), .val (.long x2), .second, .val (.int ((((((((0 : Int32) + (f2 x2 (0 : Int32))) + (f2 x2 (1 : Int32))) + (f2 x2 (2 : Int32))) + (f2 x2 (3 : Int32))) + (f2 x2 (4 : Int32))) + (f2 x2 (5 : Int32))) + (f2 x2 (6 : Int32))))] []))
            refine g_iload X53 hx 195 (hb hby d9_193) rfl rfl ?_
            show Go p e below s _ _ _ (T53.setTop (mkF m 195 #[.val (.ref x0), .val (.int x1), .val (.long x2), .second, .val (.int ((((((((0 : Int32) + (f2 x2 (0 : Int32))) + (f2 x2 (1 : Int32))) + (f2 x2 (2 : Int32))) + (f2 x2 (3 : Int32))) + (f2 x2 (4 : Int32))) + (f2 x2 (5 : Int32))) + (f2 x2 (6 : Int32))))] [(.int ((((((((0 : Int32) + (f2 x2 (0 : Int32))) + (f2 x2 (1 : Int32))) + (f2 x2 (2 : Int32))) + (f2 x2 (3 : Int32))) + (f2 x2 (4 : Int32))) + (f2 x2 (5 : Int32))) + (f2 x2 (6 : Int32))))]))
            refine g_lloadN X53 hx 196 (hb hby d9_195) rfl rfl ?_
            show Go p e below s _ _ _ (T53.setTop (mkF m 196 #[.val (.ref x0), .val (.int x1), .val (.long x2), .second, .val (.int ((((((((0 : Int32) + (f2 x2 (0 : Int32))) + (f2 x2 (1 : Int32))) + (f2 x2 (2 : Int32))) + (f2 x2 (3 : Int32))) + (f2 x2 (4 : Int32))) + (f2 x2 (5 : Int32))) + (f2 x2 (6 : Int32))))] [(.long x2), (.int ((((((((0 : Int32) + (f2 x2 (0 : Int32))) + (f2 x2 (1 : Int32))) + (f2 x2 (2 : Int32))) + (f2 x2 (3 : Int32))) + (f2 x2 (4 : Int32))) + (f2 x2 (5 : Int32))) + (f2 x2 (6 : Int32))))]))
            refine g_bipush X53 hx (7 : Int32) 198 (hb hby d9_196) rfl rfl ?_
            show Go p e below s _ _ _ (T53.setTop (mkF m 198 #[.val (.ref x0), .val (.int x1), .val (.long x2), .second, .val (.int ((((((((0 : Int32) + (f2 x2 (0 : Int32))) + (f2 x2 (1 : Int32))) + (f2 x2 (2 : Int32))) + (f2 x2 (3 : Int32))) + (f2 x2 (4 : Int32))) + (f2 x2 (5 : Int32))) + (f2 x2 (6 : Int32))))] [(.int (7 : Int32)), (.long x2), (.int ((((((((0 : Int32) + (f2 x2 (0 : Int32))) + (f2 x2 (1 : Int32))) + (f2 x2 (2 : Int32))) + (f2 x2 (3 : Int32))) + (f2 x2 (4 : Int32))) + (f2 x2 (5 : Int32))) + (f2 x2 (6 : Int32))))]))
            refine g_callS X53 hx hZ hown (hw _ (List.mem_of_getElem? (i := 6) rfl)) (hw _ (List.mem_of_getElem? (i := 7) rfl)) (hw _ (List.mem_of_getElem? (i := 4) rfl)) (hw _ (List.mem_of_getElem? (i := 8) rfl)) (by decide) e53 (rm2 l Z a0 hw [] x2 (7 : Int32) h0) [(.long x2), (.int (7 : Int32))] [(.int ((((((((0 : Int32) + (f2 x2 (0 : Int32))) + (f2 x2 (1 : Int32))) + (f2 x2 (2 : Int32))) + (f2 x2 (3 : Int32))) + (f2 x2 (4 : Int32))) + (f2 x2 (5 : Int32))) + (f2 x2 (6 : Int32))))] 1 rfl (lenOf pd__28JI_29I rfl) rfl (Nat.le_of_eq rfl) (by decide) (by decide) (by decide) (by decide) (by rw [hml]; rfl) (hb hby d9_198) ?_
            intro T55 L55 v55 X55 q55
            obtain ⟨rfl, rfl, e55⟩ := q55
            show Go p e below s _ _ _ (T55.setTop (mkF m 201 #[.val (.ref x0), .val (.int x1), .val (.long x2), .second, .val (.int ((((((((0 : Int32) + (f2 x2 (0 : Int32))) + (f2 x2 (1 : Int32))) + (f2 x2 (2 : Int32))) + (f2 x2 (3 : Int32))) + (f2 x2 (4 : Int32))) + (f2 x2 (5 : Int32))) + (f2 x2 (6 : Int32))))] [(.int (f2 x2 (7 : Int32))), (.int ((((((((0 : Int32) + (f2 x2 (0 : Int32))) + (f2 x2 (1 : Int32))) + (f2 x2 (2 : Int32))) + (f2 x2 (3 : Int32))) + (f2 x2 (4 : Int32))) + (f2 x2 (5 : Int32))) + (f2 x2 (6 : Int32))))]))
            refine g_iadd X55 hx 202 (hb hby d9_201) rfl ?_
            show Go p e below s _ _ _ (T55.setTop (mkF m 202 #[.val (.ref x0), .val (.int x1), .val (.long x2), .second, .val (.int ((((((((0 : Int32) + (f2 x2 (0 : Int32))) + (f2 x2 (1 : Int32))) + (f2 x2 (2 : Int32))) + (f2 x2 (3 : Int32))) + (f2 x2 (4 : Int32))) + (f2 x2 (5 : Int32))) + (f2 x2 (6 : Int32))))] [(.int (((((((((0 : Int32) + (f2 x2 (0 : Int32))) + (f2 x2 (1 : Int32))) + (f2 x2 (2 : Int32))) + (f2 x2 (3 : Int32))) + (f2 x2 (4 : Int32))) + (f2 x2 (5 : Int32))) + (f2 x2 (6 : Int32))) + (f2 x2 (7 : Int32))))]))
            refine g_istore X55 hx #[.val (.ref x0), .val (.int x1), .val (.long x2), .second, .val (.int (((((((((0 : Int32) + (f2 x2 (0 : Int32))) + (f2 x2 (1 : Int32))) + (f2 x2 (2 : Int32))) + (f2 x2 (3 : Int32))) + (f2 x2 (4 : Int32))) + (f2 x2 (5 : Int32))) + (f2 x2 (6 : Int32))) + (f2 x2 (7 : Int32))))] 204 (hb hby d9_202) rfl rfl ?_
            show Go p e below s _ _ _ (T55.setTop (mkF m 204 #[.val (.ref x0), .val (.int x1), .val (.long x2), .second, .val (.int (((((((((0 : Int32) + (f2 x2 (0 : Int32))) + (f2 x2 (1 : Int32))) + (f2 x2 (2 : Int32))) + (f2 x2 (3 : Int32))) + (f2 x2 (4 : Int32))) + (f2 x2 (5 : Int32))) + (f2 x2 (6 : Int32))) + (f2 x2 (7 : Int32))))] []))
            refine g_bipush X55 hx (7 : Int32) 206 (hb hby d9_204) rfl rfl ?_
            show Go p e below s _ _ _ (T55.setTop (mkF m 206 #[.val (.ref x0), .val (.int x1), .val (.long x2), .second, .val (.int (((((((((0 : Int32) + (f2 x2 (0 : Int32))) + (f2 x2 (1 : Int32))) + (f2 x2 (2 : Int32))) + (f2 x2 (3 : Int32))) + (f2 x2 (4 : Int32))) + (f2 x2 (5 : Int32))) + (f2 x2 (6 : Int32))) + (f2 x2 (7 : Int32))))] [(.int (7 : Int32))]))
            refine g_iloadN X55 hx 207 (hb hby d9_206) rfl rfl ?_
            show Go p e below s _ _ _ (T55.setTop (mkF m 207 #[.val (.ref x0), .val (.int x1), .val (.long x2), .second, .val (.int (((((((((0 : Int32) + (f2 x2 (0 : Int32))) + (f2 x2 (1 : Int32))) + (f2 x2 (2 : Int32))) + (f2 x2 (3 : Int32))) + (f2 x2 (4 : Int32))) + (f2 x2 (5 : Int32))) + (f2 x2 (6 : Int32))) + (f2 x2 (7 : Int32))))] [(.int x1), (.int (7 : Int32))]))
            have h56 : ¬ ((7 : Int32) < x1) := fun q => h20 (Int32.lt_trans (by decide) q)
            refine g_icmp_ge X55 hx 221 210 (hb hby d9_207) (by decide) rfl rfl (fun q => absurd q h56) (fun _ => ?_)
            show Go p e below s _ _ _ (T55.setTop (mkF m 221 #[.val (.ref x0), .val (.int x1), .val (.long x2), .second, .val (.int (((((((((0 : Int32) + (f2 x2 (0 : Int32))) + (f2 x2 (1 : Int32))) + (f2 x2 (2 : Int32))) + (f2 x2 (3 : Int32))) + (f2 x2 (4 : Int32))) + (f2 x2 (5 : Int32))) + (f2 x2 (6 : Int32))) + (f2 x2 (7 : Int32))))] []))
            refine g_iload X55 hx 223 (hb hby d9_221) rfl rfl ?_
            show Go p e below s _ _ _ (T55.setTop (mkF m 223 #[.val (.ref x0), .val (.int x1), .val (.long x2), .second, .val (.int (((((((((0 : Int32) + (f2 x2 (0 : Int32))) + (f2 x2 (1 : Int32))) + (f2 x2 (2 : Int32))) + (f2 x2 (3 : Int32))) + (f2 x2 (4 : Int32))) + (f2 x2 (5 : Int32))) + (f2 x2 (6 : Int32))) + (f2 x2 (7 : Int32))))] [(.int (((((((((0 : Int32) + (f2 x2 (0 : Int32))) + (f2 x2 (1 : Int32))) + (f2 x2 (2 : Int32))) + (f2 x2 (3 : Int32))) + (f2 x2 (4 : Int32))) + (f2 x2 (5 : Int32))) + (f2 x2 (6 : Int32))) + (f2 x2 (7 : Int32))))]))
            refine g_lloadN X55 hx 224 (hb hby d9_223) rfl rfl ?_
            show Go p e below s _ _ _ (T55.setTop (mkF m 224 #[.val (.ref x0), .val (.int x1), .val (.long x2), .second, .val (.int (((((((((0 : Int32) + (f2 x2 (0 : Int32))) + (f2 x2 (1 : Int32))) + (f2 x2 (2 : Int32))) + (f2 x2 (3 : Int32))) + (f2 x2 (4 : Int32))) + (f2 x2 (5 : Int32))) + (f2 x2 (6 : Int32))) + (f2 x2 (7 : Int32))))] [(.long x2), (.int (((((((((0 : Int32) + (f2 x2 (0 : Int32))) + (f2 x2 (1 : Int32))) + (f2 x2 (2 : Int32))) + (f2 x2 (3 : Int32))) + (f2 x2 (4 : Int32))) + (f2 x2 (5 : Int32))) + (f2 x2 (6 : Int32))) + (f2 x2 (7 : Int32))))]))
            refine g_bipush X55 hx (8 : Int32) 226 (hb hby d9_224) rfl rfl ?_
            show Go p e below s _ _ _ (T55.setTop (mkF m 226 #[.val (.ref x0), .val (.int x1), .val (.long x2), .second, .val (.int (((((((((0 : Int32) + (f2 x2 (0 : Int32))) + (f2 x2 (1 : Int32))) + (f2 x2 (2 : Int32))) + (f2 x2 (3 : Int32))) + (f2 x2 (4 : Int32))) + (f2 x2 (5 : Int32))) + (f2 x2 (6 : Int32))) + (f2 x2 (7 : Int32))))] [(.int (8 : Int32)), (.long x2), (.int (((((((((0 : Int32) + (f2 x2 (0 : Int32))) + (f2 x2 (1 : Int32))) + (f2 x2 (2 : Int32))) + (f2 x2 (3 : Int32))) + (f2 x2 (4 : Int32))) + (f2 x2 (5 : Int32))) + (f2 x2 (6 : Int32))) + (f2 x2 (7 : Int32))))]))
            refine g_callS X55 hx hZ hown (hw _ (List.mem_of_getElem? (i := 6) rfl)) (hw _ (List.mem_of_getElem? (i := 7) rfl)) (hw _ (List.mem_of_getElem? (i := 4) rfl)) (hw _ (List.mem_of_getElem? (i := 8) rfl)) (by decide) e55 (rm2 l Z a0 hw [] x2 (8 : Int32) h0) [(.long x2), (.int (8 : Int32))] [(.int (((((((((0 : Int32) + (f2 x2 (0 : Int32))) + (f2 x2 (1 : Int32))) + (f2 x2 (2 : Int32))) + (f2 x2 (3 : Int32))) + (f2 x2 (4 : Int32))) + (f2 x2 (5 : Int32))) + (f2 x2 (6 : Int32))) + (f2 x2 (7 : Int32))))] 1 rfl (lenOf pd__28JI_29I rfl) rfl (Nat.le_of_eq rfl) (by decide) (by decide) (by decide) (by decide) (by rw [hml]; rfl) (hb hby d9_226) ?_
            intro T57 L57 v57 X57 q57
            obtain ⟨rfl, rfl, e57⟩ := q57
            show Go p e below s _ _ _ (T57.setTop (mkF m 229 #[.val (.ref x0), .val (.int x1), .val (.long x2), .second, .val (.int (((((((((0 : Int32) + (f2 x2 (0 : Int32))) + (f2 x2 (1 : Int32))) + (f2 x2 (2 : Int32))) + (f2 x2 (3 : Int32))) + (f2 x2 (4 : Int32))) + (f2 x2 (5 : Int32))) + (f2 x2 (6 : Int32))) + (f2 x2 (7 : Int32))))] [(.int (f2 x2 (8 : Int32))), (.int (((((((((0 : Int32) + (f2 x2 (0 : Int32))) + (f2 x2 (1 : Int32))) + (f2 x2 (2 : Int32))) + (f2 x2 (3 : Int32))) + (f2 x2 (4 : Int32))) + (f2 x2 (5 : Int32))) + (f2 x2 (6 : Int32))) + (f2 x2 (7 : Int32))))]))
            refine g_iadd X57 hx 230 (hb hby d9_229) rfl ?_
            show Go p e below s _ _ _ (T57.setTop (mkF m 230 #[.val (.ref x0), .val (.int x1), .val (.long x2), .second, .val (.int (((((((((0 : Int32) + (f2 x2 (0 : Int32))) + (f2 x2 (1 : Int32))) + (f2 x2 (2 : Int32))) + (f2 x2 (3 : Int32))) + (f2 x2 (4 : Int32))) + (f2 x2 (5 : Int32))) + (f2 x2 (6 : Int32))) + (f2 x2 (7 : Int32))))] [(.int ((((((((((0 : Int32) + (f2 x2 (0 : Int32))) + (f2 x2 (1 : Int32))) + (f2 x2 (2 : Int32))) + (f2 x2 (3 : Int32))) + (f2 x2 (4 : Int32))) + (f2 x2 (5 : Int32))) + (f2 x2 (6 : Int32))) + (f2 x2 (7 : Int32))) + (f2 x2 (8 : Int32))))]))
            refine g_istore X57 hx #[.val (.ref x0), .val (.int x1), .val (.long x2), .second, .val (.int ((((((((((0 : Int32) + (f2 x2 (0 : Int32))) + (f2 x2 (1 : Int32))) + (f2 x2 (2 : Int32))) + (f2 x2 (3 : Int32))) + (f2 x2 (4 : Int32))) + (f2 x2 (5 : Int32))) + (f2 x2 (6 : Int32))) + (f2 x2 (7 : Int32))) + (f2 x2 (8 : Int32))))] 232 (hb hby d9_230) rfl rfl ?_
            show Go p e below s _ _ _ (T57.setTop (mkF m 232 #[.val (.ref x0), .val (.int x1), .val (.long x2), .second, .val (.int ((((((((((0 : Int32) + (f2 x2 (0 : Int32))) + (f2 x2 (1 : Int32))) + (f2 x2 (2 : Int32))) + (f2 x2 (3 : Int32))) + (f2 x2 (4 : Int32))) + (f2 x2 (5 : Int32))) + (f2 x2 (6 : Int32))) + (f2 x2 (7 : Int32))) + (f2 x2 (8 : Int32))))] []))
            refine g_bipush X57 hx (8 : Int32) 234 (hb hby d9_232) rfl rfl ?_
            show Go p e below s _ _ _ (T57.setTop (mkF m 234 #[.val (.ref x0), .val (.int x1), .val (.long x2), .second, .val (.int ((((((((((0 : Int32) + (f2 x2 (0 : Int32))) + (f2 x2 (1 : Int32))) + (f2 x2 (2 : Int32))) + (f2 x2 (3 : Int32))) + (f2 x2 (4 : Int32))) + (f2 x2 (5 : Int32))) + (f2 x2 (6 : Int32))) + (f2 x2 (7 : Int32))) + (f2 x2 (8 : Int32))))] [(.int (8 : Int32))]))
            refine g_iloadN X57 hx 235 (hb hby d9_234) rfl rfl ?_
            show Go p e below s _ _ _ (T57.setTop (mkF m 235 #[.val (.ref x0), .val (.int x1), .val (.long x2), .second, .val (.int ((((((((((0 : Int32) + (f2 x2 (0 : Int32))) + (f2 x2 (1 : Int32))) + (f2 x2 (2 : Int32))) + (f2 x2 (3 : Int32))) + (f2 x2 (4 : Int32))) + (f2 x2 (5 : Int32))) + (f2 x2 (6 : Int32))) + (f2 x2 (7 : Int32))) + (f2 x2 (8 : Int32))))] [(.int x1), (.int (8 : Int32))]))
            have h58 : ¬ ((8 : Int32) < x1) := fun q => h20 (Int32.lt_trans (by decide) q)
            refine g_icmp_ge X57 hx 249 238 (hb hby d9_235) (by decide) rfl rfl (fun q => absurd q h58) (fun _ => ?_)
            show Go p e below s _ _ _ (T57.setTop (mkF m 249 #[.val (.ref x0), .val (.int x1), .val (.long x2), .second, .val (.int ((((((((((0 : Int32) + (f2 x2 (0 : Int32))) + (f2 x2 (1 : Int32))) + (f2 x2 (2 : Int32))) + (f2 x2 (3 : Int32))) + (f2 x2 (4 : Int32))) + (f2 x2 (5 : Int32))) + (f2 x2 (6 : Int32))) + (f2 x2 (7 : Int32))) + (f2 x2 (8 : Int32))))] []))
            refine g_iconst X57 hx (1 : Int32) 250 (hb hby d9_249) rfl rfl ?_
            show Go p e below s _ _ _ (T57.setTop (mkF m 250 #[.val (.ref x0), .val (.int x1), .val (.long x2), .second, .val (.int ((((((((((0 : Int32) + (f2 x2 (0 : Int32))) + (f2 x2 (1 : Int32))) + (f2 x2 (2 : Int32))) + (f2 x2 (3 : Int32))) + (f2 x2 (4 : Int32))) + (f2 x2 (5 : Int32))) + (f2 x2 (6 : Int32))) + (f2 x2 (7 : Int32))) + (f2 x2 (8 : Int32))))] [(.int (1 : Int32))]))
            exact g_retN X57 hx hret (by simp) hlk (hb hby d9_250) (by decide) (by decide) ⟨rfl, rfl, e57⟩
        · show Go p e below s _ _ _ (T15.setTop (mkF m 115 #[.val (.ref x0), .val (.int x1), .val (.long x2), .second, .val (.int (((((0 : Int32) + (f2 x2 (0 : Int32))) + (f2 x2 (1 : Int32))) + (f2 x2 (2 : Int32))) + (f2 x2 (3 : Int32))))] []))
          refine g_iload X15 hx 117 (hb hby d9_115) rfl rfl ?_
          show Go p e below s _ _ _ (T15.setTop (mkF m 117 #[.val (.ref x0), .val (.int x1), .val (.long x2), .second, .val (.int (((((0 : Int32) + (f2 x2 (0 : Int32))) + (f2 x2 (1 : Int32))) + (f2 x2 (2 : Int32))) + (f2 x2 (3 : Int32))))] [(.int (((((0 : Int32) + (f2 x2 (0 : Int32))) + (f2 x2 (1 : Int32))) + (f2 x2 (2 : Int32))) + (f2 x2 (3 : Int32))))]))
          refine g_lloadN X15 hx 118 (hb hby d9_117) rfl rfl ?_
          show Go p e below s _ _ _ (T15.setTop (mkF m 118 #[.val (.ref x0), .val (.int x1), .val (.long x2), .second, .val (.int (((((0 : Int32) + (f2 x2 (0 : Int32))) + (f2 x2 (1 : Int32))) + (f2 x2 (2 : Int32))) + (f2 x2 (3 : Int32))))] [(.long x2), (.int (((((0 : Int32) + (f2 x2 (0 : Int32))) + (f2 x2 (1 : Int32))) + (f2 x2 (2 : Int32))) + (f2 x2 (3 : Int32))))]))
          refine g_iconst X15 hx (4 : Int32) 119 (hb hby d9_118) rfl rfl ?_
          show Go p e below s _ _ _ (T15.setTop (mkF m 119 #[.val (.ref x0), .val (.int x1), .val (.long x2), .second, .val (.int (((((0 : Int32) + (f2 x2 (0 : Int32))) + (f2 x2 (1 : Int32))) + (f2 x2 (2 : Int32))) + (f2 x2 (3 : Int32))))] [(.int (4 : Int32)), (.long x2), (.int (((((0 : Int32) + (f2 x2 (0 : Int32))) + (f2 x2 (1 : Int32))) + (f2 x2 (2 : Int32))) + (f2 x2 (3 : Int32))))]))
          refine g_callS X15 hx hZ hown (hw _ (List.mem_of_getElem? (i := 6) rfl)) (hw _ (List.mem_of_getElem? (i := 7) rfl)) (hw _ (List.mem_of_getElem? (i := 4) rfl)) (hw _ (List.mem_of_getElem? (i := 8) rfl)) (by decide) e15 (rm2 l Z a0 hw [] x2 (4 : Int32) h0) [(.long x2), (.int (4 : Int32))] [(.int (((((0 : Int32) + (f2 x2 (0 : Int32))) + (f2 x2 (1 : Int32))) + (f2 x2 (2 : Int32))) + (f2 x2 (3 : Int32))))] 1 rfl (lenOf pd__28JI_29I rfl) rfl (Nat.le_of_eq rfl) (by decide) (by decide) (by decide) (by decide) (by rw [hml]; rfl) (hb hby d9_119) ?_
          intro T59 L59 v59 X59 q59
          obtain ⟨rfl, rfl, e59⟩ := q59
          show Go p e below s _ _ _ (T59.setTop (mkF m 122 #[.val (.ref x0), .val (.int x1), .val (.long x2), .second, .val (.int (((((0 : Int32) + (f2 x2 (0 : Int32))) + (f2 x2 (1 : Int32))) + (f2 x2 (2 : Int32))) + (f2 x2 (3 : Int32))))] [(.int (f2 x2 (4 : Int32))), (.int (((((0 : Int32) + (f2 x2 (0 : Int32))) + (f2 x2 (1 : Int32))) + (f2 x2 (2 : Int32))) + (f2 x2 (3 : Int32))))]))
          refine g_iadd X59 hx 123 (hb hby d9_122) rfl ?_
          show Go p e below s _ _ _ (T59.setTop (mkF m 123 #[.val (.ref x0), .val (.int x1), .val (.long x2), .second, .val (.int (((((0 : Int32) + (f2 x2 (0 : Int32))) + (f2 x2 (1 : Int32))) + (f2 x2 (2 : Int32))) + (f2 x2 (3 : Int32))))] [(.int ((((((0 : Int32) + (f2 x2 (0 : Int32))) + (f2 x2 (1 : Int32))) + (f2 x2 (2 : Int32))) + (f2 x2 (3 : Int32))) + (f2 x2 (4 : Int32))))]))
          refine g_istore X59 hx #[.val (.ref x0), .val (.int x1), .val (.long x2), .second, .val (.int ((((((0 : Int32) + (f2 x2 (0 : Int32))) + (f2 x2 (1 : Int32))) + (f2 x2 (2 : Int32))) + (f2 x2 (3 : Int32))) + (f2 x2 (4 : Int32))))] 125 (hb hby d9_123) rfl rfl ?_
          show Go p e below s _ _ _ (T59.setTop (mkF m 125 #[.val (.ref x0), .val (.int x1), .val (.long x2), .second, .val (.int ((((((0 : Int32) + (f2 x2 (0 : Int32))) + (f2 x2 (1 : Int32))) + (f2 x2 (2 : Int32))) + (f2 x2 (3 : Int32))) + (f2 x2 (4 : Int32))))] []))
          refine g_iconst X59 hx (4 : Int32) 126 (hb hby d9_125) rfl rfl ?_
          show Go p e below s _ _ _ (T59.setTop (mkF m 126 #[.val (.ref x0), .val (.int x1), .val (.long x2), .second, .val (.int ((((((0 : Int32) + (f2 x2 (0 : Int32))) + (f2 x2 (1 : Int32))) + (f2 x2 (2 : Int32))) + (f2 x2 (3 : Int32))) + (f2 x2 (4 : Int32))))] [(.int (4 : Int32))]))
          refine g_iloadN X59 hx 127 (hb hby d9_126) rfl rfl ?_
          show Go p e below s _ _ _ (T59.setTop (mkF m 127 #[.val (.ref x0), .val (.int x1), .val (.long x2), .second, .val (.int ((((((0 : Int32) + (f2 x2 (0 : Int32))) + (f2 x2 (1 : Int32))) + (f2 x2 (2 : Int32))) + (f2 x2 (3 : Int32))) + (f2 x2 (4 : Int32))))] [(.int x1), (.int (4 : Int32))]))
          have h60 : ¬ ((4 : Int32) < x1) := fun q => h16 (Int32.lt_trans (by decide) q)
          refine g_icmp_ge X59 hx 140 130 (hb hby d9_127) (by decide) rfl rfl (fun q => absurd q h60) (fun _ => ?_)
          show Go p e below s _ _ _ (T59.setTop (mkF m 140 #[.val (.ref x0), .val (.int x1), .val (.long x2), .second, .val (.int ((((((0 : Int32) + (f2 x2 (0 : Int32))) + (f2 x2 (1 : Int32))) + (f2 x2 (2 : Int32))) + (f2 x2 (3 : Int32))) + (f2 x2 (4 : Int32))))] []))
          refine g_iload X59 hx 142 (hb hby d9_140) rfl rfl ?_
          show Go p e below s _ _ _ (T59.setTop (mkF m 142 #[.val (.ref x0), .val (.int x1), .val (.long x2), .second, .val (.int ((((((0 : Int32) + (f2 x2 (0 : Int32))) + (f2 x2 (1 : Int32))) + (f2 x2 (2 : Int32))) + (f2 x2 (3 : Int32))) + (f2 x2 (4 : Int32))))] [(.int ((((((0 : Int32) + (f2 x2 (0 : Int32))) + (f2 x2 (1 : Int32))) + (f2 x2 (2 : Int32))) + (f2 x2 (3 : Int32))) + (f2 x2 (4 : Int32))))]))
          refine g_lloadN X59 hx 143 (hb hby d9_142) rfl rfl ?_
          show Go p e below s _ _ _ (T59.setTop (mkF m 143 #[.val (.ref x0), .val (.int x1), .val (.long x2), .second, .val (.int ((((((0 : Int32) + (f2 x2 (0 : Int32))) + (f2 x2 (1 : Int32))) + (f2 x2 (2 : Int32))) + (f2 x2 (3 : Int32))) + (f2 x2 (4 : Int32))))] [(.long x2), (.int ((((((0 : Int32) + (f2 x2 (0 : Int32))) + (f2 x2 (1 : Int32))) + (f2 x2 (2 : Int32))) + (f2 x2 (3 : Int32))) + (f2 x2 (4 : Int32))))]))
          refine g_iconst X59 hx (5 : Int32) 144 (hb hby d9_143) rfl rfl ?_
          show Go p e below s _ _ _ (T59.setTop (mkF m 144 #[.val (.ref x0), .val (.int x1), .val (.long x2), .second, .val (.int ((((((0 : Int32) + (f2 x2 (0 : Int32))) + (f2 x2 (1 : Int32))) + (f2 x2 (2 : Int32))) + (f2 x2 (3 : Int32))) + (f2 x2 (4 : Int32))))] [(.int (5 : Int32)), (.long x2), (.int ((((((0 : Int32) + (f2 x2 (0 : Int32))) + (f2 x2 (1 : Int32))) + (f2 x2 (2 : Int32))) + (f2 x2 (3 : Int32))) + (f2 x2 (4 : Int32))))]))
          refine g_callS X59 hx hZ hown (hw _ (List.mem_of_getElem? (i := 6) rfl)) (hw _ (List.mem_of_getElem? (i := 7) rfl)) (hw _ (List.mem_of_getElem? (i := 4) rfl)) (hw _ (List.mem_of_getElem? (i := 8) rfl)) (by decide) e59 (rm2 l Z a0 hw [] x2 (5 : Int32) h0) [(.long x2), (.int (5 : Int32))] [(.int ((((((0 : Int32) + (f2 x2 (0 : Int32))) + (f2 x2 (1 : Int32))) + (f2 x2 (2 : Int32))) + (f2 x2 (3 : Int32))) + (f2 x2 (4 : Int32))))] 1 rfl (lenOf pd__28JI_29I rfl) rfl (Nat.le_of_eq rfl) (by decide) (by decide) (by decide) (by decide) (by rw [hml]; rfl) (hb hby d9_144) ?_
          intro T61 L61 v61 X61 q61
          obtain ⟨rfl, rfl, e61⟩ := q61
          show Go p e below s _ _ _ (T61.setTop (mkF m 147 #[.val (.ref x0), .val (.int x1), .val (.long x2), .second, .val (.int ((((((0 : Int32) + (f2 x2 (0 : Int32))) + (f2 x2 (1 : Int32))) + (f2 x2 (2 : Int32))) + (f2 x2 (3 : Int32))) + (f2 x2 (4 : Int32))))] [(.int (f2 x2 (5 : Int32))), (.int ((((((0 : Int32) + (f2 x2 (0 : Int32))) + (f2 x2 (1 : Int32))) + (f2 x2 (2 : Int32))) + (f2 x2 (3 : Int32))) + (f2 x2 (4 : Int32))))]))
          refine g_iadd X61 hx 148 (hb hby d9_147) rfl ?_
          show Go p e below s _ _ _ (T61.setTop (mkF m 148 #[.val (.ref x0), .val (.int x1), .val (.long x2), .second, .val (.int ((((((0 : Int32) + (f2 x2 (0 : Int32))) + (f2 x2 (1 : Int32))) + (f2 x2 (2 : Int32))) + (f2 x2 (3 : Int32))) + (f2 x2 (4 : Int32))))] [(.int (((((((0 : Int32) + (f2 x2 (0 : Int32))) + (f2 x2 (1 : Int32))) + (f2 x2 (2 : Int32))) + (f2 x2 (3 : Int32))) + (f2 x2 (4 : Int32))) + (f2 x2 (5 : Int32))))]))
          refine g_istore X61 hx #[.val (.ref x0), .val (.int x1), .val (.long x2), .second, .val (.int (((((((0 : Int32) + (f2 x2 (0 : Int32))) + (f2 x2 (1 : Int32))) + (f2 x2 (2 : Int32))) + (f2 x2 (3 : Int32))) + (f2 x2 (4 : Int32))) + (f2 x2 (5 : Int32))))] 150 (hb hby d9_148) rfl rfl ?_
          show Go p e below s _ _ _ (T61.setTop (mkF m 150 #[.val (.ref x0), .val (.int x1), .val (.long x2), .second, .val (.int (((((((0 : Int32) + (f2 x2 (0 : Int32))) + (f2 x2 (1 : Int32))) + (f2 x2 (2 : Int32))) + (f2 x2 (3 : Int32))) + (f2 x2 (4 : Int32))) + (f2 x2 (5 : Int32))))] []))
          refine g_iconst X61 hx (5 : Int32) 151 (hb hby d9_150) rfl rfl ?_
          show Go p e below s _ _ _ (T61.setTop (mkF m 151 #[.val (.ref x0), .val (.int x1), .val (.long x2), .second, .val (.int (((((((0 : Int32) + (f2 x2 (0 : Int32))) + (f2 x2 (1 : Int32))) + (f2 x2 (2 : Int32))) + (f2 x2 (3 : Int32))) + (f2 x2 (4 : Int32))) + (f2 x2 (5 : Int32))))] [(.int (5 : Int32))]))
          refine g_iloadN X61 hx 152 (hb hby d9_151) rfl rfl ?_
          show Go p e below s _ _ _ (T61.setTop (mkF m 152 #[.val (.ref x0), .val (.int x1), .val (.long x2), .second, .val (.int (((((((0 : Int32) + (f2 x2 (0 : Int32))) + (f2 x2 (1 : Int32))) + (f2 x2 (2 : Int32))) + (f2 x2 (3 : Int32))) + (f2 x2 (4 : Int32))) + (f2 x2 (5 : Int32))))] [(.int x1), (.int (5 : Int32))]))
          have h62 : ¬ ((5 : Int32) < x1) := fun q => h16 (Int32.lt_trans (by decide) q)
          refine g_icmp_ge X61 hx 165 155 (hb hby d9_152) (by decide) rfl rfl (fun q => absurd q h62) (fun _ => ?_)
          show Go p e below s _ _ _ (T61.setTop (mkF m 165 #[.val (.ref x0), .val (.int x1), .val (.long x2), .second, .val (.int (((((((0 : Int32) + (f2 x2 (0 : Int32))) + (f2 x2 (1 : Int32))) + (f2 x2 (2 : Int32))) + (f2 x2 (3 : Int32))) + (f2 x2 (4 : Int32))) + (f2 x2 (5 : Int32))))] []))
          refine g_iload X61 hx 167 (hb hby d9_165) rfl rfl ?_
          show Go p e below s _ _ _ (T61.setTop (mkF m 167 #[.val (.ref x0), .val (.int x1), .val (.long x2), .second, .val (.int (((((((0 : Int32) + (f2 x2 (0 : Int32))) + (f2 x2 (1 : Int32))) + (f2 x2 (2 : Int32))) + (f2 x2 (3 : Int32))) + (f2 x2 (4 : Int32))) + (f2 x2 (5 : Int32))))] [(.int (((((((0 : Int32) + (f2 x2 (0 : Int32))) + (f2 x2 (1 : Int32))) + (f2 x2 (2 : Int32))) + (f2 x2 (3 : Int32))) + (f2 x2 (4 : Int32))) + (f2 x2 (5 : Int32))))]))
          refine g_lloadN X61 hx 168 (hb hby d9_167) rfl rfl ?_
          show Go p e below s _ _ _ (T61.setTop (mkF m 168 #[.val (.ref x0), .val (.int x1), .val (.long x2), .second, .val (.int (((((((0 : Int32) + (f2 x2 (0 : Int32))) + (f2 x2 (1 : Int32))) + (f2 x2 (2 : Int32))) + (f2 x2 (3 : Int32))) + (f2 x2 (4 : Int32))) + (f2 x2 (5 : Int32))))] [(.long x2), (.int (((((((0 : Int32) + (f2 x2 (0 : Int32))) + (f2 x2 (1 : Int32))) + (f2 x2 (2 : Int32))) + (f2 x2 (3 : Int32))) + (f2 x2 (4 : Int32))) + (f2 x2 (5 : Int32))))]))
          refine g_bipush X61 hx (6 : Int32) 170 (hb hby d9_168) rfl rfl ?_
          show Go p e below s _ _ _ (T61.setTop (mkF m 170 #[.val (.ref x0), .val (.int x1), .val (.long x2), .second, .val (.int (((((((0 : Int32) + (f2 x2 (0 : Int32))) + (f2 x2 (1 : Int32))) + (f2 x2 (2 : Int32))) + (f2 x2 (3 : Int32))) + (f2 x2 (4 : Int32))) + (f2 x2 (5 : Int32))))] [(.int (6 : Int32)), (.long x2), (.int (((((((0 : Int32) + (f2 x2 (0 : Int32))) + (f2 x2 (1 : Int32))) + (f2 x2 (2 : Int32))) + (f2 x2 (3 : Int32))) + (f2 x2 (4 : Int32))) + (f2 x2 (5 : Int32))))]))
          refine g_callS X61 hx hZ hown (hw _ (List.mem_of_getElem? (i := 6) rfl)) (hw _ (List.mem_of_getElem? (i := 7) rfl)) (hw _ (List.mem_of_getElem? (i := 4) rfl)) (hw _ (List.mem_of_getElem? (i := 8) rfl)) (by decide) e61 (rm2 l Z a0 hw [] x2 (6 : Int32) h0) [(.long x2), (.int (6 : Int32))] [(.int (((((((0 : Int32) + (f2 x2 (0 : Int32))) + (f2 x2 (1 : Int32))) + (f2 x2 (2 : Int32))) + (f2 x2 (3 : Int32))) + (f2 x2 (4 : Int32))) + (f2 x2 (5 : Int32))))] 1 rfl (lenOf pd__28JI_29I rfl) rfl (Nat.le_of_eq rfl) (by decide) (by decide) (by decide) (by decide) (by rw [hml]; rfl) (hb hby d9_170) ?_
          intro T63 L63 v63 X63 q63
          obtain ⟨rfl, rfl, e63⟩ := q63
          show Go p e below s _ _ _ (T63.setTop (mkF m 173 #[.val (.ref x0), .val (.int x1), .val (.long x2), .second, .val (.int (((((((0 : Int32) + (f2 x2 (0 : Int32))) + (f2 x2 (1 : Int32))) + (f2 x2 (2 : Int32))) + (f2 x2 (3 : Int32))) + (f2 x2 (4 : Int32))) + (f2 x2 (5 : Int32))))] [(.int (f2 x2 (6 : Int32))), (.int (((((((0 : Int32) + (f2 x2 (0 : Int32))) + (f2 x2 (1 : Int32))) + (f2 x2 (2 : Int32))) + (f2 x2 (3 : Int32))) + (f2 x2 (4 : Int32))) + (f2 x2 (5 : Int32))))]))
          refine g_iadd X63 hx 174 (hb hby d9_173) rfl ?_
          show Go p e below s _ _ _ (T63.setTop (mkF m 174 #[.val (.ref x0), .val (.int x1), .val (.long x2), .second, .val (.int (((((((0 : Int32) + (f2 x2 (0 : Int32))) + (f2 x2 (1 : Int32))) + (f2 x2 (2 : Int32))) + (f2 x2 (3 : Int32))) + (f2 x2 (4 : Int32))) + (f2 x2 (5 : Int32))))] [(.int ((((((((0 : Int32) + (f2 x2 (0 : Int32))) + (f2 x2 (1 : Int32))) + (f2 x2 (2 : Int32))) + (f2 x2 (3 : Int32))) + (f2 x2 (4 : Int32))) + (f2 x2 (5 : Int32))) + (f2 x2 (6 : Int32))))]))
          refine g_istore X63 hx #[.val (.ref x0), .val (.int x1), .val (.long x2), .second, .val (.int ((((((((0 : Int32) + (f2 x2 (0 : Int32))) + (f2 x2 (1 : Int32))) + (f2 x2 (2 : Int32))) + (f2 x2 (3 : Int32))) + (f2 x2 (4 : Int32))) + (f2 x2 (5 : Int32))) + (f2 x2 (6 : Int32))))] 176 (hb hby d9_174) rfl rfl ?_
          show Go p e below s _ _ _ (T63.setTop (mkF m 176 #[.val (.ref x0), .val (.int x1), .val (.long x2), .second, .val (.int ((((((((0 : Int32) + (f2 x2 (0 : Int32))) + (f2 x2 (1 : Int32))) + (f2 x2 (2 : Int32))) + (f2 x2 (3 : Int32))) + (f2 x2 (4 : Int32))) + (f2 x2 (5 : Int32))) + (f2 x2 (6 : Int32))))] []))
          refine g_bipush X63 hx (6 : Int32) 178 (hb hby d9_176) rfl rfl ?_
          show Go p e below s _ _ _ (T63.setTop (mkF m 178 #[.val (.ref x0), .val (.int x1), .val (.long x2), .second, .val (.int ((((((((0 : Int32) + (f2 x2 (0 : Int32))) + (f2 x2 (1 : Int32))) + (f2 x2 (2 : Int32))) + (f2 x2 (3 : Int32))) + (f2 x2 (4 : Int32))) + (f2 x2 (5 : Int32))) + (f2 x2 (6 : Int32))))] [(.int (6 : Int32))]))
          refine g_iloadN X63 hx 179 (hb hby d9_178) rfl rfl ?_
          show Go p e below s _ _ _ (T63.setTop (mkF m 179 #[.val (.ref x0), .val (.int x1), .val (.long x2), .second, .val (.int ((((((((0 : Int32) + (f2 x2 (0 : Int32))) + (f2 x2 (1 : Int32))) + (f2 x2 (2 : Int32))) + (f2 x2 (3 : Int32))) + (f2 x2 (4 : Int32))) + (f2 x2 (5 : Int32))) + (f2 x2 (6 : Int32))))] [(.int x1), (.int (6 : Int32))]))
          have h64 : ¬ ((6 : Int32) < x1) := fun q => h16 (Int32.lt_trans (by decide) q)
          refine g_icmp_ge X63 hx 193 182 (hb hby d9_179) (by decide) rfl rfl (fun q => absurd q h64) (fun _ => ?_)
          show Go p e below s _ _ _ (T63.setTop (mkF m 193 #[.val (.ref x0), .val (.int x1), .val (.long x2), .second, .val (.int ((((((((0 : Int32) + (f2 x2 (0 : Int32))) + (f2 x2 (1 : Int32))) + (f2 x2 (2 : Int32))) + (f2 x2 (3 : Int32))) + (f2 x2 (4 : Int32))) + (f2 x2 (5 : Int32))) + (f2 x2 (6 : Int32))))] []))
          refine g_iload X63 hx 195 (hb hby d9_193) rfl rfl ?_
          show Go p e below s _ _ _ (T63.setTop (mkF m 195 #[.val (.ref x0), .val (.int x1), .val (.long x2), .second, .val (.int ((((((((0 : Int32) + (f2 x2 (0 : Int32))) + (f2 x2 (1 : Int32))) + (f2 x2 (2 : Int32))) + (f2 x2 (3 : Int32))) + (f2 x2 (4 : Int32))) + (f2 x2 (5 : Int32))) + (f2 x2 (6 : Int32))))] [(.int ((((((((0 : Int32) + (f2 x2 (0 : Int32))) + (f2 x2 (1 : Int32))) + (f2 x2 (2 : Int32))) + (f2 x2 (3 : Int32))) + (f2 x2 (4 : Int32))) + (f2 x2 (5 : Int32))) + (f2 x2 (6 : Int32))))]))
          refine g_lloadN X63 hx 196 (hb hby d9_195) rfl rfl ?_
          show Go p e below s _ _ _ (T63.setTop (mkF m 196 #[.val (.ref x0), .val (.int x1), .val (.long x2), .second, .val (.int ((((((((0 : Int32) + (f2 x2 (0 : Int32))) + (f2 x2 (1 : Int32))) + (f2 x2 (2 : Int32))) + (f2 x2 (3 : Int32))) + (f2 x2 (4 : Int32))) + (f2 x2 (5 : Int32))) + (f2 x2 (6 : Int32))))] [(.long x2), (.int ((((((((0 : Int32) + (f2 x2 (0 : Int32))) + (f2 x2 (1 : Int32))) + (f2 x2 (2 : Int32))) + (f2 x2 (3 : Int32))) + (f2 x2 (4 : Int32))) + (f2 x2 (5 : Int32))) + (f2 x2 (6 : Int32))))]))
          refine g_bipush X63 hx (7 : Int32) 198 (hb hby d9_196) rfl rfl ?_
          show Go p e below s _ _ _ (T63.setTop (mkF m 198 #[.val (.ref x0), .val (.int x1), .val (.long x2), .second, .val (.int ((((((((0 : Int32) + (f2 x2 (0 : Int32))) + (f2 x2 (1 : Int32))) + (f2 x2 (2 : Int32))) + (f2 x2 (3 : Int32))) + (f2 x2 (4 : Int32))) + (f2 x2 (5 : Int32))) + (f2 x2 (6 : Int32))))] [(.int (7 : Int32)), (.long x2), (.int ((((((((0 : Int32) + (f2 x2 (0 : Int32))) + (f2 x2 (1 : Int32))) + (f2 x2 (2 : Int32))) + (f2 x2 (3 : Int32))) + (f2 x2 (4 : Int32))) + (f2 x2 (5 : Int32))) + (f2 x2 (6 : Int32))))]))
          refine g_callS X63 hx hZ hown (hw _ (List.mem_of_getElem? (i := 6) rfl)) (hw _ (List.mem_of_getElem? (i := 7) rfl)) (hw _ (List.mem_of_getElem? (i := 4) rfl)) (hw _ (List.mem_of_getElem? (i := 8) rfl)) (by decide) e63 (rm2 l Z a0 hw [] x2 (7 : Int32) h0) [(.long x2), (.int (7 : Int32))] [(.int ((((((((0 : Int32) + (f2 x2 (0 : Int32))) + (f2 x2 (1 : Int32))) + (f2 x2 (2 : Int32))) + (f2 x2 (3 : Int32))) + (f2 x2 (4 : Int32))) + (f2 x2 (5 : Int32))) + (f2 x2 (6 : Int32))))] 1 rfl (lenOf pd__28JI_29I rfl) rfl (Nat.le_of_eq rfl) (by decide) (by decide) (by decide) (by decide) (by rw [hml]; rfl) (hb hby d9_198) ?_
          intro T65 L65 v65 X65 q65
          obtain ⟨rfl, rfl, e65⟩ := q65
          show Go p e below s _ _ _ (T65.setTop (mkF m 201 #[.val (.ref x0), .val (.int x1), .val (.long x2), .second, .val (.int ((((((((0 : Int32) + (f2 x2 (0 : Int32))) + (f2 x2 (1 : Int32))) + (f2 x2 (2 : Int32))) + (f2 x2 (3 : Int32))) + (f2 x2 (4 : Int32))) + (f2 x2 (5 : Int32))) + (f2 x2 (6 : Int32))))] [(.int (f2 x2 (7 : Int32))), (.int ((((((((0 : Int32) + (f2 x2 (0 : Int32))) + (f2 x2 (1 : Int32))) + (f2 x2 (2 : Int32))) + (f2 x2 (3 : Int32))) + (f2 x2 (4 : Int32))) + (f2 x2 (5 : Int32))) + (f2 x2 (6 : Int32))))]))
          refine g_iadd X65 hx 202 (hb hby d9_201) rfl ?_
          show Go p e below s _ _ _ (T65.setTop (mkF m 202 #[.val (.ref x0), .val (.int x1), .val (.long x2), .second, .val (.int ((((((((0 : Int32) + (f2 x2 (0 : Int32))) + (f2 x2 (1 : Int32))) + (f2 x2 (2 : Int32))) + (f2 x2 (3 : Int32))) + (f2 x2 (4 : Int32))) + (f2 x2 (5 : Int32))) + (f2 x2 (6 : Int32))))] [(.int (((((((((0 : Int32) + (f2 x2 (0 : Int32))) + (f2 x2 (1 : Int32))) + (f2 x2 (2 : Int32))) + (f2 x2 (3 : Int32))) + (f2 x2 (4 : Int32))) + (f2 x2 (5 : Int32))) + (f2 x2 (6 : Int32))) + (f2 x2 (7 : Int32))))]))
          refine g_istore X65 hx #[.val (.ref x0), .val (.int x1), .val (.long x2), .second, .val (.int (((((((((0 : Int32) + (f2 x2 (0 : Int32))) + (f2 x2 (1 : Int32))) + (f2 x2 (2 : Int32))) + (f2 x2 (3 : Int32))) + (f2 x2 (4 : Int32))) + (f2 x2 (5 : Int32))) + (f2 x2 (6 : Int32))) + (f2 x2 (7 : Int32))))] 204 (hb hby d9_202) rfl rfl ?_
          show Go p e below s _ _ _ (T65.setTop (mkF m 204 #[.val (.ref x0), .val (.int x1), .val (.long x2), .second, .val (.int (((((((((0 : Int32) + (f2 x2 (0 : Int32))) + (f2 x2 (1 : Int32))) + (f2 x2 (2 : Int32))) + (f2 x2 (3 : Int32))) + (f2 x2 (4 : Int32))) + (f2 x2 (5 : Int32))) + (f2 x2 (6 : Int32))) + (f2 x2 (7 : Int32))))] []))
          refine g_bipush X65 hx (7 : Int32) 206 (hb hby d9_204) rfl rfl ?_
          show Go p e below s _ _ _ (T65.setTop (mkF m 206 #[.val (.ref x0), .val (.int x1), .val (.long x2), .second, .val (.int (((((((((0 : Int32) + (f2 x2 (0 : Int32))) + (f2 x2 (1 : Int32))) + (f2 x2 (2 : Int32))) + (f2 x2 (3 : Int32))) + (f2 x2 (4 : Int32))) + (f2 x2 (5 : Int32))) + (f2 x2 (6 : Int32))) + (f2 x2 (7 : Int32))))] [(.int (7 : Int32))]))
          refine g_iloadN X65 hx 207 (hb hby d9_206) rfl rfl ?_
          show Go p e below s _ _ _ (T65.setTop (mkF m 207 #[.val (.ref x0), .val (.int x1), .val (.long x2), .second, .val (.int (((((((((0 : Int32) + (f2 x2 (0 : Int32))) + (f2 x2 (1 : Int32))) + (f2 x2 (2 : Int32))) + (f2 x2 (3 : Int32))) + (f2 x2 (4 : Int32))) + (f2 x2 (5 : Int32))) + (f2 x2 (6 : Int32))) + (f2 x2 (7 : Int32))))] [(.int x1), (.int (7 : Int32))]))
          have h66 : ¬ ((7 : Int32) < x1) := fun q => h16 (Int32.lt_trans (by decide) q)
          refine g_icmp_ge X65 hx 221 210 (hb hby d9_207) (by decide) rfl rfl (fun q => absurd q h66) (fun _ => ?_)
          show Go p e below s _ _ _ (T65.setTop (mkF m 221 #[.val (.ref x0), .val (.int x1), .val (.long x2), .second, .val (.int (((((((((0 : Int32) + (f2 x2 (0 : Int32))) + (f2 x2 (1 : Int32))) + (f2 x2 (2 : Int32))) + (f2 x2 (3 : Int32))) + (f2 x2 (4 : Int32))) + (f2 x2 (5 : Int32))) + (f2 x2 (6 : Int32))) + (f2 x2 (7 : Int32))))] []))
          refine g_iload X65 hx 223 (hb hby d9_221) rfl rfl ?_
          show Go p e below s _ _ _ (T65.setTop (mkF m 223 #[.val (.ref x0), .val (.int x1), .val (.long x2), .second, .val (.int (((((((((0 : Int32) + (f2 x2 (0 : Int32))) + (f2 x2 (1 : Int32))) + (f2 x2 (2 : Int32))) + (f2 x2 (3 : Int32))) + (f2 x2 (4 : Int32))) + (f2 x2 (5 : Int32))) + (f2 x2 (6 : Int32))) + (f2 x2 (7 : Int32))))] [(.int (((((((((0 : Int32) + (f2 x2 (0 : Int32))) + (f2 x2 (1 : Int32))) + (f2 x2 (2 : Int32))) + (f2 x2 (3 : Int32))) + (f2 x2 (4 : Int32))) + (f2 x2 (5 : Int32))) + (f2 x2 (6 : Int32))) + (f2 x2 (7 : Int32))))]))
          refine g_lloadN X65 hx 224 (hb hby d9_223) rfl rfl ?_
          show Go p e below s _ _ _ (T65.setTop (mkF m 224 #[.val (.ref x0), .val (.int x1), .val (.long x2), .second, .val (.int (((((((((0 : Int32) + (f2 x2 (0 : Int32))) + (f2 x2 (1 : Int32))) + (f2 x2 (2 : Int32))) + (f2 x2 (3 : Int32))) + (f2 x2 (4 : Int32))) + (f2 x2 (5 : Int32))) + (f2 x2 (6 : Int32))) + (f2 x2 (7 : Int32))))] [(.long x2), (.int (((((((((0 : Int32) + (f2 x2 (0 : Int32))) + (f2 x2 (1 : Int32))) + (f2 x2 (2 : Int32))) + (f2 x2 (3 : Int32))) + (f2 x2 (4 : Int32))) + (f2 x2 (5 : Int32))) + (f2 x2 (6 : Int32))) + (f2 x2 (7 : Int32))))]))
          refine g_bipush X65 hx (8 : Int32) 226 (hb hby d9_224) rfl rfl ?_
          show Go p e below s _ _ _ (T65.setTop (mkF m 226 #[.val (.ref x0), .val (.int x1), .val (.long x2), .second, .val (.int (((((((((0 : Int32) + (f2 x2 (0 : Int32))) + (f2 x2 (1 : Int32))) + (f2 x2 (2 : Int32))) + (f2 x2 (3 : Int32))) + (f2 x2 (4 : Int32))) + (f2 x2 (5 : Int32))) + (f2 x2 (6 : Int32))) + (f2 x2 (7 : Int32))))] [(.int (8 : Int32)), (.long x2), (.int (((((((((0 : Int32) + (f2 x2 (0 : Int32))) + (f2 x2 (1 : Int32))) + (f2 x2 (2 : Int32))) + (f2 x2 (3 : Int32))) + (f2 x2 (4 : Int32))) + (f2 x2 (5 : Int32))) + (f2 x2 (6 : Int32))) + (f2 x2 (7 : Int32))))]))
          refine g_callS X65 hx hZ hown (hw _ (List.mem_of_getElem? (i := 6) rfl)) (hw _ (List.mem_of_getElem? (i := 7) rfl)) (hw _ (List.mem_of_getElem? (i := 4) rfl)) (hw _ (List.mem_of_getElem? (i := 8) rfl)) (by decide) e65 (rm2 l Z a0 hw [] x2 (8 : Int32) h0) [(.long x2), (.int (8 : Int32))] [(.int (((((((((0 : Int32) + (f2 x2 (0 : Int32))) + (f2 x2 (1 : Int32))) + (f2 x2 (2 : Int32))) + (f2 x2 (3 : Int32))) + (f2 x2 (4 : Int32))) + (f2 x2 (5 : Int32))) + (f2 x2 (6 : Int32))) + (f2 x2 (7 : Int32))))] 1 rfl (lenOf pd__28JI_29I rfl) rfl (Nat.le_of_eq rfl) (by decide) (by decide) (by decide) (by decide) (by rw [hml]; rfl) (hb hby d9_226) ?_
          intro T67 L67 v67 X67 q67
          obtain ⟨rfl, rfl, e67⟩ := q67
          show Go p e below s _ _ _ (T67.setTop (mkF m 229 #[.val (.ref x0), .val (.int x1), .val (.long x2), .second, .val (.int (((((((((0 : Int32) + (f2 x2 (0 : Int32))) + (f2 x2 (1 : Int32))) + (f2 x2 (2 : Int32))) + (f2 x2 (3 : Int32))) + (f2 x2 (4 : Int32))) + (f2 x2 (5 : Int32))) + (f2 x2 (6 : Int32))) + (f2 x2 (7 : Int32))))] [(.int (f2 x2 (8 : Int32))), (.int (((((((((0 : Int32) + (f2 x2 (0 : Int32))) + (f2 x2 (1 : Int32))) + (f2 x2 (2 : Int32))) + (f2 x2 (3 : Int32))) + (f2 x2 (4 : Int32))) + (f2 x2 (5 : Int32))) + (f2 x2 (6 : Int32))) + (f2 x2 (7 : Int32))))]))
          refine g_iadd X67 hx 230 (hb hby d9_229) rfl ?_
          show Go p e below s _ _ _ (T67.setTop (mkF m 230 #[.val (.ref x0), .val (.int x1), .val (.long x2), .second, .val (.int (((((((((0 : Int32) + (f2 x2 (0 : Int32))) + (f2 x2 (1 : Int32))) + (f2 x2 (2 : Int32))) + (f2 x2 (3 : Int32))) + (f2 x2 (4 : Int32))) + (f2 x2 (5 : Int32))) + (f2 x2 (6 : Int32))) + (f2 x2 (7 : Int32))))] [(.int ((((((((((0 : Int32) + (f2 x2 (0 : Int32))) + (f2 x2 (1 : Int32))) + (f2 x2 (2 : Int32))) + (f2 x2 (3 : Int32))) + (f2 x2 (4 : Int32))) + (f2 x2 (5 : Int32))) + (f2 x2 (6 : Int32))) + (f2 x2 (7 : Int32))) + (f2 x2 (8 : Int32))))]))
          refine g_istore X67 hx #[.val (.ref x0), .val (.int x1), .val (.long x2), .second, .val (.int ((((((((((0 : Int32) + (f2 x2 (0 : Int32))) + (f2 x2 (1 : Int32))) + (f2 x2 (2 : Int32))) + (f2 x2 (3 : Int32))) + (f2 x2 (4 : Int32))) + (f2 x2 (5 : Int32))) + (f2 x2 (6 : Int32))) + (f2 x2 (7 : Int32))) + (f2 x2 (8 : Int32))))] 232 (hb hby d9_230) rfl rfl ?_
          show Go p e below s _ _ _ (T67.setTop (mkF m 232 #[.val (.ref x0), .val (.int x1), .val (.long x2), .second, .val (.int ((((((((((0 : Int32) + (f2 x2 (0 : Int32))) + (f2 x2 (1 : Int32))) + (f2 x2 (2 : Int32))) + (f2 x2 (3 : Int32))) + (f2 x2 (4 : Int32))) + (f2 x2 (5 : Int32))) + (f2 x2 (6 : Int32))) + (f2 x2 (7 : Int32))) + (f2 x2 (8 : Int32))))] []))
          refine g_bipush X67 hx (8 : Int32) 234 (hb hby d9_232) rfl rfl ?_
          show Go p e below s _ _ _ (T67.setTop (mkF m 234 #[.val (.ref x0), .val (.int x1), .val (.long x2), .second, .val (.int ((((((((((0 : Int32) + (f2 x2 (0 : Int32))) + (f2 x2 (1 : Int32))) + (f2 x2 (2 : Int32))) + (f2 x2 (3 : Int32))) + (f2 x2 (4 : Int32))) + (f2 x2 (5 : Int32))) + (f2 x2 (6 : Int32))) + (f2 x2 (7 : Int32))) + (f2 x2 (8 : Int32))))] [(.int (8 : Int32))]))
          refine g_iloadN X67 hx 235 (hb hby d9_234) rfl rfl ?_
          show Go p e below s _ _ _ (T67.setTop (mkF m 235 #[.val (.ref x0), .val (.int x1), .val (.long x2), .second, .val (.int ((((((((((0 : Int32) + (f2 x2 (0 : Int32))) + (f2 x2 (1 : Int32))) + (f2 x2 (2 : Int32))) + (f2 x2 (3 : Int32))) + (f2 x2 (4 : Int32))) + (f2 x2 (5 : Int32))) + (f2 x2 (6 : Int32))) + (f2 x2 (7 : Int32))) + (f2 x2 (8 : Int32))))] [(.int x1), (.int (8 : Int32))]))
          have h68 : ¬ ((8 : Int32) < x1) := fun q => h16 (Int32.lt_trans (by decide) q)
          refine g_icmp_ge X67 hx 249 238 (hb hby d9_235) (by decide) rfl rfl (fun q => absurd q h68) (fun _ => ?_)
          show Go p e below s _ _ _ (T67.setTop (mkF m 249 #[.val (.ref x0), .val (.int x1), .val (.long x2), .second, .val (.int ((((((((((0 : Int32) + (f2 x2 (0 : Int32))) + (f2 x2 (1 : Int32))) + (f2 x2 (2 : Int32))) + (f2 x2 (3 : Int32))) + (f2 x2 (4 : Int32))) + (f2 x2 (5 : Int32))) + (f2 x2 (6 : Int32))) + (f2 x2 (7 : Int32))) + (f2 x2 (8 : Int32))))] []))
          refine g_iconst X67 hx (1 : Int32) 250 (hb hby d9_249) rfl rfl ?_
          show Go p e below s _ _ _ (T67.setTop (mkF m 250 #[.val (.ref x0), .val (.int x1), .val (.long x2), .second, .val (.int ((((((((((0 : Int32) + (f2 x2 (0 : Int32))) + (f2 x2 (1 : Int32))) + (f2 x2 (2 : Int32))) + (f2 x2 (3 : Int32))) + (f2 x2 (4 : Int32))) + (f2 x2 (5 : Int32))) + (f2 x2 (6 : Int32))) + (f2 x2 (7 : Int32))) + (f2 x2 (8 : Int32))))] [(.int (1 : Int32))]))
          exact g_retN X67 hx hret (by simp) hlk (hb hby d9_250) (by decide) (by decide) ⟨rfl, rfl, e67⟩
      · show Go p e below s _ _ _ (T11.setTop (mkF m 90 #[.val (.ref x0), .val (.int x1), .val (.long x2), .second, .val (.int ((((0 : Int32) + (f2 x2 (0 : Int32))) + (f2 x2 (1 : Int32))) + (f2 x2 (2 : Int32))))] []))
        refine g_iload X11 hx 92 (hb hby d9_90) rfl rfl ?_
        show Go p e below s _ _ _ (T11.setTop (mkF m 92 #[.val (.ref x0), .val (.int x1), .val (.long x2), .second, .val (.int ((((0 : Int32) + (f2 x2 (0 : Int32))) + (f2 x2 (1 : Int32))) + (f2 x2 (2 : Int32))))] [(.int ((((0 : Int32) + (f2 x2 (0 : Int32))) + (f2 x2 (1 : Int32))) + (f2 x2 (2 : Int32))))]))
        refine g_lloadN X11 hx 93 (hb hby d9_92) rfl rfl ?_
        show Go p e below s _ _ _ (T11.setTop (mkF m 93 #[.val (.ref x0), .val (.int x1), .val (.long x2), .second, .val (.int ((((0 : Int32) + (f2 x2 (0 : Int32))) + (f2 x2 (1 : Int32))) + (f2 x2 (2 : Int32))))] [(.long x2), (.int ((((0 : Int32) + (f2 x2 (0 : Int32))) + (f2 x2 (1 : Int32))) + (f2 x2 (2 : Int32))))]))
        refine g_iconst X11 hx (3 : Int32) 94 (hb hby d9_93) rfl rfl ?_
        show Go p e below s _ _ _ (T11.setTop (mkF m 94 #[.val (.ref x0), .val (.int x1), .val (.long x2), .second, .val (.int ((((0 : Int32) + (f2 x2 (0 : Int32))) + (f2 x2 (1 : Int32))) + (f2 x2 (2 : Int32))))] [(.int (3 : Int32)), (.long x2), (.int ((((0 : Int32) + (f2 x2 (0 : Int32))) + (f2 x2 (1 : Int32))) + (f2 x2 (2 : Int32))))]))
        refine g_callS X11 hx hZ hown (hw _ (List.mem_of_getElem? (i := 6) rfl)) (hw _ (List.mem_of_getElem? (i := 7) rfl)) (hw _ (List.mem_of_getElem? (i := 4) rfl)) (hw _ (List.mem_of_getElem? (i := 8) rfl)) (by decide) e11 (rm2 l Z a0 hw [] x2 (3 : Int32) h0) [(.long x2), (.int (3 : Int32))] [(.int ((((0 : Int32) + (f2 x2 (0 : Int32))) + (f2 x2 (1 : Int32))) + (f2 x2 (2 : Int32))))] 1 rfl (lenOf pd__28JI_29I rfl) rfl (Nat.le_of_eq rfl) (by decide) (by decide) (by decide) (by decide) (by rw [hml]; rfl) (hb hby d9_94) ?_
        intro T69 L69 v69 X69 q69
        obtain ⟨rfl, rfl, e69⟩ := q69
        show Go p e below s _ _ _ (T69.setTop (mkF m 97 #[.val (.ref x0), .val (.int x1), .val (.long x2), .second, .val (.int ((((0 : Int32) + (f2 x2 (0 : Int32))) + (f2 x2 (1 : Int32))) + (f2 x2 (2 : Int32))))] [(.int (f2 x2 (3 : Int32))), (.int ((((0 : Int32) + (f2 x2 (0 : Int32))) + (f2 x2 (1 : Int32))) + (f2 x2 (2 : Int32))))]))
        refine g_iadd X69 hx 98 (hb hby d9_97) rfl ?_
        show Go p e below s _ _ _ (T69.setTop (mkF m 98 #[.val (.ref x0), .val (.int x1), .val (.long x2), .second, .val (.int ((((0 : Int32) + (f2 x2 (0 : Int32))) + (f2 x2 (1 : Int32))) + (f2 x2 (2 : Int32))))] [(.int (((((0 : Int32) + (f2 x2 (0 : Int32))) + (f2 x2 (1 : Int32))) + (f2 x2 (2 : Int32))) + (f2 x2 (3 : Int32))))]))
        refine g_istore X69 hx #[.val (.ref x0), .val (.int x1), .val (.long x2), .second, .val (.int (((((0 : Int32) + (f2 x2 (0 : Int32))) + (f2 x2 (1 : Int32))) + (f2 x2 (2 : Int32))) + (f2 x2 (3 : Int32))))] 100 (hb hby d9_98) rfl rfl ?_
        show Go p e below s _ _ _ (T69.setTop (mkF m 100 #[.val (.ref x0), .val (.int x1), .val (.long x2), .second, .val (.int (((((0 : Int32) + (f2 x2 (0 : Int32))) + (f2 x2 (1 : Int32))) + (f2 x2 (2 : Int32))) + (f2 x2 (3 : Int32))))] []))
        refine g_iconst X69 hx (3 : Int32) 101 (hb hby d9_100) rfl rfl ?_
        show Go p e below s _ _ _ (T69.setTop (mkF m 101 #[.val (.ref x0), .val (.int x1), .val (.long x2), .second, .val (.int (((((0 : Int32) + (f2 x2 (0 : Int32))) + (f2 x2 (1 : Int32))) + (f2 x2 (2 : Int32))) + (f2 x2 (3 : Int32))))] [(.int (3 : Int32))]))
        refine g_iloadN X69 hx 102 (hb hby d9_101) rfl rfl ?_
        show Go p e below s _ _ _ (T69.setTop (mkF m 102 #[.val (.ref x0), .val (.int x1), .val (.long x2), .second, .val (.int (((((0 : Int32) + (f2 x2 (0 : Int32))) + (f2 x2 (1 : Int32))) + (f2 x2 (2 : Int32))) + (f2 x2 (3 : Int32))))] [(.int x1), (.int (3 : Int32))]))
        have h70 : ¬ ((3 : Int32) < x1) := fun q => h12 (Int32.lt_trans (by decide) q)
        refine g_icmp_ge X69 hx 115 105 (hb hby d9_102) (by decide) rfl rfl (fun q => absurd q h70) (fun _ => ?_)
        show Go p e below s _ _ _ (T69.setTop (mkF m 115 #[.val (.ref x0), .val (.int x1), .val (.long x2), .second, .val (.int (((((0 : Int32) + (f2 x2 (0 : Int32))) + (f2 x2 (1 : Int32))) + (f2 x2 (2 : Int32))) + (f2 x2 (3 : Int32))))] []))
        refine g_iload X69 hx 117 (hb hby d9_115) rfl rfl ?_
        show Go p e below s _ _ _ (T69.setTop (mkF m 117 #[.val (.ref x0), .val (.int x1), .val (.long x2), .second, .val (.int (((((0 : Int32) + (f2 x2 (0 : Int32))) + (f2 x2 (1 : Int32))) + (f2 x2 (2 : Int32))) + (f2 x2 (3 : Int32))))] [(.int (((((0 : Int32) + (f2 x2 (0 : Int32))) + (f2 x2 (1 : Int32))) + (f2 x2 (2 : Int32))) + (f2 x2 (3 : Int32))))]))
        refine g_lloadN X69 hx 118 (hb hby d9_117) rfl rfl ?_
        show Go p e below s _ _ _ (T69.setTop (mkF m 118 #[.val (.ref x0), .val (.int x1), .val (.long x2), .second, .val (.int (((((0 : Int32) + (f2 x2 (0 : Int32))) + (f2 x2 (1 : Int32))) + (f2 x2 (2 : Int32))) + (f2 x2 (3 : Int32))))] [(.long x2), (.int (((((0 : Int32) + (f2 x2 (0 : Int32))) + (f2 x2 (1 : Int32))) + (f2 x2 (2 : Int32))) + (f2 x2 (3 : Int32))))]))
        refine g_iconst X69 hx (4 : Int32) 119 (hb hby d9_118) rfl rfl ?_
        show Go p e below s _ _ _ (T69.setTop (mkF m 119 #[.val (.ref x0), .val (.int x1), .val (.long x2), .second, .val (.int (((((0 : Int32) + (f2 x2 (0 : Int32))) + (f2 x2 (1 : Int32))) + (f2 x2 (2 : Int32))) + (f2 x2 (3 : Int32))))] [(.int (4 : Int32)), (.long x2), (.int (((((0 : Int32) + (f2 x2 (0 : Int32))) + (f2 x2 (1 : Int32))) + (f2 x2 (2 : Int32))) + (f2 x2 (3 : Int32))))]))
        refine g_callS X69 hx hZ hown (hw _ (List.mem_of_getElem? (i := 6) rfl)) (hw _ (List.mem_of_getElem? (i := 7) rfl)) (hw _ (List.mem_of_getElem? (i := 4) rfl)) (hw _ (List.mem_of_getElem? (i := 8) rfl)) (by decide) e69 (rm2 l Z a0 hw [] x2 (4 : Int32) h0) [(.long x2), (.int (4 : Int32))] [(.int (((((0 : Int32) + (f2 x2 (0 : Int32))) + (f2 x2 (1 : Int32))) + (f2 x2 (2 : Int32))) + (f2 x2 (3 : Int32))))] 1 rfl (lenOf pd__28JI_29I rfl) rfl (Nat.le_of_eq rfl) (by decide) (by decide) (by decide) (by decide) (by rw [hml]; rfl) (hb hby d9_119) ?_
        intro T71 L71 v71 X71 q71
        obtain ⟨rfl, rfl, e71⟩ := q71
        show Go p e below s _ _ _ (T71.setTop (mkF m 122 #[.val (.ref x0), .val (.int x1), .val (.long x2), .second, .val (.int (((((0 : Int32) + (f2 x2 (0 : Int32))) + (f2 x2 (1 : Int32))) + (f2 x2 (2 : Int32))) + (f2 x2 (3 : Int32))))] [(.int (f2 x2 (4 : Int32))), (.int (((((0 : Int32) + (f2 x2 (0 : Int32))) + (f2 x2 (1 : Int32))) + (f2 x2 (2 : Int32))) + (f2 x2 (3 : Int32))))]))
        refine g_iadd X71 hx 123 (hb hby d9_122) rfl ?_
        show Go p e below s _ _ _ (T71.setTop (mkF m 123 #[.val (.ref x0), .val (.int x1), .val (.long x2), .second, .val (.int (((((0 : Int32) + (f2 x2 (0 : Int32))) + (f2 x2 (1 : Int32))) + (f2 x2 (2 : Int32))) + (f2 x2 (3 : Int32))))] [(.int ((((((0 : Int32) + (f2 x2 (0 : Int32))) + (f2 x2 (1 : Int32))) + (f2 x2 (2 : Int32))) + (f2 x2 (3 : Int32))) + (f2 x2 (4 : Int32))))]))
        refine g_istore X71 hx #[.val (.ref x0), .val (.int x1), .val (.long x2), .second, .val (.int ((((((0 : Int32) + (f2 x2 (0 : Int32))) + (f2 x2 (1 : Int32))) + (f2 x2 (2 : Int32))) + (f2 x2 (3 : Int32))) + (f2 x2 (4 : Int32))))] 125 (hb hby d9_123) rfl rfl ?_
        show Go p e below s _ _ _ (T71.setTop (mkF m 125 #[.val (.ref x0), .val (.int x1), .val (.long x2), .second, .val (.int ((((((0 : Int32) + (f2 x2 (0 : Int32))) + (f2 x2 (1 : Int32))) + (f2 x2 (2 : Int32))) + (f2 x2 (3 : Int32))) + (f2 x2 (4 : Int32))))] []))
        refine g_iconst X71 hx (4 : Int32) 126 (hb hby d9_125) rfl rfl ?_
        show Go p e below s _ _ _ (T71.setTop (mkF m 126 #[.val (.ref x0), .val (.int x1), .val (.long x2), .second, .val (.int ((((((0 : Int32) + (f2 x2 (0 : Int32))) + (f2 x2 (1 : Int32))) + (f2 x2 (2 : Int32))) + (f2 x2 (3 : Int32))) + (f2 x2 (4 : Int32))))] [(.int (4 : Int32))]))
        refine g_iloadN X71 hx 127 (hb hby d9_126) rfl rfl ?_
        show Go p e below s _ _ _ (T71.setTop (mkF m 127 #[.val (.ref x0), .val (.int x1), .val (.long x2), .second, .val (.int ((((((0 : Int32) + (f2 x2 (0 : Int32))) + (f2 x2 (1 : Int32))) + (f2 x2 (2 : Int32))) + (f2 x2 (3 : Int32))) + (f2 x2 (4 : Int32))))] [(.int x1), (.int (4 : Int32))]))
        have h72 : ¬ ((4 : Int32) < x1) := fun q => h12 (Int32.lt_trans (by decide) q)
        refine g_icmp_ge X71 hx 140 130 (hb hby d9_127) (by decide) rfl rfl (fun q => absurd q h72) (fun _ => ?_)
        show Go p e below s _ _ _ (T71.setTop (mkF m 140 #[.val (.ref x0), .val (.int x1), .val (.long x2), .second, .val (.int ((((((0 : Int32) + (f2 x2 (0 : Int32))) + (f2 x2 (1 : Int32))) + (f2 x2 (2 : Int32))) + (f2 x2 (3 : Int32))) + (f2 x2 (4 : Int32))))] []))
        refine g_iload X71 hx 142 (hb hby d9_140) rfl rfl ?_
        show Go p e below s _ _ _ (T71.setTop (mkF m 142 #[.val (.ref x0), .val (.int x1), .val (.long x2), .second, .val (.int ((((((0 : Int32) + (f2 x2 (0 : Int32))) + (f2 x2 (1 : Int32))) + (f2 x2 (2 : Int32))) + (f2 x2 (3 : Int32))) + (f2 x2 (4 : Int32))))] [(.int ((((((0 : Int32) + (f2 x2 (0 : Int32))) + (f2 x2 (1 : Int32))) + (f2 x2 (2 : Int32))) + (f2 x2 (3 : Int32))) + (f2 x2 (4 : Int32))))]))
        refine g_lloadN X71 hx 143 (hb hby d9_142) rfl rfl ?_
        show Go p e below s _ _ _ (T71.setTop (mkF m 143 #[.val (.ref x0), .val (.int x1), .val (.long x2), .second, .val (.int ((((((0 : Int32) + (f2 x2 (0 : Int32))) + (f2 x2 (1 : Int32))) + (f2 x2 (2 : Int32))) + (f2 x2 (3 : Int32))) + (f2 x2 (4 : Int32))))] [(.long x2), (.int ((((((0 : Int32) + (f2 x2 (0 : Int32))) + (f2 x2 (1 : Int32))) + (f2 x2 (2 : Int32))) + (f2 x2 (3 : Int32))) + (f2 x2 (4 : Int32))))]))
        refine g_iconst X71 hx (5 : Int32) 144 (hb hby d9_143) rfl rfl ?_
        show Go p e below s _ _ _ (T71.setTop (mkF m 144 #[.val (.ref x0), .val (.int x1), .val (.long x2), .second, .val (.int ((((((0 : Int32) + (f2 x2 (0 : Int32))) + (f2 x2 (1 : Int32))) + (f2 x2 (2 : Int32))) + (f2 x2 (3 : Int32))) + (f2 x2 (4 : Int32))))] [(.int (5 : Int32)), (.long x2), (.int ((((((0 : Int32) + (f2 x2 (0 : Int32))) + (f2 x2 (1 : Int32))) + (f2 x2 (2 : Int32))) + (f2 x2 (3 : Int32))) + (f2 x2 (4 : Int32))))]))
        refine g_callS X71 hx hZ hown (hw _ (List.mem_of_getElem? (i := 6) rfl)) (hw _ (List.mem_of_getElem? (i := 7) rfl)) (hw _ (List.mem_of_getElem? (i := 4) rfl)) (hw _ (List.mem_of_getElem? (i := 8) rfl)) (by decide) e71 (rm2 l Z a0 hw [] x2 (5 : Int32) h0) [(.long x2), (.int (5 : Int32))] [(.int ((((((0 : Int32) + (f2 x2 (0 : Int32))) + (f2 x2 (1 : Int32))) + (f2 x2 (2 : Int32))) + (f2 x2 (3 : Int32))) + (f2 x2 (4 : Int32))))] 1 rfl (lenOf pd__28JI_29I rfl) rfl (Nat.le_of_eq rfl) (by decide) (by decide) (by decide) (by decide) (by rw [hml]; rfl) (hb hby d9_144) ?_
        intro T73 L73 v73 X73 q73
        obtain ⟨rfl, rfl, e73⟩ := q73
        show Go p e below s _ _ _ (T73.setTop (mkF m 147 #[.val (.ref x0), .val (.int x1), .val (.long x2), .second, .val (.int ((((((0 : Int32) + (f2 x2 (0 : Int32))) + (f2 x2 (1 : Int32))) + (f2 x2 (2 : Int32))) + (f2 x2 (3 : Int32))) + (f2 x2 (4 : Int32))))] [(.int (f2 x2 (5 : Int32))), (.int ((((((0 : Int32) + (f2 x2 (0 : Int32))) + (f2 x2 (1 : Int32))) + (f2 x2 (2 : Int32))) + (f2 x2 (3 : Int32))) + (f2 x2 (4 : Int32))))]))
        refine g_iadd X73 hx 148 (hb hby d9_147) rfl ?_
        show Go p e below s _ _ _ (T73.setTop (mkF m 148 #[.val (.ref x0), .val (.int x1), .val (.long x2), .second, .val (.int ((((((0 : Int32) + (f2 x2 (0 : Int32))) + (f2 x2 (1 : Int32))) + (f2 x2 (2 : Int32))) + (f2 x2 (3 : Int32))) + (f2 x2 (4 : Int32))))] [(.int (((((((0 : Int32) + (f2 x2 (0 : Int32))) + (f2 x2 (1 : Int32))) + (f2 x2 (2 : Int32))) + (f2 x2 (3 : Int32))) + (f2 x2 (4 : Int32))) + (f2 x2 (5 : Int32))))]))
        refine g_istore X73 hx #[.val (.ref x0), .val (.int x1), .val (.long x2), .second, .val (.int (((((((0 : Int32) + (f2 x2 (0 : Int32))) + (f2 x2 (1 : Int32))) + (f2 x2 (2 : Int32))) + (f2 x2 (3 : Int32))) + (f2 x2 (4 : Int32))) + (f2 x2 (5 : Int32))))] 150 (hb hby d9_148) rfl rfl ?_
        show Go p e below s _ _ _ (T73.setTop (mkF m 150 #[.val (.ref x0), .val (.int x1), .val (.long x2), .second, .val (.int (((((((0 : Int32) + (f2 x2 (0 : Int32))) + (f2 x2 (1 : Int32))) + (f2 x2 (2 : Int32))) + (f2 x2 (3 : Int32))) + (f2 x2 (4 : Int32))) + (f2 x2 (5 : Int32))))] []))
        refine g_iconst X73 hx (5 : Int32) 151 (hb hby d9_150) rfl rfl ?_
        show Go p e below s _ _ _ (T73.setTop (mkF m 151 #[.val (.ref x0), .val (.int x1), .val (.long x2), .second, .val (.int (((((((0 : Int32) + (f2 x2 (0 : Int32))) + (f2 x2 (1 : Int32))) + (f2 x2 (2 : Int32))) + (f2 x2 (3 : Int32))) + (f2 x2 (4 : Int32))) + (f2 x2 (5 : Int32))))] [(.int (5 : Int32))]))
        refine g_iloadN X73 hx 152 (hb hby d9_151) rfl rfl ?_
        show Go p e below s _ _ _ (T73.setTop (mkF m 152 #[.val (.ref x0), .val (.int x1), .val (.long x2), .second, .val (.int (((((((0 : Int32) + (f2 x2 (0 : Int32))) + (f2 x2 (1 : Int32))) + (f2 x2 (2 : Int32))) + (f2 x2 (3 : Int32))) + (f2 x2 (4 : Int32))) + (f2 x2 (5 : Int32))))] [(.int x1), (.int (5 : Int32))]))
        have h74 : ¬ ((5 : Int32) < x1) := fun q => h12 (Int32.lt_trans (by decide) q)
        refine g_icmp_ge X73 hx 165 155 (hb hby d9_152) (by decide) rfl rfl (fun q => absurd q h74) (fun _ => ?_)
        show Go p e below s _ _ _ (T73.setTop (mkF m 165 #[.val (.ref x0), .val (.int x1), .val (.long x2), .second, .val (.int (((((((0 : Int32) + (f2 x2 (0 : Int32))) + (f2 x2 (1 : Int32))) + (f2 x2 (2 : Int32))) + (f2 x2 (3 : Int32))) + (f2 x2 (4 : Int32))) + (f2 x2 (5 : Int32))))] []))
        refine g_iload X73 hx 167 (hb hby d9_165) rfl rfl ?_
        show Go p e below s _ _ _ (T73.setTop (mkF m 167 #[.val (.ref x0), .val (.int x1), .val (.long x2), .second, .val (.int (((((((0 : Int32) + (f2 x2 (0 : Int32))) + (f2 x2 (1 : Int32))) + (f2 x2 (2 : Int32))) + (f2 x2 (3 : Int32))) + (f2 x2 (4 : Int32))) + (f2 x2 (5 : Int32))))] [(.int (((((((0 : Int32) + (f2 x2 (0 : Int32))) + (f2 x2 (1 : Int32))) + (f2 x2 (2 : Int32))) + (f2 x2 (3 : Int32))) + (f2 x2 (4 : Int32))) + (f2 x2 (5 : Int32))))]))
        refine g_lloadN X73 hx 168 (hb hby d9_167) rfl rfl ?_
        show Go p e below s _ _ _ (T73.setTop (mkF m 168 #[.val (.ref x0), .val (.int x1), .val (.long x2), .second, .val (.int (((((((0 : Int32) + (f2 x2 (0 : Int32))) + (f2 x2 (1 : Int32))) + (f2 x2 (2 : Int32))) + (f2 x2 (3 : Int32))) + (f2 x2 (4 : Int32))) + (f2 x2 (5 : Int32))))] [(.long x2), (.int (((((((0 : Int32) + (f2 x2 (0 : Int32))) + (f2 x2 (1 : Int32))) + (f2 x2 (2 : Int32))) + (f2 x2 (3 : Int32))) + (f2 x2 (4 : Int32))) + (f2 x2 (5 : Int32))))]))
        refine g_bipush X73 hx (6 : Int32) 170 (hb hby d9_168) rfl rfl ?_
        show Go p e below s _ _ _ (T73.setTop (mkF m 170 #[.val (.ref x0), .val (.int x1), .val (.long x2), .second, .val (.int (((((((0 : Int32) + (f2 x2 (0 : Int32))) + (f2 x2 (1 : Int32))) + (f2 x2 (2 : Int32))) + (f2 x2 (3 : Int32))) + (f2 x2 (4 : Int32))) + (f2 x2 (5 : Int32))))] [(.int (6 : Int32)), (.long x2), (.int (((((((0 : Int32) + (f2 x2 (0 : Int32))) + (f2 x2 (1 : Int32))) + (f2 x2 (2 : Int32))) + (f2 x2 (3 : Int32))) + (f2 x2 (4 : Int32))) + (f2 x2 (5 : Int32))))]))
        refine g_callS X73 hx hZ hown (hw _ (List.mem_of_getElem? (i := 6) rfl)) (hw _ (List.mem_of_getElem? (i := 7) rfl)) (hw _ (List.mem_of_getElem? (i := 4) rfl)) (hw _ (List.mem_of_getElem? (i := 8) rfl)) (by decide) e73 (rm2 l Z a0 hw [] x2 (6 : Int32) h0) [(.long x2), (.int (6 : Int32))] [(.int (((((((0 : Int32) + (f2 x2 (0 : Int32))) + (f2 x2 (1 : Int32))) + (f2 x2 (2 : Int32))) + (f2 x2 (3 : Int32))) + (f2 x2 (4 : Int32))) + (f2 x2 (5 : Int32))))] 1 rfl (lenOf pd__28JI_29I rfl) rfl (Nat.le_of_eq rfl) (by decide) (by decide) (by decide) (by decide) (by rw [hml]; rfl) (hb hby d9_170) ?_
        intro T75 L75 v75 X75 q75
        obtain ⟨rfl, rfl, e75⟩ := q75
        show Go p e below s _ _ _ (T75.setTop (mkF m 173 #[.val (.ref x0), .val (.int x1), .val (.long x2), .second, .val (.int (((((((0 : Int32) + (f2 x2 (0 : Int32))) + (f2 x2 (1 : Int32))) + (f2 x2 (2 : Int32))) + (f2 x2 (3 : Int32))) + (f2 x2 (4 : Int32))) + (f2 x2 (5 : Int32))))] [(.int (f2 x2 (6 : Int32))), (.int (((((((0 : Int32) + (f2 x2 (0 : Int32))) + (f2 x2 (1 : Int32))) + (f2 x2 (2 : Int32))) + (f2 x2 (3 : Int32))) + (f2 x2 (4 : Int32))) + (f2 x2 (5 : Int32))))]))
        refine g_iadd X75 hx 174 (hb hby d9_173) rfl ?_
        show Go p e below s _ _ _ (T75.setTop (mkF m 174 #[.val (.ref x0), .val (.int x1), .val (.long x2), .second, .val (.int (((((((0 : Int32) + (f2 x2 (0 : Int32))) + (f2 x2 (1 : Int32))) + (f2 x2 (2 : Int32))) + (f2 x2 (3 : Int32))) + (f2 x2 (4 : Int32))) + (f2 x2 (5 : Int32))))] [(.int ((((((((0 : Int32) + (f2 x2 (0 : Int32))) + (f2 x2 (1 : Int32))) + (f2 x2 (2 : Int32))) + (f2 x2 (3 : Int32))) + (f2 x2 (4 : Int32))) + (f2 x2 (5 : Int32))) + (f2 x2 (6 : Int32))))]))
        refine g_istore X75 hx #[.val (.ref x0), .val (.int x1), .val (.long x2), .second, .val (.int ((((((((0 : Int32) + (f2 x2 (0 : Int32))) + (f2 x2 (1 : Int32))) + (f2 x2 (2 : Int32))) + (f2 x2 (3 : Int32))) + (f2 x2 (4 : Int32))) + (f2 x2 (5 : Int32))) + (f2 x2 (6 : Int32))))] 176 (hb hby d9_174) rfl rfl ?_
        show Go p e below s _ _ _ (T75.setTop (mkF m 176 #[.val (.ref x0), .val (.int x1), .val (.long x2), .second, .val (.int ((((((((0 : Int32) + (f2 x2 (0 : Int32))) + (f2 x2 (1 : Int32))) + (f2 x2 (2 : Int32))) + (f2 x2 (3 : Int32))) + (f2 x2 (4 : Int32))) + (f2 x2 (5 : Int32))) + (f2 x2 (6 : Int32))))] []))
        refine g_bipush X75 hx (6 : Int32) 178 (hb hby d9_176) rfl rfl ?_
        show Go p e below s _ _ _ (T75.setTop (mkF m 178 #[.val (.ref x0), .val (.int x1), .val (.long x2), .second, .val (.int ((((((((0 : Int32) + (f2 x2 (0 : Int32))) + (f2 x2 (1 : Int32))) + (f2 x2 (2 : Int32))) + (f2 x2 (3 : Int32))) + (f2 x2 (4 : Int32))) + (f2 x2 (5 : Int32))) + (f2 x2 (6 : Int32))))] [(.int (6 : Int32))]))
        refine g_iloadN X75 hx 179 (hb hby d9_178) rfl rfl ?_
        show Go p e below s _ _ _ (T75.setTop (mkF m 179 #[.val (.ref x0), .val (.int x1), .val (.long x2), .second, .val (.int ((((((((0 : Int32) + (f2 x2 (0 : Int32))) + (f2 x2 (1 : Int32))) + (f2 x2 (2 : Int32))) + (f2 x2 (3 : Int32))) + (f2 x2 (4 : Int32))) + (f2 x2 (5 : Int32))) + (f2 x2 (6 : Int32))))] [(.int x1), (.int (6 : Int32))]))
        have h76 : ¬ ((6 : Int32) < x1) := fun q => h12 (Int32.lt_trans (by decide) q)
        refine g_icmp_ge X75 hx 193 182 (hb hby d9_179) (by decide) rfl rfl (fun q => absurd q h76) (fun _ => ?_)
        show Go p e below s _ _ _ (T75.setTop (mkF m 193 #[.val (.ref x0), .val (.int x1), .val (.long x2), .second, .val (.int ((((((((0 : Int32) + (f2 x2 (0 : Int32))) + (f2 x2 (1 : Int32))) + (f2 x2 (2 : Int32))) + (f2 x2 (3 : Int32))) + (f2 x2 (4 : Int32))) + (f2 x2 (5 : Int32))) + (f2 x2 (6 : Int32))))] []))
        refine g_iload X75 hx 195 (hb hby d9_193) rfl rfl ?_
        show Go p e below s _ _ _ (T75.setTop (mkF m 195 #[.val (.ref x0), .val (.int x1), .val (.long x2), .second, .val (.int ((((((((0 : Int32) + (f2 x2 (0 : Int32))) + (f2 x2 (1 : Int32))) + (f2 x2 (2 : Int32))) + (f2 x2 (3 : Int32))) + (f2 x2 (4 : Int32))) + (f2 x2 (5 : Int32))) + (f2 x2 (6 : Int32))))] [(.int ((((((((0 : Int32) + (f2 x2 (0 : Int32))) + (f2 x2 (1 : Int32))) + (f2 x2 (2 : Int32))) + (f2 x2 (3 : Int32))) + (f2 x2 (4 : Int32))) + (f2 x2 (5 : Int32))) + (f2 x2 (6 : Int32))))]))
        refine g_lloadN X75 hx 196 (hb hby d9_195) rfl rfl ?_
        show Go p e below s _ _ _ (T75.setTop (mkF m 196 #[.val (.ref x0), .val (.int x1), .val (.long x2), .second, .val (.int ((((((((0 : Int32) + (f2 x2 (0 : Int32))) + (f2 x2 (1 : Int32))) + (f2 x2 (2 : Int32))) + (f2 x2 (3 : Int32))) + (f2 x2 (4 : Int32))) + (f2 x2 (5 : Int32))) + (f2 x2 (6 : Int32))))] [(.long x2), (.int ((((((((0 : Int32) + (f2 x2 (0 : Int32))) + (f2 x2 (1 : Int32))) + (f2 x2 (2 : Int32))) + (f2 x2 (3 : Int32))) + (f2 x2 (4 : Int32))) + (f2 x2 (5 : Int32))) + (f2 x2 (6 : Int32))))]))
        refine g_bipush X75 hx (7 : Int32) 198 (hb hby d9_196) rfl rfl ?_
        show Go p e below s _ _ _ (T75.setTop (mkF m 198 #[.val (.ref x0), .val (.int x1), .val (.long x2), .second, .val (.int ((((((((0 : Int32) + (f2 x2 (0 : Int32))) + (f2 x2 (1 : Int32))) + (f2 x2 (2 : Int32))) + (f2 x2 (3 : Int32))) + (f2 x2 (4 : Int32))) + (f2 x2 (5 : Int32))) + (f2 x2 (6 : Int32))))] [(.int (7 : Int32)), (.long x2), (.int ((((((((0 : Int32) + (f2 x2 (0 : Int32))) + (f2 x2 (1 : Int32))) + (f2 x2 (2 : Int32))) + (f2 x2 (3 : Int32))) + (f2 x2 (4 : Int32))) + (f2 x2 (5 : Int32))) + (f2 x2 (6 : Int32))))]))
        refine g_callS X75 hx hZ hown (hw _ (List.mem_of_getElem? (i := 6) rfl)) (hw _ (List.mem_of_getElem? (i := 7) rfl)) (hw _ (List.mem_of_getElem? (i := 4) rfl)) (hw _ (List.mem_of_getElem? (i := 8) rfl)) (by decide) e75 (rm2 l Z a0 hw [] x2 (7 : Int32) h0) [(.long x2), (.int (7 : Int32))] [(.int ((((((((0 : Int32) + (f2 x2 (0 : Int32))) + (f2 x2 (1 : Int32))) + (f2 x2 (2 : Int32))) + (f2 x2 (3 : Int32))) + (f2 x2 (4 : Int32))) + (f2 x2 (5 : Int32))) + (f2 x2 (6 : Int32))))] 1 rfl (lenOf pd__28JI_29I rfl) rfl (Nat.le_of_eq rfl) (by decide) (by decide) (by decide) (by decide) (by rw [hml]; rfl) (hb hby d9_198) ?_
        intro T77 L77 v77 X77 q77
        obtain ⟨rfl, rfl, e77⟩ := q77
        show Go p e below s _ _ _ (T77.setTop (mkF m 201 #[.val (.ref x0), .val (.int x1), .val (.long x2), .second, .val (.int ((((((((0 : Int32) + (f2 x2 (0 : Int32))) + (f2 x2 (1 : Int32))) + (f2 x2 (2 : Int32))) + (f2 x2 (3 : Int32))) + (f2 x2 (4 : Int32))) + (f2 x2 (5 : Int32))) + (f2 x2 (6 : Int32))))] [(.int (f2 x2 (7 : Int32))), (.int ((((((((0 : Int32) + (f2 x2 (0 : Int32))) + (f2 x2 (1 : Int32))) + (f2 x2 (2 : Int32))) + (f2 x2 (3 : Int32))) + (f2 x2 (4 : Int32))) + (f2 x2 (5 : Int32))) + (f2 x2 (6 : Int32))))]))
        refine g_iadd X77 hx 202 (hb hby d9_201) rfl ?_
        show Go p e below s _ _ _ (T77.setTop (mkF m 202 #[.val (.ref x0), .val (.int x1), .val (.long x2), .second, .val (.int ((((((((0 : Int32) + (f2 x2 (0 : Int32))) + (f2 x2 (1 : Int32))) + (f2 x2 (2 : Int32))) + (f2 x2 (3 : Int32))) + (f2 x2 (4 : Int32))) + (f2 x2 (5 : Int32))) + (f2 x2 (6 : Int32))))] [(.int (((((((((0 : Int32) + (f2 x2 (0 : Int32))) + (f2 x2 (1 : Int32))) + (f2 x2 (2 : Int32))) + (f2 x2 (3 : Int32))) + (f2 x2 (4 : Int32))) + (f2 x2 (5 : Int32))) + (f2 x2 (6 : Int32))) + (f2 x2 (7 : Int32))))]))
        refine g_istore X77 hx #[.val (.ref x0), .val (.int x1), .val (.long x2), .second, .val (.int (((((((((0 : Int32) + (f2 x2 (0 : Int32))) + (f2 x2 (1 : Int32))) + (f2 x2 (2 : Int32))) + (f2 x2 (3 : Int32))) + (f2 x2 (4 : Int32))) + (f2 x2 (5 : Int32))) + (f2 x2 (6 : Int32))) + (f2 x2 (7 : Int32))))] 204 (hb hby d9_202) rfl rfl ?_
        show Go p e below s _ _ _ (T77.setTop (mkF m 204 #[.val (.ref x0), .val (.int x1), .val (.long x2), .second, .val (.int (((((((((0 : Int32) + (f2 x2 (0 : Int32))) + (f2 x2 (1 : Int32))) + (f2 x2 (2 : Int32))) + (f2 x2 (3 : Int32))) + (f2 x2 (4 : Int32))) + (f2 x2 (5 : Int32))) + (f2 x2 (6 : Int32))) + (f2 x2 (7 : Int32))))] []))
        refine g_bipush X77 hx (7 : Int32) 206 (hb hby d9_204) rfl rfl ?_
        show Go p e below s _ _ _ (T77.setTop (mkF m 206 #[.val (.ref x0), .val (.int x1), .val (.long x2), .second, .val (.int (((((((((0 : Int32) + (f2 x2 (0 : Int32))) + (f2 x2 (1 : Int32))) + (f2 x2 (2 : Int32))) + (f2 x2 (3 : Int32))) + (f2 x2 (4 : Int32))) + (f2 x2 (5 : Int32))) + (f2 x2 (6 : Int32))) + (f2 x2 (7 : Int32))))] [(.int (7 : Int32))]))
        refine g_iloadN X77 hx 207 (hb hby d9_206) rfl rfl ?_
        show Go p e below s _ _ _ (T77.setTop (mkF m 207 #[.val (.ref x0), .val (.int x1), .val (.long x2), .second, .val (.int (((((((((0 : Int32) + (f2 x2 (0 : Int32))) + (f2 x2 (1 : Int32))) + (f2 x2 (2 : Int32))) + (f2 x2 (3 : Int32))) + (f2 x2 (4 : Int32))) + (f2 x2 (5 : Int32))) + (f2 x2 (6 : Int32))) + (f2 x2 (7 : Int32))))] [(.int x1), (.int (7 : Int32))]))
        have h78 : ¬ ((7 : Int32) < x1) := fun q => h12 (Int32.lt_trans (by decide) q)
        refine g_icmp_ge X77 hx 221 210 (hb hby d9_207) (by decide) rfl rfl (fun q => absurd q h78) (fun _ => ?_)
        show Go p e below s _ _ _ (T77.setTop (mkF m 221 #[.val (.ref x0), .val (.int x1), .val (.long x2), .second, .val (.int (((((((((0 : Int32) + (f2 x2 (0 : Int32))) + (f2 x2 (1 : Int32))) + (f2 x2 (2 : Int32))) + (f2 x2 (3 : Int32))) + (f2 x2 (4 : Int32))) + (f2 x2 (5 : Int32))) + (f2 x2 (6 : Int32))) + (f2 x2 (7 : Int32))))] []))
        refine g_iload X77 hx 223 (hb hby d9_221) rfl rfl ?_
        show Go p e below s _ _ _ (T77.setTop (mkF m 223 #[.val (.ref x0), .val (.int x1), .val (.long x2), .second, .val (.int (((((((((0 : Int32) + (f2 x2 (0 : Int32))) + (f2 x2 (1 : Int32))) + (f2 x2 (2 : Int32))) + (f2 x2 (3 : Int32))) + (f2 x2 (4 : Int32))) + (f2 x2 (5 : Int32))) + (f2 x2 (6 : Int32))) + (f2 x2 (7 : Int32))))] [(.int (((((((((0 : Int32) + (f2 x2 (0 : Int32))) + (f2 x2 (1 : Int32))) + (f2 x2 (2 : Int32))) + (f2 x2 (3 : Int32))) + (f2 x2 (4 : Int32))) + (f2 x2 (5 : Int32))) + (f2 x2 (6 : Int32))) + (f2 x2 (7 : Int32))))]))
        refine g_lloadN X77 hx 224 (hb hby d9_223) rfl rfl ?_
        show Go p e below s _ _ _ (T77.setTop (mkF m 224 #[.val (.ref x0), .val (.int x1), .val (.long x2), .second, .val (.int (((((((((0 : Int32) + (f2 x2 (0 : Int32))) + (f2 x2 (1 : Int32))) + (f2 x2 (2 : Int32))) + (f2 x2 (3 : Int32))) + (f2 x2 (4 : Int32))) + (f2 x2 (5 : Int32))) + (f2 x2 (6 : Int32))) + (f2 x2 (7 : Int32))))] [(.long x2), (.int (((((((((0 : Int32) + (f2 x2 (0 : Int32))) + (f2 x2 (1 : Int32))) + (f2 x2 (2 : Int32))) + (f2 x2 (3 : Int32))) + (f2 x2 (4 : Int32))) + (f2 x2 (5 : Int32))) + (f2 x2 (6 : Int32))) + (f2 x2 (7 : Int32))))]))
        refine g_bipush X77 hx (8 : Int32) 226 (hb hby d9_224) rfl rfl ?_
        show Go p e below s _ _ _ (T77.setTop (mkF m 226 #[.val (.ref x0), .val (.int x1), .val (.long x2), .second, .val (.int (((((((((0 : Int32) + (f2 x2 (0 : Int32))) + (f2 x2 (1 : Int32))) + (f2 x2 (2 : Int32))) + (f2 x2 (3 : Int32))) + (f2 x2 (4 : Int32))) + (f2 x2 (5 : Int32))) + (f2 x2 (6 : Int32))) + (f2 x2 (7 : Int32))))] [(.int (8 : Int32)), (.long x2), (.int (((((((((0 : Int32) + (f2 x2 (0 : Int32))) + (f2 x2 (1 : Int32))) + (f2 x2 (2 : Int32))) + (f2 x2 (3 : Int32))) + (f2 x2 (4 : Int32))) + (f2 x2 (5 : Int32))) + (f2 x2 (6 : Int32))) + (f2 x2 (7 : Int32))))]))
        refine g_callS X77 hx hZ hown (hw _ (List.mem_of_getElem? (i := 6) rfl)) (hw _ (List.mem_of_getElem? (i := 7) rfl)) (hw _ (List.mem_of_getElem? (i := 4) rfl)) (hw _ (List.mem_of_getElem? (i := 8) rfl)) (by decide) e77 (rm2 l Z a0 hw [] x2 (8 : Int32) h0) [(.long x2), (.int (8 : Int32))] [(.int (((((((((0 : Int32) + (f2 x2 (0 : Int32))) + (f2 x2 (1 : Int32))) + (f2 x2 (2 : Int32))) + (f2 x2 (3 : Int32))) + (f2 x2 (4 : Int32))) + (f2 x2 (5 : Int32))) + (f2 x2 (6 : Int32))) + (f2 x2 (7 : Int32))))] 1 rfl (lenOf pd__28JI_29I rfl) rfl (Nat.le_of_eq rfl) (by decide) (by decide) (by decide) (by decide) (by rw [hml]; rfl) (hb hby d9_226) ?_
        intro T79 L79 v79 X79 q79
        obtain ⟨rfl, rfl, e79⟩ := q79
        show Go p e below s _ _ _ (T79.setTop (mkF m 229 #[.val (.ref x0), .val (.int x1), .val (.long x2), .second, .val (.int (((((((((0 : Int32) + (f2 x2 (0 : Int32))) + (f2 x2 (1 : Int32))) + (f2 x2 (2 : Int32))) + (f2 x2 (3 : Int32))) + (f2 x2 (4 : Int32))) + (f2 x2 (5 : Int32))) + (f2 x2 (6 : Int32))) + (f2 x2 (7 : Int32))))] [(.int (f2 x2 (8 : Int32))), (.int (((((((((0 : Int32) + (f2 x2 (0 : Int32))) + (f2 x2 (1 : Int32))) + (f2 x2 (2 : Int32))) + (f2 x2 (3 : Int32))) + (f2 x2 (4 : Int32))) + (f2 x2 (5 : Int32))) + (f2 x2 (6 : Int32))) + (f2 x2 (7 : Int32))))]))
        refine g_iadd X79 hx 230 (hb hby d9_229) rfl ?_
        show Go p e below s _ _ _ (T79.setTop (mkF m 230 #[.val (.ref x0), .val (.int x1), .val (.long x2), .second, .val (.int (((((((((0 : Int32) + (f2 x2 (0 : Int32))) + (f2 x2 (1 : Int32))) + (f2 x2 (2 : Int32))) + (f2 x2 (3 : Int32))) + (f2 x2 (4 : Int32))) + (f2 x2 (5 : Int32))) + (f2 x2 (6 : Int32))) + (f2 x2 (7 : Int32))))] [(.int ((((((((((0 : Int32) + (f2 x2 (0 : Int32))) + (f2 x2 (1 : Int32))) + (f2 x2 (2 : Int32))) + (f2 x2 (3 : Int32))) + (f2 x2 (4 : Int32))) + (f2 x2 (5 : Int32))) + (f2 x2 (6 : Int32))) + (f2 x2 (7 : Int32))) + (f2 x2 (8 : Int32))))]))
        refine g_istore X79 hx #[.val (.ref x0), .val (.int x1), .val (.long x2), .second, .val (.int ((((((((((0 : Int32) + (f2 x2 (0 : Int32))) + (f2 x2 (1 : Int32))) + (f2 x2 (2 : Int32))) + (f2 x2 (3 : Int32))) + (f2 x2 (4 : Int32))) + (f2 x2 (5 : Int32))) + (f2 x2 (6 : Int32))) + (f2 x2 (7 : Int32))) + (f2 x2 (8 : Int32))))] 232 (hb hby d9_230) rfl rfl ?_
        show Go p e below s _ _ _ (T79.setTop (mkF m 232 #[.val (.ref x0), .val (.int x1), .val (.long x2), .second, .val (.int ((((((((((0 : Int32) + (f2 x2 (0 : Int32))) + (f2 x2 (1 : Int32))) + (f2 x2 (2 : Int32))) + (f2 x2 (3 : Int32))) + (f2 x2 (4 : Int32))) + (f2 x2 (5 : Int32))) + (f2 x2 (6 : Int32))) + (f2 x2 (7 : Int32))) + (f2 x2 (8 : Int32))))] []))
        refine g_bipush X79 hx (8 : Int32) 234 (hb hby d9_232) rfl rfl ?_
        show Go p e below s _ _ _ (T79.setTop (mkF m 234 #[.val (.ref x0), .val (.int x1), .val (.long x2), .second, .val (.int ((((((((((0 : Int32) + (f2 x2 (0 : Int32))) + (f2 x2 (1 : Int32))) + (f2 x2 (2 : Int32))) + (f2 x2 (3 : Int32))) + (f2 x2 (4 : Int32))) + (f2 x2 (5 : Int32))) + (f2 x2 (6 : Int32))) + (f2 x2 (7 : Int32))) + (f2 x2 (8 : Int32))))] [(.int (8 : Int32))]))
        refine g_iloadN X79 hx 235 (hb hby d9_234) rfl rfl ?_
        show Go p e below s _ _ _ (T79.setTop (mkF m 235 #[.val (.ref x0), .val (.int x1), .val (.long x2), .second, .val (.int ((((((((((0 : Int32) + (f2 x2 (0 : Int32))) + (f2 x2 (1 : Int32))) + (f2 x2 (2 : Int32))) + (f2 x2 (3 : Int32))) + (f2 x2 (4 : Int32))) + (f2 x2 (5 : Int32))) + (f2 x2 (6 : Int32))) + (f2 x2 (7 : Int32))) + (f2 x2 (8 : Int32))))] [(.int x1), (.int (8 : Int32))]))
        have h80 : ¬ ((8 : Int32) < x1) := fun q => h12 (Int32.lt_trans (by decide) q)
        refine g_icmp_ge X79 hx 249 238 (hb hby d9_235) (by decide) rfl rfl (fun q => absurd q h80) (fun _ => ?_)
        show Go p e below s _ _ _ (T79.setTop (mkF m 249 #[.val (.ref x0), .val (.int x1), .val (.long x2), .second, .val (.int ((((((((((0 : Int32) + (f2 x2 (0 : Int32))) + (f2 x2 (1 : Int32))) + (f2 x2 (2 : Int32))) + (f2 x2 (3 : Int32))) + (f2 x2 (4 : Int32))) + (f2 x2 (5 : Int32))) + (f2 x2 (6 : Int32))) + (f2 x2 (7 : Int32))) + (f2 x2 (8 : Int32))))] []))
        refine g_iconst X79 hx (1 : Int32) 250 (hb hby d9_249) rfl rfl ?_
        show Go p e below s _ _ _ (T79.setTop (mkF m 250 #[.val (.ref x0), .val (.int x1), .val (.long x2), .second, .val (.int ((((((((((0 : Int32) + (f2 x2 (0 : Int32))) + (f2 x2 (1 : Int32))) + (f2 x2 (2 : Int32))) + (f2 x2 (3 : Int32))) + (f2 x2 (4 : Int32))) + (f2 x2 (5 : Int32))) + (f2 x2 (6 : Int32))) + (f2 x2 (7 : Int32))) + (f2 x2 (8 : Int32))))] [(.int (1 : Int32))]))
        exact g_retN X79 hx hret (by simp) hlk (hb hby d9_250) (by decide) (by decide) ⟨rfl, rfl, e79⟩
    · show Go p e below s _ _ _ (T7.setTop (mkF m 65 #[.val (.ref x0), .val (.int x1), .val (.long x2), .second, .val (.int (((0 : Int32) + (f2 x2 (0 : Int32))) + (f2 x2 (1 : Int32))))] []))
      refine g_iload X7 hx 67 (hb hby d9_65) rfl rfl ?_
      show Go p e below s _ _ _ (T7.setTop (mkF m 67 #[.val (.ref x0), .val (.int x1), .val (.long x2), .second, .val (.int (((0 : Int32) + (f2 x2 (0 : Int32))) + (f2 x2 (1 : Int32))))] [(.int (((0 : Int32) + (f2 x2 (0 : Int32))) + (f2 x2 (1 : Int32))))]))
      refine g_lloadN X7 hx 68 (hb hby d9_67) rfl rfl ?_
      show Go p e below s _ _ _ (T7.setTop (mkF m 68 #[.val (.ref x0), .val (.int x1), .val (.long x2), .second, .val (.int (((0 : Int32) + (f2 x2 (0 : Int32))) + (f2 x2 (1 : Int32))))] [(.long x2), (.int (((0 : Int32) + (f2 x2 (0 : Int32))) + (f2 x2 (1 : Int32))))]))
      refine g_iconst X7 hx (2 : Int32) 69 (hb hby d9_68) rfl rfl ?_
      show Go p e below s _ _ _ (T7.setTop (mkF m 69 #[.val (.ref x0), .val (.int x1), .val (.long x2), .second, .val (.int (((0 : Int32) + (f2 x2 (0 : Int32))) + (f2 x2 (1 : Int32))))] [(.int (2 : Int32)), (.long x2), (.int (((0 : Int32) + (f2 x2 (0 : Int32))) + (f2 x2 (1 : Int32))))]))
      refine g_callS X7 hx hZ hown (hw _ (List.mem_of_getElem? (i := 6) rfl)) (hw _ (List.mem_of_getElem? (i := 7) rfl)) (hw _ (List.mem_of_getElem? (i := 4) rfl)) (hw _ (List.mem_of_getElem? (i := 8) rfl)) (by decide) e7 (rm2 l Z a0 hw [] x2 (2 : Int32) h0) [(.long x2), (.int (2 : Int32))] [(.int (((0 : Int32) + (f2 x2 (0 : Int32))) + (f2 x2 (1 : Int32))))] 1 rfl (lenOf pd__28JI_29I rfl) rfl (Nat.le_of_eq rfl) (by decide) (by decide) (by decide) (by decide) (by rw [hml]; rfl) (hb hby d9_69) ?_
      intro T81 L81 v81 X81 q81
      obtain ⟨rfl, rfl, e81⟩ := q81
      show Go p e below s _ _ _ (T81.setTop (mkF m 72 #[.val (.ref x0), .val (.int x1), .val (.long x2), .second, .val (.int (((0 : Int32) + (f2 x2 (0 : Int32))) + (f2 x2 (1 : Int32))))] [(.int (f2 x2 (2 : Int32))), (.int (((0 : Int32) + (f2 x2 (0 : Int32))) + (f2 x2 (1 : Int32))))]))
      refine g_iadd X81 hx 73 (hb hby d9_72) rfl ?_
      show Go p e below s _ _ _ (T81.setTop (mkF m 73 #[.val (.ref x0), .val (.int x1), .val (.long x2), .second, .val (.int (((0 : Int32) + (f2 x2 (0 : Int32))) + (f2 x2 (1 : Int32))))] [(.int ((((0 : Int32) + (f2 x2 (0 : Int32))) + (f2 x2 (1 : Int32))) + (f2 x2 (2 : Int32))))]))
      refine g_istore X81 hx #[.val (.ref x0), .val (.int x1), .val (.long x2), .second, .val (.int ((((0 : Int32) + (f2 x2 (0 : Int32))) + (f2 x2 (1 : Int32))) + (f2 x2 (2 : Int32))))] 75 (hb hby d9_73) rfl rfl ?_
      show Go p e below s _ _ _ (T81.setTop (mkF m 75 #[.val (.ref x0), .val (.int x1), .val (.long x2), .second, .val (.int ((((0 : Int32) + (f2 x2 (0 : Int32))) + (f2 x2 (1 : Int32))) + (f2 x2 (2 : Int32))))] []))
      refine g_iconst X81 hx (2 : Int32) 76 (hb hby d9_75) rfl rfl ?_
      show Go p e below s _ _ _ (T81.setTop (mkF m 76 #[.val (.ref x0), .val (.int x1), .val (.long x2), .second, .val (.int ((((0 : Int32) + (f2 x2 (0 : Int32))) + (f2 x2 (1 : Int32))) + (f2 x2 (2 : Int32))))] [(.int (2 : Int32))]))
      refine g_iloadN X81 hx 77 (hb hby d9_76) rfl rfl ?_
      show Go p e below s _ _ _ (T81.setTop (mkF m 77 #[.val (.ref x0), .val (.int x1), .val (.long x2), .second, .val (.int ((((0 : Int32) + (f2 x2 (0 : Int32))) + (f2 x2 (1 : Int32))) + (f2 x2 (2 : Int32))))] [(.int x1), (.int (2 : Int32))]))
      have h82 : ¬ ((2 : Int32) < x1) := fun q => h8 (Int32.lt_trans (by decide) q)
      refine g_icmp_ge X81 hx 90 80 (hb hby d9_77) (by decide) rfl rfl (fun q => absurd q h82) (fun _ => ?_)
      show Go p e below s _ _ _ (T81.setTop (mkF m 90 #[.val (.ref x0), .val (.int x1), .val (.long x2), .second, .val (.int ((((0 : Int32) + (f2 x2 (0 : Int32))) + (f2 x2 (1 : Int32))) + (f2 x2 (2 : Int32))))] []))
      refine g_iload X81 hx 92 (hb hby d9_90) rfl rfl ?_
      show Go p e below s _ _ _ (T81.setTop (mkF m 92 #[.val (.ref x0), .val (.int x1), .val (.long x2), .second, .val (.int ((((0 : Int32) + (f2 x2 (0 : Int32))) + (f2 x2 (1 : Int32))) + (f2 x2 (2 : Int32))))] [(.int ((((0 : Int32) + (f2 x2 (0 : Int32))) + (f2 x2 (1 : Int32))) + (f2 x2 (2 : Int32))))]))
      refine g_lloadN X81 hx 93 (hb hby d9_92) rfl rfl ?_
      show Go p e below s _ _ _ (T81.setTop (mkF m 93 #[.val (.ref x0), .val (.int x1), .val (.long x2), .second, .val (.int ((((0 : Int32) + (f2 x2 (0 : Int32))) + (f2 x2 (1 : Int32))) + (f2 x2 (2 : Int32))))] [(.long x2), (.int ((((0 : Int32) + (f2 x2 (0 : Int32))) + (f2 x2 (1 : Int32))) + (f2 x2 (2 : Int32))))]))
      refine g_iconst X81 hx (3 : Int32) 94 (hb hby d9_93) rfl rfl ?_
      show Go p e below s _ _ _ (T81.setTop (mkF m 94 #[.val (.ref x0), .val (.int x1), .val (.long x2), .second, .val (.int ((((0 : Int32) + (f2 x2 (0 : Int32))) + (f2 x2 (1 : Int32))) + (f2 x2 (2 : Int32))))] [(.int (3 : Int32)), (.long x2), (.int ((((0 : Int32) + (f2 x2 (0 : Int32))) + (f2 x2 (1 : Int32))) + (f2 x2 (2 : Int32))))]))
      refine g_callS X81 hx hZ hown (hw _ (List.mem_of_getElem? (i := 6) rfl)) (hw _ (List.mem_of_getElem? (i := 7) rfl)) (hw _ (List.mem_of_getElem? (i := 4) rfl)) (hw _ (List.mem_of_getElem? (i := 8) rfl)) (by decide) e81 (rm2 l Z a0 hw [] x2 (3 : Int32) h0) [(.long x2), (.int (3 : Int32))] [(.int ((((0 : Int32) + (f2 x2 (0 : Int32))) + (f2 x2 (1 : Int32))) + (f2 x2 (2 : Int32))))] 1 rfl (lenOf pd__28JI_29I rfl) rfl (Nat.le_of_eq rfl) (by decide) (by decide) (by decide) (by decide) (by rw [hml]; rfl) (hb hby d9_94) ?_
      intro T83 L83 v83 X83 q83
      obtain ⟨rfl, rfl, e83⟩ := q83
      show Go p e below s _ _ _ (T83.setTop (mkF m 97 #[.val (.ref x0), .val (.int x1), .val (.long x2), .second, .val (.int ((((0 : Int32) + (f2 x2 (0 : Int32))) + (f2 x2 (1 : Int32))) + (f2 x2 (2 : Int32))))] [(.int (f2 x2 (3 : Int32))), (.int ((((0 : Int32) + (f2 x2 (0 : Int32))) + (f2 x2 (1 : Int32))) + (f2 x2 (2 : Int32))))]))
      refine g_iadd X83 hx 98 (hb hby d9_97) rfl ?_
      show Go p e below s _ _ _ (T83.setTop (mkF m 98 #[.val (.ref x0), .val (.int x1), .val (.long x2), .second, .val (.int ((((0 : Int32) + (f2 x2 (0 : Int32))) + (f2 x2 (1 : Int32))) + (f2 x2 (2 : Int32))))] [(.int (((((0 : Int32) + (f2 x2 (0 : Int32))) + (f2 x2 (1 : Int32))) + (f2 x2 (2 : Int32))) + (f2 x2 (3 : Int32))))]))
      refine g_istore X83 hx #[.val (.ref x0), .val (.int x1), .val (.long x2), .second, .val (.int (((((0 : Int32) + (f2 x2 (0 : Int32))) + (f2 x2 (1 : Int32))) + (f2 x2 (2 : Int32))) + (f2 x2 (3 : Int32))))] 100 (hb hby d9_98) rfl rfl ?_
      show Go p e below s _ _ _ (T83.setTop (mkF m 100 #[.val (.ref x0), .val (.int x1), .val (.long x2), .second, .val (.int (((((0 : Int32) + (f2 x2 (0 : Int32))) + (f2 x2 (1 : Int32))) + (f2 x2 (2 : Int32))) + (f2 x2 (3 : Int32))))] []))
      refine g_iconst X83 hx (3 : Int32) 101 (hb hby d9_100) rfl rfl ?_
      show Go p e below s _ _ _ (T83.setTop (mkF m 101 #[.val (.ref x0), .val (.int x1), .val (.long x2), .second, .val (.int (((((0 : Int32) + (f2 x2 (0 : Int32))) + (f2 x2 (1 : Int32))) + (f2 x2 (2 : Int32))) + (f2 x2 (3 : Int32))))] [(.int (3 : Int32))]))
      refine g_iloadN X83 hx 102 (hb hby d9_101) rfl rfl ?_
      show Go p e below s _ _ _ (T83.setTop (mkF m 102 #[.val (.ref x0), .val (.int x1), .val (.long x2), .second, .val (.int (((((0 : Int32) + (f2 x2 (0 : Int32))) + (f2 x2 (1 : Int32))) + (f2 x2 (2 : Int32))) + (f2 x2 (3 : Int32))))] [(.int x1), (.int (3 : Int32))]))
      have h84 : ¬ ((3 : Int32) < x1) := fun q => h8 (Int32.lt_trans (by decide) q)
      refine g_icmp_ge X83 hx 115 105 (hb hby d9_102) (by decide) rfl rfl (fun q => absurd q h84) (fun _ => ?_)
      show Go p e below s _ _ _ (T83.setTop (mkF m 115 #[.val (.ref x0), .val (.int x1), .val (.long x2), .second, .val (.int (((((0 : Int32) + (f2 x2 (0 : Int32))) + (f2 x2 (1 : Int32))) + (f2 x2 (2 : Int32))) + (f2 x2 (3 : Int32))))] []))
      refine g_iload X83 hx 117 (hb hby d9_115) rfl rfl ?_
      show Go p e below s _ _ _ (T83.setTop (mkF m 117 #[.val (.ref x0), .val (.int x1), .val (.long x2), .second, .val (.int (((((0 : Int32) + (f2 x2 (0 : Int32))) + (f2 x2 (1 : Int32))) + (f2 x2 (2 : Int32))) + (f2 x2 (3 : Int32))))] [(.int (((((0 : Int32) + (f2 x2 (0 : Int32))) + (f2 x2 (1 : Int32))) + (f2 x2 (2 : Int32))) + (f2 x2 (3 : Int32))))]))
      refine g_lloadN X83 hx 118 (hb hby d9_117) rfl rfl ?_
      show Go p e below s _ _ _ (T83.setTop (mkF m 118 #[.val (.ref x0), .val (.int x1), .val (.long x2), .second, .val (.int (((((0 : Int32) + (f2 x2 (0 : Int32))) + (f2 x2 (1 : Int32))) + (f2 x2 (2 : Int32))) + (f2 x2 (3 : Int32))))] [(.long x2), (.int (((((0 : Int32) + (f2 x2 (0 : Int32))) + (f2 x2 (1 : Int32))) + (f2 x2 (2 : Int32))) + (f2 x2 (3 : Int32))))]))
      refine g_iconst X83 hx (4 : Int32) 119 (hb hby d9_118) rfl rfl ?_
      show Go p e below s _ _ _ (T83.setTop (mkF m 119 #[.val (.ref x0), .val (.int x1), .val (.long x2), .second, .val (.int (((((0 : Int32) + (f2 x2 (0 : Int32))) + (f2 x2 (1 : Int32))) + (f2 x2 (2 : Int32))) + (f2 x2 (3 : Int32))))] [(.int (4 : Int32)), (.long x2), (.int (((((0 : Int32) + (f2 x2 (0 : Int32))) + (f2 x2 (1 : Int32))) + (f2 x2 (2 : Int32))) + (f2 x2 (3 : Int32))))]))
      refine g_callS X83 hx hZ hown (hw _ (List.mem_of_getElem? (i := 6) rfl)) (hw _ (List.mem_of_getElem? (i := 7) rfl)) (hw _ (List.mem_of_getElem? (i := 4) rfl)) (hw _ (List.mem_of_getElem? (i := 8) rfl)) (by decide) e83 (rm2 l Z a0 hw [] x2 (4 : Int32) h0) [(.long x2), (.int (4 : Int32))] [(.int (((((0 : Int32) + (f2 x2 (0 : Int32))) + (f2 x2 (1 : Int32))) + (f2 x2 (2 : Int32))) + (f2 x2 (3 : Int32))))] 1 rfl (lenOf pd__28JI_29I rfl) rfl (Nat.le_of_eq rfl) (by decide) (by decide) (by decide) (by decide) (by rw [hml]; rfl) (hb hby d9_119) ?_
      intro T85 L85 v85 X85 q85
      obtain ⟨rfl, rfl, e85⟩ := q85
      show Go p e below s _ _ _ (T85.setTop (mkF m 122 #[.val (.ref x0), .val (.int x1), .val (.long x2), .second, .val (.int (((((0 : Int32) + (f2 x2 (0 : Int32))) + (f2 x2 (1 : Int32))) + (f2 x2 (2 : Int32))) + (f2 x2 (3 : Int32))))] [(.int (f2 x2 (4 : Int32))), (.int (((((0 : Int32) + (f2 x2 (0 : Int32))) + (f2 x2 (1 : Int32))) + (f2 x2 (2 : Int32))) + (f2 x2 (3 : Int32))))]))
      refine g_iadd X85 hx 123 (hb hby d9_122) rfl ?_
      show Go p e below s _ _ _ (T85.setTop (mkF m 123 #[.val (.ref x0), .val (.int x1), .val (.long x2), .second, .val (.int (((((0 : Int32) + (f2 x2 (0 : Int32))) + (f2 x2 (1 : Int32))) + (f2 x2 (2 : Int32))) + (f2 x2 (3 : Int32))))] [(.int ((((((0 : Int32) + (f2 x2 (0 : Int32))) + (f2 x2 (1 : Int32))) + (f2 x2 (2 : Int32))) + (f2 x2 (3 : Int32))) + (f2 x2 (4 : Int32))))]))
      refine g_istore X85 hx #[.val (.ref x0), .val (.int x1), .val (.long x2), .second, .val (.int ((((((0 : Int32) + (f2 x2 (0 : Int32))) + (f2 x2 (1 : Int32))) + (f2 x2 (2 : Int32))) + (f2 x2 (3 : Int32))) + (f2 x2 (4 : Int32))))] 125 (hb hby d9_123) rfl rfl ?_
      show Go p e below s _ _ _ (T85.setTop (mkF m 125 #[.val (.ref x0), .val (.int x1), .val (.long x2), .second, .val (.int ((((((0 : Int32) + (f2 x2 (0 : Int32))) + (f2 x2 (1 : Int32))) + (f2 x2 (2 : Int32))) + (f2 x2 (3 : Int32))) + (f2 x2 (4 : Int32))))] []))
      refine g_iconst X85 hx (4 : Int32) 126 (hb hby d9_125) rfl rfl ?_
      show Go p e below s _ _ _ (T85.setTop (mkF m 126 #[.val (.ref x0), .val (.int x1), .val (.long x2), .second, .val (.int ((((((0 : Int32) + (f2 x2 (0 : Int32))) + (f2 x2 (1 : Int32))) + (f2 x2 (2 : Int32))) + (f2 x2 (3 : Int32))) + (f2 x2 (4 : Int32))))] [(.int (4 : Int32))]))
      refine g_iloadN X85 hx 127 (hb hby d9_126) rfl rfl ?_
      show Go p e below s _ _ _ (T85.setTop (mkF m 127 #[.val (.ref x0), .val (.int x1), .val (.long x2), .second, .val (.int ((((((0 : Int32) + (f2 x2 (0 : Int32))) + (f2 x2 (1 : Int32))) + (f2 x2 (2 : Int32))) + (f2 x2 (3 : Int32))) + (f2 x2 (4 : Int32))))] [(.int x1), (.int (4 : Int32))]))
      have h86 : ¬ ((4 : Int32) < x1) := fun q => h8 (Int32.lt_trans (by decide) q)
      refine g_icmp_ge X85 hx 140 130 (hb hby d9_127) (by decide) rfl rfl (fun q => absurd q h86) (fun _ => ?_)
      show Go p e below s _ _ _ (T85.setTop (mkF m 140 #[.val (.ref x0), .val (.int x1), .val (.long x2), .second, .val (.int ((((((0 : Int32) + (f2 x2 (0 : Int32))) + (f2 x2 (1 : Int32))) + (f2 x2 (2 : Int32))) + (f2 x2 (3 : Int32))) + (f2 x2 (4 : Int32))))] []))
      refine g_iload X85 hx 142 (hb hby d9_140) rfl rfl ?_
      show Go p e below s _ _ _ (T85.setTop (mkF m 142 #[.val (.ref x0), .val (.int x1), .val (.long x2), .second, .val (.int ((((((0 : Int32) + (f2 x2 (0 : Int32))) + (f2 x2 (1 : Int32))) + (f2 x2 (2 : Int32))) + (f2 x2 (3 : Int32))) + (f2 x2 (4 : Int32))))] [(.int ((((((0 : Int32) + (f2 x2 (0 : Int32))) + (f2 x2 (1 : Int32))) + (f2 x2 (2 : Int32))) + (f2 x2 (3 : Int32))) + (f2 x2 (4 : Int32))))]))
      refine g_lloadN X85 hx 143 (hb hby d9_142) rfl rfl ?_
      show Go p e below s _ _ _ (T85.setTop (mkF m 143 #[.val (.ref x0), .val (.int x1), .val (.long x2), .second, .val (.int ((((((0 : Int32) + (f2 x2 (0 : Int32))) + (f2 x2 (1 : Int32))) + (f2 x2 (2 : Int32))) + (f2 x2 (3 : Int32))) + (f2 x2 (4 : Int32))))] [(.long x2), (.int ((((((0 : Int32) + (f2 x2 (0 : Int32))) + (f2 x2 (1 : Int32))) + (f2 x2 (2 : Int32))) + (f2 x2 (3 : Int32))) + (f2 x2 (4 : Int32))))]))
      refine g_iconst X85 hx (5 : Int32) 144 (hb hby d9_143) rfl rfl ?_
      show Go p e below s _ _ _ (T85.setTop (mkF m 144 #[.val (.ref x0), .val (.int x1), .val (.long x2), .second, .val (.int ((((((0 : Int32) + (f2 x2 (0 : Int32))) + (f2 x2 (1 : Int32))) + (f2 x2 (2 : Int32))) + (f2 x2 (3 : Int32))) + (f2 x2 (4 : Int32))))] [(.int (5 : Int32)), (.long x2), (.int ((((((0 : Int32) + (f2 x2 (0 : Int32))) + (f2 x2 (1 : Int32))) + (f2 x2 (2 : Int32))) + (f2 x2 (3 : Int32))) + (f2 x2 (4 : Int32))))]))
      refine g_callS X85 hx hZ hown (hw _ (List.mem_of_getElem? (i := 6) rfl)) (hw _ (List.mem_of_getElem? (i := 7) rfl)) (hw _ (List.mem_of_getElem? (i := 4) rfl)) (hw _ (List.mem_of_getElem? (i := 8) rfl)) (by decide) e85 (rm2 l Z a0 hw [] x2 (5 : Int32) h0) [(.long x2), (.int (5 : Int32))] [(.int ((((((0 : Int32) + (f2 x2 (0 : Int32))) + (f2 x2 (1 : Int32))) + (f2 x2 (2 : Int32))) + (f2 x2 (3 : Int32))) + (f2 x2 (4 : Int32))))] 1 rfl (lenOf pd__28JI_29I rfl) rfl (Nat.le_of_eq rfl) (by decide) (by decide) (by decide) (by decide) (by rw [hml]; rfl) (hb hby d9_144) ?_
      intro T87 L87 v87 X87 q87
      obtain ⟨rfl, rfl, e87⟩ := q87
      show Go p e below s _ _ _ (T87.setTop (mkF m 147 #[.val (.ref x0), .val (.int x1), .val (.long x2), .second, .val (.int ((((((0 : Int32) + (f2 x2 (0 : Int32))) + (f2 x2 (1 : Int32))) + (f2 x2 (2 : Int32))) + (f2 x2 (3 : Int32))) + (f2 x2 (4 : Int32))))] [(.int (f2 x2 (5 : Int32))), (.int ((((((0 : Int32) + (f2 x2 (0 : Int32))) + (f2 x2 (1 : Int32))) + (f2 x2 (2 : Int32))) + (f2 x2 (3 : Int32))) + (f2 x2 (4 : Int32))))]))
      refine g_iadd X87 hx 148 (hb hby d9_147) rfl ?_
      show Go p e below s _ _ _ (T87.setTop (mkF m 148 #[.val (.ref x0), .val (.int x1), .val (.long x2), .second, .val (.int ((((((0 : Int32) + (f2 x2 (0 : Int32))) + (f2 x2 (1 : Int32))) + (f2 x2 (2 : Int32))) + (f2 x2 (3 : Int32))) + (f2 x2 (4 : Int32))))] [(.int (((((((0 : Int32) + (f2 x2 (0 : Int32))) + (f2 x2 (1 : Int32))) + (f2 x2 (2 : Int32))) + (f2 x2 (3 : Int32))) + (f2 x2 (4 : Int32))) + (f2 x2 (5 : Int32))))]))
      refine g_istore X87 hx #[.val (.ref x0), .val (.int x1), .val (.long x2), .second, .val (.int (((((((0 : Int32) + (f2 x2 (0 : Int32))) + (f2 x2 (1 : Int32))) + (f2 x2 (2 : Int32))) + (f2 x2 (3 : Int32))) + (f2 x2 (4 : Int32))) + (f2 x2 (5 : Int32))))] 150 (hb hby d9_148) rfl rfl ?_
      show Go p e below s _ _ _ (T87.setTop (mkF m 150 #[.val (.ref x0), .val (.int x1), .val (.long x2), .second, .val (.int (((((((0 : Int32) + (f2 x2 (0 : Int32))) + (f2 x2 (1 : Int32))) + (f2 x2 (2 : Int32))) + (f2 x2 (3 : Int32))) + (f2 x2 (4 : Int32))) + (f2 x2 (5 : Int32))))] []))
      refine g_iconst X87 hx (5 : Int32) 151 (hb hby d9_150) rfl rfl ?_
      show Go p e below s _ _ _ (T87.setTop (mkF m 151 #[.val (.ref x0), .val (.int x1), .val (.long x2), .second, .val (.int (((((((0 : Int32) + (f2 x2 (0 : Int32))) + (f2 x2 (1 : Int32))) + (f2 x2 (2 : Int32))) + (f2 x2 (3 : Int32))) + (f2 x2 (4 : Int32))) + (f2 x2 (5 : Int32))))] [(.int (5 : Int32))]))
      refine g_iloadN X87 hx 152 (hb hby d9_151) rfl rfl ?_
      show Go p e below s _ _ _ (T87.setTop (mkF m 152 #[.val (.ref x0), .val (.int x1), .val (.long x2), .second, .val (.int (((((((0 : Int32) + (f2 x2 (0 : Int32))) + (f2 x2 (1 : Int32))) + (f2 x2 (2 : Int32))) + (f2 x2 (3 : Int32))) + (f2 x2 (4 : Int32))) + (f2 x2 (5 : Int32))))] [(.int x1), (.int (5 : Int32))]))
      have h88 : ¬ ((5 : Int32) < x1) := fun q => h8 (Int32.lt_trans (by decide) q)
      refine g_icmp_ge X87 hx 165 155 (hb hby d9_152) (by decide) rfl rfl (fun q => absurd q h88) (fun _ => ?_)
      show Go p e below s _ _ _ (T87.setTop (mkF m 165 #[.val (.ref x0), .val (.int x1), .val (.long x2), .second, .val (.int (((((((0 : Int32) + (f2 x2 (0 : Int32))) + (f2 x2 (1 : Int32))) + (f2 x2 (2 : Int32))) + (f2 x2 (3 : Int32))) + (f2 x2 (4 : Int32))) + (f2 x2 (5 : Int32))))] []))
      refine g_iload X87 hx 167 (hb hby d9_165) rfl rfl ?_
      show Go p e below s _ _ _ (T87.setTop (mkF m 167 #[.val (.ref x0), .val (.int x1), .val (.long x2), .second, .val (.int (((((((0 : Int32) + (f2 x2 (0 : Int32))) + (f2 x2 (1 : Int32))) + (f2 x2 (2 : Int32))) + (f2 x2 (3 : Int32))) + (f2 x2 (4 : Int32))) + (f2 x2 (5 : Int32))))] [(.int (((((((0 : Int32) + (f2 x2 (0 : Int32))) + (f2 x2 (1 : Int32))) + (f2 x2 (2 : Int32))) + (f2 x2 (3 : Int32))) + (f2 x2 (4 : Int32))) + (f2 x2 (5 : Int32))))]))
      refine g_lloadN X87 hx 168 (hb hby d9_167) rfl rfl ?_
      show Go p e below s _ _ _ (T87.setTop (mkF m 168 #[.val (.ref x0), .val (.int x1), .val (.long x2), .second, .val (.int (((((((0 : Int32) + (f2 x2 (0 : Int32))) + (f2 x2 (1 : Int32))) + (f2 x2 (2 : Int32))) + (f2 x2 (3 : Int32))) + (f2 x2 (4 : Int32))) + (f2 x2 (5 : Int32))))] [(.long x2), (.int (((((((0 : Int32) + (f2 x2 (0 : Int32))) + (f2 x2 (1 : Int32))) + (f2 x2 (2 : Int32))) + (f2 x2 (3 : Int32))) + (f2 x2 (4 : Int32))) + (f2 x2 (5 : Int32))))]))
      refine g_bipush X87 hx (6 : Int32) 170 (hb hby d9_168) rfl rfl ?_
      show Go p e below s _ _ _ (T87.setTop (mkF m 170 #[.val (.ref x0), .val (.int x1), .val (.long x2), .second, .val (.int (((((((0 : Int32) + (f2 x2 (0 : Int32))) + (f2 x2 (1 : Int32))) + (f2 x2 (2 : Int32))) + (f2 x2 (3 : Int32))) + (f2 x2 (4 : Int32))) + (f2 x2 (5 : Int32))))] [(.int (6 : Int32)), (.long x2), (.int (((((((0 : Int32) + (f2 x2 (0 : Int32))) + (f2 x2 (1 : Int32))) + (f2 x2 (2 : Int32))) + (f2 x2 (3 : Int32))) + (f2 x2 (4 : Int32))) + (f2 x2 (5 : Int32))))]))
      refine g_callS X87 hx hZ hown (hw _ (List.mem_of_getElem? (i := 6) rfl)) (hw _ (List.mem_of_getElem? (i := 7) rfl)) (hw _ (List.mem_of_getElem? (i := 4) rfl)) (hw _ (List.mem_of_getElem? (i := 8) rfl)) (by decide) e87 (rm2 l Z a0 hw [] x2 (6 : Int32) h0) [(.long x2), (.int (6 : Int32))] [(.int (((((((0 : Int32) + (f2 x2 (0 : Int32))) + (f2 x2 (1 : Int32))) + (f2 x2 (2 : Int32))) + (f2 x2 (3 : Int32))) + (f2 x2 (4 : Int32))) + (f2 x2 (5 : Int32))))] 1 rfl (lenOf pd__28JI_29I rfl) rfl (Nat.le_of_eq rfl) (by decide) (by decide) (by decide) (by decide) (by rw [hml]; rfl) (hb hby d9_170) ?_
      intro T89 L89 v89 X89 q89
      obtain ⟨rfl, rfl, e89⟩ := q89
      show Go p e below s _ _ _ (T89.setTop (mkF m 173 #[.val (.ref x0), .val (.int x1), .val (.long x2), .second, .val (.int (((((((0 : Int32) + (f2 x2 (0 : Int32))) + (f2 x2 (1 : Int32))) + (f2 x2 (2 : Int32))) + (f2 x2 (3 : Int32))) + (f2 x2 (4 : Int32))) + (f2 x2 (5 : Int32))))] [(.int (f2 x2 (6 : Int32))), (.int (((((((0 : Int32) + (f2 x2 (0 : Int32))) + (f2 x2 (1 : Int32))) + (f2 x2 (2 : Int32))) + (f2 x2 (3 : Int32))) + (f2 x2 (4 : Int32))) + (f2 x2 (5 : Int32))))]))
      refine g_iadd X89 hx 174 (hb hby d9_173) rfl ?_
      show Go p e below s _ _ _ (T89.setTop (mkF m 174 #[.val (.ref x0), .val (.int x1), .val (.long x2), .second, .val (.int (((((((0 : Int32) + (f2 x2 (0 : Int32))) + (f2 x2 (1 : Int32))) + (f2 x2 (2 : Int32))) + (f2 x2 (3 : Int32))) + (f2 x2 (4 : Int32))) + (f2 x2 (5 : Int32))))] [(.int ((((((((0 : Int32) + (f2 x2 (0 : Int32))) + (f2 x2 (1 : Int32))) + (f2 x2 (2 : Int32))) + (f2 x2 (3 : Int32))) + (f2 x2 (4 : Int32))) + (f2 x2 (5 : Int32))) + (f2 x2 (6 : Int32))))]))
      refine g_istore X89 hx #[.val (.ref x0), .val (.int x1), .val (.long x2), .second, .val (.int ((((((((0 : Int32) + (f2 x2 (0 : Int32))) + (f2 x2 (1 : Int32))) + (f2 x2 (2 : Int32))) + (f2 x2 (3 : Int32))) + (f2 x2 (4 : Int32))) + (f2 x2 (5 : Int32))) + (f2 x2 (6 : Int32))))] 176 (hb hby d9_174) rfl rfl ?_
      show Go p e below s _ _ _ (T89.setTop (mkF m 176 #[.val (.ref x0), .val (.int x1), .val (.long x2), .second, .val (.int ((((((((0 : Int32) + (f2 x2 (0 : Int32))) + (f2 x2 (1 : Int32))) + (f2 x2 (2 : Int32))) + (f2 x2 (3 : Int32))) + (f2 x2 (4 : Int32))) + (f2 x2 (5 : Int32))) + (f2 x2 (6 : Int32))))] []))
      refine g_bipush X89 hx (6 : Int32) 178 (hb hby d9_176) rfl rfl ?_
      show Go p e below s _ _ _ (T89.setTop (mkF m 178 #[.val (.ref x0), .val (.int x1), .val (.long x2), .second, .val (.int ((((((((0 : Int32) + (f2 x2 (0 : Int32))) + (f2 x2 (1 : Int32))) + (f2 x2 (2 : Int32))) + (f2 x2 (3 : Int32))) + (f2 x2 (4 : Int32))) + (f2 x2 (5 : Int32))) + (f2 x2 (6 : Int32))))] [(.int (6 : Int32))]))
      refine g_iloadN X89 hx 179 (hb hby d9_178) rfl rfl ?_
      show Go p e below s _ _ _ (T89.setTop (mkF m 179 #[.val (.ref x0), .val (.int x1), .val (.long x2), .second, .val (.int ((((((((0 : Int32) + (f2 x2 (0 : Int32))) + (f2 x2 (1 : Int32))) + (f2 x2 (2 : Int32))) + (f2 x2 (3 : Int32))) + (f2 x2 (4 : Int32))) + (f2 x2 (5 : Int32))) + (f2 x2 (6 : Int32))))] [(.int x1), (.int (6 : Int32))]))
      have h90 : ¬ ((6 : Int32) < x1) := fun q => h8 (Int32.lt_trans (by decide) q)
      refine g_icmp_ge X89 hx 193 182 (hb hby d9_179) (by decide) rfl rfl (fun q => absurd q h90) (fun _ => ?_)
      show Go p e below s _ _ _ (T89.setTop (mkF m 193 #[.val (.ref x0), .val (.int x1), .val (.long x2), .second, .val (.int ((((((((0 : Int32) + (f2 x2 (0 : Int32))) + (f2 x2 (1 : Int32))) + (f2 x2 (2 : Int32))) + (f2 x2 (3 : Int32))) + (f2 x2 (4 : Int32))) + (f2 x2 (5 : Int32))) + (f2 x2 (6 : Int32))))] []))
      refine g_iload X89 hx 195 (hb hby d9_193) rfl rfl ?_
      show Go p e below s _ _ _ (T89.setTop (mkF m 195 #[.val (.ref x0), .val (.int x1), .val (.long x2), .second, .val (.int ((((((((0 : Int32) + (f2 x2 (0 : Int32))) + (f2 x2 (1 : Int32))) + (f2 x2 (2 : Int32))) + (f2 x2 (3 : Int32))) + (f2 x2 (4 : Int32))) + (f2 x2 (5 : Int32))) + (f2 x2 (6 : Int32))))] [(.int ((((((((0 : Int32) + (f2 x2 (0 : Int32))) + (f2 x2 (1 : Int32))) + (f2 x2 (2 : Int32))) + (f2 x2 (3 : Int32))) + (f2 x2 (4 : Int32))) + (f2 x2 (5 : Int32))) + (f2 x2 (6 : Int32))))]))
      refine g_lloadN X89 hx 196 (hb hby d9_195) rfl rfl ?_
      show Go p e below s _ _ _ (T89.setTop (mkF m 196 #[.val (.ref x0), .val (.int x1), .val (.long x2), .second, .val (.int ((((((((0 : Int32) + (f2 x2 (0 : Int32))) + (f2 x2 (1 : Int32))) + (f2 x2 (2 : Int32))) + (f2 x2 (3 : Int32))) + (f2 x2 (4 : Int32))) + (f2 x2 (5 : Int32))) + (f2 x2 (6 : Int32))))] [(.long x2), (.int ((((((((0 : Int32) + (f2 x2 (0 : Int32))) + (f2 x2 (1 : Int32))) + (f2 x2 (2 : Int32))) + (f2 x2 (3 : Int32))) + (f2 x2 (4 : Int32))) + (f2 x2 (5 : Int32))) + (f2 x2 (6 : Int32))))]))
      refine g_bipush X89 hx (7 : Int32) 198 (hb hby d9_196) rfl rfl ?_
      show Go p e below s _ _ _ (T89.setTop (mkF m 198 #[.val (.ref x0), .val (.int x1), .val (.long x2), .second, .val (.int ((((((((0 : Int32) + (f2 x2 (0 : Int32))) + (f2 x2 (1 : Int32))) + (f2 x2 (2 : Int32))) + (f2 x2 (3 : Int32))) + (f2 x2 (4 : Int32))) + (f2 x2 (5 : Int32))) + (f2 x2 (6 : Int32))))] [(.int (7 : Int32)), (.long x2), (.int ((((((((0 : Int32) + (f2 x2 (0 : Int32))) + (f2 x2 (1 : Int32))) + (f2 x2 (2 : Int32))) + (f2 x2 (3 : Int32))) + (f2 x2 (4 : Int32))) + (f2 x2 (5 : Int32))) + (f2 x2 (6 : Int32))))]))
      refine g_callS X89 hx hZ hown (hw _ (List.mem_of_getElem? (i := 6) rfl)) (hw _ (List.mem_of_getElem? (i := 7) rfl)) (hw _ (List.mem_of_getElem? (i := 4) rfl)) (hw _ (List.mem_of_getElem? (i := 8) rfl)) (by decide) e89 (rm2 l Z a0 hw [] x2 (7 : Int32) h0) [(.long x2), (.int (7 : Int32))] [(.int ((((((((0 : Int32) + (f2 x2 (0 : Int32))) + (f2 x2 (1 : Int32))) + (f2 x2 (2 : Int32))) + (f2 x2 (3 : Int32))) + (f2 x2 (4 : Int32))) + (f2 x2 (5 : Int32))) + (f2 x2 (6 : Int32))))] 1 rfl (lenOf pd__28JI_29I rfl) rfl (Nat.le_of_eq rfl) (by decide) (by decide) (by decide) (by decide) (by rw [hml]; rfl) (hb hby d9_198) ?_
      intro T91 L91 v91 X91 q91
      obtain ⟨rfl, rfl, e91⟩ := q91
      show Go p e below s _ _ _ (T91.setTop (mkF m 201 #[.val (.ref x0), .val (.int x1), .val (.long x2), .second, .val (.int ((((((((0 : Int32) + (f2 x2 (0 : Int32))) + (f2 x2 (1 : Int32))) + (f2 x2 (2 : Int32))) + (f2 x2 (3 : Int32))) + (f2 x2 (4 : Int32))) + (f2 x2 (5 : Int32))) + (f2 x2 (6 : Int32))))] [(.int (f2 x2 (7 : Int32))), (.int ((((((((0 : Int32) + (f2 x2 (0 : Int32))) + (f2 x2 (1 : Int32))) + (f2 x2 (2 : Int32))) + (f2 x2 (3 : Int32))) + (f2 x2 (4 : Int32))) + (f2 x2 (5 : Int32))) + (f2 x2 (6 : Int32))))]))
      refine g_iadd X91 hx 202 (hb hby d9_201) rfl ?_
      show Go p e below s _ _ _ (T91.setTop (mkF m 202 #[.val (.ref x0), .val (.int x1), .val (.long x2), .second, .val (.int ((((((((0 : Int32) + (f2 x2 (0 : Int32))) + (f2 x2 (1 : Int32))) + (f2 x2 (2 : Int32))) + (f2 x2 (3 : Int32))) + (f2 x2 (4 : Int32))) + (f2 x2 (5 : Int32))) + (f2 x2 (6 : Int32))))] [(.int (((((((((0 : Int32) + (f2 x2 (0 : Int32))) + (f2 x2 (1 : Int32))) + (f2 x2 (2 : Int32))) + (f2 x2 (3 : Int32))) + (f2 x2 (4 : Int32))) + (f2 x2 (5 : Int32))) + (f2 x2 (6 : Int32))) + (f2 x2 (7 : Int32))))]))
      refine g_istore X91 hx #[.val (.ref x0), .val (.int x1), .val (.long x2), .second, .val (.int (((((((((0 : Int32) + (f2 x2 (0 : Int32))) + (f2 x2 (1 : Int32))) + (f2 x2 (2 : Int32))) + (f2 x2 (3 : Int32))) + (f2 x2 (4 : Int32))) + (f2 x2 (5 : Int32))) + (f2 x2 (6 : Int32))) + (f2 x2 (7 : Int32))))] 204 (hb hby d9_202) rfl rfl ?_
      show Go p e below s _ _ _ (T91.setTop (mkF m 204 #[.val (.ref x0), .val (.int x1), .val (.long x2), .second, .val (.int (((((((((0 : Int32) + (f2 x2 (0 : Int32))) + (f2 x2 (1 : Int32))) + (f2 x2 (2 : Int32))) + (f2 x2 (3 : Int32))) + (f2 x2 (4 : Int32))) + (f2 x2 (5 : Int32))) + (f2 x2 (6 : Int32))) + (f2 x2 (7 : Int32))))] []))
      refine g_bipush X91 hx (7 : Int32) 206 (hb hby d9_204) rfl rfl ?_
      show Go p e below s _ _ _ (T91.setTop (mkF m 206 #[.val (.ref x0), .val (.int x1), .val (.long x2), .second, .val (.int (((((((((0 : Int32) + (f2 x2 (0 : Int32))) + (f2 x2 (1 : Int32))) + (f2 x2 (2 : Int32))) + (f2 x2 (3 : Int32))) + (f2 x2 (4 : Int32))) + (f2 x2 (5 : Int32))) + (f2 x2 (6 : Int32))) + (f2 x2 (7 : Int32))))] [(.int (7 : Int32))]))
      refine g_iloadN X91 hx 207 (hb hby d9_206) rfl rfl ?_
      show Go p e below s _ _ _ (T91.setTop (mkF m 207 #[.val (.ref x0), .val (.int x1), .val (.long x2), .second, .val (.int (((((((((0 : Int32) + (f2 x2 (0 : Int32))) + (f2 x2 (1 : Int32))) + (f2 x2 (2 : Int32))) + (f2 x2 (3 : Int32))) + (f2 x2 (4 : Int32))) + (f2 x2 (5 : Int32))) + (f2 x2 (6 : Int32))) + (f2 x2 (7 : Int32))))] [(.int x1), (.int (7 : Int32))]))
      have h92 : ¬ ((7 : Int32) < x1) := fun q => h8 (Int32.lt_trans (by decide) q)
      refine g_icmp_ge X91 hx 221 210 (hb hby d9_207) (by decide) rfl rfl (fun q => absurd q h92) (fun _ => ?_)
      show Go p e below s _ _ _ (T91.setTop (mkF m 221 #[.val (.ref x0), .val (.int x1), .val (.long x2), .second, .val (.int (((((((((0 : Int32) + (f2 x2 (0 : Int32))) + (f2 x2 (1 : Int32))) + (f2 x2 (2 : Int32))) + (f2 x2 (3 : Int32))) + (f2 x2 (4 : Int32))) + (f2 x2 (5 : Int32))) + (f2 x2 (6 : Int32))) + (f2 x2 (7 : Int32))))] []))
      refine g_iload X91 hx 223 (hb hby d9_221) rfl rfl ?_
      show Go p e below s _ _ _ (T91.setTop (mkF m 223 #[.val (.ref x0), .val (.int x1), .val (.long x2), .second, .val (.int (((((((((0 : Int32) + (f2 x2 (0 : Int32))) + (f2 x2 (1 : Int32))) + (f2 x2 (2 : Int32))) + (f2 x2 (3 : Int32))) + (f2 x2 (4 : Int32))) + (f2 x2 (5 : Int32))) + (f2 x2 (6 : Int32))) + (f2 x2 (7 : Int32))))] [(.int (((((((((0 : Int32) + (f2 x2 (0 : Int32))) + (f2 x2 (1 : Int32))) + (f2 x2 (2 : Int32))) + (f2 x2 (3 : Int32))) + (f2 x2 (4 : Int32))) + (f2 x2 (5 : Int32))) + (f2 x2 (6 : Int32))) + (f2 x2 (7 : Int32))))]))
      refine g_lloadN X91 hx 224 (hb hby d9_223) rfl rfl ?_
      show Go p e below s _ _ _ (T91.setTop (mkF m 224 #[.val (.ref x0), .val (.int x1), .val (.long x2), .second, .val (.int (((((((((0 : Int32) + (f2 x2 (0 : Int32))) + (f2 x2 (1 : Int32))) + (f2 x2 (2 : Int32))) + (f2 x2 (3 : Int32))) + (f2 x2 (4 : Int32))) + (f2 x2 (5 : Int32))) + (f2 x2 (6 : Int32))) + (f2 x2 (7 : Int32))))] [(.long x2), (.int (((((((((0 : Int32) + (f2 x2 (0 : Int32))) + (f2 x2 (1 : Int32))) + (f2 x2 (2 : Int32))) + (f2 x2 (3 : Int32))) + (f2 x2 (4 : Int32))) + (f2 x2 (5 : Int32))) + (f2 x2 (6 : Int32))) + (f2 x2 (7 : Int32))))]))
      refine g_bipush X91 hx (8 : Int32) 226 (hb hby d9_224) rfl rfl ?_
      show Go p e below s _ _ _ (T91.setTop (mkF m 226 #[.val (.ref x0), .val (.int x1), .val (.long x2), .second, .val (.int (((((((((0 : Int32) + (f2 x2 (0 : Int32))) + (f2 x2 (1 : Int32))) + (f2 x2 (2 : Int32))) + (f2 x2 (3 : Int32))) + (f2 x2 (4 : Int32))) + (f2 x2 (5 : Int32))) + (f2 x2 (6 : Int32))) + (f2 x2 (7 : Int32))))] [(.int (8 : Int32)), (.long x2), (.int (((((((((0 : Int32) + (f2 x2 (0 : Int32))) + (f2 x2 (1 : Int32))) + (f2 x2 (2 : Int32))) + (f2 x2 (3 : Int32))) + (f2 x2 (4 : Int32))) + (f2 x2 (5 : Int32))) + (f2 x2 (6 : Int32))) + (f2 x2 (7 : Int32))))]))
      refine g_callS X91 hx hZ hown (hw _ (List.mem_of_getElem? (i := 6) rfl)) (hw _ (List.mem_of_getElem? (i := 7) rfl)) (hw _ (List.mem_of_getElem? (i := 4) rfl)) (hw _ (List.mem_of_getElem? (i := 8) rfl)) (by decide) e91 (rm2 l Z a0 hw [] x2 (8 : Int32) h0) [(.long x2), (.int (8 : Int32))] [(.int (((((((((0 : Int32) + (f2 x2 (0 : Int32))) + (f2 x2 (1 : Int32))) + (f2 x2 (2 : Int32))) + (f2 x2 (3 : Int32))) + (f2 x2 (4 : Int32))) + (f2 x2 (5 : Int32))) + (f2 x2 (6 : Int32))) + (f2 x2 (7 : Int32))))] 1 rfl (lenOf pd__28JI_29I rfl) rfl (Nat.le_of_eq rfl) (by decide) (by decide) (by decide) (by decide) (by rw [hml]; rfl) (hb hby d9_226) ?_
      intro T93 L93 v93 X93 q93
      obtain ⟨rfl, rfl, e93⟩ := q93
      show Go p e below s _ _ _ (T93.setTop (mkF m 229 #[.val (.ref x0), .val (.int x1), .val (.long x2), .second, .val (.int (((((((((0 : Int32) + (f2 x2 (0 : Int32))) + (f2 x2 (1 : Int32))) + (f2 x2 (2 : Int32))) + (f2 x2 (3 : Int32))) + (f2 x2 (4 : Int32))) + (f2 x2 (5 : Int32))) + (f2 x2 (6 : Int32))) + (f2 x2 (7 : Int32))))] [(.int (f2 x2 (8 : Int32))), (.int (((((((((0 : Int32) + (f2 x2 (0 : Int32))) + (f2 x2 (1 : Int32))) + (f2 x2 (2 : Int32))) + (f2 x2 (3 : Int32))) + (f2 x2 (4 : Int32))) + (f2 x2 (5 : Int32))) + (f2 x2 (6 : Int32))) + (f2 x2 (7 : Int32))))]))
      refine g_iadd X93 hx 230 (hb hby d9_229) rfl ?_
      show Go p e below s _ _ _ (T93.setTop (mkF m 230 #[.val (.ref x0), .val (.int x1), .val (.long x2), .second, .val (.int (((((((((0 : Int32) + (f2 x2 (0 : Int32))) + (f2 x2 (1 : Int32))) + (f2 x2 (2 : Int32))) + (f2 x2 (3 : Int32))) + (f2 x2 (4 : Int32))) + (f2 x2 (5 : Int32))) + (f2 x2 (6 : Int32))) + (f2 x2 (7 : Int32))))] [(.int ((((((((((0 : Int32) + (f2 x2 (0 : Int32))) + (f2 x2 (1 : Int32))) + (f2 x2 (2 : Int32))) + (f2 x2 (3 : Int32))) + (f2 x2 (4 : Int32))) + (f2 x2 (5 : Int32))) + (f2 x2 (6 : Int32))) + (f2 x2 (7 : Int32))) + (f2 x2 (8 : Int32))))]))
      refine g_istore X93 hx #[.val (.ref x0), .val (.int x1), .val (.long x2), .second, .val (.int ((((((((((0 : Int32) + (f2 x2 (0 : Int32))) + (f2 x2 (1 : Int32))) + (f2 x2 (2 : Int32))) + (f2 x2 (3 : Int32))) + (f2 x2 (4 : Int32))) + (f2 x2 (5 : Int32))) + (f2 x2 (6 : Int32))) + (f2 x2 (7 : Int32))) + (f2 x2 (8 : Int32))))] 232 (hb hby d9_230) rfl rfl ?_
      show Go p e below s _ _ _ (T93.setTop (mkF m 232 #[.val (.ref x0), .val (.int x1), .val (.long x2), .second, .val (.int ((((((((((0 : Int32) + (f2 x2 (0 : Int32))) + (f2 x2 (1 : Int32))) + (f2 x2 (2 : Int32))) + (f2 x2 (3 : Int32))) + (f2 x2 (4 : Int32))) + (f2 x2 (5 : Int32))) + (f2 x2 (6 : Int32))) + (f2 x2 (7 : Int32))) + (f2 x2 (8 : Int32))))] []))
      refine g_bipush X93 hx (8 : Int32) 234 (hb hby d9_232) rfl rfl ?_
      show Go p e below s _ _ _ (T93.setTop (mkF m 234 #[.val (.ref x0), .val (.int x1), .val (.long x2), .second, .val (.int ((((((((((0 : Int32) + (f2 x2 (0 : Int32))) + (f2 x2 (1 : Int32))) + (f2 x2 (2 : Int32))) + (f2 x2 (3 : Int32))) + (f2 x2 (4 : Int32))) + (f2 x2 (5 : Int32))) + (f2 x2 (6 : Int32))) + (f2 x2 (7 : Int32))) + (f2 x2 (8 : Int32))))] [(.int (8 : Int32))]))
      refine g_iloadN X93 hx 235 (hb hby d9_234) rfl rfl ?_
      show Go p e below s _ _ _ (T93.setTop (mkF m 235 #[.val (.ref x0), .val (.int x1), .val (.long x2), .second, .val (.int ((((((((((0 : Int32) + (f2 x2 (0 : Int32))) + (f2 x2 (1 : Int32))) + (f2 x2 (2 : Int32))) + (f2 x2 (3 : Int32))) + (f2 x2 (4 : Int32))) + (f2 x2 (5 : Int32))) + (f2 x2 (6 : Int32))) + (f2 x2 (7 : Int32))) + (f2 x2 (8 : Int32))))] [(.int x1), (.int (8 : Int32))]))
      have h94 : ¬ ((8 : Int32) < x1) := fun q => h8 (Int32.lt_trans (by decide) q)
      refine g_icmp_ge X93 hx 249 238 (hb hby d9_235) (by decide) rfl rfl (fun q => absurd q h94) (fun _ => ?_)
      show Go p e below s _ _ _ (T93.setTop (mkF m 249 #[.val (.ref x0), .val (.int x1), .val (.long x2), .second, .val (.int ((((((((((0 : Int32) + (f2 x2 (0 : Int32))) + (f2 x2 (1 : Int32))) + (f2 x2 (2 : Int32))) + (f2 x2 (3 : Int32))) + (f2 x2 (4 : Int32))) + (f2 x2 (5 : Int32))) + (f2 x2 (6 : Int32))) + (f2 x2 (7 : Int32))) + (f2 x2 (8 : Int32))))] []))
      refine g_iconst X93 hx (1 : Int32) 250 (hb hby d9_249) rfl rfl ?_
      show Go p e below s _ _ _ (T93.setTop (mkF m 250 #[.val (.ref x0), .val (.int x1), .val (.long x2), .second, .val (.int ((((((((((0 : Int32) + (f2 x2 (0 : Int32))) + (f2 x2 (1 : Int32))) + (f2 x2 (2 : Int32))) + (f2 x2 (3 : Int32))) + (f2 x2 (4 : Int32))) + (f2 x2 (5 : Int32))) + (f2 x2 (6 : Int32))) + (f2 x2 (7 : Int32))) + (f2 x2 (8 : Int32))))] [(.int (1 : Int32))]))
      exact g_retN X93 hx hret (by simp) hlk (hb hby d9_250) (by decide) (by decide) ⟨rfl, rfl, e93⟩
  · show Go p e below s _ _ _ (T3.setTop (mkF m 40 #[.val (.ref x0), .val (.int x1), .val (.long x2), .second, .val (.int ((0 : Int32) + (f2 x2 (0 : Int32))))] []))
    refine g_iload X3 hx 42 (hb hby d9_40) rfl rfl ?_
    show Go p e below s _ _ _ (T3.setTop (mkF m 42 #[.val (.ref x0), .val (.int x1), .val (.long x2), .second, .val (.int ((0 : Int32) + (f2 x2 (0 : Int32))))] [(.int ((0 : Int32) + (f2 x2 (0 : Int32))))]))
    refine g_lloadN X3 hx 43 (hb hby d9_42) rfl rfl ?_
    show Go p e below s _ _ _ (T3.setTop (mkF m 43 #[.val (.ref x0), .val (.int x1), .val (.long x2), .second, .val (.int ((0 : Int32) + (f2 x2 (0 : Int32))))] [(.long x2), (.int ((0 : Int32) + (f2 x2 (0 : Int32))))]))
    refine g_iconst X3 hx (1 : Int32) 44 (hb hby d9_43) rfl rfl ?_
    show Go p e below s _ _ _ (T3.setTop (mkF m 44 #[.val (.ref x0), .val (.int x1), .val (.long x2), .second, .val (.int ((0 : Int32) + (f2 x2 (0 : Int32))))] [(.int (1 : Int32)), (.long x2), (.int ((0 : Int32) + (f2 x2 (0 : Int32))))]))
    refine g_callS X3 hx hZ hown (hw _ (List.mem_of_getElem? (i := 6) rfl)) (hw _ (List.mem_of_getElem? (i := 7) rfl)) (hw _ (List.mem_of_getElem? (i := 4) rfl)) (hw _ (List.mem_of_getElem? (i := 8) rfl)) (by decide) e3 (rm2 l Z a0 hw [] x2 (1 : Int32) h0) [(.long x2), (.int (1 : Int32))] [(.int ((0 : Int32) + (f2 x2 (0 : Int32))))] 1 rfl (lenOf pd__28JI_29I rfl) rfl (Nat.le_of_eq rfl) (by decide) (by decide) (by decide) (by decide) (by rw [hml]; rfl) (hb hby d9_44) ?_
    intro T95 L95 v95 X95 q95
    obtain ⟨rfl, rfl, e95⟩ := q95
    show Go p e below s _ _ _ (T95.setTop (mkF m 47 #[.val (.ref x0), .val (.int x1), .val (.long x2), .second, .val (.int ((0 : Int32) + (f2 x2 (0 : Int32))))] [(.int (f2 x2 (1 : Int32))), (.int ((0 : Int32) + (f2 x2 (0 : Int32))))]))
    refine g_iadd X95 hx 48 (hb hby d9_47) rfl ?_
    show Go p e below s _ _ _ (T95.setTop (mkF m 48 #[.val (.ref x0), .val (.int x1), .val (.long x2), .second, .val (.int ((0 : Int32) + (f2 x2 (0 : Int32))))] [(.int (((0 : Int32) + (f2 x2 (0 : Int32))) + (f2 x2 (1 : Int32))))]))
    refine g_istore X95 hx #[.val (.ref x0), .val (.int x1), .val (.long x2), .second, .val (.int (((0 : Int32) + (f2 x2 (0 : Int32))) + (f2 x2 (1 : Int32))))] 50 (hb hby d9_48) rfl rfl ?_
    show Go p e below s _ _ _ (T95.setTop (mkF m 50 #[.val (.ref x0), .val (.int x1), .val (.long x2), .second, .val (.int (((0 : Int32) + (f2 x2 (0 : Int32))) + (f2 x2 (1 : Int32))))] []))
    refine g_iconst X95 hx (1 : Int32) 51 (hb hby d9_50) rfl rfl ?_
    show Go p e below s _ _ _ (T95.setTop (mkF m 51 #[.val (.ref x0), .val (.int x1), .val (.long x2), .second, .val (.int (((0 : Int32) + (f2 x2 (0 : Int32))) + (f2 x2 (1 : Int32))))] [(.int (1 : Int32))]))
    refine g_iloadN X95 hx 52 (hb hby d9_51) rfl rfl ?_
    show Go p e below s _ _ _ (T95.setTop (mkF m 52 #[.val (.ref x0), .val (.int x1), .val (.long x2), .second, .val (.int (((0 : Int32) + (f2 x2 (0 : Int32))) + (f2 x2 (1 : Int32))))] [(.int x1), (.int (1 : Int32))]))
    have h96 : ¬ ((1 : Int32) < x1) := fun q => h4 (Int32.lt_trans (by decide) q)
    refine g_icmp_ge X95 hx 65 55 (hb hby d9_52) (by decide) rfl rfl (fun q => absurd q h96) (fun _ => ?_)
    show Go p e below s _ _ _ (T95.setTop (mkF m 65 #[.val (.ref x0), .val (.int x1), .val (.long x2), .second, .val (.int (((0 : Int32) + (f2 x2 (0 : Int32))) + (f2 x2 (1 : Int32))))] []))
    refine g_iload X95 hx 67 (hb hby d9_65) rfl rfl ?_
    show Go p e below s _ _ _ (T95.setTop (mkF m 67 #[.val (.ref x0), .val (.int x1), .val (.long x2), .second, .val (.int (((0 : Int32) + (f2 x2 (0 : Int32))) + (f2 x2 (1 : Int32))))] [(.int (((0 : Int32) + (f2 x2 (0 : Int32))) + (f2 x2 (1 : Int32))))]))
    refine g_lloadN X95 hx 68 (hb hby d9_67) rfl rfl ?_
    show Go p e below s _ _ _ (T95.setTop (mkF m 68 #[.val (.ref x0), .val (.int x1), .val (.long x2), .second, .val (.int (((0 : Int32) + (f2 x2 (0 : Int32))) + (f2 x2 (1 : Int32))))] [(.long x2), (.int (((0 : Int32) + (f2 x2 (0 : Int32))) + (f2 x2 (1 : Int32))))]))
    refine g_iconst X95 hx (2 : Int32) 69 (hb hby d9_68) rfl rfl ?_
    show Go p e below s _ _ _ (T95.setTop (mkF m 69 #[.val (.ref x0), .val (.int x1), .val (.long x2), .second, .val (.int (((0 : Int32) + (f2 x2 (0 : Int32))) + (f2 x2 (1 : Int32))))] [(.int (2 : Int32)), (.long x2), (.int (((0 : Int32) + (f2 x2 (0 : Int32))) + (f2 x2 (1 : Int32))))]))
    refine g_callS X95 hx hZ hown (hw _ (List.mem_of_getElem? (i := 6) rfl)) (hw _ (List.mem_of_getElem? (i := 7) rfl)) (hw _ (List.mem_of_getElem? (i := 4) rfl)) (hw _ (List.mem_of_getElem? (i := 8) rfl)) (by decide) e95 (rm2 l Z a0 hw [] x2 (2 : Int32) h0) [(.long x2), (.int (2 : Int32))] [(.int (((0 : Int32) + (f2 x2 (0 : Int32))) + (f2 x2 (1 : Int32))))] 1 rfl (lenOf pd__28JI_29I rfl) rfl (Nat.le_of_eq rfl) (by decide) (by decide) (by decide) (by decide) (by rw [hml]; rfl) (hb hby d9_69) ?_
    intro T97 L97 v97 X97 q97
    obtain ⟨rfl, rfl, e97⟩ := q97
    show Go p e below s _ _ _ (T97.setTop (mkF m 72 #[.val (.ref x0), .val (.int x1), .val (.long x2), .second, .val (.int (((0 : Int32) + (f2 x2 (0 : Int32))) + (f2 x2 (1 : Int32))))] [(.int (f2 x2 (2 : Int32))), (.int (((0 : Int32) + (f2 x2 (0 : Int32))) + (f2 x2 (1 : Int32))))]))
    refine g_iadd X97 hx 73 (hb hby d9_72) rfl ?_
    show Go p e below s _ _ _ (T97.setTop (mkF m 73 #[.val (.ref x0), .val (.int x1), .val (.long x2), .second, .val (.int (((0 : Int32) + (f2 x2 (0 : Int32))) + (f2 x2 (1 : Int32))))] [(.int ((((0 : Int32) + (f2 x2 (0 : Int32))) + (f2 x2 (1 : Int32))) + (f2 x2 (2 : Int32))))]))
    refine g_istore X97 hx #[.val (.ref x0), .val (.int x1), .val (.long x2), .second, .val (.int ((((0 : Int32) + (f2 x2 (0 : Int32))) + (f2 x2 (1 : Int32))) + (f2 x2 (2 : Int32))))] 75 (hb hby d9_73) rfl rfl ?_
    show Go p e below s _ _ _ (T97.setTop (mkF m 75 #[.val (.ref x0), .val (.int x1), .val (.long x2), .second, .val (.int ((((0 : Int32) + (f2 x2 (0 : Int32))) + (f2 x2 (1 : Int32))) + (f2 x2 (2 : Int32))))] []))
    refine g_iconst X97 hx (2 : Int32) 76 (hb hby d9_75) rfl rfl ?_
    show Go p e below s _ _ _ (T97.setTop (mkF m 76 #[.val (.ref x0), .val (.int x1), .val (.long x2), .second, .val (.int ((((0 : Int32) + (f2 x2 (0 : Int32))) + (f2 x2 (1 : Int32))) + (f2 x2 (2 : Int32))))] [(.int (2 : Int32))]))
    refine g_iloadN X97 hx 77 (hb hby d9_76) rfl rfl ?_
    show Go p e below s _ _ _ (T97.setTop (mkF m 77 #[.val (.ref x0), .val (.int x1), .val (.long x2), .second, .val (.int ((((0 : Int32) + (f2 x2 (0 : Int32))) + (f2 x2 (1 : Int32))) + (f2 x2 (2 : Int32))))] [(.int x1), (.int (2 : Int32))]))
    have h98 : ¬ ((2 : Int32) < x1) := fun q => h4 (Int32.lt_trans (by decide) q)
    refine g_icmp_ge X97 hx 90 80 (hb hby d9_77) (by decide) rfl rfl (fun q => absurd q h98) (fun _ => ?_)
    show Go p e below s _ _ _ (T97.setTop (mkF m 90 #[.val (.ref x0), .val (.int x1), .val (.long x2), .second, .val (.int ((((0 : Int32) + (f2 x2 (0 : Int32))) + (f2 x2 (1 : Int32))) + (f2 x2 (2 : Int32))))] []))
    refine g_iload X97 hx 92 (hb hby d9_90) rfl rfl ?_
    show Go p e below s _ _ _ (T97.setTop (mkF m 92 #[.val (.ref x0), .val (.int x1), .val (.long x2), .second, .val (.int ((((0 : Int32) + (f2 x2 (0 : Int32))) + (f2 x2 (1 : Int32))) + (f2 x2 (2 : Int32))))] [(.int ((((0 : Int32) + (f2 x2 (0 : Int32))) + (f2 x2 (1 : Int32))) + (f2 x2 (2 : Int32))))]))
    refine g_lloadN X97 hx 93 (hb hby d9_92) rfl rfl ?_
    show Go p e below s _ _ _ (T97.setTop (mkF m 93 #[.val (.ref x0), .val (.int x1), .val (.long x2), .second, .val (.int ((((0 : Int32) + (f2 x2 (0 : Int32))) + (f2 x2 (1 : Int32))) + (f2 x2 (2 : Int32))))] [(.long x2), (.int ((((0 : Int32) + (f2 x2 (0 : Int32))) + (f2 x2 (1 : Int32))) + (f2 x2 (2 : Int32))))]))
    refine g_iconst X97 hx (3 : Int32) 94 (hb hby d9_93) rfl rfl ?_
    show Go p e below s _ _ _ (T97.setTop (mkF m 94 #[.val (.ref x0), .val (.int x1), .val (.long x2), .second, .val (.int ((((0 : Int32) + (f2 x2 (0 : Int32))) + (f2 x2 (1 : Int32))) + (f2 x2 (2 : Int32))))] [(.int (3 : Int32)), (.long x2), (.int ((((0 : Int32) + (f2 x2 (0 : Int32))) + (f2 x2 (1 : Int32))) + (f2 x2 (2 : Int32))))]))
    refine g_callS X97 hx hZ hown (hw _ (List.mem_of_getElem? (i := 6) rfl)) (hw _ (List.mem_of_getElem? (i := 7) rfl)) (hw _ (List.mem_of_getElem? (i := 4) rfl)) (hw _ (List.mem_of_getElem? (i := 8) rfl)) (by decide) e97 (rm2 l Z a0 hw [] x2 (3 : Int32) h0) [(.long x2), (.int (3 : Int32))] [(.int ((((0 : Int32) + (f2 x2 (0 : Int32))) + (f2 x2 (1 : Int32))) + (f2 x2 (2 : Int32))))] 1 rfl (lenOf pd__28JI_29I rfl) rfl (Nat.le_of_eq rfl) (by decide) (by decide) (by decide) (by decide) (by rw [hml]; rfl) (hb hby d9_94) ?_
    intro T99 L99 v99 X99 q99
    obtain ⟨rfl, rfl, e99⟩ := q99
    show Go p e below s _ _ _ (T99.setTop (mkF m 97 #[.val (.ref x0), .val (.int x1), .val (.long x2), .second, .val (.int ((((0 : Int32) + (f2 x2 (0 : Int32))) + (f2 x2 (1 : Int32))) + (f2 x2 (2 : Int32))))] [(.int (f2 x2 (3 : Int32))), (.int ((((0 : Int32) + (f2 x2 (0 : Int32))) + (f2 x2 (1 : Int32))) + (f2 x2 (2 : Int32))))]))
    refine g_iadd X99 hx 98 (hb hby d9_97) rfl ?_
    show Go p e below s _ _ _ (T99.setTop (mkF m 98 #[.val (.ref x0), .val (.int x1), .val (.long x2), .second, .val (.int ((((0 : Int32) + (f2 x2 (0 : Int32))) + (f2 x2 (1 : Int32))) + (f2 x2 (2 : Int32))))] [(.int (((((0 : Int32) + (f2 x2 (0 : Int32))) + (f2 x2 (1 : Int32))) + (f2 x2 (2 : Int32))) + (f2 x2 (3 : Int32))))]))
    refine g_istore X99 hx #[.val (.ref x0), .val (.int x1), .val (.long x2), .second, .val (.int (((((0 : Int32) + (f2 x2 (0 : Int32))) + (f2 x2 (1 : Int32))) + (f2 x2 (2 : Int32))) + (f2 x2 (3 : Int32))))] 100 (hb hby d9_98) rfl rfl ?_
    show Go p e below s _ _ _ (T99.setTop (mkF m 100 #[.val (.ref x0), .val (.int x1), .val (.long x2), .second, .val (.int (((((0 : Int32) + (f2 x2 (0 : Int32))) + (f2 x2 (1 : Int32))) + (f2 x2 (2 : Int32))) + (f2 x2 (3 : Int32))))] []))
    refine g_iconst X99 hx (3 : Int32) 101 (hb hby d9_100) rfl rfl ?_
    show Go p e below s _ _ _ (T99.setTop (mkF m 101 #[.val (.ref x0), .val (.int x1), .val (.long x2), .second, .val (.int (((((0 : Int32) + (f2 x2 (0 : Int32))) + (f2 x2 (1 : Int32))) + (f2 x2 (2 : Int32))) + (f2 x2 (3 : Int32))))] [(.int (3 : Int32))]))
    refine g_iloadN X99 hx 102 (hb hby d9_101) rfl rfl ?_
    show Go p e below s _ _ _ (T99.setTop (mkF m 102 #[.val (.ref x0), .val (.int x1), .val (.long x2), .second, .val (.int (((((0 : Int32) + (f2 x2 (0 : Int32))) + (f2 x2 (1 : Int32))) + (f2 x2 (2 : Int32))) + (f2 x2 (3 : Int32))))] [(.int x1), (.int (3 : Int32))]))
    have h100 : ¬ ((3 : Int32) < x1) := fun q => h4 (Int32.lt_trans (by decide) q)
    refine g_icmp_ge X99 hx 115 105 (hb hby d9_102) (by decide) rfl rfl (fun q => absurd q h100) (fun _ => ?_)
    show Go p e below s _ _ _ (T99.setTop (mkF m 115 #[.val (.ref x0), .val (.int x1), .val (.long x2), .second, .val (.int (((((0 : Int32) + (f2 x2 (0 : Int32))) + (f2 x2 (1 : Int32))) + (f2 x2 (2 : Int32))) + (f2 x2 (3 : Int32))))] []))
    refine g_iload X99 hx 117 (hb hby d9_115) rfl rfl ?_
    show Go p e below s _ _ _ (T99.setTop (mkF m 117 #[.val (.ref x0), .val (.int x1), .val (.long x2), .second, .val (.int (((((0 : Int32) + (f2 x2 (0 : Int32))) + (f2 x2 (1 : Int32))) + (f2 x2 (2 : Int32))) + (f2 x2 (3 : Int32))))] [(.int (((((0 : Int32) + (f2 x2 (0 : Int32))) + (f2 x2 (1 : Int32))) + (f2 x2 (2 : Int32))) + (f2 x2 (3 : Int32))))]))
    refine g_lloadN X99 hx 118 (hb hby d9_117) rfl rfl ?_
    show Go p e below s _ _ _ (T99.setTop (mkF m 118 #[.val (.ref x0), .val (.int x1), .val (.long x2), .second, .val (.int (((((0 : Int32) + (f2 x2 (0 : Int32))) + (f2 x2 (1 : Int32))) + (f2 x2 (2 : Int32))) + (f2 x2 (3 : Int32))))] [(.long x2), (.int (((((0 : Int32) + (f2 x2 (0 : Int32))) + (f2 x2 (1 : Int32))) + (f2 x2 (2 : Int32))) + (f2 x2 (3 : Int32))))]))
    refine g_iconst X99 hx (4 : Int32) 119 (hb hby d9_118) rfl rfl ?_
    show Go p e below s _ _ _ (T99.setTop (mkF m 119 #[.val (.ref x0), .val (.int x1), .val (.long x2), .second, .val (.int (((((0 : Int32) + (f2 x2 (0 : Int32))) + (f2 x2 (1 : Int32))) + (f2 x2 (2 : Int32))) + (f2 x2 (3 : Int32))))] [(.int (4 : Int32)), (.long x2), (.int (((((0 : Int32) + (f2 x2 (0 : Int32))) + (f2 x2 (1 : Int32))) + (f2 x2 (2 : Int32))) + (f2 x2 (3 : Int32))))]))
    refine g_callS X99 hx hZ hown (hw _ (List.mem_of_getElem? (i := 6) rfl)) (hw _ (List.mem_of_getElem? (i := 7) rfl)) (hw _ (List.mem_of_getElem? (i := 4) rfl)) (hw _ (List.mem_of_getElem? (i := 8) rfl)) (by decide) e99 (rm2 l Z a0 hw [] x2 (4 : Int32) h0) [(.long x2), (.int (4 : Int32))] [(.int (((((0 : Int32) + (f2 x2 (0 : Int32))) + (f2 x2 (1 : Int32))) + (f2 x2 (2 : Int32))) + (f2 x2 (3 : Int32))))] 1 rfl (lenOf pd__28JI_29I rfl) rfl (Nat.le_of_eq rfl) (by decide) (by decide) (by decide) (by decide) (by rw [hml]; rfl) (hb hby d9_119) ?_
    intro T101 L101 v101 X101 q101
    obtain ⟨rfl, rfl, e101⟩ := q101
    show Go p e below s _ _ _ (T101.setTop (mkF m 122 #[.val (.ref x0), .val (.int x1), .val (.long x2), .second, .val (.int (((((0 : Int32) + (f2 x2 (0 : Int32))) + (f2 x2 (1 : Int32))) + (f2 x2 (2 : Int32))) + (f2 x2 (3 : Int32))))] [(.int (f2 x2 (4 : Int32))), (.int (((((0 : Int32) + (f2 x2 (0 : Int32))) + (f2 x2 (1 : Int32))) + (f2 x2 (2 : Int32))) + (f2 x2 (3 : Int32))))]))
    refine g_iadd X101 hx 123 (hb hby d9_122) rfl ?_
    show Go p e below s _ _ _ (T101.setTop (mkF m 123 #[.val (.ref x0), .val (.int x1), .val (.long x2), .second, .val (.int (((((0 : Int32) + (f2 x2 (0 : Int32))) + (f2 x2 (1 : Int32))) + (f2 x2 (2 : Int32))) + (f2 x2 (3 : Int32))))] [(.int ((((((0 : Int32) + (f2 x2 (0 : Int32))) + (f2 x2 (1 : Int32))) + (f2 x2 (2 : Int32))) + (f2 x2 (3 : Int32))) + (f2 x2 (4 : Int32))))]))
    refine g_istore X101 hx #[.val (.ref x0), .val (.int x1), .val (.long x2), .second, .val (.int ((((((0 : Int32) + (f2 x2 (0 : Int32))) + (f2 x2 (1 : Int32))) + (f2 x2 (2 : Int32))) + (f2 x2 (3 : Int32))) + (f2 x2 (4 : Int32))))] 125 (hb hby d9_123) rfl rfl ?_
    show Go p e below s _ _ _ (T101.setTop (mkF m 125 #[.val (.ref x0), .val (.int x1), .val (.long x2), .second, .val (.int ((((((0 : Int32) + (f2 x2 (0 : Int32))) + (f2 x2 (1 : Int32))) + (f2 x2 (2 : Int32))) + (f2 x2 (3 : Int32))) + (f2 x2 (4 : Int32))))] []))
    refine g_iconst X101 hx (4 : Int32) 126 (hb hby d9_125) rfl rfl ?_
    show Go p e below s _ _ _ (T101.setTop (mkF m 126 #[.val (.ref x0), .val (.int x1), .val (.long x2), .second, .val (.int ((((((0 : Int32) + (f2 x2 (0 : Int32))) + (f2 x2 (1 : Int32))) + (f2 x2 (2 : Int32))) + (f2 x2 (3 : Int32))) + (f2 x2 (4 : Int32))))] [(.int (4 : Int32))]))
    refine g_iloadN X101 hx 127 (hb hby d9_126) rfl rfl ?_
    show Go p e below s _ _ _ (T101.setTop (mkF m 127 #[.val (.ref x0), .val (.int x1), .val (.long x2), .second, .val (.int ((((((0 : Int32) + (f2 x2 (0 : Int32))) + (f2 x2 (1 : Int32))) + (f2 x2 (2 : Int32))) + (f2 x2 (3 : Int32))) + (f2 x2 (4 : Int32))))] [(.int x1), (.int (4 : Int32))]))
    have h102 : ¬ ((4 : Int32) < x1) := fun q => h4 (Int32.lt_trans (by decide) q)
    refine g_icmp_ge X101 hx 140 130 (hb hby d9_127) (by decide) rfl rfl (fun q => absurd q h102) (fun _ => ?_)
    show Go p e below s _ _ _ (T101.setTop (mkF m 140 #[.val (.ref x0), .val (.int x1), .val (.long x2), .second, .val (.int ((((((0 : Int32) + (f2 x2 (0 : Int32))) + (f2 x2 (1 : Int32))) + (f2 x2 (2 : Int32))) + (f2 x2 (3 : Int32))) + (f2 x2 (4 : Int32))))] []))
    refine g_iload X101 hx 142 (hb hby d9_140) rfl rfl ?_
    show Go p e below s _ _ _ (T101.setTop (mkF m 142 #[.val (.ref x0), .val (.int x1), .val (.long x2), .second, .val (.int ((((((0 : Int32) + (f2 x2 (0 : Int32))) + (f2 x2 (1 : Int32))) + (f2 x2 (2 : Int32))) + (f2 x2 (3 : Int32))) + (f2 x2 (4 : Int32))))] [(.int ((((((0 : Int32) + (f2 x2 (0 : Int32))) + (f2 x2 (1 : Int32))) + (f2 x2 (2 : Int32))) + (f2 x2 (3 : Int32))) + (f2 x2 (4 : Int32))))]))
    refine g_lloadN X101 hx 143 (hb hby d9_142) rfl rfl ?_
    show Go p e below s _ _ _ (T101.setTop (mkF m 143 #[.val (.ref x0), .val (.int x1), .val (.long x2), .second, .val (.int ((((((0 : Int32) + (f2 x2 (0 : Int32))) + (f2 x2 (1 : Int32))) + (f2 x2 (2 : Int32))) + (f2 x2 (3 : Int32))) + (f2 x2 (4 : Int32))))] [(.long x2), (.int ((((((0 : Int32) + (f2 x2 (0 : Int32))) + (f2 x2 (1 : Int32))) + (f2 x2 (2 : Int32))) + (f2 x2 (3 : Int32))) + (f2 x2 (4 : Int32))))]))
    refine g_iconst X101 hx (5 : Int32) 144 (hb hby d9_143) rfl rfl ?_
    show Go p e below s _ _ _ (T101.setTop (mkF m 144 #[.val (.ref x0), .val (.int x1), .val (.long x2), .second, .val (.int ((((((0 : Int32) + (f2 x2 (0 : Int32))) + (f2 x2 (1 : Int32))) + (f2 x2 (2 : Int32))) + (f2 x2 (3 : Int32))) + (f2 x2 (4 : Int32))))] [(.int (5 : Int32)), (.long x2), (.int ((((((0 : Int32) + (f2 x2 (0 : Int32))) + (f2 x2 (1 : Int32))) + (f2 x2 (2 : Int32))) + (f2 x2 (3 : Int32))) + (f2 x2 (4 : Int32))))]))
    refine g_callS X101 hx hZ hown (hw _ (List.mem_of_getElem? (i := 6) rfl)) (hw _ (List.mem_of_getElem? (i := 7) rfl)) (hw _ (List.mem_of_getElem? (i := 4) rfl)) (hw _ (List.mem_of_getElem? (i := 8) rfl)) (by decide) e101 (rm2 l Z a0 hw [] x2 (5 : Int32) h0) [(.long x2), (.int (5 : Int32))] [(.int ((((((0 : Int32) + (f2 x2 (0 : Int32))) + (f2 x2 (1 : Int32))) + (f2 x2 (2 : Int32))) + (f2 x2 (3 : Int32))) + (f2 x2 (4 : Int32))))] 1 rfl (lenOf pd__28JI_29I rfl) rfl (Nat.le_of_eq rfl) (by decide) (by decide) (by decide) (by decide) (by rw [hml]; rfl) (hb hby d9_144) ?_
    intro T103 L103 v103 X103 q103
    obtain ⟨rfl, rfl, e103⟩ := q103
    show Go p e below s _ _ _ (T103.setTop (mkF m 147 #[.val (.ref x0), .val (.int x1), .val (.long x2), .second, .val (.int ((((((0 : Int32) + (f2 x2 (0 : Int32))) + (f2 x2 (1 : Int32))) + (f2 x2 (2 : Int32))) + (f2 x2 (3 : Int32))) + (f2 x2 (4 : Int32))))] [(.int (f2 x2 (5 : Int32))), (.int ((((((0 : Int32) + (f2 x2 (0 : Int32))) + (f2 x2 (1 : Int32))) + (f2 x2 (2 : Int32))) + (f2 x2 (3 : Int32))) + (f2 x2 (4 : Int32))))]))
    refine g_iadd X103 hx 148 (hb hby d9_147) rfl ?_
    show Go p e below s _ _ _ (T103.setTop (mkF m 148 #[.val (.ref x0), .val (.int x1), .val (.long x2), .second, .val (.int ((((((0 : Int32) + (f2 x2 (0 : Int32))) + (f2 x2 (1 : Int32))) + (f2 x2 (2 : Int32))) + (f2 x2 (3 : Int32))) + (f2 x2 (4 : Int32))))] [(.int (((((((0 : Int32) + (f2 x2 (0 : Int32))) + (f2 x2 (1 : Int32))) + (f2 x2 (2 : Int32))) + (f2 x2 (3 : Int32))) + (f2 x2 (4 : Int32))) + (f2 x2 (5 : Int32))))]))
    refine g_istore X103 hx #[.val (.ref x0), .val (.int x1), .val (.long x2), .second, .val (.int (((((((0 : Int32) + (f2 x2 (0 : Int32))) + (f2 x2 (1 : Int32))) + (f2 x2 (2 : Int32))) + (f2 x2 (3 : Int32))) + (f2 x2 (4 : Int32))) + (f2 x2 (5 : Int32))))] 150 (hb hby d9_148) rfl rfl ?_
    show Go p e below s _ _ _ (T103.setTop (mkF m 150 #[.val (.ref x0), .val (.int x1), .val (.long x2), .second, .val (.int (((((((0 : Int32) + (f2 x2 (0 : Int32))) + (f2 x2 (1 : Int32))) + (f2 x2 (2 : Int32))) + (f2 x2 (3 : Int32))) + (f2 x2 (4 : Int32))) + (f2 x2 (5 : Int32))))] []))
    refine g_iconst X103 hx (5 : Int32) 151 (hb hby d9_150) rfl rfl ?_
    show Go p e below s _ _ _ (T103.setTop (mkF m 151 #[.val (.ref x0), .val (.int x1), .val (.long x2), .second, .val (.int (((((((0 : Int32) + (f2 x2 (0 : Int32))) + (f2 x2 (1 : Int32))) + (f2 x2 (2 : Int32))) + (f2 x2 (3 : Int32))) + (f2 x2 (4 : Int32))) + (f2 x2 (5 : Int32))))] [(.int (5 : Int32))]))
    refine g_iloadN X103 hx 152 (hb hby d9_151) rfl rfl ?_
    show Go p e below s _ _ _ (T103.setTop (mkF m 152 #[.val (.ref x0), .val (.int x1), .val (.long x2), .second, .val (.int (((((((0 : Int32) + (f2 x2 (0 : Int32))) + (f2 x2 (1 : Int32))) + (f2 x2 (2 : Int32))) + (f2 x2 (3 : Int32))) + (f2 x2 (4 : Int32))) + (f2 x2 (5 : Int32))))] [(.int x1), (.int (5 : Int32))]))
    have h104 : ¬ ((5 : Int32) < x1) := fun q => h4 (Int32.lt_trans (by decide) q)
    refine g_icmp_ge X103 hx 165 155 (hb hby d9_152) (by decide) rfl rfl (fun q => absurd q h104) (fun _ => ?_)
    show Go p e below s _ _ _ (T103.setTop (mkF m 165 #[.val (.ref x0), .val (.int x1), .val (.long x2), .second, .val (.int (((((((0 : Int32) + (f2 x2 (0 : Int32))) + (f2 x2 (1 : Int32))) + (f2 x2 (2 : Int32))) + (f2 x2 (3 : Int32))) + (f2 x2 (4 : Int32))) + (f2 x2 (5 : Int32))))] []))
    refine g_iload X103 hx 167 (hb hby d9_165) rfl rfl ?_
    show Go p e below s _ _ _ (T103.setTop (mkF m 167 #[.val (.ref x0), .val (.int x1), .val (.long x2), .second, .val (.int (((((((0 : Int32) + (f2 x2 (0 : Int32))) + (f2 x2 (1 : Int32))) + (f2 x2 (2 : Int32))) + (f2 x2 (3 : Int32))) + (f2 x2 (4 : Int32))) + (f2 x2 (5 : Int32))))] [(.int (((((((0 : Int32) + (f2 x2 (0 : Int32))) + (f2 x2 (1 : Int32))) + (f2 x2 (2 : Int32))) + (f2 x2 (3 : Int32))) + (f2 x2 (4 : Int32))) + (f2 x2 (5 : Int32))))]))
    refine g_lloadN X103 hx 168 (hb hby d9_167) rfl rfl ?_
    show Go p e below s _ _ _ (T103.setTop (mkF m 168 #[.val (.ref x0), .val (.int x1), .val (.long x2), .second, .val (.int (((((((0 : Int32) + (f2 x2 (0 : Int32))) + (f2 x2 (1 : Int32))) + (f2 x2 (2 : Int32))) + (f2 x2 (3 : Int32))) + (f2 x2 (4 : Int32))) + (f2 x2 (5 : Int32))))] [(.long x2), (.int (((((((0 : Int32) + (f2 x2 (0 : Int32))) + (f2 x2 (1 : Int32))) + (f2 x2 (2 : Int32))) + (f2 x2 (3 : Int32))) + (f2 x2 (4 : Int32))) + (f2 x2 (5 : Int32))))]))
    refine g_bipush X103 hx (6 : Int32) 170 (hb hby d9_168) rfl rfl ?_
    show Go p e below s _ _ _ (T103.setTop (mkF m 170 #[.val (.ref x0), .val (.int x1), .val (.long x2), .second, .val (.int (((((((0 : Int32) + (f2 x2 (0 : Int32))) + (f2 x2 (1 : Int32))) + (f2 x2 (2 : Int32))) + (f2 x2 (3 : Int32))) + (f2 x2 (4 : Int32))) + (f2 x2 (5 : Int32))))] [(.int (6 : Int32)), (.long x2), (.int (((((((0 : Int32) + (f2 x2 (0 : Int32))) + (f2 x2 (1 : Int32))) + (f2 x2 (2 : Int32))) + (f2 x2 (3 : Int32))) + (f2 x2 (4 : Int32))) + (f2 x2 (5 : Int32))))]))
    refine g_callS X103 hx hZ hown (hw _ (List.mem_of_getElem? (i := 6) rfl)) (hw _ (List.mem_of_getElem? (i := 7) rfl)) (hw _ (List.mem_of_getElem? (i := 4) rfl)) (hw _ (List.mem_of_getElem? (i := 8) rfl)) (by decide) e103 (rm2 l Z a0 hw [] x2 (6 : Int32) h0) [(.long x2), (.int (6 : Int32))] [(.int (((((((0 : Int32) + (f2 x2 (0 : Int32))) + (f2 x2 (1 : Int32))) + (f2 x2 (2 : Int32))) + (f2 x2 (3 : Int32))) + (f2 x2 (4 : Int32))) + (f2 x2 (5 : Int32))))] 1 rfl (lenOf pd__28JI_29I rfl) rfl (Nat.le_of_eq rfl) (by decide) (by decide) (by decide) (by decide) (by rw [hml]; rfl) (hb hby d9_170) ?_
    intro T105 L105 v105 X105 q105
    obtain ⟨rfl, rfl, e105⟩ := q105
    show Go p e below s _ _ _ (T105.setTop (mkF m 173 #[.val (.ref x0), .val (.int x1), .val (.long x2), .second, .val (.int (((((((0 : Int32) + (f2 x2 (0 : Int32))) + (f2 x2 (1 : Int32))) + (f2 x2 (2 : Int32))) + (f2 x2 (3 : Int32))) + (f2 x2 (4 : Int32))) + (f2 x2 (5 : Int32))))] [(.int (f2 x2 (6 : Int32))), (.int (((((((0 : Int32) + (f2 x2 (0 : Int32))) + (f2 x2 (1 : Int32))) + (f2 x2 (2 : Int32))) + (f2 x2 (3 : Int32))) + (f2 x2 (4 : Int32))) + (f2 x2 (5 : Int32))))]))
    refine g_iadd X105 hx 174 (hb hby d9_173) rfl ?_
    show Go p e below s _ _ _ (T105.setTop (mkF m 174 #[.val (.ref x0), .val (.int x1), .val (.long x2), .second, .val (.int (((((((0 : Int32) + (f2 x2 (0 : Int32))) + (f2 x2 (1 : Int32))) + (f2 x2 (2 : Int32))) + (f2 x2 (3 : Int32))) + (f2 x2 (4 : Int32))) + (f2 x2 (5 : Int32))))] [(.int ((((((((0 : Int32) + (f2 x2 (0 : Int32))) + (f2 x2 (1 : Int32))) + (f2 x2 (2 : Int32))) + (f2 x2 (3 : Int32))) + (f2 x2 (4 : Int32))) + (f2 x2 (5 : Int32))) + (f2 x2 (6 : Int32))))]))
    refine g_istore X105 hx #[.val (.ref x0), .val (.int x1), .val (.long x2), .second, .val (.int ((((((((0 : Int32) + (f2 x2 (0 : Int32))) + (f2 x2 (1 : Int32))) + (f2 x2 (2 : Int32))) + (f2 x2 (3 : Int32))) + (f2 x2 (4 : Int32))) + (f2 x2 (5 : Int32))) + (f2 x2 (6 : Int32))))] 176 (hb hby d9_174) rfl rfl ?_
    show Go p e below s _ _ _ (T105.setTop (mkF m 176 #[.val (.ref x0), .val (.int x1), .val (.long x2), .second, .val (.int ((((((((0 : Int32) + (f2 x2 (0 : Int32))) + (f2 x2 (1 : Int32))) + (f2 x2 (2 : Int32))) + (f2 x2 (3 : Int32))) + (f2 x2 (4 : Int32))) + (f2 x2 (5 : Int32))) + (f2 x2 (6 : Int32))))] []))
    refine g_bipush X105 hx (6 : Int32) 178 (hb hby d9_176) rfl rfl ?_
    show Go p e below s _ _ _ (T105.setTop (mkF m 178 #[.val (.ref x0), .val (.int x1), .val (.long x2), .second, .val (.int ((((((((0 : Int32) + (f2 x2 (0 : Int32))) + (f2 x2 (1 : Int32))) + (f2 x2 (2 : Int32))) + (f2 x2 (3 : Int32))) + (f2 x2 (4 : Int32))) + (f2 x2 (5 : Int32))) + (f2 x2 (6 : Int32))))] [(.int (6 : Int32))]))
    refine g_iloadN X105 hx 179 (hb hby d9_178) rfl rfl ?_
    show Go p e below s _ _ _ (T105.setTop (mkF m 179 #[.val (.ref x0), .val (.int x1), .val (.long x2), .second, .val (.int ((((((((0 : Int32) + (f2 x2 (0 : Int32))) + (f2 x2 (1 : Int32))) + (f2 x2 (2 : Int32))) + (f2 x2 (3 : Int32))) + (f2 x2 (4 : Int32))) + (f2 x2 (5 : Int32))) + (f2 x2 (6 : Int32))))] [(.int x1), (.int (6 : Int32))]))
    have h106 : ¬ ((6 : Int32) < x1) := fun q => h4 (Int32.lt_trans (by decide) q)
    refine g_icmp_ge X105 hx 193 182 (hb hby d9_179) (by decide) rfl rfl (fun q => absurd q h106) (fun _ => ?_)
    show Go p e below s _ _ _ (T105.setTop (mkF m 193 #[.val (.ref x0), .val (.int x1), .val (.long x2), .second, .val (.int ((((((((0 : Int32) + (f2 x2 (0 : Int32))) + (f2 x2 (1 : Int32))) + (f2 x2 (2 : Int32))) + (f2 x2 (3 : Int32))) + (f2 x2 (4 : Int32))) + (f2 x2 (5 : Int32))) + (f2 x2 (6 : Int32))))] []))
    refine g_iload X105 hx 195 (hb hby d9_193) rfl rfl ?_
    show Go p e below s _ _ _ (T105.setTop (mkF m 195 #[.val (.ref x0), .val (.int x1), .val (.long x2), .second, .val (.int ((((((((0 : Int32) + (f2 x2 (0 : Int32))) + (f2 x2 (1 : Int32))) + (f2 x2 (2 : Int32))) + (f2 x2 (3 : Int32))) + (f2 x2 (4 : Int32))) + (f2 x2 (5 : Int32))) + (f2 x2 (6 : Int32))))] [(.int ((((((((0 : Int32) + (f2 x2 (0 : Int32))) + (f2 x2 (1 : Int32))) + (f2 x2 (2 : Int32))) + (f2 x2 (3 : Int32))) + (f2 x2 (4 : Int32))) + (f2 x2 (5 : Int32))) + (f2 x2 (6 : Int32))))]))
    refine g_lloadN X105 hx 196 (hb hby d9_195) rfl rfl ?_
    show Go p e below s _ _ _ (T105.setTop (mkF m 196 #[.val (.ref x0), .val (.int x1), .val (.long x2), .second, .val (.int ((((((((0 : Int32) + (f2 x2 (0 : Int32))) + (f2 x2 (1 : Int32))) + (f2 x2 (2 : Int32))) + (f2 x2 (3 : Int32))) + (f2 x2 (4 : Int32))) + (f2 x2 (5 : Int32))) + (f2 x2 (6 : Int32))))] [(.long x2), (.int ((((((((0 : Int32) + (f2 x2 (0 : Int32))) + (f2 x2 (1 : Int32))) + (f2 x2 (2 : Int32))) + (f2 x2 (3 : Int32))) + (f2 x2 (4 : Int32))) + (f2 x2 (5 : Int32))) + (f2 x2 (6 : Int32))))]))
    refine g_bipush X105 hx (7 : Int32) 198 (hb hby d9_196) rfl rfl ?_
    show Go p e below s _ _ _ (T105.setTop (mkF m 198 #[.val (.ref x0), .val (.int x1), .val (.long x2), .second, .val (.int ((((((((0 : Int32) + (f2 x2 (0 : Int32))) + (f2 x2 (1 : Int32))) + (f2 x2 (2 : Int32))) + (f2 x2 (3 : Int32))) + (f2 x2 (4 : Int32))) + (f2 x2 (5 : Int32))) + (f2 x2 (6 : Int32))))] [(.int (7 : Int32)), (.long x2), (.int ((((((((0 : Int32) + (f2 x2 (0 : Int32))) + (f2 x2 (1 : Int32))) + (f2 x2 (2 : Int32))) + (f2 x2 (3 : Int32))) + (f2 x2 (4 : Int32))) + (f2 x2 (5 : Int32))) + (f2 x2 (6 : Int32))))]))
    refine g_callS X105 hx hZ hown (hw _ (List.mem_of_getElem? (i := 6) rfl)) (hw _ (List.mem_of_getElem? (i := 7) rfl)) (hw _ (List.mem_of_getElem? (i := 4) rfl)) (hw _ (List.mem_of_getElem? (i := 8) rfl)) (by decide) e105 (rm2 l Z a0 hw [] x2 (7 : Int32) h0) [(.long x2), (.int (7 : Int32))] [(.int ((((((((0 : Int32) + (f2 x2 (0 : Int32))) + (f2 x2 (1 : Int32))) + (f2 x2 (2 : Int32))) + (f2 x2 (3 : Int32))) + (f2 x2 (4 : Int32))) + (f2 x2 (5 : Int32))) + (f2 x2 (6 : Int32))))] 1 rfl (lenOf pd__28JI_29I rfl) rfl (Nat.le_of_eq rfl) (by decide) (by decide) (by decide) (by decide) (by rw [hml]; rfl) (hb hby d9_198) ?_
    intro T107 L107 v107 X107 q107
    obtain ⟨rfl, rfl, e107⟩ := q107
    show Go p e below s _ _ _ (T107.setTop (mkF m 201 #[.val (.ref x0), .val (.int x1), .val (.long x2), .second, .val (.int ((((((((0 : Int32) + (f2 x2 (0 : Int32))) + (f2 x2 (1 : Int32))) + (f2 x2 (2 : Int32))) + (f2 x2 (3 : Int32))) + (f2 x2 (4 : Int32))) + (f2 x2 (5 : Int32))) + (f2 x2 (6 : Int32))))] [(.int (f2 x2 (7 : Int32))), (.int ((((((((0 : Int32) + (f2 x2 (0 : Int32))) + (f2 x2 (1 : Int32))) + (f2 x2 (2 : Int32))) + (f2 x2 (3 : Int32))) + (f2 x2 (4 : Int32))) + (f2 x2 (5 : Int32))) + (f2 x2 (6 : Int32))))]))
    refine g_iadd X107 hx 202 (hb hby d9_201) rfl ?_
    show Go p e below s _ _ _ (T107.setTop (mkF m 202 #[.val (.ref x0), .val (.int x1), .val (.long x2), .second, .val (.int ((((((((0 : Int32) + (f2 x2 (0 : Int32))) + (f2 x2 (1 : Int32))) + (f2 x2 (2 : Int32))) + (f2 x2 (3 : Int32))) + (f2 x2 (4 : Int32))) + (f2 x2 (5 : Int32))) + (f2 x2 (6 : Int32))))] [(.int (((((((((0 : Int32) + (f2 x2 (0 : Int32))) + (f2 x2 (1 : Int32))) + (f2 x2 (2 : Int32))) + (f2 x2 (3 : Int32))) + (f2 x2 (4 : Int32))) + (f2 x2 (5 : Int32))) + (f2 x2 (6 : Int32))) + (f2 x2 (7 : Int32))))]))
    refine g_istore X107 hx #[.val (.ref x0), .val (.int x1), .val (.long x2), .second, .val (.int (((((((((0 : Int32) + (f2 x2 (0 : Int32))) + (f2 x2 (1 : Int32))) + (f2 x2 (2 : Int32))) + (f2 x2 (3 : Int32))) + (f2 x2 (4 : Int32))) + (f2 x2 (5 : Int32))) + (f2 x2 (6 : Int32))) + (f2 x2 (7 : Int32))))] 204 (hb hby d9_202) rfl rfl ?_
    show Go p e below s _ _ _ (T107.setTop (mkF m 204 #[.val (.ref x0), .val (.int x1), .val (.long x2), .second, .val (.int (((((((((0 : Int32) + (f2 x2 (0 : Int32))) + (f2 x2 (1 : Int32))) + (f2 x2 (2 : Int32))) + (f2 x2 (3 : Int32))) + (f2 x2 (4 : Int32))) + (f2 x2 (5 : Int32))) + (f2 x2 (6 : Int32))) + (f2 x2 (7 : Int32))))] []))
    refine g_bipush X107 hx (7 : Int32) 206 (hb hby d9_204) rfl rfl ?_
    show Go p e below s _ _ _ (T107.setTop (mkF m 206 #[.val (.ref x0), .val (.int x1), .val (.long x2), .second, .val (.int (((((((((0 : Int32) + (f2 x2 (0 : Int32))) + (f2 x2 (1 : Int32))) + (f2 x2 (2 : Int32))) + (f2 x2 (3 : Int32))) + (f2 x2 (4 : Int32))) + (f2 x2 (5 : Int32))) + (f2 x2 (6 : Int32))) + (f2 x2 (7 : Int32))))] [(.int (7 : Int32))]))
    refine g_iloadN X107 hx 207 (hb hby d9_206) rfl rfl ?_
    show Go p e below s _ _ _ (T107.setTop (mkF m 207 #[.val (.ref x0), .val (.int x1), .val (.long x2), .second, .val (.int (((((((((0 : Int32) + (f2 x2 (0 : Int32))) + (f2 x2 (1 : Int32))) + (f2 x2 (2 : Int32))) + (f2 x2 (3 : Int32))) + (f2 x2 (4 : Int32))) + (f2 x2 (5 : Int32))) + (f2 x2 (6 : Int32))) + (f2 x2 (7 : Int32))))] [(.int x1), (.int (7 : Int32))]))
    have h108 : ¬ ((7 : Int32) < x1) := fun q => h4 (Int32.lt_trans (by decide) q)
    refine g_icmp_ge X107 hx 221 210 (hb hby d9_207) (by decide) rfl rfl (fun q => absurd q h108) (fun _ => ?_)
    show Go p e below s _ _ _ (T107.setTop (mkF m 221 #[.val (.ref x0), .val (.int x1), .val (.long x2), .second, .val (.int (((((((((0 : Int32) + (f2 x2 (0 : Int32))) + (f2 x2 (1 : Int32))) + (f2 x2 (2 : Int32))) + (f2 x2 (3 : Int32))) + (f2 x2 (4 : Int32))) + (f2 x2 (5 : Int32))) + (f2 x2 (6 : Int32))) + (f2 x2 (7 : Int32))))] []))
    refine g_iload X107 hx 223 (hb hby d9_221) rfl rfl ?_
    show Go p e below s _ _ _ (T107.setTop (mkF m 223 #[.val (.ref x0), .val (.int x1), .val (.long x2), .second, .val (.int (((((((((0 : Int32) + (f2 x2 (0 : Int32))) + (f2 x2 (1 : Int32))) + (f2 x2 (2 : Int32))) + (f2 x2 (3 : Int32))) + (f2 x2 (4 : Int32))) + (f2 x2 (5 : Int32))) + (f2 x2 (6 : Int32))) + (f2 x2 (7 : Int32))))] [(.int (((((((((0 : Int32) + (f2 x2 (0 : Int32))) + (f2 x2 (1 : Int32))) + (f2 x2 (2 : Int32))) + (f2 x2 (3 : Int32))) + (f2 x2 (4 : Int32))) + (f2 x2 (5 : Int32))) + (f2 x2 (6 : Int32))) + (f2 x2 (7 : Int32))))]))
    refine g_lloadN X107 hx 224 (hb hby d9_223) rfl rfl ?_
    show Go p e below s _ _ _ (T107.setTop (mkF m 224 #[.val (.ref x0), .val (.int x1), .val (.long x2), .second, .val (.int (((((((((0 : Int32) + (f2 x2 (0 : Int32))) + (f2 x2 (1 : Int32))) + (f2 x2 (2 : Int32))) + (f2 x2 (3 : Int32))) + (f2 x2 (4 : Int32))) + (f2 x2 (5 : Int32))) + (f2 x2 (6 : Int32))) + (f2 x2 (7 : Int32))))] [(.long x2), (.int (((((((((0 : Int32) + (f2 x2 (0 : Int32))) + (f2 x2 (1 : Int32))) + (f2 x2 (2 : Int32))) + (f2 x2 (3 : Int32))) + (f2 x2 (4 : Int32))) + (f2 x2 (5 : Int32))) + (f2 x2 (6 : Int32))) + (f2 x2 (7 : Int32))))]))
    refine g_bipush X107 hx (8 : Int32) 226 (hb hby d9_224) rfl rfl ?_
    show Go p e below s _ _ _ (T107.setTop (mkF m 226 #[.val (.ref x0), .val (.int x1), .val (.long x2), .second, .val (.int (((((((((0 : Int32) + (f2 x2 (0 : Int32))) + (f2 x2 (1 : Int32))) + (f2 x2 (2 : Int32))) + (f2 x2 (3 : Int32))) + (f2 x2 (4 : Int32))) + (f2 x2 (5 : Int32))) + (f2 x2 (6 : Int32))) + (f2 x2 (7 : Int32))))] [(.int (8 : Int32)), (.long x2), (.int (((((((((0 : Int32) + (f2 x2 (0 : Int32))) + (f2 x2 (1 : Int32))) + (f2 x2 (2 : Int32))) + (f2 x2 (3 : Int32))) + (f2 x2 (4 : Int32))) + (f2 x2 (5 : Int32))) + (f2 x2 (6 : Int32))) + (f2 x2 (7 : Int32))))]))
    refine g_callS X107 hx hZ hown (hw _ (List.mem_of_getElem? (i := 6) rfl)) (hw _ (List.mem_of_getElem? (i := 7) rfl)) (hw _ (List.mem_of_getElem? (i := 4) rfl)) (hw _ (List.mem_of_getElem? (i := 8) rfl)) (by decide) e107 (rm2 l Z a0 hw [] x2 (8 : Int32) h0) [(.long x2), (.int (8 : Int32))] [(.int (((((((((0 : Int32) + (f2 x2 (0 : Int32))) + (f2 x2 (1 : Int32))) + (f2 x2 (2 : Int32))) + (f2 x2 (3 : Int32))) + (f2 x2 (4 : Int32))) + (f2 x2 (5 : Int32))) + (f2 x2 (6 : Int32))) + (f2 x2 (7 : Int32))))] 1 rfl (lenOf pd__28JI_29I rfl) rfl (Nat.le_of_eq rfl) (by decide) (by decide) (by decide) (by decide) (by rw [hml]; rfl) (hb hby d9_226) ?_
    intro T109 L109 v109 X109 q109
    obtain ⟨rfl, rfl, e109⟩ := q109
    show Go p e below s _ _ _ (T109.setTop (mkF m 229 #[.val (.ref x0), .val (.int x1), .val (.long x2), .second, .val (.int (((((((((0 : Int32) + (f2 x2 (0 : Int32))) + (f2 x2 (1 : Int32))) + (f2 x2 (2 : Int32))) + (f2 x2 (3 : Int32))) + (f2 x2 (4 : Int32))) + (f2 x2 (5 : Int32))) + (f2 x2 (6 : Int32))) + (f2 x2 (7 : Int32))))] [(.int (f2 x2 (8 : Int32))), (.int (((((((((0 : Int32) + (f2 x2 (0 : Int32))) + (f2 x2 (1 : Int32))) + (f2 x2 (2 : Int32))) + (f2 x2 (3 : Int32))) + (f2 x2 (4 : Int32))) + (f2 x2 (5 : Int32))) + (f2 x2 (6 : Int32))) + (f2 x2 (7 : Int32))))]))
    refine g_iadd X109 hx 230 (hb hby d9_229) rfl ?_
    show Go p e below s _ _ _ (T109.setTop (mkF m 230 #[.val (.ref x0), .val (.int x1), .val (.long x2), .second, .val (.int (((((((((0 : Int32) + (f2 x2 (0 : Int32))) + (f2 x2 (1 : Int32))) + (f2 x2 (2 : Int32))) + (f2 x2 (3 : Int32))) + (f2 x2 (4 : Int32))) + (f2 x2 (5 : Int32))) + (f2 x2 (6 : Int32))) + (f2 x2 (7 : Int32))))] [(.int ((((((((((0 : Int32) + (f2 x2 (0 : Int32))) + (f2 x2 (1 : Int32))) + (f2 x2 (2 : Int32))) + (f2 x2 (3 : Int32))) + (f2 x2 (4 : Int32))) + (f2 x2 (5 : Int32))) + (f2 x2 (6 : Int32))) + (f2 x2 (7 : Int32))) + (f2 x2 (8 : Int32))))]))
    refine g_istore X109 hx #[.val (.ref x0), .val (.int x1), .val (.long x2), .second, .val (.int ((((((((((0 : Int32) + (f2 x2 (0 : Int32))) + (f2 x2 (1 : Int32))) + (f2 x2 (2 : Int32))) + (f2 x2 (3 : Int32))) + (f2 x2 (4 : Int32))) + (f2 x2 (5 : Int32))) + (f2 x2 (6 : Int32))) + (f2 x2 (7 : Int32))) + (f2 x2 (8 : Int32))))] 232 (hb hby d9_230) rfl rfl ?_
    show Go p e below s _ _ _ (T109.setTop (mkF m 232 #[.val (.ref x0), .val (.int x1), .val (.long x2), .second, .val (.int ((((((((((0 : Int32) + (f2 x2 (0 : Int32))) + (f2 x2 (1 : Int32))) + (f2 x2 (2 : Int32))) + (f2 x2 (3 : Int32))) + (f2 x2 (4 : Int32))) + (f2 x2 (5 : Int32))) + (f2 x2 (6 : Int32))) + (f2 x2 (7 : Int32))) + (f2 x2 (8 : Int32))))] []))
    refine g_bipush X109 hx (8 : Int32) 234 (hb hby d9_232) rfl rfl ?_
    show Go p e below s _ _ _ (T109.setTop (mkF m 234 #[.val (.ref x0), .val (.int x1), .val (.long x2), .second, .val (.int ((((((((((0 : Int32) + (f2 x2 (0 : Int32))) + (f2 x2 (1 : Int32))) + (f2 x2 (2 : Int32))) + (f2 x2 (3 : Int32))) + (f2 x2 (4 : Int32))) + (f2 x2 (5 : Int32))) + (f2 x2 (6 : Int32))) + (f2 x2 (7 : Int32))) + (f2 x2 (8 : Int32))))] [(.int (8 : Int32))]))
    refine g_iloadN X109 hx 235 (hb hby d9_234) rfl rfl ?_
    show Go p e below s _ _ _ (T109.setTop (mkF m 235 #[.val (.ref x0), .val (.int x1), .val (.long x2), .second, .val (.int ((((((((((0 : Int32) + (f2 x2 (0 : Int32))) + (f2 x2 (1 : Int32))) + (f2 x2 (2 : Int32))) + (f2 x2 (3 : Int32))) + (f2 x2 (4 : Int32))) + (f2 x2 (5 : Int32))) + (f2 x2 (6 : Int32))) + (f2 x2 (7 : Int32))) + (f2 x2 (8 : Int32))))] [(.int x1), (.int (8 : Int32))]))
    have h110 : ¬ ((8 : Int32) < x1) := fun q => h4 (Int32.lt_trans (by decide) q)
    refine g_icmp_ge X109 hx 249 238 (hb hby d9_235) (by decide) rfl rfl (fun q => absurd q h110) (fun _ => ?_)
    show Go p e below s _ _ _ (T109.setTop (mkF m 249 #[.val (.ref x0), .val (.int x1), .val (.long x2), .second, .val (.int ((((((((((0 : Int32) + (f2 x2 (0 : Int32))) + (f2 x2 (1 : Int32))) + (f2 x2 (2 : Int32))) + (f2 x2 (3 : Int32))) + (f2 x2 (4 : Int32))) + (f2 x2 (5 : Int32))) + (f2 x2 (6 : Int32))) + (f2 x2 (7 : Int32))) + (f2 x2 (8 : Int32))))] []))
    refine g_iconst X109 hx (1 : Int32) 250 (hb hby d9_249) rfl rfl ?_
    show Go p e below s _ _ _ (T109.setTop (mkF m 250 #[.val (.ref x0), .val (.int x1), .val (.long x2), .second, .val (.int ((((((((((0 : Int32) + (f2 x2 (0 : Int32))) + (f2 x2 (1 : Int32))) + (f2 x2 (2 : Int32))) + (f2 x2 (3 : Int32))) + (f2 x2 (4 : Int32))) + (f2 x2 (5 : Int32))) + (f2 x2 (6 : Int32))) + (f2 x2 (7 : Int32))) + (f2 x2 (8 : Int32))))] [(.int (1 : Int32))]))
    exact g_retN X109 hx hret (by simp) hlk (hb hby d9_250) (by decide) (by decide) ⟨rfl, rfl, e109⟩
def Q10 (Z : State) (x0 : Addr) (vi : Addr) (ba : Addr) (pa : Addr) (dc : Int32) (fr : Int32) (ln : Int32) (of : Int32) (g : Nat → Int32) (pn : Nat) (pg : Nat → Int32) (on : Nat) (fn : Nat) (h0 : Heap) (n0 : Nat) (v : Option Value) (h : Heap) (L : List Loc) : Prop := v = some (.int (1 : Int32)) ∧ Fr n0 L ∧ Keep h0 h [x0, vi, pa] ∧ Fld Z h x0 "com/example/terms_in_context/termsincontext/index/Postings" "document" "I" (.int (dc + (own_rd g 0 on 0 0))) ∧ Fld Z h x0 "com/example/terms_in_context/termsincontext/index/Postings" "in" "Lcom/example/terms_in_context/termsincontext/index/VarIntInput;" (.ref vi) ∧ Fld Z h x0 "com/example/terms_in_context/termsincontext/index/Postings" "positions" "[I" (.ref pa) ∧ Fld Z h x0 "com/example/terms_in_context/termsincontext/index/Postings" "frequency" "I" (.int (own_rd g 0 (on + 1) 0 0)) ∧ Fld Z h vi "com/example/terms_in_context/termsincontext/index/VarIntInput" "bytes" "[B" (.ref ba) ∧ Fld Z h vi "com/example/terms_in_context/termsincontext/index/VarIntInput" "length" "I" (.int ln) ∧ Fld Z h vi "com/example/terms_in_context/termsincontext/index/VarIntInput" "offset" "I" (.int (Int32.ofNat (on + 2 + fn))) ∧ AI Z h pa pn (own_ps g (on + 2) pg fn)
theorem pd__28_29I : parseMethodDescriptor "()I" = some ⟨[], some .int⟩ := by decide +kernel
theorem d10_75 : decode prog_23_method_2_code 75 = .ok (.iload_n 2, 1) := by decide +kernel
theorem d10_76 : decode prog_23_method_2_code 76 = .ok (.aload_n 0, 1) := by decide +kernel
theorem d10_77 : decode prog_23_method_2_code 77 = .ok (.getfield 34, 3) := by decide +kernel
theorem d10_80 : decode prog_23_method_2_code 80 = .ok (.if_icmp .ge 26, 3) := by decide +kernel
theorem d10_83 : decode prog_23_method_2_code 83 = .ok (.iload_n 1, 1) := by decide +kernel
theorem d10_84 : decode prog_23_method_2_code 84 = .ok (.aload_n 0, 1) := by decide +kernel
theorem d10_85 : decode prog_23_method_2_code 85 = .ok (.getfield 22, 3) := by decide +kernel
theorem d10_88 : decode prog_23_method_2_code 88 = .ok (.invokevirtual 30, 3) := by decide +kernel
theorem d10_91 : decode prog_23_method_2_code 91 = .ok (.iadd, 1) := by decide +kernel
theorem d10_92 : decode prog_23_method_2_code 92 = .ok (.istore_n 1, 1) := by decide +kernel
theorem d10_93 : decode prog_23_method_2_code 93 = .ok (.aload_n 0, 1) := by decide +kernel
theorem d10_94 : decode prog_23_method_2_code 94 = .ok (.getfield 13, 3) := by decide +kernel
theorem d10_97 : decode prog_23_method_2_code 97 = .ok (.iload_n 2, 1) := by decide +kernel
theorem d10_98 : decode prog_23_method_2_code 98 = .ok (.iload_n 1, 1) := by decide +kernel
theorem d10_99 : decode prog_23_method_2_code 99 = .ok (.iastore, 1) := by decide +kernel
theorem d10_100 : decode prog_23_method_2_code 100 = .ok (.iinc 2 1, 3) := by decide +kernel
theorem d10_103 : decode prog_23_method_2_code 103 = .ok (.goto (-28), 3) := by decide +kernel
theorem d10_106 : decode prog_23_method_2_code 106 = .ok (.iconst 1, 1) := by decide +kernel
theorem d10_107 : decode prog_23_method_2_code 107 = .ok (.ireturn, 1) := by decide +kernel
set_option maxRecDepth 65536 in
set_option maxHeartbeats 40000000 in
theorem sg10 (l : Launch) (Z : State) (a0 : Array Value) (hw : ∀ d ∈ tables_1, d.before a0 Z = true) {p : Program} {e : Env} {s : State} {m : MethodId} {args : Array Value} {below : List Frame} {meth : Method} {c : Code} (hx : p.tables.exec = Jvm.exec) (hby : c.code = prog_23_method_2_code) (hml : c.maxLocals = 3) (hret : meth.sig.returnType = some .boolean) (hlk : meth.locks = false) (hown : s.vm.findClass "com/example/terms_in_context/termsincontext/index/Postings" = some m.cls) (hnm : meth.name = "next") (hZ : Z.Warmed39 s.vm) (x0 : Addr) (vi : Addr) (ba : Addr) (pa : Addr) (dc : Int32) (fr : Int32) (ln : Int32) (of : Int32) (g : Nat → Int32) (pn : Nat) (pg : Nat → Int32) (on : Nat) (fn : Nat) (h0 : Heap) (n0 : Nat) (ho : of.toInt = on) (hmore : of < ln) (hd0 : ¬ g on < 0) (hd1 : ¬ g (on + 1) < 0) (hfn : (own_rd g 0 (on + 1) 0 0).toInt = fn) (hb0 : ∀ j, j < fn → ¬ g (on + 2 + j) < 0) (hon : on + 2 + fn ≤ 22) (hfl : fn ≤ pn) (hpn : pn ≤ 16) : ∀ (k : Nat) (i : Nat) (iv : Int32) (T0 : State) (locs : List Loc) (hS : Heap), Stand p l e ({ frames := 1, cells := 0, slots := 0, locals := 20 } : Room) s m args below meth c T0 locs 0 0 → T0.heap = hS → n0 ≤ hS.size → Fr n0 locs → Keep h0 hS [x0, vi, pa] → Exa Z hS x0 "com/example/terms_in_context/termsincontext/index/Postings" → Fld Z hS x0 "com/example/terms_in_context/termsincontext/index/Postings" "document" "I" (.int (dc + (own_rd g 0 on 0 0))) → Fld Z hS x0 "com/example/terms_in_context/termsincontext/index/Postings" "in" "Lcom/example/terms_in_context/termsincontext/index/VarIntInput;" (.ref vi) → Fld Z hS x0 "com/example/terms_in_context/termsincontext/index/Postings" "positions" "[I" (.ref pa) → Fld Z hS x0 "com/example/terms_in_context/termsincontext/index/Postings" "frequency" "I" (.int (own_rd g 0 (on + 1) 0 0)) → Exa Z hS vi "com/example/terms_in_context/termsincontext/index/VarIntInput" → Fld Z hS vi "com/example/terms_in_context/termsincontext/index/VarIntInput" "bytes" "[B" (.ref ba) → Fld Z hS vi "com/example/terms_in_context/termsincontext/index/VarIntInput" "length" "I" (.int ln) → Fld Z hS vi "com/example/terms_in_context/termsincontext/index/VarIntInput" "offset" "I" (.int (Int32.ofNat (on + 2 + i))) → AB Z hS ba 22 g → Exa Z hS pa "[I" → AI Z hS pa pn (own_ps g (on + 2) pg i) → n0 ≤ x0 → n0 ≤ vi → n0 ≤ pa → x0 ≠ ba → vi ≠ ba → pa ≠ ba → (iv.toInt = i) → (i + k = fn) → Go p e below s (Q10 Z x0 vi ba pa dc fr ln of g pn pg on fn h0 n0) ({ frames := 1, cells := 0, slots := 0, locals := 20 } : Room).cells ({ frames := 1, cells := 0, slots := 0, locals := 20 } : Room).slots (T0.setTop (mkF m 75 #[.val (.ref x0), .val (.int (own_sm g (on + 2) i)), .val (.int iv)] [])) := by
  intro k
  induction k with
  | zero =>
    intro i iv T0 locs hS X0 e0 Z0 N0 K0 P0 P1 P2 P3 P4 P5 P6 P7 P8 P9 P10 P11 P12 P13 P14 P15 P16 P17 hiv hk
    refine g_iloadN X0 hx 76 (hb hby d10_75) rfl rfl ?_
    show Go p e below s _ _ _ (T0.setTop (mkF m 76 #[.val (.ref x0), .val (.int (own_sm g (on + 2) i)), .val (.int iv)] [(.int iv)]))
    refine g_aloadN X0 hx 77 (hb hby d10_76) rfl rfl rfl ?_
    show Go p e below s _ _ _ (T0.setTop (mkF m 77 #[.val (.ref x0), .val (.int (own_sm g (on + 2) i)), .val (.int iv)] [(.ref x0), (.int iv)]))
    refine g_getF X0 hx hZ hown (hw _ (List.mem_of_getElem? (i := 42) rfl)) Via.refl e0 P4 80 (hb hby d10_77) rfl ?_
    intro T1 X1 e1
    show Go p e below s _ _ _ (T1.setTop (mkF m 80 #[.val (.ref x0), .val (.int (own_sm g (on + 2) i)), .val (.int iv)] [(.int (own_rd g 0 (on + 1) 0 0)), (.int iv)]))
    have h2 : ¬ (iv < (own_rd g 0 (on + 1) 0 0)) := own_nlt hiv hfn (by omega)
    refine g_icmp_ge X1 hx 106 83 (hb hby d10_80) (by decide) rfl rfl (fun q => absurd q h2) (fun _ => ?_)
    show Go p e below s _ _ _ (T1.setTop (mkF m 106 #[.val (.ref x0), .val (.int (own_sm g (on + 2) i)), .val (.int iv)] []))
    refine g_iconst X1 hx (1 : Int32) 107 (hb hby d10_106) rfl rfl ?_
    show Go p e below s _ _ _ (T1.setTop (mkF m 107 #[.val (.ref x0), .val (.int (own_sm g (on + 2) i)), .val (.int iv)] [(.int (1 : Int32))]))
    exact g_retN X1 hx hret (by simp) hlk (hb hby d10_107) (by decide) (by decide) (by rw [e1]; exact ⟨rfl, N0, K0, P1, P2, P3, P4, P6, P7, (by rw [show fn = i from hk.symm]; exact P8), (by rw [show fn = i from hk.symm]; exact P11)⟩)
  | succ k ih =>
    intro i iv T0 locs hS X0 e0 Z0 N0 K0 P0 P1 P2 P3 P4 P5 P6 P7 P8 P9 P10 P11 P12 P13 P14 P15 P16 P17 hiv hk
    refine g_iloadN X0 hx 76 (hb hby d10_75) rfl rfl ?_
    show Go p e below s _ _ _ (T0.setTop (mkF m 76 #[.val (.ref x0), .val (.int (own_sm g (on + 2) i)), .val (.int iv)] [(.int iv)]))
    refine g_aloadN X0 hx 77 (hb hby d10_76) rfl rfl rfl ?_
    show Go p e below s _ _ _ (T0.setTop (mkF m 77 #[.val (.ref x0), .val (.int (own_sm g (on + 2) i)), .val (.int iv)] [(.ref x0), (.int iv)]))
    refine g_getF X0 hx hZ hown (hw _ (List.mem_of_getElem? (i := 42) rfl)) Via.refl e0 P4 80 (hb hby d10_77) rfl ?_
    intro T3 X3 e3
    show Go p e below s _ _ _ (T3.setTop (mkF m 80 #[.val (.ref x0), .val (.int (own_sm g (on + 2) i)), .val (.int iv)] [(.int (own_rd g 0 (on + 1) 0 0)), (.int iv)]))
    have h4 : iv < (own_rd g 0 (on + 1) 0 0) := own_ilt hiv hfn (by omega)
    refine g_icmp_ge X3 hx 106 83 (hb hby d10_80) (by decide) rfl rfl (fun _ => ?_) (fun q => absurd h4 q)
    show Go p e below s _ _ _ (T3.setTop (mkF m 83 #[.val (.ref x0), .val (.int (own_sm g (on + 2) i)), .val (.int iv)] []))
    refine g_iloadN X3 hx 84 (hb hby d10_83) rfl rfl ?_
    show Go p e below s _ _ _ (T3.setTop (mkF m 84 #[.val (.ref x0), .val (.int (own_sm g (on + 2) i)), .val (.int iv)] [(.int (own_sm g (on + 2) i))]))
    refine g_aloadN X3 hx 85 (hb hby d10_84) rfl rfl rfl ?_
    show Go p e below s _ _ _ (T3.setTop (mkF m 85 #[.val (.ref x0), .val (.int (own_sm g (on + 2) i)), .val (.int iv)] [(.ref x0), (.int (own_sm g (on + 2) i))]))
    refine g_getF X3 hx hZ hown (hw _ (List.mem_of_getElem? (i := 35) rfl)) Via.refl e3 P2 88 (hb hby d10_85) rfl ?_
    intro T5 X5 e5
    show Go p e below s _ _ _ (T5.setTop (mkF m 88 #[.val (.ref x0), .val (.int (own_sm g (on + 2) i)), .val (.int iv)] [(.ref vi), (.int (own_sm g (on + 2) i))]))
    refine g_callV X5 hx hZ hown (hw _ (List.mem_of_getElem? (i := 71) rfl)) (hw _ (List.mem_of_getElem? (i := 72) rfl)) (hw _ (List.mem_of_getElem? (i := 74) rfl)) (hw _ (List.mem_of_getElem? (i := 73) rfl)) (hw _ (List.mem_of_getElem? (i := 26) rfl)) (hw _ (List.mem_of_getElem? (i := 75) rfl)) (by decide) e5 vi P5 (rm12 l Z a0 hw [] vi ba ln (Int32.ofNat (on + 2 + i)) 22 g (on + 2 + i : Nat) 0 hS n0 Z0 P5 P6 P7 P8 P9 P13 P16 (own_toI (by omega) : (Int32.ofNat (on + 2 + i)).toInt = (on + 2 + i : Nat)) (by omega : (on + 2 + i : Nat) + 0 < 22) (fun j hj => absurd hj (Nat.not_lt_zero j) : ∀ j, j < 0 → g ((on + 2 + i : Nat) + j) < 0) (hb0 i (by omega) : ¬ g ((on + 2 + i : Nat) + 0) < 0)) [] [(.int (own_sm g (on + 2) i))] 1 rfl (lenOf pd__28_29I rfl) rfl (Nat.le_of_eq rfl) (by decide) (by decide) (by decide) (by decide) (by rw [hml]; rfl) (hb hby d10_88) ?_
    intro T6 L6 v6 X6 q6
    obtain ⟨rfl, N6, K6, p6_0, p6_1, p6_2⟩ := q6
    have NN6 := Fr.app N0 N6
    have KK6 := K0.trans K6 (by intro x hx; cases List.mem_singleton.mp hx; exact (Or.inl (List.mem_of_getElem? (i := 1) rfl)))
    have k6_0 := P0.keep K6
    have k6_1 := P1.keep K6 (nm1 (ne_exa P0 P5 (by decide)) nm0)
    have k6_2 := P2.keep K6 (nm1 (ne_exa P0 P5 (by decide)) nm0)
    have k6_3 := P3.keep K6 (nm1 (ne_exa P0 P5 (by decide)) nm0)
    have k6_4 := P4.keep K6 (nm1 (ne_exa P0 P5 (by decide)) nm0)
    have k6_5 := P5.keep K6
    have k6_9 := P9.keep K6 (nm1 (Ne.symm P16) nm0)
    have k6_10 := P10.keep K6
    have k6_11 := P11.keep K6 (nm1 (ne_exa P10 P5 (by decide)) nm0)
    have Z6 : n0 ≤ T6.heap.size := Nat.le_trans Z0 K6.1
    show Go p e below s _ _ _ (T6.setTop (mkF m 91 #[.val (.ref x0), .val (.int (own_sm g (on + 2) i)), .val (.int iv)] [(.int (own_rd g 0 (on + 2 + i : Nat) 0 0)), (.int (own_sm g (on + 2) i))]))
    refine g_iadd X6 hx 92 (hb hby d10_91) rfl ?_
    show Go p e below s _ _ _ (T6.setTop (mkF m 92 #[.val (.ref x0), .val (.int (own_sm g (on + 2) i)), .val (.int iv)] [(.int ((own_sm g (on + 2) i) + (own_rd g 0 (on + 2 + i : Nat) 0 0)))]))
    refine g_istoreN X6 hx #[.val (.ref x0), .val (.int ((own_sm g (on + 2) i) + (own_rd g 0 (on + 2 + i : Nat) 0 0))), .val (.int iv)] 93 (hb hby d10_92) rfl rfl ?_
    show Go p e below s _ _ _ (T6.setTop (mkF m 93 #[.val (.ref x0), .val (.int ((own_sm g (on + 2) i) + (own_rd g 0 (on + 2 + i : Nat) 0 0))), .val (.int iv)] []))
    refine g_aloadN X6 hx 94 (hb hby d10_93) rfl rfl rfl ?_
    show Go p e below s _ _ _ (T6.setTop (mkF m 94 #[.val (.ref x0), .val (.int ((own_sm g (on + 2) i) + (own_rd g 0 (on + 2 + i : Nat) 0 0))), .val (.int iv)] [(.ref x0)]))
    refine g_getF X6 hx hZ hown (hw _ (List.mem_of_getElem? (i := 22) rfl)) Via.refl rfl k6_3 97 (hb hby d10_94) rfl ?_
    intro T7 X7 e7
    show Go p e below s _ _ _ (T7.setTop (mkF m 97 #[.val (.ref x0), .val (.int ((own_sm g (on + 2) i) + (own_rd g 0 (on + 2 + i : Nat) 0 0))), .val (.int iv)] [(.ref pa)]))
    refine g_iloadN X7 hx 98 (hb hby d10_97) rfl rfl ?_
    show Go p e below s _ _ _ (T7.setTop (mkF m 98 #[.val (.ref x0), .val (.int ((own_sm g (on + 2) i) + (own_rd g 0 (on + 2 + i : Nat) 0 0))), .val (.int iv)] [(.int iv), (.ref pa)]))
    refine g_iloadN X7 hx 99 (hb hby d10_98) rfl rfl ?_
    show Go p e below s _ _ _ (T7.setTop (mkF m 99 #[.val (.ref x0), .val (.int ((own_sm g (on + 2) i) + (own_rd g 0 (on + 2 + i : Nat) 0 0))), .val (.int iv)] [(.int ((own_sm g (on + 2) i) + (own_rd g 0 (on + 2 + i : Nat) 0 0))), (.int iv), (.ref pa)]))
    refine g_iastore X7 hx hZ e7 k6_11 i hiv (by omega) 100 (hb hby d10_99) rfl ?_
    intro T8 h8 X8 e8 W8 A8
    have K8 := KK6.wr W8 (Or.inl (List.mem_of_getElem? (i := 2) rfl))
    have N8 := Fr.snoc X8 NN6 P14
    have k8_0 := k6_0.wr W8
    have k8_1 := k6_1.other W8 (Or.inl (ne_exa k6_0 k6_10 (by decide)))
    have k8_2 := k6_2.other W8 (Or.inl (ne_exa k6_0 k6_10 (by decide)))
    have k8_3 := k6_3.other W8 (Or.inl (ne_exa k6_0 k6_10 (by decide)))
    have k8_4 := k6_4.other W8 (Or.inl (ne_exa k6_0 k6_10 (by decide)))
    have k8_5 := k6_5.wr W8
    have k8_6 := k6_9.other W8 (Ne.symm P17)
    have k8_7 := k6_10.wr W8
    have k8_15 := p6_0.other W8 (Or.inl (ne_exa k6_5 k6_10 (by decide)))
    have k8_16 := p6_1.other W8 (Or.inl (ne_exa k6_5 k6_10 (by decide)))
    have k8_17 := p6_2.other W8 (Or.inl (ne_exa k6_5 k6_10 (by decide)))
    have Z8 : n0 ≤ h8.size := by rw [W8.size]; exact Z6
    show Go p e below s _ _ _ (T8.setTop (mkF m 100 #[.val (.ref x0), .val (.int ((own_sm g (on + 2) i) + (own_rd g 0 (on + 2 + i : Nat) 0 0))), .val (.int iv)] []))
    refine g_iinc X8 hx (1 : Int32) #[.val (.ref x0), .val (.int ((own_sm g (on + 2) i) + (own_rd g 0 (on + 2 + i : Nat) 0 0))), .val (.int (iv + (1 : Int32)))] 103 (hb hby d10_100) rfl rfl rfl rfl ?_
    show Go p e below s _ _ _ (T8.setTop (mkF m 103 #[.val (.ref x0), .val (.int ((own_sm g (on + 2) i) + (own_rd g 0 (on + 2 + i : Nat) 0 0))), .val (.int (iv + (1 : Int32)))] []))
    refine g_goto X8 hx 75 (hb hby d10_103) (by decide) rfl ?_
    show Go p e below s _ _ _ (T8.setTop (mkF m 75 #[.val (.ref x0), .val (.int ((own_sm g (on + 2) i) + (own_rd g 0 (on + 2 + i : Nat) 0 0))), .val (.int (iv + (1 : Int32)))] []))
    exact ih (i + 1) (iv + (1 : Int32)) _ _ _ X8 e8 Z8 N8 K8 k8_0 k8_1 k8_2 k8_3 k8_4 k8_5 k8_15 k8_16 k8_17 k8_6 k8_7 A8 P12 P13 P14 P15 P16 P17 (own_s1 hiv rfl (by omega)) (by omega)
theorem pd__28_29Z : parseMethodDescriptor "()Z" = some ⟨[], some .boolean⟩ := by decide +kernel
theorem d10_0 : decode prog_23_method_2_code 0 = .ok (.aload_n 0, 1) := by decide +kernel
theorem d10_1 : decode prog_23_method_2_code 1 = .ok (.getfield 22, 3) := by decide +kernel
theorem d10_4 : decode prog_23_method_2_code 4 = .ok (.invokevirtual 26, 3) := by decide +kernel
theorem d10_7 : decode prog_23_method_2_code 7 = .ok (.ifCond .ne 5, 3) := by decide +kernel
theorem d10_12 : decode prog_23_method_2_code 12 = .ok (.aload_n 0, 1) := by decide +kernel
theorem d10_13 : decode prog_23_method_2_code 13 = .ok (.dup, 1) := by decide +kernel
theorem d10_14 : decode prog_23_method_2_code 14 = .ok (.getfield 7, 3) := by decide +kernel
theorem d10_17 : decode prog_23_method_2_code 17 = .ok (.aload_n 0, 1) := by decide +kernel
theorem d10_18 : decode prog_23_method_2_code 18 = .ok (.getfield 22, 3) := by decide +kernel
theorem d10_21 : decode prog_23_method_2_code 21 = .ok (.invokevirtual 30, 3) := by decide +kernel
theorem d10_24 : decode prog_23_method_2_code 24 = .ok (.iadd, 1) := by decide +kernel
theorem d10_25 : decode prog_23_method_2_code 25 = .ok (.putfield 7, 3) := by decide +kernel
theorem d10_28 : decode prog_23_method_2_code 28 = .ok (.aload_n 0, 1) := by decide +kernel
theorem d10_29 : decode prog_23_method_2_code 29 = .ok (.aload_n 0, 1) := by decide +kernel
theorem d10_30 : decode prog_23_method_2_code 30 = .ok (.getfield 22, 3) := by decide +kernel
theorem d10_33 : decode prog_23_method_2_code 33 = .ok (.invokevirtual 30, 3) := by decide +kernel
theorem d10_36 : decode prog_23_method_2_code 36 = .ok (.putfield 34, 3) := by decide +kernel
theorem d10_39 : decode prog_23_method_2_code 39 = .ok (.aload_n 0, 1) := by decide +kernel
theorem d10_40 : decode prog_23_method_2_code 40 = .ok (.getfield 34, 3) := by decide +kernel
theorem d10_43 : decode prog_23_method_2_code 43 = .ok (.aload_n 0, 1) := by decide +kernel
theorem d10_44 : decode prog_23_method_2_code 44 = .ok (.getfield 13, 3) := by decide +kernel
theorem d10_47 : decode prog_23_method_2_code 47 = .ok (.arraylength, 1) := by decide +kernel
theorem d10_48 : decode prog_23_method_2_code 48 = .ok (.if_icmp .le 23, 3) := by decide +kernel
theorem d10_71 : decode prog_23_method_2_code 71 = .ok (.iconst 0, 1) := by decide +kernel
theorem d10_72 : decode prog_23_method_2_code 72 = .ok (.istore_n 1, 1) := by decide +kernel
theorem d10_73 : decode prog_23_method_2_code 73 = .ok (.iconst 0, 1) := by decide +kernel
theorem d10_74 : decode prog_23_method_2_code 74 = .ok (.istore_n 2, 1) := by decide +kernel
theorem ef_10 (m : MethodId) (x0 : Addr) : entryFrame m #[(.ref x0)] 3 = mkF m 0 #[.val (.ref x0), .unset, .unset] [] := by first | (simp [entryFrame, mkF, argsToLocals, Value.category]; done) | rfl
set_option maxRecDepth 65536 in
set_option maxHeartbeats 40000000 in
theorem rm10 (l : Launch) (Z : State) (a0 : Array Value) (hw : ∀ d ∈ tables_1, d.before a0 Z = true) (ws : List Jvm.Cond) (x0 : Addr) (vi : Addr) (ba : Addr) (pa : Addr) (dc : Int32) (fr : Int32) (ln : Int32) (of : Int32) (g : Nat → Int32) (pn : Nat) (pg : Nat → Int32) (on : Nat) (fn : Nat) (h0 : Heap) (n0 : Nat) (Z0 : n0 ≤ h0.size) (P0 : Exa Z h0 x0 "com/example/terms_in_context/termsincontext/index/Postings") (P1 : Fld Z h0 x0 "com/example/terms_in_context/termsincontext/index/Postings" "document" "I" (.int dc)) (P2 : Fld Z h0 x0 "com/example/terms_in_context/termsincontext/index/Postings" "in" "Lcom/example/terms_in_context/termsincontext/index/VarIntInput;" (.ref vi)) (P3 : Fld Z h0 x0 "com/example/terms_in_context/termsincontext/index/Postings" "positions" "[I" (.ref pa)) (P4 : Fld Z h0 x0 "com/example/terms_in_context/termsincontext/index/Postings" "frequency" "I" (.int fr)) (P5 : Exa Z h0 vi "com/example/terms_in_context/termsincontext/index/VarIntInput") (P6 : Fld Z h0 vi "com/example/terms_in_context/termsincontext/index/VarIntInput" "bytes" "[B" (.ref ba)) (P7 : Fld Z h0 vi "com/example/terms_in_context/termsincontext/index/VarIntInput" "length" "I" (.int ln)) (P8 : Fld Z h0 vi "com/example/terms_in_context/termsincontext/index/VarIntInput" "offset" "I" (.int of)) (P9 : AB Z h0 ba 22 g) (P10 : Exa Z h0 pa "[I") (P11 : AI Z h0 pa pn pg) (P12 : n0 ≤ x0) (P13 : n0 ≤ vi) (P14 : n0 ≤ pa) (P15 : x0 ≠ ba) (P16 : vi ≠ ba) (P17 : pa ≠ ba) (ho : of.toInt = on) (hmore : of < ln) (hd0 : ¬ g on < 0) (hd1 : ¬ g (on + 1) < 0) (hfn : (own_rd g 0 (on + 1) 0 0).toInt = fn) (hb0 : ∀ j, j < fn → ¬ g (on + 2 + j) < 0) (hon : on + 2 + fn ≤ 22) (hfl : fn ≤ pn) (hpn : pn ≤ 16) :
    MetFree l (⟨"com/example/terms_in_context/termsincontext/index/Postings", "next", "()Z"⟩ : MethodName) (head1 (Jvm.Cond.code (⟨"com/example/terms_in_context/termsincontext/index/Postings", "next", "()Z"⟩ : MethodName) prog_23_method_2_code 3 (some .boolean) :: ws) ({ frames := 1, cells := 0, slots := 0, locals := 20 } : Room)) (fun a U => a = #[(.ref x0)] ∧ Z.Warmed39 U.vm ∧ U.heap = h0) (fun _ _ _ _ _ => True) (fun _ U o U' => ∃ v L, o = .returned v ∧ Q10 Z x0 vi ba pa dc fr ln of g pn pg on fn h0 n0 v U'.heap L ∧ FrameEnd U o U' L ({ frames := 1, cells := 0, slots := 0, locals := 20 } : Room).cells ({ frames := 1, cells := 0, slots := 0, locals := 20 } : Room).slots) := by
  refine g_body (plainFor_of_name pn_6) ?_
  intro p e s m below meth c T0 X0 hx hby hml hret hlk hown hnm hZ e0
  rw [ef_10]
  have N0 := Fr.nil n0
  show Go p e below s _ _ _ (T0.setTop (mkF m 0 #[.val (.ref x0), .unset, .unset] []))
  refine g_aloadN X0 hx 1 (hb hby d10_0) rfl rfl rfl ?_
  show Go p e below s _ _ _ (T0.setTop (mkF m 1 #[.val (.ref x0), .unset, .unset] [(.ref x0)]))
  refine g_getF X0 hx hZ hown (hw _ (List.mem_of_getElem? (i := 35) rfl)) Via.refl e0 P2 4 (hb hby d10_1) rfl ?_
  intro T9 X9 e9
  show Go p e below s _ _ _ (T9.setTop (mkF m 4 #[.val (.ref x0), .unset, .unset] [(.ref vi)]))
  refine g_callV X9 hx hZ hown (hw _ (List.mem_of_getElem? (i := 64) rfl)) (hw _ (List.mem_of_getElem? (i := 65) rfl)) (hw _ (List.mem_of_getElem? (i := 67) rfl)) (hw _ (List.mem_of_getElem? (i := 66) rfl)) (hw _ (List.mem_of_getElem? (i := 26) rfl)) (hw _ (List.mem_of_getElem? (i := 68) rfl)) (by decide) e9 vi P5 (rm11 l Z a0 hw [] vi ln of h0 P7 P8) [] [] 0 rfl (lenOf pd__28_29Z rfl) rfl (Nat.le_of_eq rfl) (by decide) (by decide) (by decide) (by decide) (by rw [hml]; rfl) (hb hby d10_4) ?_
  intro T10 L10 v10 X10 q10
  obtain ⟨rfl, rfl, e10⟩ := q10
  have NS10 := Fr.app N0 (Fr.nil n0)
  show Go p e below s _ _ _ (T10.setTop (mkF m 7 #[.val (.ref x0), .unset, .unset] [(.int (f11 ln of))]))
  have h11 : ¬ ((f11 ln of) = (0 : Int32)) := by rw [f11, if_pos hmore]; decide
  refine g_if0_ne X10 hx 12 10 (hb hby d10_7) (by decide) rfl rfl (fun q => absurd q h11) (fun _ => ?_)
  show Go p e below s _ _ _ (T10.setTop (mkF m 12 #[.val (.ref x0), .unset, .unset] []))
  refine g_aloadN X10 hx 13 (hb hby d10_12) rfl rfl rfl ?_
  show Go p e below s _ _ _ (T10.setTop (mkF m 13 #[.val (.ref x0), .unset, .unset] [(.ref x0)]))
  refine g_dup X10 hx 14 (hb hby d10_13) rfl rfl ?_
  show Go p e below s _ _ _ (T10.setTop (mkF m 14 #[.val (.ref x0), .unset, .unset] [(.ref x0), (.ref x0)]))
  refine g_getF X10 hx hZ hown (hw _ (List.mem_of_getElem? (i := 19) rfl)) Via.refl e10 P1 17 (hb hby d10_14) rfl ?_
  intro T12 X12 e12
  show Go p e below s _ _ _ (T12.setTop (mkF m 17 #[.val (.ref x0), .unset, .unset] [(.int dc), (.ref x0)]))
  refine g_aloadN X12 hx 18 (hb hby d10_17) rfl rfl rfl ?_
  show Go p e below s _ _ _ (T12.setTop (mkF m 18 #[.val (.ref x0), .unset, .unset] [(.ref x0), (.int dc), (.ref x0)]))
  refine g_getF X12 hx hZ hown (hw _ (List.mem_of_getElem? (i := 35) rfl)) Via.refl e12 P2 21 (hb hby d10_18) rfl ?_
  intro T13 X13 e13
  show Go p e below s _ _ _ (T13.setTop (mkF m 21 #[.val (.ref x0), .unset, .unset] [(.ref vi), (.int dc), (.ref x0)]))
  refine g_callV X13 hx hZ hown (hw _ (List.mem_of_getElem? (i := 71) rfl)) (hw _ (List.mem_of_getElem? (i := 72) rfl)) (hw _ (List.mem_of_getElem? (i := 74) rfl)) (hw _ (List.mem_of_getElem? (i := 73) rfl)) (hw _ (List.mem_of_getElem? (i := 26) rfl)) (hw _ (List.mem_of_getElem? (i := 75) rfl)) (by decide) e13 vi P5 (rm12 l Z a0 hw [] vi ba ln of 22 g on 0 h0 n0 Z0 P5 P6 P7 P8 P9 P13 P16 (ho : of.toInt = on) (by omega : on + 0 < 22) (fun j hj => absurd hj (Nat.not_lt_zero j) : ∀ j, j < 0 → g (on + j) < 0) (hd0 : ¬ g (on + 0) < 0)) [] [(.int dc), (.ref x0)] 2 rfl (lenOf pd__28_29I rfl) rfl (Nat.le_of_eq rfl) (by decide) (by decide) (by decide) (by decide) (by rw [hml]; rfl) (hb hby d10_21) ?_
  intro T14 L14 v14 X14 q14
  obtain ⟨rfl, N14, K14, p14_0, p14_1, p14_2⟩ := q14
  have NN14 := Fr.app NS10 N14
  have KK14 := (Keep.refl h0 [x0, vi, pa]).trans K14 (by intro x hx; cases List.mem_singleton.mp hx; exact (Or.inl (List.mem_of_getElem? (i := 1) rfl)))
  have k14_0 := P0.keep K14
  have k14_1 := P1.keep K14 (nm1 (ne_exa P0 P5 (by decide)) nm0)
  have k14_2 := P2.keep K14 (nm1 (ne_exa P0 P5 (by decide)) nm0)
  have k14_3 := P3.keep K14 (nm1 (ne_exa P0 P5 (by decide)) nm0)
  have k14_4 := P4.keep K14 (nm1 (ne_exa P0 P5 (by decide)) nm0)
  have k14_5 := P5.keep K14
  have k14_9 := P9.keep K14 (nm1 (Ne.symm P16) nm0)
  have k14_10 := P10.keep K14
  have k14_11 := P11.keep K14 (nm1 (ne_exa P10 P5 (by decide)) nm0)
  have Z14 : n0 ≤ T14.heap.size := Nat.le_trans Z0 K14.1
  show Go p e below s _ _ _ (T14.setTop (mkF m 24 #[.val (.ref x0), .unset, .unset] [(.int (own_rd g 0 on 0 0)), (.int dc), (.ref x0)]))
  refine g_iadd X14 hx 25 (hb hby d10_24) rfl ?_
  show Go p e below s _ _ _ (T14.setTop (mkF m 25 #[.val (.ref x0), .unset, .unset] [(.int (dc + (own_rd g 0 on 0 0))), (.ref x0)]))
  refine g_putF X14 hx hZ hown (hw _ (List.mem_of_getElem? (i := 19) rfl)) Via.refl rfl k14_1 k14_0 (Or.inl (hw _ (List.mem_of_getElem? (i := 20) rfl))) (hw _ (List.mem_of_getElem? (i := 11) rfl)) (ty := .int) (by decide) rfl rfl 28 (hb hby d10_25) rfl ?_
  intro T15 h15 X15 e15 W15
  have K15 := KK14.wr W15 (Or.inl (List.mem_of_getElem? (i := 0) rfl))
  have N15 := Fr.snoc X15 NN14 P12
  have k15_0 := k14_0.wr W15
  have k15_2 := k14_2.other W15 (Or.inr (slot_ne (Or.inr (hw _ (List.mem_of_getElem? (i := 36) rfl))) (Or.inl (hw _ (List.mem_of_getElem? (i := 20) rfl))) (by decide) (t := (.object "com/example/terms_in_context/termsincontext/index/VarIntInput")) (t' := .int) (by decide) (by decide)))
  have k15_3 := k14_3.other W15 (Or.inr (slot_ne (Or.inl (hw _ (List.mem_of_getElem? (i := 23) rfl))) (Or.inl (hw _ (List.mem_of_getElem? (i := 20) rfl))) (by decide) (t := (.array .int)) (t' := .int) (by decide) (by decide)))
  have k15_4 := k14_4.other W15 (Or.inr (slot_ne (Or.inl (hw _ (List.mem_of_getElem? (i := 43) rfl))) (Or.inl (hw _ (List.mem_of_getElem? (i := 20) rfl))) (by decide) (t := .int) (t' := .int) (by decide) (by decide)))
  have k15_5 := k14_5.wr W15
  have k15_6 := k14_9.other W15 (Ne.symm P15)
  have k15_7 := k14_10.wr W15
  have k15_8 := k14_11.other W15 (ne_exa k14_10 k14_0 (by decide))
  have k15_15 := p14_0.other W15 (Or.inl (ne_exa k14_5 k14_0 (by decide)))
  have k15_16 := p14_1.other W15 (Or.inl (ne_exa k14_5 k14_0 (by decide)))
  have k15_17 := p14_2.other W15 (Or.inl (ne_exa k14_5 k14_0 (by decide)))
  have Z15 : n0 ≤ h15.size := by rw [W15.size]; exact Z14
  have F15 := k14_1.same W15
  show Go p e below s _ _ _ (T15.setTop (mkF m 28 #[.val (.ref x0), .unset, .unset] []))
  refine g_aloadN X15 hx 29 (hb hby d10_28) rfl rfl rfl ?_
  show Go p e below s _ _ _ (T15.setTop (mkF m 29 #[.val (.ref x0), .unset, .unset] [(.ref x0)]))
  refine g_aloadN X15 hx 30 (hb hby d10_29) rfl rfl rfl ?_
  show Go p e below s _ _ _ (T15.setTop (mkF m 30 #[.val (.ref x0), .unset, .unset] [(.ref x0), (.ref x0)]))
  refine g_getF X15 hx hZ hown (hw _ (List.mem_of_getElem? (i := 35) rfl)) Via.refl e15 k15_2 33 (hb hby d10_30) rfl ?_
  intro T16 X16 e16
  show Go p e below s _ _ _ (T16.setTop (mkF m 33 #[.val (.ref x0), .unset, .unset] [(.ref vi), (.ref x0)]))
  refine g_callV X16 hx hZ hown (hw _ (List.mem_of_getElem? (i := 71) rfl)) (hw _ (List.mem_of_getElem? (i := 72) rfl)) (hw _ (List.mem_of_getElem? (i := 74) rfl)) (hw _ (List.mem_of_getElem? (i := 73) rfl)) (hw _ (List.mem_of_getElem? (i := 26) rfl)) (hw _ (List.mem_of_getElem? (i := 75) rfl)) (by decide) e16 vi k15_5 (rm12 l Z a0 hw [] vi ba ln (Int32.ofNat (on + 0 + 1)) 22 g (on + 1 : Nat) 0 h15 n0 Z15 k15_5 k15_15 k15_16 k15_17 k15_6 P13 P16 (own_toI (by omega) : (Int32.ofNat (on + 0 + 1)).toInt = (on + 1 : Nat)) (by omega : (on + 1 : Nat) + 0 < 22) (fun j hj => absurd hj (Nat.not_lt_zero j) : ∀ j, j < 0 → g ((on + 1 : Nat) + j) < 0) (hd1 : ¬ g ((on + 1 : Nat) + 0) < 0)) [] [(.ref x0)] 1 rfl (lenOf pd__28_29I rfl) rfl (Nat.le_of_eq rfl) (by decide) (by decide) (by decide) (by decide) (by rw [hml]; rfl) (hb hby d10_33) ?_
  intro T17 L17 v17 X17 q17
  obtain ⟨rfl, N17, K17, p17_0, p17_1, p17_2⟩ := q17
  have NN17 := Fr.app N15 N17
  have KK17 := K15.trans K17 (by intro x hx; cases List.mem_singleton.mp hx; exact (Or.inl (List.mem_of_getElem? (i := 1) rfl)))
  have k17_0 := k15_0.keep K17
  have k17_1 := k15_2.keep K17 (nm1 (ne_exa k15_0 k15_5 (by decide)) nm0)
  have k17_2 := k15_3.keep K17 (nm1 (ne_exa k15_0 k15_5 (by decide)) nm0)
  have k17_3 := k15_4.keep K17 (nm1 (ne_exa k15_0 k15_5 (by decide)) nm0)
  have k17_4 := k15_5.keep K17
  have k17_5 := k15_6.keep K17 (nm1 (Ne.symm P16) nm0)
  have k17_6 := k15_7.keep K17
  have k17_7 := k15_8.keep K17 (nm1 (ne_exa k15_7 k15_5 (by decide)) nm0)
  have k17_17 := F15.keep K17 (nm1 (ne_exa k15_0 k15_5 (by decide)) nm0)
  have Z17 : n0 ≤ T17.heap.size := Nat.le_trans Z15 K17.1
  show Go p e below s _ _ _ (T17.setTop (mkF m 36 #[.val (.ref x0), .unset, .unset] [(.int (own_rd g 0 (on + 1 : Nat) 0 0)), (.ref x0)]))
  refine g_putF X17 hx hZ hown (hw _ (List.mem_of_getElem? (i := 42) rfl)) Via.refl rfl k17_3 k17_0 (Or.inl (hw _ (List.mem_of_getElem? (i := 43) rfl))) (hw _ (List.mem_of_getElem? (i := 11) rfl)) (ty := .int) (by decide) rfl rfl 39 (hb hby d10_36) rfl ?_
  intro T18 h18 X18 e18 W18
  have K18 := KK17.wr W18 (Or.inl (List.mem_of_getElem? (i := 0) rfl))
  have N18 := Fr.snoc X18 NN17 P12
  have k18_0 := k17_0.wr W18
  have k18_1 := k17_1.other W18 (Or.inr (slot_ne (Or.inr (hw _ (List.mem_of_getElem? (i := 36) rfl))) (Or.inl (hw _ (List.mem_of_getElem? (i := 43) rfl))) (by decide) (t := (.object "com/example/terms_in_context/termsincontext/index/VarIntInput")) (t' := .int) (by decide) (by decide)))
  have k18_2 := k17_2.other W18 (Or.inr (slot_ne (Or.inl (hw _ (List.mem_of_getElem? (i := 23) rfl))) (Or.inl (hw _ (List.mem_of_getElem? (i := 43) rfl))) (by decide) (t := (.array .int)) (t' := .int) (by decide) (by decide)))
  have k18_4 := k17_4.wr W18
  have k18_5 := k17_5.other W18 (Ne.symm P15)
  have k18_6 := k17_6.wr W18
  have k18_7 := k17_7.other W18 (ne_exa k17_6 k17_0 (by decide))
  have k18_14 := k17_17.other W18 (Or.inr (slot_ne (Or.inl (hw _ (List.mem_of_getElem? (i := 20) rfl))) (Or.inl (hw _ (List.mem_of_getElem? (i := 43) rfl))) (by decide) (t := .int) (t' := .int) (by decide) (by decide)))
  have k18_15 := p17_0.other W18 (Or.inl (ne_exa k17_4 k17_0 (by decide)))
  have k18_16 := p17_1.other W18 (Or.inl (ne_exa k17_4 k17_0 (by decide)))
  have k18_17 := p17_2.other W18 (Or.inl (ne_exa k17_4 k17_0 (by decide)))
  have Z18 : n0 ≤ h18.size := by rw [W18.size]; exact Z17
  have F18 := k17_3.same W18
  show Go p e below s _ _ _ (T18.setTop (mkF m 39 #[.val (.ref x0), .unset, .unset] []))
  refine g_aloadN X18 hx 40 (hb hby d10_39) rfl rfl rfl ?_
  show Go p e below s _ _ _ (T18.setTop (mkF m 40 #[.val (.ref x0), .unset, .unset] [(.ref x0)]))
  refine g_getF X18 hx hZ hown (hw _ (List.mem_of_getElem? (i := 42) rfl)) Via.refl e18 F18 43 (hb hby d10_40) rfl ?_
  intro T19 X19 e19
  show Go p e below s _ _ _ (T19.setTop (mkF m 43 #[.val (.ref x0), .unset, .unset] [(.int (own_rd g 0 (on + 1 : Nat) 0 0))]))
  refine g_aloadN X19 hx 44 (hb hby d10_43) rfl rfl rfl ?_
  show Go p e below s _ _ _ (T19.setTop (mkF m 44 #[.val (.ref x0), .unset, .unset] [(.ref x0), (.int (own_rd g 0 (on + 1 : Nat) 0 0))]))
  refine g_getF X19 hx hZ hown (hw _ (List.mem_of_getElem? (i := 22) rfl)) Via.refl e19 k18_2 47 (hb hby d10_44) rfl ?_
  intro T20 X20 e20
  show Go p e below s _ _ _ (T20.setTop (mkF m 47 #[.val (.ref x0), .unset, .unset] [(.ref pa), (.int (own_rd g 0 (on + 1 : Nat) 0 0))]))
  refine g_arraylengthI X20 hx hZ e20 k18_7 (pn.toInt32) rfl 48 (hb hby d10_47) rfl ?_
  show Go p e below s _ _ _ (T20.setTop (mkF m 48 #[.val (.ref x0), .unset, .unset] [(.int (pn.toInt32)), (.int (own_rd g 0 (on + 1 : Nat) 0 0))]))
  have h22 : ¬ ((pn.toInt32) < (own_rd g 0 (on + 1 : Nat) 0 0)) := own_nr hfn hfl hpn
  refine g_icmp_le X20 hx 71 51 (hb hby d10_48) (by decide) rfl rfl (fun q => absurd q h22) (fun _ => ?_)
  show Go p e below s _ _ _ (T20.setTop (mkF m 71 #[.val (.ref x0), .unset, .unset] []))
  refine g_iconst X20 hx (0 : Int32) 72 (hb hby d10_71) rfl rfl ?_
  show Go p e below s _ _ _ (T20.setTop (mkF m 72 #[.val (.ref x0), .unset, .unset] [(.int (0 : Int32))]))
  refine g_istoreN X20 hx #[.val (.ref x0), .val (.int (0 : Int32)), .unset] 73 (hb hby d10_72) rfl rfl ?_
  show Go p e below s _ _ _ (T20.setTop (mkF m 73 #[.val (.ref x0), .val (.int (0 : Int32)), .unset] []))
  refine g_iconst X20 hx (0 : Int32) 74 (hb hby d10_73) rfl rfl ?_
  show Go p e below s _ _ _ (T20.setTop (mkF m 74 #[.val (.ref x0), .val (.int (0 : Int32)), .unset] [(.int (0 : Int32))]))
  refine g_istoreN X20 hx #[.val (.ref x0), .val (.int (0 : Int32)), .val (.int (0 : Int32))] 75 (hb hby d10_74) rfl rfl ?_
  show Go p e below s _ _ _ (T20.setTop (mkF m 75 #[.val (.ref x0), .val (.int (0 : Int32)), .val (.int (0 : Int32))] []))
  exact sg10 l Z a0 hw hx hby hml hret hlk hown hnm hZ x0 vi ba pa dc fr ln of g pn pg on fn h0 n0 ho hmore hd0 hd1 hfn hb0 hon hfl hpn fn 0 (0 : Int32) _ _ _ X20 e20 Z18 N18 K18 k18_0 k18_14 k18_1 k18_2 F18 k18_4 k18_15 k18_16 k18_17 k18_5 k18_6 k18_7 P12 P13 P14 P15 P16 P17 rfl (Nat.zero_add fn)
def Q110 (Z : State) (x0 : Addr) (vi : Addr) (ba : Addr) (pa : Addr) (dc : Int32) (fr : Int32) (ln : Int32) (of : Int32) (g : Nat → Int32) (pg : Nat → Int32) (on : Nat) (fn : Nat) (h0 : Heap) (n0 : Nat) (v : Option Value) (h : Heap) (L : List Loc) : Prop := v = some (.int (1 : Int32)) ∧ Fr n0 L ∧ Keep h0 h [x0, vi] ∧ ∃ b1 : Addr, h0.size ≤ b1 ∧ Fld Z h x0 "com/example/terms_in_context/termsincontext/index/Postings" "document" "I" (.int (dc + (own_rd g 0 on 0 0))) ∧ Fld Z h x0 "com/example/terms_in_context/termsincontext/index/Postings" "in" "Lcom/example/terms_in_context/termsincontext/index/VarIntInput;" (.ref vi) ∧ Fld Z h x0 "com/example/terms_in_context/termsincontext/index/Postings" "positions" "[I" (.ref b1) ∧ Fld Z h x0 "com/example/terms_in_context/termsincontext/index/Postings" "frequency" "I" (.int (own_rd g 0 (on + 1) 0 0)) ∧ Fld Z h vi "com/example/terms_in_context/termsincontext/index/VarIntInput" "bytes" "[B" (.ref ba) ∧ Fld Z h vi "com/example/terms_in_context/termsincontext/index/VarIntInput" "length" "I" (.int ln) ∧ Fld Z h vi "com/example/terms_in_context/termsincontext/index/VarIntInput" "offset" "I" (.int (Int32.ofNat (on + 2 + fn))) ∧ Exa Z h b1 "[I" ∧ AI Z h b1 16 (own_ps g (on + 2) (fun _ => (0 : Int32)) fn)
theorem d110_75 : decode prog_23_method_2_code 75 = .ok (.iload_n 2, 1) := by decide +kernel
theorem d110_76 : decode prog_23_method_2_code 76 = .ok (.aload_n 0, 1) := by decide +kernel
theorem d110_77 : decode prog_23_method_2_code 77 = .ok (.getfield 34, 3) := by decide +kernel
theorem d110_80 : decode prog_23_method_2_code 80 = .ok (.if_icmp .ge 26, 3) := by decide +kernel
theorem d110_83 : decode prog_23_method_2_code 83 = .ok (.iload_n 1, 1) := by decide +kernel
theorem d110_84 : decode prog_23_method_2_code 84 = .ok (.aload_n 0, 1) := by decide +kernel
theorem d110_85 : decode prog_23_method_2_code 85 = .ok (.getfield 22, 3) := by decide +kernel
theorem d110_88 : decode prog_23_method_2_code 88 = .ok (.invokevirtual 30, 3) := by decide +kernel
theorem d110_91 : decode prog_23_method_2_code 91 = .ok (.iadd, 1) := by decide +kernel
theorem d110_92 : decode prog_23_method_2_code 92 = .ok (.istore_n 1, 1) := by decide +kernel
theorem d110_93 : decode prog_23_method_2_code 93 = .ok (.aload_n 0, 1) := by decide +kernel
theorem d110_94 : decode prog_23_method_2_code 94 = .ok (.getfield 13, 3) := by decide +kernel
theorem d110_97 : decode prog_23_method_2_code 97 = .ok (.iload_n 2, 1) := by decide +kernel
theorem d110_98 : decode prog_23_method_2_code 98 = .ok (.iload_n 1, 1) := by decide +kernel
theorem d110_99 : decode prog_23_method_2_code 99 = .ok (.iastore, 1) := by decide +kernel
theorem d110_100 : decode prog_23_method_2_code 100 = .ok (.iinc 2 1, 3) := by decide +kernel
theorem d110_103 : decode prog_23_method_2_code 103 = .ok (.goto (-28), 3) := by decide +kernel
theorem d110_106 : decode prog_23_method_2_code 106 = .ok (.iconst 1, 1) := by decide +kernel
theorem d110_107 : decode prog_23_method_2_code 107 = .ok (.ireturn, 1) := by decide +kernel
set_option maxRecDepth 65536 in
set_option maxHeartbeats 40000000 in
theorem sg110 (l : Launch) (Z : State) (a0 : Array Value) (hw : ∀ d ∈ tables_1, d.before a0 Z = true) {p : Program} {e : Env} {s : State} {m : MethodId} {args : Array Value} {below : List Frame} {meth : Method} {c : Code} (hx : p.tables.exec = Jvm.exec) (hby : c.code = prog_23_method_2_code) (hml : c.maxLocals = 3) (hret : meth.sig.returnType = some .boolean) (hlk : meth.locks = false) (hown : s.vm.findClass "com/example/terms_in_context/termsincontext/index/Postings" = some m.cls) (hnm : meth.name = "next") (hZ : Z.Warmed39 s.vm) (x0 : Addr) (vi : Addr) (ba : Addr) (pa : Addr) (dc : Int32) (fr : Int32) (ln : Int32) (of : Int32) (g : Nat → Int32) (pg : Nat → Int32) (on : Nat) (fn : Nat) (h0 : Heap) (n0 : Nat) (ho : of.toInt = on) (hmore : of < ln) (hd0 : ¬ g on < 0) (hd1 : ¬ g (on + 1) < 0) (hfn : (own_rd g 0 (on + 1) 0 0).toInt = fn) (hb0 : ∀ j, j < fn → ¬ g (on + 2 + j) < 0) (hon : on + 2 + fn ≤ 22) (h9 : fn = 9) : ∀ (k : Nat) (i : Nat) (iv : Int32) (pb : Addr) (T0 : State) (locs : List Loc) (hS : Heap), Stand p l e ({ frames := 1, cells := 1, slots := 16, locals := 20 } : Room) s m args below meth c T0 locs 1 16 → T0.heap = hS → n0 ≤ hS.size → Fr n0 locs → Keep h0 hS [x0, vi] → Exa Z hS x0 "com/example/terms_in_context/termsincontext/index/Postings" → Fld Z hS x0 "com/example/terms_in_context/termsincontext/index/Postings" "document" "I" (.int (dc + (own_rd g 0 on 0 0))) → Fld Z hS x0 "com/example/terms_in_context/termsincontext/index/Postings" "in" "Lcom/example/terms_in_context/termsincontext/index/VarIntInput;" (.ref vi) → Fld Z hS x0 "com/example/terms_in_context/termsincontext/index/Postings" "positions" "[I" (.ref pb) → Fld Z hS x0 "com/example/terms_in_context/termsincontext/index/Postings" "frequency" "I" (.int (own_rd g 0 (on + 1) 0 0)) → Exa Z hS vi "com/example/terms_in_context/termsincontext/index/VarIntInput" → Fld Z hS vi "com/example/terms_in_context/termsincontext/index/VarIntInput" "bytes" "[B" (.ref ba) → Fld Z hS vi "com/example/terms_in_context/termsincontext/index/VarIntInput" "length" "I" (.int ln) → Fld Z hS vi "com/example/terms_in_context/termsincontext/index/VarIntInput" "offset" "I" (.int (Int32.ofNat (on + 2 + i))) → AB Z hS ba 22 g → Exa Z hS pb "[I" → AI Z hS pb 16 (own_ps g (on + 2) (fun _ => (0 : Int32)) i) → n0 ≤ x0 → n0 ≤ vi → n0 ≤ pb → x0 ≠ ba → vi ≠ ba → pb ≠ ba → (iv.toInt = i) → (i + k = fn) → (h0.size ≤ pb) → Go p e below s (Q110 Z x0 vi ba pa dc fr ln of g pg on fn h0 n0) ({ frames := 1, cells := 1, slots := 16, locals := 20 } : Room).cells ({ frames := 1, cells := 1, slots := 16, locals := 20 } : Room).slots (T0.setTop (mkF m 75 #[.val (.ref x0), .val (.int (own_sm g (on + 2) i)), .val (.int iv)] [])) := by
  intro k
  induction k with
  | zero =>
    intro i iv pb T0 locs hS X0 e0 Z0 N0 K0 P0 P1 P2 P3 P4 P5 P6 P7 P8 P9 P10 P11 P12 P13 P14 P15 P16 P17 hiv hk hszb
    refine g_iloadN X0 hx 76 (hb hby d110_75) rfl rfl ?_
    show Go p e below s _ _ _ (T0.setTop (mkF m 76 #[.val (.ref x0), .val (.int (own_sm g (on + 2) i)), .val (.int iv)] [(.int iv)]))
    refine g_aloadN X0 hx 77 (hb hby d110_76) rfl rfl rfl ?_
    show Go p e below s _ _ _ (T0.setTop (mkF m 77 #[.val (.ref x0), .val (.int (own_sm g (on + 2) i)), .val (.int iv)] [(.ref x0), (.int iv)]))
    refine g_getF X0 hx hZ hown (hw _ (List.mem_of_getElem? (i := 42) rfl)) Via.refl e0 P4 80 (hb hby d110_77) rfl ?_
    intro T1 X1 e1
    show Go p e below s _ _ _ (T1.setTop (mkF m 80 #[.val (.ref x0), .val (.int (own_sm g (on + 2) i)), .val (.int iv)] [(.int (own_rd g 0 (on + 1) 0 0)), (.int iv)]))
    have h2 : ¬ (iv < (own_rd g 0 (on + 1) 0 0)) := own_nlt hiv hfn (by omega)
    refine g_icmp_ge X1 hx 106 83 (hb hby d110_80) (by decide) rfl rfl (fun q => absurd q h2) (fun _ => ?_)
    show Go p e below s _ _ _ (T1.setTop (mkF m 106 #[.val (.ref x0), .val (.int (own_sm g (on + 2) i)), .val (.int iv)] []))
    refine g_iconst X1 hx (1 : Int32) 107 (hb hby d110_106) rfl rfl ?_
    show Go p e below s _ _ _ (T1.setTop (mkF m 107 #[.val (.ref x0), .val (.int (own_sm g (on + 2) i)), .val (.int iv)] [(.int (1 : Int32))]))
    exact g_retN X1 hx hret (by simp) hlk (hb hby d110_107) (by decide) (by decide) (by rw [e1]; exact ⟨rfl, N0, K0, pb, hszb, P1, P2, P3, P4, P6, P7, (by rw [show fn = i from hk.symm]; exact P8), P10, (by rw [show fn = i from hk.symm]; exact P11)⟩)
  | succ k ih =>
    intro i iv pb T0 locs hS X0 e0 Z0 N0 K0 P0 P1 P2 P3 P4 P5 P6 P7 P8 P9 P10 P11 P12 P13 P14 P15 P16 P17 hiv hk hszb
    refine g_iloadN X0 hx 76 (hb hby d110_75) rfl rfl ?_
    show Go p e below s _ _ _ (T0.setTop (mkF m 76 #[.val (.ref x0), .val (.int (own_sm g (on + 2) i)), .val (.int iv)] [(.int iv)]))
    refine g_aloadN X0 hx 77 (hb hby d110_76) rfl rfl rfl ?_
    show Go p e below s _ _ _ (T0.setTop (mkF m 77 #[.val (.ref x0), .val (.int (own_sm g (on + 2) i)), .val (.int iv)] [(.ref x0), (.int iv)]))
    refine g_getF X0 hx hZ hown (hw _ (List.mem_of_getElem? (i := 42) rfl)) Via.refl e0 P4 80 (hb hby d110_77) rfl ?_
    intro T3 X3 e3
    show Go p e below s _ _ _ (T3.setTop (mkF m 80 #[.val (.ref x0), .val (.int (own_sm g (on + 2) i)), .val (.int iv)] [(.int (own_rd g 0 (on + 1) 0 0)), (.int iv)]))
    have h4 : iv < (own_rd g 0 (on + 1) 0 0) := own_ilt hiv hfn (by omega)
    refine g_icmp_ge X3 hx 106 83 (hb hby d110_80) (by decide) rfl rfl (fun _ => ?_) (fun q => absurd h4 q)
    show Go p e below s _ _ _ (T3.setTop (mkF m 83 #[.val (.ref x0), .val (.int (own_sm g (on + 2) i)), .val (.int iv)] []))
    refine g_iloadN X3 hx 84 (hb hby d110_83) rfl rfl ?_
    show Go p e below s _ _ _ (T3.setTop (mkF m 84 #[.val (.ref x0), .val (.int (own_sm g (on + 2) i)), .val (.int iv)] [(.int (own_sm g (on + 2) i))]))
    refine g_aloadN X3 hx 85 (hb hby d110_84) rfl rfl rfl ?_
    show Go p e below s _ _ _ (T3.setTop (mkF m 85 #[.val (.ref x0), .val (.int (own_sm g (on + 2) i)), .val (.int iv)] [(.ref x0), (.int (own_sm g (on + 2) i))]))
    refine g_getF X3 hx hZ hown (hw _ (List.mem_of_getElem? (i := 35) rfl)) Via.refl e3 P2 88 (hb hby d110_85) rfl ?_
    intro T5 X5 e5
    show Go p e below s _ _ _ (T5.setTop (mkF m 88 #[.val (.ref x0), .val (.int (own_sm g (on + 2) i)), .val (.int iv)] [(.ref vi), (.int (own_sm g (on + 2) i))]))
    refine g_callV X5 hx hZ hown (hw _ (List.mem_of_getElem? (i := 71) rfl)) (hw _ (List.mem_of_getElem? (i := 72) rfl)) (hw _ (List.mem_of_getElem? (i := 74) rfl)) (hw _ (List.mem_of_getElem? (i := 73) rfl)) (hw _ (List.mem_of_getElem? (i := 26) rfl)) (hw _ (List.mem_of_getElem? (i := 75) rfl)) (by decide) e5 vi P5 (rm12 l Z a0 hw [] vi ba ln (Int32.ofNat (on + 2 + i)) 22 g (on + 2 + i : Nat) 0 hS n0 Z0 P5 P6 P7 P8 P9 P13 P16 (own_toI (by omega) : (Int32.ofNat (on + 2 + i)).toInt = (on + 2 + i : Nat)) (by omega : (on + 2 + i : Nat) + 0 < 22) (fun j hj => absurd hj (Nat.not_lt_zero j) : ∀ j, j < 0 → g ((on + 2 + i : Nat) + j) < 0) (hb0 i (by omega) : ¬ g ((on + 2 + i : Nat) + 0) < 0)) [] [(.int (own_sm g (on + 2) i))] 1 rfl (lenOf pd__28_29I rfl) rfl (Nat.le_of_eq rfl) (by decide) (by decide) (by decide) (by decide) (by rw [hml]; rfl) (hb hby d110_88) ?_
    intro T6 L6 v6 X6 q6
    obtain ⟨rfl, N6, K6, p6_0, p6_1, p6_2⟩ := q6
    have NN6 := Fr.app N0 N6
    have KK6 := K0.trans K6 (by intro x hx; cases List.mem_singleton.mp hx; exact (Or.inl (List.mem_of_getElem? (i := 1) rfl)))
    have k6_0 := P0.keep K6
    have k6_1 := P1.keep K6 (nm1 (ne_exa P0 P5 (by decide)) nm0)
    have k6_2 := P2.keep K6 (nm1 (ne_exa P0 P5 (by decide)) nm0)
    have k6_3 := P3.keep K6 (nm1 (ne_exa P0 P5 (by decide)) nm0)
    have k6_4 := P4.keep K6 (nm1 (ne_exa P0 P5 (by decide)) nm0)
    have k6_5 := P5.keep K6
    have k6_9 := P9.keep K6 (nm1 (Ne.symm P16) nm0)
    have k6_10 := P10.keep K6
    have k6_11 := P11.keep K6 (nm1 (ne_exa P10 P5 (by decide)) nm0)
    have Z6 : n0 ≤ T6.heap.size := Nat.le_trans Z0 K6.1
    show Go p e below s _ _ _ (T6.setTop (mkF m 91 #[.val (.ref x0), .val (.int (own_sm g (on + 2) i)), .val (.int iv)] [(.int (own_rd g 0 (on + 2 + i : Nat) 0 0)), (.int (own_sm g (on + 2) i))]))
    refine g_iadd X6 hx 92 (hb hby d110_91) rfl ?_
    show Go p e below s _ _ _ (T6.setTop (mkF m 92 #[.val (.ref x0), .val (.int (own_sm g (on + 2) i)), .val (.int iv)] [(.int ((own_sm g (on + 2) i) + (own_rd g 0 (on + 2 + i : Nat) 0 0)))]))
    refine g_istoreN X6 hx #[.val (.ref x0), .val (.int ((own_sm g (on + 2) i) + (own_rd g 0 (on + 2 + i : Nat) 0 0))), .val (.int iv)] 93 (hb hby d110_92) rfl rfl ?_
    show Go p e below s _ _ _ (T6.setTop (mkF m 93 #[.val (.ref x0), .val (.int ((own_sm g (on + 2) i) + (own_rd g 0 (on + 2 + i : Nat) 0 0))), .val (.int iv)] []))
    refine g_aloadN X6 hx 94 (hb hby d110_93) rfl rfl rfl ?_
    show Go p e below s _ _ _ (T6.setTop (mkF m 94 #[.val (.ref x0), .val (.int ((own_sm g (on + 2) i) + (own_rd g 0 (on + 2 + i : Nat) 0 0))), .val (.int iv)] [(.ref x0)]))
    refine g_getF X6 hx hZ hown (hw _ (List.mem_of_getElem? (i := 22) rfl)) Via.refl rfl k6_3 97 (hb hby d110_94) rfl ?_
    intro T7 X7 e7
    show Go p e below s _ _ _ (T7.setTop (mkF m 97 #[.val (.ref x0), .val (.int ((own_sm g (on + 2) i) + (own_rd g 0 (on + 2 + i : Nat) 0 0))), .val (.int iv)] [(.ref pb)]))
    refine g_iloadN X7 hx 98 (hb hby d110_97) rfl rfl ?_
    show Go p e below s _ _ _ (T7.setTop (mkF m 98 #[.val (.ref x0), .val (.int ((own_sm g (on + 2) i) + (own_rd g 0 (on + 2 + i : Nat) 0 0))), .val (.int iv)] [(.int iv), (.ref pb)]))
    refine g_iloadN X7 hx 99 (hb hby d110_98) rfl rfl ?_
    show Go p e below s _ _ _ (T7.setTop (mkF m 99 #[.val (.ref x0), .val (.int ((own_sm g (on + 2) i) + (own_rd g 0 (on + 2 + i : Nat) 0 0))), .val (.int iv)] [(.int ((own_sm g (on + 2) i) + (own_rd g 0 (on + 2 + i : Nat) 0 0))), (.int iv), (.ref pb)]))
    refine g_iastore X7 hx hZ e7 k6_11 i hiv (by omega) 100 (hb hby d110_99) rfl ?_
    intro T8 h8 X8 e8 W8 A8
    have K8 := KK6.wr W8 (Or.inr hszb)
    have N8 := Fr.snoc X8 NN6 P14
    have k8_0 := k6_0.wr W8
    have k8_1 := k6_1.other W8 (Or.inl (ne_exa k6_0 k6_10 (by decide)))
    have k8_2 := k6_2.other W8 (Or.inl (ne_exa k6_0 k6_10 (by decide)))
    have k8_3 := k6_3.other W8 (Or.inl (ne_exa k6_0 k6_10 (by decide)))
    have k8_4 := k6_4.other W8 (Or.inl (ne_exa k6_0 k6_10 (by decide)))
    have k8_5 := k6_5.wr W8
    have k8_6 := k6_9.other W8 (Ne.symm P17)
    have k8_7 := k6_10.wr W8
    have k8_15 := p6_0.other W8 (Or.inl (ne_exa k6_5 k6_10 (by decide)))
    have k8_16 := p6_1.other W8 (Or.inl (ne_exa k6_5 k6_10 (by decide)))
    have k8_17 := p6_2.other W8 (Or.inl (ne_exa k6_5 k6_10 (by decide)))
    have Z8 : n0 ≤ h8.size := by rw [W8.size]; exact Z6
    show Go p e below s _ _ _ (T8.setTop (mkF m 100 #[.val (.ref x0), .val (.int ((own_sm g (on + 2) i) + (own_rd g 0 (on + 2 + i : Nat) 0 0))), .val (.int iv)] []))
    refine g_iinc X8 hx (1 : Int32) #[.val (.ref x0), .val (.int ((own_sm g (on + 2) i) + (own_rd g 0 (on + 2 + i : Nat) 0 0))), .val (.int (iv + (1 : Int32)))] 103 (hb hby d110_100) rfl rfl rfl rfl ?_
    show Go p e below s _ _ _ (T8.setTop (mkF m 103 #[.val (.ref x0), .val (.int ((own_sm g (on + 2) i) + (own_rd g 0 (on + 2 + i : Nat) 0 0))), .val (.int (iv + (1 : Int32)))] []))
    refine g_goto X8 hx 75 (hb hby d110_103) (by decide) rfl ?_
    show Go p e below s _ _ _ (T8.setTop (mkF m 75 #[.val (.ref x0), .val (.int ((own_sm g (on + 2) i) + (own_rd g 0 (on + 2 + i : Nat) 0 0))), .val (.int (iv + (1 : Int32)))] []))
    exact ih (i + 1) (iv + (1 : Int32)) pb _ _ _ X8 e8 Z8 N8 K8 k8_0 k8_1 k8_2 k8_3 k8_4 k8_5 k8_15 k8_16 k8_17 k8_6 k8_7 A8 P12 P13 P14 P15 P16 P17 (own_s1 hiv rfl (by omega)) (by omega) hszb
theorem d110_0 : decode prog_23_method_2_code 0 = .ok (.aload_n 0, 1) := by decide +kernel
theorem d110_1 : decode prog_23_method_2_code 1 = .ok (.getfield 22, 3) := by decide +kernel
theorem d110_4 : decode prog_23_method_2_code 4 = .ok (.invokevirtual 26, 3) := by decide +kernel
theorem d110_7 : decode prog_23_method_2_code 7 = .ok (.ifCond .ne 5, 3) := by decide +kernel
theorem d110_12 : decode prog_23_method_2_code 12 = .ok (.aload_n 0, 1) := by decide +kernel
theorem d110_13 : decode prog_23_method_2_code 13 = .ok (.dup, 1) := by decide +kernel
theorem d110_14 : decode prog_23_method_2_code 14 = .ok (.getfield 7, 3) := by decide +kernel
theorem d110_17 : decode prog_23_method_2_code 17 = .ok (.aload_n 0, 1) := by decide +kernel
theorem d110_18 : decode prog_23_method_2_code 18 = .ok (.getfield 22, 3) := by decide +kernel
theorem d110_21 : decode prog_23_method_2_code 21 = .ok (.invokevirtual 30, 3) := by decide +kernel
theorem d110_24 : decode prog_23_method_2_code 24 = .ok (.iadd, 1) := by decide +kernel
theorem d110_25 : decode prog_23_method_2_code 25 = .ok (.putfield 7, 3) := by decide +kernel
theorem d110_28 : decode prog_23_method_2_code 28 = .ok (.aload_n 0, 1) := by decide +kernel
theorem d110_29 : decode prog_23_method_2_code 29 = .ok (.aload_n 0, 1) := by decide +kernel
theorem d110_30 : decode prog_23_method_2_code 30 = .ok (.getfield 22, 3) := by decide +kernel
theorem d110_33 : decode prog_23_method_2_code 33 = .ok (.invokevirtual 30, 3) := by decide +kernel
theorem d110_36 : decode prog_23_method_2_code 36 = .ok (.putfield 34, 3) := by decide +kernel
theorem d110_39 : decode prog_23_method_2_code 39 = .ok (.aload_n 0, 1) := by decide +kernel
theorem d110_40 : decode prog_23_method_2_code 40 = .ok (.getfield 34, 3) := by decide +kernel
theorem d110_43 : decode prog_23_method_2_code 43 = .ok (.aload_n 0, 1) := by decide +kernel
theorem d110_44 : decode prog_23_method_2_code 44 = .ok (.getfield 13, 3) := by decide +kernel
theorem d110_47 : decode prog_23_method_2_code 47 = .ok (.arraylength, 1) := by decide +kernel
theorem d110_48 : decode prog_23_method_2_code 48 = .ok (.if_icmp .le 23, 3) := by decide +kernel
theorem d110_51 : decode prog_23_method_2_code 51 = .ok (.aload_n 0, 1) := by decide +kernel
theorem d110_52 : decode prog_23_method_2_code 52 = .ok (.aload_n 0, 1) := by decide +kernel
theorem d110_53 : decode prog_23_method_2_code 53 = .ok (.getfield 34, 3) := by decide +kernel
theorem d110_56 : decode prog_23_method_2_code 56 = .ok (.aload_n 0, 1) := by decide +kernel
theorem d110_57 : decode prog_23_method_2_code 57 = .ok (.getfield 13, 3) := by decide +kernel
theorem d110_60 : decode prog_23_method_2_code 60 = .ok (.arraylength, 1) := by decide +kernel
theorem d110_61 : decode prog_23_method_2_code 61 = .ok (.iconst 2, 1) := by decide +kernel
theorem d110_62 : decode prog_23_method_2_code 62 = .ok (.imul, 1) := by decide +kernel
theorem d110_63 : decode prog_23_method_2_code 63 = .ok (.invokestatic 37, 3) := by decide +kernel
theorem d110_66 : decode prog_23_method_2_code 66 = .ok (.newarray .int, 2) := by decide +kernel
theorem d110_68 : decode prog_23_method_2_code 68 = .ok (.putfield 13, 3) := by decide +kernel
theorem d110_71 : decode prog_23_method_2_code 71 = .ok (.iconst 0, 1) := by decide +kernel
theorem d110_72 : decode prog_23_method_2_code 72 = .ok (.istore_n 1, 1) := by decide +kernel
theorem d110_73 : decode prog_23_method_2_code 73 = .ok (.iconst 0, 1) := by decide +kernel
theorem d110_74 : decode prog_23_method_2_code 74 = .ok (.istore_n 2, 1) := by decide +kernel
theorem ef_110 (m : MethodId) (x0 : Addr) : entryFrame m #[(.ref x0)] 3 = mkF m 0 #[.val (.ref x0), .unset, .unset] [] := by first | (simp [entryFrame, mkF, argsToLocals, Value.category]; done) | rfl
set_option maxRecDepth 65536 in
set_option maxHeartbeats 40000000 in
theorem rm110 (l : Launch) (Z : State) (a0 : Array Value) (hw : ∀ d ∈ tables_1, d.before a0 Z = true) (ws : List Jvm.Cond) (x0 : Addr) (vi : Addr) (ba : Addr) (pa : Addr) (dc : Int32) (fr : Int32) (ln : Int32) (of : Int32) (g : Nat → Int32) (pg : Nat → Int32) (on : Nat) (fn : Nat) (h0 : Heap) (n0 : Nat) (Z0 : n0 ≤ h0.size) (P0 : Exa Z h0 x0 "com/example/terms_in_context/termsincontext/index/Postings") (P1 : Fld Z h0 x0 "com/example/terms_in_context/termsincontext/index/Postings" "document" "I" (.int dc)) (P2 : Fld Z h0 x0 "com/example/terms_in_context/termsincontext/index/Postings" "in" "Lcom/example/terms_in_context/termsincontext/index/VarIntInput;" (.ref vi)) (P3 : Fld Z h0 x0 "com/example/terms_in_context/termsincontext/index/Postings" "positions" "[I" (.ref pa)) (P4 : Fld Z h0 x0 "com/example/terms_in_context/termsincontext/index/Postings" "frequency" "I" (.int fr)) (P5 : Exa Z h0 vi "com/example/terms_in_context/termsincontext/index/VarIntInput") (P6 : Fld Z h0 vi "com/example/terms_in_context/termsincontext/index/VarIntInput" "bytes" "[B" (.ref ba)) (P7 : Fld Z h0 vi "com/example/terms_in_context/termsincontext/index/VarIntInput" "length" "I" (.int ln)) (P8 : Fld Z h0 vi "com/example/terms_in_context/termsincontext/index/VarIntInput" "offset" "I" (.int of)) (P9 : AB Z h0 ba 22 g) (P10 : Exa Z h0 pa "[I") (P11 : AI Z h0 pa 8 pg) (P12 : n0 ≤ x0) (P13 : n0 ≤ vi) (P14 : n0 ≤ pa) (P15 : x0 ≠ ba) (P16 : vi ≠ ba) (P17 : pa ≠ ba) (ho : of.toInt = on) (hmore : of < ln) (hd0 : ¬ g on < 0) (hd1 : ¬ g (on + 1) < 0) (hfn : (own_rd g 0 (on + 1) 0 0).toInt = fn) (hb0 : ∀ j, j < fn → ¬ g (on + 2 + j) < 0) (hon : on + 2 + fn ≤ 22) (h9 : fn = 9) :
    MetFree l (⟨"com/example/terms_in_context/termsincontext/index/Postings", "next", "()Z"⟩ : MethodName) (head1 (Jvm.Cond.code (⟨"com/example/terms_in_context/termsincontext/index/Postings", "next", "()Z"⟩ : MethodName) prog_23_method_2_code 3 (some .boolean) :: ws) ({ frames := 1, cells := 1, slots := 16, locals := 20 } : Room)) (fun a U => a = #[(.ref x0)] ∧ Z.Warmed39 U.vm ∧ U.heap = h0) (fun _ _ _ _ _ => True) (fun _ U o U' => ∃ v L, o = .returned v ∧ Q110 Z x0 vi ba pa dc fr ln of g pg on fn h0 n0 v U'.heap L ∧ FrameEnd U o U' L ({ frames := 1, cells := 1, slots := 16, locals := 20 } : Room).cells ({ frames := 1, cells := 1, slots := 16, locals := 20 } : Room).slots) := by
  refine g_body (plainFor_of_name pn_6) ?_
  intro p e s m below meth c T0 X0 hx hby hml hret hlk hown hnm hZ e0
  rw [ef_110]
  have N0 := Fr.nil n0
  show Go p e below s _ _ _ (T0.setTop (mkF m 0 #[.val (.ref x0), .unset, .unset] []))
  refine g_aloadN X0 hx 1 (hb hby d110_0) rfl rfl rfl ?_
  show Go p e below s _ _ _ (T0.setTop (mkF m 1 #[.val (.ref x0), .unset, .unset] [(.ref x0)]))
  refine g_getF X0 hx hZ hown (hw _ (List.mem_of_getElem? (i := 35) rfl)) Via.refl e0 P2 4 (hb hby d110_1) rfl ?_
  intro T9 X9 e9
  show Go p e below s _ _ _ (T9.setTop (mkF m 4 #[.val (.ref x0), .unset, .unset] [(.ref vi)]))
  refine g_callV X9 hx hZ hown (hw _ (List.mem_of_getElem? (i := 64) rfl)) (hw _ (List.mem_of_getElem? (i := 65) rfl)) (hw _ (List.mem_of_getElem? (i := 67) rfl)) (hw _ (List.mem_of_getElem? (i := 66) rfl)) (hw _ (List.mem_of_getElem? (i := 26) rfl)) (hw _ (List.mem_of_getElem? (i := 68) rfl)) (by decide) e9 vi P5 (rm11 l Z a0 hw [] vi ln of h0 P7 P8) [] [] 0 rfl (lenOf pd__28_29Z rfl) rfl (Nat.le_of_eq rfl) (by decide) (by decide) (by decide) (by decide) (by rw [hml]; rfl) (hb hby d110_4) ?_
  intro T10 L10 v10 X10 q10
  obtain ⟨rfl, rfl, e10⟩ := q10
  have NS10 := Fr.app N0 (Fr.nil n0)
  show Go p e below s _ _ _ (T10.setTop (mkF m 7 #[.val (.ref x0), .unset, .unset] [(.int (f11 ln of))]))
  have h11 : ¬ ((f11 ln of) = (0 : Int32)) := by rw [f11, if_pos hmore]; decide
  refine g_if0_ne X10 hx 12 10 (hb hby d110_7) (by decide) rfl rfl (fun q => absurd q h11) (fun _ => ?_)
  show Go p e below s _ _ _ (T10.setTop (mkF m 12 #[.val (.ref x0), .unset, .unset] []))
  refine g_aloadN X10 hx 13 (hb hby d110_12) rfl rfl rfl ?_
  show Go p e below s _ _ _ (T10.setTop (mkF m 13 #[.val (.ref x0), .unset, .unset] [(.ref x0)]))
  refine g_dup X10 hx 14 (hb hby d110_13) rfl rfl ?_
  show Go p e below s _ _ _ (T10.setTop (mkF m 14 #[.val (.ref x0), .unset, .unset] [(.ref x0), (.ref x0)]))
  refine g_getF X10 hx hZ hown (hw _ (List.mem_of_getElem? (i := 19) rfl)) Via.refl e10 P1 17 (hb hby d110_14) rfl ?_
  intro T12 X12 e12
  show Go p e below s _ _ _ (T12.setTop (mkF m 17 #[.val (.ref x0), .unset, .unset] [(.int dc), (.ref x0)]))
  refine g_aloadN X12 hx 18 (hb hby d110_17) rfl rfl rfl ?_
  show Go p e below s _ _ _ (T12.setTop (mkF m 18 #[.val (.ref x0), .unset, .unset] [(.ref x0), (.int dc), (.ref x0)]))
  refine g_getF X12 hx hZ hown (hw _ (List.mem_of_getElem? (i := 35) rfl)) Via.refl e12 P2 21 (hb hby d110_18) rfl ?_
  intro T13 X13 e13
  show Go p e below s _ _ _ (T13.setTop (mkF m 21 #[.val (.ref x0), .unset, .unset] [(.ref vi), (.int dc), (.ref x0)]))
  refine g_callV X13 hx hZ hown (hw _ (List.mem_of_getElem? (i := 71) rfl)) (hw _ (List.mem_of_getElem? (i := 72) rfl)) (hw _ (List.mem_of_getElem? (i := 74) rfl)) (hw _ (List.mem_of_getElem? (i := 73) rfl)) (hw _ (List.mem_of_getElem? (i := 26) rfl)) (hw _ (List.mem_of_getElem? (i := 75) rfl)) (by decide) e13 vi P5 (rm12 l Z a0 hw [] vi ba ln of 22 g on 0 h0 n0 Z0 P5 P6 P7 P8 P9 P13 P16 (ho : of.toInt = on) (by omega : on + 0 < 22) (fun j hj => absurd hj (Nat.not_lt_zero j) : ∀ j, j < 0 → g (on + j) < 0) (hd0 : ¬ g (on + 0) < 0)) [] [(.int dc), (.ref x0)] 2 rfl (lenOf pd__28_29I rfl) rfl (Nat.le_of_eq rfl) (by decide) (by decide) (by decide) (by decide) (by rw [hml]; rfl) (hb hby d110_21) ?_
  intro T14 L14 v14 X14 q14
  obtain ⟨rfl, N14, K14, p14_0, p14_1, p14_2⟩ := q14
  have NN14 := Fr.app NS10 N14
  have KK14 := (Keep.refl h0 [x0, vi]).trans K14 (by intro x hx; cases List.mem_singleton.mp hx; exact (Or.inl (List.mem_of_getElem? (i := 1) rfl)))
  have k14_0 := P0.keep K14
  have k14_1 := P1.keep K14 (nm1 (ne_exa P0 P5 (by decide)) nm0)
  have k14_2 := P2.keep K14 (nm1 (ne_exa P0 P5 (by decide)) nm0)
  have k14_3 := P3.keep K14 (nm1 (ne_exa P0 P5 (by decide)) nm0)
  have k14_4 := P4.keep K14 (nm1 (ne_exa P0 P5 (by decide)) nm0)
  have k14_5 := P5.keep K14
  have k14_9 := P9.keep K14 (nm1 (Ne.symm P16) nm0)
  have k14_10 := P10.keep K14
  have k14_11 := P11.keep K14 (nm1 (ne_exa P10 P5 (by decide)) nm0)
  have Z14 : n0 ≤ T14.heap.size := Nat.le_trans Z0 K14.1
  show Go p e below s _ _ _ (T14.setTop (mkF m 24 #[.val (.ref x0), .unset, .unset] [(.int (own_rd g 0 on 0 0)), (.int dc), (.ref x0)]))
  refine g_iadd X14 hx 25 (hb hby d110_24) rfl ?_
  show Go p e below s _ _ _ (T14.setTop (mkF m 25 #[.val (.ref x0), .unset, .unset] [(.int (dc + (own_rd g 0 on 0 0))), (.ref x0)]))
  refine g_putF X14 hx hZ hown (hw _ (List.mem_of_getElem? (i := 19) rfl)) Via.refl rfl k14_1 k14_0 (Or.inl (hw _ (List.mem_of_getElem? (i := 20) rfl))) (hw _ (List.mem_of_getElem? (i := 11) rfl)) (ty := .int) (by decide) rfl rfl 28 (hb hby d110_25) rfl ?_
  intro T15 h15 X15 e15 W15
  have K15 := KK14.wr W15 (Or.inl (List.mem_of_getElem? (i := 0) rfl))
  have N15 := Fr.snoc X15 NN14 P12
  have k15_0 := k14_0.wr W15
  have k15_2 := k14_2.other W15 (Or.inr (slot_ne (Or.inr (hw _ (List.mem_of_getElem? (i := 36) rfl))) (Or.inl (hw _ (List.mem_of_getElem? (i := 20) rfl))) (by decide) (t := (.object "com/example/terms_in_context/termsincontext/index/VarIntInput")) (t' := .int) (by decide) (by decide)))
  have k15_3 := k14_3.other W15 (Or.inr (slot_ne (Or.inl (hw _ (List.mem_of_getElem? (i := 23) rfl))) (Or.inl (hw _ (List.mem_of_getElem? (i := 20) rfl))) (by decide) (t := (.array .int)) (t' := .int) (by decide) (by decide)))
  have k15_4 := k14_4.other W15 (Or.inr (slot_ne (Or.inl (hw _ (List.mem_of_getElem? (i := 43) rfl))) (Or.inl (hw _ (List.mem_of_getElem? (i := 20) rfl))) (by decide) (t := .int) (t' := .int) (by decide) (by decide)))
  have k15_5 := k14_5.wr W15
  have k15_6 := k14_9.other W15 (Ne.symm P15)
  have k15_7 := k14_10.wr W15
  have k15_8 := k14_11.other W15 (ne_exa k14_10 k14_0 (by decide))
  have k15_15 := p14_0.other W15 (Or.inl (ne_exa k14_5 k14_0 (by decide)))
  have k15_16 := p14_1.other W15 (Or.inl (ne_exa k14_5 k14_0 (by decide)))
  have k15_17 := p14_2.other W15 (Or.inl (ne_exa k14_5 k14_0 (by decide)))
  have Z15 : n0 ≤ h15.size := by rw [W15.size]; exact Z14
  have F15 := k14_1.same W15
  show Go p e below s _ _ _ (T15.setTop (mkF m 28 #[.val (.ref x0), .unset, .unset] []))
  refine g_aloadN X15 hx 29 (hb hby d110_28) rfl rfl rfl ?_
  show Go p e below s _ _ _ (T15.setTop (mkF m 29 #[.val (.ref x0), .unset, .unset] [(.ref x0)]))
  refine g_aloadN X15 hx 30 (hb hby d110_29) rfl rfl rfl ?_
  show Go p e below s _ _ _ (T15.setTop (mkF m 30 #[.val (.ref x0), .unset, .unset] [(.ref x0), (.ref x0)]))
  refine g_getF X15 hx hZ hown (hw _ (List.mem_of_getElem? (i := 35) rfl)) Via.refl e15 k15_2 33 (hb hby d110_30) rfl ?_
  intro T16 X16 e16
  show Go p e below s _ _ _ (T16.setTop (mkF m 33 #[.val (.ref x0), .unset, .unset] [(.ref vi), (.ref x0)]))
  refine g_callV X16 hx hZ hown (hw _ (List.mem_of_getElem? (i := 71) rfl)) (hw _ (List.mem_of_getElem? (i := 72) rfl)) (hw _ (List.mem_of_getElem? (i := 74) rfl)) (hw _ (List.mem_of_getElem? (i := 73) rfl)) (hw _ (List.mem_of_getElem? (i := 26) rfl)) (hw _ (List.mem_of_getElem? (i := 75) rfl)) (by decide) e16 vi k15_5 (rm12 l Z a0 hw [] vi ba ln (Int32.ofNat (on + 0 + 1)) 22 g (on + 1 : Nat) 0 h15 n0 Z15 k15_5 k15_15 k15_16 k15_17 k15_6 P13 P16 (own_toI (by omega) : (Int32.ofNat (on + 0 + 1)).toInt = (on + 1 : Nat)) (by omega : (on + 1 : Nat) + 0 < 22) (fun j hj => absurd hj (Nat.not_lt_zero j) : ∀ j, j < 0 → g ((on + 1 : Nat) + j) < 0) (hd1 : ¬ g ((on + 1 : Nat) + 0) < 0)) [] [(.ref x0)] 1 rfl (lenOf pd__28_29I rfl) rfl (Nat.le_of_eq rfl) (by decide) (by decide) (by decide) (by decide) (by rw [hml]; rfl) (hb hby d110_33) ?_
  intro T17 L17 v17 X17 q17
  obtain ⟨rfl, N17, K17, p17_0, p17_1, p17_2⟩ := q17
  have NN17 := Fr.app N15 N17
  have KK17 := K15.trans K17 (by intro x hx; cases List.mem_singleton.mp hx; exact (Or.inl (List.mem_of_getElem? (i := 1) rfl)))
  have k17_0 := k15_0.keep K17
  have k17_1 := k15_2.keep K17 (nm1 (ne_exa k15_0 k15_5 (by decide)) nm0)
  have k17_2 := k15_3.keep K17 (nm1 (ne_exa k15_0 k15_5 (by decide)) nm0)
  have k17_3 := k15_4.keep K17 (nm1 (ne_exa k15_0 k15_5 (by decide)) nm0)
  have k17_4 := k15_5.keep K17
  have k17_5 := k15_6.keep K17 (nm1 (Ne.symm P16) nm0)
  have k17_6 := k15_7.keep K17
  have k17_7 := k15_8.keep K17 (nm1 (ne_exa k15_7 k15_5 (by decide)) nm0)
  have k17_17 := F15.keep K17 (nm1 (ne_exa k15_0 k15_5 (by decide)) nm0)
  have Z17 : n0 ≤ T17.heap.size := Nat.le_trans Z15 K17.1
  show Go p e below s _ _ _ (T17.setTop (mkF m 36 #[.val (.ref x0), .unset, .unset] [(.int (own_rd g 0 (on + 1 : Nat) 0 0)), (.ref x0)]))
  refine g_putF X17 hx hZ hown (hw _ (List.mem_of_getElem? (i := 42) rfl)) Via.refl rfl k17_3 k17_0 (Or.inl (hw _ (List.mem_of_getElem? (i := 43) rfl))) (hw _ (List.mem_of_getElem? (i := 11) rfl)) (ty := .int) (by decide) rfl rfl 39 (hb hby d110_36) rfl ?_
  intro T18 h18 X18 e18 W18
  have K18 := KK17.wr W18 (Or.inl (List.mem_of_getElem? (i := 0) rfl))
  have N18 := Fr.snoc X18 NN17 P12
  have k18_0 := k17_0.wr W18
  have k18_1 := k17_1.other W18 (Or.inr (slot_ne (Or.inr (hw _ (List.mem_of_getElem? (i := 36) rfl))) (Or.inl (hw _ (List.mem_of_getElem? (i := 43) rfl))) (by decide) (t := (.object "com/example/terms_in_context/termsincontext/index/VarIntInput")) (t' := .int) (by decide) (by decide)))
  have k18_2 := k17_2.other W18 (Or.inr (slot_ne (Or.inl (hw _ (List.mem_of_getElem? (i := 23) rfl))) (Or.inl (hw _ (List.mem_of_getElem? (i := 43) rfl))) (by decide) (t := (.array .int)) (t' := .int) (by decide) (by decide)))
  have k18_4 := k17_4.wr W18
  have k18_5 := k17_5.other W18 (Ne.symm P15)
  have k18_6 := k17_6.wr W18
  have k18_7 := k17_7.other W18 (ne_exa k17_6 k17_0 (by decide))
  have k18_14 := k17_17.other W18 (Or.inr (slot_ne (Or.inl (hw _ (List.mem_of_getElem? (i := 20) rfl))) (Or.inl (hw _ (List.mem_of_getElem? (i := 43) rfl))) (by decide) (t := .int) (t' := .int) (by decide) (by decide)))
  have k18_15 := p17_0.other W18 (Or.inl (ne_exa k17_4 k17_0 (by decide)))
  have k18_16 := p17_1.other W18 (Or.inl (ne_exa k17_4 k17_0 (by decide)))
  have k18_17 := p17_2.other W18 (Or.inl (ne_exa k17_4 k17_0 (by decide)))
  have Z18 : n0 ≤ h18.size := by rw [W18.size]; exact Z17
  have F18 := k17_3.same W18
  show Go p e below s _ _ _ (T18.setTop (mkF m 39 #[.val (.ref x0), .unset, .unset] []))
  refine g_aloadN X18 hx 40 (hb hby d110_39) rfl rfl rfl ?_
  show Go p e below s _ _ _ (T18.setTop (mkF m 40 #[.val (.ref x0), .unset, .unset] [(.ref x0)]))
  refine g_getF X18 hx hZ hown (hw _ (List.mem_of_getElem? (i := 42) rfl)) Via.refl e18 F18 43 (hb hby d110_40) rfl ?_
  intro T19 X19 e19
  show Go p e below s _ _ _ (T19.setTop (mkF m 43 #[.val (.ref x0), .unset, .unset] [(.int (own_rd g 0 (on + 1 : Nat) 0 0))]))
  refine g_aloadN X19 hx 44 (hb hby d110_43) rfl rfl rfl ?_
  show Go p e below s _ _ _ (T19.setTop (mkF m 44 #[.val (.ref x0), .unset, .unset] [(.ref x0), (.int (own_rd g 0 (on + 1 : Nat) 0 0))]))
  refine g_getF X19 hx hZ hown (hw _ (List.mem_of_getElem? (i := 22) rfl)) Via.refl e19 k18_2 47 (hb hby d110_44) rfl ?_
  intro T20 X20 e20
  show Go p e below s _ _ _ (T20.setTop (mkF m 47 #[.val (.ref x0), .unset, .unset] [(.ref pa), (.int (own_rd g 0 (on + 1 : Nat) 0 0))]))
  refine g_arraylengthI X20 hx hZ e20 k18_7 (8 : Int32) rfl 48 (hb hby d110_47) rfl ?_
  show Go p e below s _ _ _ (T20.setTop (mkF m 48 #[.val (.ref x0), .unset, .unset] [(.int (8 : Int32)), (.int (own_rd g 0 (on + 1 : Nat) 0 0))]))
  have h22 : (8 : Int32) < (own_rd g 0 (on + 1 : Nat) 0 0) := own_ilt (i := 8) rfl hfn (by omega)
  refine g_icmp_le X20 hx 71 51 (hb hby d110_48) (by decide) rfl rfl (fun _ => ?_) (fun q => absurd h22 q)
  show Go p e below s _ _ _ (T20.setTop (mkF m 51 #[.val (.ref x0), .unset, .unset] []))
  refine g_aloadN X20 hx 52 (hb hby d110_51) rfl rfl rfl ?_
  show Go p e below s _ _ _ (T20.setTop (mkF m 52 #[.val (.ref x0), .unset, .unset] [(.ref x0)]))
  refine g_aloadN X20 hx 53 (hb hby d110_52) rfl rfl rfl ?_
  show Go p e below s _ _ _ (T20.setTop (mkF m 53 #[.val (.ref x0), .unset, .unset] [(.ref x0), (.ref x0)]))
  refine g_getF X20 hx hZ hown (hw _ (List.mem_of_getElem? (i := 42) rfl)) Via.refl e20 F18 56 (hb hby d110_53) rfl ?_
  intro T23 X23 e23
  show Go p e below s _ _ _ (T23.setTop (mkF m 56 #[.val (.ref x0), .unset, .unset] [(.int (own_rd g 0 (on + 1 : Nat) 0 0)), (.ref x0)]))
  refine g_aloadN X23 hx 57 (hb hby d110_56) rfl rfl rfl ?_
  show Go p e below s _ _ _ (T23.setTop (mkF m 57 #[.val (.ref x0), .unset, .unset] [(.ref x0), (.int (own_rd g 0 (on + 1 : Nat) 0 0)), (.ref x0)]))
  refine g_getF X23 hx hZ hown (hw _ (List.mem_of_getElem? (i := 22) rfl)) Via.refl e23 k18_2 60 (hb hby d110_57) rfl ?_
  intro T24 X24 e24
  show Go p e below s _ _ _ (T24.setTop (mkF m 60 #[.val (.ref x0), .unset, .unset] [(.ref pa), (.int (own_rd g 0 (on + 1 : Nat) 0 0)), (.ref x0)]))
  refine g_arraylengthI X24 hx hZ e24 k18_7 (8 : Int32) rfl 61 (hb hby d110_60) rfl ?_
  show Go p e below s _ _ _ (T24.setTop (mkF m 61 #[.val (.ref x0), .unset, .unset] [(.int (8 : Int32)), (.int (own_rd g 0 (on + 1 : Nat) 0 0)), (.ref x0)]))
  refine g_iconst X24 hx (2 : Int32) 62 (hb hby d110_61) rfl rfl ?_
  show Go p e below s _ _ _ (T24.setTop (mkF m 62 #[.val (.ref x0), .unset, .unset] [(.int (2 : Int32)), (.int (8 : Int32)), (.int (own_rd g 0 (on + 1 : Nat) 0 0)), (.ref x0)]))
  refine g_imul X24 hx 63 (hb hby d110_62) rfl ?_
  show Go p e below s _ _ _ (T24.setTop (mkF m 63 #[.val (.ref x0), .unset, .unset] [(.int ((8 : Int32) * (2 : Int32))), (.int (own_rd g 0 (on + 1 : Nat) 0 0)), (.ref x0)]))
  refine g_callS X24 hx hZ hown (hw _ (List.mem_of_getElem? (i := 76) rfl)) (hw _ (List.mem_of_getElem? (i := 77) rfl)) (hw _ (List.mem_of_getElem? (i := 50) rfl)) (hw _ (List.mem_of_getElem? (i := 78) rfl)) (by decide) e24 (rm13 l Z a0 hw [] (own_rd g 0 (on + 1 : Nat) 0 0) ((8 : Int32) * (2 : Int32)) h18) [(.int (own_rd g 0 (on + 1 : Nat) 0 0)), (.int ((8 : Int32) * (2 : Int32)))] [(.ref x0)] 1 rfl (lenOf pd__28II_29I rfl) rfl (Nat.le_of_eq rfl) (by decide) (by decide) (by decide) (by decide) (by rw [hml]; rfl) (hb hby d110_63) ?_
  intro T26 L26 v26 X26 q26
  obtain ⟨rfl, rfl, e26⟩ := q26
  have NS26 := Fr.app N18 (Fr.nil n0)
  show Go p e below s _ _ _ (T26.setTop (mkF m 66 #[.val (.ref x0), .unset, .unset] [(.int (f13 (own_rd g 0 (on + 1 : Nat) 0 0) ((8 : Int32) * (2 : Int32)))), (.ref x0)]))
  refine g_newarrayIE X26 hx hZ (hw _ (List.mem_of_getElem? (i := 21) rfl)) e26 16 16 (own_mx hfn h9) (by decide) (by decide) 68 (hb hby d110_66) (by decide) (by decide) rfl ?_
  intro T27 h27 b27 g27 X27 e27 E27 A27 D27
  have N_b27 : n0 ≤ b27 := Nat.le_trans Z18 (Nat.le_of_eq g27.symm)
  have sz_b27 := Nat.le_trans K18.1 (Nat.le_of_eq g27.symm)
  have ne_x0_b27 : x0 ≠ b27 := Nat.ne_of_lt (Nat.lt_of_lt_of_le k18_0.lt (Nat.le_of_eq g27.symm))
  have ne_vi_b27 : vi ≠ b27 := Nat.ne_of_lt (Nat.lt_of_lt_of_le k18_4.lt (Nat.le_of_eq g27.symm))
  have ne_ba_b27 : ba ≠ b27 := Nat.ne_of_lt (Nat.lt_of_lt_of_le k18_5.lt (Nat.le_of_eq g27.symm))
  have ne_pa_b27 : pa ≠ b27 := Nat.ne_of_lt (Nat.lt_of_lt_of_le k18_6.lt (Nat.le_of_eq g27.symm))
  have k27_0 := k18_0.ext E27
  have k27_1 := k18_1.ext E27
  have k27_2 := k18_2.ext E27
  have k27_3 := k18_4.ext E27
  have k27_4 := k18_5.ext E27
  have k27_5 := k18_6.ext E27
  have k27_6 := k18_7.ext E27
  have k27_13 := k18_14.ext E27
  have k27_14 := k18_15.ext E27
  have k27_15 := k18_16.ext E27
  have k27_16 := k18_17.ext E27
  have k27_17 := F18.ext E27
  have Z27 : n0 ≤ h27.size := Nat.le_trans Z18 E27.1
  have K27 := K18.ext E27
  show Go p e below s _ _ _ (T27.setTop (mkF m 68 #[.val (.ref x0), .unset, .unset] [(.ref b27), (.ref x0)]))
  refine g_putF X27 hx hZ hown (hw _ (List.mem_of_getElem? (i := 22) rfl)) Via.refl e27 k27_2 k27_0 (Or.inl (hw _ (List.mem_of_getElem? (i := 23) rfl))) (hw _ (List.mem_of_getElem? (i := 11) rfl)) (ty := (.array .int)) (by decide) rfl rfl 71 (hb hby d110_68) rfl ?_
  intro T28 h28 X28 e28 W28
  have K28 := K27.wr W28 (Or.inl (List.mem_of_getElem? (i := 0) rfl))
  have N28 := Fr.snoc X28 NS26 P12
  have k28_0 := k27_0.wr W28
  have k28_1 := k27_1.other W28 (Or.inr (slot_ne (Or.inr (hw _ (List.mem_of_getElem? (i := 36) rfl))) (Or.inl (hw _ (List.mem_of_getElem? (i := 23) rfl))) (by decide) (t := (.object "com/example/terms_in_context/termsincontext/index/VarIntInput")) (t' := (.array .int)) (by decide) (by decide)))
  have k28_3 := k27_3.wr W28
  have k28_4 := k27_4.other W28 (Ne.symm P15)
  have k28_5 := k27_5.wr W28
  have k28_6 := k27_6.other W28 (ne_exa k27_5 k27_0 (by decide))
  have k28_13 := k27_13.other W28 (Or.inr (slot_ne (Or.inl (hw _ (List.mem_of_getElem? (i := 20) rfl))) (Or.inl (hw _ (List.mem_of_getElem? (i := 23) rfl))) (by decide) (t := .int) (t' := (.array .int)) (by decide) (by decide)))
  have k28_14 := k27_14.other W28 (Or.inl (ne_exa k27_3 k27_0 (by decide)))
  have k28_15 := k27_15.other W28 (Or.inl (ne_exa k27_3 k27_0 (by decide)))
  have k28_16 := k27_16.other W28 (Or.inl (ne_exa k27_3 k27_0 (by decide)))
  have k28_17 := k27_17.other W28 (Or.inr (slot_ne (Or.inl (hw _ (List.mem_of_getElem? (i := 43) rfl))) (Or.inl (hw _ (List.mem_of_getElem? (i := 23) rfl))) (by decide) (t := .int) (t' := (.array .int)) (by decide) (by decide)))
  have k28_23 := A27.other W28 (Ne.symm ne_x0_b27)
  have k28_24 := D27.wr W28
  have Z28 : n0 ≤ h28.size := by rw [W28.size]; exact Z27
  have F28 := k27_2.same W28
  show Go p e below s _ _ _ (T28.setTop (mkF m 71 #[.val (.ref x0), .unset, .unset] []))
  refine g_iconst X28 hx (0 : Int32) 72 (hb hby d110_71) rfl rfl ?_
  show Go p e below s _ _ _ (T28.setTop (mkF m 72 #[.val (.ref x0), .unset, .unset] [(.int (0 : Int32))]))
  refine g_istoreN X28 hx #[.val (.ref x0), .val (.int (0 : Int32)), .unset] 73 (hb hby d110_72) rfl rfl ?_
  show Go p e below s _ _ _ (T28.setTop (mkF m 73 #[.val (.ref x0), .val (.int (0 : Int32)), .unset] []))
  refine g_iconst X28 hx (0 : Int32) 74 (hb hby d110_73) rfl rfl ?_
  show Go p e below s _ _ _ (T28.setTop (mkF m 74 #[.val (.ref x0), .val (.int (0 : Int32)), .unset] [(.int (0 : Int32))]))
  refine g_istoreN X28 hx #[.val (.ref x0), .val (.int (0 : Int32)), .val (.int (0 : Int32))] 75 (hb hby d110_74) rfl rfl ?_
  show Go p e below s _ _ _ (T28.setTop (mkF m 75 #[.val (.ref x0), .val (.int (0 : Int32)), .val (.int (0 : Int32))] []))
  exact sg110 l Z a0 hw hx hby hml hret hlk hown hnm hZ x0 vi ba pa dc fr ln of g pg on fn h0 n0 ho hmore hd0 hd1 hfn hb0 hon h9 fn 0 (0 : Int32) b27 _ _ _ X28 e28 Z28 N28 K28 k28_0 k28_13 k28_1 F28 k28_17 k28_3 k28_14 k28_15 k28_16 k28_4 k28_24 k28_23 P12 P13 N_b27 P15 P16 (Ne.symm ne_ba_b27) rfl (Nat.zero_add fn) sz_b27
theorem d210_0 : decode prog_23_method_2_code 0 = .ok (.aload_n 0, 1) := by decide +kernel
theorem d210_1 : decode prog_23_method_2_code 1 = .ok (.getfield 22, 3) := by decide +kernel
theorem d210_4 : decode prog_23_method_2_code 4 = .ok (.invokevirtual 26, 3) := by decide +kernel
theorem d210_7 : decode prog_23_method_2_code 7 = .ok (.ifCond .ne 5, 3) := by decide +kernel
theorem d210_10 : decode prog_23_method_2_code 10 = .ok (.iconst 0, 1) := by decide +kernel
theorem d210_11 : decode prog_23_method_2_code 11 = .ok (.ireturn, 1) := by decide +kernel
theorem ef_210 (m : MethodId) (x0 : Addr) : entryFrame m #[(.ref x0)] 3 = mkF m 0 #[.val (.ref x0), .unset, .unset] [] := by first | (simp [entryFrame, mkF, argsToLocals, Value.category]; done) | rfl
def Q210 (Z : State) (x0 : Addr) (vi : Addr) (ln : Int32) (of : Int32) (h0 : Heap) (v : Option Value) (h : Heap) (L : List Loc) : Prop := v = some (.int (0 : Int32)) ∧ L = [] ∧ h = h0
set_option maxRecDepth 65536 in
set_option maxHeartbeats 40000000 in
theorem rm210 (l : Launch) (Z : State) (a0 : Array Value) (hw : ∀ d ∈ tables_1, d.before a0 Z = true) (ws : List Jvm.Cond) (x0 : Addr) (vi : Addr) (ln : Int32) (of : Int32) (h0 : Heap) (P0 : Fld Z h0 x0 "com/example/terms_in_context/termsincontext/index/Postings" "in" "Lcom/example/terms_in_context/termsincontext/index/VarIntInput;" (.ref vi)) (P1 : Exa Z h0 vi "com/example/terms_in_context/termsincontext/index/VarIntInput") (P2 : Fld Z h0 vi "com/example/terms_in_context/termsincontext/index/VarIntInput" "length" "I" (.int ln)) (P3 : Fld Z h0 vi "com/example/terms_in_context/termsincontext/index/VarIntInput" "offset" "I" (.int of)) (hmore : ¬ of < ln) :
    MetFree l (⟨"com/example/terms_in_context/termsincontext/index/Postings", "next", "()Z"⟩ : MethodName) (head1 (Jvm.Cond.code (⟨"com/example/terms_in_context/termsincontext/index/Postings", "next", "()Z"⟩ : MethodName) prog_23_method_2_code 3 (some .boolean) :: ws) ({ frames := 1, cells := 0, slots := 0, locals := 12 } : Room)) (fun a U => a = #[(.ref x0)] ∧ Z.Warmed39 U.vm ∧ U.heap = h0) (fun _ _ _ _ _ => True) (fun _ U o U' => ∃ v L, o = .returned v ∧ Q210 Z x0 vi ln of h0 v U'.heap L ∧ FrameEnd U o U' L ({ frames := 1, cells := 0, slots := 0, locals := 12 } : Room).cells ({ frames := 1, cells := 0, slots := 0, locals := 12 } : Room).slots) := by
  refine g_body (plainFor_of_name pn_6) ?_
  intro p e s m below meth c T0 X0 hx hby hml hret hlk hown hnm hZ e0
  rw [ef_210]
  show Go p e below s _ _ _ (T0.setTop (mkF m 0 #[.val (.ref x0), .unset, .unset] []))
  refine g_aloadN X0 hx 1 (hb hby d210_0) rfl rfl rfl ?_
  show Go p e below s _ _ _ (T0.setTop (mkF m 1 #[.val (.ref x0), .unset, .unset] [(.ref x0)]))
  refine g_getF X0 hx hZ hown (hw _ (List.mem_of_getElem? (i := 35) rfl)) Via.refl e0 P0 4 (hb hby d210_1) rfl ?_
  intro T1 X1 e1
  show Go p e below s _ _ _ (T1.setTop (mkF m 4 #[.val (.ref x0), .unset, .unset] [(.ref vi)]))
  refine g_callV X1 hx hZ hown (hw _ (List.mem_of_getElem? (i := 64) rfl)) (hw _ (List.mem_of_getElem? (i := 65) rfl)) (hw _ (List.mem_of_getElem? (i := 67) rfl)) (hw _ (List.mem_of_getElem? (i := 66) rfl)) (hw _ (List.mem_of_getElem? (i := 26) rfl)) (hw _ (List.mem_of_getElem? (i := 68) rfl)) (by decide) e1 vi P1 (rm11 l Z a0 hw [] vi ln of h0 P2 P3) [] [] 0 rfl (lenOf pd__28_29Z rfl) rfl (Nat.le_of_eq rfl) (by decide) (by decide) (by decide) (by decide) (by rw [hml]; rfl) (hb hby d210_4) ?_
  intro T2 L2 v2 X2 q2
  obtain ⟨rfl, rfl, e2⟩ := q2
  show Go p e below s _ _ _ (T2.setTop (mkF m 7 #[.val (.ref x0), .unset, .unset] [(.int (f11 ln of))]))
  have h3 : (f11 ln of) = (0 : Int32) := by rw [f11, if_neg hmore]
  refine g_if0_ne X2 hx 12 10 (hb hby d210_7) (by decide) rfl rfl (fun _ => ?_) (fun q => absurd h3 q)
  show Go p e below s _ _ _ (T2.setTop (mkF m 10 #[.val (.ref x0), .unset, .unset] []))
  refine g_iconst X2 hx (0 : Int32) 11 (hb hby d210_10) rfl rfl ?_
  show Go p e below s _ _ _ (T2.setTop (mkF m 11 #[.val (.ref x0), .unset, .unset] [(.int (0 : Int32))]))
  exact g_retN X2 hx hret (by simp) hlk (hb hby d210_11) (by decide) (by decide) ⟨rfl, rfl, e2⟩
theorem own_rv {v : Int32} (h0 : 0 ≤ v.toInt) (h1 : v.toInt < 128) : (0 : Int32) ||| shlI (v &&& 127) 0 = v := by
  have a := c_mask v 127 7 (by decide) (by decide)
  have e : v &&& 127 = v := Int32.toInt_inj.mp (by rw [a]; omega)
  rw [e]
  have b := c_ishl v 0 0 (by decide)
  have r := rng32 (shlI v 0); have r' := rng32 v
  have e2 : shlI v 0 = v := Int32.toInt_inj.mp (by unfold shlI at r ⊢; omega)
  rw [e2]
  exact Int32.zero_or
theorem own_r0 (g : Nat → Int32) (i : Nat) {v : Int32} (h : g i = v) (h0 : 0 ≤ v.toInt) (h1 : v.toInt < 128) : own_rd g 0 i 0 0 = v := by
  show (0 : Int32) ||| shlI (g i &&& 127) 0 = v
  rw [h]; exact own_rv h0 h1
theorem own_ib1 {d : Int32} (h0 : 0 ≤ d.toInt) (h1 : d.toInt < 128) : i2bI d = d := by
  have a := c_i2b d
  exact Int32.toInt_inj.mp (by unfold i2bI; omega)
theorem own_ib {d : Int32} (h0 : 0 ≤ d.toInt) (h1 : d.toInt < 128) : i2bI (i2bI d) = d := by rw [own_ib1 h0 h1, own_ib1 h0 h1]
theorem own_f2 (s : Int64) (i : Int32) : 0 ≤ (f2 s i).toInt ∧ (f2 s i).toInt < 128 := by
  unfold f2
  have a := c_maskL (ushrJ s (7 * i)) 127 7 (by decide) (by decide)
  have b := c_l2i (ushrJ s (7 * i) &&& 127)
  have r := rng32 ((ushrJ s (7 * i) &&& 127).toInt32)
  have e : (1 : Int32).toInt = 1 := rfl
  split <;> omega
theorem own_nz {v : Int32} (h : 0 ≤ v.toInt) : ¬ v < 0 := by
  rw [Int32.lt_iff_toInt_lt]; have e : (0 : Int32).toInt = 0 := rfl; omega
def own_ok (g : Nat → Int32) (on f : Nat) (s : Int64) : Prop := on + 2 + f ≤ 22 ∧ ¬ g on < 0 ∧ ¬ g (on + 1) < 0 ∧ (own_rd g 0 (on + 1) 0 0).toInt = f ∧ (∀ j, j < f → ¬ g (on + 2 + j) < 0) ∧ ∀ j, j < f → own_rd g 0 (on + 2 + j) 0 0 = f2 s (Int32.ofNat j)
theorem own_up1 {g : Nat → Int32} {j q : Nat} {x : Int32} (h : q = j) : upd g j x q = x := if_pos h
theorem own_up0 {g : Nat → Int32} {j q : Nat} {x : Int32} (h : q ≠ j) : upd g j x q = g q := if_neg h
theorem own_wlo (g : Nat → Int32) (kn : Nat) (a b : Int32) (s : Int64) (c q : Nat) (h : q < kn) : own_wf g kn a b s c q = g q := by
  induction c with
  | zero => show upd (upd g kn a) (kn + 1) b q = _; rw [own_up0 (by omega), own_up0 (by omega)]
  | succ c ih => show upd (own_wf g kn a b s c) (kn + 2 + c) _ q = _; rw [own_up0 (by omega)]; exact ih
theorem own_wab (g : Nat → Int32) (kn : Nat) (a b : Int32) (s : Int64) (c : Nat) : own_wf g kn a b s c kn = a ∧ own_wf g kn a b s c (kn + 1) = b := by
  induction c with
  | zero => exact ⟨(own_up0 (by omega)).trans (own_up1 rfl), own_up1 rfl⟩
  | succ c ih => exact ⟨(own_up0 (by omega)).trans ih.1, (own_up0 (by omega)).trans ih.2⟩
theorem own_wat (g : Nat → Int32) (kn : Nat) (a b : Int32) (s : Int64) (c j : Nat) (h : j < c) : own_wf g kn a b s c (kn + 2 + j) = i2bI (i2bI (f2 s (Int32.ofNat j))) := by
  induction c with
  | zero => omega
  | succ c ih =>
    show upd (own_wf g kn a b s c) (kn + 2 + c) _ _ = _
    by_cases q : j = c
    · subst q; exact own_up1 rfl
    · rw [own_up0 (by omega)]; exact ih (by omega)
theorem own_wok {g : Nat → Int32} {kn f : Nat} {d y : Int32} {s : Int64} (hd : 0 ≤ d.toInt ∧ d.toInt < 128) (hy : y.toInt = f) (hf : f ≤ 9) (hk : kn + 2 + f ≤ 22) : own_ok (own_wf g kn (i2bI (i2bI d)) (i2bI (i2bI y)) s f) kn f s := by
  have w := own_wab g kn (i2bI (i2bI d)) (i2bI (i2bI y)) s f
  rw [own_ib hd.1 hd.2, own_ib (d := y) (by omega) (by omega)] at w ⊢
  refine ⟨hk, by rw [w.1]; exact own_nz hd.1, by rw [w.2]; exact own_nz (by omega), by rw [own_r0 _ _ w.2 (by omega) (by omega)]; exact hy, fun j hj => ?_, fun j hj => ?_⟩
  · have r := own_f2 s (Int32.ofNat j)
    rw [own_wat _ _ _ _ _ _ _ hj, own_ib r.1 r.2]; exact own_nz r.1
  · have r := own_f2 s (Int32.ofNat j)
    exact own_r0 _ _ ((own_wat _ _ _ _ _ _ _ hj).trans (own_ib r.1 r.2)) r.1 r.2
theorem own_wkeep {g : Nat → Int32} {on f kn f' : Nat} {a b : Int32} {s s' : Int64} (h : own_ok g on f s) (hk : on + 2 + f ≤ kn) : own_ok (own_wf g kn a b s' f') on f s := by
  have e := own_wlo g kn a b s' f'
  have e' : ∀ q, q < kn → own_rd (own_wf g kn a b s' f') 0 q 0 0 = own_rd g 0 q 0 0 := fun q hq => by
    show (0 : Int32) ||| shlI (own_wf g kn a b s' f' q &&& 127) 0 = (0 : Int32) ||| shlI (g q &&& 127) 0
    rw [e q hq]
  obtain ⟨h1, h2, h3, h4, h5, h6⟩ := h
  refine ⟨h1, by rw [e _ (by omega)]; exact h2, by rw [e _ (by omega)]; exact h3, by rw [e' _ (by omega)]; exact h4, fun j hj => ?_, fun j hj => ?_⟩
  · rw [e _ (by omega)]; exact h5 j hj
  · rw [e' _ (by omega)]; exact h6 j hj
theorem own_pat (g : Nat → Int32) (o : Nat) (q : Nat → Int32) (k i : Nat) (h : i < k) : own_ps g o q k i = own_sm g o (i + 1) := by
  induction k with
  | zero => omega
  | succ k ih =>
    show upd (own_ps g o q k) k _ i = _
    by_cases z : i = k
    · subst z; exact own_up1 rfl
    · rw [own_up0 z]; exact ih (by omega)
theorem own_sme {g : Nat → Int32} {o f : Nat} {s : Int64} (h : ∀ j, j < f → own_rd g 0 (o + j) 0 0 = f2 s (Int32.ofNat j)) : ∀ i, i < f → own_sm g o (i + 1) = own_p s i := by
  intro i
  induction i with
  | zero => intro hi; show (0 : Int32) + own_rd g 0 (o + 0) 0 0 = 0 + f2 s 0; rw [h 0 hi]; rfl
  | succ i ih => intro hi; show own_sm g o (i + 1) + own_rd g 0 (o + (i + 1)) 0 0 = own_p s i + f2 s (Int32.ofNat (i + 1)); rw [ih (by omega), h (i + 1) hi]
theorem own_cs {g : Nat → Int32} {on f : Nat} {s : Int64} (q : Nat → Int32) (h : own_ok g on f s) : ∀ i, i < f → own_ps g (on + 2) q f i = own_p s i := fun i hi => by
  rw [own_pat _ _ _ _ _ hi]; exact own_sme h.2.2.2.2.2 i hi
def own_F (x : Int32) : Nat := ((x &&& 2147483647) % 10).toInt.toNat
def v0_f1 (x0 : Int32) : Int32 := ((x0 &&& (2147483647 : Int32)) % (10 : Int32))
def v0_f2 (x2 : Int32) : Int32 := ((x2 &&& (2147483647 : Int32)) % (10 : Int32))
theorem own_F9 (x : Int32) : ((x &&& 2147483647) % 10).toInt = own_F x ∧ own_F x ≤ 9 := by
  have a := c_and x 2147483647 (by decide)
  have b := (c_irem (x &&& 2147483647) 10 10 rfl).1 a.1
  unfold own_F; omega
theorem own_dd (y : Int32) : 0 ≤ ((y &&& 63) + 1).toInt ∧ ((y &&& 63) + 1).toInt < 128 := by
  have a := c_and y 63 (by decide)
  have b := c_iadd (y &&& 63) 1; have r := rng32 ((y &&& 63) + 1)
  have e : (1 : Int32).toInt = 1 := rfl
  have e' : (63 : Int32).toInt = 63 := rfl
  omega
theorem own_and1 {a : Int32} (h : a = 1) : a &&& (1 : Int32) = 1 := by rw [h]; decide
theorem own_p8 {n f : Nat} (h : n = 8 ∨ n = 16) (hf : f ≤ 9) (q : ¬ f ≤ n) : n = 8 := by omega
theorem own_16 {n : Nat} (h : n = 8 ∨ n = 16) : n ≤ 16 := by omega
theorem own_lt2 {x y : Int32} {i j : Nat} (hx : x.toInt = i) (hy : y.toInt = j) (h : i < j) : x < y := own_ilt hx hy h
theorem own_0lt {n : Nat} (hn : n ≤ 9) (h : (0 : Int32) < n.toInt32) : 0 < n := by
  rw [Int32.lt_iff_toInt_lt, own_n32 (by omega)] at h; have e : (0 : Int32).toInt = 0 := rfl; omega

theorem own_fin {a : Int32} (h : a = 1) : nar .boolean (((a &&& (1 : Int32)) &&& (1 : Int32)) &&& (1 : Int32)) = 1 := by rw [h]; decide
theorem own_okz {g : Nat → Int32} {a b f : Nat} {s : Int64} (h : a = b) (q : own_ok g a f s) : own_ok g b f s := h ▸ q
def Q0 (Z : State) (x0 : Int32) (x1 : Int64) (x2 : Int32) (x3 : Int64) (x4 : Int32) (h0 : Heap) (n0 : Nat) (v : Option Value) (h : Heap) (L : List Loc) : Prop := v = some (.int (1 : Int32)) ∧ Fr n0 L
theorem pd__28_29_5bI : parseMethodDescriptor "()[I" = some ⟨[], some (.array .int)⟩ := by decide +kernel
theorem pd__28_5bIIJ_29Z : parseMethodDescriptor "([IIJ)Z" = some ⟨[(.array .int), .int, .long], some .boolean⟩ := by decide +kernel
set_option maxRecDepth 65536 in
set_option maxHeartbeats 40000000 in
theorem sg0_126 (l : Launch) (Z : State) (a0 : Array Value) (hw : ∀ d ∈ tables_1, d.before a0 Z = true) {p : Program} {e : Env} {s : State} {m : MethodId} {args : Array Value} {below : List Frame} {meth : Method} {c : Code} (hx : p.tables.exec = Jvm.exec) (hby : c.code = code) (hml : c.maxLocals = maxLocals) (hret : meth.sig.returnType = ret) (hlk : meth.locks = false) (hown : s.vm.findClass "com/example/terms_in_context/termsincontext/index/PostingsPositionsPinLaw" = some m.cls) (hnm : meth.name = "law") (hZ : Z.Warmed39 s.vm) (x0 : Int32) (x1 : Int64) (x2 : Int32) (x3 : Int64) (x4 : Int32) (h0 : Heap) (n0 : Nat) : ∀  (ba : Addr) (pp : Addr) (vi : Addr) (pa : Addr) (dc : Int32) (fr : Int32) (ln : Int32) (of : Int32) (ok : Int32) (g : Nat → Int32) (pn : Nat) (pg : Nat → Int32) (T0 : State) (locs : List Loc) (hS : Heap), Stand p l e room_1 s m args below meth c T0 locs 8 101 → T0.heap = hS → n0 ≤ hS.size → Fr n0 locs → Exa Z hS pp "com/example/terms_in_context/termsincontext/index/Postings" → Fld Z hS pp "com/example/terms_in_context/termsincontext/index/Postings" "document" "I" (.int dc) → Fld Z hS pp "com/example/terms_in_context/termsincontext/index/Postings" "in" "Lcom/example/terms_in_context/termsincontext/index/VarIntInput;" (.ref vi) → Fld Z hS pp "com/example/terms_in_context/termsincontext/index/Postings" "positions" "[I" (.ref pa) → Fld Z hS pp "com/example/terms_in_context/termsincontext/index/Postings" "frequency" "I" (.int fr) → Exa Z hS vi "com/example/terms_in_context/termsincontext/index/VarIntInput" → Fld Z hS vi "com/example/terms_in_context/termsincontext/index/VarIntInput" "bytes" "[B" (.ref ba) → Fld Z hS vi "com/example/terms_in_context/termsincontext/index/VarIntInput" "length" "I" (.int ln) → Fld Z hS vi "com/example/terms_in_context/termsincontext/index/VarIntInput" "offset" "I" (.int of) → AB Z hS ba 22 g → Exa Z hS pa "[I" → AI Z hS pa pn pg → n0 ≤ pp → n0 ≤ vi → n0 ≤ pa → pp ≠ ba → vi ≠ ba → pa ≠ ba → (ok = 1) → (pn = 8 ∨ pn = 16) → (∀ i, i < (own_F x2) → pg i = own_p x3 i) → (fr.toInt = (own_F x2)) → ((own_F x2) ≤ pn) → (¬ of < ln) → Go p e below s (Q0 Z x0 x1 x2 x3 x4 h0 n0) room_1.cells room_1.slots (T0.setTop (mkF m 126 #[.val (.int x0), .val (.long x1), .second, .val (.int x2), .val (.long x3), .second, .val (.int x4), .val (.int (v0_f1 x0)), .val (.int (v0_f2 x2)), .val (.ref ba), .val (.int ln), .val (.ref pp), .val (.int ok), .unset] [])) := by
  intro ba pp vi pa dc fr ln of ok g pn pg T0 locs hS X0 e0 Z0 N0 P0 P1 P2 P3 P4 P5 P6 P7 P8 P9 P10 P11 P12 P13 P14 P15 P16 P17 hok hpn hSum hfr hfp hend
  refine g_aload X0 hx 128 (hb hby at_126) rfl rfl rfl ?_
  show Go p e below s _ _ _ (T0.setTop (mkF m 128 #[.val (.int x0), .val (.long x1), .second, .val (.int x2), .val (.long x3), .second, .val (.int x4), .val (.int (v0_f1 x0)), .val (.int (v0_f2 x2)), .val (.ref ba), .val (.int ln), .val (.ref pp), .val (.int ok), .unset] [(.ref pp)]))
  refine g_callV X0 hx hZ hown (hw _ (List.mem_of_getElem? (i := 37) rfl)) (hw _ (List.mem_of_getElem? (i := 38) rfl)) (hw _ (List.mem_of_getElem? (i := 40) rfl)) (hw _ (List.mem_of_getElem? (i := 39) rfl)) (hw _ (List.mem_of_getElem? (i := 12) rfl)) (hw _ (List.mem_of_getElem? (i := 41) rfl)) (by decide) e0 pp P0 (rm6 l Z a0 hw [] pp pa fr pn pg (own_F x2) hS n0 Z0 P3 P4 P11 P10 (hfr : fr.toInt = (own_F x2)) (hfp : (own_F x2) ≤ pn) (own_16 hpn : pn ≤ 16)) [] [] 0 rfl (lenOf pd__28_29_5bI rfl) rfl (Nat.le_of_eq rfl) (by decide) (by decide) (by decide) (by decide) (by rw [hml]; rfl) (hb hby at_128) ?_
  intro T1 L1 v1 X1 q1
  obtain ⟨b1_0, rfl, N1, K1, sz1_0, p1_0⟩ := q1
  have NN1 := Fr.app N0 N1
  have N_b1_0 : n0 ≤ b1_0 := Nat.le_trans Z0 sz1_0
  have ne_pp_b1_0 : pp ≠ b1_0 := Nat.ne_of_lt (Nat.lt_of_lt_of_le P0.lt sz1_0)
  have ne_vi_b1_0 : vi ≠ b1_0 := Nat.ne_of_lt (Nat.lt_of_lt_of_le P5.lt sz1_0)
  have ne_ba_b1_0 : ba ≠ b1_0 := Nat.ne_of_lt (Nat.lt_of_lt_of_le P9.lt sz1_0)
  have ne_pa_b1_0 : pa ≠ b1_0 := Nat.ne_of_lt (Nat.lt_of_lt_of_le P10.lt sz1_0)
  have k1_0 := P0.keep K1
  have k1_1 := P1.keep K1 nm0
  have k1_2 := P2.keep K1 nm0
  have k1_3 := P3.keep K1 nm0
  have k1_4 := P4.keep K1 nm0
  have k1_5 := P5.keep K1
  have k1_6 := P6.keep K1 nm0
  have k1_7 := P7.keep K1 nm0
  have k1_8 := P8.keep K1 nm0
  have k1_9 := P9.keep K1 nm0
  have k1_10 := P10.keep K1
  have k1_11 := P11.keep K1 nm0
  have Z1 : n0 ≤ T1.heap.size := Nat.le_trans Z0 K1.1
  show Go p e below s _ _ _ (T1.setTop (mkF m 131 #[.val (.int x0), .val (.long x1), .second, .val (.int x2), .val (.long x3), .second, .val (.int x4), .val (.int (v0_f1 x0)), .val (.int (v0_f2 x2)), .val (.ref ba), .val (.int ln), .val (.ref pp), .val (.int ok), .unset] [(.ref b1_0)]))
  refine g_astore X1 hx #[.val (.int x0), .val (.long x1), .second, .val (.int x2), .val (.long x3), .second, .val (.int x4), .val (.int (v0_f1 x0)), .val (.int (v0_f2 x2)), .val (.ref ba), .val (.int ln), .val (.ref pp), .val (.int ok), .val (.ref b1_0)] 133 (hb hby at_131) rfl rfl rfl ?_
  show Go p e below s _ _ _ (T1.setTop (mkF m 133 #[.val (.int x0), .val (.long x1), .second, .val (.int x2), .val (.long x3), .second, .val (.int x4), .val (.int (v0_f1 x0)), .val (.int (v0_f2 x2)), .val (.ref ba), .val (.int ln), .val (.ref pp), .val (.int ok), .val (.ref b1_0)] []))
  refine g_iload X1 hx 135 (hb hby at_133) rfl rfl ?_
  show Go p e below s _ _ _ (T1.setTop (mkF m 135 #[.val (.int x0), .val (.long x1), .second, .val (.int x2), .val (.long x3), .second, .val (.int x4), .val (.int (v0_f1 x0)), .val (.int (v0_f2 x2)), .val (.ref ba), .val (.int ln), .val (.ref pp), .val (.int ok), .val (.ref b1_0)] [(.int ok)]))
  refine g_aload X1 hx 137 (hb hby at_135) rfl rfl rfl ?_
  show Go p e below s _ _ _ (T1.setTop (mkF m 137 #[.val (.int x0), .val (.long x1), .second, .val (.int x2), .val (.long x3), .second, .val (.int x4), .val (.int (v0_f1 x0)), .val (.int (v0_f2 x2)), .val (.ref ba), .val (.int ln), .val (.ref pp), .val (.int ok), .val (.ref b1_0)] [(.ref b1_0), (.int ok)]))
  refine g_iload X1 hx 139 (hb hby at_137) rfl rfl ?_
  show Go p e below s _ _ _ (T1.setTop (mkF m 139 #[.val (.int x0), .val (.long x1), .second, .val (.int x2), .val (.long x3), .second, .val (.int x4), .val (.int (v0_f1 x0)), .val (.int (v0_f2 x2)), .val (.ref ba), .val (.int ln), .val (.ref pp), .val (.int ok), .val (.ref b1_0)] [(.int (v0_f2 x2)), (.ref b1_0), (.int ok)]))
  refine g_lload X1 hx 141 (hb hby at_139) rfl rfl ?_
  show Go p e below s _ _ _ (T1.setTop (mkF m 141 #[.val (.int x0), .val (.long x1), .second, .val (.int x2), .val (.long x3), .second, .val (.int x4), .val (.int (v0_f1 x0)), .val (.int (v0_f2 x2)), .val (.ref ba), .val (.int ln), .val (.ref pp), .val (.int ok), .val (.ref b1_0)] [(.long x3), (.int (v0_f2 x2)), (.ref b1_0), (.int ok)]))
  refine g_callS X1 hx hZ hown (hw _ (List.mem_of_getElem? (i := 56) rfl)) (hw _ (List.mem_of_getElem? (i := 57) rfl)) (hw _ (List.mem_of_getElem? (i := 4) rfl)) (hw _ (List.mem_of_getElem? (i := 58) rfl)) (by decide) rfl (rm9 l Z a0 hw [] b1_0 (v0_f2 x2) x3 pg (own_F x2) T1.heap p1_0 ((own_F9 x2).1 : (v0_f2 x2).toInt = (own_F x2)) (hSum : ∀ i, i < (own_F x2) → pg i = own_p x3 i)) [(.ref b1_0), (.int (v0_f2 x2)), (.long x3)] [(.int ok)] 1 rfl (lenOf pd__28_5bIIJ_29Z rfl) rfl (Nat.le_of_eq rfl) (by decide) (by decide) (by decide) (by decide) (by rw [hml]; rfl) (hb hby at_141) ?_
  intro T2 L2 v2 X2 q2
  obtain ⟨rfl, rfl, e2⟩ := q2
  have NS2 := Fr.app NN1 (Fr.nil n0)
  show Go p e below s _ _ _ (T2.setTop (mkF m 144 #[.val (.int x0), .val (.long x1), .second, .val (.int x2), .val (.long x3), .second, .val (.int x4), .val (.int (v0_f1 x0)), .val (.int (v0_f2 x2)), .val (.ref ba), .val (.int ln), .val (.ref pp), .val (.int ok), .val (.ref b1_0)] [(.int (1 : Int32)), (.int ok)]))
  refine g_iand X2 hx 145 (hb hby at_144) rfl ?_
  show Go p e below s _ _ _ (T2.setTop (mkF m 145 #[.val (.int x0), .val (.long x1), .second, .val (.int x2), .val (.long x3), .second, .val (.int x4), .val (.int (v0_f1 x0)), .val (.int (v0_f2 x2)), .val (.ref ba), .val (.int ln), .val (.ref pp), .val (.int ok), .val (.ref b1_0)] [(.int (ok &&& (1 : Int32)))]))
  refine g_istore X2 hx #[.val (.int x0), .val (.long x1), .second, .val (.int x2), .val (.long x3), .second, .val (.int x4), .val (.int (v0_f1 x0)), .val (.int (v0_f2 x2)), .val (.ref ba), .val (.int ln), .val (.ref pp), .val (.int (ok &&& (1 : Int32))), .val (.ref b1_0)] 147 (hb hby at_145) rfl rfl ?_
  show Go p e below s _ _ _ (T2.setTop (mkF m 147 #[.val (.int x0), .val (.long x1), .second, .val (.int x2), .val (.long x3), .second, .val (.int x4), .val (.int (v0_f1 x0)), .val (.int (v0_f2 x2)), .val (.ref ba), .val (.int ln), .val (.ref pp), .val (.int (ok &&& (1 : Int32))), .val (.ref b1_0)] []))
  refine g_aload X2 hx 149 (hb hby at_147) rfl rfl rfl ?_
  show Go p e below s _ _ _ (T2.setTop (mkF m 149 #[.val (.int x0), .val (.long x1), .second, .val (.int x2), .val (.long x3), .second, .val (.int x4), .val (.int (v0_f1 x0)), .val (.int (v0_f2 x2)), .val (.ref ba), .val (.int ln), .val (.ref pp), .val (.int (ok &&& (1 : Int32))), .val (.ref b1_0)] [(.ref b1_0)]))
  refine g_ifnull_no X2 hx 152 (hb hby at_149) rfl ?_
  show Go p e below s _ _ _ (T2.setTop (mkF m 152 #[.val (.int x0), .val (.long x1), .second, .val (.int x2), .val (.long x3), .second, .val (.int x4), .val (.int (v0_f1 x0)), .val (.int (v0_f2 x2)), .val (.ref ba), .val (.int ln), .val (.ref pp), .val (.int (ok &&& (1 : Int32))), .val (.ref b1_0)] []))
  refine g_aload X2 hx 154 (hb hby at_152) rfl rfl rfl ?_
  show Go p e below s _ _ _ (T2.setTop (mkF m 154 #[.val (.int x0), .val (.long x1), .second, .val (.int x2), .val (.long x3), .second, .val (.int x4), .val (.int (v0_f1 x0)), .val (.int (v0_f2 x2)), .val (.ref ba), .val (.int ln), .val (.ref pp), .val (.int (ok &&& (1 : Int32))), .val (.ref b1_0)] [(.ref b1_0)]))
  refine g_arraylengthI X2 hx hZ e2 p1_0 ((own_F x2).toInt32) rfl 155 (hb hby at_154) rfl ?_
  show Go p e below s _ _ _ (T2.setTop (mkF m 155 #[.val (.int x0), .val (.long x1), .second, .val (.int x2), .val (.long x3), .second, .val (.int x4), .val (.int (v0_f1 x0)), .val (.int (v0_f2 x2)), .val (.ref ba), .val (.int ln), .val (.ref pp), .val (.int (ok &&& (1 : Int32))), .val (.ref b1_0)] [(.int ((own_F x2).toInt32))]))
  refine g_if0_le X2 hx 168 158 (hb hby at_155) (by decide) rfl rfl (fun h4 => ?_) (fun h4 => ?_)
  · show Go p e below s _ _ _ (T2.setTop (mkF m 158 #[.val (.int x0), .val (.long x1), .second, .val (.int x2), .val (.long x3), .second, .val (.int x4), .val (.int (v0_f1 x0)), .val (.int (v0_f2 x2)), .val (.ref ba), .val (.int ln), .val (.ref pp), .val (.int (ok &&& (1 : Int32))), .val (.ref b1_0)] []))
    refine g_aload X2 hx 160 (hb hby at_158) rfl rfl rfl ?_
    show Go p e below s _ _ _ (T2.setTop (mkF m 160 #[.val (.int x0), .val (.long x1), .second, .val (.int x2), .val (.long x3), .second, .val (.int x4), .val (.int (v0_f1 x0)), .val (.int (v0_f2 x2)), .val (.ref ba), .val (.int ln), .val (.ref pp), .val (.int (ok &&& (1 : Int32))), .val (.ref b1_0)] [(.ref b1_0)]))
    refine g_iconst X2 hx (0 : Int32) 161 (hb hby at_160) rfl rfl ?_
    show Go p e below s _ _ _ (T2.setTop (mkF m 161 #[.val (.int x0), .val (.long x1), .second, .val (.int x2), .val (.long x3), .second, .val (.int x4), .val (.int (v0_f1 x0)), .val (.int (v0_f2 x2)), .val (.ref ba), .val (.int ln), .val (.ref pp), .val (.int (ok &&& (1 : Int32))), .val (.ref b1_0)] [(.int (0 : Int32)), (.ref b1_0)]))
    refine g_aload X2 hx 163 (hb hby at_161) rfl rfl rfl ?_
    show Go p e below s _ _ _ (T2.setTop (mkF m 163 #[.val (.int x0), .val (.long x1), .second, .val (.int x2), .val (.long x3), .second, .val (.int x4), .val (.int (v0_f1 x0)), .val (.int (v0_f2 x2)), .val (.ref ba), .val (.int ln), .val (.ref pp), .val (.int (ok &&& (1 : Int32))), .val (.ref b1_0)] [(.ref b1_0), (.int (0 : Int32)), (.ref b1_0)]))
    refine g_iconst X2 hx (0 : Int32) 164 (hb hby at_163) rfl rfl ?_
    show Go p e below s _ _ _ (T2.setTop (mkF m 164 #[.val (.int x0), .val (.long x1), .second, .val (.int x2), .val (.long x3), .second, .val (.int x4), .val (.int (v0_f1 x0)), .val (.int (v0_f2 x2)), .val (.ref ba), .val (.int ln), .val (.ref pp), .val (.int (ok &&& (1 : Int32))), .val (.ref b1_0)] [(.int (0 : Int32)), (.ref b1_0), (.int (0 : Int32)), (.ref b1_0)]))
    refine g_iaload X2 hx hZ e2 p1_0 0 rfl (own_0lt (own_F9 x2).2 h4) 165 (hb hby at_164) rfl ?_
    show Go p e below s _ _ _ (T2.setTop (mkF m 165 #[.val (.int x0), .val (.long x1), .second, .val (.int x2), .val (.long x3), .second, .val (.int x4), .val (.int (v0_f1 x0)), .val (.int (v0_f2 x2)), .val (.ref ba), .val (.int ln), .val (.ref pp), .val (.int (ok &&& (1 : Int32))), .val (.ref b1_0)] [(.int (pg 0)), (.int (0 : Int32)), (.ref b1_0)]))
    refine g_iconst X2 hx (1 : Int32) 166 (hb hby at_165) rfl rfl ?_
    show Go p e below s _ _ _ (T2.setTop (mkF m 166 #[.val (.int x0), .val (.long x1), .second, .val (.int x2), .val (.long x3), .second, .val (.int x4), .val (.int (v0_f1 x0)), .val (.int (v0_f2 x2)), .val (.ref ba), .val (.int ln), .val (.ref pp), .val (.int (ok &&& (1 : Int32))), .val (.ref b1_0)] [(.int (1 : Int32)), (.int (pg 0)), (.int (0 : Int32)), (.ref b1_0)]))
    refine g_iadd X2 hx 167 (hb hby at_166) rfl ?_
    show Go p e below s _ _ _ (T2.setTop (mkF m 167 #[.val (.int x0), .val (.long x1), .second, .val (.int x2), .val (.long x3), .second, .val (.int x4), .val (.int (v0_f1 x0)), .val (.int (v0_f2 x2)), .val (.ref ba), .val (.int ln), .val (.ref pp), .val (.int (ok &&& (1 : Int32))), .val (.ref b1_0)] [(.int ((pg 0) + (1 : Int32))), (.int (0 : Int32)), (.ref b1_0)]))
    refine g_iastore X2 hx hZ e2 p1_0 0 rfl (own_0lt (own_F9 x2).2 h4) 168 (hb hby at_167) rfl ?_
    intro T6 h6 X6 e6 W6 A6
    have N6 := Fr.snoc X6 NS2 N_b1_0
    have k6_0 := k1_0.wr W6
    have k6_1 := k1_1.other W6 (Or.inl ne_pp_b1_0)
    have k6_2 := k1_2.other W6 (Or.inl ne_pp_b1_0)
    have k6_3 := k1_3.other W6 (Or.inl ne_pp_b1_0)
    have k6_4 := k1_4.other W6 (Or.inl ne_pp_b1_0)
    have k6_5 := k1_5.wr W6
    have k6_6 := k1_6.other W6 (Or.inl ne_vi_b1_0)
    have k6_7 := k1_7.other W6 (Or.inl ne_vi_b1_0)
    have k6_8 := k1_8.other W6 (Or.inl ne_vi_b1_0)
    have k6_9 := k1_9.other W6 ne_ba_b1_0
    have k6_10 := k1_10.wr W6
    have k6_11 := k1_11.other W6 ne_pa_b1_0
    have Z6 : n0 ≤ h6.size := by rw [W6.size]; exact Z1
    show Go p e below s _ _ _ (T6.setTop (mkF m 168 #[.val (.int x0), .val (.long x1), .second, .val (.int x2), .val (.long x3), .second, .val (.int x4), .val (.int (v0_f1 x0)), .val (.int (v0_f2 x2)), .val (.ref ba), .val (.int ln), .val (.ref pp), .val (.int (ok &&& (1 : Int32))), .val (.ref b1_0)] []))
    refine g_iload X6 hx 170 (hb hby at_168) rfl rfl ?_
    show Go p e below s _ _ _ (T6.setTop (mkF m 170 #[.val (.int x0), .val (.long x1), .second, .val (.int x2), .val (.long x3), .second, .val (.int x4), .val (.int (v0_f1 x0)), .val (.int (v0_f2 x2)), .val (.ref ba), .val (.int ln), .val (.ref pp), .val (.int (ok &&& (1 : Int32))), .val (.ref b1_0)] [(.int (ok &&& (1 : Int32)))]))
    refine g_aload X6 hx 172 (hb hby at_170) rfl rfl rfl ?_
    show Go p e below s _ _ _ (T6.setTop (mkF m 172 #[.val (.int x0), .val (.long x1), .second, .val (.int x2), .val (.long x3), .second, .val (.int x4), .val (.int (v0_f1 x0)), .val (.int (v0_f2 x2)), .val (.ref ba), .val (.int ln), .val (.ref pp), .val (.int (ok &&& (1 : Int32))), .val (.ref b1_0)] [(.ref pp), (.int (ok &&& (1 : Int32)))]))
    refine g_callV X6 hx hZ hown (hw _ (List.mem_of_getElem? (i := 59) rfl)) (hw _ (List.mem_of_getElem? (i := 60) rfl)) (hw _ (List.mem_of_getElem? (i := 62) rfl)) (hw _ (List.mem_of_getElem? (i := 61) rfl)) (hw _ (List.mem_of_getElem? (i := 12) rfl)) (hw _ (List.mem_of_getElem? (i := 63) rfl)) (by decide) e6 pp k6_0 (rm210 l Z a0 hw [] pp vi ln of h6 k6_2 k6_5 k6_7 k6_8 (hend : ¬ of < ln)) [] [(.int (ok &&& (1 : Int32)))] 1 rfl (lenOf pd__28_29Z rfl) rfl (Nat.le_of_eq rfl) (by decide) (by decide) (by decide) (by decide) (by rw [hml]; rfl) (hb hby at_172) ?_
    intro T7 L7 v7 X7 q7
    obtain ⟨rfl, rfl, e7⟩ := q7
    have NS7 := Fr.app N6 (Fr.nil n0)
    show Go p e below s _ _ _ (T7.setTop (mkF m 175 #[.val (.int x0), .val (.long x1), .second, .val (.int x2), .val (.long x3), .second, .val (.int x4), .val (.int (v0_f1 x0)), .val (.int (v0_f2 x2)), .val (.ref ba), .val (.int ln), .val (.ref pp), .val (.int (ok &&& (1 : Int32))), .val (.ref b1_0)] [(.int (0 : Int32)), (.int (ok &&& (1 : Int32)))]))
    have h8 : (0 : Int32) = (0 : Int32) := rfl
    refine g_if0_ne X7 hx 182 178 (hb hby at_175) (by decide) rfl rfl (fun _ => ?_) (fun q => absurd h8 q)
    show Go p e below s _ _ _ (T7.setTop (mkF m 178 #[.val (.int x0), .val (.long x1), .second, .val (.int x2), .val (.long x3), .second, .val (.int x4), .val (.int (v0_f1 x0)), .val (.int (v0_f2 x2)), .val (.ref ba), .val (.int ln), .val (.ref pp), .val (.int (ok &&& (1 : Int32))), .val (.ref b1_0)] [(.int (ok &&& (1 : Int32)))]))
    refine g_iconst X7 hx (1 : Int32) 179 (hb hby at_178) rfl rfl ?_
    show Go p e below s _ _ _ (T7.setTop (mkF m 179 #[.val (.int x0), .val (.long x1), .second, .val (.int x2), .val (.long x3), .second, .val (.int x4), .val (.int (v0_f1 x0)), .val (.int (v0_f2 x2)), .val (.ref ba), .val (.int ln), .val (.ref pp), .val (.int (ok &&& (1 : Int32))), .val (.ref b1_0)] [(.int (1 : Int32)), (.int (ok &&& (1 : Int32)))]))
    refine g_goto X7 hx 183 (hb hby at_179) (by decide) rfl ?_
    show Go p e below s _ _ _ (T7.setTop (mkF m 183 #[.val (.int x0), .val (.long x1), .second, .val (.int x2), .val (.long x3), .second, .val (.int x4), .val (.int (v0_f1 x0)), .val (.int (v0_f2 x2)), .val (.ref ba), .val (.int ln), .val (.ref pp), .val (.int (ok &&& (1 : Int32))), .val (.ref b1_0)] [(.int (1 : Int32)), (.int (ok &&& (1 : Int32)))]))
    refine g_iand X7 hx 184 (hb hby at_183) rfl ?_
    show Go p e below s _ _ _ (T7.setTop (mkF m 184 #[.val (.int x0), .val (.long x1), .second, .val (.int x2), .val (.long x3), .second, .val (.int x4), .val (.int (v0_f1 x0)), .val (.int (v0_f2 x2)), .val (.ref ba), .val (.int ln), .val (.ref pp), .val (.int (ok &&& (1 : Int32))), .val (.ref b1_0)] [(.int ((ok &&& (1 : Int32)) &&& (1 : Int32)))]))
    refine g_istore X7 hx #[.val (.int x0), .val (.long x1), .second, .val (.int x2), .val (.long x3), .second, .val (.int x4), .val (.int (v0_f1 x0)), .val (.int (v0_f2 x2)), .val (.ref ba), .val (.int ln), .val (.ref pp), .val (.int ((ok &&& (1 : Int32)) &&& (1 : Int32))), .val (.ref b1_0)] 186 (hb hby at_184) rfl rfl ?_
    show Go p e below s _ _ _ (T7.setTop (mkF m 186 #[.val (.int x0), .val (.long x1), .second, .val (.int x2), .val (.long x3), .second, .val (.int x4), .val (.int (v0_f1 x0)), .val (.int (v0_f2 x2)), .val (.ref ba), .val (.int ln), .val (.ref pp), .val (.int ((ok &&& (1 : Int32)) &&& (1 : Int32))), .val (.ref b1_0)] []))
    refine g_iload X7 hx 188 (hb hby at_186) rfl rfl ?_
    show Go p e below s _ _ _ (T7.setTop (mkF m 188 #[.val (.int x0), .val (.long x1), .second, .val (.int x2), .val (.long x3), .second, .val (.int x4), .val (.int (v0_f1 x0)), .val (.int (v0_f2 x2)), .val (.ref ba), .val (.int ln), .val (.ref pp), .val (.int ((ok &&& (1 : Int32)) &&& (1 : Int32))), .val (.ref b1_0)] [(.int ((ok &&& (1 : Int32)) &&& (1 : Int32)))]))
    refine g_aload X7 hx 190 (hb hby at_188) rfl rfl rfl ?_
    show Go p e below s _ _ _ (T7.setTop (mkF m 190 #[.val (.int x0), .val (.long x1), .second, .val (.int x2), .val (.long x3), .second, .val (.int x4), .val (.int (v0_f1 x0)), .val (.int (v0_f2 x2)), .val (.ref ba), .val (.int ln), .val (.ref pp), .val (.int ((ok &&& (1 : Int32)) &&& (1 : Int32))), .val (.ref b1_0)] [(.ref pp), (.int ((ok &&& (1 : Int32)) &&& (1 : Int32)))]))
    refine g_callV X7 hx hZ hown (hw _ (List.mem_of_getElem? (i := 37) rfl)) (hw _ (List.mem_of_getElem? (i := 38) rfl)) (hw _ (List.mem_of_getElem? (i := 40) rfl)) (hw _ (List.mem_of_getElem? (i := 39) rfl)) (hw _ (List.mem_of_getElem? (i := 12) rfl)) (hw _ (List.mem_of_getElem? (i := 41) rfl)) (by decide) e7 pp k6_0 (rm6 l Z a0 hw [] pp pa fr pn pg (own_F x2) h6 n0 Z6 k6_3 k6_4 k6_11 k6_10 (hfr : fr.toInt = (own_F x2)) (hfp : (own_F x2) ≤ pn) (own_16 hpn : pn ≤ 16)) [] [(.int ((ok &&& (1 : Int32)) &&& (1 : Int32)))] 1 rfl (lenOf pd__28_29_5bI rfl) rfl (Nat.le_of_eq rfl) (by decide) (by decide) (by decide) (by decide) (by rw [hml]; rfl) (hb hby at_190) ?_
    intro T9 L9 v9 X9 q9
    obtain ⟨b9_0, rfl, N9, K9, sz9_0, p9_0⟩ := q9
    have NN9 := Fr.app NS7 N9
    have N_b9_0 : n0 ≤ b9_0 := Nat.le_trans Z6 sz9_0
    have ne_pp_b9_0 : pp ≠ b9_0 := Nat.ne_of_lt (Nat.lt_of_lt_of_le k6_0.lt sz9_0)
    have ne_vi_b9_0 : vi ≠ b9_0 := Nat.ne_of_lt (Nat.lt_of_lt_of_le k6_5.lt sz9_0)
    have ne_ba_b9_0 : ba ≠ b9_0 := Nat.ne_of_lt (Nat.lt_of_lt_of_le k6_9.lt sz9_0)
    have ne_pa_b9_0 : pa ≠ b9_0 := Nat.ne_of_lt (Nat.lt_of_lt_of_le k6_10.lt sz9_0)
    have ne_b1_0_b9_0 : b1_0 ≠ b9_0 := Nat.ne_of_lt (Nat.lt_of_lt_of_le A6.lt sz9_0)
    have k9_0 := k6_0.keep K9
    have k9_1 := k6_1.keep K9 nm0
    have k9_2 := k6_2.keep K9 nm0
    have k9_3 := k6_3.keep K9 nm0
    have k9_4 := k6_4.keep K9 nm0
    have k9_5 := k6_5.keep K9
    have k9_6 := k6_6.keep K9 nm0
    have k9_7 := k6_7.keep K9 nm0
    have k9_8 := k6_8.keep K9 nm0
    have k9_9 := k6_9.keep K9 nm0
    have k9_10 := k6_10.keep K9
    have k9_11 := k6_11.keep K9 nm0
    have k9_23 := A6.keep K9 nm0
    have Z9 : n0 ≤ T9.heap.size := Nat.le_trans Z6 K9.1
    show Go p e below s _ _ _ (T9.setTop (mkF m 193 #[.val (.int x0), .val (.long x1), .second, .val (.int x2), .val (.long x3), .second, .val (.int x4), .val (.int (v0_f1 x0)), .val (.int (v0_f2 x2)), .val (.ref ba), .val (.int ln), .val (.ref pp), .val (.int ((ok &&& (1 : Int32)) &&& (1 : Int32))), .val (.ref b1_0)] [(.ref b9_0), (.int ((ok &&& (1 : Int32)) &&& (1 : Int32)))]))
    refine g_iload X9 hx 195 (hb hby at_193) rfl rfl ?_
    show Go p e below s _ _ _ (T9.setTop (mkF m 195 #[.val (.int x0), .val (.long x1), .second, .val (.int x2), .val (.long x3), .second, .val (.int x4), .val (.int (v0_f1 x0)), .val (.int (v0_f2 x2)), .val (.ref ba), .val (.int ln), .val (.ref pp), .val (.int ((ok &&& (1 : Int32)) &&& (1 : Int32))), .val (.ref b1_0)] [(.int (v0_f2 x2)), (.ref b9_0), (.int ((ok &&& (1 : Int32)) &&& (1 : Int32)))]))
    refine g_lload X9 hx 197 (hb hby at_195) rfl rfl ?_
    show Go p e below s _ _ _ (T9.setTop (mkF m 197 #[.val (.int x0), .val (.long x1), .second, .val (.int x2), .val (.long x3), .second, .val (.int x4), .val (.int (v0_f1 x0)), .val (.int (v0_f2 x2)), .val (.ref ba), .val (.int ln), .val (.ref pp), .val (.int ((ok &&& (1 : Int32)) &&& (1 : Int32))), .val (.ref b1_0)] [(.long x3), (.int (v0_f2 x2)), (.ref b9_0), (.int ((ok &&& (1 : Int32)) &&& (1 : Int32)))]))
    refine g_callS X9 hx hZ hown (hw _ (List.mem_of_getElem? (i := 56) rfl)) (hw _ (List.mem_of_getElem? (i := 57) rfl)) (hw _ (List.mem_of_getElem? (i := 4) rfl)) (hw _ (List.mem_of_getElem? (i := 58) rfl)) (by decide) rfl (rm9 l Z a0 hw [] b9_0 (v0_f2 x2) x3 pg (own_F x2) T9.heap p9_0 ((own_F9 x2).1 : (v0_f2 x2).toInt = (own_F x2)) (hSum : ∀ i, i < (own_F x2) → pg i = own_p x3 i)) [(.ref b9_0), (.int (v0_f2 x2)), (.long x3)] [(.int ((ok &&& (1 : Int32)) &&& (1 : Int32)))] 1 rfl (lenOf pd__28_5bIIJ_29Z rfl) rfl (Nat.le_of_eq rfl) (by decide) (by decide) (by decide) (by decide) (by rw [hml]; rfl) (hb hby at_197) ?_
    intro T10 L10 v10 X10 q10
    obtain ⟨rfl, rfl, e10⟩ := q10
    have NS10 := Fr.app NN9 (Fr.nil n0)
    show Go p e below s _ _ _ (T10.setTop (mkF m 200 #[.val (.int x0), .val (.long x1), .second, .val (.int x2), .val (.long x3), .second, .val (.int x4), .val (.int (v0_f1 x0)), .val (.int (v0_f2 x2)), .val (.ref ba), .val (.int ln), .val (.ref pp), .val (.int ((ok &&& (1 : Int32)) &&& (1 : Int32))), .val (.ref b1_0)] [(.int (1 : Int32)), (.int ((ok &&& (1 : Int32)) &&& (1 : Int32)))]))
    refine g_iand X10 hx 201 (hb hby at_200) rfl ?_
    show Go p e below s _ _ _ (T10.setTop (mkF m 201 #[.val (.int x0), .val (.long x1), .second, .val (.int x2), .val (.long x3), .second, .val (.int x4), .val (.int (v0_f1 x0)), .val (.int (v0_f2 x2)), .val (.ref ba), .val (.int ln), .val (.ref pp), .val (.int ((ok &&& (1 : Int32)) &&& (1 : Int32))), .val (.ref b1_0)] [(.int (((ok &&& (1 : Int32)) &&& (1 : Int32)) &&& (1 : Int32)))]))
    refine g_istore X10 hx #[.val (.int x0), .val (.long x1), .second, .val (.int x2), .val (.long x3), .second, .val (.int x4), .val (.int (v0_f1 x0)), .val (.int (v0_f2 x2)), .val (.ref ba), .val (.int ln), .val (.ref pp), .val (.int (((ok &&& (1 : Int32)) &&& (1 : Int32)) &&& (1 : Int32))), .val (.ref b1_0)] 203 (hb hby at_201) rfl rfl ?_
    show Go p e below s _ _ _ (T10.setTop (mkF m 203 #[.val (.int x0), .val (.long x1), .second, .val (.int x2), .val (.long x3), .second, .val (.int x4), .val (.int (v0_f1 x0)), .val (.int (v0_f2 x2)), .val (.ref ba), .val (.int ln), .val (.ref pp), .val (.int (((ok &&& (1 : Int32)) &&& (1 : Int32)) &&& (1 : Int32))), .val (.ref b1_0)] []))
    refine g_iload X10 hx 205 (hb hby at_203) rfl rfl ?_
    show Go p e below s _ _ _ (T10.setTop (mkF m 205 #[.val (.int x0), .val (.long x1), .second, .val (.int x2), .val (.long x3), .second, .val (.int x4), .val (.int (v0_f1 x0)), .val (.int (v0_f2 x2)), .val (.ref ba), .val (.int ln), .val (.ref pp), .val (.int (((ok &&& (1 : Int32)) &&& (1 : Int32)) &&& (1 : Int32))), .val (.ref b1_0)] [(.int (((ok &&& (1 : Int32)) &&& (1 : Int32)) &&& (1 : Int32)))]))
    exact g_retN X10 hx hret (by simp) hlk (hb hby at_205) (by decide) (by decide) ⟨congrArg (fun z => some (Value.int z)) (own_fin hok), NS10⟩
  · show Go p e below s _ _ _ (T2.setTop (mkF m 168 #[.val (.int x0), .val (.long x1), .second, .val (.int x2), .val (.long x3), .second, .val (.int x4), .val (.int (v0_f1 x0)), .val (.int (v0_f2 x2)), .val (.ref ba), .val (.int ln), .val (.ref pp), .val (.int (ok &&& (1 : Int32))), .val (.ref b1_0)] []))
    refine g_iload X2 hx 170 (hb hby at_168) rfl rfl ?_
    show Go p e below s _ _ _ (T2.setTop (mkF m 170 #[.val (.int x0), .val (.long x1), .second, .val (.int x2), .val (.long x3), .second, .val (.int x4), .val (.int (v0_f1 x0)), .val (.int (v0_f2 x2)), .val (.ref ba), .val (.int ln), .val (.ref pp), .val (.int (ok &&& (1 : Int32))), .val (.ref b1_0)] [(.int (ok &&& (1 : Int32)))]))
    refine g_aload X2 hx 172 (hb hby at_170) rfl rfl rfl ?_
    show Go p e below s _ _ _ (T2.setTop (mkF m 172 #[.val (.int x0), .val (.long x1), .second, .val (.int x2), .val (.long x3), .second, .val (.int x4), .val (.int (v0_f1 x0)), .val (.int (v0_f2 x2)), .val (.ref ba), .val (.int ln), .val (.ref pp), .val (.int (ok &&& (1 : Int32))), .val (.ref b1_0)] [(.ref pp), (.int (ok &&& (1 : Int32)))]))
    refine g_callV X2 hx hZ hown (hw _ (List.mem_of_getElem? (i := 59) rfl)) (hw _ (List.mem_of_getElem? (i := 60) rfl)) (hw _ (List.mem_of_getElem? (i := 62) rfl)) (hw _ (List.mem_of_getElem? (i := 61) rfl)) (hw _ (List.mem_of_getElem? (i := 12) rfl)) (hw _ (List.mem_of_getElem? (i := 63) rfl)) (by decide) e2 pp k1_0 (rm210 l Z a0 hw [] pp vi ln of T1.heap k1_2 k1_5 k1_7 k1_8 (hend : ¬ of < ln)) [] [(.int (ok &&& (1 : Int32)))] 1 rfl (lenOf pd__28_29Z rfl) rfl (Nat.le_of_eq rfl) (by decide) (by decide) (by decide) (by decide) (by rw [hml]; rfl) (hb hby at_172) ?_
    intro T11 L11 v11 X11 q11
    obtain ⟨rfl, rfl, e11⟩ := q11
    have NS11 := Fr.app NS2 (Fr.nil n0)
    show Go p e below s _ _ _ (T11.setTop (mkF m 175 #[.val (.int x0), .val (.long x1), .second, .val (.int x2), .val (.long x3), .second, .val (.int x4), .val (.int (v0_f1 x0)), .val (.int (v0_f2 x2)), .val (.ref ba), .val (.int ln), .val (.ref pp), .val (.int (ok &&& (1 : Int32))), .val (.ref b1_0)] [(.int (0 : Int32)), (.int (ok &&& (1 : Int32)))]))
    have h12 : (0 : Int32) = (0 : Int32) := rfl
    refine g_if0_ne X11 hx 182 178 (hb hby at_175) (by decide) rfl rfl (fun _ => ?_) (fun q => absurd h12 q)
    show Go p e below s _ _ _ (T11.setTop (mkF m 178 #[.val (.int x0), .val (.long x1), .second, .val (.int x2), .val (.long x3), .second, .val (.int x4), .val (.int (v0_f1 x0)), .val (.int (v0_f2 x2)), .val (.ref ba), .val (.int ln), .val (.ref pp), .val (.int (ok &&& (1 : Int32))), .val (.ref b1_0)] [(.int (ok &&& (1 : Int32)))]))
    refine g_iconst X11 hx (1 : Int32) 179 (hb hby at_178) rfl rfl ?_
    show Go p e below s _ _ _ (T11.setTop (mkF m 179 #[.val (.int x0), .val (.long x1), .second, .val (.int x2), .val (.long x3), .second, .val (.int x4), .val (.int (v0_f1 x0)), .val (.int (v0_f2 x2)), .val (.ref ba), .val (.int ln), .val (.ref pp), .val (.int (ok &&& (1 : Int32))), .val (.ref b1_0)] [(.int (1 : Int32)), (.int (ok &&& (1 : Int32)))]))
    refine g_goto X11 hx 183 (hb hby at_179) (by decide) rfl ?_
    show Go p e below s _ _ _ (T11.setTop (mkF m 183 #[.val (.int x0), .val (.long x1), .second, .val (.int x2), .val (.long x3), .second, .val (.int x4), .val (.int (v0_f1 x0)), .val (.int (v0_f2 x2)), .val (.ref ba), .val (.int ln), .val (.ref pp), .val (.int (ok &&& (1 : Int32))), .val (.ref b1_0)] [(.int (1 : Int32)), (.int (ok &&& (1 : Int32)))]))
    refine g_iand X11 hx 184 (hb hby at_183) rfl ?_
    show Go p e below s _ _ _ (T11.setTop (mkF m 184 #[.val (.int x0), .val (.long x1), .second, .val (.int x2), .val (.long x3), .second, .val (.int x4), .val (.int (v0_f1 x0)), .val (.int (v0_f2 x2)), .val (.ref ba), .val (.int ln), .val (.ref pp), .val (.int (ok &&& (1 : Int32))), .val (.ref b1_0)] [(.int ((ok &&& (1 : Int32)) &&& (1 : Int32)))]))
    refine g_istore X11 hx #[.val (.int x0), .val (.long x1), .second, .val (.int x2), .val (.long x3), .second, .val (.int x4), .val (.int (v0_f1 x0)), .val (.int (v0_f2 x2)), .val (.ref ba), .val (.int ln), .val (.ref pp), .val (.int ((ok &&& (1 : Int32)) &&& (1 : Int32))), .val (.ref b1_0)] 186 (hb hby at_184) rfl rfl ?_
    show Go p e below s _ _ _ (T11.setTop (mkF m 186 #[.val (.int x0), .val (.long x1), .second, .val (.int x2), .val (.long x3), .second, .val (.int x4), .val (.int (v0_f1 x0)), .val (.int (v0_f2 x2)), .val (.ref ba), .val (.int ln), .val (.ref pp), .val (.int ((ok &&& (1 : Int32)) &&& (1 : Int32))), .val (.ref b1_0)] []))
    refine g_iload X11 hx 188 (hb hby at_186) rfl rfl ?_
    show Go p e below s _ _ _ (T11.setTop (mkF m 188 #[.val (.int x0), .val (.long x1), .second, .val (.int x2), .val (.long x3), .second, .val (.int x4), .val (.int (v0_f1 x0)), .val (.int (v0_f2 x2)), .val (.ref ba), .val (.int ln), .val (.ref pp), .val (.int ((ok &&& (1 : Int32)) &&& (1 : Int32))), .val (.ref b1_0)] [(.int ((ok &&& (1 : Int32)) &&& (1 : Int32)))]))
    refine g_aload X11 hx 190 (hb hby at_188) rfl rfl rfl ?_
    show Go p e below s _ _ _ (T11.setTop (mkF m 190 #[.val (.int x0), .val (.long x1), .second, .val (.int x2), .val (.long x3), .second, .val (.int x4), .val (.int (v0_f1 x0)), .val (.int (v0_f2 x2)), .val (.ref ba), .val (.int ln), .val (.ref pp), .val (.int ((ok &&& (1 : Int32)) &&& (1 : Int32))), .val (.ref b1_0)] [(.ref pp), (.int ((ok &&& (1 : Int32)) &&& (1 : Int32)))]))
    refine g_callV X11 hx hZ hown (hw _ (List.mem_of_getElem? (i := 37) rfl)) (hw _ (List.mem_of_getElem? (i := 38) rfl)) (hw _ (List.mem_of_getElem? (i := 40) rfl)) (hw _ (List.mem_of_getElem? (i := 39) rfl)) (hw _ (List.mem_of_getElem? (i := 12) rfl)) (hw _ (List.mem_of_getElem? (i := 41) rfl)) (by decide) e11 pp k1_0 (rm6 l Z a0 hw [] pp pa fr pn pg (own_F x2) T1.heap n0 Z1 k1_3 k1_4 k1_11 k1_10 (hfr : fr.toInt = (own_F x2)) (hfp : (own_F x2) ≤ pn) (own_16 hpn : pn ≤ 16)) [] [(.int ((ok &&& (1 : Int32)) &&& (1 : Int32)))] 1 rfl (lenOf pd__28_29_5bI rfl) rfl (Nat.le_of_eq rfl) (by decide) (by decide) (by decide) (by decide) (by rw [hml]; rfl) (hb hby at_190) ?_
    intro T13 L13 v13 X13 q13
    obtain ⟨b13_0, rfl, N13, K13, sz13_0, p13_0⟩ := q13
    have NN13 := Fr.app NS11 N13
    have N_b13_0 : n0 ≤ b13_0 := Nat.le_trans Z1 sz13_0
    have ne_pp_b13_0 : pp ≠ b13_0 := Nat.ne_of_lt (Nat.lt_of_lt_of_le k1_0.lt sz13_0)
    have ne_vi_b13_0 : vi ≠ b13_0 := Nat.ne_of_lt (Nat.lt_of_lt_of_le k1_5.lt sz13_0)
    have ne_ba_b13_0 : ba ≠ b13_0 := Nat.ne_of_lt (Nat.lt_of_lt_of_le k1_9.lt sz13_0)
    have ne_pa_b13_0 : pa ≠ b13_0 := Nat.ne_of_lt (Nat.lt_of_lt_of_le k1_10.lt sz13_0)
    have ne_b1_0_b13_0 : b1_0 ≠ b13_0 := Nat.ne_of_lt (Nat.lt_of_lt_of_le p1_0.lt sz13_0)
    have k13_0 := k1_0.keep K13
    have k13_1 := k1_1.keep K13 nm0
    have k13_2 := k1_2.keep K13 nm0
    have k13_3 := k1_3.keep K13 nm0
    have k13_4 := k1_4.keep K13 nm0
    have k13_5 := k1_5.keep K13
    have k13_6 := k1_6.keep K13 nm0
    have k13_7 := k1_7.keep K13 nm0
    have k13_8 := k1_8.keep K13 nm0
    have k13_9 := k1_9.keep K13 nm0
    have k13_10 := k1_10.keep K13
    have k13_11 := k1_11.keep K13 nm0
    have k13_23 := p1_0.keep K13 nm0
    have Z13 : n0 ≤ T13.heap.size := Nat.le_trans Z1 K13.1
    show Go p e below s _ _ _ (T13.setTop (mkF m 193 #[.val (.int x0), .val (.long x1), .second, .val (.int x2), .val (.long x3), .second, .val (.int x4), .val (.int (v0_f1 x0)), .val (.int (v0_f2 x2)), .val (.ref ba), .val (.int ln), .val (.ref pp), .val (.int ((ok &&& (1 : Int32)) &&& (1 : Int32))), .val (.ref b1_0)] [(.ref b13_0), (.int ((ok &&& (1 : Int32)) &&& (1 : Int32)))]))
    refine g_iload X13 hx 195 (hb hby at_193) rfl rfl ?_
    show Go p e below s _ _ _ (T13.setTop (mkF m 195 #[.val (.int x0), .val (.long x1), .second, .val (.int x2), .val (.long x3), .second, .val (.int x4), .val (.int (v0_f1 x0)), .val (.int (v0_f2 x2)), .val (.ref ba), .val (.int ln), .val (.ref pp), .val (.int ((ok &&& (1 : Int32)) &&& (1 : Int32))), .val (.ref b1_0)] [(.int (v0_f2 x2)), (.ref b13_0), (.int ((ok &&& (1 : Int32)) &&& (1 : Int32)))]))
    refine g_lload X13 hx 197 (hb hby at_195) rfl rfl ?_
    show Go p e below s _ _ _ (T13.setTop (mkF m 197 #[.val (.int x0), .val (.long x1), .second, .val (.int x2), .val (.long x3), .second, .val (.int x4), .val (.int (v0_f1 x0)), .val (.int (v0_f2 x2)), .val (.ref ba), .val (.int ln), .val (.ref pp), .val (.int ((ok &&& (1 : Int32)) &&& (1 : Int32))), .val (.ref b1_0)] [(.long x3), (.int (v0_f2 x2)), (.ref b13_0), (.int ((ok &&& (1 : Int32)) &&& (1 : Int32)))]))
    refine g_callS X13 hx hZ hown (hw _ (List.mem_of_getElem? (i := 56) rfl)) (hw _ (List.mem_of_getElem? (i := 57) rfl)) (hw _ (List.mem_of_getElem? (i := 4) rfl)) (hw _ (List.mem_of_getElem? (i := 58) rfl)) (by decide) rfl (rm9 l Z a0 hw [] b13_0 (v0_f2 x2) x3 pg (own_F x2) T13.heap p13_0 ((own_F9 x2).1 : (v0_f2 x2).toInt = (own_F x2)) (hSum : ∀ i, i < (own_F x2) → pg i = own_p x3 i)) [(.ref b13_0), (.int (v0_f2 x2)), (.long x3)] [(.int ((ok &&& (1 : Int32)) &&& (1 : Int32)))] 1 rfl (lenOf pd__28_5bIIJ_29Z rfl) rfl (Nat.le_of_eq rfl) (by decide) (by decide) (by decide) (by decide) (by rw [hml]; rfl) (hb hby at_197) ?_
    intro T14 L14 v14 X14 q14
    obtain ⟨rfl, rfl, e14⟩ := q14
    have NS14 := Fr.app NN13 (Fr.nil n0)
    show Go p e below s _ _ _ (T14.setTop (mkF m 200 #[.val (.int x0), .val (.long x1), .second, .val (.int x2), .val (.long x3), .second, .val (.int x4), .val (.int (v0_f1 x0)), .val (.int (v0_f2 x2)), .val (.ref ba), .val (.int ln), .val (.ref pp), .val (.int ((ok &&& (1 : Int32)) &&& (1 : Int32))), .val (.ref b1_0)] [(.int (1 : Int32)), (.int ((ok &&& (1 : Int32)) &&& (1 : Int32)))]))
    refine g_iand X14 hx 201 (hb hby at_200) rfl ?_
    show Go p e below s _ _ _ (T14.setTop (mkF m 201 #[.val (.int x0), .val (.long x1), .second, .val (.int x2), .val (.long x3), .second, .val (.int x4), .val (.int (v0_f1 x0)), .val (.int (v0_f2 x2)), .val (.ref ba), .val (.int ln), .val (.ref pp), .val (.int ((ok &&& (1 : Int32)) &&& (1 : Int32))), .val (.ref b1_0)] [(.int (((ok &&& (1 : Int32)) &&& (1 : Int32)) &&& (1 : Int32)))]))
    refine g_istore X14 hx #[.val (.int x0), .val (.long x1), .second, .val (.int x2), .val (.long x3), .second, .val (.int x4), .val (.int (v0_f1 x0)), .val (.int (v0_f2 x2)), .val (.ref ba), .val (.int ln), .val (.ref pp), .val (.int (((ok &&& (1 : Int32)) &&& (1 : Int32)) &&& (1 : Int32))), .val (.ref b1_0)] 203 (hb hby at_201) rfl rfl ?_
    show Go p e below s _ _ _ (T14.setTop (mkF m 203 #[.val (.int x0), .val (.long x1), .second, .val (.int x2), .val (.long x3), .second, .val (.int x4), .val (.int (v0_f1 x0)), .val (.int (v0_f2 x2)), .val (.ref ba), .val (.int ln), .val (.ref pp), .val (.int (((ok &&& (1 : Int32)) &&& (1 : Int32)) &&& (1 : Int32))), .val (.ref b1_0)] []))
    refine g_iload X14 hx 205 (hb hby at_203) rfl rfl ?_
    show Go p e below s _ _ _ (T14.setTop (mkF m 205 #[.val (.int x0), .val (.long x1), .second, .val (.int x2), .val (.long x3), .second, .val (.int x4), .val (.int (v0_f1 x0)), .val (.int (v0_f2 x2)), .val (.ref ba), .val (.int ln), .val (.ref pp), .val (.int (((ok &&& (1 : Int32)) &&& (1 : Int32)) &&& (1 : Int32))), .val (.ref b1_0)] [(.int (((ok &&& (1 : Int32)) &&& (1 : Int32)) &&& (1 : Int32)))]))
    exact g_retN X14 hx hret (by simp) hlk (hb hby at_205) (by decide) (by decide) ⟨congrArg (fun z => some (Value.int z)) (own_fin hok), NS14⟩
set_option maxRecDepth 65536 in
set_option maxHeartbeats 40000000 in
theorem sg0_116A (l : Launch) (Z : State) (a0 : Array Value) (hw : ∀ d ∈ tables_1, d.before a0 Z = true) {p : Program} {e : Env} {s : State} {m : MethodId} {args : Array Value} {below : List Frame} {meth : Method} {c : Code} (hx : p.tables.exec = Jvm.exec) (hby : c.code = code) (hml : c.maxLocals = maxLocals) (hret : meth.sig.returnType = ret) (hlk : meth.locks = false) (hown : s.vm.findClass "com/example/terms_in_context/termsincontext/index/PostingsPositionsPinLaw" = some m.cls) (hnm : meth.name = "law") (hZ : Z.Warmed39 s.vm) (x0 : Int32) (x1 : Int64) (x2 : Int32) (x3 : Int64) (x4 : Int32) (h0 : Heap) (n0 : Nat) : ∀  (ba : Addr) (pp : Addr) (vi : Addr) (pa : Addr) (dc : Int32) (fr : Int32) (ln : Int32) (of : Int32) (ok : Int32) (g : Nat → Int32) (pn : Nat) (pg : Nat → Int32) (T0 : State) (locs : List Loc) (hS : Heap), Stand p l e room_1 s m args below meth c T0 locs 7 85 → T0.heap = hS → n0 ≤ hS.size → Fr n0 locs → Exa Z hS pp "com/example/terms_in_context/termsincontext/index/Postings" → Fld Z hS pp "com/example/terms_in_context/termsincontext/index/Postings" "document" "I" (.int dc) → Fld Z hS pp "com/example/terms_in_context/termsincontext/index/Postings" "in" "Lcom/example/terms_in_context/termsincontext/index/VarIntInput;" (.ref vi) → Fld Z hS pp "com/example/terms_in_context/termsincontext/index/Postings" "positions" "[I" (.ref pa) → Fld Z hS pp "com/example/terms_in_context/termsincontext/index/Postings" "frequency" "I" (.int fr) → Exa Z hS vi "com/example/terms_in_context/termsincontext/index/VarIntInput" → Fld Z hS vi "com/example/terms_in_context/termsincontext/index/VarIntInput" "bytes" "[B" (.ref ba) → Fld Z hS vi "com/example/terms_in_context/termsincontext/index/VarIntInput" "length" "I" (.int ln) → Fld Z hS vi "com/example/terms_in_context/termsincontext/index/VarIntInput" "offset" "I" (.int of) → AB Z hS ba 22 g → Exa Z hS pa "[I" → AI Z hS pa pn pg → n0 ≤ pp → n0 ≤ vi → n0 ≤ pa → pp ≠ ba → vi ≠ ba → pa ≠ ba → (ok = 1) → (own_ok g (2 + (own_F x0)) (own_F x2) x3) → (ln.toInt = ((4 + (own_F x0) + (own_F x2) : Nat) : Int)) → (of.toInt = ((2 + (own_F x0) : Nat) : Int)) → (pn = 8 ∨ pn = 16) → ((own_F x2) ≤ pn) → Go p e below s (Q0 Z x0 x1 x2 x3 x4 h0 n0) room_1.cells room_1.slots (T0.setTop (mkF m 116 #[.val (.int x0), .val (.long x1), .second, .val (.int x2), .val (.long x3), .second, .val (.int x4), .val (.int (v0_f1 x0)), .val (.int (v0_f2 x2)), .val (.ref ba), .val (.int ln), .val (.ref pp), .val (.int ok), .unset] [])) := by
  intro ba pp vi pa dc fr ln of ok g pn pg T0 locs hS X0 e0 Z0 N0 P0 P1 P2 P3 P4 P5 P6 P7 P8 P9 P10 P11 P12 P13 P14 P15 P16 P17 hok hB hln ho hpn hfl
  refine g_iload X0 hx 118 (hb hby at_116) rfl rfl ?_
  show Go p e below s _ _ _ (T0.setTop (mkF m 118 #[.val (.int x0), .val (.long x1), .second, .val (.int x2), .val (.long x3), .second, .val (.int x4), .val (.int (v0_f1 x0)), .val (.int (v0_f2 x2)), .val (.ref ba), .val (.int ln), .val (.ref pp), .val (.int ok), .unset] [(.int ok)]))
  refine g_aload X0 hx 120 (hb hby at_118) rfl rfl rfl ?_
  show Go p e below s _ _ _ (T0.setTop (mkF m 120 #[.val (.int x0), .val (.long x1), .second, .val (.int x2), .val (.long x3), .second, .val (.int x4), .val (.int (v0_f1 x0)), .val (.int (v0_f2 x2)), .val (.ref ba), .val (.int ln), .val (.ref pp), .val (.int ok), .unset] [(.ref pp), (.int ok)]))
  refine g_callV X0 hx hZ hown (hw _ (List.mem_of_getElem? (i := 59) rfl)) (hw _ (List.mem_of_getElem? (i := 60) rfl)) (hw _ (List.mem_of_getElem? (i := 62) rfl)) (hw _ (List.mem_of_getElem? (i := 61) rfl)) (hw _ (List.mem_of_getElem? (i := 12) rfl)) (hw _ (List.mem_of_getElem? (i := 63) rfl)) (by decide) e0 pp P0 (rm10 l Z a0 hw [] pp vi ba pa dc fr ln of g pn pg (2 + (own_F x0) : Nat) (own_F x2) hS n0 Z0 P0 P1 P2 P3 P4 P5 P6 P7 P8 P9 P10 P11 P12 P13 P14 P15 P16 P17 (ho : of.toInt = (2 + (own_F x0) : Nat)) (own_lt2 ho hln (by omega) : of < ln) (hB.2.1 : ¬ g (2 + (own_F x0) : Nat) < 0) (hB.2.2.1 : ¬ g ((2 + (own_F x0) : Nat) + 1) < 0) (hB.2.2.2.1 : (own_rd g 0 ((2 + (own_F x0) : Nat) + 1) 0 0).toInt = (own_F x2)) (hB.2.2.2.2.1 : ∀ j, j < (own_F x2) → ¬ g ((2 + (own_F x0) : Nat) + 2 + j) < 0) (hB.1 : (2 + (own_F x0) : Nat) + 2 + (own_F x2) ≤ 22) (hfl : (own_F x2) ≤ pn) (own_16 hpn : pn ≤ 16)) [] [(.int ok)] 1 rfl (lenOf pd__28_29Z rfl) rfl (Nat.le_of_eq rfl) (by decide) (by decide) (by decide) (by decide) (by rw [hml]; rfl) (hb hby at_120) ?_
  intro T15 L15 v15 X15 q15
  obtain ⟨rfl, N15, K15, p15_0, p15_1, p15_2, p15_3, p15_4, p15_5, p15_6, p15_7⟩ := q15
  have NN15 := Fr.app N0 N15
  have k15_0 := P0.keep K15
  have k15_5 := P5.keep K15
  have k15_9 := P9.keep K15 (nm1 (Ne.symm P15) (nm1 (Ne.symm P16) (nm1 (Ne.symm P17) nm0)))
  have k15_10 := P10.keep K15
  have Z15 : n0 ≤ T15.heap.size := Nat.le_trans Z0 K15.1
  show Go p e below s _ _ _ (T15.setTop (mkF m 123 #[.val (.int x0), .val (.long x1), .second, .val (.int x2), .val (.long x3), .second, .val (.int x4), .val (.int (v0_f1 x0)), .val (.int (v0_f2 x2)), .val (.ref ba), .val (.int ln), .val (.ref pp), .val (.int ok), .unset] [(.int (1 : Int32)), (.int ok)]))
  refine g_iand X15 hx 124 (hb hby at_123) rfl ?_
  show Go p e below s _ _ _ (T15.setTop (mkF m 124 #[.val (.int x0), .val (.long x1), .second, .val (.int x2), .val (.long x3), .second, .val (.int x4), .val (.int (v0_f1 x0)), .val (.int (v0_f2 x2)), .val (.ref ba), .val (.int ln), .val (.ref pp), .val (.int ok), .unset] [(.int (ok &&& (1 : Int32)))]))
  refine g_istore X15 hx #[.val (.int x0), .val (.long x1), .second, .val (.int x2), .val (.long x3), .second, .val (.int x4), .val (.int (v0_f1 x0)), .val (.int (v0_f2 x2)), .val (.ref ba), .val (.int ln), .val (.ref pp), .val (.int (ok &&& (1 : Int32))), .unset] 126 (hb hby at_124) rfl rfl ?_
  show Go p e below s _ _ _ (T15.setTop (mkF m 126 #[.val (.int x0), .val (.long x1), .second, .val (.int x2), .val (.long x3), .second, .val (.int x4), .val (.int (v0_f1 x0)), .val (.int (v0_f2 x2)), .val (.ref ba), .val (.int ln), .val (.ref pp), .val (.int (ok &&& (1 : Int32))), .unset] []))
  exact sg0_126 l Z a0 hw hx hby hml hret hlk hown hnm hZ x0 x1 x2 x3 x4 h0 n0  ba pp vi pa (dc + (own_rd g 0 (2 + (own_F x0) : Nat) 0 0)) (own_rd g 0 ((2 + (own_F x0) : Nat) + 1) 0 0) ln (Int32.ofNat ((2 + (own_F x0) : Nat) + 2 + (own_F x2))) (ok &&& (1 : Int32)) g pn (own_ps g ((2 + (own_F x0) : Nat) + 2) pg (own_F x2)) _ _ _ (X15.more (by decide) (by decide)) rfl Z15 NN15 k15_0 p15_0 p15_1 p15_2 p15_3 k15_5 p15_4 p15_5 p15_6 k15_9 k15_10 p15_7 P12 P13 P14 P15 P16 P17 (own_and1 hok) hpn (own_cs _ hB) hB.2.2.2.1 hfl (own_nlt (own_toI (by have := (own_F9 x0).2; have := (own_F9 x2).2; omega)) hln (by omega))
set_option maxRecDepth 65536 in
set_option maxHeartbeats 40000000 in
theorem sg0_116B (l : Launch) (Z : State) (a0 : Array Value) (hw : ∀ d ∈ tables_1, d.before a0 Z = true) {p : Program} {e : Env} {s : State} {m : MethodId} {args : Array Value} {below : List Frame} {meth : Method} {c : Code} (hx : p.tables.exec = Jvm.exec) (hby : c.code = code) (hml : c.maxLocals = maxLocals) (hret : meth.sig.returnType = ret) (hlk : meth.locks = false) (hown : s.vm.findClass "com/example/terms_in_context/termsincontext/index/PostingsPositionsPinLaw" = some m.cls) (hnm : meth.name = "law") (hZ : Z.Warmed39 s.vm) (x0 : Int32) (x1 : Int64) (x2 : Int32) (x3 : Int64) (x4 : Int32) (h0 : Heap) (n0 : Nat) : ∀  (ba : Addr) (pp : Addr) (vi : Addr) (pa : Addr) (dc : Int32) (fr : Int32) (ln : Int32) (of : Int32) (ok : Int32) (g : Nat → Int32) (pg : Nat → Int32) (T0 : State) (locs : List Loc) (hS : Heap), Stand p l e room_1 s m args below meth c T0 locs 7 85 → T0.heap = hS → n0 ≤ hS.size → Fr n0 locs → Exa Z hS pp "com/example/terms_in_context/termsincontext/index/Postings" → Fld Z hS pp "com/example/terms_in_context/termsincontext/index/Postings" "document" "I" (.int dc) → Fld Z hS pp "com/example/terms_in_context/termsincontext/index/Postings" "in" "Lcom/example/terms_in_context/termsincontext/index/VarIntInput;" (.ref vi) → Fld Z hS pp "com/example/terms_in_context/termsincontext/index/Postings" "positions" "[I" (.ref pa) → Fld Z hS pp "com/example/terms_in_context/termsincontext/index/Postings" "frequency" "I" (.int fr) → Exa Z hS vi "com/example/terms_in_context/termsincontext/index/VarIntInput" → Fld Z hS vi "com/example/terms_in_context/termsincontext/index/VarIntInput" "bytes" "[B" (.ref ba) → Fld Z hS vi "com/example/terms_in_context/termsincontext/index/VarIntInput" "length" "I" (.int ln) → Fld Z hS vi "com/example/terms_in_context/termsincontext/index/VarIntInput" "offset" "I" (.int of) → AB Z hS ba 22 g → Exa Z hS pa "[I" → AI Z hS pa 8 pg → n0 ≤ pp → n0 ≤ vi → n0 ≤ pa → pp ≠ ba → vi ≠ ba → pa ≠ ba → (ok = 1) → (own_ok g (2 + (own_F x0)) (own_F x2) x3) → (ln.toInt = ((4 + (own_F x0) + (own_F x2) : Nat) : Int)) → (of.toInt = ((2 + (own_F x0) : Nat) : Int)) → ((own_F x2) = 9) → Go p e below s (Q0 Z x0 x1 x2 x3 x4 h0 n0) room_1.cells room_1.slots (T0.setTop (mkF m 116 #[.val (.int x0), .val (.long x1), .second, .val (.int x2), .val (.long x3), .second, .val (.int x4), .val (.int (v0_f1 x0)), .val (.int (v0_f2 x2)), .val (.ref ba), .val (.int ln), .val (.ref pp), .val (.int ok), .unset] [])) := by
  intro ba pp vi pa dc fr ln of ok g pg T0 locs hS X0 e0 Z0 N0 P0 P1 P2 P3 P4 P5 P6 P7 P8 P9 P10 P11 P12 P13 P14 P15 P16 P17 hok hB hln ho h9
  refine g_iload X0 hx 118 (hb hby at_116) rfl rfl ?_
  show Go p e below s _ _ _ (T0.setTop (mkF m 118 #[.val (.int x0), .val (.long x1), .second, .val (.int x2), .val (.long x3), .second, .val (.int x4), .val (.int (v0_f1 x0)), .val (.int (v0_f2 x2)), .val (.ref ba), .val (.int ln), .val (.ref pp), .val (.int ok), .unset] [(.int ok)]))
  refine g_aload X0 hx 120 (hb hby at_118) rfl rfl rfl ?_
  show Go p e below s _ _ _ (T0.setTop (mkF m 120 #[.val (.int x0), .val (.long x1), .second, .val (.int x2), .val (.long x3), .second, .val (.int x4), .val (.int (v0_f1 x0)), .val (.int (v0_f2 x2)), .val (.ref ba), .val (.int ln), .val (.ref pp), .val (.int ok), .unset] [(.ref pp), (.int ok)]))
  refine g_callV X0 hx hZ hown (hw _ (List.mem_of_getElem? (i := 59) rfl)) (hw _ (List.mem_of_getElem? (i := 60) rfl)) (hw _ (List.mem_of_getElem? (i := 62) rfl)) (hw _ (List.mem_of_getElem? (i := 61) rfl)) (hw _ (List.mem_of_getElem? (i := 12) rfl)) (hw _ (List.mem_of_getElem? (i := 63) rfl)) (by decide) e0 pp P0 (rm110 l Z a0 hw [] pp vi ba pa dc fr ln of g pg (2 + (own_F x0) : Nat) (own_F x2) hS n0 Z0 P0 P1 P2 P3 P4 P5 P6 P7 P8 P9 P10 P11 P12 P13 P14 P15 P16 P17 (ho : of.toInt = (2 + (own_F x0) : Nat)) (own_lt2 ho hln (by omega) : of < ln) (hB.2.1 : ¬ g (2 + (own_F x0) : Nat) < 0) (hB.2.2.1 : ¬ g ((2 + (own_F x0) : Nat) + 1) < 0) (hB.2.2.2.1 : (own_rd g 0 ((2 + (own_F x0) : Nat) + 1) 0 0).toInt = (own_F x2)) (hB.2.2.2.2.1 : ∀ j, j < (own_F x2) → ¬ g ((2 + (own_F x0) : Nat) + 2 + j) < 0) (hB.1 : (2 + (own_F x0) : Nat) + 2 + (own_F x2) ≤ 22) (h9 : (own_F x2) = 9)) [] [(.int ok)] 1 rfl (lenOf pd__28_29Z rfl) rfl (Nat.le_of_eq rfl) (by decide) (by decide) (by decide) (by decide) (by rw [hml]; rfl) (hb hby at_120) ?_
  intro T16 L16 v16 X16 q16
  obtain ⟨rfl, N16, K16, b16_0, sz16_0, p16_0, p16_1, p16_2, p16_3, p16_4, p16_5, p16_6, p16_7, p16_8⟩ := q16
  have NN16 := Fr.app N0 N16
  have N_b16_0 : n0 ≤ b16_0 := Nat.le_trans Z0 sz16_0
  have ne_pp_b16_0 : pp ≠ b16_0 := Nat.ne_of_lt (Nat.lt_of_lt_of_le P0.lt sz16_0)
  have ne_vi_b16_0 : vi ≠ b16_0 := Nat.ne_of_lt (Nat.lt_of_lt_of_le P5.lt sz16_0)
  have ne_ba_b16_0 : ba ≠ b16_0 := Nat.ne_of_lt (Nat.lt_of_lt_of_le P9.lt sz16_0)
  have ne_pa_b16_0 : pa ≠ b16_0 := Nat.ne_of_lt (Nat.lt_of_lt_of_le P10.lt sz16_0)
  have k16_0 := P0.keep K16
  have k16_5 := P5.keep K16
  have k16_9 := P9.keep K16 (nm1 (Ne.symm P15) (nm1 (Ne.symm P16) nm0))
  have k16_10 := P10.keep K16
  have k16_11 := P11.keep K16 (nm1 (ne_exa P10 P0 (by decide)) (nm1 (ne_exa P10 P5 (by decide)) nm0))
  have Z16 : n0 ≤ T16.heap.size := Nat.le_trans Z0 K16.1
  show Go p e below s _ _ _ (T16.setTop (mkF m 123 #[.val (.int x0), .val (.long x1), .second, .val (.int x2), .val (.long x3), .second, .val (.int x4), .val (.int (v0_f1 x0)), .val (.int (v0_f2 x2)), .val (.ref ba), .val (.int ln), .val (.ref pp), .val (.int ok), .unset] [(.int (1 : Int32)), (.int ok)]))
  refine g_iand X16 hx 124 (hb hby at_123) rfl ?_
  show Go p e below s _ _ _ (T16.setTop (mkF m 124 #[.val (.int x0), .val (.long x1), .second, .val (.int x2), .val (.long x3), .second, .val (.int x4), .val (.int (v0_f1 x0)), .val (.int (v0_f2 x2)), .val (.ref ba), .val (.int ln), .val (.ref pp), .val (.int ok), .unset] [(.int (ok &&& (1 : Int32)))]))
  refine g_istore X16 hx #[.val (.int x0), .val (.long x1), .second, .val (.int x2), .val (.long x3), .second, .val (.int x4), .val (.int (v0_f1 x0)), .val (.int (v0_f2 x2)), .val (.ref ba), .val (.int ln), .val (.ref pp), .val (.int (ok &&& (1 : Int32))), .unset] 126 (hb hby at_124) rfl rfl ?_
  show Go p e below s _ _ _ (T16.setTop (mkF m 126 #[.val (.int x0), .val (.long x1), .second, .val (.int x2), .val (.long x3), .second, .val (.int x4), .val (.int (v0_f1 x0)), .val (.int (v0_f2 x2)), .val (.ref ba), .val (.int ln), .val (.ref pp), .val (.int (ok &&& (1 : Int32))), .unset] []))
  exact sg0_126 l Z a0 hw hx hby hml hret hlk hown hnm hZ x0 x1 x2 x3 x4 h0 n0  ba pp vi b16_0 (dc + (own_rd g 0 (2 + (own_F x0) : Nat) 0 0)) (own_rd g 0 ((2 + (own_F x0) : Nat) + 1) 0 0) ln (Int32.ofNat ((2 + (own_F x0) : Nat) + 2 + (own_F x2))) (ok &&& (1 : Int32)) g 16 (own_ps g ((2 + (own_F x0) : Nat) + 2) (fun _ => (0 : Int32)) (own_F x2)) _ _ _ X16 rfl Z16 NN16 k16_0 p16_0 p16_1 p16_2 p16_3 k16_5 p16_4 p16_5 p16_6 k16_9 p16_7 p16_8 P12 P13 N_b16_0 P15 P16 (Ne.symm ne_ba_b16_0) (own_and1 hok) (Or.inr rfl) (own_cs _ hB) hB.2.2.2.1 (by omega) (own_nlt (own_toI (by have := (own_F9 x0).2; have := (own_F9 x2).2; omega)) hln (by omega))
set_option maxRecDepth 65536 in
set_option maxHeartbeats 40000000 in
theorem sg0_100 (l : Launch) (Z : State) (a0 : Array Value) (hw : ∀ d ∈ tables_1, d.before a0 Z = true) {p : Program} {e : Env} {s : State} {m : MethodId} {args : Array Value} {below : List Frame} {meth : Method} {c : Code} (hx : p.tables.exec = Jvm.exec) (hby : c.code = code) (hml : c.maxLocals = maxLocals) (hret : meth.sig.returnType = ret) (hlk : meth.locks = false) (hown : s.vm.findClass "com/example/terms_in_context/termsincontext/index/PostingsPositionsPinLaw" = some m.cls) (hnm : meth.name = "law") (hZ : Z.Warmed39 s.vm) (x0 : Int32) (x1 : Int64) (x2 : Int32) (x3 : Int64) (x4 : Int32) (h0 : Heap) (n0 : Nat) : ∀  (ba : Addr) (pp : Addr) (vi : Addr) (pa : Addr) (dc : Int32) (fr : Int32) (ln : Int32) (of : Int32) (ok : Int32) (g : Nat → Int32) (pn : Nat) (pg : Nat → Int32) (T0 : State) (locs : List Loc) (hS : Heap), Stand p l e room_1 s m args below meth c T0 locs 6 69 → T0.heap = hS → n0 ≤ hS.size → Fr n0 locs → Exa Z hS pp "com/example/terms_in_context/termsincontext/index/Postings" → Fld Z hS pp "com/example/terms_in_context/termsincontext/index/Postings" "document" "I" (.int dc) → Fld Z hS pp "com/example/terms_in_context/termsincontext/index/Postings" "in" "Lcom/example/terms_in_context/termsincontext/index/VarIntInput;" (.ref vi) → Fld Z hS pp "com/example/terms_in_context/termsincontext/index/Postings" "positions" "[I" (.ref pa) → Fld Z hS pp "com/example/terms_in_context/termsincontext/index/Postings" "frequency" "I" (.int fr) → Exa Z hS vi "com/example/terms_in_context/termsincontext/index/VarIntInput" → Fld Z hS vi "com/example/terms_in_context/termsincontext/index/VarIntInput" "bytes" "[B" (.ref ba) → Fld Z hS vi "com/example/terms_in_context/termsincontext/index/VarIntInput" "length" "I" (.int ln) → Fld Z hS vi "com/example/terms_in_context/termsincontext/index/VarIntInput" "offset" "I" (.int of) → AB Z hS ba 22 g → Exa Z hS pa "[I" → AI Z hS pa pn pg → n0 ≤ pp → n0 ≤ vi → n0 ≤ pa → pp ≠ ba → vi ≠ ba → pa ≠ ba → (ok = 1) → (own_ok g (2 + (own_F x0)) (own_F x2) x3) → (ln.toInt = ((4 + (own_F x0) + (own_F x2) : Nat) : Int)) → (of.toInt = ((2 + (own_F x0) : Nat) : Int)) → (pn = 8 ∨ pn = 16) → (∀ i, i < (own_F x0) → pg i = own_p x1 i) → (fr.toInt = (own_F x0)) → ((own_F x0) ≤ pn) → Go p e below s (Q0 Z x0 x1 x2 x3 x4 h0 n0) room_1.cells room_1.slots (T0.setTop (mkF m 100 #[.val (.int x0), .val (.long x1), .second, .val (.int x2), .val (.long x3), .second, .val (.int x4), .val (.int (v0_f1 x0)), .val (.int (v0_f2 x2)), .val (.ref ba), .val (.int ln), .val (.ref pp), .val (.int ok), .unset] [])) := by
  intro ba pp vi pa dc fr ln of ok g pn pg T0 locs hS X0 e0 Z0 N0 P0 P1 P2 P3 P4 P5 P6 P7 P8 P9 P10 P11 P12 P13 P14 P15 P16 P17 hok hB hln ho hpn hSum hfr hfp
  refine g_iload X0 hx 102 (hb hby at_100) rfl rfl ?_
  show Go p e below s _ _ _ (T0.setTop (mkF m 102 #[.val (.int x0), .val (.long x1), .second, .val (.int x2), .val (.long x3), .second, .val (.int x4), .val (.int (v0_f1 x0)), .val (.int (v0_f2 x2)), .val (.ref ba), .val (.int ln), .val (.ref pp), .val (.int ok), .unset] [(.int ok)]))
  refine g_aload X0 hx 104 (hb hby at_102) rfl rfl rfl ?_
  show Go p e below s _ _ _ (T0.setTop (mkF m 104 #[.val (.int x0), .val (.long x1), .second, .val (.int x2), .val (.long x3), .second, .val (.int x4), .val (.int (v0_f1 x0)), .val (.int (v0_f2 x2)), .val (.ref ba), .val (.int ln), .val (.ref pp), .val (.int ok), .unset] [(.ref pp), (.int ok)]))
  refine g_callV X0 hx hZ hown (hw _ (List.mem_of_getElem? (i := 37) rfl)) (hw _ (List.mem_of_getElem? (i := 38) rfl)) (hw _ (List.mem_of_getElem? (i := 40) rfl)) (hw _ (List.mem_of_getElem? (i := 39) rfl)) (hw _ (List.mem_of_getElem? (i := 12) rfl)) (hw _ (List.mem_of_getElem? (i := 41) rfl)) (by decide) e0 pp P0 (rm6 l Z a0 hw [] pp pa fr pn pg (own_F x0) hS n0 Z0 P3 P4 P11 P10 (hfr : fr.toInt = (own_F x0)) (hfp : (own_F x0) ≤ pn) (own_16 hpn : pn ≤ 16)) [] [(.int ok)] 1 rfl (lenOf pd__28_29_5bI rfl) rfl (Nat.le_of_eq rfl) (by decide) (by decide) (by decide) (by decide) (by rw [hml]; rfl) (hb hby at_104) ?_
  intro T17 L17 v17 X17 q17
  obtain ⟨b17_0, rfl, N17, K17, sz17_0, p17_0⟩ := q17
  have NN17 := Fr.app N0 N17
  have N_b17_0 : n0 ≤ b17_0 := Nat.le_trans Z0 sz17_0
  have ne_pp_b17_0 : pp ≠ b17_0 := Nat.ne_of_lt (Nat.lt_of_lt_of_le P0.lt sz17_0)
  have ne_vi_b17_0 : vi ≠ b17_0 := Nat.ne_of_lt (Nat.lt_of_lt_of_le P5.lt sz17_0)
  have ne_ba_b17_0 : ba ≠ b17_0 := Nat.ne_of_lt (Nat.lt_of_lt_of_le P9.lt sz17_0)
  have ne_pa_b17_0 : pa ≠ b17_0 := Nat.ne_of_lt (Nat.lt_of_lt_of_le P10.lt sz17_0)
  have k17_0 := P0.keep K17
  have k17_1 := P1.keep K17 nm0
  have k17_2 := P2.keep K17 nm0
  have k17_3 := P3.keep K17 nm0
  have k17_4 := P4.keep K17 nm0
  have k17_5 := P5.keep K17
  have k17_6 := P6.keep K17 nm0
  have k17_7 := P7.keep K17 nm0
  have k17_8 := P8.keep K17 nm0
  have k17_9 := P9.keep K17 nm0
  have k17_10 := P10.keep K17
  have k17_11 := P11.keep K17 nm0
  have Z17 : n0 ≤ T17.heap.size := Nat.le_trans Z0 K17.1
  show Go p e below s _ _ _ (T17.setTop (mkF m 107 #[.val (.int x0), .val (.long x1), .second, .val (.int x2), .val (.long x3), .second, .val (.int x4), .val (.int (v0_f1 x0)), .val (.int (v0_f2 x2)), .val (.ref ba), .val (.int ln), .val (.ref pp), .val (.int ok), .unset] [(.ref b17_0), (.int ok)]))
  refine g_iload X17 hx 109 (hb hby at_107) rfl rfl ?_
  show Go p e below s _ _ _ (T17.setTop (mkF m 109 #[.val (.int x0), .val (.long x1), .second, .val (.int x2), .val (.long x3), .second, .val (.int x4), .val (.int (v0_f1 x0)), .val (.int (v0_f2 x2)), .val (.ref ba), .val (.int ln), .val (.ref pp), .val (.int ok), .unset] [(.int (v0_f1 x0)), (.ref b17_0), (.int ok)]))
  refine g_lloadN X17 hx 110 (hb hby at_109) rfl rfl ?_
  show Go p e below s _ _ _ (T17.setTop (mkF m 110 #[.val (.int x0), .val (.long x1), .second, .val (.int x2), .val (.long x3), .second, .val (.int x4), .val (.int (v0_f1 x0)), .val (.int (v0_f2 x2)), .val (.ref ba), .val (.int ln), .val (.ref pp), .val (.int ok), .unset] [(.long x1), (.int (v0_f1 x0)), (.ref b17_0), (.int ok)]))
  refine g_callS X17 hx hZ hown (hw _ (List.mem_of_getElem? (i := 56) rfl)) (hw _ (List.mem_of_getElem? (i := 57) rfl)) (hw _ (List.mem_of_getElem? (i := 4) rfl)) (hw _ (List.mem_of_getElem? (i := 58) rfl)) (by decide) rfl (rm9 l Z a0 hw [] b17_0 (v0_f1 x0) x1 pg (own_F x0) T17.heap p17_0 ((own_F9 x0).1 : (v0_f1 x0).toInt = (own_F x0)) (hSum : ∀ i, i < (own_F x0) → pg i = own_p x1 i)) [(.ref b17_0), (.int (v0_f1 x0)), (.long x1)] [(.int ok)] 1 rfl (lenOf pd__28_5bIIJ_29Z rfl) rfl (Nat.le_of_eq rfl) (by decide) (by decide) (by decide) (by decide) (by rw [hml]; rfl) (hb hby at_110) ?_
  intro T18 L18 v18 X18 q18
  obtain ⟨rfl, rfl, e18⟩ := q18
  have NS18 := Fr.app NN17 (Fr.nil n0)
  show Go p e below s _ _ _ (T18.setTop (mkF m 113 #[.val (.int x0), .val (.long x1), .second, .val (.int x2), .val (.long x3), .second, .val (.int x4), .val (.int (v0_f1 x0)), .val (.int (v0_f2 x2)), .val (.ref ba), .val (.int ln), .val (.ref pp), .val (.int ok), .unset] [(.int (1 : Int32)), (.int ok)]))
  refine g_iand X18 hx 114 (hb hby at_113) rfl ?_
  show Go p e below s _ _ _ (T18.setTop (mkF m 114 #[.val (.int x0), .val (.long x1), .second, .val (.int x2), .val (.long x3), .second, .val (.int x4), .val (.int (v0_f1 x0)), .val (.int (v0_f2 x2)), .val (.ref ba), .val (.int ln), .val (.ref pp), .val (.int ok), .unset] [(.int (ok &&& (1 : Int32)))]))
  refine g_istore X18 hx #[.val (.int x0), .val (.long x1), .second, .val (.int x2), .val (.long x3), .second, .val (.int x4), .val (.int (v0_f1 x0)), .val (.int (v0_f2 x2)), .val (.ref ba), .val (.int ln), .val (.ref pp), .val (.int (ok &&& (1 : Int32))), .unset] 116 (hb hby at_114) rfl rfl ?_
  show Go p e below s _ _ _ (T18.setTop (mkF m 116 #[.val (.int x0), .val (.long x1), .second, .val (.int x2), .val (.long x3), .second, .val (.int x4), .val (.int (v0_f1 x0)), .val (.int (v0_f2 x2)), .val (.ref ba), .val (.int ln), .val (.ref pp), .val (.int (ok &&& (1 : Int32))), .unset] []))
  by_cases hq : (own_F x2) ≤ pn
  · exact sg0_116A l Z a0 hw hx hby hml hret hlk hown hnm hZ x0 x1 x2 x3 x4 h0 n0  ba pp vi pa dc fr ln of (ok &&& (1 : Int32)) g pn pg _ _ _ X18 e18 Z17 NS18 k17_0 k17_1 k17_2 k17_3 k17_4 k17_5 k17_6 k17_7 k17_8 k17_9 k17_10 k17_11 P12 P13 P14 P15 P16 P17 (own_and1 hok) hB hln ho hpn hq
  · have h8 : pn = 8 := own_p8 hpn (own_F9 x2).2 hq
    subst h8
    exact sg0_116B l Z a0 hw hx hby hml hret hlk hown hnm hZ x0 x1 x2 x3 x4 h0 n0  ba pp vi pa dc fr ln of (ok &&& (1 : Int32)) g pg _ _ _ X18 e18 Z17 NS18 k17_0 k17_1 k17_2 k17_3 k17_4 k17_5 k17_6 k17_7 k17_8 k17_9 k17_10 k17_11 P12 P13 P14 P15 P16 P17 (own_and1 hok) hB hln ho (by have := (own_F9 x2).2; omega)
set_option maxRecDepth 65536 in
set_option maxHeartbeats 40000000 in
theorem sg0_90A (l : Launch) (Z : State) (a0 : Array Value) (hw : ∀ d ∈ tables_1, d.before a0 Z = true) {p : Program} {e : Env} {s : State} {m : MethodId} {args : Array Value} {below : List Frame} {meth : Method} {c : Code} (hx : p.tables.exec = Jvm.exec) (hby : c.code = code) (hml : c.maxLocals = maxLocals) (hret : meth.sig.returnType = ret) (hlk : meth.locks = false) (hown : s.vm.findClass "com/example/terms_in_context/termsincontext/index/PostingsPositionsPinLaw" = some m.cls) (hnm : meth.name = "law") (hZ : Z.Warmed39 s.vm) (x0 : Int32) (x1 : Int64) (x2 : Int32) (x3 : Int64) (x4 : Int32) (h0 : Heap) (n0 : Nat) : ∀  (ba : Addr) (pp : Addr) (vi : Addr) (pa : Addr) (dc : Int32) (fr : Int32) (ln : Int32) (of : Int32) (ok : Int32) (g : Nat → Int32) (pg : Nat → Int32) (T0 : State) (locs : List Loc) (hS : Heap), Stand p l e room_1 s m args below meth c T0 locs 5 53 → T0.heap = hS → n0 ≤ hS.size → Fr n0 locs → Exa Z hS pp "com/example/terms_in_context/termsincontext/index/Postings" → Fld Z hS pp "com/example/terms_in_context/termsincontext/index/Postings" "document" "I" (.int dc) → Fld Z hS pp "com/example/terms_in_context/termsincontext/index/Postings" "in" "Lcom/example/terms_in_context/termsincontext/index/VarIntInput;" (.ref vi) → Fld Z hS pp "com/example/terms_in_context/termsincontext/index/Postings" "positions" "[I" (.ref pa) → Fld Z hS pp "com/example/terms_in_context/termsincontext/index/Postings" "frequency" "I" (.int fr) → Exa Z hS vi "com/example/terms_in_context/termsincontext/index/VarIntInput" → Fld Z hS vi "com/example/terms_in_context/termsincontext/index/VarIntInput" "bytes" "[B" (.ref ba) → Fld Z hS vi "com/example/terms_in_context/termsincontext/index/VarIntInput" "length" "I" (.int ln) → Fld Z hS vi "com/example/terms_in_context/termsincontext/index/VarIntInput" "offset" "I" (.int of) → AB Z hS ba 22 g → Exa Z hS pa "[I" → AI Z hS pa 8 pg → n0 ≤ pp → n0 ≤ vi → n0 ≤ pa → pp ≠ ba → vi ≠ ba → pa ≠ ba → (ok = 1) → (own_ok g 0 (own_F x0) x1) → (own_ok g (2 + (own_F x0)) (own_F x2) x3) → (ln.toInt = ((4 + (own_F x0) + (own_F x2) : Nat) : Int)) → (of.toInt = ((0 : Nat) : Int)) → ((own_F x0) ≤ 8) → Go p e below s (Q0 Z x0 x1 x2 x3 x4 h0 n0) room_1.cells room_1.slots (T0.setTop (mkF m 90 #[.val (.int x0), .val (.long x1), .second, .val (.int x2), .val (.long x3), .second, .val (.int x4), .val (.int (v0_f1 x0)), .val (.int (v0_f2 x2)), .val (.ref ba), .val (.int ln), .val (.ref pp), .val (.int ok), .unset] [])) := by
  intro ba pp vi pa dc fr ln of ok g pg T0 locs hS X0 e0 Z0 N0 P0 P1 P2 P3 P4 P5 P6 P7 P8 P9 P10 P11 P12 P13 P14 P15 P16 P17 hok hA hB hln ho hfl
  refine g_iload X0 hx 92 (hb hby at_90) rfl rfl ?_
  show Go p e below s _ _ _ (T0.setTop (mkF m 92 #[.val (.int x0), .val (.long x1), .second, .val (.int x2), .val (.long x3), .second, .val (.int x4), .val (.int (v0_f1 x0)), .val (.int (v0_f2 x2)), .val (.ref ba), .val (.int ln), .val (.ref pp), .val (.int ok), .unset] [(.int ok)]))
  refine g_aload X0 hx 94 (hb hby at_92) rfl rfl rfl ?_
  show Go p e below s _ _ _ (T0.setTop (mkF m 94 #[.val (.int x0), .val (.long x1), .second, .val (.int x2), .val (.long x3), .second, .val (.int x4), .val (.int (v0_f1 x0)), .val (.int (v0_f2 x2)), .val (.ref ba), .val (.int ln), .val (.ref pp), .val (.int ok), .unset] [(.ref pp), (.int ok)]))
  refine g_callV X0 hx hZ hown (hw _ (List.mem_of_getElem? (i := 59) rfl)) (hw _ (List.mem_of_getElem? (i := 60) rfl)) (hw _ (List.mem_of_getElem? (i := 62) rfl)) (hw _ (List.mem_of_getElem? (i := 61) rfl)) (hw _ (List.mem_of_getElem? (i := 12) rfl)) (hw _ (List.mem_of_getElem? (i := 63) rfl)) (by decide) e0 pp P0 (rm10 l Z a0 hw [] pp vi ba pa dc fr ln of g 8 pg 0 (own_F x0) hS n0 Z0 P0 P1 P2 P3 P4 P5 P6 P7 P8 P9 P10 P11 P12 P13 P14 P15 P16 P17 (ho : of.toInt = 0) (own_lt2 ho hln (by omega) : of < ln) (hA.2.1 : ¬ g 0 < 0) (hA.2.2.1 : ¬ g (0 + 1) < 0) (hA.2.2.2.1 : (own_rd g 0 (0 + 1) 0 0).toInt = (own_F x0)) (hA.2.2.2.2.1 : ∀ j, j < (own_F x0) → ¬ g (0 + 2 + j) < 0) (hA.1 : 0 + 2 + (own_F x0) ≤ 22) (hfl : (own_F x0) ≤ 8) (by decide : 8 ≤ 16)) [] [(.int ok)] 1 rfl (lenOf pd__28_29Z rfl) rfl (Nat.le_of_eq rfl) (by decide) (by decide) (by decide) (by decide) (by rw [hml]; rfl) (hb hby at_94) ?_
  intro T19 L19 v19 X19 q19
  obtain ⟨rfl, N19, K19, p19_0, p19_1, p19_2, p19_3, p19_4, p19_5, p19_6, p19_7⟩ := q19
  have NN19 := Fr.app N0 N19
  have k19_0 := P0.keep K19
  have k19_5 := P5.keep K19
  have k19_9 := P9.keep K19 (nm1 (Ne.symm P15) (nm1 (Ne.symm P16) (nm1 (Ne.symm P17) nm0)))
  have k19_10 := P10.keep K19
  have Z19 : n0 ≤ T19.heap.size := Nat.le_trans Z0 K19.1
  show Go p e below s _ _ _ (T19.setTop (mkF m 97 #[.val (.int x0), .val (.long x1), .second, .val (.int x2), .val (.long x3), .second, .val (.int x4), .val (.int (v0_f1 x0)), .val (.int (v0_f2 x2)), .val (.ref ba), .val (.int ln), .val (.ref pp), .val (.int ok), .unset] [(.int (1 : Int32)), (.int ok)]))
  refine g_iand X19 hx 98 (hb hby at_97) rfl ?_
  show Go p e below s _ _ _ (T19.setTop (mkF m 98 #[.val (.int x0), .val (.long x1), .second, .val (.int x2), .val (.long x3), .second, .val (.int x4), .val (.int (v0_f1 x0)), .val (.int (v0_f2 x2)), .val (.ref ba), .val (.int ln), .val (.ref pp), .val (.int ok), .unset] [(.int (ok &&& (1 : Int32)))]))
  refine g_istore X19 hx #[.val (.int x0), .val (.long x1), .second, .val (.int x2), .val (.long x3), .second, .val (.int x4), .val (.int (v0_f1 x0)), .val (.int (v0_f2 x2)), .val (.ref ba), .val (.int ln), .val (.ref pp), .val (.int (ok &&& (1 : Int32))), .unset] 100 (hb hby at_98) rfl rfl ?_
  show Go p e below s _ _ _ (T19.setTop (mkF m 100 #[.val (.int x0), .val (.long x1), .second, .val (.int x2), .val (.long x3), .second, .val (.int x4), .val (.int (v0_f1 x0)), .val (.int (v0_f2 x2)), .val (.ref ba), .val (.int ln), .val (.ref pp), .val (.int (ok &&& (1 : Int32))), .unset] []))
  exact sg0_100 l Z a0 hw hx hby hml hret hlk hown hnm hZ x0 x1 x2 x3 x4 h0 n0  ba pp vi pa (dc + (own_rd g 0 0 0 0)) (own_rd g 0 (0 + 1) 0 0) ln (Int32.ofNat (0 + 2 + (own_F x0))) (ok &&& (1 : Int32)) g 8 (own_ps g (0 + 2) pg (own_F x0)) _ _ _ (X19.more (by decide) (by decide)) rfl Z19 NN19 k19_0 p19_0 p19_1 p19_2 p19_3 k19_5 p19_4 p19_5 p19_6 k19_9 k19_10 p19_7 P12 P13 P14 P15 P16 P17 (own_and1 hok) hB hln ((own_toI (by have := (own_F9 x0).2; have := (own_F9 x2).2; omega)).trans (by omega)) (Or.inl rfl) (own_cs _ hA) hA.2.2.2.1 hfl
set_option maxRecDepth 65536 in
set_option maxHeartbeats 40000000 in
theorem sg0_90B (l : Launch) (Z : State) (a0 : Array Value) (hw : ∀ d ∈ tables_1, d.before a0 Z = true) {p : Program} {e : Env} {s : State} {m : MethodId} {args : Array Value} {below : List Frame} {meth : Method} {c : Code} (hx : p.tables.exec = Jvm.exec) (hby : c.code = code) (hml : c.maxLocals = maxLocals) (hret : meth.sig.returnType = ret) (hlk : meth.locks = false) (hown : s.vm.findClass "com/example/terms_in_context/termsincontext/index/PostingsPositionsPinLaw" = some m.cls) (hnm : meth.name = "law") (hZ : Z.Warmed39 s.vm) (x0 : Int32) (x1 : Int64) (x2 : Int32) (x3 : Int64) (x4 : Int32) (h0 : Heap) (n0 : Nat) : ∀  (ba : Addr) (pp : Addr) (vi : Addr) (pa : Addr) (dc : Int32) (fr : Int32) (ln : Int32) (of : Int32) (ok : Int32) (g : Nat → Int32) (pg : Nat → Int32) (T0 : State) (locs : List Loc) (hS : Heap), Stand p l e room_1 s m args below meth c T0 locs 5 53 → T0.heap = hS → n0 ≤ hS.size → Fr n0 locs → Exa Z hS pp "com/example/terms_in_context/termsincontext/index/Postings" → Fld Z hS pp "com/example/terms_in_context/termsincontext/index/Postings" "document" "I" (.int dc) → Fld Z hS pp "com/example/terms_in_context/termsincontext/index/Postings" "in" "Lcom/example/terms_in_context/termsincontext/index/VarIntInput;" (.ref vi) → Fld Z hS pp "com/example/terms_in_context/termsincontext/index/Postings" "positions" "[I" (.ref pa) → Fld Z hS pp "com/example/terms_in_context/termsincontext/index/Postings" "frequency" "I" (.int fr) → Exa Z hS vi "com/example/terms_in_context/termsincontext/index/VarIntInput" → Fld Z hS vi "com/example/terms_in_context/termsincontext/index/VarIntInput" "bytes" "[B" (.ref ba) → Fld Z hS vi "com/example/terms_in_context/termsincontext/index/VarIntInput" "length" "I" (.int ln) → Fld Z hS vi "com/example/terms_in_context/termsincontext/index/VarIntInput" "offset" "I" (.int of) → AB Z hS ba 22 g → Exa Z hS pa "[I" → AI Z hS pa 8 pg → n0 ≤ pp → n0 ≤ vi → n0 ≤ pa → pp ≠ ba → vi ≠ ba → pa ≠ ba → (ok = 1) → (own_ok g 0 (own_F x0) x1) → (own_ok g (2 + (own_F x0)) (own_F x2) x3) → (ln.toInt = ((4 + (own_F x0) + (own_F x2) : Nat) : Int)) → (of.toInt = ((0 : Nat) : Int)) → ((own_F x0) = 9) → Go p e below s (Q0 Z x0 x1 x2 x3 x4 h0 n0) room_1.cells room_1.slots (T0.setTop (mkF m 90 #[.val (.int x0), .val (.long x1), .second, .val (.int x2), .val (.long x3), .second, .val (.int x4), .val (.int (v0_f1 x0)), .val (.int (v0_f2 x2)), .val (.ref ba), .val (.int ln), .val (.ref pp), .val (.int ok), .unset] [])) := by
  intro ba pp vi pa dc fr ln of ok g pg T0 locs hS X0 e0 Z0 N0 P0 P1 P2 P3 P4 P5 P6 P7 P8 P9 P10 P11 P12 P13 P14 P15 P16 P17 hok hA hB hln ho h9
  refine g_iload X0 hx 92 (hb hby at_90) rfl rfl ?_
  show Go p e below s _ _ _ (T0.setTop (mkF m 92 #[.val (.int x0), .val (.long x1), .second, .val (.int x2), .val (.long x3), .second, .val (.int x4), .val (.int (v0_f1 x0)), .val (.int (v0_f2 x2)), .val (.ref ba), .val (.int ln), .val (.ref pp), .val (.int ok), .unset] [(.int ok)]))
  refine g_aload X0 hx 94 (hb hby at_92) rfl rfl rfl ?_
  show Go p e below s _ _ _ (T0.setTop (mkF m 94 #[.val (.int x0), .val (.long x1), .second, .val (.int x2), .val (.long x3), .second, .val (.int x4), .val (.int (v0_f1 x0)), .val (.int (v0_f2 x2)), .val (.ref ba), .val (.int ln), .val (.ref pp), .val (.int ok), .unset] [(.ref pp), (.int ok)]))
  refine g_callV X0 hx hZ hown (hw _ (List.mem_of_getElem? (i := 59) rfl)) (hw _ (List.mem_of_getElem? (i := 60) rfl)) (hw _ (List.mem_of_getElem? (i := 62) rfl)) (hw _ (List.mem_of_getElem? (i := 61) rfl)) (hw _ (List.mem_of_getElem? (i := 12) rfl)) (hw _ (List.mem_of_getElem? (i := 63) rfl)) (by decide) e0 pp P0 (rm110 l Z a0 hw [] pp vi ba pa dc fr ln of g pg 0 (own_F x0) hS n0 Z0 P0 P1 P2 P3 P4 P5 P6 P7 P8 P9 P10 P11 P12 P13 P14 P15 P16 P17 (ho : of.toInt = 0) (own_lt2 ho hln (by omega) : of < ln) (hA.2.1 : ¬ g 0 < 0) (hA.2.2.1 : ¬ g (0 + 1) < 0) (hA.2.2.2.1 : (own_rd g 0 (0 + 1) 0 0).toInt = (own_F x0)) (hA.2.2.2.2.1 : ∀ j, j < (own_F x0) → ¬ g (0 + 2 + j) < 0) (hA.1 : 0 + 2 + (own_F x0) ≤ 22) (h9 : (own_F x0) = 9)) [] [(.int ok)] 1 rfl (lenOf pd__28_29Z rfl) rfl (Nat.le_of_eq rfl) (by decide) (by decide) (by decide) (by decide) (by rw [hml]; rfl) (hb hby at_94) ?_
  intro T20 L20 v20 X20 q20
  obtain ⟨rfl, N20, K20, b20_0, sz20_0, p20_0, p20_1, p20_2, p20_3, p20_4, p20_5, p20_6, p20_7, p20_8⟩ := q20
  have NN20 := Fr.app N0 N20
  have N_b20_0 : n0 ≤ b20_0 := Nat.le_trans Z0 sz20_0
  have ne_pp_b20_0 : pp ≠ b20_0 := Nat.ne_of_lt (Nat.lt_of_lt_of_le P0.lt sz20_0)
  have ne_vi_b20_0 : vi ≠ b20_0 := Nat.ne_of_lt (Nat.lt_of_lt_of_le P5.lt sz20_0)
  have ne_ba_b20_0 : ba ≠ b20_0 := Nat.ne_of_lt (Nat.lt_of_lt_of_le P9.lt sz20_0)
  have ne_pa_b20_0 : pa ≠ b20_0 := Nat.ne_of_lt (Nat.lt_of_lt_of_le P10.lt sz20_0)
  have k20_0 := P0.keep K20
  have k20_5 := P5.keep K20
  have k20_9 := P9.keep K20 (nm1 (Ne.symm P15) (nm1 (Ne.symm P16) nm0))
  have k20_10 := P10.keep K20
  have k20_11 := P11.keep K20 (nm1 (ne_exa P10 P0 (by decide)) (nm1 (ne_exa P10 P5 (by decide)) nm0))
  have Z20 : n0 ≤ T20.heap.size := Nat.le_trans Z0 K20.1
  show Go p e below s _ _ _ (T20.setTop (mkF m 97 #[.val (.int x0), .val (.long x1), .second, .val (.int x2), .val (.long x3), .second, .val (.int x4), .val (.int (v0_f1 x0)), .val (.int (v0_f2 x2)), .val (.ref ba), .val (.int ln), .val (.ref pp), .val (.int ok), .unset] [(.int (1 : Int32)), (.int ok)]))
  refine g_iand X20 hx 98 (hb hby at_97) rfl ?_
  show Go p e below s _ _ _ (T20.setTop (mkF m 98 #[.val (.int x0), .val (.long x1), .second, .val (.int x2), .val (.long x3), .second, .val (.int x4), .val (.int (v0_f1 x0)), .val (.int (v0_f2 x2)), .val (.ref ba), .val (.int ln), .val (.ref pp), .val (.int ok), .unset] [(.int (ok &&& (1 : Int32)))]))
  refine g_istore X20 hx #[.val (.int x0), .val (.long x1), .second, .val (.int x2), .val (.long x3), .second, .val (.int x4), .val (.int (v0_f1 x0)), .val (.int (v0_f2 x2)), .val (.ref ba), .val (.int ln), .val (.ref pp), .val (.int (ok &&& (1 : Int32))), .unset] 100 (hb hby at_98) rfl rfl ?_
  show Go p e below s _ _ _ (T20.setTop (mkF m 100 #[.val (.int x0), .val (.long x1), .second, .val (.int x2), .val (.long x3), .second, .val (.int x4), .val (.int (v0_f1 x0)), .val (.int (v0_f2 x2)), .val (.ref ba), .val (.int ln), .val (.ref pp), .val (.int (ok &&& (1 : Int32))), .unset] []))
  exact sg0_100 l Z a0 hw hx hby hml hret hlk hown hnm hZ x0 x1 x2 x3 x4 h0 n0  ba pp vi b20_0 (dc + (own_rd g 0 0 0 0)) (own_rd g 0 (0 + 1) 0 0) ln (Int32.ofNat (0 + 2 + (own_F x0))) (ok &&& (1 : Int32)) g 16 (own_ps g (0 + 2) (fun _ => (0 : Int32)) (own_F x0)) _ _ _ X20 rfl Z20 NN20 k20_0 p20_0 p20_1 p20_2 p20_3 k20_5 p20_4 p20_5 p20_6 k20_9 p20_7 p20_8 P12 P13 N_b20_0 P15 P16 (Ne.symm ne_ba_b20_0) (own_and1 hok) hB hln ((own_toI (by have := (own_F9 x0).2; have := (own_F9 x2).2; omega)).trans (by omega)) (Or.inr rfl) (own_cs _ hA) hA.2.2.2.1 (by omega)
theorem pd__28_5bBIIIJ_29I : parseMethodDescriptor "([BIIIJ)I" = some ⟨[(.array .byte), .int, .int, .int, .long], some .int⟩ := by decide +kernel
theorem ef_0 (m : MethodId) (x0 : Int32) (x1 : Int64) (x2 : Int32) (x3 : Int64) (x4 : Int32) : entryFrame m #[(.int x0), (.long x1), (.int x2), (.long x3), (.int x4)] maxLocals = mkF m 0 #[.val (.int x0), .val (.long x1), .second, .val (.int x2), .val (.long x3), .second, .val (.int x4), .unset, .unset, .unset, .unset, .unset, .unset, .unset] [] := by first | (simp [entryFrame, mkF, argsToLocals, Value.category, maxLocals]; done) | rfl
set_option maxRecDepth 65536 in
set_option maxHeartbeats 40000000 in
theorem rm0 (l : Launch) (Z : State) (a0 : Array Value) (hw : ∀ d ∈ tables_1, d.before a0 Z = true) (ws : List Jvm.Cond) (x0 : Int32) (x1 : Int64) (x2 : Int32) (x3 : Int64) (x4 : Int32) (h0 : Heap) (n0 : Nat) (Z0 : n0 ≤ h0.size) :
    MetFree l x (head1 (Jvm.Cond.code x code maxLocals ret :: ws) room_1) (fun a U => a = #[(.int x0), (.long x1), (.int x2), (.long x3), (.int x4)] ∧ Z.Warmed39 U.vm ∧ U.heap = h0) (fun _ _ _ _ _ => True) (fun _ U o U' => ∃ v L, o = .returned v ∧ Q0 Z x0 x1 x2 x3 x4 h0 n0 v U'.heap L ∧ FrameEnd U o U' L room_1.cells room_1.slots) := by
  refine g_body (plainFor_of_name pn_2) ?_
  intro p e s m below meth c T0 X0 hx hby hml hret hlk hown hnm hZ e0
  rw [ef_0]
  have N0 := Fr.nil n0
  show Go p e below s _ _ _ (T0.setTop (mkF m 0 #[.val (.int x0), .val (.long x1), .second, .val (.int x2), .val (.long x3), .second, .val (.int x4), .unset, .unset, .unset, .unset, .unset, .unset, .unset] []))
  refine g_iloadN X0 hx 1 (hb hby at_0) rfl rfl ?_
  show Go p e below s _ _ _ (T0.setTop (mkF m 1 #[.val (.int x0), .val (.long x1), .second, .val (.int x2), .val (.long x3), .second, .val (.int x4), .unset, .unset, .unset, .unset, .unset, .unset, .unset] [(.int x0)]))
  refine g_ldc X0 hx hZ hown (hw _ (List.mem_of_getElem? (i := 0) rfl)) 3 (hb hby at_1) rfl ?_
  show Go p e below s _ _ _ (T0.setTop (mkF m 3 #[.val (.int x0), .val (.long x1), .second, .val (.int x2), .val (.long x3), .second, .val (.int x4), .unset, .unset, .unset, .unset, .unset, .unset, .unset] [(.int (2147483647 : Int32)), (.int x0)]))
  refine g_iand X0 hx 4 (hb hby at_3) rfl ?_
  show Go p e below s _ _ _ (T0.setTop (mkF m 4 #[.val (.int x0), .val (.long x1), .second, .val (.int x2), .val (.long x3), .second, .val (.int x4), .unset, .unset, .unset, .unset, .unset, .unset, .unset] [(.int (x0 &&& (2147483647 : Int32)))]))
  refine g_bipush X0 hx (10 : Int32) 6 (hb hby at_4) rfl rfl ?_
  show Go p e below s _ _ _ (T0.setTop (mkF m 6 #[.val (.int x0), .val (.long x1), .second, .val (.int x2), .val (.long x3), .second, .val (.int x4), .unset, .unset, .unset, .unset, .unset, .unset, .unset] [(.int (10 : Int32)), (.int (x0 &&& (2147483647 : Int32)))]))
  refine g_irem X0 hx 7 (hb hby at_6) (by decide) rfl ?_
  show Go p e below s _ _ _ (T0.setTop (mkF m 7 #[.val (.int x0), .val (.long x1), .second, .val (.int x2), .val (.long x3), .second, .val (.int x4), .unset, .unset, .unset, .unset, .unset, .unset, .unset] [(.int ((x0 &&& (2147483647 : Int32)) % (10 : Int32)))]))
  refine g_istore X0 hx #[.val (.int x0), .val (.long x1), .second, .val (.int x2), .val (.long x3), .second, .val (.int x4), .val (.int (v0_f1 x0)), .unset, .unset, .unset, .unset, .unset, .unset] 9 (hb hby at_7) rfl rfl ?_
  show Go p e below s _ _ _ (T0.setTop (mkF m 9 #[.val (.int x0), .val (.long x1), .second, .val (.int x2), .val (.long x3), .second, .val (.int x4), .val (.int (v0_f1 x0)), .unset, .unset, .unset, .unset, .unset, .unset] []))
  refine g_iloadN X0 hx 10 (hb hby at_9) rfl rfl ?_
  show Go p e below s _ _ _ (T0.setTop (mkF m 10 #[.val (.int x0), .val (.long x1), .second, .val (.int x2), .val (.long x3), .second, .val (.int x4), .val (.int (v0_f1 x0)), .unset, .unset, .unset, .unset, .unset, .unset] [(.int x2)]))
  refine g_ldc X0 hx hZ hown (hw _ (List.mem_of_getElem? (i := 0) rfl)) 12 (hb hby at_10) rfl ?_
  show Go p e below s _ _ _ (T0.setTop (mkF m 12 #[.val (.int x0), .val (.long x1), .second, .val (.int x2), .val (.long x3), .second, .val (.int x4), .val (.int (v0_f1 x0)), .unset, .unset, .unset, .unset, .unset, .unset] [(.int (2147483647 : Int32)), (.int x2)]))
  refine g_iand X0 hx 13 (hb hby at_12) rfl ?_
  show Go p e below s _ _ _ (T0.setTop (mkF m 13 #[.val (.int x0), .val (.long x1), .second, .val (.int x2), .val (.long x3), .second, .val (.int x4), .val (.int (v0_f1 x0)), .unset, .unset, .unset, .unset, .unset, .unset] [(.int (x2 &&& (2147483647 : Int32)))]))
  refine g_bipush X0 hx (10 : Int32) 15 (hb hby at_13) rfl rfl ?_
  show Go p e below s _ _ _ (T0.setTop (mkF m 15 #[.val (.int x0), .val (.long x1), .second, .val (.int x2), .val (.long x3), .second, .val (.int x4), .val (.int (v0_f1 x0)), .unset, .unset, .unset, .unset, .unset, .unset] [(.int (10 : Int32)), (.int (x2 &&& (2147483647 : Int32)))]))
  refine g_irem X0 hx 16 (hb hby at_15) (by decide) rfl ?_
  show Go p e below s _ _ _ (T0.setTop (mkF m 16 #[.val (.int x0), .val (.long x1), .second, .val (.int x2), .val (.long x3), .second, .val (.int x4), .val (.int (v0_f1 x0)), .unset, .unset, .unset, .unset, .unset, .unset] [(.int ((x2 &&& (2147483647 : Int32)) % (10 : Int32)))]))
  refine g_istore X0 hx #[.val (.int x0), .val (.long x1), .second, .val (.int x2), .val (.long x3), .second, .val (.int x4), .val (.int (v0_f1 x0)), .val (.int (v0_f2 x2)), .unset, .unset, .unset, .unset, .unset] 18 (hb hby at_16) rfl rfl ?_
  show Go p e below s _ _ _ (T0.setTop (mkF m 18 #[.val (.int x0), .val (.long x1), .second, .val (.int x2), .val (.long x3), .second, .val (.int x4), .val (.int (v0_f1 x0)), .val (.int (v0_f2 x2)), .unset, .unset, .unset, .unset, .unset] []))
  refine g_bipush X0 hx (22 : Int32) 20 (hb hby at_18) rfl rfl ?_
  show Go p e below s _ _ _ (T0.setTop (mkF m 20 #[.val (.int x0), .val (.long x1), .second, .val (.int x2), .val (.long x3), .second, .val (.int x4), .val (.int (v0_f1 x0)), .val (.int (v0_f2 x2)), .unset, .unset, .unset, .unset, .unset] [(.int (22 : Int32))]))
  refine g_newarrayB X0 hx hZ (hw _ (List.mem_of_getElem? (i := 1) rfl)) e0 22 22 rfl (by decide) (by decide) 22 (hb hby at_20) (by decide) (by decide) rfl ?_
  intro T21 h21 b21 g21 X21 e21 E21 A21
  have N_b21 : n0 ≤ b21 := Nat.le_trans Z0 (Nat.le_of_eq g21.symm)
  have Z21 : n0 ≤ h21.size := Nat.le_trans Z0 E21.1
  show Go p e below s _ _ _ (T21.setTop (mkF m 22 #[.val (.int x0), .val (.long x1), .second, .val (.int x2), .val (.long x3), .second, .val (.int x4), .val (.int (v0_f1 x0)), .val (.int (v0_f2 x2)), .unset, .unset, .unset, .unset, .unset] [(.ref b21)]))
  refine g_astore X21 hx #[.val (.int x0), .val (.long x1), .second, .val (.int x2), .val (.long x3), .second, .val (.int x4), .val (.int (v0_f1 x0)), .val (.int (v0_f2 x2)), .val (.ref b21), .unset, .unset, .unset, .unset] 24 (hb hby at_22) rfl rfl rfl ?_
  show Go p e below s _ _ _ (T21.setTop (mkF m 24 #[.val (.int x0), .val (.long x1), .second, .val (.int x2), .val (.long x3), .second, .val (.int x4), .val (.int (v0_f1 x0)), .val (.int (v0_f2 x2)), .val (.ref b21), .unset, .unset, .unset, .unset] []))
  refine g_aload X21 hx 26 (hb hby at_24) rfl rfl rfl ?_
  show Go p e below s _ _ _ (T21.setTop (mkF m 26 #[.val (.int x0), .val (.long x1), .second, .val (.int x2), .val (.long x3), .second, .val (.int x4), .val (.int (v0_f1 x0)), .val (.int (v0_f2 x2)), .val (.ref b21), .unset, .unset, .unset, .unset] [(.ref b21)]))
  refine g_iconst X21 hx (0 : Int32) 27 (hb hby at_26) rfl rfl ?_
  show Go p e below s _ _ _ (T21.setTop (mkF m 27 #[.val (.int x0), .val (.long x1), .second, .val (.int x2), .val (.long x3), .second, .val (.int x4), .val (.int (v0_f1 x0)), .val (.int (v0_f2 x2)), .val (.ref b21), .unset, .unset, .unset, .unset] [(.int (0 : Int32)), (.ref b21)]))
  refine g_iload X21 hx 29 (hb hby at_27) rfl rfl ?_
  show Go p e below s _ _ _ (T21.setTop (mkF m 29 #[.val (.int x0), .val (.long x1), .second, .val (.int x2), .val (.long x3), .second, .val (.int x4), .val (.int (v0_f1 x0)), .val (.int (v0_f2 x2)), .val (.ref b21), .unset, .unset, .unset, .unset] [(.int x4), (.int (0 : Int32)), (.ref b21)]))
  refine g_bipush X21 hx (63 : Int32) 31 (hb hby at_29) rfl rfl ?_
  show Go p e below s _ _ _ (T21.setTop (mkF m 31 #[.val (.int x0), .val (.long x1), .second, .val (.int x2), .val (.long x3), .second, .val (.int x4), .val (.int (v0_f1 x0)), .val (.int (v0_f2 x2)), .val (.ref b21), .unset, .unset, .unset, .unset] [(.int (63 : Int32)), (.int x4), (.int (0 : Int32)), (.ref b21)]))
  refine g_iand X21 hx 32 (hb hby at_31) rfl ?_
  show Go p e below s _ _ _ (T21.setTop (mkF m 32 #[.val (.int x0), .val (.long x1), .second, .val (.int x2), .val (.long x3), .second, .val (.int x4), .val (.int (v0_f1 x0)), .val (.int (v0_f2 x2)), .val (.ref b21), .unset, .unset, .unset, .unset] [(.int (x4 &&& (63 : Int32))), (.int (0 : Int32)), (.ref b21)]))
  refine g_iconst X21 hx (1 : Int32) 33 (hb hby at_32) rfl rfl ?_
  show Go p e below s _ _ _ (T21.setTop (mkF m 33 #[.val (.int x0), .val (.long x1), .second, .val (.int x2), .val (.long x3), .second, .val (.int x4), .val (.int (v0_f1 x0)), .val (.int (v0_f2 x2)), .val (.ref b21), .unset, .unset, .unset, .unset] [(.int (1 : Int32)), (.int (x4 &&& (63 : Int32))), (.int (0 : Int32)), (.ref b21)]))
  refine g_iadd X21 hx 34 (hb hby at_33) rfl ?_
  show Go p e below s _ _ _ (T21.setTop (mkF m 34 #[.val (.int x0), .val (.long x1), .second, .val (.int x2), .val (.long x3), .second, .val (.int x4), .val (.int (v0_f1 x0)), .val (.int (v0_f2 x2)), .val (.ref b21), .unset, .unset, .unset, .unset] [(.int ((x4 &&& (63 : Int32)) + (1 : Int32))), (.int (0 : Int32)), (.ref b21)]))
  refine g_iload X21 hx 36 (hb hby at_34) rfl rfl ?_
  show Go p e below s _ _ _ (T21.setTop (mkF m 36 #[.val (.int x0), .val (.long x1), .second, .val (.int x2), .val (.long x3), .second, .val (.int x4), .val (.int (v0_f1 x0)), .val (.int (v0_f2 x2)), .val (.ref b21), .unset, .unset, .unset, .unset] [(.int (v0_f1 x0)), (.int ((x4 &&& (63 : Int32)) + (1 : Int32))), (.int (0 : Int32)), (.ref b21)]))
  refine g_lloadN X21 hx 37 (hb hby at_36) rfl rfl ?_
  show Go p e below s _ _ _ (T21.setTop (mkF m 37 #[.val (.int x0), .val (.long x1), .second, .val (.int x2), .val (.long x3), .second, .val (.int x4), .val (.int (v0_f1 x0)), .val (.int (v0_f2 x2)), .val (.ref b21), .unset, .unset, .unset, .unset] [(.long x1), (.int (v0_f1 x0)), (.int ((x4 &&& (63 : Int32)) + (1 : Int32))), (.int (0 : Int32)), (.ref b21)]))
  refine g_callS X21 hx hZ hown (hw _ (List.mem_of_getElem? (i := 2) rfl)) (hw _ (List.mem_of_getElem? (i := 3) rfl)) (hw _ (List.mem_of_getElem? (i := 4) rfl)) (hw _ (List.mem_of_getElem? (i := 5) rfl)) (by decide) e21 (rm1 l Z a0 hw [] b21 (0 : Int32) ((x4 &&& (63 : Int32)) + (1 : Int32)) (v0_f1 x0) x1 (fun _ => (0 : Int32)) 0 (own_F x0) h21 n0 Z21 A21 N_b21 (rfl : (0 : Int32).toInt = 0) ((own_F9 x0).1 : (v0_f1 x0).toInt = (own_F x0)) ((own_F9 x0).2 : (own_F x0) ≤ 9) (by have := (own_F9 x0).2; omega : 0 + 2 + (own_F x0) ≤ 22) (by decide : 0 ≤ 11)) [(.ref b21), (.int (0 : Int32)), (.int ((x4 &&& (63 : Int32)) + (1 : Int32))), (.int (v0_f1 x0)), (.long x1)] [] 0 rfl (lenOf pd__28_5bBIIIJ_29I rfl) rfl (Nat.le_of_eq rfl) (by decide) (by decide) (by decide) (by decide) (by rw [hml]; rfl) (hb hby at_37) ?_
  intro T22 L22 v22 X22 q22
  obtain ⟨rfl, N22, K22, p22_0⟩ := q22
  have NN22 := Fr.app N0 N22
  have Z22 : n0 ≤ T22.heap.size := Nat.le_trans Z21 K22.1
  show Go p e below s _ _ _ (T22.setTop (mkF m 40 #[.val (.int x0), .val (.long x1), .second, .val (.int x2), .val (.long x3), .second, .val (.int x4), .val (.int (v0_f1 x0)), .val (.int (v0_f2 x2)), .val (.ref b21), .unset, .unset, .unset, .unset] [(.int (Int32.ofNat (0 + 2 + (own_F x0))))]))
  refine g_istore X22 hx #[.val (.int x0), .val (.long x1), .second, .val (.int x2), .val (.long x3), .second, .val (.int x4), .val (.int (v0_f1 x0)), .val (.int (v0_f2 x2)), .val (.ref b21), .val (.int (Int32.ofNat (0 + 2 + (own_F x0)))), .unset, .unset, .unset] 42 (hb hby at_40) rfl rfl ?_
  show Go p e below s _ _ _ (T22.setTop (mkF m 42 #[.val (.int x0), .val (.long x1), .second, .val (.int x2), .val (.long x3), .second, .val (.int x4), .val (.int (v0_f1 x0)), .val (.int (v0_f2 x2)), .val (.ref b21), .val (.int (Int32.ofNat (0 + 2 + (own_F x0)))), .unset, .unset, .unset] []))
  refine g_aload X22 hx 44 (hb hby at_42) rfl rfl rfl ?_
  show Go p e below s _ _ _ (T22.setTop (mkF m 44 #[.val (.int x0), .val (.long x1), .second, .val (.int x2), .val (.long x3), .second, .val (.int x4), .val (.int (v0_f1 x0)), .val (.int (v0_f2 x2)), .val (.ref b21), .val (.int (Int32.ofNat (0 + 2 + (own_F x0)))), .unset, .unset, .unset] [(.ref b21)]))
  refine g_iload X22 hx 46 (hb hby at_44) rfl rfl ?_
  show Go p e below s _ _ _ (T22.setTop (mkF m 46 #[.val (.int x0), .val (.long x1), .second, .val (.int x2), .val (.long x3), .second, .val (.int x4), .val (.int (v0_f1 x0)), .val (.int (v0_f2 x2)), .val (.ref b21), .val (.int (Int32.ofNat (0 + 2 + (own_F x0)))), .unset, .unset, .unset] [(.int (Int32.ofNat (0 + 2 + (own_F x0)))), (.ref b21)]))
  refine g_iload X22 hx 48 (hb hby at_46) rfl rfl ?_
  show Go p e below s _ _ _ (T22.setTop (mkF m 48 #[.val (.int x0), .val (.long x1), .second, .val (.int x2), .val (.long x3), .second, .val (.int x4), .val (.int (v0_f1 x0)), .val (.int (v0_f2 x2)), .val (.ref b21), .val (.int (Int32.ofNat (0 + 2 + (own_F x0)))), .unset, .unset, .unset] [(.int x4), (.int (Int32.ofNat (0 + 2 + (own_F x0)))), (.ref b21)]))
  refine g_bipush X22 hx (6 : Int32) 50 (hb hby at_48) rfl rfl ?_
  show Go p e below s _ _ _ (T22.setTop (mkF m 50 #[.val (.int x0), .val (.long x1), .second, .val (.int x2), .val (.long x3), .second, .val (.int x4), .val (.int (v0_f1 x0)), .val (.int (v0_f2 x2)), .val (.ref b21), .val (.int (Int32.ofNat (0 + 2 + (own_F x0)))), .unset, .unset, .unset] [(.int (6 : Int32)), (.int x4), (.int (Int32.ofNat (0 + 2 + (own_F x0)))), (.ref b21)]))
  refine g_iushr X22 hx 51 (hb hby at_50) rfl ?_
  show Go p e below s _ _ _ (T22.setTop (mkF m 51 #[.val (.int x0), .val (.long x1), .second, .val (.int x2), .val (.long x3), .second, .val (.int x4), .val (.int (v0_f1 x0)), .val (.int (v0_f2 x2)), .val (.ref b21), .val (.int (Int32.ofNat (0 + 2 + (own_F x0)))), .unset, .unset, .unset] [(.int (ushrI x4 (6 : Int32))), (.int (Int32.ofNat (0 + 2 + (own_F x0)))), (.ref b21)]))
  refine g_bipush X22 hx (63 : Int32) 53 (hb hby at_51) rfl rfl ?_
  show Go p e below s _ _ _ (T22.setTop (mkF m 53 #[.val (.int x0), .val (.long x1), .second, .val (.int x2), .val (.long x3), .second, .val (.int x4), .val (.int (v0_f1 x0)), .val (.int (v0_f2 x2)), .val (.ref b21), .val (.int (Int32.ofNat (0 + 2 + (own_F x0)))), .unset, .unset, .unset] [(.int (63 : Int32)), (.int (ushrI x4 (6 : Int32))), (.int (Int32.ofNat (0 + 2 + (own_F x0)))), (.ref b21)]))
  refine g_iand X22 hx 54 (hb hby at_53) rfl ?_
  show Go p e below s _ _ _ (T22.setTop (mkF m 54 #[.val (.int x0), .val (.long x1), .second, .val (.int x2), .val (.long x3), .second, .val (.int x4), .val (.int (v0_f1 x0)), .val (.int (v0_f2 x2)), .val (.ref b21), .val (.int (Int32.ofNat (0 + 2 + (own_F x0)))), .unset, .unset, .unset] [(.int ((ushrI x4 (6 : Int32)) &&& (63 : Int32))), (.int (Int32.ofNat (0 + 2 + (own_F x0)))), (.ref b21)]))
  refine g_iconst X22 hx (1 : Int32) 55 (hb hby at_54) rfl rfl ?_
  show Go p e below s _ _ _ (T22.setTop (mkF m 55 #[.val (.int x0), .val (.long x1), .second, .val (.int x2), .val (.long x3), .second, .val (.int x4), .val (.int (v0_f1 x0)), .val (.int (v0_f2 x2)), .val (.ref b21), .val (.int (Int32.ofNat (0 + 2 + (own_F x0)))), .unset, .unset, .unset] [(.int (1 : Int32)), (.int ((ushrI x4 (6 : Int32)) &&& (63 : Int32))), (.int (Int32.ofNat (0 + 2 + (own_F x0)))), (.ref b21)]))
  refine g_iadd X22 hx 56 (hb hby at_55) rfl ?_
  show Go p e below s _ _ _ (T22.setTop (mkF m 56 #[.val (.int x0), .val (.long x1), .second, .val (.int x2), .val (.long x3), .second, .val (.int x4), .val (.int (v0_f1 x0)), .val (.int (v0_f2 x2)), .val (.ref b21), .val (.int (Int32.ofNat (0 + 2 + (own_F x0)))), .unset, .unset, .unset] [(.int (((ushrI x4 (6 : Int32)) &&& (63 : Int32)) + (1 : Int32))), (.int (Int32.ofNat (0 + 2 + (own_F x0)))), (.ref b21)]))
  refine g_iload X22 hx 58 (hb hby at_56) rfl rfl ?_
  show Go p e below s _ _ _ (T22.setTop (mkF m 58 #[.val (.int x0), .val (.long x1), .second, .val (.int x2), .val (.long x3), .second, .val (.int x4), .val (.int (v0_f1 x0)), .val (.int (v0_f2 x2)), .val (.ref b21), .val (.int (Int32.ofNat (0 + 2 + (own_F x0)))), .unset, .unset, .unset] [(.int (v0_f2 x2)), (.int (((ushrI x4 (6 : Int32)) &&& (63 : Int32)) + (1 : Int32))), (.int (Int32.ofNat (0 + 2 + (own_F x0)))), (.ref b21)]))
  refine g_lload X22 hx 60 (hb hby at_58) rfl rfl ?_
  show Go p e below s _ _ _ (T22.setTop (mkF m 60 #[.val (.int x0), .val (.long x1), .second, .val (.int x2), .val (.long x3), .second, .val (.int x4), .val (.int (v0_f1 x0)), .val (.int (v0_f2 x2)), .val (.ref b21), .val (.int (Int32.ofNat (0 + 2 + (own_F x0)))), .unset, .unset, .unset] [(.long x3), (.int (v0_f2 x2)), (.int (((ushrI x4 (6 : Int32)) &&& (63 : Int32)) + (1 : Int32))), (.int (Int32.ofNat (0 + 2 + (own_F x0)))), (.ref b21)]))
  refine g_callS X22 hx hZ hown (hw _ (List.mem_of_getElem? (i := 2) rfl)) (hw _ (List.mem_of_getElem? (i := 3) rfl)) (hw _ (List.mem_of_getElem? (i := 4) rfl)) (hw _ (List.mem_of_getElem? (i := 5) rfl)) (by decide) rfl (rm1 l Z a0 hw [] b21 (Int32.ofNat (0 + 2 + (own_F x0))) (((ushrI x4 (6 : Int32)) &&& (63 : Int32)) + (1 : Int32)) (v0_f2 x2) x3 (own_wf (fun _ => (0 : Int32)) 0 (i2bI (i2bI ((x4 &&& (63 : Int32)) + (1 : Int32)))) (i2bI (i2bI (v0_f1 x0))) x1 (own_F x0)) (0 + 2 + (own_F x0) : Nat) (own_F x2) T22.heap n0 Z22 p22_0 N_b21 (own_toI (by have := (own_F9 x0).2; omega) : (Int32.ofNat (0 + 2 + (own_F x0))).toInt = (0 + 2 + (own_F x0) : Nat)) ((own_F9 x2).1 : (v0_f2 x2).toInt = (own_F x2)) ((own_F9 x2).2 : (own_F x2) ≤ 9) (by have := (own_F9 x0).2; have := (own_F9 x2).2; omega : (0 + 2 + (own_F x0) : Nat) + 2 + (own_F x2) ≤ 22) (by have := (own_F9 x0).2; omega : (0 + 2 + (own_F x0) : Nat) ≤ 11)) [(.ref b21), (.int (Int32.ofNat (0 + 2 + (own_F x0)))), (.int (((ushrI x4 (6 : Int32)) &&& (63 : Int32)) + (1 : Int32))), (.int (v0_f2 x2)), (.long x3)] [] 0 rfl (lenOf pd__28_5bBIIIJ_29I rfl) rfl (Nat.le_of_eq rfl) (by decide) (by decide) (by decide) (by decide) (by rw [hml]; rfl) (hb hby at_60) ?_
  intro T23 L23 v23 X23 q23
  obtain ⟨rfl, N23, K23, p23_0⟩ := q23
  have NN23 := Fr.app NN22 N23
  have Z23 : n0 ≤ T23.heap.size := Nat.le_trans Z22 K23.1
  show Go p e below s _ _ _ (T23.setTop (mkF m 63 #[.val (.int x0), .val (.long x1), .second, .val (.int x2), .val (.long x3), .second, .val (.int x4), .val (.int (v0_f1 x0)), .val (.int (v0_f2 x2)), .val (.ref b21), .val (.int (Int32.ofNat (0 + 2 + (own_F x0)))), .unset, .unset, .unset] [(.int (Int32.ofNat ((0 + 2 + (own_F x0) : Nat) + 2 + (own_F x2))))]))
  refine g_istore X23 hx #[.val (.int x0), .val (.long x1), .second, .val (.int x2), .val (.long x3), .second, .val (.int x4), .val (.int (v0_f1 x0)), .val (.int (v0_f2 x2)), .val (.ref b21), .val (.int (Int32.ofNat ((0 + 2 + (own_F x0) : Nat) + 2 + (own_F x2)))), .unset, .unset, .unset] 65 (hb hby at_63) rfl rfl ?_
  show Go p e below s _ _ _ (T23.setTop (mkF m 65 #[.val (.int x0), .val (.long x1), .second, .val (.int x2), .val (.long x3), .second, .val (.int x4), .val (.int (v0_f1 x0)), .val (.int (v0_f2 x2)), .val (.ref b21), .val (.int (Int32.ofNat ((0 + 2 + (own_F x0) : Nat) + 2 + (own_F x2)))), .unset, .unset, .unset] []))
  refine g_new X23 hx hZ hown (hw _ (List.mem_of_getElem? (i := 10) rfl)) (hw _ (List.mem_of_getElem? (i := 11) rfl)) (hw _ (List.mem_of_getElem? (i := 12) rfl)) rfl 68 (hb hby at_65) (by decide) (by decide) rfl ?_
  intro T24 h24 b24 g24 X24 e24 E24 A24 D24
  have N_b24 : n0 ≤ b24 := Nat.le_trans Z23 (Nat.le_of_eq g24.symm)
  have ne_b21_b24 : b21 ≠ b24 := Nat.ne_of_lt (Nat.lt_of_lt_of_le p23_0.lt (Nat.le_of_eq g24.symm))
  have k24_1 := p23_0.ext E24
  have Z24 : n0 ≤ h24.size := Nat.le_trans Z23 E24.1
  have F24_document : Fld Z h24 b24 "com/example/terms_in_context/termsincontext/index/Postings" "document" "I" (.int (0 : Int32)) := D24 (Or.inl (hw _ (List.mem_of_getElem? (i := 20) rfl))) (ty := .int) (by decide)
  have F24_positions : Fld Z h24 b24 "com/example/terms_in_context/termsincontext/index/Postings" "positions" "[I" .null := D24 (Or.inl (hw _ (List.mem_of_getElem? (i := 23) rfl))) (ty := (.array .int)) (by decide)
  have F24_in : Fld Z h24 b24 "com/example/terms_in_context/termsincontext/index/Postings" "in" "Lcom/example/terms_in_context/termsincontext/index/VarIntInput;" .null := D24 (Or.inr (hw _ (List.mem_of_getElem? (i := 36) rfl))) (ty := (.object "com/example/terms_in_context/termsincontext/index/VarIntInput")) (by decide)
  have F24_frequency : Fld Z h24 b24 "com/example/terms_in_context/termsincontext/index/Postings" "frequency" "I" (.int (0 : Int32)) := D24 (Or.inl (hw _ (List.mem_of_getElem? (i := 43) rfl))) (ty := .int) (by decide)
  show Go p e below s _ _ _ (T24.setTop (mkF m 68 #[.val (.int x0), .val (.long x1), .second, .val (.int x2), .val (.long x3), .second, .val (.int x4), .val (.int (v0_f1 x0)), .val (.int (v0_f2 x2)), .val (.ref b21), .val (.int (Int32.ofNat ((0 + 2 + (own_F x0) : Nat) + 2 + (own_F x2)))), .unset, .unset, .unset] [(.ref b24)]))
  refine g_dup X24 hx 69 (hb hby at_68) rfl rfl ?_
  show Go p e below s _ _ _ (T24.setTop (mkF m 69 #[.val (.int x0), .val (.long x1), .second, .val (.int x2), .val (.long x3), .second, .val (.int x4), .val (.int (v0_f1 x0)), .val (.int (v0_f2 x2)), .val (.ref b21), .val (.int (Int32.ofNat ((0 + 2 + (own_F x0) : Nat) + 2 + (own_F x2)))), .unset, .unset, .unset] [(.ref b24), (.ref b24)]))
  refine g_aload X24 hx 71 (hb hby at_69) rfl rfl rfl ?_
  show Go p e below s _ _ _ (T24.setTop (mkF m 71 #[.val (.int x0), .val (.long x1), .second, .val (.int x2), .val (.long x3), .second, .val (.int x4), .val (.int (v0_f1 x0)), .val (.int (v0_f2 x2)), .val (.ref b21), .val (.int (Int32.ofNat ((0 + 2 + (own_F x0) : Nat) + 2 + (own_F x2)))), .unset, .unset, .unset] [(.ref b21), (.ref b24), (.ref b24)]))
  refine g_iload X24 hx 73 (hb hby at_71) rfl rfl ?_
  show Go p e below s _ _ _ (T24.setTop (mkF m 73 #[.val (.int x0), .val (.long x1), .second, .val (.int x2), .val (.long x3), .second, .val (.int x4), .val (.int (v0_f1 x0)), .val (.int (v0_f2 x2)), .val (.ref b21), .val (.int (Int32.ofNat ((0 + 2 + (own_F x0) : Nat) + 2 + (own_F x2)))), .unset, .unset, .unset] [(.int (Int32.ofNat ((0 + 2 + (own_F x0) : Nat) + 2 + (own_F x2)))), (.ref b21), (.ref b24), (.ref b24)]))
  refine g_callI X24 hx hZ rfl hown (hw _ (List.mem_of_getElem? (i := 13) rfl)) (hw _ (List.mem_of_getElem? (i := 14) rfl)) (hw _ (List.mem_of_getElem? (i := 12) rfl)) (hw _ (List.mem_of_getElem? (i := 15) rfl)) (by decide) e24 (rm3 l Z a0 hw [] b24 b21 (Int32.ofNat ((0 + 2 + (own_F x0) : Nat) + 2 + (own_F x2))) h24 n0 Z24 A24 F24_document F24_positions F24_in F24_frequency N_b24) b24 [(.ref b21), (.int (Int32.ofNat ((0 + 2 + (own_F x0) : Nat) + 2 + (own_F x2))))] [(.ref b24)] 1 rfl (lenOf pd__28_5bBI_29V rfl) rfl (Nat.le_of_eq rfl) (by decide) (by decide) (by decide) (by decide) (by rw [hml]; rfl) (hb hby at_73) ?_
  intro T25 L25 v25 X25 q25
  obtain ⟨rfl, N25, K25, b25_0, b25_1, sz25_0, sz25_1, ne25_0_1, p25_0, p25_1, p25_2, p25_3, p25_4, p25_5, p25_6, p25_7, p25_8, p25_9⟩ := q25
  have NN25 := Fr.app NN23 N25
  have N_b25_0 : n0 ≤ b25_0 := Nat.le_trans Z24 sz25_0
  have ne_b21_b25_0 : b21 ≠ b25_0 := Nat.ne_of_lt (Nat.lt_of_lt_of_le k24_1.lt sz25_0)
  have ne_b24_b25_0 : b24 ≠ b25_0 := Nat.ne_of_lt (Nat.lt_of_lt_of_le A24.lt sz25_0)
  have N_b25_1 : n0 ≤ b25_1 := Nat.le_trans Z24 sz25_1
  have ne_b21_b25_1 : b21 ≠ b25_1 := Nat.ne_of_lt (Nat.lt_of_lt_of_le k24_1.lt sz25_1)
  have ne_b24_b25_1 : b24 ≠ b25_1 := Nat.ne_of_lt (Nat.lt_of_lt_of_le A24.lt sz25_1)
  have k25_1 := k24_1.keep K25 (nm1 ne_b21_b24 nm0)
  have k25_4 := A24.keep K25
  have Z25 : n0 ≤ T25.heap.size := Nat.le_trans Z24 K25.1
  show Go p e below s _ _ _ (T25.setTop (mkF m 76 #[.val (.int x0), .val (.long x1), .second, .val (.int x2), .val (.long x3), .second, .val (.int x4), .val (.int (v0_f1 x0)), .val (.int (v0_f2 x2)), .val (.ref b21), .val (.int (Int32.ofNat ((0 + 2 + (own_F x0) : Nat) + 2 + (own_F x2)))), .unset, .unset, .unset] [(.ref b24)]))
  refine g_astore X25 hx #[.val (.int x0), .val (.long x1), .second, .val (.int x2), .val (.long x3), .second, .val (.int x4), .val (.int (v0_f1 x0)), .val (.int (v0_f2 x2)), .val (.ref b21), .val (.int (Int32.ofNat ((0 + 2 + (own_F x0) : Nat) + 2 + (own_F x2)))), .val (.ref b24), .unset, .unset] 78 (hb hby at_76) rfl rfl rfl ?_
  show Go p e below s _ _ _ (T25.setTop (mkF m 78 #[.val (.int x0), .val (.long x1), .second, .val (.int x2), .val (.long x3), .second, .val (.int x4), .val (.int (v0_f1 x0)), .val (.int (v0_f2 x2)), .val (.ref b21), .val (.int (Int32.ofNat ((0 + 2 + (own_F x0) : Nat) + 2 + (own_F x2)))), .val (.ref b24), .unset, .unset] []))
  refine g_aload X25 hx 80 (hb hby at_78) rfl rfl rfl ?_
  show Go p e below s _ _ _ (T25.setTop (mkF m 80 #[.val (.int x0), .val (.long x1), .second, .val (.int x2), .val (.long x3), .second, .val (.int x4), .val (.int (v0_f1 x0)), .val (.int (v0_f2 x2)), .val (.ref b21), .val (.int (Int32.ofNat ((0 + 2 + (own_F x0) : Nat) + 2 + (own_F x2)))), .val (.ref b24), .unset, .unset] [(.ref b24)]))
  refine g_callV X25 hx hZ hown (hw _ (List.mem_of_getElem? (i := 37) rfl)) (hw _ (List.mem_of_getElem? (i := 38) rfl)) (hw _ (List.mem_of_getElem? (i := 40) rfl)) (hw _ (List.mem_of_getElem? (i := 39) rfl)) (hw _ (List.mem_of_getElem? (i := 12) rfl)) (hw _ (List.mem_of_getElem? (i := 41) rfl)) (by decide) rfl b24 k25_4 (rm6 l Z a0 hw [] b24 b25_0 (0 : Int32) 8 (fun _ => (0 : Int32)) 0 T25.heap n0 Z25 p25_1 p25_3 p25_5 p25_4 (rfl : (0 : Int32).toInt = 0) (by decide : 0 ≤ 8) (by decide : 8 ≤ 16)) [] [] 0 rfl (lenOf pd__28_29_5bI rfl) rfl (Nat.le_of_eq rfl) (by decide) (by decide) (by decide) (by decide) (by rw [hml]; rfl) (hb hby at_80) ?_
  intro T26 L26 v26 X26 q26
  obtain ⟨b26_0, rfl, N26, K26, sz26_0, p26_0⟩ := q26
  have NN26 := Fr.app NN25 N26
  have N_b26_0 : n0 ≤ b26_0 := Nat.le_trans Z25 sz26_0
  have ne_b21_b26_0 : b21 ≠ b26_0 := Nat.ne_of_lt (Nat.lt_of_lt_of_le k25_1.lt sz26_0)
  have ne_b24_b26_0 : b24 ≠ b26_0 := Nat.ne_of_lt (Nat.lt_of_lt_of_le k25_4.lt sz26_0)
  have ne_b25_0_b26_0 : b25_0 ≠ b26_0 := Nat.ne_of_lt (Nat.lt_of_lt_of_le p25_4.lt sz26_0)
  have ne_b25_1_b26_0 : b25_1 ≠ b26_0 := Nat.ne_of_lt (Nat.lt_of_lt_of_le p25_6.lt sz26_0)
  have k26_1 := k25_1.keep K26 nm0
  have k26_4 := k25_4.keep K26
  have k26_12 := p25_0.keep K26 nm0
  have k26_13 := p25_1.keep K26 nm0
  have k26_14 := p25_2.keep K26 nm0
  have k26_15 := p25_3.keep K26 nm0
  have k26_16 := p25_4.keep K26
  have k26_17 := p25_5.keep K26 nm0
  have k26_18 := p25_6.keep K26
  have k26_19 := p25_7.keep K26 nm0
  have k26_20 := p25_8.keep K26 nm0
  have k26_21 := p25_9.keep K26 nm0
  have Z26 : n0 ≤ T26.heap.size := Nat.le_trans Z25 K26.1
  show Go p e below s _ _ _ (T26.setTop (mkF m 83 #[.val (.int x0), .val (.long x1), .second, .val (.int x2), .val (.long x3), .second, .val (.int x4), .val (.int (v0_f1 x0)), .val (.int (v0_f2 x2)), .val (.ref b21), .val (.int (Int32.ofNat ((0 + 2 + (own_F x0) : Nat) + 2 + (own_F x2)))), .val (.ref b24), .unset, .unset] [(.ref b26_0)]))
  refine g_iconst X26 hx (0 : Int32) 84 (hb hby at_83) rfl rfl ?_
  show Go p e below s _ _ _ (T26.setTop (mkF m 84 #[.val (.int x0), .val (.long x1), .second, .val (.int x2), .val (.long x3), .second, .val (.int x4), .val (.int (v0_f1 x0)), .val (.int (v0_f2 x2)), .val (.ref b21), .val (.int (Int32.ofNat ((0 + 2 + (own_F x0) : Nat) + 2 + (own_F x2)))), .val (.ref b24), .unset, .unset] [(.int (0 : Int32)), (.ref b26_0)]))
  refine g_lloadN X26 hx 85 (hb hby at_84) rfl rfl ?_
  show Go p e below s _ _ _ (T26.setTop (mkF m 85 #[.val (.int x0), .val (.long x1), .second, .val (.int x2), .val (.long x3), .second, .val (.int x4), .val (.int (v0_f1 x0)), .val (.int (v0_f2 x2)), .val (.ref b21), .val (.int (Int32.ofNat ((0 + 2 + (own_F x0) : Nat) + 2 + (own_F x2)))), .val (.ref b24), .unset, .unset] [(.long x1), (.int (0 : Int32)), (.ref b26_0)]))
  refine g_callS X26 hx hZ hown (hw _ (List.mem_of_getElem? (i := 56) rfl)) (hw _ (List.mem_of_getElem? (i := 57) rfl)) (hw _ (List.mem_of_getElem? (i := 4) rfl)) (hw _ (List.mem_of_getElem? (i := 58) rfl)) (by decide) rfl (rm9 l Z a0 hw [] b26_0 (0 : Int32) x1 (fun _ => (0 : Int32)) 0 T26.heap p26_0 (rfl : (0 : Int32).toInt = 0) (fun i hi => absurd hi (Nat.not_lt_zero i) : ∀ i, i < 0 → (fun _ => (0 : Int32)) i = own_p x1 i)) [(.ref b26_0), (.int (0 : Int32)), (.long x1)] [] 0 rfl (lenOf pd__28_5bIIJ_29Z rfl) rfl (Nat.le_of_eq rfl) (by decide) (by decide) (by decide) (by decide) (by rw [hml]; rfl) (hb hby at_85) ?_
  intro T27 L27 v27 X27 q27
  obtain ⟨rfl, rfl, e27⟩ := q27
  have NS27 := Fr.app NN26 (Fr.nil n0)
  show Go p e below s _ _ _ (T27.setTop (mkF m 88 #[.val (.int x0), .val (.long x1), .second, .val (.int x2), .val (.long x3), .second, .val (.int x4), .val (.int (v0_f1 x0)), .val (.int (v0_f2 x2)), .val (.ref b21), .val (.int (Int32.ofNat ((0 + 2 + (own_F x0) : Nat) + 2 + (own_F x2)))), .val (.ref b24), .unset, .unset] [(.int (1 : Int32))]))
  refine g_istore X27 hx #[.val (.int x0), .val (.long x1), .second, .val (.int x2), .val (.long x3), .second, .val (.int x4), .val (.int (v0_f1 x0)), .val (.int (v0_f2 x2)), .val (.ref b21), .val (.int (Int32.ofNat ((0 + 2 + (own_F x0) : Nat) + 2 + (own_F x2)))), .val (.ref b24), .val (.int (1 : Int32)), .unset] 90 (hb hby at_88) rfl rfl ?_
  show Go p e below s _ _ _ (T27.setTop (mkF m 90 #[.val (.int x0), .val (.long x1), .second, .val (.int x2), .val (.long x3), .second, .val (.int x4), .val (.int (v0_f1 x0)), .val (.int (v0_f2 x2)), .val (.ref b21), .val (.int (Int32.ofNat ((0 + 2 + (own_F x0) : Nat) + 2 + (own_F x2)))), .val (.ref b24), .val (.int (1 : Int32)), .unset] []))
  have hAA := own_wok (g := (fun _ => (0 : Int32))) (kn := 0) (d := ((x4 &&& 63) + 1)) (y := (v0_f1 x0)) (s := x1) (own_dd x4) (own_F9 x0).1 (own_F9 x0).2 (by have := (own_F9 x0).2; have := (own_F9 x2).2; omega)
  have hBB := own_wok (g := (own_wf (fun _ => (0 : Int32)) 0 (i2bI (i2bI ((x4 &&& 63) + 1))) (i2bI (i2bI (v0_f1 x0))) x1 (own_F x0))) (kn := 0 + 2 + (own_F x0)) (d := ((ushrI x4 6 &&& 63) + 1)) (y := (v0_f2 x2)) (s := x3) (own_dd (ushrI x4 6)) (own_F9 x2).1 (own_F9 x2).2 (by have := (own_F9 x0).2; have := (own_F9 x2).2; omega)
  have hz : 0 + 2 + (own_F x0) = 2 + (own_F x0) := by omega
  have hl4 : (Int32.ofNat ((0 + 2 + (own_F x0)) + 2 + (own_F x2))).toInt = ((4 + (own_F x0) + (own_F x2) : Nat) : Int) := by rw [own_toI (by have := (own_F9 x0).2; have := (own_F9 x2).2; omega)]; omega
  by_cases hq : (own_F x0) ≤ 8
  · exact sg0_90A l Z a0 hw hx hby hml hret hlk hown hnm hZ x0 x1 x2 x3 x4 h0 n0  b21 b24 b25_1 b25_0 (-1 : Int32) (0 : Int32) (Int32.ofNat ((0 + 2 + (own_F x0) : Nat) + 2 + (own_F x2))) (0 : Int32) (1 : Int32) (own_wf (own_wf (fun _ => (0 : Int32)) 0 (i2bI (i2bI ((x4 &&& (63 : Int32)) + (1 : Int32)))) (i2bI (i2bI (v0_f1 x0))) x1 (own_F x0)) (0 + 2 + (own_F x0) : Nat) (i2bI (i2bI (((ushrI x4 (6 : Int32)) &&& (63 : Int32)) + (1 : Int32)))) (i2bI (i2bI (v0_f2 x2))) x3 (own_F x2)) (fun _ => (0 : Int32)) _ _ _ X27 e27 Z26 NS27 k26_4 k26_12 k26_14 k26_13 k26_15 k26_18 k26_19 k26_20 k26_21 k26_1 k26_16 k26_17 N_b24 N_b25_1 N_b25_0 (Ne.symm ne_b21_b24) (Ne.symm ne_b21_b25_1) (Ne.symm ne_b21_b25_0) rfl (own_wkeep hAA (by omega)) (own_okz hz hBB) hl4 rfl hq
  · exact sg0_90B l Z a0 hw hx hby hml hret hlk hown hnm hZ x0 x1 x2 x3 x4 h0 n0  b21 b24 b25_1 b25_0 (-1 : Int32) (0 : Int32) (Int32.ofNat ((0 + 2 + (own_F x0) : Nat) + 2 + (own_F x2))) (0 : Int32) (1 : Int32) (own_wf (own_wf (fun _ => (0 : Int32)) 0 (i2bI (i2bI ((x4 &&& (63 : Int32)) + (1 : Int32)))) (i2bI (i2bI (v0_f1 x0))) x1 (own_F x0)) (0 + 2 + (own_F x0) : Nat) (i2bI (i2bI (((ushrI x4 (6 : Int32)) &&& (63 : Int32)) + (1 : Int32)))) (i2bI (i2bI (v0_f2 x2))) x3 (own_F x2)) (fun _ => (0 : Int32)) _ _ _ X27 e27 Z26 NS27 k26_4 k26_12 k26_14 k26_13 k26_15 k26_18 k26_19 k26_20 k26_21 k26_1 k26_16 k26_17 N_b24 N_b25_1 N_b25_0 (Ne.symm ne_b21_b24) (Ne.symm ne_b21_b25_1) (Ne.symm ne_b21_b25_0) rfl (own_wkeep hAA (by omega)) (own_okz hz hBB) hl4 rfl (by have := (own_F9 x0).2; omega)
set_option maxRecDepth 65536 in
set_option maxHeartbeats 40000000 in
theorem comes_1 {Post : Tables → Env → Array Value → State → Outcome → State → Prop} (hpost : ∀ tb e args s v u, (limb_1_1.after args s (.returned v) u = true ∧ limb_1_2.after args s (.returned v) u = true ∧ True) → FrameEnd s (.returned v) u (Jvm.fieldLocs frame_1_writes args s ++ Jvm.arrayLocs frame_1_arrays args s ++ Jvm.staticLocs frame_1_statics s) 32 256 → Post tb e args s (.returned v) u) :
    ArmFor flags0 classFile x code maxLocals ret World_1 tables_1 room_1 Calls_1 rest_1 Pre_1 Post := by
  intro l hfl _ _ p e ha hc hk s m args below hf hA hF happ hP
  obtain ⟨hcalls, hrest, hpre⟩ := hP
  obtain ⟨-, -, -, hnamed, -, -, -, hat⟩ := (Spec.applies_iff hf).mp happ
  obtain ⟨hg, hn⟩ := and_e (Cond.before_iff.mp (show (Jvm.Cond.and given_1 narrow_1).before args s = true from hpre))
  obtain ⟨g1, g2⟩ := and_e hg
  obtain ⟨g3, g4⟩ := and_e g2
  obtain ⟨g5, g6⟩ := and_e g4
  obtain ⟨g7, g8⟩ := and_e g6
  obtain ⟨g9, g10⟩ := and_e g8
  obtain ⟨w0, w1, w2, w3, w4, rfl⟩ : ∃ w0 w1 w2 w3 w4 : Value, args = #[w0, w1, w2, w3, w4] := by
    have hs : args.size = 5 := by simpa [Cond.value, given_1] using g1
    obtain ⟨L⟩ := args
    match L, hs with
    | [w0, w1, w2, w3, w4], _ => exact ⟨w0, w1, w2, w3, w4, rfl⟩
  have hw := fun d (hd : d ∈ tables_1) => atoms_spec (ws := Jvm.Cond.code x code maxLocals ret :: tables_1) hat d (List.mem_cons_of_mem _ hd)
  obtain ⟨i0, ei0⟩ := is_v g3
  obtain rfl : w0 = (.int i0) := Option.some.inj ei0
  obtain ⟨i1, ei1⟩ := isL_v g5
  obtain rfl : w1 = (.long i1) := Option.some.inj ei1
  obtain ⟨i2, ei2⟩ := is_v g7
  obtain rfl : w2 = (.int i2) := Option.some.inj ei2
  obtain ⟨i3, ei3⟩ := isL_v g9
  obtain rfl : w3 = (.long i3) := Option.some.inj ei3
  obtain ⟨i4, ei4⟩ := is_v g10
  obtain rfl : w4 = (.int i4) := Option.some.inj ei4
  obtain ⟨n, o, h1, h2, h3, _, L, rfl, ⟨rfl, N⟩, hq⟩ := rm0 l s _ hw tables_1 i0 i1 i2 i3 i4 s.heap s.heap.size (Nat.le_refl _) p e ha hc hk s m _ below hf ((Spec.applies_iff_loose hf).mp happ).1 ⟨rfl, State.Warmed39.refl s, rfl⟩ trivial
  refine ⟨n, _, h1, h2, h3, hpost _ _ _ _ _ _ ⟨Cond.after_iff.mpr rfl, Cond.after_iff.mpr (eq_i res_at (Term.int_eval (1)) rfl), trivial⟩ ⟨hq.1, hq.2.1, (hq.2.2.sift fun y hy => Or.inr (N y hy)).mono (by decide) (by decide)⟩⟩
theorem main_1_1 : Claimed_1_1 := comes_1 fun _ _ _ _ _ _ h hF => ⟨h.1, hF⟩
theorem main_1_2 : Claimed_1_2 := comes_1 fun _ _ _ _ _ _ h hF => ⟨h.2.1, hF⟩
end Jvm.Pilot.@@N@@
namespace Jvm.Pilot.@@N@@
open Jvm Jvm.ClassFile Sem Op Lib Jvm.Free Jvm.Stand Jvm.Pilot.@@N@@.Jvm.D
/-! MADE BY PROGRAM (witnessworld.py) out of the Statement's table words and the real class files: 13 classes; the members and pool entries that the words name. The judged class is class 1, her method 4. -/
namespace start1
open Jvm.ClassFile
def u (s : String) : CpInfo := .utf8 (stringToUtf16 s)
/-- a pool by its gaps: so many unusable entries, then the entry; so many at the end -/
def gap : Nat → List CpInfo → List CpInfo
  | 0, r => r
  | n + 1, r => .unusable :: gap n r
def poolList (es : List (Nat × CpInfo)) (last : Nat) : List CpInfo := es.foldr (fun e r => gap e.1 (e.2 :: r)) (gap last [])
def pool (es : List (Nat × CpInfo)) (last : Nat) : Array CpInfo := ⟨poolList es last⟩
def fileOf (pool : Array CpInfo) (this : Nat) (attrs : Array Attribute := #[]) (ms : Array MethodInfo := #[]) (fl : Nat := 33) (sup : Nat := 0) (ifs : Array Nat := #[]) (fds : Array FieldInfo := #[]) : ClassFile where
  minorVersion := 0
  majorVersion := 65
  constantPool := pool
  accessFlags := fl
  thisClass := this
  superClass := sup
  interfaces := ifs
  fields := fds
  methods := ms
  attributes := attrs
def plain (name : String) (sup : Option ClassId) : Class where
  name := name
  kind := .ordinary
  loader := none
  accessFlags := 33
  super := sup
  interfaces := #[]
  cf := none
  fields := #[]
  methods := #[]
  instanceTypes := #[]
  staticTypes := #[]
  resolved := #[]
  callSites := []
  init := .initialized
  statics := none
  mirror := none

def pool0 : Array CpInfo := pool [(5, u "<init>"), (0, u "()V"), (1, .class_ 10), (1, u "java/lang/Object"), (85, u "clone"), (0, u "()Ljava/lang/Object;")] 26

def k0c0 : Code := { maxStack := 0, maxLocals := 1, code := object_method_1_code, exceptionTable := #[], attributes := #[] }
def k0m0 : Method := { name := "<init>", desc := "()V", sig := { parameters := [], returnType := none }, accessFlags := 1, code := some k0c0 }
def k0m1 : Method := { name := "clone", desc := "()Ljava/lang/Object;", sig := { parameters := [], returnType := some (.object "java/lang/Object") }, accessFlags := 260, code := none }
/-- java/lang/Object -/
def k0 : Class := { plain "java/lang/Object" none with
  accessFlags := 33
  interfaces := #[]
  cf := some (fileOf pool0 8 #[] #[{ accessFlags := 1, nameIndex := 5, descriptorIndex := 6, attributes := #[] }, { accessFlags := 260, nameIndex := 96, descriptorIndex := 97, attributes := #[] }] 33 0 #[] #[])
  fields := #[]
  methods := #[k0m0, k0m1]
  instanceTypes := #[]
  staticTypes := #[]
  resolved := Array.replicate 124 none
  statics := none }

def pool1 : Array CpInfo := pool [(2, .class_ 4), (1, u "java/lang/Object"), (0, u "<init>"), (0, u "()V"), (0, .long 127), (1, .methodref 10 11), (0, .class_ 12), (0, .nameAndType 13 14), (0, u "com/example/terms_in_context/termsincontext/index/PostingsPositionsPinLaw"), (0, u "delta"), (0, u "(JI)I"), (0, .integer 2147483647), (0, .methodref 10 17), (0, .nameAndType 18 19), (0, u "writeDoc"), (0, u "([BIIIJ)I"), (0, .class_ 21), (0, u "com/example/terms_in_context/termsincontext/index/Postings"), (0, .methodref 20 23), (0, .nameAndType 5 24), (0, u "([BI)V"), (0, .methodref 20 26), (0, .nameAndType 27 28), (0, u "positions"), (0, u "()[I"), (0, .methodref 10 30), (0, .nameAndType 31 32), (0, u "matches"), (0, u "([IIJ)Z"), (0, .methodref 20 34), (0, .nameAndType 35 36), (0, u "next"), (0, u "()Z"), (3, u "law"), (0, u "(IJIJI)Z")] 6

def k1m0 : Method := { name := "<init>", desc := "()V", sig := { parameters := [], returnType := none }, accessFlags := 1, code := none }
def k1c1 : Code := { maxStack := 4, maxLocals := 4, code := method_2_code, exceptionTable := #[], attributes := #[] }
def k1m1 : Method := { name := "delta", desc := "(JI)I", sig := { parameters := [.long, .int], returnType := some .int }, accessFlags := 10, code := some k1c1 }
def k1c2 : Code := { maxStack := 5, maxLocals := 6, code := method_3_code, exceptionTable := #[], attributes := #[] }
def k1m2 : Method := { name := "writeDoc", desc := "([BIIIJ)I", sig := { parameters := [(.array .byte), .int, .int, .int, .long], returnType := some .int }, accessFlags := 10, code := some k1c2 }
def k1c3 : Code := { maxStack := 4, maxLocals := 5, code := method_4_code, exceptionTable := #[], attributes := #[] }
def k1m3 : Method := { name := "matches", desc := "([IIJ)Z", sig := { parameters := [(.array .int), .int, .long], returnType := some .boolean }, accessFlags := 10, code := some k1c3 }
def k1c4 : Code := { maxStack := 6, maxLocals := 14, code := code, exceptionTable := #[], attributes := #[] }
def k1m4 : Method := { name := "law", desc := "(IJIJI)Z", sig := { parameters := [.int, .long, .int, .long, .int], returnType := some .boolean }, accessFlags := 9, code := some k1c4 }
/-- com/example/terms_in_context/termsincontext/index/PostingsPositionsPinLaw -/
def k1 : Class := { plain "com/example/terms_in_context/termsincontext/index/PostingsPositionsPinLaw" (some 0) with
  accessFlags := 49
  interfaces := #[]
  cf := some (fileOf pool1 10 #[] #[{ accessFlags := 1, nameIndex := 5, descriptorIndex := 6, attributes := #[] }, { accessFlags := 10, nameIndex := 13, descriptorIndex := 14, attributes := #[] }, { accessFlags := 10, nameIndex := 18, descriptorIndex := 19, attributes := #[] }, { accessFlags := 10, nameIndex := 31, descriptorIndex := 32, attributes := #[] }, { accessFlags := 9, nameIndex := 40, descriptorIndex := 41, attributes := #[] }] 49 2 #[] #[])
  fields := #[]
  methods := #[k1m0, k1m1, k1m2, k1m3, k1m4]
  instanceTypes := #[]
  staticTypes := #[]
  resolved := Array.replicate 48 none
  statics := none }

def pool2 : Array CpInfo := pool [(1, .methodref 2 3), (0, .class_ 4), (0, .nameAndType 5 6), (0, u "java/lang/Object"), (0, u "<init>"), (0, u "()V"), (0, .fieldref 8 9), (0, .class_ 10), (0, .nameAndType 11 12), (0, u "com/example/terms_in_context/termsincontext/index/Postings"), (0, u "document"), (0, u "I"), (0, .fieldref 8 14), (0, .nameAndType 15 16), (0, u "positions"), (0, u "[I"), (0, .class_ 18), (0, u "com/example/terms_in_context/termsincontext/index/VarIntInput"), (0, .methodref 17 20), (0, .nameAndType 5 21), (0, u "([BI)V"), (0, .fieldref 8 23), (0, .nameAndType 24 25), (0, u "in"), (0, u "Lcom/example/terms_in_context/termsincontext/index/VarIntInput;"), (0, .methodref 17 27), (0, .nameAndType 28 29), (0, u "hasMore"), (0, u "()Z"), (0, .methodref 17 31), (0, .nameAndType 32 33), (0, u "read"), (0, u "()I"), (0, .fieldref 8 35), (0, .nameAndType 36 12), (0, u "frequency"), (0, .methodref 38 39), (0, .class_ 40), (0, .nameAndType 41 42), (0, u "java/lang/Math"), (0, u "max"), (0, u "(II)I"), (0, .methodref 44 45), (0, .class_ 46), (0, .nameAndType 47 48), (0, u "java/util/Arrays"), (0, u "copyOf"), (0, u "([II)[I"), (2, u "next"), (1, u "()[I")] 2

def k2c0 : Code := { maxStack := 5, maxLocals := 3, code := prog_23_method_1_code, exceptionTable := #[], attributes := #[] }
def k2m0 : Method := { name := "<init>", desc := "([BI)V", sig := { parameters := [(.array .byte), .int], returnType := none }, accessFlags := 0, code := some k2c0 }
def k2c1 : Code := { maxStack := 4, maxLocals := 3, code := prog_23_method_2_code, exceptionTable := #[], attributes := #[] }
def k2m1 : Method := { name := "next", desc := "()Z", sig := { parameters := [], returnType := some .boolean }, accessFlags := 1, code := some k2c1 }
def k2c2 : Code := { maxStack := 2, maxLocals := 1, code := prog_23_method_5_code, exceptionTable := #[], attributes := #[] }
def k2m2 : Method := { name := "positions", desc := "()[I", sig := { parameters := [], returnType := some (.array .int) }, accessFlags := 1, code := some k2c2 }
/-- com/example/terms_in_context/termsincontext/index/Postings -/
def k2 : Class := { plain "com/example/terms_in_context/termsincontext/index/Postings" (some 0) with
  accessFlags := 49
  interfaces := #[]
  cf := some (fileOf pool2 8 #[] #[{ accessFlags := 0, nameIndex := 5, descriptorIndex := 21, attributes := #[] }, { accessFlags := 1, nameIndex := 51, descriptorIndex := 29, attributes := #[] }, { accessFlags := 1, nameIndex := 15, descriptorIndex := 53, attributes := #[] }] 49 2 #[] #[{ accessFlags := 18, nameIndex := 24, descriptorIndex := 25, attributes := #[] }, { accessFlags := 2, nameIndex := 11, descriptorIndex := 12, attributes := #[] }, { accessFlags := 2, nameIndex := 15, descriptorIndex := 16, attributes := #[] }, { accessFlags := 2, nameIndex := 36, descriptorIndex := 12, attributes := #[] }])
  fields := #[{ name := "in", type := (.object "com/example/terms_in_context/termsincontext/index/VarIntInput"), accessFlags := 18, slot := 0, constantValue := 0 }, { name := "document", type := .int, accessFlags := 2, slot := 1, constantValue := 0 }, { name := "positions", type := (.array .int), accessFlags := 2, slot := 2, constantValue := 0 }, { name := "frequency", type := .int, accessFlags := 2, slot := 3, constantValue := 0 }]
  methods := #[k2m0, k2m1, k2m2]
  instanceTypes := #[(.object "com/example/terms_in_context/termsincontext/index/VarIntInput"), .int, (.array .int), .int]
  staticTypes := #[]
  resolved := Array.replicate 56 none
  statics := none }

def pool3 : Array CpInfo := pool [(1, .methodref 2 3), (0, .class_ 4), (0, .nameAndType 5 6), (0, u "java/lang/Object"), (0, u "<init>"), (0, u "()V"), (0, .fieldref 8 9), (0, .class_ 10), (0, .nameAndType 11 12), (0, u "com/example/terms_in_context/termsincontext/index/VarIntInput"), (0, u "bytes"), (0, u "[B"), (0, .fieldref 8 14), (0, .nameAndType 15 16), (0, u "length"), (0, u "I"), (0, .fieldref 8 18), (0, .nameAndType 19 16), (0, u "offset"), (0, u "([BI)V"), (2, u "hasMore"), (0, u "()Z"), (1, u "read"), (0, u "()I")] 2

def k3c0 : Code := { maxStack := 2, maxLocals := 3, code := prog_30_method_1_code, exceptionTable := #[], attributes := #[] }
def k3m0 : Method := { name := "<init>", desc := "([BI)V", sig := { parameters := [(.array .byte), .int], returnType := none }, accessFlags := 0, code := some k3c0 }
def k3c1 : Code := { maxStack := 2, maxLocals := 1, code := prog_30_method_2_code, exceptionTable := #[], attributes := #[] }
def k3m1 : Method := { name := "hasMore", desc := "()Z", sig := { parameters := [], returnType := some .boolean }, accessFlags := 0, code := some k3c1 }
def k3c2 : Code := { maxStack := 5, maxLocals := 4, code := prog_30_method_3_code, exceptionTable := #[], attributes := #[] }
def k3m2 : Method := { name := "read", desc := "()I", sig := { parameters := [], returnType := some .int }, accessFlags := 0, code := some k3c2 }
/-- com/example/terms_in_context/termsincontext/index/VarIntInput -/
def k3 : Class := { plain "com/example/terms_in_context/termsincontext/index/VarIntInput" (some 0) with
  accessFlags := 48
  interfaces := #[]
  cf := some (fileOf pool3 8 #[] #[{ accessFlags := 0, nameIndex := 5, descriptorIndex := 20, attributes := #[] }, { accessFlags := 0, nameIndex := 23, descriptorIndex := 24, attributes := #[] }, { accessFlags := 0, nameIndex := 26, descriptorIndex := 27, attributes := #[] }] 48 2 #[] #[{ accessFlags := 18, nameIndex := 11, descriptorIndex := 12, attributes := #[] }, { accessFlags := 18, nameIndex := 15, descriptorIndex := 16, attributes := #[] }, { accessFlags := 2, nameIndex := 19, descriptorIndex := 16, attributes := #[] }])
  fields := #[{ name := "bytes", type := (.array .byte), accessFlags := 18, slot := 0, constantValue := 0 }, { name := "length", type := .int, accessFlags := 18, slot := 1, constantValue := 0 }, { name := "offset", type := .int, accessFlags := 2, slot := 2, constantValue := 0 }]
  methods := #[k3m0, k3m1, k3m2]
  instanceTypes := #[(.array .byte), .int, .int]
  staticTypes := #[]
  resolved := Array.replicate 30 none
  statics := none }

def pool4 : Array CpInfo := pool [(2, .class_ 4), (1, u "java/lang/Object"), (0, u "<init>"), (0, u "()V"), (7, .class_ 16), (1, u "java/util/Arrays"), (57, .class_ 76), (1, u "java/util/Arrays$NaturalOrder"), (32, u "()Ljava/lang/Object;"), (3, .class_ 115), (1, u "java/util/Arrays$LegacyMergeSort"), (1, u "Z"), (10, .nameAndType 129 109), (0, u "clone"), (20, .methodref 151 152), (0, .class_ 153), (0, .nameAndType 154 155), (0, u "java/lang/System"), (0, u "arraycopy"), (0, u "(Ljava/lang/Object;ILjava/lang/Object;II)V"), (146, u "copyOf"), (1, .methodref 305 306), (0, .class_ 307), (0, .nameAndType 308 309), (0, u "java/lang/Math"), (0, u "min"), (0, u "(II)I"), (6, .methodref 317 128), (0, .class_ 318), (0, u "[I"), (56, .class_ 376), (0, u "java/util/Arrays$ArrayList"), (68, u "$assertionsDisabled"), (269, u "MIN_ARRAY_SORT_GRAN"), (0, u "I"), (2, u "INSERTIONSORT_THRESHOLD"), (151, u "([II)[I"), (103, .class_ 976), (0, u "java/util/Arrays$ArrayItr")] 52

def k4m0 : Method := { name := "<init>", desc := "()V", sig := { parameters := [], returnType := none }, accessFlags := 2, code := none }
def k4c1 : Code := { maxStack := 6, maxLocals := 3, code := jdk_65_method_123_code, exceptionTable := #[], attributes := #[] }
def k4m1 : Method := { name := "copyOf", desc := "([II)[I", sig := { parameters := [(.array .int), .int], returnType := some (.array .int) }, accessFlags := 9, code := some k4c1 }
/-- java/util/Arrays -/
def k4 : Class := { plain "java/util/Arrays" (some 0) with
  accessFlags := 49
  interfaces := #[]
  cf := some (fileOf pool4 14 #[.nestMembers #[975, 375, 113, 74]] #[{ accessFlags := 2, nameIndex := 5, descriptorIndex := 6, attributes := #[] }, { accessFlags := 9, nameIndex := 302, descriptorIndex := 871, attributes := #[] }] 49 2 #[] #[{ accessFlags := 26, nameIndex := 715, descriptorIndex := 716, attributes := #[] }, { accessFlags := 26, nameIndex := 719, descriptorIndex := 716, attributes := #[] }, { accessFlags := 4120, nameIndex := 445, descriptorIndex := 117, attributes := #[] }])
  fields := #[{ name := "MIN_ARRAY_SORT_GRAN", type := .int, accessFlags := 26, slot := 0, constantValue := 0 }, { name := "INSERTIONSORT_THRESHOLD", type := .int, accessFlags := 26, slot := 1, constantValue := 0 }, { name := "$assertionsDisabled", type := .boolean, accessFlags := 4120, slot := 2, constantValue := 0 }]
  methods := #[k4m0, k4m1]
  instanceTypes := #[]
  staticTypes := #[.int, .int, .boolean]
  resolved := Array.replicate 1029 none
  statics := none }

def pool5 : Array CpInfo := pool [(1, .class_ 2), (0, u "java/lang/Math"), (1, .class_ 6), (1, u "java/lang/Object"), (0, u "<init>"), (0, u "()V"), (89, .class_ 100), (1, u "java/lang/Math$RandomNumberGeneratorHolder"), (71, u "negativeZeroFloatBits"), (0, u "J"), (2, u "negativeZeroDoubleBits"), (21, u "max"), (2, u "min"), (43, u "$assertionsDisabled"), (0, u "Z"), (88, u "(II)I"), (2, u "twoToTheDoubleScaleDown"), (0, u "D"), (4, u "twoToTheDoubleScaleUp"), (9, u "E"), (3, u "PI"), (2, u "TAU"), (2, u "DEGREES_TO_RADIANS"), (0, u "RADIANS_TO_DEGREES")] 94

def k5m0 : Method := { name := "<init>", desc := "()V", sig := { parameters := [], returnType := none }, accessFlags := 2, code := none }
def k5c1 : Code := { maxStack := 2, maxLocals := 2, code := jdk_29_method_65_code, exceptionTable := #[], attributes := #[] }
def k5m1 : Method := { name := "max", desc := "(II)I", sig := { parameters := [.int, .int], returnType := some .int }, accessFlags := 9, code := some k5c1 }
def k5c2 : Code := { maxStack := 2, maxLocals := 2, code := jdk_29_method_69_code, exceptionTable := #[], attributes := #[] }
def k5m2 : Method := { name := "min", desc := "(II)I", sig := { parameters := [.int, .int], returnType := some .int }, accessFlags := 9, code := some k5c2 }
/-- java/lang/Math -/
def k5 : Class := { plain "java/lang/Math" (some 0) with
  accessFlags := 49
  interfaces := #[]
  cf := some (fileOf pool5 1 #[.nestMembers #[98]] #[{ accessFlags := 2, nameIndex := 7, descriptorIndex := 8, attributes := #[] }, { accessFlags := 9, nameIndex := 198, descriptorIndex := 335, attributes := #[] }, { accessFlags := 9, nameIndex := 201, descriptorIndex := 335, attributes := #[] }] 49 4 #[] #[{ accessFlags := 25, nameIndex := 354, descriptorIndex := 339, attributes := #[] }, { accessFlags := 25, nameIndex := 358, descriptorIndex := 339, attributes := #[] }, { accessFlags := 25, nameIndex := 361, descriptorIndex := 339, attributes := #[] }, { accessFlags := 26, nameIndex := 364, descriptorIndex := 339, attributes := #[] }, { accessFlags := 26, nameIndex := 365, descriptorIndex := 339, attributes := #[] }, { accessFlags := 26, nameIndex := 172, descriptorIndex := 173, attributes := #[] }, { accessFlags := 26, nameIndex := 176, descriptorIndex := 173, attributes := #[] }, { accessFlags := 8, nameIndex := 344, descriptorIndex := 339, attributes := #[] }, { accessFlags := 8, nameIndex := 338, descriptorIndex := 339, attributes := #[] }, { accessFlags := 4120, nameIndex := 245, descriptorIndex := 246, attributes := #[] }])
  fields := #[{ name := "E", type := .double, accessFlags := 25, slot := 0, constantValue := 0 }, { name := "PI", type := .double, accessFlags := 25, slot := 1, constantValue := 0 }, { name := "TAU", type := .double, accessFlags := 25, slot := 2, constantValue := 0 }, { name := "DEGREES_TO_RADIANS", type := .double, accessFlags := 26, slot := 3, constantValue := 0 }, { name := "RADIANS_TO_DEGREES", type := .double, accessFlags := 26, slot := 4, constantValue := 0 }, { name := "negativeZeroFloatBits", type := .long, accessFlags := 26, slot := 5, constantValue := 0 }, { name := "negativeZeroDoubleBits", type := .long, accessFlags := 26, slot := 6, constantValue := 0 }, { name := "twoToTheDoubleScaleUp", type := .double, accessFlags := 8, slot := 7, constantValue := 0 }, { name := "twoToTheDoubleScaleDown", type := .double, accessFlags := 8, slot := 8, constantValue := 0 }, { name := "$assertionsDisabled", type := .boolean, accessFlags := 4120, slot := 9, constantValue := 0 }]
  methods := #[k5m0, k5m1, k5m2]
  instanceTypes := #[]
  staticTypes := #[.double, .double, .double, .double, .double, .long, .long, .double, .double, .boolean]
  resolved := Array.replicate 460 none
  statics := none }

def pool6 : Array CpInfo := pool [(2, .class_ 4), (1, u "java/lang/Object"), (0, u "<init>"), (0, u "()V"), (1, .class_ 10), (1, u "java/lang/System"), (0, u "allowSecurityManager"), (0, u "I"), (16, u "cons"), (0, u "Ljava/io/Console;"), (77, .class_ 110), (1, u "java/lang/System$CallersHolder"), (43, u "initialErrStream"), (0, u "Ljava/io/PrintStream;"), (19, u "security"), (0, u "Ljava/lang/SecurityManager;"), (31, .class_ 209), (0, u "java/lang/System$1"), (7, u "props"), (0, u "Ljava/util/Properties;"), (2, u "lineSeparator"), (0, u "Ljava/lang/String;"), (96, .class_ 321), (1, u "java/lang/System$LoggerFinder"), (5, .class_ 328), (0, u "java/lang/System$Logger"), (67, u "err"), (2, u "out"), (91, u "notSupportedJnuEncoding"), (15, u "in"), (17, u "initialIn"), (0, u "Ljava/io/InputStream;"), (35, u "bootLayer"), (0, u "Ljava/lang/ModuleLayer;"), (99, .class_ 664), (0, u "java/lang/System$2"), (9, u "NEVER"), (2, u "MAYBE"), (49, u "arraycopy"), (0, u "(Ljava/lang/Object;ILjava/lang/Object;II)V"), (72, .class_ 802), (0, u "java/lang/System$Logger$Level")] 31

def k6m0 : Method := { name := "<init>", desc := "()V", sig := { parameters := [], returnType := none }, accessFlags := 2, code := none }
def k6m1 : Method := { name := "arraycopy", desc := "(Ljava/lang/Object;ILjava/lang/Object;II)V", sig := { parameters := [(.object "java/lang/Object"), .int, (.object "java/lang/Object"), .int, .int], returnType := none }, accessFlags := 265, code := none }
/-- java/lang/System -/
def k6 : Class := { plain "java/lang/System" (some 0) with
  accessFlags := 49
  interfaces := #[]
  cf := some (fileOf pool6 8 #[.nestMembers #[319, 327, 801, 108, 663, 208]] #[{ accessFlags := 2, nameIndex := 5, descriptorIndex := 6, attributes := #[] }, { accessFlags := 265, nameIndex := 727, descriptorIndex := 728, attributes := #[] }] 49 2 #[] #[{ accessFlags := 25, nameIndex := 507, descriptorIndex := 526, attributes := #[] }, { accessFlags := 25, nameIndex := 399, descriptorIndex := 155, attributes := #[] }, { accessFlags := 25, nameIndex := 396, descriptorIndex := 155, attributes := #[] }, { accessFlags := 10, nameIndex := 525, descriptorIndex := 526, attributes := #[] }, { accessFlags := 26, nameIndex := 674, descriptorIndex := 12, attributes := #[] }, { accessFlags := 26, nameIndex := 677, descriptorIndex := 12, attributes := #[] }, { accessFlags := 10, nameIndex := 11, descriptorIndex := 12, attributes := #[] }, { accessFlags := 74, nameIndex := 175, descriptorIndex := 176, attributes := #[] }, { accessFlags := 10, nameIndex := 491, descriptorIndex := 222, attributes := #[] }, { accessFlags := 74, nameIndex := 29, descriptorIndex := 30, attributes := #[] }, { accessFlags := 74, nameIndex := 154, descriptorIndex := 155, attributes := #[] }, { accessFlags := 10, nameIndex := 217, descriptorIndex := 218, attributes := #[] }, { accessFlags := 10, nameIndex := 221, descriptorIndex := 222, attributes := #[] }, { accessFlags := 8, nameIndex := 562, descriptorIndex := 563, attributes := #[] }])
  fields := #[{ name := "in", type := (.object "java/io/InputStream"), accessFlags := 25, slot := 0, constantValue := 0 }, { name := "out", type := (.object "java/io/PrintStream"), accessFlags := 25, slot := 1, constantValue := 0 }, { name := "err", type := (.object "java/io/PrintStream"), accessFlags := 25, slot := 2, constantValue := 0 }, { name := "initialIn", type := (.object "java/io/InputStream"), accessFlags := 10, slot := 3, constantValue := 0 }, { name := "NEVER", type := .int, accessFlags := 26, slot := 4, constantValue := 0 }, { name := "MAYBE", type := .int, accessFlags := 26, slot := 5, constantValue := 0 }, { name := "allowSecurityManager", type := .int, accessFlags := 10, slot := 6, constantValue := 0 }, { name := "security", type := (.object "java/lang/SecurityManager"), accessFlags := 74, slot := 7, constantValue := 0 }, { name := "notSupportedJnuEncoding", type := (.object "java/lang/String"), accessFlags := 10, slot := 8, constantValue := 0 }, { name := "cons", type := (.object "java/io/Console"), accessFlags := 74, slot := 9, constantValue := 0 }, { name := "initialErrStream", type := (.object "java/io/PrintStream"), accessFlags := 74, slot := 10, constantValue := 0 }, { name := "props", type := (.object "java/util/Properties"), accessFlags := 10, slot := 11, constantValue := 0 }, { name := "lineSeparator", type := (.object "java/lang/String"), accessFlags := 10, slot := 12, constantValue := 0 }, { name := "bootLayer", type := (.object "java/lang/ModuleLayer"), accessFlags := 8, slot := 13, constantValue := 0 }]
  methods := #[k6m0, k6m1]
  instanceTypes := #[]
  staticTypes := #[(.object "java/io/InputStream"), (.object "java/io/PrintStream"), (.object "java/io/PrintStream"), (.object "java/io/InputStream"), .int, .int, .int, (.object "java/lang/SecurityManager"), (.object "java/lang/String"), (.object "java/io/Console"), (.object "java/io/PrintStream"), (.object "java/util/Properties"), (.object "java/lang/String"), (.object "java/lang/ModuleLayer")]
  resolved := Array.replicate 834 none
  statics := none }

def pool7 : Array CpInfo := pool [(1, .class_ 2), (0, u "java/lang/Cloneable"), (0, .class_ 4), (0, u "java/lang/Object")] 2

/-- java/lang/Cloneable -/
def k7 : Class := { plain "java/lang/Cloneable" (some 0) with
  accessFlags := 1537
  interfaces := #[]
  cf := some (fileOf pool7 1 #[] #[] 1537 3 #[] #[])
  fields := #[]
  methods := #[]
  instanceTypes := #[]
  staticTypes := #[]
  resolved := Array.replicate 7 none
  statics := none }

def pool8 : Array CpInfo := pool [(1, u "java/io/Serializable"), (0, .class_ 1), (0, u "java/lang/Object"), (0, .class_ 3)] 3

/-- java/io/Serializable -/
def k8 : Class := { plain "java/io/Serializable" (some 0) with
  accessFlags := 1537
  interfaces := #[]
  cf := some (fileOf pool8 2 #[] #[] 1537 4 #[] #[])
  fields := #[]
  methods := #[]
  instanceTypes := #[]
  staticTypes := #[]
  resolved := Array.replicate 8 none
  statics := none }

/-- the primitive byte -/
def k9 : Class := { plain "byte" none with kind := .primitive 'B', accessFlags := 0x411 }
/-- [B -/
def k10 : Class := { plain "[B" (some 0) with kind := .array 9 .byte, interfaces := #[7, 8], accessFlags := 1041 }

/-- the primitive int -/
def k11 : Class := { plain "int" none with kind := .primitive 'I', accessFlags := 0x411 }
/-- [I -/
def k12 : Class := { plain "[I" (some 0) with kind := .array 11 .int, interfaces := #[7, 8], accessFlags := 1041 }

def heap : Heap := #[]
def classes : Array Class := #[k0, k1, k2, k3, k4, k5, k6, k7, k8, k9, k10, k11, k12]
def interned : List (Array UInt16 × Addr) := []
def slotsUsed : Nat := 0
def theMethod : MethodId := ⟨1, 4⟩
def args0 : Array Value := #[.int 5, .long 6, .int 9, .long 8, .int 100]
def aboutOver (below : List Frame) : State where
  vm := { classes := classes, interned := interned.toArray }
  heap := heap
  slotsUsed := slotsUsed
  threads := #[{ frames := .invoking theMethod args0 :: below }]
def below0 : List Frame := [.native { method := ⟨0, 0⟩, args := #[] }]
def about1 : State := aboutOver below0
def p0 : Program := .bare "" "" ""
def e0 : Env := launch0.env 0 0 0
theorem w_frames : about1.frames = Frame.invoking theMethod args0 :: below0 := rfl
set_option maxRecDepth 65536 in
theorem w_args : argsFit about1.vm theMethod args0 = true := by decide +kernel
set_option maxRecDepth 65536 in
theorem w_heap : heapFits about1 = true := by decide +kernel
set_option maxRecDepth 65536 in
theorem w_runnable : about1.curStatus? = some .runnable := by decide +kernel
set_option maxRecDepth 65536 in
theorem w_alone : about1.alone = true := by decide +kernel
set_option maxRecDepth 65536 in
theorem w_named : about1.methodNamed? x = some theMethod := by decide +kernel
set_option maxRecDepth 65536 in
theorem w_hears : about1.hears theMethod below0 = true := by decide +kernel
set_option maxRecDepth 65536 in
theorem w_ripe : about1.ripe theMethod args0 below0 = true := by decide +kernel
theorem w_running : about1.status = .running := rfl
set_option maxRecDepth 65536 in
theorem w_room : about1.hasRoom e0.platform room_1 = true :=
  launch0.hasRoom_least _ room_1 (by decide +kernel) (by decide +kernel) (by decide +kernel) (by decide +kernel) (by decide +kernel) (by decide +kernel)
theorem allAtoms_all (ts : List Jvm.Cond) (a : Array Jvm.Value) (st : Jvm.State) : (allAtoms ts).before a st = ts.all (fun c => c.before a st) := by
  induction ts with
  | nil => rfl
  | cons c t ih =>
    show (Jvm.Cond.and c (allAtoms t)).before a st = _
    rw [Jvm.Cond.before_and, ih, List.all_cons]
def words1 : List Jvm.Cond := Jvm.Cond.code x code maxLocals ret :: tables_1
/-- a 'code' word, met by the world's own term for the bytes: nothing is compared byte by byte -/
theorem code_word {y : MethodName} {bytes : ByteArray} {mx : Nat} {rt : Option FieldType} {a : Array Value} {s : State} {m : MethodId} {meth : Method} {c : Code} (h1 : s.methodNamed? y = some m) (h2 : s.vm.method? m = some meth) (h3 : meth.code = some c) (h4 : c.code = bytes)
    (h5 : (c.maxLocals == mx && c.exceptionTable.isEmpty && decide (c.maxStack ≤ mostOperands) && decide (meth.sig.returnType = rt) && !meth.locks && decide (parseMethodDescriptor y.desc = some meth.sig)) = true) : (Jvm.Cond.code y bytes mx rt).before a s = true := by
  simp only [Bool.and_eq_true, beq_iff_eq, Bool.not_eq_true', decide_eq_true_eq] at h5
  obtain ⟨⟨⟨⟨⟨g1, g2⟩, g3⟩, g4⟩, g5⟩, g6⟩ := h5
  simp [Cond.before, Cond.holds, Cond.value, h1, h2, h3, h4, g1, g2, g3, g4, g5, g6]
def isCode : Jvm.Cond → Bool
  | .code _ _ _ _ => true
  | _ => false
theorem all_split {L : List Jvm.Cond} {P : Jvm.Cond → Bool} (h1 : L.all (fun c => isCode c || P c) = true) (h2 : ∀ c ∈ L.filter isCode, P c = true) : L.all P = true := by
  refine List.all_eq_true.mpr fun c hc => ?_
  have h := List.all_eq_true.mp h1 c hc
  rcases Bool.eq_false_or_eq_true (isCode c) with hi | hi
  · exact h2 c (List.mem_filter.mpr ⟨hc, hi⟩)
  · simpa [hi] using h
set_option maxRecDepth 65536 in
theorem w_c0 : (Jvm.Cond.code x code maxLocals ret).before args0 about1 = true := code_word (m := ⟨1, 4⟩) (meth := k1m4) (c := k1c4) (by decide +kernel) rfl rfl rfl (by decide +kernel)
set_option maxRecDepth 65536 in
theorem w_c1 : (Jvm.Cond.code ({ cls := "com/example/terms_in_context/termsincontext/index/PostingsPositionsPinLaw", name := "writeDoc", desc := "([BIIIJ)I" } : Jvm.MethodName) method_3_code (6 : Nat) (Option.some Jvm.ClassFile.FieldType.int)).before args0 about1 = true := code_word (m := ⟨1, 2⟩) (meth := k1m2) (c := k1c2) (by decide +kernel) rfl rfl rfl (by decide +kernel)
set_option maxRecDepth 65536 in
theorem w_c2 : (Jvm.Cond.code ({ cls := "com/example/terms_in_context/termsincontext/index/PostingsPositionsPinLaw", name := "delta", desc := "(JI)I" } : Jvm.MethodName) method_2_code (4 : Nat) (Option.some Jvm.ClassFile.FieldType.int)).before args0 about1 = true := code_word (m := ⟨1, 1⟩) (meth := k1m1) (c := k1c1) (by decide +kernel) rfl rfl rfl (by decide +kernel)
set_option maxRecDepth 65536 in
theorem w_c3 : (Jvm.Cond.code ({ cls := "com/example/terms_in_context/termsincontext/index/Postings", name := "<init>", desc := "([BI)V" } : Jvm.MethodName) prog_23_method_1_code (3 : Nat) (Option.none : Option Jvm.ClassFile.FieldType)).before args0 about1 = true := code_word (m := ⟨2, 0⟩) (meth := k2m0) (c := k2c0) (by decide +kernel) rfl rfl rfl (by decide +kernel)
set_option maxRecDepth 65536 in
theorem w_c4 : (Jvm.Cond.code ({ cls := "java/lang/Object", name := "<init>", desc := "()V" } : Jvm.MethodName) object_method_1_code (1 : Nat) (Option.none : Option Jvm.ClassFile.FieldType)).before args0 about1 = true := code_word (m := ⟨0, 0⟩) (meth := k0m0) (c := k0c0) (by decide +kernel) rfl rfl rfl (by decide +kernel)
set_option maxRecDepth 65536 in
theorem w_c5 : (Jvm.Cond.code ({ cls := "com/example/terms_in_context/termsincontext/index/VarIntInput", name := "<init>", desc := "([BI)V" } : Jvm.MethodName) prog_30_method_1_code (3 : Nat) (Option.none : Option Jvm.ClassFile.FieldType)).before args0 about1 = true := code_word (m := ⟨3, 0⟩) (meth := k3m0) (c := k3c0) (by decide +kernel) rfl rfl rfl (by decide +kernel)
set_option maxRecDepth 65536 in
theorem w_c6 : (Jvm.Cond.code ({ cls := "com/example/terms_in_context/termsincontext/index/Postings", name := "positions", desc := "()[I" } : Jvm.MethodName) prog_23_method_5_code (1 : Nat) (Option.some (Jvm.ClassFile.FieldType.array Jvm.ClassFile.FieldType.int))).before args0 about1 = true := code_word (m := ⟨2, 2⟩) (meth := k2m2) (c := k2c2) (by decide +kernel) rfl rfl rfl (by decide +kernel)
set_option maxRecDepth 65536 in
theorem w_c7 : (Jvm.Cond.code ({ cls := "java/util/Arrays", name := "copyOf", desc := "([II)[I" } : Jvm.MethodName) jdk_65_method_123_code (3 : Nat) (Option.some (Jvm.ClassFile.FieldType.array Jvm.ClassFile.FieldType.int))).before args0 about1 = true := code_word (m := ⟨4, 1⟩) (meth := k4m1) (c := k4c1) (by decide +kernel) rfl rfl rfl (by decide +kernel)
set_option maxRecDepth 65536 in
theorem w_c8 : (Jvm.Cond.code ({ cls := "java/lang/Math", name := "min", desc := "(II)I" } : Jvm.MethodName) jdk_29_method_69_code (2 : Nat) (Option.some Jvm.ClassFile.FieldType.int)).before args0 about1 = true := code_word (m := ⟨5, 2⟩) (meth := k5m2) (c := k5c2) (by decide +kernel) rfl rfl rfl (by decide +kernel)
set_option maxRecDepth 65536 in
theorem w_c9 : (Jvm.Cond.code ({ cls := "com/example/terms_in_context/termsincontext/index/PostingsPositionsPinLaw", name := "matches", desc := "([IIJ)Z" } : Jvm.MethodName) method_4_code (5 : Nat) (Option.some Jvm.ClassFile.FieldType.boolean)).before args0 about1 = true := code_word (m := ⟨1, 3⟩) (meth := k1m3) (c := k1c3) (by decide +kernel) rfl rfl rfl (by decide +kernel)
set_option maxRecDepth 65536 in
theorem w_c10 : (Jvm.Cond.code ({ cls := "com/example/terms_in_context/termsincontext/index/Postings", name := "next", desc := "()Z" } : Jvm.MethodName) prog_23_method_2_code (3 : Nat) (Option.some Jvm.ClassFile.FieldType.boolean)).before args0 about1 = true := code_word (m := ⟨2, 1⟩) (meth := k2m1) (c := k2c1) (by decide +kernel) rfl rfl rfl (by decide +kernel)
set_option maxRecDepth 65536 in
theorem w_c11 : (Jvm.Cond.code ({ cls := "com/example/terms_in_context/termsincontext/index/VarIntInput", name := "hasMore", desc := "()Z" } : Jvm.MethodName) prog_30_method_2_code (1 : Nat) (Option.some Jvm.ClassFile.FieldType.boolean)).before args0 about1 = true := code_word (m := ⟨3, 1⟩) (meth := k3m1) (c := k3c1) (by decide +kernel) rfl rfl rfl (by decide +kernel)
set_option maxRecDepth 65536 in
theorem w_c12 : (Jvm.Cond.code ({ cls := "com/example/terms_in_context/termsincontext/index/VarIntInput", name := "read", desc := "()I" } : Jvm.MethodName) prog_30_method_3_code (4 : Nat) (Option.some Jvm.ClassFile.FieldType.int)).before args0 about1 = true := code_word (m := ⟨3, 2⟩) (meth := k3m2) (c := k3c2) (by decide +kernel) rfl rfl rfl (by decide +kernel)
set_option maxRecDepth 65536 in
theorem w_c13 : (Jvm.Cond.code ({ cls := "java/lang/Math", name := "max", desc := "(II)I" } : Jvm.MethodName) jdk_29_method_65_code (2 : Nat) (Option.some Jvm.ClassFile.FieldType.int)).before args0 about1 = true := code_word (m := ⟨5, 1⟩) (meth := k5m1) (c := k5c1) (by decide +kernel) rfl rfl rfl (by decide +kernel)
def codes1 : List Jvm.Cond := [Jvm.Cond.code x code maxLocals ret, Jvm.Cond.code ({ cls := "com/example/terms_in_context/termsincontext/index/PostingsPositionsPinLaw", name := "writeDoc", desc := "([BIIIJ)I" } : Jvm.MethodName) method_3_code (6 : Nat) (Option.some Jvm.ClassFile.FieldType.int), Jvm.Cond.code ({ cls := "com/example/terms_in_context/termsincontext/index/PostingsPositionsPinLaw", name := "delta", desc := "(JI)I" } : Jvm.MethodName) method_2_code (4 : Nat) (Option.some Jvm.ClassFile.FieldType.int), Jvm.Cond.code ({ cls := "com/example/terms_in_context/termsincontext/index/Postings", name := "<init>", desc := "([BI)V" } : Jvm.MethodName) prog_23_method_1_code (3 : Nat) (Option.none : Option Jvm.ClassFile.FieldType), Jvm.Cond.code ({ cls := "java/lang/Object", name := "<init>", desc := "()V" } : Jvm.MethodName) object_method_1_code (1 : Nat) (Option.none : Option Jvm.ClassFile.FieldType), Jvm.Cond.code ({ cls := "com/example/terms_in_context/termsincontext/index/VarIntInput", name := "<init>", desc := "([BI)V" } : Jvm.MethodName) prog_30_method_1_code (3 : Nat) (Option.none : Option Jvm.ClassFile.FieldType), Jvm.Cond.code ({ cls := "com/example/terms_in_context/termsincontext/index/Postings", name := "positions", desc := "()[I" } : Jvm.MethodName) prog_23_method_5_code (1 : Nat) (Option.some (Jvm.ClassFile.FieldType.array Jvm.ClassFile.FieldType.int)), Jvm.Cond.code ({ cls := "java/util/Arrays", name := "copyOf", desc := "([II)[I" } : Jvm.MethodName) jdk_65_method_123_code (3 : Nat) (Option.some (Jvm.ClassFile.FieldType.array Jvm.ClassFile.FieldType.int)), Jvm.Cond.code ({ cls := "java/lang/Math", name := "min", desc := "(II)I" } : Jvm.MethodName) jdk_29_method_69_code (2 : Nat) (Option.some Jvm.ClassFile.FieldType.int), Jvm.Cond.code ({ cls := "com/example/terms_in_context/termsincontext/index/PostingsPositionsPinLaw", name := "matches", desc := "([IIJ)Z" } : Jvm.MethodName) method_4_code (5 : Nat) (Option.some Jvm.ClassFile.FieldType.boolean), Jvm.Cond.code ({ cls := "com/example/terms_in_context/termsincontext/index/Postings", name := "next", desc := "()Z" } : Jvm.MethodName) prog_23_method_2_code (3 : Nat) (Option.some Jvm.ClassFile.FieldType.boolean), Jvm.Cond.code ({ cls := "com/example/terms_in_context/termsincontext/index/VarIntInput", name := "hasMore", desc := "()Z" } : Jvm.MethodName) prog_30_method_2_code (1 : Nat) (Option.some Jvm.ClassFile.FieldType.boolean), Jvm.Cond.code ({ cls := "com/example/terms_in_context/termsincontext/index/VarIntInput", name := "read", desc := "()I" } : Jvm.MethodName) prog_30_method_3_code (4 : Nat) (Option.some Jvm.ClassFile.FieldType.int), Jvm.Cond.code ({ cls := "java/lang/Math", name := "max", desc := "(II)I" } : Jvm.MethodName) jdk_29_method_65_code (2 : Nat) (Option.some Jvm.ClassFile.FieldType.int)]
set_option maxRecDepth 65536 in
theorem codes_eq : words1.filter isCode = codes1 := rfl
theorem w_codes : ∀ c ∈ words1.filter isCode, c.before args0 about1 = true := by
  rw [codes_eq]
  intro c hc
  simp only [codes1, List.mem_cons, List.not_mem_nil, or_false] at hc
  rcases hc with rfl | rfl | rfl | rfl | rfl | rfl | rfl | rfl | rfl | rfl | rfl | rfl | rfl | rfl
  · exact w_c0
  · exact w_c1
  · exact w_c2
  · exact w_c3
  · exact w_c4
  · exact w_c5
  · exact w_c6
  · exact w_c7
  · exact w_c8
  · exact w_c9
  · exact w_c10
  · exact w_c11
  · exact w_c12
  · exact w_c13
set_option maxRecDepth 65536 in
theorem w_t1 : (words1.take 24).all (fun c => isCode c || c.before args0 about1) = true := by decide +kernel
set_option maxRecDepth 65536 in
theorem w_t2 : ((words1.drop 24).take 24).all (fun c => isCode c || c.before args0 about1) = true := by decide +kernel
set_option maxRecDepth 65536 in
theorem w_t3 : (((words1.drop 24).drop 24).take 24).all (fun c => isCode c || c.before args0 about1) = true := by decide +kernel
set_option maxRecDepth 65536 in
theorem w_t4 : (((words1.drop 24).drop 24).drop 24).all (fun c => isCode c || c.before args0 about1) = true := by decide +kernel
theorem w_tables : (allAtoms (Jvm.Cond.code x code maxLocals ret :: tables_1)).before args0 about1 = true := by
  rw [allAtoms_all]
  show words1.all (fun c => c.before args0 about1) = true
  refine all_split ?_ w_codes
  rw [← List.take_append_drop 24 words1, List.all_append, w_t1, ← List.take_append_drop 24 (words1.drop 24), List.all_append, w_t2, ← List.take_append_drop 24 ((words1.drop 24).drop 24), List.all_append, w_t3, w_t4]
  rfl
set_option maxRecDepth 65536 in
theorem w_case : (Jvm.Cond.and given_1 narrow_1).before args0 about1 = true := by decide +kernel
theorem w_applies : (headSpec (Jvm.Cond.code x code maxLocals ret :: tables_1) room_1).applies x e0.platform about1 = true :=
  (Spec.applies_iff w_frames).mpr ⟨w_running, w_runnable, w_alone, w_named, w_hears, w_ripe, w_room, w_tables⟩
theorem atStart : AtStart classFile x code maxLocals ret World_1 tables_1 room_1 Calls_1 rest_1 Pre_1 launch0 p0 e0 about1 theMethod args0 below0 :=
  ⟨lists_1, trivial, launch0.admits_env _ _ _, launch0.least_env, fairChoices_fair.cas, fairChoices_fair.clock, w_frames, w_args, w_heap, w_applies, trivial, trivial, w_case⟩
end start1
theorem witness_1 : WitnessClaimed_1 := ⟨start1.p0, start1.e0, start1.about1, start1.theMethod, start1.args0, start1.below0, start1.atStart⟩
end Jvm.Pilot.@@N@@
