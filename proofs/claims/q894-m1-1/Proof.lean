import JvmDerived
import JvmDerived.Pilot.@@N@@Statement
import JvmDerived.Pilot.@@N@@Code
set_option linter.unusedVariables false
set_option linter.unusedSimpArgs false
namespace Jvm.RoadKit
open Sem ClassFile Op Lib Jvm.Stand Jvm.Free Jvm.LawKit
section New
variable {p : Program} {l : Launch} {e : Env} {R : Room} {s : State} {m : MethodId} {args : Array Value} {below : List Frame} {meth : Method} {c : Code} {T : State} {locs : List Loc} {cells slots : Nat}
theorem retI (X : Stand p l e R s m args below meth c T locs cells slots) (hx : p.tables.exec = Jvm.exec) {pc : Nat} {Ls : Array Slot} {z : Int32} {rest : List Value} (hret : meth.sig.returnType = some .int) (hd : decode c.code pc = .ok (.ireturn, 1)) {fs : List Frame}
    (hl : ∀ (f : JFrame) (acts : List Action), f.method = m → f.locked = none → f.entered = [] → (doReturn e (T.setTop f) acts (some (.int z))).1 = T.setFrames fs) : Steps p.tables e below (T.setTop (mkF m pc Ls (.int z :: rest))) (T.setFrames fs) := by
  have hm' : T.vm.method? m = some meth := X.method'
  have hn : narrow .int (.int z) = .int z := rfl
  show Steps p.tables e below (T.setTop { method := m, pc := pc, locals := Ls, stack := _ :: rest, locked := none }) _
  jvm_step X.here [X.here.top, hx, hd, hm', hret, hn]
  first | (intro acts; rw [hl _ acts rfl rfl rfl]) | rw [hl _ _ rfl rfl rfl]
  exact Steps.refl _
end New
end Jvm.RoadKit
namespace Jvm.Pilot.@@N@@
open Jvm Jvm.ClassFile Sem Op Lib Jvm.Free Jvm.Stand Jvm.LawKit Jvm.RoadKit Bundle Jvm.Pilot.@@N@@.Jvm.D
section OwnKit
variable {p : Program} {l : Launch} {e : Env} {R : Room} {s : State} {m : MethodId} {args : Array Value} {below : List Frame} {meth : Method} {c : Code} {T : State} {locs : List Loc} {cells slots : Nat} {Z : State} {a0 : Array Value} {h : Heap}
variable {Q : Option Value → Heap → List Loc → Prop} {rc rs pc : Nat} {Ls : Array Slot} {st : List Value}
def Go (p : Program) (e : Env) (below : List Frame) (s : State) (Q : Option Value → Heap → List Loc → Prop) (rc rs : Nat) (F : State) : Prop :=
  ∃ s₂ o, Steps p.tables e below F s₂ ∧ s₂.status = .running ∧ Ended s₂ below o ∧ ∃ v L, o = .returned v ∧ Q v s₂.heap L ∧ FrameEnd s o s₂ L rc rs
theorem Go.by {F F' : State} (g : Go p e below s Q rc rs F') (h : ∀ t, Steps p.tables e below F' t → Steps p.tables e below F t) : Go p e below s Q rc rs F := by
  obtain ⟨s2, o, h1, r⟩ := g
  exact ⟨s2, o, h _ h1, r⟩
def shlI (x y : Int32) : Int32 := x <<< (y &&& 31)
def shrI (x y : Int32) : Int32 := x >>> (y &&& 31)
def ushrI (x y : Int32) : Int32 := (x.toUInt32 >>> (y &&& 31).toUInt32).toInt32
def shlJ (x : Int64) (y : Int32) : Int64 := x <<< (y &&& 0x3f).toInt64
def shrJ (x : Int64) (y : Int32) : Int64 := x >>> (y &&& 0x3f).toInt64
def ushrJ (x : Int64) (y : Int32) : Int64 := (x.toUInt64 >>> (y &&& 0x3f).toInt64.toUInt64).toInt64
def i2bI (x : Int32) : Int32 := x.toInt8.toInt32
def i2cI (x : Int32) : Int32 := x.toUInt32.toUInt16.toUInt32.toInt32
def i2sI (x : Int32) : Int32 := x.toInt16.toInt32
theorem g_iload (X : Stand p l e R s m args below meth c T locs cells slots) (hx : p.tables.exec = Jvm.exec) {k : Nat} {v : Int32} (pc' : Nat) (hd : decode c.code pc = .ok (.iload k, 2)) (hl : Ls[k]? = some (.val (.int v))) (hp : pc + 2 = pc') (g : Go p e below s Q rc rs (T.setTop (mkF m pc' Ls (.int v :: st)))) : Go p e below s Q rc rs (T.setTop (mkF m pc Ls st)) := by
  subst hp; exact g.by fun t k => XS.iload X.here hx rfl hd hl k
theorem g_iloadN (X : Stand p l e R s m args below meth c T locs cells slots) (hx : p.tables.exec = Jvm.exec) {k : Fin 4} {v : Int32} (pc' : Nat) (hd : decode c.code pc = .ok (.iload_n k, 1)) (hl : Ls[k.val]? = some (.val (.int v))) (hp : pc + 1 = pc') (g : Go p e below s Q rc rs (T.setTop (mkF m pc' Ls (.int v :: st)))) : Go p e below s Q rc rs (T.setTop (mkF m pc Ls st)) := by
  subst hp; exact g.by fun t k => XS.iloadN X.here hx rfl hd hl k
theorem g_istore (X : Stand p l e R s m args below meth c T locs cells slots) (hx : p.tables.exec = Jvm.exec) {k : Nat} {v : Int32} (l' : Array Slot) (pc' : Nat) (hd : decode c.code pc = .ok (.istore k, 2)) (hl : storeLocals Ls k (.int v) = some l') (hp : pc + 2 = pc') (g : Go p e below s Q rc rs (T.setTop (mkF m pc' l' st))) : Go p e below s Q rc rs (T.setTop (mkF m pc Ls (.int v :: st))) := by
  subst hp; exact g.by fun t k => XS.istore X.here hx rfl hd rfl hl k
theorem g_istoreN (X : Stand p l e R s m args below meth c T locs cells slots) (hx : p.tables.exec = Jvm.exec) {k : Fin 4} {v : Int32} (l' : Array Slot) (pc' : Nat) (hd : decode c.code pc = .ok (.istore_n k, 1)) (hl : storeLocals Ls k.val (.int v) = some l') (hp : pc + 1 = pc') (g : Go p e below s Q rc rs (T.setTop (mkF m pc' l' st))) : Go p e below s Q rc rs (T.setTop (mkF m pc Ls (.int v :: st))) := by
  subst hp; exact g.by fun t k => XS.istoreN X.here hx rfl hd rfl hl k
theorem g_lload (X : Stand p l e R s m args below meth c T locs cells slots) (hx : p.tables.exec = Jvm.exec) {k : Nat} {v : Int64} (pc' : Nat) (hd : decode c.code pc = .ok (.lload k, 2)) (hl : Ls[k]? = some (.val (.long v))) (hp : pc + 2 = pc') (g : Go p e below s Q rc rs (T.setTop (mkF m pc' Ls (.long v :: st)))) : Go p e below s Q rc rs (T.setTop (mkF m pc Ls st)) := by
  subst hp; exact g.by fun t k => XS.lload X.here hx rfl hd hl k
theorem g_lloadN (X : Stand p l e R s m args below meth c T locs cells slots) (hx : p.tables.exec = Jvm.exec) {k : Fin 4} {v : Int64} (pc' : Nat) (hd : decode c.code pc = .ok (.lload_n k, 1)) (hl : Ls[k.val]? = some (.val (.long v))) (hp : pc + 1 = pc') (g : Go p e below s Q rc rs (T.setTop (mkF m pc' Ls (.long v :: st)))) : Go p e below s Q rc rs (T.setTop (mkF m pc Ls st)) := by
  subst hp; exact g.by fun t k => XS.lloadN X.here hx rfl hd hl k
theorem g_lstore (X : Stand p l e R s m args below meth c T locs cells slots) (hx : p.tables.exec = Jvm.exec) {k : Nat} {v : Int64} (l' : Array Slot) (pc' : Nat) (hd : decode c.code pc = .ok (.lstore k, 2)) (hl : storeLocals Ls k (.long v) = some l') (hp : pc + 2 = pc') (g : Go p e below s Q rc rs (T.setTop (mkF m pc' l' st))) : Go p e below s Q rc rs (T.setTop (mkF m pc Ls (.long v :: st))) := by
  subst hp; exact g.by fun t k => XS.lstore X.here hx rfl hd rfl hl k
theorem g_lstoreN (X : Stand p l e R s m args below meth c T locs cells slots) (hx : p.tables.exec = Jvm.exec) {k : Fin 4} {v : Int64} (l' : Array Slot) (pc' : Nat) (hd : decode c.code pc = .ok (.lstore_n k, 1)) (hl : storeLocals Ls k.val (.long v) = some l') (hp : pc + 1 = pc') (g : Go p e below s Q rc rs (T.setTop (mkF m pc' l' st))) : Go p e below s Q rc rs (T.setTop (mkF m pc Ls (.long v :: st))) := by
  subst hp; exact g.by fun t k => XS.lstoreN X.here hx rfl hd rfl hl k
theorem g_aload (X : Stand p l e R s m args below meth c T locs cells slots) (hx : p.tables.exec = Jvm.exec) {k : Nat} {v : Value} (pc' : Nat) (hd : decode c.code pc = .ok (.aload k, 2)) (hl : Ls[k]? = some (.val v)) (hv : v.isRef = true) (hp : pc + 2 = pc') (g : Go p e below s Q rc rs (T.setTop (mkF m pc' Ls (v :: st)))) : Go p e below s Q rc rs (T.setTop (mkF m pc Ls st)) := by
  subst hp; exact g.by fun t k => XS.aload X.here hx rfl hd hl hv k
theorem g_aloadN (X : Stand p l e R s m args below meth c T locs cells slots) (hx : p.tables.exec = Jvm.exec) {k : Fin 4} {v : Value} (pc' : Nat) (hd : decode c.code pc = .ok (.aload_n k, 1)) (hl : Ls[k.val]? = some (.val v)) (hv : v.isRef = true) (hp : pc + 1 = pc') (g : Go p e below s Q rc rs (T.setTop (mkF m pc' Ls (v :: st)))) : Go p e below s Q rc rs (T.setTop (mkF m pc Ls st)) := by
  subst hp; exact g.by fun t k => XS.aloadN X.here hx rfl hd hl hv k
theorem g_astore (X : Stand p l e R s m args below meth c T locs cells slots) (hx : p.tables.exec = Jvm.exec) {k : Nat} {v : Value} (l' : Array Slot) (pc' : Nat) (hd : decode c.code pc = .ok (.astore k, 2)) (hl : storeLocals Ls k v = some l') (hv : v.isRef = true) (hp : pc + 2 = pc') (g : Go p e below s Q rc rs (T.setTop (mkF m pc' l' st))) : Go p e below s Q rc rs (T.setTop (mkF m pc Ls (v :: st))) := by
  subst hp; exact g.by fun t k => XS.astore X.here hx rfl hd rfl hv hl k
theorem g_astoreN (X : Stand p l e R s m args below meth c T locs cells slots) (hx : p.tables.exec = Jvm.exec) {k : Fin 4} {v : Value} (l' : Array Slot) (pc' : Nat) (hd : decode c.code pc = .ok (.astore_n k, 1)) (hl : storeLocals Ls k.val v = some l') (hv : v.isRef = true) (hp : pc + 1 = pc') (g : Go p e below s Q rc rs (T.setTop (mkF m pc' l' st))) : Go p e below s Q rc rs (T.setTop (mkF m pc Ls (v :: st))) := by
  subst hp; exact g.by fun t k => XS.astoreN X.here hx rfl hd rfl hv hl k
theorem g_istoreS (X : Stand p l e R s m args below meth c T locs cells slots) (hx : p.tables.exec = Jvm.exec) {k : Nat} {v : Int32} {os : Slot} (l' : Array Slot) (pc' : Nat) (hd : decode c.code pc = .ok (.istore k, 2)) (hold : Ls[k]? = some os) (ho : One os) (hl : Ls.setIfInBounds k (.val (.int v)) = l') (hp : pc + 2 = pc') (g : Go p e below s Q rc rs (T.setTop (mkF m pc' l' st))) : Go p e below s Q rc rs (T.setTop (mkF m pc Ls ((.int v) :: st))) := by
  subst hp; exact g.by fun t k => XS.istore X.here hx rfl hd rfl (hl ▸ XS.store1 hold ho rfl) k
theorem g_istoreNS (X : Stand p l e R s m args below meth c T locs cells slots) (hx : p.tables.exec = Jvm.exec) {k : Fin 4} {v : Int32} {os : Slot} (l' : Array Slot) (pc' : Nat) (hd : decode c.code pc = .ok (.istore_n k, 1)) (hold : Ls[k.val]? = some os) (ho : One os) (hl : Ls.setIfInBounds k.val (.val (.int v)) = l') (hp : pc + 1 = pc') (g : Go p e below s Q rc rs (T.setTop (mkF m pc' l' st))) : Go p e below s Q rc rs (T.setTop (mkF m pc Ls ((.int v) :: st))) := by
  subst hp; exact g.by fun t k => XS.istoreN X.here hx rfl hd rfl (hl ▸ XS.store1 hold ho rfl) k
theorem g_astoreS (X : Stand p l e R s m args below meth c T locs cells slots) (hx : p.tables.exec = Jvm.exec) {k : Nat} {v : Value} {os : Slot} (l' : Array Slot) (pc' : Nat) (hd : decode c.code pc = .ok (.astore k, 2)) (hold : Ls[k]? = some os) (ho : One os) (hl : Ls.setIfInBounds k (.val v) = l') (hv : v.isRef = true) (hp : pc + 2 = pc') (g : Go p e below s Q rc rs (T.setTop (mkF m pc' l' st))) : Go p e below s Q rc rs (T.setTop (mkF m pc Ls (v :: st))) := by
  subst hp; exact g.by fun t k => XS.astore X.here hx rfl hd rfl hv (hl ▸ XS.store1 hold ho (by cases v <;> first | rfl | simp_all [Value.isRef])) k
theorem g_astoreNS (X : Stand p l e R s m args below meth c T locs cells slots) (hx : p.tables.exec = Jvm.exec) {k : Fin 4} {v : Value} {os : Slot} (l' : Array Slot) (pc' : Nat) (hd : decode c.code pc = .ok (.astore_n k, 1)) (hold : Ls[k.val]? = some os) (ho : One os) (hl : Ls.setIfInBounds k.val (.val v) = l') (hv : v.isRef = true) (hp : pc + 1 = pc') (g : Go p e below s Q rc rs (T.setTop (mkF m pc' l' st))) : Go p e below s Q rc rs (T.setTop (mkF m pc Ls (v :: st))) := by
  subst hp; exact g.by fun t k => XS.astoreN X.here hx rfl hd rfl hv (hl ▸ XS.store1 hold ho (by cases v <;> first | rfl | simp_all [Value.isRef])) k
theorem g_iconst (X : Stand p l e R s m args below meth c T locs cells slots) (hx : p.tables.exec = Jvm.exec) {i : Int} (v : Int32) (pc' : Nat) (hd : decode c.code pc = .ok (.iconst i, 1)) (hv : Int32.ofInt i = v) (hp : pc + 1 = pc') (g : Go p e below s Q rc rs (T.setTop (mkF m pc' Ls (.int v :: st)))) : Go p e below s Q rc rs (T.setTop (mkF m pc Ls st)) := by
  subst hp hv; exact g.by fun t k => XS.iconst X.here hx rfl hd k
theorem g_bipush (X : Stand p l e R s m args below meth c T locs cells slots) (hx : p.tables.exec = Jvm.exec) {i : Int} (v : Int32) (pc' : Nat) (hd : decode c.code pc = .ok (.bipush i, 2)) (hv : (Int8.ofInt i).toInt32 = v) (hp : pc + 2 = pc') (g : Go p e below s Q rc rs (T.setTop (mkF m pc' Ls (.int v :: st)))) : Go p e below s Q rc rs (T.setTop (mkF m pc Ls st)) := by
  subst hp hv; exact g.by fun t k => XS.bipush X.here hx rfl hd k
theorem g_sipush (X : Stand p l e R s m args below meth c T locs cells slots) (hx : p.tables.exec = Jvm.exec) {i : Int} (v : Int32) (pc' : Nat) (hd : decode c.code pc = .ok (.sipush i, 3)) (hv : (Int16.ofInt i).toInt32 = v) (hp : pc + 3 = pc') (g : Go p e below s Q rc rs (T.setTop (mkF m pc' Ls (.int v :: st)))) : Go p e below s Q rc rs (T.setTop (mkF m pc Ls st)) := by
  subst hp hv; exact g.by fun t k => XS.sipush X.here hx rfl hd k
theorem g_lconst (X : Stand p l e R s m args below meth c T locs cells slots) (hx : p.tables.exec = Jvm.exec) {i : Fin 2} (v : Int64) (pc' : Nat) (hd : decode c.code pc = .ok (.lconst i, 1)) (hv : Int64.ofNat i = v) (hp : pc + 1 = pc') (g : Go p e below s Q rc rs (T.setTop (mkF m pc' Ls (.long v :: st)))) : Go p e below s Q rc rs (T.setTop (mkF m pc Ls st)) := by
  subst hp hv; exact g.by fun t k => XS.lconst X.here hx rfl hd k
theorem g_aconst_null (X : Stand p l e R s m args below meth c T locs cells slots) (hx : p.tables.exec = Jvm.exec) (pc' : Nat) (hd : decode c.code pc = .ok (.aconst_null, 1)) (hp : pc + 1 = pc') (g : Go p e below s Q rc rs (T.setTop (mkF m pc' Ls (.null :: st)))) : Go p e below s Q rc rs (T.setTop (mkF m pc Ls st)) := by
  subst hp; exact g.by fun t k => XS.aconstNull X.here hx rfl hd k
theorem g_ldc (X : Stand p l e R s m args below meth c T locs cells slots) (hx : p.tables.exec = Jvm.exec) (hZ : Z.Warmed39 s.vm) {own : String} {i : Nat} {v : Int32} (hown : s.vm.findClass own = some m.cls) (w : (Cond.constant own i v).before a0 Z = true) (pc' : Nat) (hd : decode c.code pc = .ok (.ldc i, 2)) (hp : pc + 2 = pc') (g : Go p e below s Q rc rs (T.setTop (mkF m pc' Ls (.int v :: st)))) : Go p e below s Q rc rs (T.setTop (mkF m pc Ls st)) := by
  subst hp; exact g.by fun t k => X.ldcInt hx hown (mvT hZ w) (g := mkF m pc Ls st) rfl hd t k
theorem g_ldc_w (X : Stand p l e R s m args below meth c T locs cells slots) (hx : p.tables.exec = Jvm.exec) (hZ : Z.Warmed39 s.vm) {own : String} {i : Nat} {v : Int32} (hown : s.vm.findClass own = some m.cls) (w : (Cond.constant own i v).before a0 Z = true) (pc' : Nat) (hd : decode c.code pc = .ok (.ldc_w i, 3)) (hp : pc + 3 = pc') (g : Go p e below s Q rc rs (T.setTop (mkF m pc' Ls (.int v :: st)))) : Go p e below s Q rc rs (T.setTop (mkF m pc Ls st)) := by
  subst hp; exact g.by fun t k => X.ldcwInt hx hown (mvT hZ w) (g := mkF m pc Ls st) rfl hd t k
theorem g_ldc2_w (X : Stand p l e R s m args below meth c T locs cells slots) (hx : p.tables.exec = Jvm.exec) (hZ : Z.Warmed39 s.vm) {own : String} {i : Nat} {v : Int64} (hown : s.vm.findClass own = some m.cls) (w : (Cond.constantLong own i v).before a0 Z = true) (pc' : Nat) (hd : decode c.code pc = .ok (.ldc2_w i, 3)) (hp : pc + 3 = pc') (g : Go p e below s Q rc rs (T.setTop (mkF m pc' Ls (.long v :: st)))) : Go p e below s Q rc rs (T.setTop (mkF m pc Ls st)) := by
  subst hp; exact g.by fun t k => X.ldc2Long hx hown (mvT hZ w) (g := mkF m pc Ls st) rfl hd t k
theorem g_iadd (X : Stand p l e R s m args below meth c T locs cells slots) (hx : p.tables.exec = Jvm.exec) {x y : Int32} (pc' : Nat) (hd : decode c.code pc = .ok (.iadd, 1)) (hp : pc + 1 = pc') (g : Go p e below s Q rc rs (T.setTop (mkF m pc' Ls (.int (x + y) :: st)))) : Go p e below s Q rc rs (T.setTop (mkF m pc Ls (.int y :: .int x :: st))) := by
  subst hp; exact g.by fun t k => XS.iadd X.here hx rfl hd rfl k
theorem g_isub (X : Stand p l e R s m args below meth c T locs cells slots) (hx : p.tables.exec = Jvm.exec) {x y : Int32} (pc' : Nat) (hd : decode c.code pc = .ok (.isub, 1)) (hp : pc + 1 = pc') (g : Go p e below s Q rc rs (T.setTop (mkF m pc' Ls (.int (x - y) :: st)))) : Go p e below s Q rc rs (T.setTop (mkF m pc Ls (.int y :: .int x :: st))) := by
  subst hp; exact g.by fun t k => XS.isub X.here hx rfl hd rfl k
theorem g_imul (X : Stand p l e R s m args below meth c T locs cells slots) (hx : p.tables.exec = Jvm.exec) {x y : Int32} (pc' : Nat) (hd : decode c.code pc = .ok (.imul, 1)) (hp : pc + 1 = pc') (g : Go p e below s Q rc rs (T.setTop (mkF m pc' Ls (.int (x * y) :: st)))) : Go p e below s Q rc rs (T.setTop (mkF m pc Ls (.int y :: .int x :: st))) := by
  subst hp; exact g.by fun t k => XS.imul X.here hx rfl hd rfl k
theorem g_iand (X : Stand p l e R s m args below meth c T locs cells slots) (hx : p.tables.exec = Jvm.exec) {x y : Int32} (pc' : Nat) (hd : decode c.code pc = .ok (.iand, 1)) (hp : pc + 1 = pc') (g : Go p e below s Q rc rs (T.setTop (mkF m pc' Ls (.int (x &&& y) :: st)))) : Go p e below s Q rc rs (T.setTop (mkF m pc Ls (.int y :: .int x :: st))) := by
  subst hp; exact g.by fun t k => XS.iand X.here hx rfl hd rfl k
theorem g_ior (X : Stand p l e R s m args below meth c T locs cells slots) (hx : p.tables.exec = Jvm.exec) {x y : Int32} (pc' : Nat) (hd : decode c.code pc = .ok (.ior, 1)) (hp : pc + 1 = pc') (g : Go p e below s Q rc rs (T.setTop (mkF m pc' Ls (.int (x ||| y) :: st)))) : Go p e below s Q rc rs (T.setTop (mkF m pc Ls (.int y :: .int x :: st))) := by
  subst hp; exact g.by fun t k => XS.ior X.here hx rfl hd rfl k
theorem g_ixor (X : Stand p l e R s m args below meth c T locs cells slots) (hx : p.tables.exec = Jvm.exec) {x y : Int32} (pc' : Nat) (hd : decode c.code pc = .ok (.ixor, 1)) (hp : pc + 1 = pc') (g : Go p e below s Q rc rs (T.setTop (mkF m pc' Ls (.int (x ^^^ y) :: st)))) : Go p e below s Q rc rs (T.setTop (mkF m pc Ls (.int y :: .int x :: st))) := by
  subst hp; exact g.by fun t k => XS.ixor X.here hx rfl hd rfl k
theorem g_ineg (X : Stand p l e R s m args below meth c T locs cells slots) (hx : p.tables.exec = Jvm.exec) {x : Int32} (pc' : Nat) (hd : decode c.code pc = .ok (.ineg, 1)) (hp : pc + 1 = pc') (g : Go p e below s Q rc rs (T.setTop (mkF m pc' Ls (.int (-x) :: st)))) : Go p e below s Q rc rs (T.setTop (mkF m pc Ls (.int x :: st))) := by
  subst hp; exact g.by fun t k => XS.ineg X.here hx rfl hd rfl k
theorem g_idiv (X : Stand p l e R s m args below meth c T locs cells slots) (hx : p.tables.exec = Jvm.exec) {x y : Int32} (pc' : Nat) (hd : decode c.code pc = .ok (.idiv, 1)) (hy : y ≠ 0) (hp : pc + 1 = pc') (g : Go p e below s Q rc rs (T.setTop (mkF m pc' Ls (.int (x / y) :: st)))) : Go p e below s Q rc rs (T.setTop (mkF m pc Ls (.int y :: .int x :: st))) := by
  subst hp; exact g.by fun t k => XS.idiv X.here hx rfl hd rfl hy k
theorem g_ladd (X : Stand p l e R s m args below meth c T locs cells slots) (hx : p.tables.exec = Jvm.exec) {x y : Int64} (pc' : Nat) (hd : decode c.code pc = .ok (.ladd, 1)) (hp : pc + 1 = pc') (g : Go p e below s Q rc rs (T.setTop (mkF m pc' Ls (.long (x + y) :: st)))) : Go p e below s Q rc rs (T.setTop (mkF m pc Ls (.long y :: .long x :: st))) := by
  subst hp; exact g.by fun t k => XS.ladd X.here hx rfl hd rfl k
theorem g_lsub (X : Stand p l e R s m args below meth c T locs cells slots) (hx : p.tables.exec = Jvm.exec) {x y : Int64} (pc' : Nat) (hd : decode c.code pc = .ok (.lsub, 1)) (hp : pc + 1 = pc') (g : Go p e below s Q rc rs (T.setTop (mkF m pc' Ls (.long (x - y) :: st)))) : Go p e below s Q rc rs (T.setTop (mkF m pc Ls (.long y :: .long x :: st))) := by
  subst hp; exact g.by fun t k => XS.lsub X.here hx rfl hd rfl k
theorem g_lmul (X : Stand p l e R s m args below meth c T locs cells slots) (hx : p.tables.exec = Jvm.exec) {x y : Int64} (pc' : Nat) (hd : decode c.code pc = .ok (.lmul, 1)) (hp : pc + 1 = pc') (g : Go p e below s Q rc rs (T.setTop (mkF m pc' Ls (.long (x * y) :: st)))) : Go p e below s Q rc rs (T.setTop (mkF m pc Ls (.long y :: .long x :: st))) := by
  subst hp; exact g.by fun t k => XS.lmul X.here hx rfl hd rfl k
theorem g_land (X : Stand p l e R s m args below meth c T locs cells slots) (hx : p.tables.exec = Jvm.exec) {x y : Int64} (pc' : Nat) (hd : decode c.code pc = .ok (.land, 1)) (hp : pc + 1 = pc') (g : Go p e below s Q rc rs (T.setTop (mkF m pc' Ls (.long (x &&& y) :: st)))) : Go p e below s Q rc rs (T.setTop (mkF m pc Ls (.long y :: .long x :: st))) := by
  subst hp; exact g.by fun t k => XS.land X.here hx rfl hd rfl k
theorem g_lor (X : Stand p l e R s m args below meth c T locs cells slots) (hx : p.tables.exec = Jvm.exec) {x y : Int64} (pc' : Nat) (hd : decode c.code pc = .ok (.lor, 1)) (hp : pc + 1 = pc') (g : Go p e below s Q rc rs (T.setTop (mkF m pc' Ls (.long (x ||| y) :: st)))) : Go p e below s Q rc rs (T.setTop (mkF m pc Ls (.long y :: .long x :: st))) := by
  subst hp; exact g.by fun t k => XS.lor X.here hx rfl hd rfl k
theorem g_lxor (X : Stand p l e R s m args below meth c T locs cells slots) (hx : p.tables.exec = Jvm.exec) {x y : Int64} (pc' : Nat) (hd : decode c.code pc = .ok (.lxor, 1)) (hp : pc + 1 = pc') (g : Go p e below s Q rc rs (T.setTop (mkF m pc' Ls (.long (x ^^^ y) :: st)))) : Go p e below s Q rc rs (T.setTop (mkF m pc Ls (.long y :: .long x :: st))) := by
  subst hp; exact g.by fun t k => XS.lxor X.here hx rfl hd rfl k
theorem g_lneg (X : Stand p l e R s m args below meth c T locs cells slots) (hx : p.tables.exec = Jvm.exec) {x : Int64} (pc' : Nat) (hd : decode c.code pc = .ok (.lneg, 1)) (hp : pc + 1 = pc') (g : Go p e below s Q rc rs (T.setTop (mkF m pc' Ls (.long (-x) :: st)))) : Go p e below s Q rc rs (T.setTop (mkF m pc Ls (.long x :: st))) := by
  subst hp; exact g.by fun t k => XS.lneg X.here hx rfl hd rfl k
theorem g_ldiv (X : Stand p l e R s m args below meth c T locs cells slots) (hx : p.tables.exec = Jvm.exec) {x y : Int64} (pc' : Nat) (hd : decode c.code pc = .ok (.ldiv, 1)) (hy : y ≠ 0) (hp : pc + 1 = pc') (g : Go p e below s Q rc rs (T.setTop (mkF m pc' Ls (.long (x / y) :: st)))) : Go p e below s Q rc rs (T.setTop (mkF m pc Ls (.long y :: .long x :: st))) := by
  subst hp; exact g.by fun t k => XS.ldiv X.here hx rfl hd rfl hy k
theorem g_irem (X : Stand p l e R s m args below meth c T locs cells slots) (hx : p.tables.exec = Jvm.exec) {x y : Int32} (pc' : Nat) (hd : decode c.code pc = .ok (.irem, 1)) (hy : y ≠ 0) (hp : pc + 1 = pc') (g : Go p e below s Q rc rs (T.setTop (mkF m pc' Ls (.int (x % y) :: st)))) : Go p e below s Q rc rs (T.setTop (mkF m pc Ls (.int y :: .int x :: st))) := by
  subst hp; exact g.by fun t k => iremM X hx rfl hd rfl hy k
theorem g_lrem (X : Stand p l e R s m args below meth c T locs cells slots) (hx : p.tables.exec = Jvm.exec) {x y : Int64} (pc' : Nat) (hd : decode c.code pc = .ok (.lrem, 1)) (hy : y ≠ 0) (hp : pc + 1 = pc') (g : Go p e below s Q rc rs (T.setTop (mkF m pc' Ls (.long (x % y) :: st)))) : Go p e below s Q rc rs (T.setTop (mkF m pc Ls (.long y :: .long x :: st))) := by
  subst hp; exact g.by fun t k => XS.lrem X.here hx rfl hd rfl hy (by rw [lrem_mod]; exact k)
theorem g_ishl (X : Stand p l e R s m args below meth c T locs cells slots) (hx : p.tables.exec = Jvm.exec) {x : Int32} {y : Int32} (pc' : Nat) (hd : decode c.code pc = .ok (.ishl, 1)) (hp : pc + 1 = pc') (g : Go p e below s Q rc rs (T.setTop (mkF m pc' Ls (.int (shlI x y) :: st)))) : Go p e below s Q rc rs (T.setTop (mkF m pc Ls (.int y :: .int x :: st))) := by
  subst hp; exact g.by fun t k => XS.ishl X.here hx rfl hd rfl k
theorem g_ishr (X : Stand p l e R s m args below meth c T locs cells slots) (hx : p.tables.exec = Jvm.exec) {x : Int32} {y : Int32} (pc' : Nat) (hd : decode c.code pc = .ok (.ishr, 1)) (hp : pc + 1 = pc') (g : Go p e below s Q rc rs (T.setTop (mkF m pc' Ls (.int (shrI x y) :: st)))) : Go p e below s Q rc rs (T.setTop (mkF m pc Ls (.int y :: .int x :: st))) := by
  subst hp; exact g.by fun t k => XS.ishr X.here hx rfl hd rfl k
theorem g_iushr (X : Stand p l e R s m args below meth c T locs cells slots) (hx : p.tables.exec = Jvm.exec) {x : Int32} {y : Int32} (pc' : Nat) (hd : decode c.code pc = .ok (.iushr, 1)) (hp : pc + 1 = pc') (g : Go p e below s Q rc rs (T.setTop (mkF m pc' Ls (.int (ushrI x y) :: st)))) : Go p e below s Q rc rs (T.setTop (mkF m pc Ls (.int y :: .int x :: st))) := by
  subst hp; exact g.by fun t k => XS.iushr X.here hx rfl hd rfl k
theorem g_lshl (X : Stand p l e R s m args below meth c T locs cells slots) (hx : p.tables.exec = Jvm.exec) {x : Int64} {y : Int32} (pc' : Nat) (hd : decode c.code pc = .ok (.lshl, 1)) (hp : pc + 1 = pc') (g : Go p e below s Q rc rs (T.setTop (mkF m pc' Ls (.long (shlJ x y) :: st)))) : Go p e below s Q rc rs (T.setTop (mkF m pc Ls (.int y :: .long x :: st))) := by
  subst hp; exact g.by fun t k => XS.lshl X.here hx rfl hd rfl k
theorem g_lshr (X : Stand p l e R s m args below meth c T locs cells slots) (hx : p.tables.exec = Jvm.exec) {x : Int64} {y : Int32} (pc' : Nat) (hd : decode c.code pc = .ok (.lshr, 1)) (hp : pc + 1 = pc') (g : Go p e below s Q rc rs (T.setTop (mkF m pc' Ls (.long (shrJ x y) :: st)))) : Go p e below s Q rc rs (T.setTop (mkF m pc Ls (.int y :: .long x :: st))) := by
  subst hp; exact g.by fun t k => XS.lshr X.here hx rfl hd rfl k
theorem g_lushr (X : Stand p l e R s m args below meth c T locs cells slots) (hx : p.tables.exec = Jvm.exec) {x : Int64} {y : Int32} (pc' : Nat) (hd : decode c.code pc = .ok (.lushr, 1)) (hp : pc + 1 = pc') (g : Go p e below s Q rc rs (T.setTop (mkF m pc' Ls (.long (ushrJ x y) :: st)))) : Go p e below s Q rc rs (T.setTop (mkF m pc Ls (.int y :: .long x :: st))) := by
  subst hp; exact g.by fun t k => XS.lushr X.here hx rfl hd rfl k
theorem g_i2l (X : Stand p l e R s m args below meth c T locs cells slots) (hx : p.tables.exec = Jvm.exec) {x : Int32} (pc' : Nat) (hd : decode c.code pc = .ok (.i2l, 1)) (hp : pc + 1 = pc') (g : Go p e below s Q rc rs (T.setTop (mkF m pc' Ls (.long (x.toInt64) :: st)))) : Go p e below s Q rc rs (T.setTop (mkF m pc Ls (.int x :: st))) := by
  subst hp; exact g.by fun t k => XS.i2l X.here hx rfl hd rfl k
theorem g_l2i (X : Stand p l e R s m args below meth c T locs cells slots) (hx : p.tables.exec = Jvm.exec) {x : Int64} (pc' : Nat) (hd : decode c.code pc = .ok (.l2i, 1)) (hp : pc + 1 = pc') (g : Go p e below s Q rc rs (T.setTop (mkF m pc' Ls (.int (x.toInt32) :: st)))) : Go p e below s Q rc rs (T.setTop (mkF m pc Ls (.long x :: st))) := by
  subst hp; exact g.by fun t k => XS.l2i X.here hx rfl hd rfl k
theorem g_i2b (X : Stand p l e R s m args below meth c T locs cells slots) (hx : p.tables.exec = Jvm.exec) {x : Int32} (pc' : Nat) (hd : decode c.code pc = .ok (.i2b, 1)) (hp : pc + 1 = pc') (g : Go p e below s Q rc rs (T.setTop (mkF m pc' Ls (.int (i2bI x) :: st)))) : Go p e below s Q rc rs (T.setTop (mkF m pc Ls (.int x :: st))) := by
  subst hp; exact g.by fun t k => XS.i2b X.here hx rfl hd rfl k
theorem g_i2c (X : Stand p l e R s m args below meth c T locs cells slots) (hx : p.tables.exec = Jvm.exec) {x : Int32} (pc' : Nat) (hd : decode c.code pc = .ok (.i2c, 1)) (hp : pc + 1 = pc') (g : Go p e below s Q rc rs (T.setTop (mkF m pc' Ls (.int (i2cI x) :: st)))) : Go p e below s Q rc rs (T.setTop (mkF m pc Ls (.int x :: st))) := by
  subst hp; exact g.by fun t k => XS.i2c X.here hx rfl hd rfl k
theorem g_i2s (X : Stand p l e R s m args below meth c T locs cells slots) (hx : p.tables.exec = Jvm.exec) {x : Int32} (pc' : Nat) (hd : decode c.code pc = .ok (.i2s, 1)) (hp : pc + 1 = pc') (g : Go p e below s Q rc rs (T.setTop (mkF m pc' Ls (.int (i2sI x) :: st)))) : Go p e below s Q rc rs (T.setTop (mkF m pc Ls (.int x :: st))) := by
  subst hp; exact g.by fun t k => XS.i2s X.here hx rfl hd rfl k
theorem g_lcmp (X : Stand p l e R s m args below meth c T locs cells slots) (hx : p.tables.exec = Jvm.exec) {x y : Int64} (pc' : Nat) (hd : decode c.code pc = .ok (.lcmp, 1)) (hp : pc + 1 = pc') (g : Go p e below s Q rc rs (T.setTop (mkF m pc' Ls (.int (lcmpW x y) :: st)))) : Go p e below s Q rc rs (T.setTop (mkF m pc Ls (.long y :: .long x :: st))) := by
  subst hp; exact g.by fun t k => XS.lcmp X.here hx rfl hd rfl k
theorem g_iinc (X : Stand p l e R s m args below meth c T locs cells slots) (hx : p.tables.exec = Jvm.exec) {k : Nat} {i : Int} {x : Int32} (v : Int32) (l' : Array Slot) (pc' : Nat) (hd : decode c.code pc = .ok (.iinc k i, 3)) (hv : Int32.ofInt i = v) (hl : Ls[k]? = some (.val (.int x))) (hl' : storeLocals Ls k (.int (x + v)) = some l') (hp : pc + 3 = pc') (g : Go p e below s Q rc rs (T.setTop (mkF m pc' l' st))) : Go p e below s Q rc rs (T.setTop (mkF m pc Ls st)) := by
  subst hp hv; exact g.by fun t k => XS.iinc X.here hx rfl hd hl hl' k
theorem g_dup (X : Stand p l e R s m args below meth c T locs cells slots) (hx : p.tables.exec = Jvm.exec) {x : Value} (pc' : Nat) (hd : decode c.code pc = .ok (.dup, 1)) (hc : x.category = 1) (hp : pc + 1 = pc') (g : Go p e below s Q rc rs (T.setTop (mkF m pc' Ls (x :: x :: st)))) : Go p e below s Q rc rs (T.setTop (mkF m pc Ls (x :: st))) := by
  subst hp; exact g.by fun t k => XS.dup X.here hx rfl hd rfl hc k
theorem g_pop (X : Stand p l e R s m args below meth c T locs cells slots) (hx : p.tables.exec = Jvm.exec) {x : Value} (pc' : Nat) (hd : decode c.code pc = .ok (.pop, 1)) (hc : x.category = 1) (hp : pc + 1 = pc') (g : Go p e below s Q rc rs (T.setTop (mkF m pc' Ls st))) : Go p e below s Q rc rs (T.setTop (mkF m pc Ls (x :: st))) := by
  subst hp; exact g.by fun t k => XS.pop X.here hx rfl hd rfl hc k
theorem g_dup_x1 (X : Stand p l e R s m args below meth c T locs cells slots) (hx : p.tables.exec = Jvm.exec) {x y : Value} (pc' : Nat) (hd : decode c.code pc = .ok (.dup_x1, 1)) (hc : x.category = 1) (hc2 : y.category = 1) (hp : pc + 1 = pc') (g : Go p e below s Q rc rs (T.setTop (mkF m pc' Ls (x :: y :: x :: st)))) : Go p e below s Q rc rs (T.setTop (mkF m pc Ls (x :: y :: st))) := by
  subst hp; exact g.by fun t k => XS.dupX1 X.here hx rfl hd rfl hc hc2 k
theorem g_dup2 (X : Stand p l e R s m args below meth c T locs cells slots) (hx : p.tables.exec = Jvm.exec) {x y : Value} (pc' : Nat) (hd : decode c.code pc = .ok (.dup2, 1)) (hc : x.category = 1) (hc2 : y.category = 1) (hp : pc + 1 = pc') (g : Go p e below s Q rc rs (T.setTop (mkF m pc' Ls (x :: y :: x :: y :: st)))) : Go p e below s Q rc rs (T.setTop (mkF m pc Ls (x :: y :: st))) := by
  subst hp; exact g.by fun t k => XT.dup2 X.here hx rfl hd rfl hc hc2 k
theorem g_dup2L (X : Stand p l e R s m args below meth c T locs cells slots) (hx : p.tables.exec = Jvm.exec) {x : Int64} (pc' : Nat) (hd : decode c.code pc = .ok (.dup2, 1)) (hp : pc + 1 = pc') (g : Go p e below s Q rc rs (T.setTop (mkF m pc' Ls (.long x :: .long x :: st)))) : Go p e below s Q rc rs (T.setTop (mkF m pc Ls (.long x :: st))) := by
  subst hp; exact g.by fun t k => XT.dup2L X.here hx rfl hd rfl k
theorem g_pop2L (X : Stand p l e R s m args below meth c T locs cells slots) (hx : p.tables.exec = Jvm.exec) {x : Int64} (pc' : Nat) (hd : decode c.code pc = .ok (.pop2, 1)) (hp : pc + 1 = pc') (g : Go p e below s Q rc rs (T.setTop (mkF m pc' Ls st))) : Go p e below s Q rc rs (T.setTop (mkF m pc Ls (.long x :: st))) := by
  subst hp; refine g.by fun t k => ?_
  jvm_step X.here [X.here.top, hx, hd, Value.category]
  exact k
theorem g_goto (X : Stand p l e R s m args below meth c T locs cells slots) (hx : p.tables.exec = Jvm.exec) {o : Int} (pc' : Nat) (hd : decode c.code pc = .ok (.goto o, 3)) (ho : 0 ≤ (pc : Int) + o) (hp : ((pc : Int) + o).toNat = pc') (g : Go p e below s Q rc rs (T.setTop (mkF m pc' Ls st))) : Go p e below s Q rc rs (T.setTop (mkF m pc Ls st)) := by
  subst hp; exact g.by fun t k => XS.goto X.here hx rfl rfl hd ho rfl k
theorem g_icmp_lt (X : Stand p l e R s m args below meth c T locs cells slots) (hx : p.tables.exec = Jvm.exec) {x y : Int32} {o : Int} (pcY pcN : Nat) (hd : decode c.code pc = .ok (.if_icmp .lt o, 3)) (ho : 0 ≤ (pc : Int) + o) (hY : ((pc : Int) + o).toNat = pcY) (hN : pc + 3 = pcN) (gp : x < y → Go p e below s Q rc rs (T.setTop (mkF m pcY Ls st))) (gn : ¬ x < y → Go p e below s Q rc rs (T.setTop (mkF m pcN Ls st))) : Go p e below s Q rc rs (T.setTop (mkF m pc Ls (.int y :: .int x :: st))) := by
  subst hY hN
  by_cases q : x < y
  · exact (gp q).by fun t k => XS.icmpYes X.here hx rfl rfl hd rfl (tlt q).1 ho rfl k
  · exact (gn q).by fun t k => XS.icmpNo X.here hx rfl hd rfl (flt q).1 k
theorem g_if0_lt (X : Stand p l e R s m args below meth c T locs cells slots) (hx : p.tables.exec = Jvm.exec) {x : Int32} {o : Int} (pcY pcN : Nat) (hd : decode c.code pc = .ok (.ifCond .lt o, 3)) (ho : 0 ≤ (pc : Int) + o) (hY : ((pc : Int) + o).toNat = pcY) (hN : pc + 3 = pcN) (gp : x < 0 → Go p e below s Q rc rs (T.setTop (mkF m pcY Ls st))) (gn : ¬ x < 0 → Go p e below s Q rc rs (T.setTop (mkF m pcN Ls st))) : Go p e below s Q rc rs (T.setTop (mkF m pc Ls (.int x :: st))) := by
  subst hY hN
  by_cases q : x < 0
  · exact (gp q).by fun t k => XS.ifYes X.here hx rfl rfl hd rfl ((if0 _ _).trans (tlt q).1) ho rfl k
  · exact (gn q).by fun t k => XS.ifNo X.here hx rfl hd rfl ((if0 _ _).trans (flt q).1) k
theorem g_lc_lt (X : Stand p l e R s m args below meth c T locs cells slots) (hx : p.tables.exec = Jvm.exec) {x y : Int64} {o : Int} (pcY pcN : Nat) (hd : decode c.code pc = .ok (.ifCond .lt o, 3)) (ho : 0 ≤ (pc : Int) + o) (hY : ((pc : Int) + o).toNat = pcY) (hN : pc + 3 = pcN) (gp : x < y → Go p e below s Q rc rs (T.setTop (mkF m pcY Ls st))) (gn : ¬ x < y → Go p e below s Q rc rs (T.setTop (mkF m pcN Ls st))) : Go p e below s Q rc rs (T.setTop (mkF m pc Ls (.int (lcmpW x y) :: st))) :=
  g_if0_lt X hx pcY pcN hd ho hY hN (fun q => gp ((lw_lt x y).1 q)) (fun q => gn fun r => q ((lw_lt x y).2 r))
theorem g_icmp_ge (X : Stand p l e R s m args below meth c T locs cells slots) (hx : p.tables.exec = Jvm.exec) {x y : Int32} {o : Int} (pcY pcN : Nat) (hd : decode c.code pc = .ok (.if_icmp .ge o, 3)) (ho : 0 ≤ (pc : Int) + o) (hY : ((pc : Int) + o).toNat = pcY) (hN : pc + 3 = pcN) (gp : x < y → Go p e below s Q rc rs (T.setTop (mkF m pcN Ls st))) (gn : ¬ x < y → Go p e below s Q rc rs (T.setTop (mkF m pcY Ls st))) : Go p e below s Q rc rs (T.setTop (mkF m pc Ls (.int y :: .int x :: st))) := by
  subst hY hN
  by_cases q : x < y
  · exact (gp q).by fun t k => XS.icmpNo X.here hx rfl hd rfl (tlt q).2.1 k
  · exact (gn q).by fun t k => XS.icmpYes X.here hx rfl rfl hd rfl (flt q).2.1 ho rfl k
theorem g_if0_ge (X : Stand p l e R s m args below meth c T locs cells slots) (hx : p.tables.exec = Jvm.exec) {x : Int32} {o : Int} (pcY pcN : Nat) (hd : decode c.code pc = .ok (.ifCond .ge o, 3)) (ho : 0 ≤ (pc : Int) + o) (hY : ((pc : Int) + o).toNat = pcY) (hN : pc + 3 = pcN) (gp : x < 0 → Go p e below s Q rc rs (T.setTop (mkF m pcN Ls st))) (gn : ¬ x < 0 → Go p e below s Q rc rs (T.setTop (mkF m pcY Ls st))) : Go p e below s Q rc rs (T.setTop (mkF m pc Ls (.int x :: st))) := by
  subst hY hN
  by_cases q : x < 0
  · exact (gp q).by fun t k => XS.ifNo X.here hx rfl hd rfl ((if0 _ _).trans (tlt q).2.1) k
  · exact (gn q).by fun t k => XS.ifYes X.here hx rfl rfl hd rfl ((if0 _ _).trans (flt q).2.1) ho rfl k
theorem g_lc_ge (X : Stand p l e R s m args below meth c T locs cells slots) (hx : p.tables.exec = Jvm.exec) {x y : Int64} {o : Int} (pcY pcN : Nat) (hd : decode c.code pc = .ok (.ifCond .ge o, 3)) (ho : 0 ≤ (pc : Int) + o) (hY : ((pc : Int) + o).toNat = pcY) (hN : pc + 3 = pcN) (gp : x < y → Go p e below s Q rc rs (T.setTop (mkF m pcN Ls st))) (gn : ¬ x < y → Go p e below s Q rc rs (T.setTop (mkF m pcY Ls st))) : Go p e below s Q rc rs (T.setTop (mkF m pc Ls (.int (lcmpW x y) :: st))) :=
  g_if0_ge X hx pcY pcN hd ho hY hN (fun q => gp ((lw_lt x y).1 q)) (fun q => gn fun r => q ((lw_lt x y).2 r))
theorem g_icmp_gt (X : Stand p l e R s m args below meth c T locs cells slots) (hx : p.tables.exec = Jvm.exec) {x y : Int32} {o : Int} (pcY pcN : Nat) (hd : decode c.code pc = .ok (.if_icmp .gt o, 3)) (ho : 0 ≤ (pc : Int) + o) (hY : ((pc : Int) + o).toNat = pcY) (hN : pc + 3 = pcN) (gp : y < x → Go p e below s Q rc rs (T.setTop (mkF m pcY Ls st))) (gn : ¬ y < x → Go p e below s Q rc rs (T.setTop (mkF m pcN Ls st))) : Go p e below s Q rc rs (T.setTop (mkF m pc Ls (.int y :: .int x :: st))) := by
  subst hY hN
  by_cases q : y < x
  · exact (gp q).by fun t k => XS.icmpYes X.here hx rfl rfl hd rfl (tlt q).2.2.1 ho rfl k
  · exact (gn q).by fun t k => XS.icmpNo X.here hx rfl hd rfl (flt q).2.2.1 k
theorem g_if0_gt (X : Stand p l e R s m args below meth c T locs cells slots) (hx : p.tables.exec = Jvm.exec) {x : Int32} {o : Int} (pcY pcN : Nat) (hd : decode c.code pc = .ok (.ifCond .gt o, 3)) (ho : 0 ≤ (pc : Int) + o) (hY : ((pc : Int) + o).toNat = pcY) (hN : pc + 3 = pcN) (gp : 0 < x → Go p e below s Q rc rs (T.setTop (mkF m pcY Ls st))) (gn : ¬ 0 < x → Go p e below s Q rc rs (T.setTop (mkF m pcN Ls st))) : Go p e below s Q rc rs (T.setTop (mkF m pc Ls (.int x :: st))) := by
  subst hY hN
  by_cases q : 0 < x
  · exact (gp q).by fun t k => XS.ifYes X.here hx rfl rfl hd rfl ((if0 _ _).trans (tlt q).2.2.1) ho rfl k
  · exact (gn q).by fun t k => XS.ifNo X.here hx rfl hd rfl ((if0 _ _).trans (flt q).2.2.1) k
theorem g_lc_gt (X : Stand p l e R s m args below meth c T locs cells slots) (hx : p.tables.exec = Jvm.exec) {x y : Int64} {o : Int} (pcY pcN : Nat) (hd : decode c.code pc = .ok (.ifCond .gt o, 3)) (ho : 0 ≤ (pc : Int) + o) (hY : ((pc : Int) + o).toNat = pcY) (hN : pc + 3 = pcN) (gp : y < x → Go p e below s Q rc rs (T.setTop (mkF m pcY Ls st))) (gn : ¬ y < x → Go p e below s Q rc rs (T.setTop (mkF m pcN Ls st))) : Go p e below s Q rc rs (T.setTop (mkF m pc Ls (.int (lcmpW x y) :: st))) :=
  g_if0_gt X hx pcY pcN hd ho hY hN (fun q => gp ((lw_gt x y).1 q)) (fun q => gn fun r => q ((lw_gt x y).2 r))
theorem g_icmp_le (X : Stand p l e R s m args below meth c T locs cells slots) (hx : p.tables.exec = Jvm.exec) {x y : Int32} {o : Int} (pcY pcN : Nat) (hd : decode c.code pc = .ok (.if_icmp .le o, 3)) (ho : 0 ≤ (pc : Int) + o) (hY : ((pc : Int) + o).toNat = pcY) (hN : pc + 3 = pcN) (gp : y < x → Go p e below s Q rc rs (T.setTop (mkF m pcN Ls st))) (gn : ¬ y < x → Go p e below s Q rc rs (T.setTop (mkF m pcY Ls st))) : Go p e below s Q rc rs (T.setTop (mkF m pc Ls (.int y :: .int x :: st))) := by
  subst hY hN
  by_cases q : y < x
  · exact (gp q).by fun t k => XS.icmpNo X.here hx rfl hd rfl (tlt q).2.2.2 k
  · exact (gn q).by fun t k => XS.icmpYes X.here hx rfl rfl hd rfl (flt q).2.2.2 ho rfl k
theorem g_if0_le (X : Stand p l e R s m args below meth c T locs cells slots) (hx : p.tables.exec = Jvm.exec) {x : Int32} {o : Int} (pcY pcN : Nat) (hd : decode c.code pc = .ok (.ifCond .le o, 3)) (ho : 0 ≤ (pc : Int) + o) (hY : ((pc : Int) + o).toNat = pcY) (hN : pc + 3 = pcN) (gp : 0 < x → Go p e below s Q rc rs (T.setTop (mkF m pcN Ls st))) (gn : ¬ 0 < x → Go p e below s Q rc rs (T.setTop (mkF m pcY Ls st))) : Go p e below s Q rc rs (T.setTop (mkF m pc Ls (.int x :: st))) := by
  subst hY hN
  by_cases q : 0 < x
  · exact (gp q).by fun t k => XS.ifNo X.here hx rfl hd rfl ((if0 _ _).trans (tlt q).2.2.2) k
  · exact (gn q).by fun t k => XS.ifYes X.here hx rfl rfl hd rfl ((if0 _ _).trans (flt q).2.2.2) ho rfl k
theorem g_lc_le (X : Stand p l e R s m args below meth c T locs cells slots) (hx : p.tables.exec = Jvm.exec) {x y : Int64} {o : Int} (pcY pcN : Nat) (hd : decode c.code pc = .ok (.ifCond .le o, 3)) (ho : 0 ≤ (pc : Int) + o) (hY : ((pc : Int) + o).toNat = pcY) (hN : pc + 3 = pcN) (gp : y < x → Go p e below s Q rc rs (T.setTop (mkF m pcN Ls st))) (gn : ¬ y < x → Go p e below s Q rc rs (T.setTop (mkF m pcY Ls st))) : Go p e below s Q rc rs (T.setTop (mkF m pc Ls (.int (lcmpW x y) :: st))) :=
  g_if0_le X hx pcY pcN hd ho hY hN (fun q => gp ((lw_gt x y).1 q)) (fun q => gn fun r => q ((lw_gt x y).2 r))
theorem g_icmp_eq (X : Stand p l e R s m args below meth c T locs cells slots) (hx : p.tables.exec = Jvm.exec) {x y : Int32} {o : Int} (pcY pcN : Nat) (hd : decode c.code pc = .ok (.if_icmp .eq o, 3)) (ho : 0 ≤ (pc : Int) + o) (hY : ((pc : Int) + o).toNat = pcY) (hN : pc + 3 = pcN) (gp : x = y → Go p e below s Q rc rs (T.setTop (mkF m pcY Ls st))) (gn : ¬ x = y → Go p e below s Q rc rs (T.setTop (mkF m pcN Ls st))) : Go p e below s Q rc rs (T.setTop (mkF m pc Ls (.int y :: .int x :: st))) := by
  subst hY hN
  by_cases q : x = y
  · exact (gp q).by fun t k => XS.icmpYes X.here hx rfl rfl hd rfl (teq q).1 ho rfl k
  · exact (gn q).by fun t k => XS.icmpNo X.here hx rfl hd rfl (feq q).1 k
theorem g_if0_eq (X : Stand p l e R s m args below meth c T locs cells slots) (hx : p.tables.exec = Jvm.exec) {x : Int32} {o : Int} (pcY pcN : Nat) (hd : decode c.code pc = .ok (.ifCond .eq o, 3)) (ho : 0 ≤ (pc : Int) + o) (hY : ((pc : Int) + o).toNat = pcY) (hN : pc + 3 = pcN) (gp : x = 0 → Go p e below s Q rc rs (T.setTop (mkF m pcY Ls st))) (gn : ¬ x = 0 → Go p e below s Q rc rs (T.setTop (mkF m pcN Ls st))) : Go p e below s Q rc rs (T.setTop (mkF m pc Ls (.int x :: st))) := by
  subst hY hN
  by_cases q : x = 0
  · exact (gp q).by fun t k => XS.ifYes X.here hx rfl rfl hd rfl ((if0 _ _).trans (teq q).1) ho rfl k
  · exact (gn q).by fun t k => XS.ifNo X.here hx rfl hd rfl ((if0 _ _).trans (feq q).1) k
theorem g_lc_eq (X : Stand p l e R s m args below meth c T locs cells slots) (hx : p.tables.exec = Jvm.exec) {x y : Int64} {o : Int} (pcY pcN : Nat) (hd : decode c.code pc = .ok (.ifCond .eq o, 3)) (ho : 0 ≤ (pc : Int) + o) (hY : ((pc : Int) + o).toNat = pcY) (hN : pc + 3 = pcN) (gp : x = y → Go p e below s Q rc rs (T.setTop (mkF m pcY Ls st))) (gn : ¬ x = y → Go p e below s Q rc rs (T.setTop (mkF m pcN Ls st))) : Go p e below s Q rc rs (T.setTop (mkF m pc Ls (.int (lcmpW x y) :: st))) :=
  g_if0_eq X hx pcY pcN hd ho hY hN (fun q => gp ((lw_eq x y).1 q)) (fun q => gn fun r => q ((lw_eq x y).2 r))
theorem g_icmp_ne (X : Stand p l e R s m args below meth c T locs cells slots) (hx : p.tables.exec = Jvm.exec) {x y : Int32} {o : Int} (pcY pcN : Nat) (hd : decode c.code pc = .ok (.if_icmp .ne o, 3)) (ho : 0 ≤ (pc : Int) + o) (hY : ((pc : Int) + o).toNat = pcY) (hN : pc + 3 = pcN) (gp : x = y → Go p e below s Q rc rs (T.setTop (mkF m pcN Ls st))) (gn : ¬ x = y → Go p e below s Q rc rs (T.setTop (mkF m pcY Ls st))) : Go p e below s Q rc rs (T.setTop (mkF m pc Ls (.int y :: .int x :: st))) := by
  subst hY hN
  by_cases q : x = y
  · exact (gp q).by fun t k => XS.icmpNo X.here hx rfl hd rfl (teq q).2 k
  · exact (gn q).by fun t k => XS.icmpYes X.here hx rfl rfl hd rfl (feq q).2 ho rfl k
theorem g_if0_ne (X : Stand p l e R s m args below meth c T locs cells slots) (hx : p.tables.exec = Jvm.exec) {x : Int32} {o : Int} (pcY pcN : Nat) (hd : decode c.code pc = .ok (.ifCond .ne o, 3)) (ho : 0 ≤ (pc : Int) + o) (hY : ((pc : Int) + o).toNat = pcY) (hN : pc + 3 = pcN) (gp : x = 0 → Go p e below s Q rc rs (T.setTop (mkF m pcN Ls st))) (gn : ¬ x = 0 → Go p e below s Q rc rs (T.setTop (mkF m pcY Ls st))) : Go p e below s Q rc rs (T.setTop (mkF m pc Ls (.int x :: st))) := by
  subst hY hN
  by_cases q : x = 0
  · exact (gp q).by fun t k => XS.ifNo X.here hx rfl hd rfl ((if0 _ _).trans (teq q).2) k
  · exact (gn q).by fun t k => XS.ifYes X.here hx rfl rfl hd rfl ((if0 _ _).trans (feq q).2) ho rfl k
theorem g_lc_ne (X : Stand p l e R s m args below meth c T locs cells slots) (hx : p.tables.exec = Jvm.exec) {x y : Int64} {o : Int} (pcY pcN : Nat) (hd : decode c.code pc = .ok (.ifCond .ne o, 3)) (ho : 0 ≤ (pc : Int) + o) (hY : ((pc : Int) + o).toNat = pcY) (hN : pc + 3 = pcN) (gp : x = y → Go p e below s Q rc rs (T.setTop (mkF m pcN Ls st))) (gn : ¬ x = y → Go p e below s Q rc rs (T.setTop (mkF m pcY Ls st))) : Go p e below s Q rc rs (T.setTop (mkF m pc Ls (.int (lcmpW x y) :: st))) :=
  g_if0_ne X hx pcY pcN hd ho hY hN (fun q => gp ((lw_eq x y).1 q)) (fun q => gn fun r => q ((lw_eq x y).2 r))
theorem g_ifnull_no (X : Stand p l e R s m args below meth c T locs cells slots) (hx : p.tables.exec = Jvm.exec) {b : Addr} {o : Int} (pc' : Nat) (hd : decode c.code pc = .ok (.ifnull o, 3)) (hp : pc + 3 = pc') (g : Go p e below s Q rc rs (T.setTop (mkF m pc' Ls st))) : Go p e below s Q rc rs (T.setTop (mkF m pc Ls (.ref b :: st))) := by
  subst hp; exact g.by fun t k => XS.ifnullNo X.here hx rfl hd rfl k
theorem g_ifnonnull_yes (X : Stand p l e R s m args below meth c T locs cells slots) (hx : p.tables.exec = Jvm.exec) {b : Addr} {o : Int} (pc' : Nat) (hd : decode c.code pc = .ok (.ifnonnull o, 3)) (ho : 0 ≤ (pc : Int) + o) (hp : ((pc : Int) + o).toNat = pc') (g : Go p e below s Q rc rs (T.setTop (mkF m pc' Ls st))) : Go p e below s Q rc rs (T.setTop (mkF m pc Ls (.ref b :: st))) := by
  subst hp; exact g.by fun t k => XS.ifnonnullYes X.here hx rfl rfl hd rfl ho rfl k
theorem g_retI (X : Stand p l e R s m args below meth c T locs cells slots) (hx : p.tables.exec = Jvm.exec) (hret : meth.sig.returnType = some .int) (hlk : meth.locks = false) {z : Int32} (hd : decode c.code pc = .ok (.ireturn, 1)) (hc : cells ≤ rc) (hs : slots ≤ rs) (hQ : Q (some (.int z)) T.heap locs) : Go p e below s Q rc rs (T.setTop (mkF m pc Ls (.int z :: st))) := by
  obtain ⟨fs, hr, hrun, hended, hW, hsame⟩ := X.leave (v := some (.int z)) (fun q => by rw [hret] at q; cases q) hlk
  exact ⟨_, _, retI X hx hret hd hr, hrun, hended, _, _, rfl, hQ, ⟨_, rfl⟩, hW, hsame.mono hc hs⟩
theorem g_retN (X : Stand p l e R s m args below meth c T locs cells slots) (hx : p.tables.exec = Jvm.exec) {ty : FieldType} (hret : meth.sig.returnType = some ty) (ht : ty = .boolean ∨ ty = .byte ∨ ty = .char ∨ ty = .short) (hlk : meth.locks = false) {z : Int32} (hd : decode c.code pc = .ok (.ireturn, 1)) (hc : cells ≤ rc) (hs : slots ≤ rs) (hQ : Q (some (.int (nar ty z))) T.heap locs) : Go p e below s Q rc rs (T.setTop (mkF m pc Ls (.int z :: st))) := by
  obtain ⟨fs, hr, hrun, hended, hW, hsame⟩ := X.leave (v := some (.int (nar ty z))) (fun q => by rw [hret] at q; cases q) hlk
  exact ⟨_, _, retN X hx hret ht hd hr, hrun, hended, _, _, rfl, hQ, ⟨_, rfl⟩, hW, hsame.mono hc hs⟩
theorem g_retJ (X : Stand p l e R s m args below meth c T locs cells slots) (hx : p.tables.exec = Jvm.exec) (hret : meth.sig.returnType = some .long) (hlk : meth.locks = false) {z : Int64} (hd : decode c.code pc = .ok (.lreturn, 1)) (hc : cells ≤ rc) (hs : slots ≤ rs) (hQ : Q (some (.long z)) T.heap locs) : Go p e below s Q rc rs (T.setTop (mkF m pc Ls (.long z :: st))) := by
  obtain ⟨fs, hr, hrun, hended, hW, hsame⟩ := X.leave (v := some (.long z)) (fun q => by rw [hret] at q; cases q) hlk
  exact ⟨_, _, retOut X hx hret rfl (Or.inr (Or.inl ⟨rfl, rfl, z, rfl⟩)) hd hr, hrun, hended, _, _, rfl, hQ, ⟨_, rfl⟩, hW, hsame.mono hc hs⟩
theorem g_retA (X : Stand p l e R s m args below meth c T locs cells slots) (hx : p.tables.exec = Jvm.exec) {ty : FieldType} (hret : meth.sig.returnType = some ty) (ht : ty.isReference = true) (hlk : meth.locks = false) {b : Addr} (hd : decode c.code pc = .ok (.areturn, 1)) (hc : cells ≤ rc) (hs : slots ≤ rs) (hQ : Q (some (.ref b)) T.heap locs) : Go p e below s Q rc rs (T.setTop (mkF m pc Ls [.ref b])) := by
  obtain ⟨fs, hr, hrun, hended, hW, hsame⟩ := X.leave (v := some (.ref b)) (fun q => by rw [hret] at q; cases q) hlk
  exact ⟨_, _, X.areturnOut hx rfl hret ht hd hr, hrun, hended, _, _, rfl, hQ, ⟨_, rfl⟩, hW, hsame.mono hc hs⟩
theorem g_retV (X : Stand p l e R s m args below meth c T locs cells slots) (hx : p.tables.exec = Jvm.exec) (hret : meth.sig.returnType = none) (hlk : meth.locks = false) (hd : decode c.code pc = .ok (.return_, 1)) (hc : cells ≤ rc) (hs : slots ≤ rs) (hQ : Q none T.heap locs) : Go p e below s Q rc rs (T.setTop (mkF m pc Ls [])) := by
  obtain ⟨fs, hr, hrun, hended, hW, hsame⟩ := X.leave (v := none) (fun _ => rfl) hlk
  exact ⟨_, _, X.returnOut hx hret hd hr, hrun, hended, _, _, rfl, hQ, ⟨_, rfl⟩, hW, hsame.mono hc hs⟩
theorem g_body {y : MethodName} {bytes : ByteArray} {maxL : Nat} {ret : Option FieldType} {ws : List Jvm.Cond} {rm : Room} {as : Array Value} (hpn : plainFor y = true)
    (body : ∀ p e s m below meth c T, Stand p l e rm s m as below meth c T [] 0 0 → p.tables.exec = Jvm.exec → c.code = bytes → c.maxLocals = maxL → meth.sig.returnType = ret → meth.locks = false → s.vm.findClass y.cls = some m.cls → meth.name = y.name → Z.Warmed39 s.vm → T.heap = h → Go p e below s Q rc rs (T.setTop (entryFrame m as maxL))) :
    MetFree l y (head1 (Jvm.Cond.code y bytes maxL ret :: ws) rm) (fun a U => a = as ∧ Z.Warmed39 U.vm ∧ U.heap = h) (fun _ _ _ _ _ => True) (fun _ U o U' => ∃ v L, o = .returned v ∧ Q v U'.heap L ∧ FrameEnd U o U' L rc rs) := by
  refine MetFree.of_bodySF hpn hisR ?_
  intro p e s m args below meth c s₁ Bd hml hP hK
  obtain ⟨rfl, hZ, hh⟩ := hP
  exact body p e s m below meth c s₁ (Stand.of_body Bd) Bd.exec Bd.bytes hml Bd.returns Bd.notSynchronized (findClass_of_methodNamed Bd.named) (name_of_methodNamed Bd.named Bd.method).1 hZ (by rw [← hh, Bd.state]; rfl)
theorem g_callS (X : Stand p l e R s m args below meth c T locs cells slots) (hx : p.tables.exec = Jvm.exec) (hZ : Z.Warmed39 s.vm) {own : String} {i : Nat} {y : MethodName} {bytes : ByteArray} {maxL : Nat} {ret : Option FieldType} {rm : Room} {as : Array Value} {Q' : Option Value → Heap → List Loc → Prop} (hown : s.vm.findClass own = some m.cls) (w1 : (Jvm.Cond.methodLink own i y).before a0 Z = true) (w2 : (Jvm.Cond.static y).before a0 Z = true) (w3 : (Jvm.Cond.initialized y.cls).before a0 Z = true) (w4 : (Jvm.Cond.code y bytes maxL ret).before a0 Z = true) (hy : y.cls ≠ "java/lang/invoke/MethodHandle" ∧ y.cls ≠ "java/lang/invoke/VarHandle") (eT : T.heap = h) (hM : MetFree l y (head1 [Jvm.Cond.code y bytes maxL ret] rm) (fun a U => a = as ∧ Z.Warmed39 U.vm ∧ U.heap = h) (fun _ _ _ _ _ => True) (fun _ U o U' => ∃ v L, o = .returned v ∧ Q' v U'.heap L ∧ FrameEnd U o U' L rm.cells rm.slots)) (argsL rest : List Value) (W : Nat) (has : argsL.toArray = as) (hlen : ∀ sig, parseMethodDescriptor y.desc = some sig → argsL.length = sig.parameters.length) (hst : st = argsL.reverse ++ rest) (hW : (rest.map fun v => v.category).sum ≤ W) (hf : rm.frames + 1 ≤ R.frames) (hlo : W + (maxL + 11) + rm.locals ≤ R.locals) (hcl : cells + rm.cells ≤ R.cells) (hsl : slots + rm.slots ≤ R.slots) (hsz : Ls.size = c.maxLocals) (hd : decode c.code pc = .ok (.invokestatic i, 3)) (k : ∀ T' L v, Stand p l e R s m args below meth c T' (locs ++ L) (cells + rm.cells) (slots + rm.slots) → Q' v T'.heap L → Go p e below s Q rc rs (T'.setTop (mkF m (pc + 3) Ls (v.toList ++ rest)))) : Go p e below s Q rc rs (T.setTop (mkF m pc Ls st)) := by
  subst hst has
  obtain ⟨_, _, ⟨T', L', k', n'⟩, -, X', ⟨Lc, hQ, e1, e2, e3⟩, stp⟩ := Jvm.LawKit.callS X hx (y := y) hown (mvT hZ w1) (mvT hZ w2) (mvT hZ w3) (mvT hZ w4) hy (backOf (W := W) hM hZ w4 w3 hf hlo) (g := mkF m pc Ls (argsL.reverse ++ rest)) rfl hsz (argsL := argsL) (rest := rest) hlen rfl (by show 2 * 0 + _ ≤ _; omega) hd (fun _ _ => ⟨rfl, eT, hcl, hsl⟩)
  dsimp only [Pt.U, Pt.locs, Pt.cells, Pt.slots] at X' e1 e2 e3 stp hQ
  subst e1 e2 e3
  exact (k _ _ _ X' hQ).by stp
theorem g_callI (X : Stand p l e R s m args below meth c T locs cells slots) (hx : p.tables.exec = Jvm.exec) (hZ : Z.Warmed39 s.vm) {own : String} {i : Nat} {y : MethodName} {bytes : ByteArray} {maxL : Nat} {rm : Room} {as : Array Value} {Q' : Option Value → Heap → List Loc → Prop} (hy1 : y.name = "<init>") (hown : s.vm.findClass own = some m.cls) (w1 : (Jvm.Cond.methodLink own i y).before a0 Z = true) (w2 : (Jvm.Cond.instanceMethod y).before a0 Z = true) (w3 : (Jvm.Cond.initialized y.cls).before a0 Z = true) (w4 : (Jvm.Cond.code y bytes maxL none).before a0 Z = true) (hy : y.cls ≠ "java/lang/invoke/MethodHandle" ∧ y.cls ≠ "java/lang/invoke/VarHandle") (eT : T.heap = h) (hM : MetFree l y (head1 [Jvm.Cond.code y bytes maxL none] rm) (fun a U => a = as ∧ Z.Warmed39 U.vm ∧ U.heap = h) (fun _ _ _ _ _ => True) (fun _ U o U' => ∃ v L, o = .returned v ∧ Q' v U'.heap L ∧ FrameEnd U o U' L rm.cells rm.slots)) (b : Addr) (argsL rest : List Value) (W : Nat) (has : (.ref b :: argsL : List Value).toArray = as) (hlen : ∀ sig, parseMethodDescriptor y.desc = some sig → argsL.length = sig.parameters.length) (hst : st = argsL.reverse ++ .ref b :: rest) (hW : (rest.map fun v => v.category).sum ≤ W) (hf : rm.frames + 1 ≤ R.frames) (hlo : W + (maxL + 11) + rm.locals ≤ R.locals) (hcl : cells + rm.cells ≤ R.cells) (hsl : slots + rm.slots ≤ R.slots) (hsz : Ls.size = c.maxLocals) (hd : decode c.code pc = .ok (.invokespecial i, 3)) (k : ∀ T' L v, Stand p l e R s m args below meth c T' (locs ++ L) (cells + rm.cells) (slots + rm.slots) → Q' v T'.heap L → Go p e below s Q rc rs (T'.setTop (mkF m (pc + 3) Ls (v.toList ++ rest)))) : Go p e below s Q rc rs (T.setTop (mkF m pc Ls st)) := by
  subst hst has
  obtain ⟨_, _, ⟨T', L', k', n'⟩, -, X', ⟨Lc, hQ, e1, e2, e3⟩, stp⟩ := X.specialBack hx (y := y) hy1 hown (mvT hZ w1) (mvT hZ w2) (mvT hZ w4) hy (backOf (W := W) hM hZ w4 w3 hf hlo) (g := mkF m pc Ls (argsL.reverse ++ .ref b :: rest)) rfl hsz (Steps.refl _) (a := b) (argsL := argsL) (rest := rest) hlen rfl (by show 2 * 0 + _ ≤ _; omega) hd (fun _ _ => ⟨rfl, eT, hcl, hsl⟩)
  dsimp only [Pt.U, Pt.locs, Pt.cells, Pt.slots] at X' e1 e2 e3 stp hQ
  subst e1 e2 e3
  exact (k _ _ _ X' hQ).by fun t k => stp.trans k
theorem g_callV (X : Stand p l e R s m args below meth c T locs cells slots) (hx : p.tables.exec = Jvm.exec) (hZ : Z.Warmed39 s.vm) {own C : String} {i : Nat} {y : MethodName} {bytes : ByteArray} {maxL : Nat} {ret : Option FieldType} {rm : Room} {as : Array Value} {Q' : Option Value → Heap → List Loc → Prop} (hown : s.vm.findClass own = some m.cls) (w1 : (Jvm.Cond.methodLink own i y).before a0 Z = true) (w2 : (Jvm.Cond.declares y).before a0 Z = true) (w5 : (Jvm.Cond.selects C y y).before a0 Z = true) (w6 : (Jvm.Cond.instanceMethod y).before a0 Z = true) (w3 : (Jvm.Cond.initialized y.cls).before a0 Z = true) (w4 : (Jvm.Cond.code y bytes maxL ret).before a0 Z = true) (hy : y.cls ≠ "java/lang/invoke/MethodHandle" ∧ y.cls ≠ "java/lang/invoke/VarHandle") (eT : T.heap = h) (b : Addr) (E : Exa Z h b C) (hM : MetFree l y (head1 [Jvm.Cond.code y bytes maxL ret] rm) (fun a U => a = as ∧ Z.Warmed39 U.vm ∧ U.heap = h) (fun _ _ _ _ _ => True) (fun _ U o U' => ∃ v L, o = .returned v ∧ Q' v U'.heap L ∧ FrameEnd U o U' L rm.cells rm.slots)) (argsL rest : List Value) (W : Nat) (has : (.ref b :: argsL : List Value).toArray = as) (hlen : ∀ sig, parseMethodDescriptor y.desc = some sig → argsL.length = sig.parameters.length) (hst : st = argsL.reverse ++ .ref b :: rest) (hW : (rest.map fun v => v.category).sum ≤ W) (hf : rm.frames + 1 ≤ R.frames) (hlo : W + (maxL + 11) + rm.locals ≤ R.locals) (hcl : cells + rm.cells ≤ R.cells) (hsl : slots + rm.slots ≤ R.slots) (hsz : Ls.size = c.maxLocals) (hd : decode c.code pc = .ok (.invokevirtual i, 3)) (k : ∀ T' L v, Stand p l e R s m args below meth c T' (locs ++ L) (cells + rm.cells) (slots + rm.slots) → Q' v T'.heap L → Go p e below s Q rc rs (T'.setTop (mkF m (pc + 3) Ls (v.toList ++ rest)))) : Go p e below s Q rc rs (T.setTop (mkF m pc Ls st)) := by
  subst hst has
  obtain ⟨cq, kq, qa, qb, qc⟩ := isOf hZ eT E
  obtain ⟨_, _, ⟨T', L', k', n'⟩, -, X', ⟨Lc, hQ, e1, e2, e3⟩, stp⟩ := X.virtualBack hx (y := y) (z := y) hown (mvT hZ w1) (mvT hZ w2) (notFace_of_selects (args := #[]) (mvT hZ w5)) (mvT hZ w5) (mvT hZ w6) hy (backOf (W := W) hM hZ w4 w3 hf hlo) qa qc (g := mkF m pc Ls (argsL.reverse ++ .ref b :: rest)) rfl hsz (Steps.refl _) (argsL := argsL) (rest := rest) hlen rfl (by show 2 * 0 + _ ≤ _; omega) hd (fun _ _ => ⟨rfl, eT, hcl, hsl⟩)
  dsimp only [Pt.U, Pt.locs, Pt.cells, Pt.slots] at X' e1 e2 e3 stp hQ
  subst e1 e2 e3
  exact (k _ _ _ X' hQ).by fun t k => stp.trans k
theorem g_callP (X : Stand p l e R s m args below meth c T locs cells slots) (hx : p.tables.exec = Jvm.exec) (hZ : Z.Warmed39 s.vm) {own C : String} {i : Nat} {y : MethodName} {bytes : ByteArray} {maxL : Nat} {ret : Option FieldType} {rm : Room} {as : Array Value} {Q' : Option Value → Heap → List Loc → Prop} (hown : s.vm.findClass own = some m.cls) (w1 : (Jvm.Cond.methodLink own i y).before a0 Z = true) (w2 : (Jvm.Cond.instanceMethod y).before a0 Z = true) (w5 : (Jvm.Cond.selects y.cls y y).before a0 Z = true) (w6 : (Jvm.Cond.privateMethod y).before a0 Z = true) (w3 : (Jvm.Cond.initialized y.cls).before a0 Z = true) (w4 : (Jvm.Cond.code y bytes maxL ret).before a0 Z = true) (hy : y.cls ≠ "java/lang/invoke/MethodHandle" ∧ y.cls ≠ "java/lang/invoke/VarHandle") (eT : T.heap = h) (b : Addr) (E : Exa Z h b C) (hM : MetFree l y (head1 [Jvm.Cond.code y bytes maxL ret] rm) (fun a U => a = as ∧ Z.Warmed39 U.vm ∧ U.heap = h) (fun _ _ _ _ _ => True) (fun _ U o U' => ∃ v L, o = .returned v ∧ Q' v U'.heap L ∧ FrameEnd U o U' L rm.cells rm.slots)) (argsL rest : List Value) (W : Nat) (has : (.ref b :: argsL : List Value).toArray = as) (hlen : ∀ sig, parseMethodDescriptor y.desc = some sig → argsL.length = sig.parameters.length) (hst : st = argsL.reverse ++ .ref b :: rest) (hW : (rest.map fun v => v.category).sum ≤ W) (hf : rm.frames + 1 ≤ R.frames) (hlo : W + (maxL + 11) + rm.locals ≤ R.locals) (hcl : cells + rm.cells ≤ R.cells) (hsl : slots + rm.slots ≤ R.slots) (hsz : Ls.size = c.maxLocals) (hd : decode c.code pc = .ok (.invokevirtual i, 3)) (k : ∀ T' L v, Stand p l e R s m args below meth c T' (locs ++ L) (cells + rm.cells) (slots + rm.slots) → Q' v T'.heap L → Go p e below s Q rc rs (T'.setTop (mkF m (pc + 3) Ls (v.toList ++ rest)))) : Go p e below s Q rc rs (T.setTop (mkF m pc Ls st)) := by
  subst hst has
  obtain ⟨cq, q, q'⟩ := E.cell
  obtain ⟨_, _, ⟨T', L', k', n'⟩, -, X', ⟨Lc, hQ, e1, e2, e3⟩, stp⟩ := X.privateBack hx (y := y) hown (mvT hZ w1) (mvT hZ w2) (mvT hZ w5) (Cond.privateMethod_at (mvP hZ w6 (args := #[]))) (mvT hZ w4) hy (backOf (W := W) hM hZ w4 w3 hf hlo) (g := mkF m pc Ls (argsL.reverse ++ .ref b :: rest)) rfl hsz (Steps.refl _) (a := b) (by rw [eT]; exact q) q' (argsL := argsL) (rest := rest) hlen rfl (by show 2 * 0 + _ ≤ _; omega) hd (fun _ _ => ⟨rfl, eT, hcl, hsl⟩)
  dsimp only [Pt.U, Pt.locs, Pt.cells, Pt.slots] at X' e1 e2 e3 stp hQ
  subst e1 e2 e3
  exact (k _ _ _ X' hQ).by fun t k => stp.trans k
theorem g_initO (X : Stand p l e R s m args below meth c T locs cells slots) (hx : p.tables.exec = Jvm.exec) (hZ : Z.Warmed39 s.vm) {own : String} {i : Nat} (hown : s.vm.findClass own = some m.cls) (w1 : (Jvm.Cond.methodLink own i Lib.objectInit).before a0 Z = true) (w2 : (Jvm.Cond.instanceMethod Lib.objectInit).before a0 Z = true) (w3 : (Jvm.Cond.code Lib.objectInit ⟨#[0xb1]⟩ 1 none).before a0 Z = true) (eT : T.heap = h) {b : Addr} (pc' : Nat) (hsz : Ls.size = c.maxLocals) (hd : decode c.code pc = .ok (.invokespecial i, 3)) (hf : 1 ≤ R.frames) (W : Nat) (hW : (st.map fun v => v.category).sum ≤ W) (hlo : W + 12 ≤ R.locals) (hp : pc + 3 = pc') (k : ∀ T', Stand p l e R s m args below meth c T' locs cells slots → T'.heap = h → Go p e below s Q rc rs (T'.setTop (mkF m pc' Ls st))) : Go p e below s Q rc rs (T.setTop (mkF m pc Ls (.ref b :: st))) := by
  subst hp
  obtain ⟨T', X', e', stp⟩ := initO X hx hZ hown w1 w2 w3 eT (g := mkF m pc Ls (.ref b :: st)) rfl hsz rfl hd hf (W := W) (by show 2 * 0 + _ ≤ _; omega) hlo
  exact (k _ X' e').by stp
theorem g_getF (X : Stand p l e R s m args below meth c T locs cells slots) (hx : p.tables.exec = Jvm.exec) (hZ : Z.Warmed39 s.vm) {own R0 O n d : String} {i : Nat} (hown : s.vm.findClass own = some m.cls) (w : (Jvm.Cond.fieldLink own i R0 n d).before a0 Z = true) (via : Via Z R0 O n d) (eT : T.heap = h) {b : Addr} {v : Value} (F : Fld Z h b O n d v) (pc' : Nat) (hd : decode c.code pc = .ok (.getfield i, 3)) (hp : pc + 3 = pc') (k : ∀ T', Stand p l e R s m args below meth c T' locs cells slots → T'.heap = h → Go p e below s Q rc rs (T'.setTop (mkF m pc' Ls (v :: st)))) : Go p e below s Q rc rs (T.setTop (mkF m pc Ls (.ref b :: st))) := by
  subst hp
  obtain ⟨T', X', e', stp⟩ := getF X hx hZ hown (host := "") (Or.inl w) via eT F (g := mkF m pc Ls (.ref b :: st)) rfl rfl hd
  exact (k _ X' e').by stp
theorem g_putF (X : Stand p l e R s m args below meth c T locs cells slots) (hx : p.tables.exec = Jvm.exec) (hZ : Z.Warmed39 s.vm) {own R0 O n d C : String} {i kk : Nat} {ty : FieldType} (hown : s.vm.findClass own = some m.cls) (w : (Jvm.Cond.fieldLink own i R0 n d).before a0 Z = true) (via : Via Z R0 O n d) (eT : T.heap = h) {b : Addr} {v old : Value} (F : Fld Z h b O n d old) (E : Exa Z h b C) (L : (Jvm.Cond.lays C O n d).before a0 Z = true ∨ ((Jvm.Cond.laysFinal C O n d).before a0 Z = true ∧ own = O ∧ meth.name = "<init>")) (wi : (Jvm.Cond.instantiable C kk).before a0 Z = true) (hty : parseFieldDescriptor d = some ty) (hn : narrow ty v = v) (hf : fits ty v = true) (pc' : Nat) (hd : decode c.code pc = .ok (.putfield i, 3)) (hp : pc + 3 = pc') (k : ∀ T' h', Stand p l e R s m args below meth c T' (locs ++ [⟨b, Jvm.RoadKit.slotOf Z O n d⟩]) cells slots → T'.heap = h' → Wr h h' b (Jvm.RoadKit.slotOf Z O n d) v → Go p e below s Q rc rs (T'.setTop (mkF m pc' Ls st))) : Go p e below s Q rc rs (T.setTop (mkF m pc Ls (v :: .ref b :: st))) := by
  subst hp
  obtain ⟨T', h', X', e', W', stp⟩ := putF X hx hZ hown (host := "") (Or.inl w) via eT F E L wi hty hn hf (g := mkF m pc Ls (v :: .ref b :: st)) rfl rfl hd
  exact (k _ _ X' e' W').by stp
theorem g_new (X : Stand p l e R s m args below meth c T locs cells slots) (hx : p.tables.exec = Jvm.exec) (hZ : Z.Warmed39 s.vm) {own C : String} {i n : Nat} (hown : s.vm.findClass own = some m.cls) (w : (Jvm.Cond.classLink own i C).before a0 Z = true) (wi : (Jvm.Cond.instantiable C n).before a0 Z = true) (wz : (Jvm.Cond.initialized C).before a0 Z = true) (eT : T.heap = h) (pc' : Nat) (hd : decode c.code pc = .ok (.new i, 3)) (hcl : cells + 1 ≤ R.cells) (hsl : slots + n ≤ R.slots) (hp : pc + 3 = pc') (k : ∀ T' h' b, b = h.size → Stand p l e R s m args below meth c T' locs (cells + 1) (slots + n) → T'.heap = h' → Ext h h' → Exa Z h' b C → (∀ {O nm d : String} {ty : FieldType}, Laid Z a0 C O nm d → parseFieldDescriptor d = some ty → Fld Z h' b O nm d (defaultValue ty)) → Go p e below s Q rc rs (T'.setTop (mkF m pc' Ls (.ref b :: st)))) : Go p e below s Q rc rs (T.setTop (mkF m pc Ls st)) := by
  subst hp
  obtain ⟨T', h', X', e', E', A', D', -, stp⟩ := newO X hx hZ hown w wi wz eT (g := mkF m pc Ls st) rfl hd hcl hsl
  exact (k _ _ _ rfl X' e' E' A' D').by stp
/-- an array of n places whose j-th holds f j -/
def AV (Z : State) (h : Heap) (a : Addr) (ty : FieldType) (n : Nat) (f : Nat → Value) : Prop := ∃ c : Cell, Arr Z h a c ty ∧ c.slots.size = n ∧ n < 2 ^ 31 ∧ ∀ j, j < n → c.slots[j]? = some (f j)
theorem AV.ext {h' : Heap} {a : Addr} {ty : FieldType} {n : Nat} {f : Nat → Value} (F : AV Z h a ty n f) (E : Ext h h') : AV Z h' a ty n f := by obtain ⟨c, A, r⟩ := F; exact ⟨c, A.ext E, r⟩
theorem AV.other {h' : Heap} {a b : Addr} {ty : FieldType} {n sl : Nat} {f : Nat → Value} {v : Value} (F : AV Z h a ty n f) (W : Wr h h' b sl v) (q : a ≠ b) : AV Z h' a ty n f := by obtain ⟨c, A, r⟩ := F; exact ⟨c, A.other W q, r⟩
theorem AV.keep {h' : Heap} {a : Addr} {ws : List Addr} {ty : FieldType} {n : Nat} {f : Nat → Value} (F : AV Z h a ty n f) (K : Keep h h' ws) (q : a ∉ ws) : AV Z h' a ty n f := by obtain ⟨c, A, r⟩ := F; exact ⟨c, ⟨K.2.1 a c A.1 q, A.2⟩, r⟩
theorem AV.lt {a : Addr} {ty : FieldType} {n : Nat} {f : Nat → Value} (F : AV Z h a ty n f) : a < h.size := by obtain ⟨c, A, -⟩ := F; exact A.lt
theorem AV.small {a : Addr} {ty : FieldType} {n : Nat} {f : Nat → Value} (F : AV Z h a ty n f) : n < 2 ^ 31 := by obtain ⟨c, -, -, q, -⟩ := F; exact q
theorem AV.congr {a : Addr} {ty : FieldType} {n : Nat} {f g : Nat → Value} (F : AV Z h a ty n f) (q : ∀ j, j < n → f j = g j) : AV Z h a ty n g := by obtain ⟨c, A, r1, r2, r3⟩ := F; exact ⟨c, A, r1, r2, fun j hj => by rw [r3 j hj, q j hj]⟩
theorem own_idx {j : Int32} {i : Nat} (q : j.toInt = i) : ¬ j < 0 ∧ j.toNatClampNeg = i := by
  refine ⟨?_, ?_⟩
  · rw [Int32.lt_iff_toInt_lt, q]; simp
  · show j.toInt.toNat = i; omega
theorem own_in {j : Int32} {i : Nat} {cl : Cell} (q : j.toInt = i) (hi : i < cl.slots.size) : ¬ (j < 0 ∨ cl.slots.size ≤ j.toNatClampNeg) := by
  obtain ⟨q1, q2⟩ := own_idx q
  rintro (z | z)
  · exact q1 z
  · omega
def upd {α : Type} (g : Nat → α) (j : Nat) (x : α) : Nat → α := fun q => if q = j then x else g q
def AI (Z : State) (h : Heap) (a : Addr) (n : Nat) (g : Nat → Int32) : Prop := AV Z h a .int n (fun j => .int (g j))
def AJ (Z : State) (h : Heap) (a : Addr) (n : Nat) (g : Nat → Int64) : Prop := AV Z h a .long n (fun j => .long (g j))
def AB (Z : State) (h : Heap) (a : Addr) (n : Nat) (g : Nat → Int32) : Prop := AV Z h a .byte n (fun j => .int (g j))
theorem nm0 {a : Addr} : a ∉ ([] : List Addr) := nofun
theorem nm1 {a b : Addr} {ws : List Addr} (q : a ≠ b) (r : a ∉ ws) : a ∉ b :: ws := fun z => by
  rcases List.mem_cons.mp z with z | z
  · exact q z
  · exact r z
theorem AI.ext {h' : Heap} {a : Addr} {n : Nat} {g : Nat → Int32} (F : AI Z h a n g) (E : Ext h h') : AI Z h' a n g := AV.ext F E
theorem AI.other {h' : Heap} {a b : Addr} {n sl : Nat} {g : Nat → Int32} {v : Value} (F : AI Z h a n g) (W : Wr h h' b sl v) (q : a ≠ b) : AI Z h' a n g := AV.other F W q
theorem AI.keep {h' : Heap} {a : Addr} {ws : List Addr} {n : Nat} {g : Nat → Int32} (F : AI Z h a n g) (K : Keep h h' ws) (q : a ∉ ws) : AI Z h' a n g := AV.keep F K q
theorem AI.lt {a : Addr} {n : Nat} {g : Nat → Int32} (F : AI Z h a n g) : a < h.size := AV.lt F
theorem AI.small {a : Addr} {n : Nat} {g : Nat → Int32} (F : AI Z h a n g) : n < 2 ^ 31 := AV.small F
theorem AI.congr {a : Addr} {n : Nat} {g g' : Nat → Int32} (F : AI Z h a n g) (q : ∀ j, j < n → g j = g' j) : AI Z h a n g' := AV.congr F fun j hj => by rw [q j hj]
theorem AJ.ext {h' : Heap} {a : Addr} {n : Nat} {g : Nat → Int64} (F : AJ Z h a n g) (E : Ext h h') : AJ Z h' a n g := AV.ext F E
theorem AJ.other {h' : Heap} {a b : Addr} {n sl : Nat} {g : Nat → Int64} {v : Value} (F : AJ Z h a n g) (W : Wr h h' b sl v) (q : a ≠ b) : AJ Z h' a n g := AV.other F W q
theorem AJ.keep {h' : Heap} {a : Addr} {ws : List Addr} {n : Nat} {g : Nat → Int64} (F : AJ Z h a n g) (K : Keep h h' ws) (q : a ∉ ws) : AJ Z h' a n g := AV.keep F K q
theorem AJ.lt {a : Addr} {n : Nat} {g : Nat → Int64} (F : AJ Z h a n g) : a < h.size := AV.lt F
theorem AJ.small {a : Addr} {n : Nat} {g : Nat → Int64} (F : AJ Z h a n g) : n < 2 ^ 31 := AV.small F
theorem AJ.congr {a : Addr} {n : Nat} {g g' : Nat → Int64} (F : AJ Z h a n g) (q : ∀ j, j < n → g j = g' j) : AJ Z h a n g' := AV.congr F fun j hj => by rw [q j hj]
theorem AB.ext {h' : Heap} {a : Addr} {n : Nat} {g : Nat → Int32} (F : AB Z h a n g) (E : Ext h h') : AB Z h' a n g := AV.ext F E
theorem AB.other {h' : Heap} {a b : Addr} {n sl : Nat} {g : Nat → Int32} {v : Value} (F : AB Z h a n g) (W : Wr h h' b sl v) (q : a ≠ b) : AB Z h' a n g := AV.other F W q
theorem AB.keep {h' : Heap} {a : Addr} {ws : List Addr} {n : Nat} {g : Nat → Int32} (F : AB Z h a n g) (K : Keep h h' ws) (q : a ∉ ws) : AB Z h' a n g := AV.keep F K q
theorem AB.lt {a : Addr} {n : Nat} {g : Nat → Int32} (F : AB Z h a n g) : a < h.size := AV.lt F
theorem AB.small {a : Addr} {n : Nat} {g : Nat → Int32} (F : AB Z h a n g) : n < 2 ^ 31 := AV.small F
theorem AB.congr {a : Addr} {n : Nat} {g g' : Nat → Int32} (F : AB Z h a n g) (q : ∀ j, j < n → g j = g' j) : AB Z h a n g' := AV.congr F fun j hj => by rw [q j hj]
theorem g_iaload (X : Stand p l e R s m args below meth c T locs cells slots) (hx : p.tables.exec = Jvm.exec) (hZ : Z.Warmed39 s.vm) (eT : T.heap = h) {b : Addr} {n : Nat} {g : Nat → Int32} (A : AI Z h b n g) {j : Int32} (jn : Nat) (hj : j.toInt = jn) (hlt : jn < n) (pc' : Nat) (hd : decode c.code pc = .ok (.iaload, 1)) (hp : pc + 1 = pc') (k : Go p e below s Q rc rs (T.setTop (mkF m pc' Ls (.int (g jn) :: st)))) : Go p e below s Q rc rs (T.setTop (mkF m pc Ls (.int j :: .ref b :: st))) := by
  subst hp
  obtain ⟨cl, A1, A2, A3, A4⟩ := A
  exact k.by fun t k => X.iaload hx (j := j) (by rw [eT]; exact A1.1) (State.isArrayOf_alike hZ.alike A1.2.1) A1.2.2 (own_in hj (by omega)) (by rw [(own_idx hj).2]; exact A4 _ hlt) (g := mkF m pc Ls (.int j :: .ref b :: st)) rfl rfl hd t k
theorem g_laload (X : Stand p l e R s m args below meth c T locs cells slots) (hx : p.tables.exec = Jvm.exec) (hZ : Z.Warmed39 s.vm) (eT : T.heap = h) {b : Addr} {n : Nat} {g : Nat → Int64} (A : AJ Z h b n g) {j : Int32} (jn : Nat) (hj : j.toInt = jn) (hlt : jn < n) (pc' : Nat) (hd : decode c.code pc = .ok (.laload, 1)) (hp : pc + 1 = pc') (k : Go p e below s Q rc rs (T.setTop (mkF m pc' Ls (.long (g jn) :: st)))) : Go p e below s Q rc rs (T.setTop (mkF m pc Ls (.int j :: .ref b :: st))) := by
  subst hp
  obtain ⟨cl, A1, A2, A3, A4⟩ := A
  exact k.by fun t k => X.laload hx (j := j) (by rw [eT]; exact A1.1) (State.isArrayOf_alike hZ.alike A1.2.1) A1.2.2 (own_in hj (by omega)) (by rw [(own_idx hj).2]; exact A4 _ hlt) (g := mkF m pc Ls (.int j :: .ref b :: st)) rfl rfl hd t k
theorem g_baload (X : Stand p l e R s m args below meth c T locs cells slots) (hx : p.tables.exec = Jvm.exec) (hZ : Z.Warmed39 s.vm) (eT : T.heap = h) {b : Addr} {n : Nat} {g : Nat → Int32} (A : AB Z h b n g) {j : Int32} (jn : Nat) (hj : j.toInt = jn) (hlt : jn < n) (pc' : Nat) (hd : decode c.code pc = .ok (.baload, 1)) (hp : pc + 1 = pc') (k : Go p e below s Q rc rs (T.setTop (mkF m pc' Ls (.int (g jn) :: st)))) : Go p e below s Q rc rs (T.setTop (mkF m pc Ls (.int j :: .ref b :: st))) := by
  subst hp
  obtain ⟨cl, A1, A2, A3, A4⟩ := A
  exact k.by fun t k => X.baloadBytes hx (j := j) (by rw [eT]; exact A1.1) (State.isArrayOf_alike hZ.alike A1.2.1) A1.2.2 (own_in hj (by omega)) (by rw [(own_idx hj).2]; exact A4 _ hlt) (g := mkF m pc Ls (.int j :: .ref b :: st)) rfl rfl hd t k
theorem g_iastore (X : Stand p l e R s m args below meth c T locs cells slots) (hx : p.tables.exec = Jvm.exec) (hZ : Z.Warmed39 s.vm) (eT : T.heap = h) {b : Addr} {n : Nat} {g : Nat → Int32} (A : AI Z h b n g) {j : Int32} {x : Int32} (jn : Nat) (hj : j.toInt = jn) (hlt : jn < n) (pc' : Nat) (hd : decode c.code pc = .ok (.iastore, 1)) (hp : pc + 1 = pc') (k : ∀ T' h', Stand p l e R s m args below meth c T' (locs ++ [⟨b, jn⟩]) cells slots → T'.heap = h' → Wr h h' b jn (.int x) → AI Z h' b n (upd g jn x) → Go p e below s Q rc rs (T'.setTop (mkF m pc' Ls st))) : Go p e below s Q rc rs (T.setTop (mkF m pc Ls (.int x :: .int j :: .ref b :: st))) := by
  subst hp
  obtain ⟨cl, A1, A2, A3, A4⟩ := A
  obtain ⟨T', h', X', e', W', stp⟩ := stI X hx hZ eT A1 (j := j) (x := x) (own_in hj (by omega)) (g := mkF m pc Ls (.int x :: .int j :: .ref b :: st)) rfl rfl hd
  rw [(own_idx hj).2] at X' W'
  refine (k _ _ X' e' W' ⟨_, A1.same W', by rw [sz_set]; exact A2, A3, fun q hq => ?_⟩).by stp
  by_cases z : q = jn
  · subst z; simp [Cell.setSlot, A2, hq, upd]; try rfl
  · simp only [upd, z, if_false]; rw [← A4 q hq]; simp only [Cell.setSlot]; rw [Array.getElem?_setIfInBounds_ne (Ne.symm z)]
theorem g_lastore (X : Stand p l e R s m args below meth c T locs cells slots) (hx : p.tables.exec = Jvm.exec) (hZ : Z.Warmed39 s.vm) (eT : T.heap = h) {b : Addr} {n : Nat} {g : Nat → Int64} (A : AJ Z h b n g) {j : Int32} {x : Int64} (jn : Nat) (hj : j.toInt = jn) (hlt : jn < n) (pc' : Nat) (hd : decode c.code pc = .ok (.lastore, 1)) (hp : pc + 1 = pc') (k : ∀ T' h', Stand p l e R s m args below meth c T' (locs ++ [⟨b, jn⟩]) cells slots → T'.heap = h' → Wr h h' b jn (.long x) → AJ Z h' b n (upd g jn x) → Go p e below s Q rc rs (T'.setTop (mkF m pc' Ls st))) : Go p e below s Q rc rs (T.setTop (mkF m pc Ls (.long x :: .int j :: .ref b :: st))) := by
  subst hp
  obtain ⟨cl, A1, A2, A3, A4⟩ := A
  obtain ⟨T', h', X', e', W', stp⟩ := stJ X hx hZ eT A1 (j := j) (x := x) (own_in hj (by omega)) (g := mkF m pc Ls (.long x :: .int j :: .ref b :: st)) rfl rfl hd
  rw [(own_idx hj).2] at X' W'
  refine (k _ _ X' e' W' ⟨_, A1.same W', by rw [sz_set]; exact A2, A3, fun q hq => ?_⟩).by stp
  by_cases z : q = jn
  · subst z; simp [Cell.setSlot, A2, hq, upd]; try rfl
  · simp only [upd, z, if_false]; rw [← A4 q hq]; simp only [Cell.setSlot]; rw [Array.getElem?_setIfInBounds_ne (Ne.symm z)]
theorem g_bastore (X : Stand p l e R s m args below meth c T locs cells slots) (hx : p.tables.exec = Jvm.exec) (hZ : Z.Warmed39 s.vm) (eT : T.heap = h) {b : Addr} {n : Nat} {g : Nat → Int32} (A : AB Z h b n g) {j : Int32} {x : Int32} (jn : Nat) (hj : j.toInt = jn) (hlt : jn < n) (pc' : Nat) (hd : decode c.code pc = .ok (.bastore, 1)) (hp : pc + 1 = pc') (k : ∀ T' h', Stand p l e R s m args below meth c T' (locs ++ [⟨b, jn⟩]) cells slots → T'.heap = h' → Wr h h' b jn (.int (nar .byte x)) → AB Z h' b n (upd g jn (i2bI x)) → Go p e below s Q rc rs (T'.setTop (mkF m pc' Ls st))) : Go p e below s Q rc rs (T.setTop (mkF m pc Ls (.int x :: .int j :: .ref b :: st))) := by
  subst hp
  obtain ⟨cl, A1, A2, A3, A4⟩ := A
  obtain ⟨T', h', X', e', W', stp⟩ := stB X hx hZ eT A1 (j := j) (x := x) (own_in hj (by omega)) (g := mkF m pc Ls (.int x :: .int j :: .ref b :: st)) rfl rfl hd
  rw [(own_idx hj).2] at X' W'
  refine (k _ _ X' e' W' ⟨_, A1.same W', by rw [sz_set]; exact A2, A3, fun q hq => ?_⟩).by stp
  by_cases z : q = jn
  · subst z; simp [Cell.setSlot, A2, hq, upd]; try rfl
  · simp only [upd, z, if_false]; rw [← A4 q hq]; simp only [Cell.setSlot]; rw [Array.getElem?_setIfInBounds_ne (Ne.symm z)]
theorem g_arraylengthI (X : Stand p l e R s m args below meth c T locs cells slots) (hx : p.tables.exec = Jvm.exec) (hZ : Z.Warmed39 s.vm) (eT : T.heap = h) {b : Addr} {n : Nat} {g : Nat → Int32} (A : AI Z h b n g) (v : Int32) (hv : n.toInt32 = v) (pc' : Nat) (hd : decode c.code pc = .ok (.arraylength, 1)) (hp : pc + 1 = pc') (k : Go p e below s Q rc rs (T.setTop (mkF m pc' Ls (.int v :: st)))) : Go p e below s Q rc rs (T.setTop (mkF m pc Ls (.ref b :: st))) := by
  subst hp hv
  obtain ⟨cl, A1, A2, A3, A4⟩ := A
  subst A2
  exact k.by fun t k => X.arraylength hx (by rw [eT]; exact A1.1) (State.isArrayOf_alike hZ.alike A1.2.1) (g := mkF m pc Ls (.ref b :: st)) rfl rfl hd t k
theorem g_arraylengthJ (X : Stand p l e R s m args below meth c T locs cells slots) (hx : p.tables.exec = Jvm.exec) (hZ : Z.Warmed39 s.vm) (eT : T.heap = h) {b : Addr} {n : Nat} {g : Nat → Int64} (A : AJ Z h b n g) (v : Int32) (hv : n.toInt32 = v) (pc' : Nat) (hd : decode c.code pc = .ok (.arraylength, 1)) (hp : pc + 1 = pc') (k : Go p e below s Q rc rs (T.setTop (mkF m pc' Ls (.int v :: st)))) : Go p e below s Q rc rs (T.setTop (mkF m pc Ls (.ref b :: st))) := by
  subst hp hv
  obtain ⟨cl, A1, A2, A3, A4⟩ := A
  subst A2
  exact k.by fun t k => X.arraylength hx (by rw [eT]; exact A1.1) (State.isArrayOf_alike hZ.alike A1.2.1) (g := mkF m pc Ls (.ref b :: st)) rfl rfl hd t k
theorem g_arraylengthB (X : Stand p l e R s m args below meth c T locs cells slots) (hx : p.tables.exec = Jvm.exec) (hZ : Z.Warmed39 s.vm) (eT : T.heap = h) {b : Addr} {n : Nat} {g : Nat → Int32} (A : AB Z h b n g) (v : Int32) (hv : n.toInt32 = v) (pc' : Nat) (hd : decode c.code pc = .ok (.arraylength, 1)) (hp : pc + 1 = pc') (k : Go p e below s Q rc rs (T.setTop (mkF m pc' Ls (.int v :: st)))) : Go p e below s Q rc rs (T.setTop (mkF m pc Ls (.ref b :: st))) := by
  subst hp hv
  obtain ⟨cl, A1, A2, A3, A4⟩ := A
  subst A2
  exact k.by fun t k => X.arraylength hx (by rw [eT]; exact A1.1) (State.isArrayOf_alike hZ.alike A1.2.1) (g := mkF m pc Ls (.ref b :: st)) rfl rfl hd t k
theorem g_newarr (X : Stand p l e R s m args below meth c T locs cells slots) (hx : p.tables.exec = Jvm.exec) (hZ : Z.Warmed39 s.vm) {aty : ArrayType} (w : (Jvm.Cond.arrayClass (newarray.typeOf aty)).before a0 Z = true) (eT : T.heap = h) {n : Int32} (N cap : Nat) (hn : n.toInt = N) (hcap : N ≤ cap) (hb : cap * 8 ≤ 536870912) (pc' : Nat) (hd : decode c.code pc = .ok (.newarray aty, 2)) (hcl : cells + 1 ≤ R.cells) (hsl : slots + cap ≤ R.slots) (hp : pc + 2 = pc') (k : ∀ T' h' b, b = h.size → Stand p l e R s m args below meth c T' locs (cells + 1) (slots + cap) → T'.heap = h' → Ext h h' → AV Z h' b (newarray.typeOf aty) N (fun _ => defaultValue (newarray.typeOf aty)) → Go p e below s Q rc rs (T'.setTop (mkF m pc' Ls (.ref b :: st)))) : Go p e below s Q rc rs (T.setTop (mkF m pc Ls (.int n :: st))) := by
  subst hp
  obtain ⟨q1, q2⟩ := own_idx hn
  obtain ⟨T', h', kA, X', e', E', A', stp⟩ := newP X hx hZ w eT (g := mkF m pc Ls (.int n :: st)) rfl hd rfl q1 (cap := cap) (by rw [q2]; exact hcap) hb hcl hsl
  have hN : N < 2 ^ 31 := by have := n.toInt_lt; omega
  refine (k _ _ _ rfl X' e' E' ⟨_, A', by rw [sz_new, q2], hN, fun j hj => ?_⟩).by stp
  simp [newA, q2, hj]
theorem g_newarrayI (X : Stand p l e R s m args below meth c T locs cells slots) (hx : p.tables.exec = Jvm.exec) (hZ : Z.Warmed39 s.vm) (w : (Jvm.Cond.arrayClass .int).before a0 Z = true) (eT : T.heap = h) {n : Int32} (N cap : Nat) (hn : n.toInt = N) (hcap : N ≤ cap) (hb : cap * 8 ≤ 536870912) (pc' : Nat) (hd : decode c.code pc = .ok (.newarray .int, 2)) (hcl : cells + 1 ≤ R.cells) (hsl : slots + cap ≤ R.slots) (hp : pc + 2 = pc') (k : ∀ T' h' b, b = h.size → Stand p l e R s m args below meth c T' locs (cells + 1) (slots + cap) → T'.heap = h' → Ext h h' → AI Z h' b N (fun _ => (0 : Int32)) → Go p e below s Q rc rs (T'.setTop (mkF m pc' Ls (.ref b :: st)))) : Go p e below s Q rc rs (T.setTop (mkF m pc Ls (.int n :: st))) :=
  g_newarr X hx hZ (aty := .int) w eT N cap hn hcap hb pc' hd hcl hsl hp fun T' h' b q1 q2 q3 q4 q5 => k T' h' b q1 q2 q3 q4 q5
theorem g_newarrayJ (X : Stand p l e R s m args below meth c T locs cells slots) (hx : p.tables.exec = Jvm.exec) (hZ : Z.Warmed39 s.vm) (w : (Jvm.Cond.arrayClass .long).before a0 Z = true) (eT : T.heap = h) {n : Int32} (N cap : Nat) (hn : n.toInt = N) (hcap : N ≤ cap) (hb : cap * 8 ≤ 536870912) (pc' : Nat) (hd : decode c.code pc = .ok (.newarray .long, 2)) (hcl : cells + 1 ≤ R.cells) (hsl : slots + cap ≤ R.slots) (hp : pc + 2 = pc') (k : ∀ T' h' b, b = h.size → Stand p l e R s m args below meth c T' locs (cells + 1) (slots + cap) → T'.heap = h' → Ext h h' → AJ Z h' b N (fun _ => (0 : Int64)) → Go p e below s Q rc rs (T'.setTop (mkF m pc' Ls (.ref b :: st)))) : Go p e below s Q rc rs (T.setTop (mkF m pc Ls (.int n :: st))) :=
  g_newarr X hx hZ (aty := .long) w eT N cap hn hcap hb pc' hd hcl hsl hp fun T' h' b q1 q2 q3 q4 q5 => k T' h' b q1 q2 q3 q4 q5
theorem g_newarrayB (X : Stand p l e R s m args below meth c T locs cells slots) (hx : p.tables.exec = Jvm.exec) (hZ : Z.Warmed39 s.vm) (w : (Jvm.Cond.arrayClass .byte).before a0 Z = true) (eT : T.heap = h) {n : Int32} (N cap : Nat) (hn : n.toInt = N) (hcap : N ≤ cap) (hb : cap * 8 ≤ 536870912) (pc' : Nat) (hd : decode c.code pc = .ok (.newarray .byte, 2)) (hcl : cells + 1 ≤ R.cells) (hsl : slots + cap ≤ R.slots) (hp : pc + 2 = pc') (k : ∀ T' h' b, b = h.size → Stand p l e R s m args below meth c T' locs (cells + 1) (slots + cap) → T'.heap = h' → Ext h h' → AB Z h' b N (fun _ => (0 : Int32)) → Go p e below s Q rc rs (T'.setTop (mkF m pc' Ls (.ref b :: st)))) : Go p e below s Q rc rs (T.setTop (mkF m pc Ls (.int n :: st))) :=
  g_newarr X hx hZ (aty := .byte) w eT N cap hn hcap hb pc' hd hcl hsl hp fun T' h' b q1 q2 q3 q4 q5 => k T' h' b q1 q2 q3 q4 q5
end OwnKit
theorem d4_0 : decode prog_9_method_6_code 0 = .ok (.lload_n 0, 1) := by decide +kernel
theorem d4_1 : decode prog_9_method_6_code 1 = .ok (.lload_n 0, 1) := by decide +kernel
theorem d4_2 : decode prog_9_method_6_code 2 = .ok (.bipush 31, 2) := by decide +kernel
theorem d4_4 : decode prog_9_method_6_code 4 = .ok (.lushr, 1) := by decide +kernel
theorem d4_5 : decode prog_9_method_6_code 5 = .ok (.lxor, 1) := by decide +kernel
theorem d4_6 : decode prog_9_method_6_code 6 = .ok (.ldc2_w 29, 3) := by decide +kernel
theorem d4_9 : decode prog_9_method_6_code 9 = .ok (.lmul, 1) := by decide +kernel
theorem d4_10 : decode prog_9_method_6_code 10 = .ok (.ldc2_w 33, 3) := by decide +kernel
theorem d4_13 : decode prog_9_method_6_code 13 = .ok (.land, 1) := by decide +kernel
theorem d4_14 : decode prog_9_method_6_code 14 = .ok (.lstore_n 2, 1) := by decide +kernel
theorem d4_15 : decode prog_9_method_6_code 15 = .ok (.lload_n 2, 1) := by decide +kernel
theorem d4_16 : decode prog_9_method_6_code 16 = .ok (.lload_n 2, 1) := by decide +kernel
theorem d4_17 : decode prog_9_method_6_code 17 = .ok (.bipush 29, 2) := by decide +kernel
theorem d4_19 : decode prog_9_method_6_code 19 = .ok (.lushr, 1) := by decide +kernel
theorem d4_20 : decode prog_9_method_6_code 20 = .ok (.lxor, 1) := by decide +kernel
theorem d4_21 : decode prog_9_method_6_code 21 = .ok (.ldc2_w 31, 3) := by decide +kernel
theorem d4_24 : decode prog_9_method_6_code 24 = .ok (.lmul, 1) := by decide +kernel
theorem d4_25 : decode prog_9_method_6_code 25 = .ok (.ldc2_w 33, 3) := by decide +kernel
theorem d4_28 : decode prog_9_method_6_code 28 = .ok (.land, 1) := by decide +kernel
theorem d4_29 : decode prog_9_method_6_code 29 = .ok (.lstore_n 2, 1) := by decide +kernel
theorem d4_30 : decode prog_9_method_6_code 30 = .ok (.lload_n 2, 1) := by decide +kernel
theorem d4_31 : decode prog_9_method_6_code 31 = .ok (.lload_n 2, 1) := by decide +kernel
theorem d4_32 : decode prog_9_method_6_code 32 = .ok (.bipush 32, 2) := by decide +kernel
theorem d4_34 : decode prog_9_method_6_code 34 = .ok (.lushr, 1) := by decide +kernel
theorem d4_35 : decode prog_9_method_6_code 35 = .ok (.lxor, 1) := by decide +kernel
theorem d4_36 : decode prog_9_method_6_code 36 = .ok (.lstore_n 2, 1) := by decide +kernel
theorem d4_37 : decode prog_9_method_6_code 37 = .ok (.ldc2_w 11, 3) := by decide +kernel
theorem d4_40 : decode prog_9_method_6_code 40 = .ok (.ldc2_w 39, 3) := by decide +kernel
theorem d4_43 : decode prog_9_method_6_code 43 = .ok (.lload_n 2, 1) := by decide +kernel
theorem d4_44 : decode prog_9_method_6_code 44 = .ok (.lmul, 1) := by decide +kernel
theorem d4_45 : decode prog_9_method_6_code 45 = .ok (.ladd, 1) := by decide +kernel
theorem d4_46 : decode prog_9_method_6_code 46 = .ok (.lreturn, 1) := by decide +kernel
theorem pn_4 : plainName "com/example/varietal/varietal/core/random/SeededRandom" = true := by first | (simp [plainName, overriddenIn]; done) | decide +kernel
theorem ef_4 (m : MethodId) (x0 : Int64) : entryFrame m #[(.long x0)] 4 = mkF m 0 #[.val (.long x0), .second, .unset, .unset] [] := by first | (simp [entryFrame, mkF, argsToLocals, Value.category]; done) | rfl
def v4_m1 (x0 : Int64) : Int64 := (((x0 ^^^ (ushrJ x0 (31 : Int32))) * (-4658895280553007687 : Int64)) &&& (9223372036854775807 : Int64))
def v4_m2 (x0 : Int64) : Int64 := ((((v4_m1 x0) ^^^ (ushrJ (v4_m1 x0) (29 : Int32))) * (-7723592293110705685 : Int64)) &&& (9223372036854775807 : Int64))
def v4_m3 (x0 : Int64) : Int64 := ((v4_m2 x0) ^^^ (ushrJ (v4_m2 x0) (32 : Int32)))
def f4 (x0 : Int64) : Int64 := ((-7046029254386353131 : Int64) + ((2 : Int64) * (v4_m3 x0)))
def Q4 (x0 : Int64) (h0 : Heap) (v : Option Value) (h : Heap) (L : List Loc) : Prop := v = some (.long (f4 x0)) ∧ L = [] ∧ h = h0
set_option maxRecDepth 65536 in
set_option maxHeartbeats 40000000 in
theorem rm4 (l : Launch) (Z : State) (a0 : Array Value) (hw : ∀ d ∈ tables_1, d.before a0 Z = true) (ws : List Jvm.Cond) (x0 : Int64) (h0 : Heap) :
    MetFree l (⟨"com/example/varietal/varietal/core/random/SeededRandom", "step", "(J)J"⟩ : MethodName) (head1 (Jvm.Cond.code (⟨"com/example/varietal/varietal/core/random/SeededRandom", "step", "(J)J"⟩ : MethodName) prog_9_method_6_code 4 (some .long) :: ws) ({ frames := 0, cells := 0, slots := 0, locals := 0 } : Room)) (fun a U => a = #[(.long x0)] ∧ Z.Warmed39 U.vm ∧ U.heap = h0) (fun _ _ _ _ _ => True) (fun _ U o U' => ∃ v L, o = .returned v ∧ Q4 x0 h0 v U'.heap L ∧ FrameEnd U o U' L ({ frames := 0, cells := 0, slots := 0, locals := 0 } : Room).cells ({ frames := 0, cells := 0, slots := 0, locals := 0 } : Room).slots) := by
  refine g_body (plainFor_of_name pn_4) ?_
  intro p e s m below meth c T0 X0 hx hby hml hret hlk hown hnm hZ e0
  rw [ef_4]
  show Go p e below s _ _ _ (T0.setTop (mkF m 0 #[.val (.long x0), .second, .unset, .unset] []))
  refine g_lloadN X0 hx 1 (hb hby d4_0) rfl rfl ?_
  show Go p e below s _ _ _ (T0.setTop (mkF m 1 #[.val (.long x0), .second, .unset, .unset] [(.long x0)]))
  refine g_lloadN X0 hx 2 (hb hby d4_1) rfl rfl ?_
  show Go p e below s _ _ _ (T0.setTop (mkF m 2 #[.val (.long x0), .second, .unset, .unset] [(.long x0), (.long x0)]))
  refine g_bipush X0 hx (31 : Int32) 4 (hb hby d4_2) rfl rfl ?_
  show Go p e below s _ _ _ (T0.setTop (mkF m 4 #[.val (.long x0), .second, .unset, .unset] [(.int (31 : Int32)), (.long x0), (.long x0)]))
  refine g_lushr X0 hx 5 (hb hby d4_4) rfl ?_
  show Go p e below s _ _ _ (T0.setTop (mkF m 5 #[.val (.long x0), .second, .unset, .unset] [(.long (ushrJ x0 (31 : Int32))), (.long x0)]))
  refine g_lxor X0 hx 6 (hb hby d4_5) rfl ?_
  show Go p e below s _ _ _ (T0.setTop (mkF m 6 #[.val (.long x0), .second, .unset, .unset] [(.long (x0 ^^^ (ushrJ x0 (31 : Int32))))]))
  refine g_ldc2_w X0 hx hZ hown (hw _ (List.mem_of_getElem? (i := 26) rfl)) 9 (hb hby d4_6) rfl ?_
  show Go p e below s _ _ _ (T0.setTop (mkF m 9 #[.val (.long x0), .second, .unset, .unset] [(.long (-4658895280553007687 : Int64)), (.long (x0 ^^^ (ushrJ x0 (31 : Int32))))]))
  refine g_lmul X0 hx 10 (hb hby d4_9) rfl ?_
  show Go p e below s _ _ _ (T0.setTop (mkF m 10 #[.val (.long x0), .second, .unset, .unset] [(.long ((x0 ^^^ (ushrJ x0 (31 : Int32))) * (-4658895280553007687 : Int64)))]))
  refine g_ldc2_w X0 hx hZ hown (hw _ (List.mem_of_getElem? (i := 27) rfl)) 13 (hb hby d4_10) rfl ?_
  show Go p e below s _ _ _ (T0.setTop (mkF m 13 #[.val (.long x0), .second, .unset, .unset] [(.long (9223372036854775807 : Int64)), (.long ((x0 ^^^ (ushrJ x0 (31 : Int32))) * (-4658895280553007687 : Int64)))]))
  refine g_land X0 hx 14 (hb hby d4_13) rfl ?_
  show Go p e below s _ _ _ (T0.setTop (mkF m 14 #[.val (.long x0), .second, .unset, .unset] [(.long (((x0 ^^^ (ushrJ x0 (31 : Int32))) * (-4658895280553007687 : Int64)) &&& (9223372036854775807 : Int64)))]))
  refine g_lstoreN X0 hx #[.val (.long x0), .second, .val (.long (v4_m1 x0)), .second] 15 (hb hby d4_14) rfl rfl ?_
  show Go p e below s _ _ _ (T0.setTop (mkF m 15 #[.val (.long x0), .second, .val (.long (v4_m1 x0)), .second] []))
  refine g_lloadN X0 hx 16 (hb hby d4_15) rfl rfl ?_
  show Go p e below s _ _ _ (T0.setTop (mkF m 16 #[.val (.long x0), .second, .val (.long (v4_m1 x0)), .second] [(.long (v4_m1 x0))]))
  refine g_lloadN X0 hx 17 (hb hby d4_16) rfl rfl ?_
  show Go p e below s _ _ _ (T0.setTop (mkF m 17 #[.val (.long x0), .second, .val (.long (v4_m1 x0)), .second] [(.long (v4_m1 x0)), (.long (v4_m1 x0))]))
  refine g_bipush X0 hx (29 : Int32) 19 (hb hby d4_17) rfl rfl ?_
  show Go p e below s _ _ _ (T0.setTop (mkF m 19 #[.val (.long x0), .second, .val (.long (v4_m1 x0)), .second] [(.int (29 : Int32)), (.long (v4_m1 x0)), (.long (v4_m1 x0))]))
  refine g_lushr X0 hx 20 (hb hby d4_19) rfl ?_
  show Go p e below s _ _ _ (T0.setTop (mkF m 20 #[.val (.long x0), .second, .val (.long (v4_m1 x0)), .second] [(.long (ushrJ (v4_m1 x0) (29 : Int32))), (.long (v4_m1 x0))]))
  refine g_lxor X0 hx 21 (hb hby d4_20) rfl ?_
  show Go p e below s _ _ _ (T0.setTop (mkF m 21 #[.val (.long x0), .second, .val (.long (v4_m1 x0)), .second] [(.long ((v4_m1 x0) ^^^ (ushrJ (v4_m1 x0) (29 : Int32))))]))
  refine g_ldc2_w X0 hx hZ hown (hw _ (List.mem_of_getElem? (i := 28) rfl)) 24 (hb hby d4_21) rfl ?_
  show Go p e below s _ _ _ (T0.setTop (mkF m 24 #[.val (.long x0), .second, .val (.long (v4_m1 x0)), .second] [(.long (-7723592293110705685 : Int64)), (.long ((v4_m1 x0) ^^^ (ushrJ (v4_m1 x0) (29 : Int32))))]))
  refine g_lmul X0 hx 25 (hb hby d4_24) rfl ?_
  show Go p e below s _ _ _ (T0.setTop (mkF m 25 #[.val (.long x0), .second, .val (.long (v4_m1 x0)), .second] [(.long (((v4_m1 x0) ^^^ (ushrJ (v4_m1 x0) (29 : Int32))) * (-7723592293110705685 : Int64)))]))
  refine g_ldc2_w X0 hx hZ hown (hw _ (List.mem_of_getElem? (i := 27) rfl)) 28 (hb hby d4_25) rfl ?_
  show Go p e below s _ _ _ (T0.setTop (mkF m 28 #[.val (.long x0), .second, .val (.long (v4_m1 x0)), .second] [(.long (9223372036854775807 : Int64)), (.long (((v4_m1 x0) ^^^ (ushrJ (v4_m1 x0) (29 : Int32))) * (-7723592293110705685 : Int64)))]))
  refine g_land X0 hx 29 (hb hby d4_28) rfl ?_
  show Go p e below s _ _ _ (T0.setTop (mkF m 29 #[.val (.long x0), .second, .val (.long (v4_m1 x0)), .second] [(.long ((((v4_m1 x0) ^^^ (ushrJ (v4_m1 x0) (29 : Int32))) * (-7723592293110705685 : Int64)) &&& (9223372036854775807 : Int64)))]))
  refine g_lstoreN X0 hx #[.val (.long x0), .second, .val (.long (v4_m2 x0)), .second] 30 (hb hby d4_29) rfl rfl ?_
  show Go p e below s _ _ _ (T0.setTop (mkF m 30 #[.val (.long x0), .second, .val (.long (v4_m2 x0)), .second] []))
  refine g_lloadN X0 hx 31 (hb hby d4_30) rfl rfl ?_
  show Go p e below s _ _ _ (T0.setTop (mkF m 31 #[.val (.long x0), .second, .val (.long (v4_m2 x0)), .second] [(.long (v4_m2 x0))]))
  refine g_lloadN X0 hx 32 (hb hby d4_31) rfl rfl ?_
  show Go p e below s _ _ _ (T0.setTop (mkF m 32 #[.val (.long x0), .second, .val (.long (v4_m2 x0)), .second] [(.long (v4_m2 x0)), (.long (v4_m2 x0))]))
  refine g_bipush X0 hx (32 : Int32) 34 (hb hby d4_32) rfl rfl ?_
  show Go p e below s _ _ _ (T0.setTop (mkF m 34 #[.val (.long x0), .second, .val (.long (v4_m2 x0)), .second] [(.int (32 : Int32)), (.long (v4_m2 x0)), (.long (v4_m2 x0))]))
  refine g_lushr X0 hx 35 (hb hby d4_34) rfl ?_
  show Go p e below s _ _ _ (T0.setTop (mkF m 35 #[.val (.long x0), .second, .val (.long (v4_m2 x0)), .second] [(.long (ushrJ (v4_m2 x0) (32 : Int32))), (.long (v4_m2 x0))]))
  refine g_lxor X0 hx 36 (hb hby d4_35) rfl ?_
  show Go p e below s _ _ _ (T0.setTop (mkF m 36 #[.val (.long x0), .second, .val (.long (v4_m2 x0)), .second] [(.long ((v4_m2 x0) ^^^ (ushrJ (v4_m2 x0) (32 : Int32))))]))
  refine g_lstoreN X0 hx #[.val (.long x0), .second, .val (.long (v4_m3 x0)), .second] 37 (hb hby d4_36) rfl rfl ?_
  show Go p e below s _ _ _ (T0.setTop (mkF m 37 #[.val (.long x0), .second, .val (.long (v4_m3 x0)), .second] []))
  refine g_ldc2_w X0 hx hZ hown (hw _ (List.mem_of_getElem? (i := 9) rfl)) 40 (hb hby d4_37) rfl ?_
  show Go p e below s _ _ _ (T0.setTop (mkF m 40 #[.val (.long x0), .second, .val (.long (v4_m3 x0)), .second] [(.long (-7046029254386353131 : Int64))]))
  refine g_ldc2_w X0 hx hZ hown (hw _ (List.mem_of_getElem? (i := 29) rfl)) 43 (hb hby d4_40) rfl ?_
  show Go p e below s _ _ _ (T0.setTop (mkF m 43 #[.val (.long x0), .second, .val (.long (v4_m3 x0)), .second] [(.long (2 : Int64)), (.long (-7046029254386353131 : Int64))]))
  refine g_lloadN X0 hx 44 (hb hby d4_43) rfl rfl ?_
  show Go p e below s _ _ _ (T0.setTop (mkF m 44 #[.val (.long x0), .second, .val (.long (v4_m3 x0)), .second] [(.long (v4_m3 x0)), (.long (2 : Int64)), (.long (-7046029254386353131 : Int64))]))
  refine g_lmul X0 hx 45 (hb hby d4_44) rfl ?_
  show Go p e below s _ _ _ (T0.setTop (mkF m 45 #[.val (.long x0), .second, .val (.long (v4_m3 x0)), .second] [(.long ((2 : Int64) * (v4_m3 x0))), (.long (-7046029254386353131 : Int64))]))
  refine g_ladd X0 hx 46 (hb hby d4_45) rfl ?_
  show Go p e below s _ _ _ (T0.setTop (mkF m 46 #[.val (.long x0), .second, .val (.long (v4_m3 x0)), .second] [(.long ((-7046029254386353131 : Int64) + ((2 : Int64) * (v4_m3 x0))))]))
  exact g_retJ X0 hx hret hlk (hb hby d4_46) (by decide) (by decide) ⟨congrArg (fun z => some (Value.long z)) (show ((-7046029254386353131 : Int64) + ((2 : Int64) * (v4_m3 x0))) = (f4 x0) from by rw [f4]), rfl, e0⟩
theorem d8_0 : decode method_2_code 0 = .ok (.lload_n 2, 1) := by decide +kernel
theorem d8_1 : decode method_2_code 1 = .ok (.ldc2_w 7, 3) := by decide +kernel
theorem d8_4 : decode method_2_code 4 = .ok (.lload_n 0, 1) := by decide +kernel
theorem d8_5 : decode method_2_code 5 = .ok (.lload_n 2, 1) := by decide +kernel
theorem d8_6 : decode method_2_code 6 = .ok (.lmul, 1) := by decide +kernel
theorem d8_7 : decode method_2_code 7 = .ok (.lsub, 1) := by decide +kernel
theorem d8_8 : decode method_2_code 8 = .ok (.lmul, 1) := by decide +kernel
theorem d8_9 : decode method_2_code 9 = .ok (.lreturn, 1) := by decide +kernel
theorem pn_8 : plainName "com/example/varietal/varietal/core/random/SeededRandomNextLongPinLaw" = true := by first | (simp [plainName, overriddenIn]; done) | decide +kernel
theorem ef_8 (m : MethodId) (x0 : Int64) (x1 : Int64) : entryFrame m #[(.long x0), (.long x1)] 4 = mkF m 0 #[.val (.long x0), .second, .val (.long x1), .second] [] := by first | (simp [entryFrame, mkF, argsToLocals, Value.category]; done) | rfl
def f8 (x0 : Int64) (x1 : Int64) : Int64 := (x1 * ((2 : Int64) - (x0 * x1)))
def Q8 (x0 : Int64) (x1 : Int64) (h0 : Heap) (v : Option Value) (h : Heap) (L : List Loc) : Prop := v = some (.long (f8 x0 x1)) ∧ L = [] ∧ h = h0
set_option maxRecDepth 65536 in
set_option maxHeartbeats 40000000 in
theorem rm8 (l : Launch) (Z : State) (a0 : Array Value) (hw : ∀ d ∈ tables_1, d.before a0 Z = true) (ws : List Jvm.Cond) (x0 : Int64) (x1 : Int64) (h0 : Heap) :
    MetFree l (⟨"com/example/varietal/varietal/core/random/SeededRandomNextLongPinLaw", "newton", "(JJ)J"⟩ : MethodName) (head1 (Jvm.Cond.code (⟨"com/example/varietal/varietal/core/random/SeededRandomNextLongPinLaw", "newton", "(JJ)J"⟩ : MethodName) method_2_code 4 (some .long) :: ws) ({ frames := 0, cells := 0, slots := 0, locals := 0 } : Room)) (fun a U => a = #[(.long x0), (.long x1)] ∧ Z.Warmed39 U.vm ∧ U.heap = h0) (fun _ _ _ _ _ => True) (fun _ U o U' => ∃ v L, o = .returned v ∧ Q8 x0 x1 h0 v U'.heap L ∧ FrameEnd U o U' L ({ frames := 0, cells := 0, slots := 0, locals := 0 } : Room).cells ({ frames := 0, cells := 0, slots := 0, locals := 0 } : Room).slots) := by
  refine g_body (plainFor_of_name pn_8) ?_
  intro p e s m below meth c T0 X0 hx hby hml hret hlk hown hnm hZ e0
  rw [ef_8]
  show Go p e below s _ _ _ (T0.setTop (mkF m 0 #[.val (.long x0), .second, .val (.long x1), .second] []))
  refine g_lloadN X0 hx 1 (hb hby d8_0) rfl rfl ?_
  show Go p e below s _ _ _ (T0.setTop (mkF m 1 #[.val (.long x0), .second, .val (.long x1), .second] [(.long x1)]))
  refine g_ldc2_w X0 hx hZ hown (hw _ (List.mem_of_getElem? (i := 47) rfl)) 4 (hb hby d8_1) rfl ?_
  show Go p e below s _ _ _ (T0.setTop (mkF m 4 #[.val (.long x0), .second, .val (.long x1), .second] [(.long (2 : Int64)), (.long x1)]))
  refine g_lloadN X0 hx 5 (hb hby d8_4) rfl rfl ?_
  show Go p e below s _ _ _ (T0.setTop (mkF m 5 #[.val (.long x0), .second, .val (.long x1), .second] [(.long x0), (.long (2 : Int64)), (.long x1)]))
  refine g_lloadN X0 hx 6 (hb hby d8_5) rfl rfl ?_
  show Go p e below s _ _ _ (T0.setTop (mkF m 6 #[.val (.long x0), .second, .val (.long x1), .second] [(.long x1), (.long x0), (.long (2 : Int64)), (.long x1)]))
  refine g_lmul X0 hx 7 (hb hby d8_6) rfl ?_
  show Go p e below s _ _ _ (T0.setTop (mkF m 7 #[.val (.long x0), .second, .val (.long x1), .second] [(.long (x0 * x1)), (.long (2 : Int64)), (.long x1)]))
  refine g_lsub X0 hx 8 (hb hby d8_7) rfl ?_
  show Go p e below s _ _ _ (T0.setTop (mkF m 8 #[.val (.long x0), .second, .val (.long x1), .second] [(.long ((2 : Int64) - (x0 * x1))), (.long x1)]))
  refine g_lmul X0 hx 9 (hb hby d8_8) rfl ?_
  show Go p e below s _ _ _ (T0.setTop (mkF m 9 #[.val (.long x0), .second, .val (.long x1), .second] [(.long (x1 * ((2 : Int64) - (x0 * x1))))]))
  exact g_retJ X0 hx hret hlk (hb hby d8_9) (by decide) (by decide) ⟨congrArg (fun z => some (Value.long z)) (show (x1 * ((2 : Int64) - (x0 * x1))) = (f8 x0 x1) from by rw [f8]), rfl, e0⟩
theorem pd__28JJ_29J : parseMethodDescriptor "(JJ)J" = some ⟨[.long, .long], some .long⟩ := by decide +kernel
theorem d7_0 : decode method_3_code 0 = .ok (.lload_n 0, 1) := by decide +kernel
theorem d7_1 : decode method_3_code 1 = .ok (.lstore_n 2, 1) := by decide +kernel
theorem d7_2 : decode method_3_code 2 = .ok (.lload_n 0, 1) := by decide +kernel
theorem d7_3 : decode method_3_code 3 = .ok (.lload_n 2, 1) := by decide +kernel
theorem d7_4 : decode method_3_code 4 = .ok (.invokestatic 9, 3) := by decide +kernel
theorem d7_7 : decode method_3_code 7 = .ok (.lstore_n 2, 1) := by decide +kernel
theorem d7_8 : decode method_3_code 8 = .ok (.lload_n 0, 1) := by decide +kernel
theorem d7_9 : decode method_3_code 9 = .ok (.lload_n 2, 1) := by decide +kernel
theorem d7_10 : decode method_3_code 10 = .ok (.invokestatic 9, 3) := by decide +kernel
theorem d7_13 : decode method_3_code 13 = .ok (.lstore_n 2, 1) := by decide +kernel
theorem d7_14 : decode method_3_code 14 = .ok (.lload_n 0, 1) := by decide +kernel
theorem d7_15 : decode method_3_code 15 = .ok (.lload_n 2, 1) := by decide +kernel
theorem d7_16 : decode method_3_code 16 = .ok (.invokestatic 9, 3) := by decide +kernel
theorem d7_19 : decode method_3_code 19 = .ok (.lstore_n 2, 1) := by decide +kernel
theorem d7_20 : decode method_3_code 20 = .ok (.lload_n 0, 1) := by decide +kernel
theorem d7_21 : decode method_3_code 21 = .ok (.lload_n 2, 1) := by decide +kernel
theorem d7_22 : decode method_3_code 22 = .ok (.invokestatic 9, 3) := by decide +kernel
theorem d7_25 : decode method_3_code 25 = .ok (.lstore_n 2, 1) := by decide +kernel
theorem d7_26 : decode method_3_code 26 = .ok (.lload_n 0, 1) := by decide +kernel
theorem d7_27 : decode method_3_code 27 = .ok (.lload_n 2, 1) := by decide +kernel
theorem d7_28 : decode method_3_code 28 = .ok (.invokestatic 9, 3) := by decide +kernel
theorem d7_31 : decode method_3_code 31 = .ok (.lstore_n 2, 1) := by decide +kernel
theorem d7_32 : decode method_3_code 32 = .ok (.lload_n 2, 1) := by decide +kernel
theorem d7_33 : decode method_3_code 33 = .ok (.lreturn, 1) := by decide +kernel
theorem ef_7 (m : MethodId) (x0 : Int64) : entryFrame m #[(.long x0)] 4 = mkF m 0 #[.val (.long x0), .second, .unset, .unset] [] := by first | (simp [entryFrame, mkF, argsToLocals, Value.category]; done) | rfl
def v7_a (x0 : Int64) : Int64 := (f8 x0 x0)
def v7_b (x0 : Int64) : Int64 := (f8 x0 (v7_a x0))
def v7_c (x0 : Int64) : Int64 := (f8 x0 (v7_b x0))
def v7_d (x0 : Int64) : Int64 := (f8 x0 (v7_c x0))
def v7_e (x0 : Int64) : Int64 := (f8 x0 (v7_d x0))
def f7 (x0 : Int64) : Int64 := (v7_e x0)
def Q7 (x0 : Int64) (h0 : Heap) (v : Option Value) (h : Heap) (L : List Loc) : Prop := v = some (.long (f7 x0)) ∧ L = [] ∧ h = h0
set_option maxRecDepth 65536 in
set_option maxHeartbeats 40000000 in
theorem rm7 (l : Launch) (Z : State) (a0 : Array Value) (hw : ∀ d ∈ tables_1, d.before a0 Z = true) (ws : List Jvm.Cond) (x0 : Int64) (h0 : Heap) :
    MetFree l (⟨"com/example/varietal/varietal/core/random/SeededRandomNextLongPinLaw", "inverse", "(J)J"⟩ : MethodName) (head1 (Jvm.Cond.code (⟨"com/example/varietal/varietal/core/random/SeededRandomNextLongPinLaw", "inverse", "(J)J"⟩ : MethodName) method_3_code 4 (some .long) :: ws) ({ frames := 1, cells := 0, slots := 0, locals := 15 } : Room)) (fun a U => a = #[(.long x0)] ∧ Z.Warmed39 U.vm ∧ U.heap = h0) (fun _ _ _ _ _ => True) (fun _ U o U' => ∃ v L, o = .returned v ∧ Q7 x0 h0 v U'.heap L ∧ FrameEnd U o U' L ({ frames := 1, cells := 0, slots := 0, locals := 15 } : Room).cells ({ frames := 1, cells := 0, slots := 0, locals := 15 } : Room).slots) := by
  refine g_body (plainFor_of_name pn_8) ?_
  intro p e s m below meth c T0 X0 hx hby hml hret hlk hown hnm hZ e0
  rw [ef_7]
  show Go p e below s _ _ _ (T0.setTop (mkF m 0 #[.val (.long x0), .second, .unset, .unset] []))
  refine g_lloadN X0 hx 1 (hb hby d7_0) rfl rfl ?_
  show Go p e below s _ _ _ (T0.setTop (mkF m 1 #[.val (.long x0), .second, .unset, .unset] [(.long x0)]))
  refine g_lstoreN X0 hx #[.val (.long x0), .second, .val (.long x0), .second] 2 (hb hby d7_1) rfl rfl ?_
  show Go p e below s _ _ _ (T0.setTop (mkF m 2 #[.val (.long x0), .second, .val (.long x0), .second] []))
  refine g_lloadN X0 hx 3 (hb hby d7_2) rfl rfl ?_
  show Go p e below s _ _ _ (T0.setTop (mkF m 3 #[.val (.long x0), .second, .val (.long x0), .second] [(.long x0)]))
  refine g_lloadN X0 hx 4 (hb hby d7_3) rfl rfl ?_
  show Go p e below s _ _ _ (T0.setTop (mkF m 4 #[.val (.long x0), .second, .val (.long x0), .second] [(.long x0), (.long x0)]))
  refine g_callS X0 hx hZ hown (hw _ (List.mem_of_getElem? (i := 44) rfl)) (hw _ (List.mem_of_getElem? (i := 45) rfl)) (hw _ (List.mem_of_getElem? (i := 38) rfl)) (hw _ (List.mem_of_getElem? (i := 46) rfl)) (by decide) e0 (rm8 l Z a0 hw [] x0 x0 h0) [(.long x0), (.long x0)] [] 0 rfl (lenOf pd__28JJ_29J rfl) rfl (Nat.le_of_eq rfl) (by decide) (by decide) (by decide) (by decide) (by rw [hml]; rfl) (hb hby d7_4) ?_
  intro T1 L1 v1 X1 q1
  obtain ⟨rfl, rfl, e1⟩ := q1
  show Go p e below s _ _ _ (T1.setTop (mkF m 7 #[.val (.long x0), .second, .val (.long x0), .second] [(.long (f8 x0 x0))]))
  refine g_lstoreN X1 hx #[.val (.long x0), .second, .val (.long (v7_a x0)), .second] 8 (hb hby d7_7) rfl rfl ?_
  show Go p e below s _ _ _ (T1.setTop (mkF m 8 #[.val (.long x0), .second, .val (.long (v7_a x0)), .second] []))
  refine g_lloadN X1 hx 9 (hb hby d7_8) rfl rfl ?_
  show Go p e below s _ _ _ (T1.setTop (mkF m 9 #[.val (.long x0), .second, .val (.long (v7_a x0)), .second] [(.long x0)]))
  refine g_lloadN X1 hx 10 (hb hby d7_9) rfl rfl ?_
  show Go p e below s _ _ _ (T1.setTop (mkF m 10 #[.val (.long x0), .second, .val (.long (v7_a x0)), .second] [(.long (v7_a x0)), (.long x0)]))
  refine g_callS X1 hx hZ hown (hw _ (List.mem_of_getElem? (i := 44) rfl)) (hw _ (List.mem_of_getElem? (i := 45) rfl)) (hw _ (List.mem_of_getElem? (i := 38) rfl)) (hw _ (List.mem_of_getElem? (i := 46) rfl)) (by decide) e1 (rm8 l Z a0 hw [] x0 (v7_a x0) h0) [(.long x0), (.long (v7_a x0))] [] 0 rfl (lenOf pd__28JJ_29J rfl) rfl (Nat.le_of_eq rfl) (by decide) (by decide) (by decide) (by decide) (by rw [hml]; rfl) (hb hby d7_10) ?_
  intro T2 L2 v2 X2 q2
  obtain ⟨rfl, rfl, e2⟩ := q2
  show Go p e below s _ _ _ (T2.setTop (mkF m 13 #[.val (.long x0), .second, .val (.long (v7_a x0)), .second] [(.long (f8 x0 (v7_a x0)))]))
  refine g_lstoreN X2 hx #[.val (.long x0), .second, .val (.long (v7_b x0)), .second] 14 (hb hby d7_13) rfl rfl ?_
  show Go p e below s _ _ _ (T2.setTop (mkF m 14 #[.val (.long x0), .second, .val (.long (v7_b x0)), .second] []))
  refine g_lloadN X2 hx 15 (hb hby d7_14) rfl rfl ?_
  show Go p e below s _ _ _ (T2.setTop (mkF m 15 #[.val (.long x0), .second, .val (.long (v7_b x0)), .second] [(.long x0)]))
  refine g_lloadN X2 hx 16 (hb hby d7_15) rfl rfl ?_
  show Go p e below s _ _ _ (T2.setTop (mkF m 16 #[.val (.long x0), .second, .val (.long (v7_b x0)), .second] [(.long (v7_b x0)), (.long x0)]))
  refine g_callS X2 hx hZ hown (hw _ (List.mem_of_getElem? (i := 44) rfl)) (hw _ (List.mem_of_getElem? (i := 45) rfl)) (hw _ (List.mem_of_getElem? (i := 38) rfl)) (hw _ (List.mem_of_getElem? (i := 46) rfl)) (by decide) e2 (rm8 l Z a0 hw [] x0 (v7_b x0) h0) [(.long x0), (.long (v7_b x0))] [] 0 rfl (lenOf pd__28JJ_29J rfl) rfl (Nat.le_of_eq rfl) (by decide) (by decide) (by decide) (by decide) (by rw [hml]; rfl) (hb hby d7_16) ?_
  intro T3 L3 v3 X3 q3
  obtain ⟨rfl, rfl, e3⟩ := q3
  show Go p e below s _ _ _ (T3.setTop (mkF m 19 #[.val (.long x0), .second, .val (.long (v7_b x0)), .second] [(.long (f8 x0 (v7_b x0)))]))
  refine g_lstoreN X3 hx #[.val (.long x0), .second, .val (.long (v7_c x0)), .second] 20 (hb hby d7_19) rfl rfl ?_
  show Go p e below s _ _ _ (T3.setTop (mkF m 20 #[.val (.long x0), .second, .val (.long (v7_c x0)), .second] []))
  refine g_lloadN X3 hx 21 (hb hby d7_20) rfl rfl ?_
  show Go p e below s _ _ _ (T3.setTop (mkF m 21 #[.val (.long x0), .second, .val (.long (v7_c x0)), .second] [(.long x0)]))
  refine g_lloadN X3 hx 22 (hb hby d7_21) rfl rfl ?_
  show Go p e below s _ _ _ (T3.setTop (mkF m 22 #[.val (.long x0), .second, .val (.long (v7_c x0)), .second] [(.long (v7_c x0)), (.long x0)]))
  refine g_callS X3 hx hZ hown (hw _ (List.mem_of_getElem? (i := 44) rfl)) (hw _ (List.mem_of_getElem? (i := 45) rfl)) (hw _ (List.mem_of_getElem? (i := 38) rfl)) (hw _ (List.mem_of_getElem? (i := 46) rfl)) (by decide) e3 (rm8 l Z a0 hw [] x0 (v7_c x0) h0) [(.long x0), (.long (v7_c x0))] [] 0 rfl (lenOf pd__28JJ_29J rfl) rfl (Nat.le_of_eq rfl) (by decide) (by decide) (by decide) (by decide) (by rw [hml]; rfl) (hb hby d7_22) ?_
  intro T4 L4 v4 X4 q4
  obtain ⟨rfl, rfl, e4⟩ := q4
  show Go p e below s _ _ _ (T4.setTop (mkF m 25 #[.val (.long x0), .second, .val (.long (v7_c x0)), .second] [(.long (f8 x0 (v7_c x0)))]))
  refine g_lstoreN X4 hx #[.val (.long x0), .second, .val (.long (v7_d x0)), .second] 26 (hb hby d7_25) rfl rfl ?_
  show Go p e below s _ _ _ (T4.setTop (mkF m 26 #[.val (.long x0), .second, .val (.long (v7_d x0)), .second] []))
  refine g_lloadN X4 hx 27 (hb hby d7_26) rfl rfl ?_
  show Go p e below s _ _ _ (T4.setTop (mkF m 27 #[.val (.long x0), .second, .val (.long (v7_d x0)), .second] [(.long x0)]))
  refine g_lloadN X4 hx 28 (hb hby d7_27) rfl rfl ?_
  show Go p e below s _ _ _ (T4.setTop (mkF m 28 #[.val (.long x0), .second, .val (.long (v7_d x0)), .second] [(.long (v7_d x0)), (.long x0)]))
  refine g_callS X4 hx hZ hown (hw _ (List.mem_of_getElem? (i := 44) rfl)) (hw _ (List.mem_of_getElem? (i := 45) rfl)) (hw _ (List.mem_of_getElem? (i := 38) rfl)) (hw _ (List.mem_of_getElem? (i := 46) rfl)) (by decide) e4 (rm8 l Z a0 hw [] x0 (v7_d x0) h0) [(.long x0), (.long (v7_d x0))] [] 0 rfl (lenOf pd__28JJ_29J rfl) rfl (Nat.le_of_eq rfl) (by decide) (by decide) (by decide) (by decide) (by rw [hml]; rfl) (hb hby d7_28) ?_
  intro T5 L5 v5 X5 q5
  obtain ⟨rfl, rfl, e5⟩ := q5
  show Go p e below s _ _ _ (T5.setTop (mkF m 31 #[.val (.long x0), .second, .val (.long (v7_d x0)), .second] [(.long (f8 x0 (v7_d x0)))]))
  refine g_lstoreN X5 hx #[.val (.long x0), .second, .val (.long (v7_e x0)), .second] 32 (hb hby d7_31) rfl rfl ?_
  show Go p e below s _ _ _ (T5.setTop (mkF m 32 #[.val (.long x0), .second, .val (.long (v7_e x0)), .second] []))
  refine g_lloadN X5 hx 33 (hb hby d7_32) rfl rfl ?_
  show Go p e below s _ _ _ (T5.setTop (mkF m 33 #[.val (.long x0), .second, .val (.long (v7_e x0)), .second] [(.long (v7_e x0))]))
  exact g_retJ X5 hx hret hlk (hb hby d7_33) (by decide) (by decide) ⟨congrArg (fun z => some (Value.long z)) (show (v7_e x0) = (f7 x0) from by rw [f7]), rfl, e5⟩
theorem pd__28J_29J : parseMethodDescriptor "(J)J" = some ⟨[.long], some .long⟩ := by decide +kernel
theorem d6_0 : decode method_4_code 0 = .ok (.lload_n 0, 1) := by decide +kernel
theorem d6_1 : decode method_4_code 1 = .ok (.lstore_n 2, 1) := by decide +kernel
theorem d6_2 : decode method_4_code 2 = .ok (.lload_n 2, 1) := by decide +kernel
theorem d6_3 : decode method_4_code 3 = .ok (.lload_n 2, 1) := by decide +kernel
theorem d6_4 : decode method_4_code 4 = .ok (.bipush 31, 2) := by decide +kernel
theorem d6_6 : decode method_4_code 6 = .ok (.lushr, 1) := by decide +kernel
theorem d6_7 : decode method_4_code 7 = .ok (.lxor, 1) := by decide +kernel
theorem d6_8 : decode method_4_code 8 = .ok (.lload_n 2, 1) := by decide +kernel
theorem d6_9 : decode method_4_code 9 = .ok (.bipush 62, 2) := by decide +kernel
theorem d6_11 : decode method_4_code 11 = .ok (.lushr, 1) := by decide +kernel
theorem d6_12 : decode method_4_code 12 = .ok (.lxor, 1) := by decide +kernel
theorem d6_13 : decode method_4_code 13 = .ok (.lstore_n 2, 1) := by decide +kernel
theorem d6_14 : decode method_4_code 14 = .ok (.lload_n 2, 1) := by decide +kernel
theorem d6_15 : decode method_4_code 15 = .ok (.ldc2_w 15, 3) := by decide +kernel
theorem d6_18 : decode method_4_code 18 = .ok (.invokestatic 17, 3) := by decide +kernel
theorem d6_21 : decode method_4_code 21 = .ok (.lmul, 1) := by decide +kernel
theorem d6_22 : decode method_4_code 22 = .ok (.lstore_n 2, 1) := by decide +kernel
theorem d6_23 : decode method_4_code 23 = .ok (.lload_n 2, 1) := by decide +kernel
theorem d6_24 : decode method_4_code 24 = .ok (.lload_n 2, 1) := by decide +kernel
theorem d6_25 : decode method_4_code 25 = .ok (.bipush 27, 2) := by decide +kernel
theorem d6_27 : decode method_4_code 27 = .ok (.lushr, 1) := by decide +kernel
theorem d6_28 : decode method_4_code 28 = .ok (.lxor, 1) := by decide +kernel
theorem d6_29 : decode method_4_code 29 = .ok (.lload_n 2, 1) := by decide +kernel
theorem d6_30 : decode method_4_code 30 = .ok (.bipush 54, 2) := by decide +kernel
theorem d6_32 : decode method_4_code 32 = .ok (.lushr, 1) := by decide +kernel
theorem d6_33 : decode method_4_code 33 = .ok (.lxor, 1) := by decide +kernel
theorem d6_34 : decode method_4_code 34 = .ok (.lstore_n 2, 1) := by decide +kernel
theorem d6_35 : decode method_4_code 35 = .ok (.lload_n 2, 1) := by decide +kernel
theorem d6_36 : decode method_4_code 36 = .ok (.ldc2_w 21, 3) := by decide +kernel
theorem d6_39 : decode method_4_code 39 = .ok (.invokestatic 17, 3) := by decide +kernel
theorem d6_42 : decode method_4_code 42 = .ok (.lmul, 1) := by decide +kernel
theorem d6_43 : decode method_4_code 43 = .ok (.lstore_n 2, 1) := by decide +kernel
theorem d6_44 : decode method_4_code 44 = .ok (.lload_n 2, 1) := by decide +kernel
theorem d6_45 : decode method_4_code 45 = .ok (.lload_n 2, 1) := by decide +kernel
theorem d6_46 : decode method_4_code 46 = .ok (.bipush 30, 2) := by decide +kernel
theorem d6_48 : decode method_4_code 48 = .ok (.lushr, 1) := by decide +kernel
theorem d6_49 : decode method_4_code 49 = .ok (.lxor, 1) := by decide +kernel
theorem d6_50 : decode method_4_code 50 = .ok (.lload_n 2, 1) := by decide +kernel
theorem d6_51 : decode method_4_code 51 = .ok (.bipush 60, 2) := by decide +kernel
theorem d6_53 : decode method_4_code 53 = .ok (.lushr, 1) := by decide +kernel
theorem d6_54 : decode method_4_code 54 = .ok (.lxor, 1) := by decide +kernel
theorem d6_55 : decode method_4_code 55 = .ok (.lstore_n 2, 1) := by decide +kernel
theorem d6_56 : decode method_4_code 56 = .ok (.lload_n 2, 1) := by decide +kernel
theorem d6_57 : decode method_4_code 57 = .ok (.lreturn, 1) := by decide +kernel
theorem ef_6 (m : MethodId) (x0 : Int64) : entryFrame m #[(.long x0)] 4 = mkF m 0 #[.val (.long x0), .second, .unset, .unset] [] := by first | (simp [entryFrame, mkF, argsToLocals, Value.category]; done) | rfl
def v6_x0 (x0 : Int64) : Int64 := x0
def v6_x1 (x0 : Int64) : Int64 := (((v6_x0 x0) ^^^ (ushrJ (v6_x0 x0) (31 : Int32))) ^^^ (ushrJ (v6_x0 x0) (62 : Int32)))
def v6_x2 (x0 : Int64) : Int64 := ((v6_x1 x0) * (f7 (-7723592293110705685 : Int64)))
def v6_x3 (x0 : Int64) : Int64 := (((v6_x2 x0) ^^^ (ushrJ (v6_x2 x0) (27 : Int32))) ^^^ (ushrJ (v6_x2 x0) (54 : Int32)))
def v6_x4 (x0 : Int64) : Int64 := ((v6_x3 x0) * (f7 (-4658895280553007687 : Int64)))
def v6_x5 (x0 : Int64) : Int64 := (((v6_x4 x0) ^^^ (ushrJ (v6_x4 x0) (30 : Int32))) ^^^ (ushrJ (v6_x4 x0) (60 : Int32)))
def f6 (x0 : Int64) : Int64 := (v6_x5 x0)
def Q6 (x0 : Int64) (h0 : Heap) (v : Option Value) (h : Heap) (L : List Loc) : Prop := v = some (.long (f6 x0)) ∧ L = [] ∧ h = h0
set_option maxRecDepth 65536 in
set_option maxHeartbeats 40000000 in
theorem rm6 (l : Launch) (Z : State) (a0 : Array Value) (hw : ∀ d ∈ tables_1, d.before a0 Z = true) (ws : List Jvm.Cond) (x0 : Int64) (h0 : Heap) :
    MetFree l (⟨"com/example/varietal/varietal/core/random/SeededRandomNextLongPinLaw", "unmix", "(J)J"⟩ : MethodName) (head1 (Jvm.Cond.code (⟨"com/example/varietal/varietal/core/random/SeededRandomNextLongPinLaw", "unmix", "(J)J"⟩ : MethodName) method_4_code 4 (some .long) :: ws) ({ frames := 2, cells := 0, slots := 0, locals := 32 } : Room)) (fun a U => a = #[(.long x0)] ∧ Z.Warmed39 U.vm ∧ U.heap = h0) (fun _ _ _ _ _ => True) (fun _ U o U' => ∃ v L, o = .returned v ∧ Q6 x0 h0 v U'.heap L ∧ FrameEnd U o U' L ({ frames := 2, cells := 0, slots := 0, locals := 32 } : Room).cells ({ frames := 2, cells := 0, slots := 0, locals := 32 } : Room).slots) := by
  refine g_body (plainFor_of_name pn_8) ?_
  intro p e s m below meth c T0 X0 hx hby hml hret hlk hown hnm hZ e0
  rw [ef_6]
  show Go p e below s _ _ _ (T0.setTop (mkF m 0 #[.val (.long x0), .second, .unset, .unset] []))
  refine g_lloadN X0 hx 1 (hb hby d6_0) rfl rfl ?_
  show Go p e below s _ _ _ (T0.setTop (mkF m 1 #[.val (.long x0), .second, .unset, .unset] [(.long x0)]))
  refine g_lstoreN X0 hx #[.val (.long x0), .second, .val (.long (v6_x0 x0)), .second] 2 (hb hby d6_1) rfl rfl ?_
  show Go p e below s _ _ _ (T0.setTop (mkF m 2 #[.val (.long x0), .second, .val (.long (v6_x0 x0)), .second] []))
  refine g_lloadN X0 hx 3 (hb hby d6_2) rfl rfl ?_
  show Go p e below s _ _ _ (T0.setTop (mkF m 3 #[.val (.long x0), .second, .val (.long (v6_x0 x0)), .second] [(.long (v6_x0 x0))]))
  refine g_lloadN X0 hx 4 (hb hby d6_3) rfl rfl ?_
  show Go p e below s _ _ _ (T0.setTop (mkF m 4 #[.val (.long x0), .second, .val (.long (v6_x0 x0)), .second] [(.long (v6_x0 x0)), (.long (v6_x0 x0))]))
  refine g_bipush X0 hx (31 : Int32) 6 (hb hby d6_4) rfl rfl ?_
  show Go p e below s _ _ _ (T0.setTop (mkF m 6 #[.val (.long x0), .second, .val (.long (v6_x0 x0)), .second] [(.int (31 : Int32)), (.long (v6_x0 x0)), (.long (v6_x0 x0))]))
  refine g_lushr X0 hx 7 (hb hby d6_6) rfl ?_
  show Go p e below s _ _ _ (T0.setTop (mkF m 7 #[.val (.long x0), .second, .val (.long (v6_x0 x0)), .second] [(.long (ushrJ (v6_x0 x0) (31 : Int32))), (.long (v6_x0 x0))]))
  refine g_lxor X0 hx 8 (hb hby d6_7) rfl ?_
  show Go p e below s _ _ _ (T0.setTop (mkF m 8 #[.val (.long x0), .second, .val (.long (v6_x0 x0)), .second] [(.long ((v6_x0 x0) ^^^ (ushrJ (v6_x0 x0) (31 : Int32))))]))
  refine g_lloadN X0 hx 9 (hb hby d6_8) rfl rfl ?_
  show Go p e below s _ _ _ (T0.setTop (mkF m 9 #[.val (.long x0), .second, .val (.long (v6_x0 x0)), .second] [(.long (v6_x0 x0)), (.long ((v6_x0 x0) ^^^ (ushrJ (v6_x0 x0) (31 : Int32))))]))
  refine g_bipush X0 hx (62 : Int32) 11 (hb hby d6_9) rfl rfl ?_
  show Go p e below s _ _ _ (T0.setTop (mkF m 11 #[.val (.long x0), .second, .val (.long (v6_x0 x0)), .second] [(.int (62 : Int32)), (.long (v6_x0 x0)), (.long ((v6_x0 x0) ^^^ (ushrJ (v6_x0 x0) (31 : Int32))))]))
  refine g_lushr X0 hx 12 (hb hby d6_11) rfl ?_
  show Go p e below s _ _ _ (T0.setTop (mkF m 12 #[.val (.long x0), .second, .val (.long (v6_x0 x0)), .second] [(.long (ushrJ (v6_x0 x0) (62 : Int32))), (.long ((v6_x0 x0) ^^^ (ushrJ (v6_x0 x0) (31 : Int32))))]))
  refine g_lxor X0 hx 13 (hb hby d6_12) rfl ?_
  show Go p e below s _ _ _ (T0.setTop (mkF m 13 #[.val (.long x0), .second, .val (.long (v6_x0 x0)), .second] [(.long (((v6_x0 x0) ^^^ (ushrJ (v6_x0 x0) (31 : Int32))) ^^^ (ushrJ (v6_x0 x0) (62 : Int32))))]))
  refine g_lstoreN X0 hx #[.val (.long x0), .second, .val (.long (v6_x1 x0)), .second] 14 (hb hby d6_13) rfl rfl ?_
  show Go p e below s _ _ _ (T0.setTop (mkF m 14 #[.val (.long x0), .second, .val (.long (v6_x1 x0)), .second] []))
  refine g_lloadN X0 hx 15 (hb hby d6_14) rfl rfl ?_
  show Go p e below s _ _ _ (T0.setTop (mkF m 15 #[.val (.long x0), .second, .val (.long (v6_x1 x0)), .second] [(.long (v6_x1 x0))]))
  refine g_ldc2_w X0 hx hZ hown (hw _ (List.mem_of_getElem? (i := 40) rfl)) 18 (hb hby d6_15) rfl ?_
  show Go p e below s _ _ _ (T0.setTop (mkF m 18 #[.val (.long x0), .second, .val (.long (v6_x1 x0)), .second] [(.long (-7723592293110705685 : Int64)), (.long (v6_x1 x0))]))
  refine g_callS X0 hx hZ hown (hw _ (List.mem_of_getElem? (i := 41) rfl)) (hw _ (List.mem_of_getElem? (i := 42) rfl)) (hw _ (List.mem_of_getElem? (i := 38) rfl)) (hw _ (List.mem_of_getElem? (i := 43) rfl)) (by decide) e0 (rm7 l Z a0 hw [] (-7723592293110705685 : Int64) h0) [(.long (-7723592293110705685 : Int64))] [(.long (v6_x1 x0))] 2 rfl (lenOf pd__28J_29J rfl) rfl (Nat.le_of_eq rfl) (by decide) (by decide) (by decide) (by decide) (by rw [hml]; rfl) (hb hby d6_18) ?_
  intro T1 L1 v1 X1 q1
  obtain ⟨rfl, rfl, e1⟩ := q1
  show Go p e below s _ _ _ (T1.setTop (mkF m 21 #[.val (.long x0), .second, .val (.long (v6_x1 x0)), .second] [(.long (f7 (-7723592293110705685 : Int64))), (.long (v6_x1 x0))]))
  refine g_lmul X1 hx 22 (hb hby d6_21) rfl ?_
  show Go p e below s _ _ _ (T1.setTop (mkF m 22 #[.val (.long x0), .second, .val (.long (v6_x1 x0)), .second] [(.long ((v6_x1 x0) * (f7 (-7723592293110705685 : Int64))))]))
  refine g_lstoreN X1 hx #[.val (.long x0), .second, .val (.long (v6_x2 x0)), .second] 23 (hb hby d6_22) rfl rfl ?_
  show Go p e below s _ _ _ (T1.setTop (mkF m 23 #[.val (.long x0), .second, .val (.long (v6_x2 x0)), .second] []))
  refine g_lloadN X1 hx 24 (hb hby d6_23) rfl rfl ?_
  show Go p e below s _ _ _ (T1.setTop (mkF m 24 #[.val (.long x0), .second, .val (.long (v6_x2 x0)), .second] [(.long (v6_x2 x0))]))
  refine g_lloadN X1 hx 25 (hb hby d6_24) rfl rfl ?_
  show Go p e below s _ _ _ (T1.setTop (mkF m 25 #[.val (.long x0), .second, .val (.long (v6_x2 x0)), .second] [(.long (v6_x2 x0)), (.long (v6_x2 x0))]))
  refine g_bipush X1 hx (27 : Int32) 27 (hb hby d6_25) rfl rfl ?_
  show Go p e below s _ _ _ (T1.setTop (mkF m 27 #[.val (.long x0), .second, .val (.long (v6_x2 x0)), .second] [(.int (27 : Int32)), (.long (v6_x2 x0)), (.long (v6_x2 x0))]))
  refine g_lushr X1 hx 28 (hb hby d6_27) rfl ?_
  show Go p e below s _ _ _ (T1.setTop (mkF m 28 #[.val (.long x0), .second, .val (.long (v6_x2 x0)), .second] [(.long (ushrJ (v6_x2 x0) (27 : Int32))), (.long (v6_x2 x0))]))
  refine g_lxor X1 hx 29 (hb hby d6_28) rfl ?_
  show Go p e below s _ _ _ (T1.setTop (mkF m 29 #[.val (.long x0), .second, .val (.long (v6_x2 x0)), .second] [(.long ((v6_x2 x0) ^^^ (ushrJ (v6_x2 x0) (27 : Int32))))]))
  refine g_lloadN X1 hx 30 (hb hby d6_29) rfl rfl ?_
  show Go p e below s _ _ _ (T1.setTop (mkF m 30 #[.val (.long x0), .second, .val (.long (v6_x2 x0)), .second] [(.long (v6_x2 x0)), (.long ((v6_x2 x0) ^^^ (ushrJ (v6_x2 x0) (27 : Int32))))]))
  refine g_bipush X1 hx (54 : Int32) 32 (hb hby d6_30) rfl rfl ?_
  show Go p e below s _ _ _ (T1.setTop (mkF m 32 #[.val (.long x0), .second, .val (.long (v6_x2 x0)), .second] [(.int (54 : Int32)), (.long (v6_x2 x0)), (.long ((v6_x2 x0) ^^^ (ushrJ (v6_x2 x0) (27 : Int32))))]))
  refine g_lushr X1 hx 33 (hb hby d6_32) rfl ?_
  show Go p e below s _ _ _ (T1.setTop (mkF m 33 #[.val (.long x0), .second, .val (.long (v6_x2 x0)), .second] [(.long (ushrJ (v6_x2 x0) (54 : Int32))), (.long ((v6_x2 x0) ^^^ (ushrJ (v6_x2 x0) (27 : Int32))))]))
  refine g_lxor X1 hx 34 (hb hby d6_33) rfl ?_
  show Go p e below s _ _ _ (T1.setTop (mkF m 34 #[.val (.long x0), .second, .val (.long (v6_x2 x0)), .second] [(.long (((v6_x2 x0) ^^^ (ushrJ (v6_x2 x0) (27 : Int32))) ^^^ (ushrJ (v6_x2 x0) (54 : Int32))))]))
  refine g_lstoreN X1 hx #[.val (.long x0), .second, .val (.long (v6_x3 x0)), .second] 35 (hb hby d6_34) rfl rfl ?_
  show Go p e below s _ _ _ (T1.setTop (mkF m 35 #[.val (.long x0), .second, .val (.long (v6_x3 x0)), .second] []))
  refine g_lloadN X1 hx 36 (hb hby d6_35) rfl rfl ?_
  show Go p e below s _ _ _ (T1.setTop (mkF m 36 #[.val (.long x0), .second, .val (.long (v6_x3 x0)), .second] [(.long (v6_x3 x0))]))
  refine g_ldc2_w X1 hx hZ hown (hw _ (List.mem_of_getElem? (i := 48) rfl)) 39 (hb hby d6_36) rfl ?_
  show Go p e below s _ _ _ (T1.setTop (mkF m 39 #[.val (.long x0), .second, .val (.long (v6_x3 x0)), .second] [(.long (-4658895280553007687 : Int64)), (.long (v6_x3 x0))]))
  refine g_callS X1 hx hZ hown (hw _ (List.mem_of_getElem? (i := 41) rfl)) (hw _ (List.mem_of_getElem? (i := 42) rfl)) (hw _ (List.mem_of_getElem? (i := 38) rfl)) (hw _ (List.mem_of_getElem? (i := 43) rfl)) (by decide) e1 (rm7 l Z a0 hw [] (-4658895280553007687 : Int64) h0) [(.long (-4658895280553007687 : Int64))] [(.long (v6_x3 x0))] 2 rfl (lenOf pd__28J_29J rfl) rfl (Nat.le_of_eq rfl) (by decide) (by decide) (by decide) (by decide) (by rw [hml]; rfl) (hb hby d6_39) ?_
  intro T2 L2 v2 X2 q2
  obtain ⟨rfl, rfl, e2⟩ := q2
  show Go p e below s _ _ _ (T2.setTop (mkF m 42 #[.val (.long x0), .second, .val (.long (v6_x3 x0)), .second] [(.long (f7 (-4658895280553007687 : Int64))), (.long (v6_x3 x0))]))
  refine g_lmul X2 hx 43 (hb hby d6_42) rfl ?_
  show Go p e below s _ _ _ (T2.setTop (mkF m 43 #[.val (.long x0), .second, .val (.long (v6_x3 x0)), .second] [(.long ((v6_x3 x0) * (f7 (-4658895280553007687 : Int64))))]))
  refine g_lstoreN X2 hx #[.val (.long x0), .second, .val (.long (v6_x4 x0)), .second] 44 (hb hby d6_43) rfl rfl ?_
  show Go p e below s _ _ _ (T2.setTop (mkF m 44 #[.val (.long x0), .second, .val (.long (v6_x4 x0)), .second] []))
  refine g_lloadN X2 hx 45 (hb hby d6_44) rfl rfl ?_
  show Go p e below s _ _ _ (T2.setTop (mkF m 45 #[.val (.long x0), .second, .val (.long (v6_x4 x0)), .second] [(.long (v6_x4 x0))]))
  refine g_lloadN X2 hx 46 (hb hby d6_45) rfl rfl ?_
  show Go p e below s _ _ _ (T2.setTop (mkF m 46 #[.val (.long x0), .second, .val (.long (v6_x4 x0)), .second] [(.long (v6_x4 x0)), (.long (v6_x4 x0))]))
  refine g_bipush X2 hx (30 : Int32) 48 (hb hby d6_46) rfl rfl ?_
  show Go p e below s _ _ _ (T2.setTop (mkF m 48 #[.val (.long x0), .second, .val (.long (v6_x4 x0)), .second] [(.int (30 : Int32)), (.long (v6_x4 x0)), (.long (v6_x4 x0))]))
  refine g_lushr X2 hx 49 (hb hby d6_48) rfl ?_
  show Go p e below s _ _ _ (T2.setTop (mkF m 49 #[.val (.long x0), .second, .val (.long (v6_x4 x0)), .second] [(.long (ushrJ (v6_x4 x0) (30 : Int32))), (.long (v6_x4 x0))]))
  refine g_lxor X2 hx 50 (hb hby d6_49) rfl ?_
  show Go p e below s _ _ _ (T2.setTop (mkF m 50 #[.val (.long x0), .second, .val (.long (v6_x4 x0)), .second] [(.long ((v6_x4 x0) ^^^ (ushrJ (v6_x4 x0) (30 : Int32))))]))
  refine g_lloadN X2 hx 51 (hb hby d6_50) rfl rfl ?_
  show Go p e below s _ _ _ (T2.setTop (mkF m 51 #[.val (.long x0), .second, .val (.long (v6_x4 x0)), .second] [(.long (v6_x4 x0)), (.long ((v6_x4 x0) ^^^ (ushrJ (v6_x4 x0) (30 : Int32))))]))
  refine g_bipush X2 hx (60 : Int32) 53 (hb hby d6_51) rfl rfl ?_
  show Go p e below s _ _ _ (T2.setTop (mkF m 53 #[.val (.long x0), .second, .val (.long (v6_x4 x0)), .second] [(.int (60 : Int32)), (.long (v6_x4 x0)), (.long ((v6_x4 x0) ^^^ (ushrJ (v6_x4 x0) (30 : Int32))))]))
  refine g_lushr X2 hx 54 (hb hby d6_53) rfl ?_
  show Go p e below s _ _ _ (T2.setTop (mkF m 54 #[.val (.long x0), .second, .val (.long (v6_x4 x0)), .second] [(.long (ushrJ (v6_x4 x0) (60 : Int32))), (.long ((v6_x4 x0) ^^^ (ushrJ (v6_x4 x0) (30 : Int32))))]))
  refine g_lxor X2 hx 55 (hb hby d6_54) rfl ?_
  show Go p e below s _ _ _ (T2.setTop (mkF m 55 #[.val (.long x0), .second, .val (.long (v6_x4 x0)), .second] [(.long (((v6_x4 x0) ^^^ (ushrJ (v6_x4 x0) (30 : Int32))) ^^^ (ushrJ (v6_x4 x0) (60 : Int32))))]))
  refine g_lstoreN X2 hx #[.val (.long x0), .second, .val (.long (v6_x5 x0)), .second] 56 (hb hby d6_55) rfl rfl ?_
  show Go p e below s _ _ _ (T2.setTop (mkF m 56 #[.val (.long x0), .second, .val (.long (v6_x5 x0)), .second] []))
  refine g_lloadN X2 hx 57 (hb hby d6_56) rfl rfl ?_
  show Go p e below s _ _ _ (T2.setTop (mkF m 57 #[.val (.long x0), .second, .val (.long (v6_x5 x0)), .second] [(.long (v6_x5 x0))]))
  exact g_retJ X2 hx hret hlk (hb hby d6_57) (by decide) (by decide) ⟨congrArg (fun z => some (Value.long z)) (show (v6_x5 x0) = (f6 x0) from by rw [f6]), rfl, e2⟩
theorem d1_0 : decode prog_9_method_1_code 0 = .ok (.aload_n 0, 1) := by decide +kernel
theorem d1_1 : decode prog_9_method_1_code 1 = .ok (.invokespecial 3, 3) := by decide +kernel
theorem d1_4 : decode prog_9_method_1_code 4 = .ok (.aload_n 0, 1) := by decide +kernel
theorem d1_5 : decode prog_9_method_1_code 5 = .ok (.ldc2_w 11, 3) := by decide +kernel
theorem d1_8 : decode prog_9_method_1_code 8 = .ok (.putfield 13, 3) := by decide +kernel
theorem d1_11 : decode prog_9_method_1_code 11 = .ok (.aload_n 0, 1) := by decide +kernel
theorem d1_12 : decode prog_9_method_1_code 12 = .ok (.lload_n 1, 1) := by decide +kernel
theorem d1_13 : decode prog_9_method_1_code 13 = .ok (.putfield 17, 3) := by decide +kernel
theorem d1_16 : decode prog_9_method_1_code 16 = .ok (.aload_n 0, 1) := by decide +kernel
theorem d1_17 : decode prog_9_method_1_code 17 = .ok (.lload_n 1, 1) := by decide +kernel
theorem d1_18 : decode prog_9_method_1_code 18 = .ok (.putfield 20, 3) := by decide +kernel
theorem d1_21 : decode prog_9_method_1_code 21 = .ok (.return_, 1) := by decide +kernel
theorem ef_1 (m : MethodId) (x0 : Addr) (x1 : Int64) : entryFrame m #[(.ref x0), (.long x1)] 3 = mkF m 0 #[.val (.ref x0), .val (.long x1), .second] [] := by first | (simp [entryFrame, mkF, argsToLocals, Value.category]; done) | rfl
def Q1 (Z : State) (x0 : Addr) (x1 : Int64) (o1 : Int64) (o2 : Int64) (o3 : Int64) (o4 : Int64) (h0 : Heap) (n0 : Nat) (v : Option Value) (h : Heap) (L : List Loc) : Prop := v = none ∧ Fr n0 L ∧ Keep h0 h [x0] ∧ Fld Z h x0 "com/example/varietal/varietal/core/random/SeededRandom" "seed" "J" (.long x1) ∧ Fld Z h x0 "com/example/varietal/varietal/core/random/SeededRandom" "stream" "J" (.long o2) ∧ Fld Z h x0 "com/example/varietal/varietal/core/random/SeededRandom" "step" "J" (.long (-7046029254386353131 : Int64)) ∧ Fld Z h x0 "com/example/varietal/varietal/core/random/SeededRandom" "state" "J" (.long x1)
set_option maxRecDepth 65536 in
set_option maxHeartbeats 40000000 in
theorem rm1 (l : Launch) (Z : State) (a0 : Array Value) (hw : ∀ d ∈ tables_1, d.before a0 Z = true) (ws : List Jvm.Cond) (x0 : Addr) (x1 : Int64) (o1 : Int64) (o2 : Int64) (o3 : Int64) (o4 : Int64) (h0 : Heap) (n0 : Nat) (Z0 : n0 ≤ h0.size) (P0 : Exa Z h0 x0 "com/example/varietal/varietal/core/random/SeededRandom") (P1 : Fld Z h0 x0 "com/example/varietal/varietal/core/random/SeededRandom" "seed" "J" (.long o1)) (P2 : Fld Z h0 x0 "com/example/varietal/varietal/core/random/SeededRandom" "stream" "J" (.long o2)) (P3 : Fld Z h0 x0 "com/example/varietal/varietal/core/random/SeededRandom" "step" "J" (.long o3)) (P4 : Fld Z h0 x0 "com/example/varietal/varietal/core/random/SeededRandom" "state" "J" (.long o4)) (P5 : n0 ≤ x0) :
    MetFree l (⟨"com/example/varietal/varietal/core/random/SeededRandom", "<init>", "(J)V"⟩ : MethodName) (head1 (Jvm.Cond.code (⟨"com/example/varietal/varietal/core/random/SeededRandom", "<init>", "(J)V"⟩ : MethodName) prog_9_method_1_code 3 none :: ws) ({ frames := 1, cells := 0, slots := 0, locals := 12 } : Room)) (fun a U => a = #[(.ref x0), (.long x1)] ∧ Z.Warmed39 U.vm ∧ U.heap = h0) (fun _ _ _ _ _ => True) (fun _ U o U' => ∃ v L, o = .returned v ∧ Q1 Z x0 x1 o1 o2 o3 o4 h0 n0 v U'.heap L ∧ FrameEnd U o U' L ({ frames := 1, cells := 0, slots := 0, locals := 12 } : Room).cells ({ frames := 1, cells := 0, slots := 0, locals := 12 } : Room).slots) := by
  refine g_body (plainFor_of_name pn_4) ?_
  intro p e s m below meth c T0 X0 hx hby hml hret hlk hown hnm hZ e0
  rw [ef_1]
  have N0 := Fr.nil n0
  show Go p e below s _ _ _ (T0.setTop (mkF m 0 #[.val (.ref x0), .val (.long x1), .second] []))
  refine g_aloadN X0 hx 1 (hb hby d1_0) rfl rfl rfl ?_
  show Go p e below s _ _ _ (T0.setTop (mkF m 1 #[.val (.ref x0), .val (.long x1), .second] [(.ref x0)]))
  refine g_initO X0 hx hZ hown (hw _ (List.mem_of_getElem? (i := 6) rfl)) (hw _ (List.mem_of_getElem? (i := 7) rfl)) (hw _ (List.mem_of_getElem? (i := 8) rfl)) e0 4 (by rw [hml]; rfl) (hb hby d1_1) (by decide) 0 (Nat.le_of_eq rfl) (by decide) rfl ?_
  intro T1 X1 e1
  show Go p e below s _ _ _ (T1.setTop (mkF m 4 #[.val (.ref x0), .val (.long x1), .second] []))
  refine g_aloadN X1 hx 5 (hb hby d1_4) rfl rfl rfl ?_
  show Go p e below s _ _ _ (T1.setTop (mkF m 5 #[.val (.ref x0), .val (.long x1), .second] [(.ref x0)]))
  refine g_ldc2_w X1 hx hZ hown (hw _ (List.mem_of_getElem? (i := 9) rfl)) 8 (hb hby d1_5) rfl ?_
  show Go p e below s _ _ _ (T1.setTop (mkF m 8 #[.val (.ref x0), .val (.long x1), .second] [(.long (-7046029254386353131 : Int64)), (.ref x0)]))
  refine g_putF X1 hx hZ hown (hw _ (List.mem_of_getElem? (i := 10) rfl)) Via.refl e1 P3 P0 (Or.inl (hw _ (List.mem_of_getElem? (i := 11) rfl))) (hw _ (List.mem_of_getElem? (i := 1) rfl)) (ty := .long) (by decide) rfl rfl 11 (hb hby d1_8) rfl ?_
  intro T2 h2 X2 e2 W2
  have K2 := (Keep.refl h0 [x0]).wr W2 (Or.inl (List.mem_of_getElem? (i := 0) rfl))
  have N2 := Fr.snoc X2 N0 P5
  have k2_0 := P0.wr W2
  have k2_1 := P1.other W2 (Or.inr (slot_ne (Or.inr (hw _ (List.mem_of_getElem? (i := 13) rfl))) (Or.inl (hw _ (List.mem_of_getElem? (i := 11) rfl))) (by decide) (t := .long) (t' := .long) (by decide) (by decide)))
  have k2_2 := P2.other W2 (Or.inr (slot_ne (Or.inl (hw _ (List.mem_of_getElem? (i := 22) rfl))) (Or.inl (hw _ (List.mem_of_getElem? (i := 11) rfl))) (by decide) (t := .long) (t' := .long) (by decide) (by decide)))
  have k2_4 := P4.other W2 (Or.inr (slot_ne (Or.inl (hw _ (List.mem_of_getElem? (i := 15) rfl))) (Or.inl (hw _ (List.mem_of_getElem? (i := 11) rfl))) (by decide) (t := .long) (t' := .long) (by decide) (by decide)))
  have Z2 : n0 ≤ h2.size := by rw [W2.size]; exact Z0
  have F2 := P3.same W2
  show Go p e below s _ _ _ (T2.setTop (mkF m 11 #[.val (.ref x0), .val (.long x1), .second] []))
  refine g_aloadN X2 hx 12 (hb hby d1_11) rfl rfl rfl ?_
  show Go p e below s _ _ _ (T2.setTop (mkF m 12 #[.val (.ref x0), .val (.long x1), .second] [(.ref x0)]))
  refine g_lloadN X2 hx 13 (hb hby d1_12) rfl rfl ?_
  show Go p e below s _ _ _ (T2.setTop (mkF m 13 #[.val (.ref x0), .val (.long x1), .second] [(.long x1), (.ref x0)]))
  refine g_putF X2 hx hZ hown (hw _ (List.mem_of_getElem? (i := 12) rfl)) Via.refl e2 k2_1 k2_0 (Or.inr ⟨(hw _ (List.mem_of_getElem? (i := 13) rfl)), rfl, hnm⟩) (hw _ (List.mem_of_getElem? (i := 1) rfl)) (ty := .long) (by decide) rfl rfl 16 (hb hby d1_13) rfl ?_
  intro T3 h3 X3 e3 W3
  have K3 := K2.wr W3 (Or.inl (List.mem_of_getElem? (i := 0) rfl))
  have N3 := Fr.snoc X3 N2 P5
  have k3_0 := k2_0.wr W3
  have k3_2 := k2_2.other W3 (Or.inr (slot_ne (Or.inl (hw _ (List.mem_of_getElem? (i := 22) rfl))) (Or.inr (hw _ (List.mem_of_getElem? (i := 13) rfl))) (by decide) (t := .long) (t' := .long) (by decide) (by decide)))
  have k3_3 := k2_4.other W3 (Or.inr (slot_ne (Or.inl (hw _ (List.mem_of_getElem? (i := 15) rfl))) (Or.inr (hw _ (List.mem_of_getElem? (i := 13) rfl))) (by decide) (t := .long) (t' := .long) (by decide) (by decide)))
  have k3_5 := F2.other W3 (Or.inr (slot_ne (Or.inl (hw _ (List.mem_of_getElem? (i := 11) rfl))) (Or.inr (hw _ (List.mem_of_getElem? (i := 13) rfl))) (by decide) (t := .long) (t' := .long) (by decide) (by decide)))
  have Z3 : n0 ≤ h3.size := by rw [W3.size]; exact Z2
  have F3 := k2_1.same W3
  show Go p e below s _ _ _ (T3.setTop (mkF m 16 #[.val (.ref x0), .val (.long x1), .second] []))
  refine g_aloadN X3 hx 17 (hb hby d1_16) rfl rfl rfl ?_
  show Go p e below s _ _ _ (T3.setTop (mkF m 17 #[.val (.ref x0), .val (.long x1), .second] [(.ref x0)]))
  refine g_lloadN X3 hx 18 (hb hby d1_17) rfl rfl ?_
  show Go p e below s _ _ _ (T3.setTop (mkF m 18 #[.val (.ref x0), .val (.long x1), .second] [(.long x1), (.ref x0)]))
  refine g_putF X3 hx hZ hown (hw _ (List.mem_of_getElem? (i := 14) rfl)) Via.refl e3 k3_3 k3_0 (Or.inl (hw _ (List.mem_of_getElem? (i := 15) rfl))) (hw _ (List.mem_of_getElem? (i := 1) rfl)) (ty := .long) (by decide) rfl rfl 21 (hb hby d1_18) rfl ?_
  intro T4 h4 X4 e4 W4
  have K4 := K3.wr W4 (Or.inl (List.mem_of_getElem? (i := 0) rfl))
  have N4 := Fr.snoc X4 N3 P5
  have k4_0 := k3_0.wr W4
  have k4_1 := k3_2.other W4 (Or.inr (slot_ne (Or.inl (hw _ (List.mem_of_getElem? (i := 22) rfl))) (Or.inl (hw _ (List.mem_of_getElem? (i := 15) rfl))) (by decide) (t := .long) (t' := .long) (by decide) (by decide)))
  have k4_4 := k3_5.other W4 (Or.inr (slot_ne (Or.inl (hw _ (List.mem_of_getElem? (i := 11) rfl))) (Or.inl (hw _ (List.mem_of_getElem? (i := 15) rfl))) (by decide) (t := .long) (t' := .long) (by decide) (by decide)))
  have k4_5 := F3.other W4 (Or.inr (slot_ne (Or.inr (hw _ (List.mem_of_getElem? (i := 13) rfl))) (Or.inl (hw _ (List.mem_of_getElem? (i := 15) rfl))) (by decide) (t := .long) (t' := .long) (by decide) (by decide)))
  have Z4 : n0 ≤ h4.size := by rw [W4.size]; exact Z3
  have F4 := k3_3.same W4
  show Go p e below s _ _ _ (T4.setTop (mkF m 21 #[.val (.ref x0), .val (.long x1), .second] []))
  exact g_retV X4 hx hret hlk (hb hby d1_21) (by decide) (by decide) (by rw [e4]; exact ⟨rfl, N4, K4, k4_5, k4_1, k4_4, F4⟩)
theorem d3_0 : decode prog_9_method_2_code 0 = .ok (.aload_n 0, 1) := by decide +kernel
theorem d3_1 : decode prog_9_method_2_code 1 = .ok (.dup, 1) := by decide +kernel
theorem d3_2 : decode prog_9_method_2_code 2 = .ok (.getfield 23, 3) := by decide +kernel
theorem d3_5 : decode prog_9_method_2_code 5 = .ok (.lconst 1, 1) := by decide +kernel
theorem d3_6 : decode prog_9_method_2_code 6 = .ok (.ladd, 1) := by decide +kernel
theorem d3_7 : decode prog_9_method_2_code 7 = .ok (.putfield 23, 3) := by decide +kernel
theorem d3_10 : decode prog_9_method_2_code 10 = .ok (.aload_n 0, 1) := by decide +kernel
theorem d3_11 : decode prog_9_method_2_code 11 = .ok (.aload_n 0, 1) := by decide +kernel
theorem d3_12 : decode prog_9_method_2_code 12 = .ok (.getfield 23, 3) := by decide +kernel
theorem d3_15 : decode prog_9_method_2_code 15 = .ok (.invokestatic 26, 3) := by decide +kernel
theorem d3_18 : decode prog_9_method_2_code 18 = .ok (.putfield 13, 3) := by decide +kernel
theorem d3_21 : decode prog_9_method_2_code 21 = .ok (.aload_n 0, 1) := by decide +kernel
theorem d3_22 : decode prog_9_method_2_code 22 = .ok (.aload_n 0, 1) := by decide +kernel
theorem d3_23 : decode prog_9_method_2_code 23 = .ok (.getfield 17, 3) := by decide +kernel
theorem d3_26 : decode prog_9_method_2_code 26 = .ok (.putfield 20, 3) := by decide +kernel
theorem d3_29 : decode prog_9_method_2_code 29 = .ok (.return_, 1) := by decide +kernel
theorem ef_3 (m : MethodId) (x0 : Addr) : entryFrame m #[(.ref x0)] 1 = mkF m 0 #[.val (.ref x0)] [] := by first | (simp [entryFrame, mkF, argsToLocals, Value.category]; done) | rfl
def Q3 (Z : State) (x0 : Addr) (o1 : Int64) (o2 : Int64) (o3 : Int64) (o4 : Int64) (h0 : Heap) (n0 : Nat) (v : Option Value) (h : Heap) (L : List Loc) : Prop := v = none ∧ Fr n0 L ∧ Keep h0 h [x0] ∧ Fld Z h x0 "com/example/varietal/varietal/core/random/SeededRandom" "seed" "J" (.long o1) ∧ Fld Z h x0 "com/example/varietal/varietal/core/random/SeededRandom" "stream" "J" (.long (o2 + (1 : Int64))) ∧ Fld Z h x0 "com/example/varietal/varietal/core/random/SeededRandom" "step" "J" (.long (f4 (o2 + (1 : Int64)))) ∧ Fld Z h x0 "com/example/varietal/varietal/core/random/SeededRandom" "state" "J" (.long o1)
set_option maxRecDepth 65536 in
set_option maxHeartbeats 40000000 in
theorem rm3 (l : Launch) (Z : State) (a0 : Array Value) (hw : ∀ d ∈ tables_1, d.before a0 Z = true) (ws : List Jvm.Cond) (x0 : Addr) (o1 : Int64) (o2 : Int64) (o3 : Int64) (o4 : Int64) (h0 : Heap) (n0 : Nat) (Z0 : n0 ≤ h0.size) (P0 : Exa Z h0 x0 "com/example/varietal/varietal/core/random/SeededRandom") (P1 : Fld Z h0 x0 "com/example/varietal/varietal/core/random/SeededRandom" "seed" "J" (.long o1)) (P2 : Fld Z h0 x0 "com/example/varietal/varietal/core/random/SeededRandom" "stream" "J" (.long o2)) (P3 : Fld Z h0 x0 "com/example/varietal/varietal/core/random/SeededRandom" "step" "J" (.long o3)) (P4 : Fld Z h0 x0 "com/example/varietal/varietal/core/random/SeededRandom" "state" "J" (.long o4)) (P5 : n0 ≤ x0) :
    MetFree l (⟨"com/example/varietal/varietal/core/random/SeededRandom", "nextStream", "()V"⟩ : MethodName) (head1 (Jvm.Cond.code (⟨"com/example/varietal/varietal/core/random/SeededRandom", "nextStream", "()V"⟩ : MethodName) prog_9_method_2_code 1 none :: ws) ({ frames := 1, cells := 0, slots := 0, locals := 16 } : Room)) (fun a U => a = #[(.ref x0)] ∧ Z.Warmed39 U.vm ∧ U.heap = h0) (fun _ _ _ _ _ => True) (fun _ U o U' => ∃ v L, o = .returned v ∧ Q3 Z x0 o1 o2 o3 o4 h0 n0 v U'.heap L ∧ FrameEnd U o U' L ({ frames := 1, cells := 0, slots := 0, locals := 16 } : Room).cells ({ frames := 1, cells := 0, slots := 0, locals := 16 } : Room).slots) := by
  refine g_body (plainFor_of_name pn_4) ?_
  intro p e s m below meth c T0 X0 hx hby hml hret hlk hown hnm hZ e0
  rw [ef_3]
  have N0 := Fr.nil n0
  show Go p e below s _ _ _ (T0.setTop (mkF m 0 #[.val (.ref x0)] []))
  refine g_aloadN X0 hx 1 (hb hby d3_0) rfl rfl rfl ?_
  show Go p e below s _ _ _ (T0.setTop (mkF m 1 #[.val (.ref x0)] [(.ref x0)]))
  refine g_dup X0 hx 2 (hb hby d3_1) rfl rfl ?_
  show Go p e below s _ _ _ (T0.setTop (mkF m 2 #[.val (.ref x0)] [(.ref x0), (.ref x0)]))
  refine g_getF X0 hx hZ hown (hw _ (List.mem_of_getElem? (i := 21) rfl)) Via.refl e0 P2 5 (hb hby d3_2) rfl ?_
  intro T1 X1 e1
  show Go p e below s _ _ _ (T1.setTop (mkF m 5 #[.val (.ref x0)] [(.long o2), (.ref x0)]))
  refine g_lconst X1 hx (1 : Int64) 6 (hb hby d3_5) rfl rfl ?_
  show Go p e below s _ _ _ (T1.setTop (mkF m 6 #[.val (.ref x0)] [(.long (1 : Int64)), (.long o2), (.ref x0)]))
  refine g_ladd X1 hx 7 (hb hby d3_6) rfl ?_
  show Go p e below s _ _ _ (T1.setTop (mkF m 7 #[.val (.ref x0)] [(.long (o2 + (1 : Int64))), (.ref x0)]))
  refine g_putF X1 hx hZ hown (hw _ (List.mem_of_getElem? (i := 21) rfl)) Via.refl e1 P2 P0 (Or.inl (hw _ (List.mem_of_getElem? (i := 22) rfl))) (hw _ (List.mem_of_getElem? (i := 1) rfl)) (ty := .long) (by decide) rfl rfl 10 (hb hby d3_7) rfl ?_
  intro T2 h2 X2 e2 W2
  have K2 := (Keep.refl h0 [x0]).wr W2 (Or.inl (List.mem_of_getElem? (i := 0) rfl))
  have N2 := Fr.snoc X2 N0 P5
  have k2_0 := P0.wr W2
  have k2_1 := P1.other W2 (Or.inr (slot_ne (Or.inr (hw _ (List.mem_of_getElem? (i := 13) rfl))) (Or.inl (hw _ (List.mem_of_getElem? (i := 22) rfl))) (by decide) (t := .long) (t' := .long) (by decide) (by decide)))
  have k2_3 := P3.other W2 (Or.inr (slot_ne (Or.inl (hw _ (List.mem_of_getElem? (i := 11) rfl))) (Or.inl (hw _ (List.mem_of_getElem? (i := 22) rfl))) (by decide) (t := .long) (t' := .long) (by decide) (by decide)))
  have k2_4 := P4.other W2 (Or.inr (slot_ne (Or.inl (hw _ (List.mem_of_getElem? (i := 15) rfl))) (Or.inl (hw _ (List.mem_of_getElem? (i := 22) rfl))) (by decide) (t := .long) (t' := .long) (by decide) (by decide)))
  have Z2 : n0 ≤ h2.size := by rw [W2.size]; exact Z0
  have F2 := P2.same W2
  show Go p e below s _ _ _ (T2.setTop (mkF m 10 #[.val (.ref x0)] []))
  refine g_aloadN X2 hx 11 (hb hby d3_10) rfl rfl rfl ?_
  show Go p e below s _ _ _ (T2.setTop (mkF m 11 #[.val (.ref x0)] [(.ref x0)]))
  refine g_aloadN X2 hx 12 (hb hby d3_11) rfl rfl rfl ?_
  show Go p e below s _ _ _ (T2.setTop (mkF m 12 #[.val (.ref x0)] [(.ref x0), (.ref x0)]))
  refine g_getF X2 hx hZ hown (hw _ (List.mem_of_getElem? (i := 21) rfl)) Via.refl e2 F2 15 (hb hby d3_12) rfl ?_
  intro T3 X3 e3
  show Go p e below s _ _ _ (T3.setTop (mkF m 15 #[.val (.ref x0)] [(.long (o2 + (1 : Int64))), (.ref x0)]))
  refine g_callS X3 hx hZ hown (hw _ (List.mem_of_getElem? (i := 23) rfl)) (hw _ (List.mem_of_getElem? (i := 24) rfl)) (hw _ (List.mem_of_getElem? (i := 2) rfl)) (hw _ (List.mem_of_getElem? (i := 25) rfl)) (by decide) e3 (rm4 l Z a0 hw [] (o2 + (1 : Int64)) h2) [(.long (o2 + (1 : Int64)))] [(.ref x0)] 1 rfl (lenOf pd__28J_29J rfl) rfl (Nat.le_of_eq rfl) (by decide) (by decide) (by decide) (by decide) (by rw [hml]; rfl) (hb hby d3_15) ?_
  intro T4 L4 v4 X4 q4
  obtain ⟨rfl, rfl, e4⟩ := q4
  have NS4 := Fr.app N2 (Fr.nil n0)
  show Go p e below s _ _ _ (T4.setTop (mkF m 18 #[.val (.ref x0)] [(.long (f4 (o2 + (1 : Int64)))), (.ref x0)]))
  refine g_putF X4 hx hZ hown (hw _ (List.mem_of_getElem? (i := 10) rfl)) Via.refl e4 k2_3 k2_0 (Or.inl (hw _ (List.mem_of_getElem? (i := 11) rfl))) (hw _ (List.mem_of_getElem? (i := 1) rfl)) (ty := .long) (by decide) rfl rfl 21 (hb hby d3_18) rfl ?_
  intro T5 h5 X5 e5 W5
  have K5 := K2.wr W5 (Or.inl (List.mem_of_getElem? (i := 0) rfl))
  have N5 := Fr.snoc X5 NS4 P5
  have k5_0 := k2_0.wr W5
  have k5_1 := k2_1.other W5 (Or.inr (slot_ne (Or.inr (hw _ (List.mem_of_getElem? (i := 13) rfl))) (Or.inl (hw _ (List.mem_of_getElem? (i := 11) rfl))) (by decide) (t := .long) (t' := .long) (by decide) (by decide)))
  have k5_3 := k2_4.other W5 (Or.inr (slot_ne (Or.inl (hw _ (List.mem_of_getElem? (i := 15) rfl))) (Or.inl (hw _ (List.mem_of_getElem? (i := 11) rfl))) (by decide) (t := .long) (t' := .long) (by decide) (by decide)))
  have k5_5 := F2.other W5 (Or.inr (slot_ne (Or.inl (hw _ (List.mem_of_getElem? (i := 22) rfl))) (Or.inl (hw _ (List.mem_of_getElem? (i := 11) rfl))) (by decide) (t := .long) (t' := .long) (by decide) (by decide)))
  have Z5 : n0 ≤ h5.size := by rw [W5.size]; exact Z2
  have F5 := k2_3.same W5
  show Go p e below s _ _ _ (T5.setTop (mkF m 21 #[.val (.ref x0)] []))
  refine g_aloadN X5 hx 22 (hb hby d3_21) rfl rfl rfl ?_
  show Go p e below s _ _ _ (T5.setTop (mkF m 22 #[.val (.ref x0)] [(.ref x0)]))
  refine g_aloadN X5 hx 23 (hb hby d3_22) rfl rfl rfl ?_
  show Go p e below s _ _ _ (T5.setTop (mkF m 23 #[.val (.ref x0)] [(.ref x0), (.ref x0)]))
  refine g_getF X5 hx hZ hown (hw _ (List.mem_of_getElem? (i := 12) rfl)) Via.refl e5 k5_1 26 (hb hby d3_23) rfl ?_
  intro T6 X6 e6
  show Go p e below s _ _ _ (T6.setTop (mkF m 26 #[.val (.ref x0)] [(.long o1), (.ref x0)]))
  refine g_putF X6 hx hZ hown (hw _ (List.mem_of_getElem? (i := 14) rfl)) Via.refl e6 k5_3 k5_0 (Or.inl (hw _ (List.mem_of_getElem? (i := 15) rfl))) (hw _ (List.mem_of_getElem? (i := 1) rfl)) (ty := .long) (by decide) rfl rfl 29 (hb hby d3_26) rfl ?_
  intro T7 h7 X7 e7 W7
  have K7 := K5.wr W7 (Or.inl (List.mem_of_getElem? (i := 0) rfl))
  have N7 := Fr.snoc X7 N5 P5
  have k7_0 := k5_0.wr W7
  have k7_1 := k5_1.other W7 (Or.inr (slot_ne (Or.inr (hw _ (List.mem_of_getElem? (i := 13) rfl))) (Or.inl (hw _ (List.mem_of_getElem? (i := 15) rfl))) (by decide) (t := .long) (t' := .long) (by decide) (by decide)))
  have k7_4 := k5_5.other W7 (Or.inr (slot_ne (Or.inl (hw _ (List.mem_of_getElem? (i := 22) rfl))) (Or.inl (hw _ (List.mem_of_getElem? (i := 15) rfl))) (by decide) (t := .long) (t' := .long) (by decide) (by decide)))
  have k7_5 := F5.other W7 (Or.inr (slot_ne (Or.inl (hw _ (List.mem_of_getElem? (i := 11) rfl))) (Or.inl (hw _ (List.mem_of_getElem? (i := 15) rfl))) (by decide) (t := .long) (t' := .long) (by decide) (by decide)))
  have Z7 : n0 ≤ h7.size := by rw [W7.size]; exact Z5
  have F7 := k5_3.same W7
  show Go p e below s _ _ _ (T7.setTop (mkF m 29 #[.val (.ref x0)] []))
  exact g_retV X7 hx hret hlk (hb hby d3_29) (by decide) (by decide) (by rw [e7]; exact ⟨rfl, N7, K7, k7_1, k7_4, k7_5, F7⟩)
theorem d5_0 : decode prog_9_method_3_code 0 = .ok (.aload_n 0, 1) := by decide +kernel
theorem d5_1 : decode prog_9_method_3_code 1 = .ok (.dup, 1) := by decide +kernel
theorem d5_2 : decode prog_9_method_3_code 2 = .ok (.getfield 20, 3) := by decide +kernel
theorem d5_5 : decode prog_9_method_3_code 5 = .ok (.aload_n 0, 1) := by decide +kernel
theorem d5_6 : decode prog_9_method_3_code 6 = .ok (.getfield 13, 3) := by decide +kernel
theorem d5_9 : decode prog_9_method_3_code 9 = .ok (.ladd, 1) := by decide +kernel
theorem d5_10 : decode prog_9_method_3_code 10 = .ok (.putfield 20, 3) := by decide +kernel
theorem d5_13 : decode prog_9_method_3_code 13 = .ok (.aload_n 0, 1) := by decide +kernel
theorem d5_14 : decode prog_9_method_3_code 14 = .ok (.getfield 20, 3) := by decide +kernel
theorem d5_17 : decode prog_9_method_3_code 17 = .ok (.aload_n 0, 1) := by decide +kernel
theorem d5_18 : decode prog_9_method_3_code 18 = .ok (.getfield 20, 3) := by decide +kernel
theorem d5_21 : decode prog_9_method_3_code 21 = .ok (.bipush 30, 2) := by decide +kernel
theorem d5_23 : decode prog_9_method_3_code 23 = .ok (.lushr, 1) := by decide +kernel
theorem d5_24 : decode prog_9_method_3_code 24 = .ok (.lxor, 1) := by decide +kernel
theorem d5_25 : decode prog_9_method_3_code 25 = .ok (.ldc2_w 29, 3) := by decide +kernel
theorem d5_28 : decode prog_9_method_3_code 28 = .ok (.lmul, 1) := by decide +kernel
theorem d5_29 : decode prog_9_method_3_code 29 = .ok (.lstore_n 1, 1) := by decide +kernel
theorem d5_30 : decode prog_9_method_3_code 30 = .ok (.lload_n 1, 1) := by decide +kernel
theorem d5_31 : decode prog_9_method_3_code 31 = .ok (.lload_n 1, 1) := by decide +kernel
theorem d5_32 : decode prog_9_method_3_code 32 = .ok (.bipush 27, 2) := by decide +kernel
theorem d5_34 : decode prog_9_method_3_code 34 = .ok (.lushr, 1) := by decide +kernel
theorem d5_35 : decode prog_9_method_3_code 35 = .ok (.lxor, 1) := by decide +kernel
theorem d5_36 : decode prog_9_method_3_code 36 = .ok (.ldc2_w 31, 3) := by decide +kernel
theorem d5_39 : decode prog_9_method_3_code 39 = .ok (.lmul, 1) := by decide +kernel
theorem d5_40 : decode prog_9_method_3_code 40 = .ok (.lstore_n 1, 1) := by decide +kernel
theorem d5_41 : decode prog_9_method_3_code 41 = .ok (.lload_n 1, 1) := by decide +kernel
theorem d5_42 : decode prog_9_method_3_code 42 = .ok (.lload_n 1, 1) := by decide +kernel
theorem d5_43 : decode prog_9_method_3_code 43 = .ok (.bipush 31, 2) := by decide +kernel
theorem d5_45 : decode prog_9_method_3_code 45 = .ok (.lushr, 1) := by decide +kernel
theorem d5_46 : decode prog_9_method_3_code 46 = .ok (.lxor, 1) := by decide +kernel
theorem d5_47 : decode prog_9_method_3_code 47 = .ok (.lreturn, 1) := by decide +kernel
theorem ef_5 (m : MethodId) (x0 : Addr) : entryFrame m #[(.ref x0)] 3 = mkF m 0 #[.val (.ref x0), .unset, .unset] [] := by first | (simp [entryFrame, mkF, argsToLocals, Value.category]; done) | rfl
def v5_m1 (o3 : Int64) (o4 : Int64) : Int64 := (((o4 + o3) ^^^ (ushrJ (o4 + o3) (30 : Int32))) * (-4658895280553007687 : Int64))
def v5_m2 (o3 : Int64) (o4 : Int64) : Int64 := (((v5_m1 o3 o4) ^^^ (ushrJ (v5_m1 o3 o4) (27 : Int32))) * (-7723592293110705685 : Int64))
def f5 (o3 : Int64) (o4 : Int64) : Int64 := ((v5_m2 o3 o4) ^^^ (ushrJ (v5_m2 o3 o4) (31 : Int32)))
def Q5 (Z : State) (x0 : Addr) (o3 : Int64) (o4 : Int64) (h0 : Heap) (n0 : Nat) (v : Option Value) (h : Heap) (L : List Loc) : Prop := v = some (.long (f5 o3 o4)) ∧ Fr n0 L ∧ Keep h0 h [x0] ∧ Fld Z h x0 "com/example/varietal/varietal/core/random/SeededRandom" "step" "J" (.long o3) ∧ Fld Z h x0 "com/example/varietal/varietal/core/random/SeededRandom" "state" "J" (.long (o4 + o3))
set_option maxRecDepth 65536 in
set_option maxHeartbeats 40000000 in
theorem rm5 (l : Launch) (Z : State) (a0 : Array Value) (hw : ∀ d ∈ tables_1, d.before a0 Z = true) (ws : List Jvm.Cond) (x0 : Addr) (o3 : Int64) (o4 : Int64) (h0 : Heap) (n0 : Nat) (Z0 : n0 ≤ h0.size) (P0 : Exa Z h0 x0 "com/example/varietal/varietal/core/random/SeededRandom") (P1 : Fld Z h0 x0 "com/example/varietal/varietal/core/random/SeededRandom" "step" "J" (.long o3)) (P2 : Fld Z h0 x0 "com/example/varietal/varietal/core/random/SeededRandom" "state" "J" (.long o4)) (P3 : n0 ≤ x0) :
    MetFree l (⟨"com/example/varietal/varietal/core/random/SeededRandom", "nextLong", "()J"⟩ : MethodName) (head1 (Jvm.Cond.code (⟨"com/example/varietal/varietal/core/random/SeededRandom", "nextLong", "()J"⟩ : MethodName) prog_9_method_3_code 3 (some .long) :: ws) ({ frames := 0, cells := 0, slots := 0, locals := 0 } : Room)) (fun a U => a = #[(.ref x0)] ∧ Z.Warmed39 U.vm ∧ U.heap = h0) (fun _ _ _ _ _ => True) (fun _ U o U' => ∃ v L, o = .returned v ∧ Q5 Z x0 o3 o4 h0 n0 v U'.heap L ∧ FrameEnd U o U' L ({ frames := 0, cells := 0, slots := 0, locals := 0 } : Room).cells ({ frames := 0, cells := 0, slots := 0, locals := 0 } : Room).slots) := by
  refine g_body (plainFor_of_name pn_4) ?_
  intro p e s m below meth c T0 X0 hx hby hml hret hlk hown hnm hZ e0
  rw [ef_5]
  have N0 := Fr.nil n0
  show Go p e below s _ _ _ (T0.setTop (mkF m 0 #[.val (.ref x0), .unset, .unset] []))
  refine g_aloadN X0 hx 1 (hb hby d5_0) rfl rfl rfl ?_
  show Go p e below s _ _ _ (T0.setTop (mkF m 1 #[.val (.ref x0), .unset, .unset] [(.ref x0)]))
  refine g_dup X0 hx 2 (hb hby d5_1) rfl rfl ?_
  show Go p e below s _ _ _ (T0.setTop (mkF m 2 #[.val (.ref x0), .unset, .unset] [(.ref x0), (.ref x0)]))
  refine g_getF X0 hx hZ hown (hw _ (List.mem_of_getElem? (i := 14) rfl)) Via.refl e0 P2 5 (hb hby d5_2) rfl ?_
  intro T1 X1 e1
  show Go p e below s _ _ _ (T1.setTop (mkF m 5 #[.val (.ref x0), .unset, .unset] [(.long o4), (.ref x0)]))
  refine g_aloadN X1 hx 6 (hb hby d5_5) rfl rfl rfl ?_
  show Go p e below s _ _ _ (T1.setTop (mkF m 6 #[.val (.ref x0), .unset, .unset] [(.ref x0), (.long o4), (.ref x0)]))
  refine g_getF X1 hx hZ hown (hw _ (List.mem_of_getElem? (i := 10) rfl)) Via.refl e1 P1 9 (hb hby d5_6) rfl ?_
  intro T2 X2 e2
  show Go p e below s _ _ _ (T2.setTop (mkF m 9 #[.val (.ref x0), .unset, .unset] [(.long o3), (.long o4), (.ref x0)]))
  refine g_ladd X2 hx 10 (hb hby d5_9) rfl ?_
  show Go p e below s _ _ _ (T2.setTop (mkF m 10 #[.val (.ref x0), .unset, .unset] [(.long (o4 + o3)), (.ref x0)]))
  refine g_putF X2 hx hZ hown (hw _ (List.mem_of_getElem? (i := 14) rfl)) Via.refl e2 P2 P0 (Or.inl (hw _ (List.mem_of_getElem? (i := 15) rfl))) (hw _ (List.mem_of_getElem? (i := 1) rfl)) (ty := .long) (by decide) rfl rfl 13 (hb hby d5_10) rfl ?_
  intro T3 h3 X3 e3 W3
  have K3 := (Keep.refl h0 [x0]).wr W3 (Or.inl (List.mem_of_getElem? (i := 0) rfl))
  have N3 := Fr.snoc X3 N0 P3
  have k3_0 := P0.wr W3
  have k3_1 := P1.other W3 (Or.inr (slot_ne (Or.inl (hw _ (List.mem_of_getElem? (i := 11) rfl))) (Or.inl (hw _ (List.mem_of_getElem? (i := 15) rfl))) (by decide) (t := .long) (t' := .long) (by decide) (by decide)))
  have Z3 : n0 ≤ h3.size := by rw [W3.size]; exact Z0
  have F3 := P2.same W3
  show Go p e below s _ _ _ (T3.setTop (mkF m 13 #[.val (.ref x0), .unset, .unset] []))
  refine g_aloadN X3 hx 14 (hb hby d5_13) rfl rfl rfl ?_
  show Go p e below s _ _ _ (T3.setTop (mkF m 14 #[.val (.ref x0), .unset, .unset] [(.ref x0)]))
  refine g_getF X3 hx hZ hown (hw _ (List.mem_of_getElem? (i := 14) rfl)) Via.refl e3 F3 17 (hb hby d5_14) rfl ?_
  intro T4 X4 e4
  show Go p e below s _ _ _ (T4.setTop (mkF m 17 #[.val (.ref x0), .unset, .unset] [(.long (o4 + o3))]))
  refine g_aloadN X4 hx 18 (hb hby d5_17) rfl rfl rfl ?_
  show Go p e below s _ _ _ (T4.setTop (mkF m 18 #[.val (.ref x0), .unset, .unset] [(.ref x0), (.long (o4 + o3))]))
  refine g_getF X4 hx hZ hown (hw _ (List.mem_of_getElem? (i := 14) rfl)) Via.refl e4 F3 21 (hb hby d5_18) rfl ?_
  intro T5 X5 e5
  show Go p e below s _ _ _ (T5.setTop (mkF m 21 #[.val (.ref x0), .unset, .unset] [(.long (o4 + o3)), (.long (o4 + o3))]))
  refine g_bipush X5 hx (30 : Int32) 23 (hb hby d5_21) rfl rfl ?_
  show Go p e below s _ _ _ (T5.setTop (mkF m 23 #[.val (.ref x0), .unset, .unset] [(.int (30 : Int32)), (.long (o4 + o3)), (.long (o4 + o3))]))
  refine g_lushr X5 hx 24 (hb hby d5_23) rfl ?_
  show Go p e below s _ _ _ (T5.setTop (mkF m 24 #[.val (.ref x0), .unset, .unset] [(.long (ushrJ (o4 + o3) (30 : Int32))), (.long (o4 + o3))]))
  refine g_lxor X5 hx 25 (hb hby d5_24) rfl ?_
  show Go p e below s _ _ _ (T5.setTop (mkF m 25 #[.val (.ref x0), .unset, .unset] [(.long ((o4 + o3) ^^^ (ushrJ (o4 + o3) (30 : Int32))))]))
  refine g_ldc2_w X5 hx hZ hown (hw _ (List.mem_of_getElem? (i := 26) rfl)) 28 (hb hby d5_25) rfl ?_
  show Go p e below s _ _ _ (T5.setTop (mkF m 28 #[.val (.ref x0), .unset, .unset] [(.long (-4658895280553007687 : Int64)), (.long ((o4 + o3) ^^^ (ushrJ (o4 + o3) (30 : Int32))))]))
  refine g_lmul X5 hx 29 (hb hby d5_28) rfl ?_
  show Go p e below s _ _ _ (T5.setTop (mkF m 29 #[.val (.ref x0), .unset, .unset] [(.long (((o4 + o3) ^^^ (ushrJ (o4 + o3) (30 : Int32))) * (-4658895280553007687 : Int64)))]))
  refine g_lstoreN X5 hx #[.val (.ref x0), .val (.long (v5_m1 o3 o4)), .second] 30 (hb hby d5_29) rfl rfl ?_
  show Go p e below s _ _ _ (T5.setTop (mkF m 30 #[.val (.ref x0), .val (.long (v5_m1 o3 o4)), .second] []))
  refine g_lloadN X5 hx 31 (hb hby d5_30) rfl rfl ?_
  show Go p e below s _ _ _ (T5.setTop (mkF m 31 #[.val (.ref x0), .val (.long (v5_m1 o3 o4)), .second] [(.long (v5_m1 o3 o4))]))
  refine g_lloadN X5 hx 32 (hb hby d5_31) rfl rfl ?_
  show Go p e below s _ _ _ (T5.setTop (mkF m 32 #[.val (.ref x0), .val (.long (v5_m1 o3 o4)), .second] [(.long (v5_m1 o3 o4)), (.long (v5_m1 o3 o4))]))
  refine g_bipush X5 hx (27 : Int32) 34 (hb hby d5_32) rfl rfl ?_
  show Go p e below s _ _ _ (T5.setTop (mkF m 34 #[.val (.ref x0), .val (.long (v5_m1 o3 o4)), .second] [(.int (27 : Int32)), (.long (v5_m1 o3 o4)), (.long (v5_m1 o3 o4))]))
  refine g_lushr X5 hx 35 (hb hby d5_34) rfl ?_
  show Go p e below s _ _ _ (T5.setTop (mkF m 35 #[.val (.ref x0), .val (.long (v5_m1 o3 o4)), .second] [(.long (ushrJ (v5_m1 o3 o4) (27 : Int32))), (.long (v5_m1 o3 o4))]))
  refine g_lxor X5 hx 36 (hb hby d5_35) rfl ?_
  show Go p e below s _ _ _ (T5.setTop (mkF m 36 #[.val (.ref x0), .val (.long (v5_m1 o3 o4)), .second] [(.long ((v5_m1 o3 o4) ^^^ (ushrJ (v5_m1 o3 o4) (27 : Int32))))]))
  refine g_ldc2_w X5 hx hZ hown (hw _ (List.mem_of_getElem? (i := 28) rfl)) 39 (hb hby d5_36) rfl ?_
  show Go p e below s _ _ _ (T5.setTop (mkF m 39 #[.val (.ref x0), .val (.long (v5_m1 o3 o4)), .second] [(.long (-7723592293110705685 : Int64)), (.long ((v5_m1 o3 o4) ^^^ (ushrJ (v5_m1 o3 o4) (27 : Int32))))]))
  refine g_lmul X5 hx 40 (hb hby d5_39) rfl ?_
  show Go p e below s _ _ _ (T5.setTop (mkF m 40 #[.val (.ref x0), .val (.long (v5_m1 o3 o4)), .second] [(.long (((v5_m1 o3 o4) ^^^ (ushrJ (v5_m1 o3 o4) (27 : Int32))) * (-7723592293110705685 : Int64)))]))
  refine g_lstoreN X5 hx #[.val (.ref x0), .val (.long (v5_m2 o3 o4)), .second] 41 (hb hby d5_40) rfl rfl ?_
  show Go p e below s _ _ _ (T5.setTop (mkF m 41 #[.val (.ref x0), .val (.long (v5_m2 o3 o4)), .second] []))
  refine g_lloadN X5 hx 42 (hb hby d5_41) rfl rfl ?_
  show Go p e below s _ _ _ (T5.setTop (mkF m 42 #[.val (.ref x0), .val (.long (v5_m2 o3 o4)), .second] [(.long (v5_m2 o3 o4))]))
  refine g_lloadN X5 hx 43 (hb hby d5_42) rfl rfl ?_
  show Go p e below s _ _ _ (T5.setTop (mkF m 43 #[.val (.ref x0), .val (.long (v5_m2 o3 o4)), .second] [(.long (v5_m2 o3 o4)), (.long (v5_m2 o3 o4))]))
  refine g_bipush X5 hx (31 : Int32) 45 (hb hby d5_43) rfl rfl ?_
  show Go p e below s _ _ _ (T5.setTop (mkF m 45 #[.val (.ref x0), .val (.long (v5_m2 o3 o4)), .second] [(.int (31 : Int32)), (.long (v5_m2 o3 o4)), (.long (v5_m2 o3 o4))]))
  refine g_lushr X5 hx 46 (hb hby d5_45) rfl ?_
  show Go p e below s _ _ _ (T5.setTop (mkF m 46 #[.val (.ref x0), .val (.long (v5_m2 o3 o4)), .second] [(.long (ushrJ (v5_m2 o3 o4) (31 : Int32))), (.long (v5_m2 o3 o4))]))
  refine g_lxor X5 hx 47 (hb hby d5_46) rfl ?_
  show Go p e below s _ _ _ (T5.setTop (mkF m 47 #[.val (.ref x0), .val (.long (v5_m2 o3 o4)), .second] [(.long ((v5_m2 o3 o4) ^^^ (ushrJ (v5_m2 o3 o4) (31 : Int32))))]))
  exact g_retJ X5 hx hret hlk (hb hby d5_47) (by decide) (by decide) (by rw [e5]; exact ⟨congrArg (fun z => some (Value.long z)) (show ((v5_m2 o3 o4) ^^^ (ushrJ (v5_m2 o3 o4) (31 : Int32))) = (f5 o3 o4) from by rw [f5]), N3, K3, k3_1, F3⟩)
def v0_s (x1 : Int32) : Int32 := (x1 &&& (3 : Int32))
/-- the number that a long's 64 bits write -/
def own_N (x : Int64) : Nat := x.toBitVec.toNat
theorem own_Nlt (x : Int64) : own_N x < 2 ^ 64 := x.toBitVec.isLt
theorem own_Ninj {x y : Int64} (h : own_N x = own_N y) : x = y := Int64.toBitVec_inj.mp (BitVec.eq_of_toNat_eq h)
theorem own_Nxor (x y : Int64) : own_N (x ^^^ y) = own_N x ^^^ own_N y := by simp [own_N]
theorem own_Nshr (x : Int64) (q : Int32) (k : UInt64) (hk : (q &&& 0x3f).toInt64.toUInt64 = k) (hl : k.toNat < 64) : own_N (ushrJ x q) = own_N x >>> k.toNat := by
  have : own_N (ushrJ x q) = (x.toUInt64 >>> k).toBitVec.toNat := by unfold ushrJ own_N; rw [hk]; rfl
  rw [this, UInt64.toBitVec_shiftRight]
  simp [own_N, Nat.mod_eq_of_lt hl]
/-- x ^ (x >>> k) undone, where three times k is 64 or more -/
theorem own_undo (x : Int64) (q r : Int32) (k k2 : UInt64) (hk : (q &&& 0x3f).toInt64.toUInt64 = k) (hk2 : (r &&& 0x3f).toInt64.toUInt64 = k2) (hl : k.toNat < 64) (hl2 : k2.toNat < 64) (e2 : k2.toNat = k.toNat + k.toNat) (h3 : 64 ≤ k2.toNat + k.toNat) :
    ((x ^^^ ushrJ x q) ^^^ ushrJ (x ^^^ ushrJ x q) q) ^^^ ushrJ (x ^^^ ushrJ x q) r = x := by
  apply own_Ninj
  simp only [own_Nxor, own_Nshr _ q k hk hl, own_Nshr _ r k2 hk2 hl2, Nat.shiftRight_xor_distrib]
  have hlt := own_Nlt x
  generalize own_N x = n at *
  have z : (n >>> k.toNat) >>> k2.toNat = 0 := by
    rw [← Nat.shiftRight_add, Nat.shiftRight_eq_div_pow]
    exact Nat.div_eq_of_lt (Nat.lt_of_lt_of_le hlt (Nat.pow_le_pow_right (by decide) (by omega)))
  have e : (n >>> k.toNat) >>> k.toNat = n >>> k2.toNat := by rw [← Nat.shiftRight_add, e2]
  rw [z, e, Nat.xor_zero]
  generalize n >>> k.toNat = a
  generalize n >>> k2.toNat = b
  rw [Nat.xor_assoc n a, ← Nat.xor_assoc a a b, Nat.xor_self, Nat.zero_xor, Nat.xor_assoc, Nat.xor_self, Nat.xor_zero]

theorem own_c1 : (-7723592293110705685 : Int64) * f7 (-7723592293110705685) = 1 := by decide +kernel
theorem own_c2 : (-4658895280553007687 : Int64) * f7 (-4658895280553007687) = 1 := by decide +kernel
theorem own_unmix (o d : Int64) : f6 (f5 d o) = o + d := by
  unfold f6 v6_x5 v6_x4 v6_x3 v6_x2 v6_x1 v6_x0 f5
  rw [own_undo (v5_m2 d o) 31 62 31 62 (by decide) (by decide) (by decide) (by decide) (by decide) (by decide)]
  have e2 : v5_m2 d o * f7 (-7723592293110705685) = v5_m1 d o ^^^ ushrJ (v5_m1 d o) 27 := by
    unfold v5_m2; rw [Int64.mul_assoc, own_c1, Int64.mul_one]
  rw [e2, own_undo (v5_m1 d o) 27 54 27 54 (by decide) (by decide) (by decide) (by decide) (by decide) (by decide)]
  have e1 : v5_m1 d o * f7 (-4658895280553007687) = (o + d) ^^^ ushrJ (o + d) 30 := by
    unfold v5_m1; rw [Int64.mul_assoc, own_c2, Int64.mul_one]
  rw [e1, own_undo (o + d) 30 60 30 60 (by decide) (by decide) (by decide) (by decide) (by decide) (by decide)]
theorem own_m1 (s : Int64) (n m : Int64) (h : n + 1 = m) : n * s + s = m * s := by
  rw [← h, Int64.add_mul, Int64.one_mul]
theorem own_u1 (o d d' : Int64) (h : d = d') : f6 (f5 d o) = o + d' := by rw [own_unmix, h]
theorem own_u2 (o d d' : Int64) (h : d = d') : f6 (f5 d (o + d)) = o + 2 * d' := by
  rw [own_unmix, h, Int64.add_assoc, ← own_m1 d' 1 2 rfl, Int64.one_mul]
theorem own_u3 (o d d' : Int64) (h : d = d') : f6 (f5 d ((o + d) + d)) = o + 3 * d' := by
  rw [own_unmix, h, Int64.add_assoc, Int64.add_assoc, ← own_m1 d' 2 3 rfl, ← own_m1 d' 1 2 rfl, Int64.one_mul, Int64.add_assoc]
theorem own_u4 (o d d' : Int64) (h : d = d') : f6 (f5 d (((o + d) + d) + d)) = o + 4 * d' := by
  rw [own_unmix, h, Int64.add_assoc, Int64.add_assoc, Int64.add_assoc, ← own_m1 d' 3 4 rfl, ← own_m1 d' 2 3 rfl, ← own_m1 d' 1 2 rfl, Int64.one_mul, Int64.add_assoc, Int64.add_assoc]
theorem own_s (k : Int32) : v0_s k = 0 ∨ v0_s k = 1 ∨ v0_s k = 2 ∨ v0_s k = 3 := by
  have h := c_mask k 3 2 (by decide) (by decide)
  have e : ∀ n : Nat, n < 4 → (v0_s k).toInt = n → v0_s k = Int32.ofNat n := fun n hn q => Int32.toInt_inj.mp (by rw [q, Int32.toInt_ofNat_of_lt (by omega)])
  have q : (v0_s k).toInt = k.toInt % 4 := h
  have := Int.emod_nonneg k.toInt (b := 4) (by decide)
  have := Int.emod_lt_of_pos k.toInt (b := 4) (by decide)
  rcases (by omega : (v0_s k).toInt = 0 ∨ (v0_s k).toInt = 1 ∨ (v0_s k).toInt = 2 ∨ (v0_s k).toInt = 3) with z | z | z | z
  · exact Or.inl (e 0 (by decide) z)
  · exact Or.inr (Or.inl (e 1 (by decide) z))
  · exact Or.inr (Or.inr (Or.inl (e 2 (by decide) z)))
  · exact Or.inr (Or.inr (Or.inr (e 3 (by decide) z)))
theorem own_s0 {k : Int32} (h : v0_s k < 1) : v0_s k = 0 := by rcases own_s k with q | q | q | q <;> rw [q] at h ⊢ <;> revert h <;> decide
theorem own_s1 {k : Int32} (h0 : ¬ v0_s k < 1) (h : v0_s k < 2) : v0_s k = 1 := by rcases own_s k with q | q | q | q <;> rw [q] at h h0 ⊢ <;> revert h h0 <;> decide
theorem own_s2 {k : Int32} (h0 : ¬ v0_s k < 2) (h : v0_s k < 3) : v0_s k = 2 := by rcases own_s k with q | q | q | q <;> rw [q] at h h0 ⊢ <;> revert h h0 <;> decide
theorem own_s3 {k : Int32} (h0 : ¬ v0_s k < 3) : v0_s k = 3 := by rcases own_s k with q | q | q | q <;> rw [q] at h0 ⊢ <;> revert h0 <;> decide

theorem own_eftt {k : Int32} (h0 : ¬ v0_s k < 1) (h : v0_s k < 2) : f4 (0 + 1) = f4 (v0_s k).toInt64 := by rw [own_s1 h0 h]; rfl
theorem own_efft {k : Int32} (h0 : ¬ v0_s k < 2) (h : v0_s k < 3) : f4 (0 + 1 + 1) = f4 (v0_s k).toInt64 := by rw [own_s2 h0 h]; rfl
theorem own_efff {k : Int32} (h0 : ¬ v0_s k < 3) : f4 (0 + 1 + 1 + 1) = f4 (v0_s k).toInt64 := by rw [own_s3 h0]; rfl
theorem pd__28J_29V : parseMethodDescriptor "(J)V" = some ⟨[.long], none⟩ := by decide +kernel
theorem pd__28_29J : parseMethodDescriptor "()J" = some ⟨[], some .long⟩ := by decide +kernel
theorem pd__28_29V : parseMethodDescriptor "()V" = some ⟨[], none⟩ := by decide +kernel
theorem ef_0 (m : MethodId) (x0 : Int64) (x1 : Int32) : entryFrame m #[(.long x0), (.int x1)] maxLocals = mkF m 0 #[.val (.long x0), .second, .val (.int x1), .unset, .unset, .unset, .unset, .unset, .unset, .unset, .unset, .unset, .unset, .unset, .unset] [] := by first | (simp [entryFrame, mkF, argsToLocals, Value.category, maxLocals]; done) | rfl
def Q0 (Z : State) (x0 : Int64) (x1 : Int32) (h0 : Heap) (n0 : Nat) (v : Option Value) (h : Heap) (L : List Loc) : Prop := v = some (.int (1 : Int32)) ∧ Fr n0 L
set_option maxRecDepth 65536 in
set_option maxHeartbeats 40000000 in
theorem rm0 (l : Launch) (Z : State) (a0 : Array Value) (hw : ∀ d ∈ tables_1, d.before a0 Z = true) (ws : List Jvm.Cond) (x0 : Int64) (x1 : Int32) (h0 : Heap) (n0 : Nat) (Z0 : n0 ≤ h0.size) :
    MetFree l x (head1 (Jvm.Cond.code x code maxLocals ret :: ws) room_1) (fun a U => a = #[(.long x0), (.int x1)] ∧ Z.Warmed39 U.vm ∧ U.heap = h0) (fun _ _ _ _ _ => True) (fun _ U o U' => ∃ v L, o = .returned v ∧ Q0 Z x0 x1 h0 n0 v U'.heap L ∧ FrameEnd U o U' L room_1.cells room_1.slots) := by
  refine g_body (plainFor_of_name pn_8) ?_
  intro p e s m below meth c T0 X0 hx hby hml hret hlk hown hnm hZ e0
  rw [ef_0]
  have N0 := Fr.nil n0
  show Go p e below s _ _ _ (T0.setTop (mkF m 0 #[.val (.long x0), .second, .val (.int x1), .unset, .unset, .unset, .unset, .unset, .unset, .unset, .unset, .unset, .unset, .unset, .unset] []))
  refine g_iloadN X0 hx 1 (hb hby at_0) rfl rfl ?_
  show Go p e below s _ _ _ (T0.setTop (mkF m 1 #[.val (.long x0), .second, .val (.int x1), .unset, .unset, .unset, .unset, .unset, .unset, .unset, .unset, .unset, .unset, .unset, .unset] [(.int x1)]))
  refine g_iconst X0 hx (3 : Int32) 2 (hb hby at_1) rfl rfl ?_
  show Go p e below s _ _ _ (T0.setTop (mkF m 2 #[.val (.long x0), .second, .val (.int x1), .unset, .unset, .unset, .unset, .unset, .unset, .unset, .unset, .unset, .unset, .unset, .unset] [(.int (3 : Int32)), (.int x1)]))
  refine g_iand X0 hx 3 (hb hby at_2) rfl ?_
  show Go p e below s _ _ _ (T0.setTop (mkF m 3 #[.val (.long x0), .second, .val (.int x1), .unset, .unset, .unset, .unset, .unset, .unset, .unset, .unset, .unset, .unset, .unset, .unset] [(.int (x1 &&& (3 : Int32)))]))
  refine g_istoreN X0 hx #[.val (.long x0), .second, .val (.int x1), .val (.int (v0_s x1)), .unset, .unset, .unset, .unset, .unset, .unset, .unset, .unset, .unset, .unset, .unset] 4 (hb hby at_3) rfl rfl ?_
  show Go p e below s _ _ _ (T0.setTop (mkF m 4 #[.val (.long x0), .second, .val (.int x1), .val (.int (v0_s x1)), .unset, .unset, .unset, .unset, .unset, .unset, .unset, .unset, .unset, .unset, .unset] []))
  refine g_new X0 hx hZ hown (hw _ (List.mem_of_getElem? (i := 0) rfl)) (hw _ (List.mem_of_getElem? (i := 1) rfl)) (hw _ (List.mem_of_getElem? (i := 2) rfl)) e0 7 (hb hby at_4) (by decide) (by decide) rfl ?_
  intro T1 h1 b1 g1 X1 e1 E1 A1 D1
  have N_b1 : n0 ≤ b1 := Nat.le_trans Z0 (Nat.le_of_eq g1.symm)
  have Z1 : n0 ≤ h1.size := Nat.le_trans Z0 E1.1
  have F1_step : Fld Z h1 b1 "com/example/varietal/varietal/core/random/SeededRandom" "step" "J" (.long (0 : Int64)) := D1 (Or.inl (hw _ (List.mem_of_getElem? (i := 11) rfl))) (ty := .long) (by decide)
  have F1_seed : Fld Z h1 b1 "com/example/varietal/varietal/core/random/SeededRandom" "seed" "J" (.long (0 : Int64)) := D1 (Or.inr (hw _ (List.mem_of_getElem? (i := 13) rfl))) (ty := .long) (by decide)
  have F1_state : Fld Z h1 b1 "com/example/varietal/varietal/core/random/SeededRandom" "state" "J" (.long (0 : Int64)) := D1 (Or.inl (hw _ (List.mem_of_getElem? (i := 15) rfl))) (ty := .long) (by decide)
  have F1_stream : Fld Z h1 b1 "com/example/varietal/varietal/core/random/SeededRandom" "stream" "J" (.long (0 : Int64)) := D1 (Or.inl (hw _ (List.mem_of_getElem? (i := 22) rfl))) (ty := .long) (by decide)
  show Go p e below s _ _ _ (T1.setTop (mkF m 7 #[.val (.long x0), .second, .val (.int x1), .val (.int (v0_s x1)), .unset, .unset, .unset, .unset, .unset, .unset, .unset, .unset, .unset, .unset, .unset] [(.ref b1)]))
  refine g_dup X1 hx 8 (hb hby at_7) rfl rfl ?_
  show Go p e below s _ _ _ (T1.setTop (mkF m 8 #[.val (.long x0), .second, .val (.int x1), .val (.int (v0_s x1)), .unset, .unset, .unset, .unset, .unset, .unset, .unset, .unset, .unset, .unset, .unset] [(.ref b1), (.ref b1)]))
  refine g_lloadN X1 hx 9 (hb hby at_8) rfl rfl ?_
  show Go p e below s _ _ _ (T1.setTop (mkF m 9 #[.val (.long x0), .second, .val (.int x1), .val (.int (v0_s x1)), .unset, .unset, .unset, .unset, .unset, .unset, .unset, .unset, .unset, .unset, .unset] [(.long x0), (.ref b1), (.ref b1)]))
  refine g_callI X1 hx hZ rfl hown (hw _ (List.mem_of_getElem? (i := 3) rfl)) (hw _ (List.mem_of_getElem? (i := 4) rfl)) (hw _ (List.mem_of_getElem? (i := 2) rfl)) (hw _ (List.mem_of_getElem? (i := 5) rfl)) (by decide) e1 (rm1 l Z a0 hw [] b1 x0 (0 : Int64) (0 : Int64) (0 : Int64) (0 : Int64) h1 n0 Z1 A1 F1_seed F1_stream F1_step F1_state N_b1) b1 [(.long x0)] [(.ref b1)] 1 rfl (lenOf pd__28J_29V rfl) rfl (Nat.le_of_eq rfl) (by decide) (by decide) (by decide) (by decide) (by rw [hml]; rfl) (hb hby at_9) ?_
  intro T2 L2 v2 X2 q2
  obtain ⟨rfl, N2, K2, p2_0, p2_1, p2_2, p2_3⟩ := q2
  have NN2 := Fr.app N0 N2
  have k2_1 := A1.keep K2
  have Z2 : n0 ≤ T2.heap.size := Nat.le_trans Z1 K2.1
  show Go p e below s _ _ _ (T2.setTop (mkF m 12 #[.val (.long x0), .second, .val (.int x1), .val (.int (v0_s x1)), .unset, .unset, .unset, .unset, .unset, .unset, .unset, .unset, .unset, .unset, .unset] [(.ref b1)]))
  refine g_astore X2 hx #[.val (.long x0), .second, .val (.int x1), .val (.int (v0_s x1)), .val (.ref b1), .unset, .unset, .unset, .unset, .unset, .unset, .unset, .unset, .unset, .unset] 14 (hb hby at_12) rfl rfl rfl ?_
  show Go p e below s _ _ _ (T2.setTop (mkF m 14 #[.val (.long x0), .second, .val (.int x1), .val (.int (v0_s x1)), .val (.ref b1), .unset, .unset, .unset, .unset, .unset, .unset, .unset, .unset, .unset, .unset] []))
  refine g_iloadN X2 hx 15 (hb hby at_14) rfl rfl ?_
  show Go p e below s _ _ _ (T2.setTop (mkF m 15 #[.val (.long x0), .second, .val (.int x1), .val (.int (v0_s x1)), .val (.ref b1), .unset, .unset, .unset, .unset, .unset, .unset, .unset, .unset, .unset, .unset] [(.int (v0_s x1))]))
  refine g_iconst X2 hx (1 : Int32) 16 (hb hby at_15) rfl rfl ?_
  show Go p e below s _ _ _ (T2.setTop (mkF m 16 #[.val (.long x0), .second, .val (.int x1), .val (.int (v0_s x1)), .val (.ref b1), .unset, .unset, .unset, .unset, .unset, .unset, .unset, .unset, .unset, .unset] [(.int (1 : Int32)), (.int (v0_s x1))]))
  refine g_icmp_lt X2 hx 24 19 (hb hby at_16) (by decide) rfl rfl (fun h3 => ?_) (fun h3 => ?_)
  · show Go p e below s _ _ _ (T2.setTop (mkF m 24 #[.val (.long x0), .second, .val (.int x1), .val (.int (v0_s x1)), .val (.ref b1), .unset, .unset, .unset, .unset, .unset, .unset, .unset, .unset, .unset, .unset] []))
    refine g_iloadN X2 hx 25 (hb hby at_24) rfl rfl ?_
    show Go p e below s _ _ _ (T2.setTop (mkF m 25 #[.val (.long x0), .second, .val (.int x1), .val (.int (v0_s x1)), .val (.ref b1), .unset, .unset, .unset, .unset, .unset, .unset, .unset, .unset, .unset, .unset] [(.int (v0_s x1))]))
    refine g_iconst X2 hx (2 : Int32) 26 (hb hby at_25) rfl rfl ?_
    show Go p e below s _ _ _ (T2.setTop (mkF m 26 #[.val (.long x0), .second, .val (.int x1), .val (.int (v0_s x1)), .val (.ref b1), .unset, .unset, .unset, .unset, .unset, .unset, .unset, .unset, .unset, .unset] [(.int (2 : Int32)), (.int (v0_s x1))]))
    have h4 : (v0_s x1) < (2 : Int32) := by rw [own_s0 ‹v0_s x1 < (1 : Int32)›]; decide
    refine g_icmp_lt X2 hx 34 29 (hb hby at_26) (by decide) rfl rfl (fun _ => ?_) (fun q => absurd h4 q)
    show Go p e below s _ _ _ (T2.setTop (mkF m 34 #[.val (.long x0), .second, .val (.int x1), .val (.int (v0_s x1)), .val (.ref b1), .unset, .unset, .unset, .unset, .unset, .unset, .unset, .unset, .unset, .unset] []))
    refine g_iloadN X2 hx 35 (hb hby at_34) rfl rfl ?_
    show Go p e below s _ _ _ (T2.setTop (mkF m 35 #[.val (.long x0), .second, .val (.int x1), .val (.int (v0_s x1)), .val (.ref b1), .unset, .unset, .unset, .unset, .unset, .unset, .unset, .unset, .unset, .unset] [(.int (v0_s x1))]))
    refine g_iconst X2 hx (3 : Int32) 36 (hb hby at_35) rfl rfl ?_
    show Go p e below s _ _ _ (T2.setTop (mkF m 36 #[.val (.long x0), .second, .val (.int x1), .val (.int (v0_s x1)), .val (.ref b1), .unset, .unset, .unset, .unset, .unset, .unset, .unset, .unset, .unset, .unset] [(.int (3 : Int32)), (.int (v0_s x1))]))
    have h5 : (v0_s x1) < (3 : Int32) := by rw [own_s0 ‹v0_s x1 < (1 : Int32)›]; decide
    refine g_icmp_lt X2 hx 44 39 (hb hby at_36) (by decide) rfl rfl (fun _ => ?_) (fun q => absurd h5 q)
    show Go p e below s _ _ _ (T2.setTop (mkF m 44 #[.val (.long x0), .second, .val (.int x1), .val (.int (v0_s x1)), .val (.ref b1), .unset, .unset, .unset, .unset, .unset, .unset, .unset, .unset, .unset, .unset] []))
    refine g_iloadN X2 hx 45 (hb hby at_44) rfl rfl ?_
    show Go p e below s _ _ _ (T2.setTop (mkF m 45 #[.val (.long x0), .second, .val (.int x1), .val (.int (v0_s x1)), .val (.ref b1), .unset, .unset, .unset, .unset, .unset, .unset, .unset, .unset, .unset, .unset] [(.int (v0_s x1))]))
    have h6 : (v0_s x1) = (0 : Int32) := own_s0 ‹v0_s x1 < (1 : Int32)›
    refine g_if0_ne X2 hx 54 48 (hb hby at_45) (by decide) rfl rfl (fun _ => ?_) (fun q => absurd h6 q)
    show Go p e below s _ _ _ (T2.setTop (mkF m 48 #[.val (.long x0), .second, .val (.int x1), .val (.int (v0_s x1)), .val (.ref b1), .unset, .unset, .unset, .unset, .unset, .unset, .unset, .unset, .unset, .unset] []))
    refine g_ldc2_w X2 hx hZ hown (hw _ (List.mem_of_getElem? (i := 51) rfl)) 51 (hb hby at_48) rfl ?_
    show Go p e below s _ _ _ (T2.setTop (mkF m 51 #[.val (.long x0), .second, .val (.int x1), .val (.int (v0_s x1)), .val (.ref b1), .unset, .unset, .unset, .unset, .unset, .unset, .unset, .unset, .unset, .unset] [(.long (-7046029254386353131 : Int64))]))
    refine g_goto X2 hx 59 (hb hby at_51) (by decide) rfl ?_
    show Go p e below s _ _ _ (T2.setTop (mkF m 59 #[.val (.long x0), .second, .val (.int x1), .val (.int (v0_s x1)), .val (.ref b1), .unset, .unset, .unset, .unset, .unset, .unset, .unset, .unset, .unset, .unset] [(.long (-7046029254386353131 : Int64))]))
    refine g_lstore X2 hx #[.val (.long x0), .second, .val (.int x1), .val (.int (v0_s x1)), .val (.ref b1), .val (.long (-7046029254386353131 : Int64)), .second, .unset, .unset, .unset, .unset, .unset, .unset, .unset, .unset] 61 (hb hby at_59) rfl rfl ?_
    show Go p e below s _ _ _ (T2.setTop (mkF m 61 #[.val (.long x0), .second, .val (.int x1), .val (.int (v0_s x1)), .val (.ref b1), .val (.long (-7046029254386353131 : Int64)), .second, .unset, .unset, .unset, .unset, .unset, .unset, .unset, .unset] []))
    refine g_aload X2 hx 63 (hb hby at_61) rfl rfl rfl ?_
    show Go p e below s _ _ _ (T2.setTop (mkF m 63 #[.val (.long x0), .second, .val (.int x1), .val (.int (v0_s x1)), .val (.ref b1), .val (.long (-7046029254386353131 : Int64)), .second, .unset, .unset, .unset, .unset, .unset, .unset, .unset, .unset] [(.ref b1)]))
    refine g_callV X2 hx hZ hown (hw _ (List.mem_of_getElem? (i := 31) rfl)) (hw _ (List.mem_of_getElem? (i := 32) rfl)) (hw _ (List.mem_of_getElem? (i := 34) rfl)) (hw _ (List.mem_of_getElem? (i := 33) rfl)) (hw _ (List.mem_of_getElem? (i := 2) rfl)) (hw _ (List.mem_of_getElem? (i := 35) rfl)) (by decide) rfl b1 k2_1 (rm5 l Z a0 hw [] b1 (-7046029254386353131 : Int64) x0 T2.heap n0 Z2 k2_1 p2_2 p2_3 N_b1) [] [] 0 rfl (lenOf pd__28_29J rfl) rfl (Nat.le_of_eq rfl) (by decide) (by decide) (by decide) (by decide) (by rw [hml]; rfl) (hb hby at_63) ?_
    intro T7 L7 v7 X7 q7
    obtain ⟨rfl, N7, K7, p7_0, p7_1⟩ := q7
    have NN7 := Fr.app NN2 N7
    have k7_1 := k2_1.keep K7
    have Z7 : n0 ≤ T7.heap.size := Nat.le_trans Z2 K7.1
    show Go p e below s _ _ _ (T7.setTop (mkF m 66 #[.val (.long x0), .second, .val (.int x1), .val (.int (v0_s x1)), .val (.ref b1), .val (.long (-7046029254386353131 : Int64)), .second, .unset, .unset, .unset, .unset, .unset, .unset, .unset, .unset] [(.long (f5 (-7046029254386353131 : Int64) x0))]))
    refine g_lstore X7 hx #[.val (.long x0), .second, .val (.int x1), .val (.int (v0_s x1)), .val (.ref b1), .val (.long (-7046029254386353131 : Int64)), .second, .val (.long (f5 (-7046029254386353131 : Int64) x0)), .second, .unset, .unset, .unset, .unset, .unset, .unset] 68 (hb hby at_66) rfl rfl ?_
    show Go p e below s _ _ _ (T7.setTop (mkF m 68 #[.val (.long x0), .second, .val (.int x1), .val (.int (v0_s x1)), .val (.ref b1), .val (.long (-7046029254386353131 : Int64)), .second, .val (.long (f5 (-7046029254386353131 : Int64) x0)), .second, .unset, .unset, .unset, .unset, .unset, .unset] []))
    refine g_aload X7 hx 70 (hb hby at_68) rfl rfl rfl ?_
    show Go p e below s _ _ _ (T7.setTop (mkF m 70 #[.val (.long x0), .second, .val (.int x1), .val (.int (v0_s x1)), .val (.ref b1), .val (.long (-7046029254386353131 : Int64)), .second, .val (.long (f5 (-7046029254386353131 : Int64) x0)), .second, .unset, .unset, .unset, .unset, .unset, .unset] [(.ref b1)]))
    refine g_callV X7 hx hZ hown (hw _ (List.mem_of_getElem? (i := 31) rfl)) (hw _ (List.mem_of_getElem? (i := 32) rfl)) (hw _ (List.mem_of_getElem? (i := 34) rfl)) (hw _ (List.mem_of_getElem? (i := 33) rfl)) (hw _ (List.mem_of_getElem? (i := 2) rfl)) (hw _ (List.mem_of_getElem? (i := 35) rfl)) (by decide) rfl b1 k7_1 (rm5 l Z a0 hw [] b1 (-7046029254386353131 : Int64) (x0 + (-7046029254386353131 : Int64)) T7.heap n0 Z7 k7_1 p7_0 p7_1 N_b1) [] [] 0 rfl (lenOf pd__28_29J rfl) rfl (Nat.le_of_eq rfl) (by decide) (by decide) (by decide) (by decide) (by rw [hml]; rfl) (hb hby at_70) ?_
    intro T8 L8 v8 X8 q8
    obtain ⟨rfl, N8, K8, p8_0, p8_1⟩ := q8
    have NN8 := Fr.app NN7 N8
    have k8_1 := k7_1.keep K8
    have Z8 : n0 ≤ T8.heap.size := Nat.le_trans Z7 K8.1
    show Go p e below s _ _ _ (T8.setTop (mkF m 73 #[.val (.long x0), .second, .val (.int x1), .val (.int (v0_s x1)), .val (.ref b1), .val (.long (-7046029254386353131 : Int64)), .second, .val (.long (f5 (-7046029254386353131 : Int64) x0)), .second, .unset, .unset, .unset, .unset, .unset, .unset] [(.long (f5 (-7046029254386353131 : Int64) (x0 + (-7046029254386353131 : Int64))))]))
    refine g_lstore X8 hx #[.val (.long x0), .second, .val (.int x1), .val (.int (v0_s x1)), .val (.ref b1), .val (.long (-7046029254386353131 : Int64)), .second, .val (.long (f5 (-7046029254386353131 : Int64) x0)), .second, .val (.long (f5 (-7046029254386353131 : Int64) (x0 + (-7046029254386353131 : Int64)))), .second, .unset, .unset, .unset, .unset] 75 (hb hby at_73) rfl rfl ?_
    show Go p e below s _ _ _ (T8.setTop (mkF m 75 #[.val (.long x0), .second, .val (.int x1), .val (.int (v0_s x1)), .val (.ref b1), .val (.long (-7046029254386353131 : Int64)), .second, .val (.long (f5 (-7046029254386353131 : Int64) x0)), .second, .val (.long (f5 (-7046029254386353131 : Int64) (x0 + (-7046029254386353131 : Int64)))), .second, .unset, .unset, .unset, .unset] []))
    refine g_aload X8 hx 77 (hb hby at_75) rfl rfl rfl ?_
    show Go p e below s _ _ _ (T8.setTop (mkF m 77 #[.val (.long x0), .second, .val (.int x1), .val (.int (v0_s x1)), .val (.ref b1), .val (.long (-7046029254386353131 : Int64)), .second, .val (.long (f5 (-7046029254386353131 : Int64) x0)), .second, .val (.long (f5 (-7046029254386353131 : Int64) (x0 + (-7046029254386353131 : Int64)))), .second, .unset, .unset, .unset, .unset] [(.ref b1)]))
    refine g_callV X8 hx hZ hown (hw _ (List.mem_of_getElem? (i := 31) rfl)) (hw _ (List.mem_of_getElem? (i := 32) rfl)) (hw _ (List.mem_of_getElem? (i := 34) rfl)) (hw _ (List.mem_of_getElem? (i := 33) rfl)) (hw _ (List.mem_of_getElem? (i := 2) rfl)) (hw _ (List.mem_of_getElem? (i := 35) rfl)) (by decide) rfl b1 k8_1 (rm5 l Z a0 hw [] b1 (-7046029254386353131 : Int64) ((x0 + (-7046029254386353131 : Int64)) + (-7046029254386353131 : Int64)) T8.heap n0 Z8 k8_1 p8_0 p8_1 N_b1) [] [] 0 rfl (lenOf pd__28_29J rfl) rfl (Nat.le_of_eq rfl) (by decide) (by decide) (by decide) (by decide) (by rw [hml]; rfl) (hb hby at_77) ?_
    intro T9 L9 v9 X9 q9
    obtain ⟨rfl, N9, K9, p9_0, p9_1⟩ := q9
    have NN9 := Fr.app NN8 N9
    have k9_1 := k8_1.keep K9
    have Z9 : n0 ≤ T9.heap.size := Nat.le_trans Z8 K9.1
    show Go p e below s _ _ _ (T9.setTop (mkF m 80 #[.val (.long x0), .second, .val (.int x1), .val (.int (v0_s x1)), .val (.ref b1), .val (.long (-7046029254386353131 : Int64)), .second, .val (.long (f5 (-7046029254386353131 : Int64) x0)), .second, .val (.long (f5 (-7046029254386353131 : Int64) (x0 + (-7046029254386353131 : Int64)))), .second, .unset, .unset, .unset, .unset] [(.long (f5 (-7046029254386353131 : Int64) ((x0 + (-7046029254386353131 : Int64)) + (-7046029254386353131 : Int64))))]))
    refine g_lstore X9 hx #[.val (.long x0), .second, .val (.int x1), .val (.int (v0_s x1)), .val (.ref b1), .val (.long (-7046029254386353131 : Int64)), .second, .val (.long (f5 (-7046029254386353131 : Int64) x0)), .second, .val (.long (f5 (-7046029254386353131 : Int64) (x0 + (-7046029254386353131 : Int64)))), .second, .val (.long (f5 (-7046029254386353131 : Int64) ((x0 + (-7046029254386353131 : Int64)) + (-7046029254386353131 : Int64)))), .second, .unset, .unset] 82 (hb hby at_80) rfl rfl ?_
    show Go p e below s _ _ _ (T9.setTop (mkF m 82 #[.val (.long x0), .second, .val (.int x1), .val (.int (v0_s x1)), .val (.ref b1), .val (.long (-7046029254386353131 : Int64)), .second, .val (.long (f5 (-7046029254386353131 : Int64) x0)), .second, .val (.long (f5 (-7046029254386353131 : Int64) (x0 + (-7046029254386353131 : Int64)))), .second, .val (.long (f5 (-7046029254386353131 : Int64) ((x0 + (-7046029254386353131 : Int64)) + (-7046029254386353131 : Int64)))), .second, .unset, .unset] []))
    refine g_aload X9 hx 84 (hb hby at_82) rfl rfl rfl ?_
    show Go p e below s _ _ _ (T9.setTop (mkF m 84 #[.val (.long x0), .second, .val (.int x1), .val (.int (v0_s x1)), .val (.ref b1), .val (.long (-7046029254386353131 : Int64)), .second, .val (.long (f5 (-7046029254386353131 : Int64) x0)), .second, .val (.long (f5 (-7046029254386353131 : Int64) (x0 + (-7046029254386353131 : Int64)))), .second, .val (.long (f5 (-7046029254386353131 : Int64) ((x0 + (-7046029254386353131 : Int64)) + (-7046029254386353131 : Int64)))), .second, .unset, .unset] [(.ref b1)]))
    refine g_callV X9 hx hZ hown (hw _ (List.mem_of_getElem? (i := 31) rfl)) (hw _ (List.mem_of_getElem? (i := 32) rfl)) (hw _ (List.mem_of_getElem? (i := 34) rfl)) (hw _ (List.mem_of_getElem? (i := 33) rfl)) (hw _ (List.mem_of_getElem? (i := 2) rfl)) (hw _ (List.mem_of_getElem? (i := 35) rfl)) (by decide) rfl b1 k9_1 (rm5 l Z a0 hw [] b1 (-7046029254386353131 : Int64) (((x0 + (-7046029254386353131 : Int64)) + (-7046029254386353131 : Int64)) + (-7046029254386353131 : Int64)) T9.heap n0 Z9 k9_1 p9_0 p9_1 N_b1) [] [] 0 rfl (lenOf pd__28_29J rfl) rfl (Nat.le_of_eq rfl) (by decide) (by decide) (by decide) (by decide) (by rw [hml]; rfl) (hb hby at_84) ?_
    intro T10 L10 v10 X10 q10
    obtain ⟨rfl, N10, K10, p10_0, p10_1⟩ := q10
    have NN10 := Fr.app NN9 N10
    have k10_1 := k9_1.keep K10
    have Z10 : n0 ≤ T10.heap.size := Nat.le_trans Z9 K10.1
    show Go p e below s _ _ _ (T10.setTop (mkF m 87 #[.val (.long x0), .second, .val (.int x1), .val (.int (v0_s x1)), .val (.ref b1), .val (.long (-7046029254386353131 : Int64)), .second, .val (.long (f5 (-7046029254386353131 : Int64) x0)), .second, .val (.long (f5 (-7046029254386353131 : Int64) (x0 + (-7046029254386353131 : Int64)))), .second, .val (.long (f5 (-7046029254386353131 : Int64) ((x0 + (-7046029254386353131 : Int64)) + (-7046029254386353131 : Int64)))), .second, .unset, .unset] [(.long (f5 (-7046029254386353131 : Int64) (((x0 + (-7046029254386353131 : Int64)) + (-7046029254386353131 : Int64)) + (-7046029254386353131 : Int64))))]))
    refine g_lstore X10 hx #[.val (.long x0), .second, .val (.int x1), .val (.int (v0_s x1)), .val (.ref b1), .val (.long (-7046029254386353131 : Int64)), .second, .val (.long (f5 (-7046029254386353131 : Int64) x0)), .second, .val (.long (f5 (-7046029254386353131 : Int64) (x0 + (-7046029254386353131 : Int64)))), .second, .val (.long (f5 (-7046029254386353131 : Int64) ((x0 + (-7046029254386353131 : Int64)) + (-7046029254386353131 : Int64)))), .second, .val (.long (f5 (-7046029254386353131 : Int64) (((x0 + (-7046029254386353131 : Int64)) + (-7046029254386353131 : Int64)) + (-7046029254386353131 : Int64)))), .second] 89 (hb hby at_87) rfl rfl ?_
    show Go p e below s _ _ _ (T10.setTop (mkF m 89 #[.val (.long x0), .second, .val (.int x1), .val (.int (v0_s x1)), .val (.ref b1), .val (.long (-7046029254386353131 : Int64)), .second, .val (.long (f5 (-7046029254386353131 : Int64) x0)), .second, .val (.long (f5 (-7046029254386353131 : Int64) (x0 + (-7046029254386353131 : Int64)))), .second, .val (.long (f5 (-7046029254386353131 : Int64) ((x0 + (-7046029254386353131 : Int64)) + (-7046029254386353131 : Int64)))), .second, .val (.long (f5 (-7046029254386353131 : Int64) (((x0 + (-7046029254386353131 : Int64)) + (-7046029254386353131 : Int64)) + (-7046029254386353131 : Int64)))), .second] []))
    refine g_lload X10 hx 91 (hb hby at_89) rfl rfl ?_
    show Go p e below s _ _ _ (T10.setTop (mkF m 91 #[.val (.long x0), .second, .val (.int x1), .val (.int (v0_s x1)), .val (.ref b1), .val (.long (-7046029254386353131 : Int64)), .second, .val (.long (f5 (-7046029254386353131 : Int64) x0)), .second, .val (.long (f5 (-7046029254386353131 : Int64) (x0 + (-7046029254386353131 : Int64)))), .second, .val (.long (f5 (-7046029254386353131 : Int64) ((x0 + (-7046029254386353131 : Int64)) + (-7046029254386353131 : Int64)))), .second, .val (.long (f5 (-7046029254386353131 : Int64) (((x0 + (-7046029254386353131 : Int64)) + (-7046029254386353131 : Int64)) + (-7046029254386353131 : Int64)))), .second] [(.long (f5 (-7046029254386353131 : Int64) x0))]))
    refine g_callS X10 hx hZ hown (hw _ (List.mem_of_getElem? (i := 36) rfl)) (hw _ (List.mem_of_getElem? (i := 37) rfl)) (hw _ (List.mem_of_getElem? (i := 38) rfl)) (hw _ (List.mem_of_getElem? (i := 39) rfl)) (by decide) rfl (rm6 l Z a0 hw [] (f5 (-7046029254386353131 : Int64) x0) T10.heap) [(.long (f5 (-7046029254386353131 : Int64) x0))] [] 0 rfl (lenOf pd__28J_29J rfl) rfl (Nat.le_of_eq rfl) (by decide) (by decide) (by decide) (by decide) (by rw [hml]; rfl) (hb hby at_91) ?_
    intro T11 L11 v11 X11 q11
    obtain ⟨rfl, rfl, e11⟩ := q11
    have NS11 := Fr.app NN10 (Fr.nil n0)
    show Go p e below s _ _ _ (T11.setTop (mkF m 94 #[.val (.long x0), .second, .val (.int x1), .val (.int (v0_s x1)), .val (.ref b1), .val (.long (-7046029254386353131 : Int64)), .second, .val (.long (f5 (-7046029254386353131 : Int64) x0)), .second, .val (.long (f5 (-7046029254386353131 : Int64) (x0 + (-7046029254386353131 : Int64)))), .second, .val (.long (f5 (-7046029254386353131 : Int64) ((x0 + (-7046029254386353131 : Int64)) + (-7046029254386353131 : Int64)))), .second, .val (.long (f5 (-7046029254386353131 : Int64) (((x0 + (-7046029254386353131 : Int64)) + (-7046029254386353131 : Int64)) + (-7046029254386353131 : Int64)))), .second] [(.long (f6 (f5 (-7046029254386353131 : Int64) x0)))]))
    refine g_lloadN X11 hx 95 (hb hby at_94) rfl rfl ?_
    show Go p e below s _ _ _ (T11.setTop (mkF m 95 #[.val (.long x0), .second, .val (.int x1), .val (.int (v0_s x1)), .val (.ref b1), .val (.long (-7046029254386353131 : Int64)), .second, .val (.long (f5 (-7046029254386353131 : Int64) x0)), .second, .val (.long (f5 (-7046029254386353131 : Int64) (x0 + (-7046029254386353131 : Int64)))), .second, .val (.long (f5 (-7046029254386353131 : Int64) ((x0 + (-7046029254386353131 : Int64)) + (-7046029254386353131 : Int64)))), .second, .val (.long (f5 (-7046029254386353131 : Int64) (((x0 + (-7046029254386353131 : Int64)) + (-7046029254386353131 : Int64)) + (-7046029254386353131 : Int64)))), .second] [(.long x0), (.long (f6 (f5 (-7046029254386353131 : Int64) x0)))]))
    refine g_lload X11 hx 97 (hb hby at_95) rfl rfl ?_
    show Go p e below s _ _ _ (T11.setTop (mkF m 97 #[.val (.long x0), .second, .val (.int x1), .val (.int (v0_s x1)), .val (.ref b1), .val (.long (-7046029254386353131 : Int64)), .second, .val (.long (f5 (-7046029254386353131 : Int64) x0)), .second, .val (.long (f5 (-7046029254386353131 : Int64) (x0 + (-7046029254386353131 : Int64)))), .second, .val (.long (f5 (-7046029254386353131 : Int64) ((x0 + (-7046029254386353131 : Int64)) + (-7046029254386353131 : Int64)))), .second, .val (.long (f5 (-7046029254386353131 : Int64) (((x0 + (-7046029254386353131 : Int64)) + (-7046029254386353131 : Int64)) + (-7046029254386353131 : Int64)))), .second] [(.long (-7046029254386353131 : Int64)), (.long x0), (.long (f6 (f5 (-7046029254386353131 : Int64) x0)))]))
    refine g_ladd X11 hx 98 (hb hby at_97) rfl ?_
    show Go p e below s _ _ _ (T11.setTop (mkF m 98 #[.val (.long x0), .second, .val (.int x1), .val (.int (v0_s x1)), .val (.ref b1), .val (.long (-7046029254386353131 : Int64)), .second, .val (.long (f5 (-7046029254386353131 : Int64) x0)), .second, .val (.long (f5 (-7046029254386353131 : Int64) (x0 + (-7046029254386353131 : Int64)))), .second, .val (.long (f5 (-7046029254386353131 : Int64) ((x0 + (-7046029254386353131 : Int64)) + (-7046029254386353131 : Int64)))), .second, .val (.long (f5 (-7046029254386353131 : Int64) (((x0 + (-7046029254386353131 : Int64)) + (-7046029254386353131 : Int64)) + (-7046029254386353131 : Int64)))), .second] [(.long (x0 + (-7046029254386353131 : Int64))), (.long (f6 (f5 (-7046029254386353131 : Int64) x0)))]))
    refine g_lcmp X11 hx 99 (hb hby at_98) rfl ?_
    show Go p e below s _ _ _ (T11.setTop (mkF m 99 #[.val (.long x0), .second, .val (.int x1), .val (.int (v0_s x1)), .val (.ref b1), .val (.long (-7046029254386353131 : Int64)), .second, .val (.long (f5 (-7046029254386353131 : Int64) x0)), .second, .val (.long (f5 (-7046029254386353131 : Int64) (x0 + (-7046029254386353131 : Int64)))), .second, .val (.long (f5 (-7046029254386353131 : Int64) ((x0 + (-7046029254386353131 : Int64)) + (-7046029254386353131 : Int64)))), .second, .val (.long (f5 (-7046029254386353131 : Int64) (((x0 + (-7046029254386353131 : Int64)) + (-7046029254386353131 : Int64)) + (-7046029254386353131 : Int64)))), .second] [(.int (lcmpW (f6 (f5 (-7046029254386353131 : Int64) x0)) (x0 + (-7046029254386353131 : Int64))))]))
    have h12 : (f6 (f5 (-7046029254386353131 : Int64) x0)) = (x0 + (-7046029254386353131 : Int64)) := own_u1 x0 _ _ rfl
    refine g_lc_ne X11 hx 157 102 (hb hby at_99) (by decide) rfl rfl (fun _ => ?_) (fun q => absurd h12 q)
    show Go p e below s _ _ _ (T11.setTop (mkF m 102 #[.val (.long x0), .second, .val (.int x1), .val (.int (v0_s x1)), .val (.ref b1), .val (.long (-7046029254386353131 : Int64)), .second, .val (.long (f5 (-7046029254386353131 : Int64) x0)), .second, .val (.long (f5 (-7046029254386353131 : Int64) (x0 + (-7046029254386353131 : Int64)))), .second, .val (.long (f5 (-7046029254386353131 : Int64) ((x0 + (-7046029254386353131 : Int64)) + (-7046029254386353131 : Int64)))), .second, .val (.long (f5 (-7046029254386353131 : Int64) (((x0 + (-7046029254386353131 : Int64)) + (-7046029254386353131 : Int64)) + (-7046029254386353131 : Int64)))), .second] []))
    refine g_lload X11 hx 104 (hb hby at_102) rfl rfl ?_
    show Go p e below s _ _ _ (T11.setTop (mkF m 104 #[.val (.long x0), .second, .val (.int x1), .val (.int (v0_s x1)), .val (.ref b1), .val (.long (-7046029254386353131 : Int64)), .second, .val (.long (f5 (-7046029254386353131 : Int64) x0)), .second, .val (.long (f5 (-7046029254386353131 : Int64) (x0 + (-7046029254386353131 : Int64)))), .second, .val (.long (f5 (-7046029254386353131 : Int64) ((x0 + (-7046029254386353131 : Int64)) + (-7046029254386353131 : Int64)))), .second, .val (.long (f5 (-7046029254386353131 : Int64) (((x0 + (-7046029254386353131 : Int64)) + (-7046029254386353131 : Int64)) + (-7046029254386353131 : Int64)))), .second] [(.long (f5 (-7046029254386353131 : Int64) (x0 + (-7046029254386353131 : Int64))))]))
    refine g_callS X11 hx hZ hown (hw _ (List.mem_of_getElem? (i := 36) rfl)) (hw _ (List.mem_of_getElem? (i := 37) rfl)) (hw _ (List.mem_of_getElem? (i := 38) rfl)) (hw _ (List.mem_of_getElem? (i := 39) rfl)) (by decide) e11 (rm6 l Z a0 hw [] (f5 (-7046029254386353131 : Int64) (x0 + (-7046029254386353131 : Int64))) T10.heap) [(.long (f5 (-7046029254386353131 : Int64) (x0 + (-7046029254386353131 : Int64))))] [] 0 rfl (lenOf pd__28J_29J rfl) rfl (Nat.le_of_eq rfl) (by decide) (by decide) (by decide) (by decide) (by rw [hml]; rfl) (hb hby at_104) ?_
    intro T13 L13 v13 X13 q13
    obtain ⟨rfl, rfl, e13⟩ := q13
    have NS13 := Fr.app NS11 (Fr.nil n0)
    show Go p e below s _ _ _ (T13.setTop (mkF m 107 #[.val (.long x0), .second, .val (.int x1), .val (.int (v0_s x1)), .val (.ref b1), .val (.long (-7046029254386353131 : Int64)), .second, .val (.long (f5 (-7046029254386353131 : Int64) x0)), .second, .val (.long (f5 (-7046029254386353131 : Int64) (x0 + (-7046029254386353131 : Int64)))), .second, .val (.long (f5 (-7046029254386353131 : Int64) ((x0 + (-7046029254386353131 : Int64)) + (-7046029254386353131 : Int64)))), .second, .val (.long (f5 (-7046029254386353131 : Int64) (((x0 + (-7046029254386353131 : Int64)) + (-7046029254386353131 : Int64)) + (-7046029254386353131 : Int64)))), .second] [(.long (f6 (f5 (-7046029254386353131 : Int64) (x0 + (-7046029254386353131 : Int64)))))]))
    refine g_lloadN X13 hx 108 (hb hby at_107) rfl rfl ?_
    show Go p e below s _ _ _ (T13.setTop (mkF m 108 #[.val (.long x0), .second, .val (.int x1), .val (.int (v0_s x1)), .val (.ref b1), .val (.long (-7046029254386353131 : Int64)), .second, .val (.long (f5 (-7046029254386353131 : Int64) x0)), .second, .val (.long (f5 (-7046029254386353131 : Int64) (x0 + (-7046029254386353131 : Int64)))), .second, .val (.long (f5 (-7046029254386353131 : Int64) ((x0 + (-7046029254386353131 : Int64)) + (-7046029254386353131 : Int64)))), .second, .val (.long (f5 (-7046029254386353131 : Int64) (((x0 + (-7046029254386353131 : Int64)) + (-7046029254386353131 : Int64)) + (-7046029254386353131 : Int64)))), .second] [(.long x0), (.long (f6 (f5 (-7046029254386353131 : Int64) (x0 + (-7046029254386353131 : Int64)))))]))
    refine g_ldc2_w X13 hx hZ hown (hw _ (List.mem_of_getElem? (i := 47) rfl)) 111 (hb hby at_108) rfl ?_
    show Go p e below s _ _ _ (T13.setTop (mkF m 111 #[.val (.long x0), .second, .val (.int x1), .val (.int (v0_s x1)), .val (.ref b1), .val (.long (-7046029254386353131 : Int64)), .second, .val (.long (f5 (-7046029254386353131 : Int64) x0)), .second, .val (.long (f5 (-7046029254386353131 : Int64) (x0 + (-7046029254386353131 : Int64)))), .second, .val (.long (f5 (-7046029254386353131 : Int64) ((x0 + (-7046029254386353131 : Int64)) + (-7046029254386353131 : Int64)))), .second, .val (.long (f5 (-7046029254386353131 : Int64) (((x0 + (-7046029254386353131 : Int64)) + (-7046029254386353131 : Int64)) + (-7046029254386353131 : Int64)))), .second] [(.long (2 : Int64)), (.long x0), (.long (f6 (f5 (-7046029254386353131 : Int64) (x0 + (-7046029254386353131 : Int64)))))]))
    refine g_lload X13 hx 113 (hb hby at_111) rfl rfl ?_
    show Go p e below s _ _ _ (T13.setTop (mkF m 113 #[.val (.long x0), .second, .val (.int x1), .val (.int (v0_s x1)), .val (.ref b1), .val (.long (-7046029254386353131 : Int64)), .second, .val (.long (f5 (-7046029254386353131 : Int64) x0)), .second, .val (.long (f5 (-7046029254386353131 : Int64) (x0 + (-7046029254386353131 : Int64)))), .second, .val (.long (f5 (-7046029254386353131 : Int64) ((x0 + (-7046029254386353131 : Int64)) + (-7046029254386353131 : Int64)))), .second, .val (.long (f5 (-7046029254386353131 : Int64) (((x0 + (-7046029254386353131 : Int64)) + (-7046029254386353131 : Int64)) + (-7046029254386353131 : Int64)))), .second] [(.long (-7046029254386353131 : Int64)), (.long (2 : Int64)), (.long x0), (.long (f6 (f5 (-7046029254386353131 : Int64) (x0 + (-7046029254386353131 : Int64)))))]))
    refine g_lmul X13 hx 114 (hb hby at_113) rfl ?_
    show Go p e below s _ _ _ (T13.setTop (mkF m 114 #[.val (.long x0), .second, .val (.int x1), .val (.int (v0_s x1)), .val (.ref b1), .val (.long (-7046029254386353131 : Int64)), .second, .val (.long (f5 (-7046029254386353131 : Int64) x0)), .second, .val (.long (f5 (-7046029254386353131 : Int64) (x0 + (-7046029254386353131 : Int64)))), .second, .val (.long (f5 (-7046029254386353131 : Int64) ((x0 + (-7046029254386353131 : Int64)) + (-7046029254386353131 : Int64)))), .second, .val (.long (f5 (-7046029254386353131 : Int64) (((x0 + (-7046029254386353131 : Int64)) + (-7046029254386353131 : Int64)) + (-7046029254386353131 : Int64)))), .second] [(.long ((2 : Int64) * (-7046029254386353131 : Int64))), (.long x0), (.long (f6 (f5 (-7046029254386353131 : Int64) (x0 + (-7046029254386353131 : Int64)))))]))
    refine g_ladd X13 hx 115 (hb hby at_114) rfl ?_
    show Go p e below s _ _ _ (T13.setTop (mkF m 115 #[.val (.long x0), .second, .val (.int x1), .val (.int (v0_s x1)), .val (.ref b1), .val (.long (-7046029254386353131 : Int64)), .second, .val (.long (f5 (-7046029254386353131 : Int64) x0)), .second, .val (.long (f5 (-7046029254386353131 : Int64) (x0 + (-7046029254386353131 : Int64)))), .second, .val (.long (f5 (-7046029254386353131 : Int64) ((x0 + (-7046029254386353131 : Int64)) + (-7046029254386353131 : Int64)))), .second, .val (.long (f5 (-7046029254386353131 : Int64) (((x0 + (-7046029254386353131 : Int64)) + (-7046029254386353131 : Int64)) + (-7046029254386353131 : Int64)))), .second] [(.long (x0 + ((2 : Int64) * (-7046029254386353131 : Int64)))), (.long (f6 (f5 (-7046029254386353131 : Int64) (x0 + (-7046029254386353131 : Int64)))))]))
    refine g_lcmp X13 hx 116 (hb hby at_115) rfl ?_
    show Go p e below s _ _ _ (T13.setTop (mkF m 116 #[.val (.long x0), .second, .val (.int x1), .val (.int (v0_s x1)), .val (.ref b1), .val (.long (-7046029254386353131 : Int64)), .second, .val (.long (f5 (-7046029254386353131 : Int64) x0)), .second, .val (.long (f5 (-7046029254386353131 : Int64) (x0 + (-7046029254386353131 : Int64)))), .second, .val (.long (f5 (-7046029254386353131 : Int64) ((x0 + (-7046029254386353131 : Int64)) + (-7046029254386353131 : Int64)))), .second, .val (.long (f5 (-7046029254386353131 : Int64) (((x0 + (-7046029254386353131 : Int64)) + (-7046029254386353131 : Int64)) + (-7046029254386353131 : Int64)))), .second] [(.int (lcmpW (f6 (f5 (-7046029254386353131 : Int64) (x0 + (-7046029254386353131 : Int64)))) (x0 + ((2 : Int64) * (-7046029254386353131 : Int64)))))]))
    have h14 : (f6 (f5 (-7046029254386353131 : Int64) (x0 + (-7046029254386353131 : Int64)))) = (x0 + ((2 : Int64) * (-7046029254386353131 : Int64))) := own_u2 x0 _ _ rfl
    refine g_lc_ne X13 hx 157 119 (hb hby at_116) (by decide) rfl rfl (fun _ => ?_) (fun q => absurd h14 q)
    show Go p e below s _ _ _ (T13.setTop (mkF m 119 #[.val (.long x0), .second, .val (.int x1), .val (.int (v0_s x1)), .val (.ref b1), .val (.long (-7046029254386353131 : Int64)), .second, .val (.long (f5 (-7046029254386353131 : Int64) x0)), .second, .val (.long (f5 (-7046029254386353131 : Int64) (x0 + (-7046029254386353131 : Int64)))), .second, .val (.long (f5 (-7046029254386353131 : Int64) ((x0 + (-7046029254386353131 : Int64)) + (-7046029254386353131 : Int64)))), .second, .val (.long (f5 (-7046029254386353131 : Int64) (((x0 + (-7046029254386353131 : Int64)) + (-7046029254386353131 : Int64)) + (-7046029254386353131 : Int64)))), .second] []))
    refine g_lload X13 hx 121 (hb hby at_119) rfl rfl ?_
    show Go p e below s _ _ _ (T13.setTop (mkF m 121 #[.val (.long x0), .second, .val (.int x1), .val (.int (v0_s x1)), .val (.ref b1), .val (.long (-7046029254386353131 : Int64)), .second, .val (.long (f5 (-7046029254386353131 : Int64) x0)), .second, .val (.long (f5 (-7046029254386353131 : Int64) (x0 + (-7046029254386353131 : Int64)))), .second, .val (.long (f5 (-7046029254386353131 : Int64) ((x0 + (-7046029254386353131 : Int64)) + (-7046029254386353131 : Int64)))), .second, .val (.long (f5 (-7046029254386353131 : Int64) (((x0 + (-7046029254386353131 : Int64)) + (-7046029254386353131 : Int64)) + (-7046029254386353131 : Int64)))), .second] [(.long (f5 (-7046029254386353131 : Int64) ((x0 + (-7046029254386353131 : Int64)) + (-7046029254386353131 : Int64))))]))
    refine g_callS X13 hx hZ hown (hw _ (List.mem_of_getElem? (i := 36) rfl)) (hw _ (List.mem_of_getElem? (i := 37) rfl)) (hw _ (List.mem_of_getElem? (i := 38) rfl)) (hw _ (List.mem_of_getElem? (i := 39) rfl)) (by decide) e13 (rm6 l Z a0 hw [] (f5 (-7046029254386353131 : Int64) ((x0 + (-7046029254386353131 : Int64)) + (-7046029254386353131 : Int64))) T10.heap) [(.long (f5 (-7046029254386353131 : Int64) ((x0 + (-7046029254386353131 : Int64)) + (-7046029254386353131 : Int64))))] [] 0 rfl (lenOf pd__28J_29J rfl) rfl (Nat.le_of_eq rfl) (by decide) (by decide) (by decide) (by decide) (by rw [hml]; rfl) (hb hby at_121) ?_
    intro T15 L15 v15 X15 q15
    obtain ⟨rfl, rfl, e15⟩ := q15
    have NS15 := Fr.app NS13 (Fr.nil n0)
    show Go p e below s _ _ _ (T15.setTop (mkF m 124 #[.val (.long x0), .second, .val (.int x1), .val (.int (v0_s x1)), .val (.ref b1), .val (.long (-7046029254386353131 : Int64)), .second, .val (.long (f5 (-7046029254386353131 : Int64) x0)), .second, .val (.long (f5 (-7046029254386353131 : Int64) (x0 + (-7046029254386353131 : Int64)))), .second, .val (.long (f5 (-7046029254386353131 : Int64) ((x0 + (-7046029254386353131 : Int64)) + (-7046029254386353131 : Int64)))), .second, .val (.long (f5 (-7046029254386353131 : Int64) (((x0 + (-7046029254386353131 : Int64)) + (-7046029254386353131 : Int64)) + (-7046029254386353131 : Int64)))), .second] [(.long (f6 (f5 (-7046029254386353131 : Int64) ((x0 + (-7046029254386353131 : Int64)) + (-7046029254386353131 : Int64)))))]))
    refine g_lloadN X15 hx 125 (hb hby at_124) rfl rfl ?_
    show Go p e below s _ _ _ (T15.setTop (mkF m 125 #[.val (.long x0), .second, .val (.int x1), .val (.int (v0_s x1)), .val (.ref b1), .val (.long (-7046029254386353131 : Int64)), .second, .val (.long (f5 (-7046029254386353131 : Int64) x0)), .second, .val (.long (f5 (-7046029254386353131 : Int64) (x0 + (-7046029254386353131 : Int64)))), .second, .val (.long (f5 (-7046029254386353131 : Int64) ((x0 + (-7046029254386353131 : Int64)) + (-7046029254386353131 : Int64)))), .second, .val (.long (f5 (-7046029254386353131 : Int64) (((x0 + (-7046029254386353131 : Int64)) + (-7046029254386353131 : Int64)) + (-7046029254386353131 : Int64)))), .second] [(.long x0), (.long (f6 (f5 (-7046029254386353131 : Int64) ((x0 + (-7046029254386353131 : Int64)) + (-7046029254386353131 : Int64)))))]))
    refine g_ldc2_w X15 hx hZ hown (hw _ (List.mem_of_getElem? (i := 49) rfl)) 128 (hb hby at_125) rfl ?_
    show Go p e below s _ _ _ (T15.setTop (mkF m 128 #[.val (.long x0), .second, .val (.int x1), .val (.int (v0_s x1)), .val (.ref b1), .val (.long (-7046029254386353131 : Int64)), .second, .val (.long (f5 (-7046029254386353131 : Int64) x0)), .second, .val (.long (f5 (-7046029254386353131 : Int64) (x0 + (-7046029254386353131 : Int64)))), .second, .val (.long (f5 (-7046029254386353131 : Int64) ((x0 + (-7046029254386353131 : Int64)) + (-7046029254386353131 : Int64)))), .second, .val (.long (f5 (-7046029254386353131 : Int64) (((x0 + (-7046029254386353131 : Int64)) + (-7046029254386353131 : Int64)) + (-7046029254386353131 : Int64)))), .second] [(.long (3 : Int64)), (.long x0), (.long (f6 (f5 (-7046029254386353131 : Int64) ((x0 + (-7046029254386353131 : Int64)) + (-7046029254386353131 : Int64)))))]))
    refine g_lload X15 hx 130 (hb hby at_128) rfl rfl ?_
    show Go p e below s _ _ _ (T15.setTop (mkF m 130 #[.val (.long x0), .second, .val (.int x1), .val (.int (v0_s x1)), .val (.ref b1), .val (.long (-7046029254386353131 : Int64)), .second, .val (.long (f5 (-7046029254386353131 : Int64) x0)), .second, .val (.long (f5 (-7046029254386353131 : Int64) (x0 + (-7046029254386353131 : Int64)))), .second, .val (.long (f5 (-7046029254386353131 : Int64) ((x0 + (-7046029254386353131 : Int64)) + (-7046029254386353131 : Int64)))), .second, .val (.long (f5 (-7046029254386353131 : Int64) (((x0 + (-7046029254386353131 : Int64)) + (-7046029254386353131 : Int64)) + (-7046029254386353131 : Int64)))), .second] [(.long (-7046029254386353131 : Int64)), (.long (3 : Int64)), (.long x0), (.long (f6 (f5 (-7046029254386353131 : Int64) ((x0 + (-7046029254386353131 : Int64)) + (-7046029254386353131 : Int64)))))]))
    refine g_lmul X15 hx 131 (hb hby at_130) rfl ?_
    show Go p e below s _ _ _ (T15.setTop (mkF m 131 #[.val (.long x0), .second, .val (.int x1), .val (.int (v0_s x1)), .val (.ref b1), .val (.long (-7046029254386353131 : Int64)), .second, .val (.long (f5 (-7046029254386353131 : Int64) x0)), .second, .val (.long (f5 (-7046029254386353131 : Int64) (x0 + (-7046029254386353131 : Int64)))), .second, .val (.long (f5 (-7046029254386353131 : Int64) ((x0 + (-7046029254386353131 : Int64)) + (-7046029254386353131 : Int64)))), .second, .val (.long (f5 (-7046029254386353131 : Int64) (((x0 + (-7046029254386353131 : Int64)) + (-7046029254386353131 : Int64)) + (-7046029254386353131 : Int64)))), .second] [(.long ((3 : Int64) * (-7046029254386353131 : Int64))), (.long x0), (.long (f6 (f5 (-7046029254386353131 : Int64) ((x0 + (-7046029254386353131 : Int64)) + (-7046029254386353131 : Int64)))))]))
    refine g_ladd X15 hx 132 (hb hby at_131) rfl ?_
    show Go p e below s _ _ _ (T15.setTop (mkF m 132 #[.val (.long x0), .second, .val (.int x1), .val (.int (v0_s x1)), .val (.ref b1), .val (.long (-7046029254386353131 : Int64)), .second, .val (.long (f5 (-7046029254386353131 : Int64) x0)), .second, .val (.long (f5 (-7046029254386353131 : Int64) (x0 + (-7046029254386353131 : Int64)))), .second, .val (.long (f5 (-7046029254386353131 : Int64) ((x0 + (-7046029254386353131 : Int64)) + (-7046029254386353131 : Int64)))), .second, .val (.long (f5 (-7046029254386353131 : Int64) (((x0 + (-7046029254386353131 : Int64)) + (-7046029254386353131 : Int64)) + (-7046029254386353131 : Int64)))), .second] [(.long (x0 + ((3 : Int64) * (-7046029254386353131 : Int64)))), (.long (f6 (f5 (-7046029254386353131 : Int64) ((x0 + (-7046029254386353131 : Int64)) + (-7046029254386353131 : Int64)))))]))
    refine g_lcmp X15 hx 133 (hb hby at_132) rfl ?_
    show Go p e below s _ _ _ (T15.setTop (mkF m 133 #[.val (.long x0), .second, .val (.int x1), .val (.int (v0_s x1)), .val (.ref b1), .val (.long (-7046029254386353131 : Int64)), .second, .val (.long (f5 (-7046029254386353131 : Int64) x0)), .second, .val (.long (f5 (-7046029254386353131 : Int64) (x0 + (-7046029254386353131 : Int64)))), .second, .val (.long (f5 (-7046029254386353131 : Int64) ((x0 + (-7046029254386353131 : Int64)) + (-7046029254386353131 : Int64)))), .second, .val (.long (f5 (-7046029254386353131 : Int64) (((x0 + (-7046029254386353131 : Int64)) + (-7046029254386353131 : Int64)) + (-7046029254386353131 : Int64)))), .second] [(.int (lcmpW (f6 (f5 (-7046029254386353131 : Int64) ((x0 + (-7046029254386353131 : Int64)) + (-7046029254386353131 : Int64)))) (x0 + ((3 : Int64) * (-7046029254386353131 : Int64)))))]))
    have h16 : (f6 (f5 (-7046029254386353131 : Int64) ((x0 + (-7046029254386353131 : Int64)) + (-7046029254386353131 : Int64)))) = (x0 + ((3 : Int64) * (-7046029254386353131 : Int64))) := own_u3 x0 _ _ rfl
    refine g_lc_ne X15 hx 157 136 (hb hby at_133) (by decide) rfl rfl (fun _ => ?_) (fun q => absurd h16 q)
    show Go p e below s _ _ _ (T15.setTop (mkF m 136 #[.val (.long x0), .second, .val (.int x1), .val (.int (v0_s x1)), .val (.ref b1), .val (.long (-7046029254386353131 : Int64)), .second, .val (.long (f5 (-7046029254386353131 : Int64) x0)), .second, .val (.long (f5 (-7046029254386353131 : Int64) (x0 + (-7046029254386353131 : Int64)))), .second, .val (.long (f5 (-7046029254386353131 : Int64) ((x0 + (-7046029254386353131 : Int64)) + (-7046029254386353131 : Int64)))), .second, .val (.long (f5 (-7046029254386353131 : Int64) (((x0 + (-7046029254386353131 : Int64)) + (-7046029254386353131 : Int64)) + (-7046029254386353131 : Int64)))), .second] []))
    refine g_lload X15 hx 138 (hb hby at_136) rfl rfl ?_
    show Go p e below s _ _ _ (T15.setTop (mkF m 138 #[.val (.long x0), .second, .val (.int x1), .val (.int (v0_s x1)), .val (.ref b1), .val (.long (-7046029254386353131 : Int64)), .second, .val (.long (f5 (-7046029254386353131 : Int64) x0)), .second, .val (.long (f5 (-7046029254386353131 : Int64) (x0 + (-7046029254386353131 : Int64)))), .second, .val (.long (f5 (-7046029254386353131 : Int64) ((x0 + (-7046029254386353131 : Int64)) + (-7046029254386353131 : Int64)))), .second, .val (.long (f5 (-7046029254386353131 : Int64) (((x0 + (-7046029254386353131 : Int64)) + (-7046029254386353131 : Int64)) + (-7046029254386353131 : Int64)))), .second] [(.long (f5 (-7046029254386353131 : Int64) (((x0 + (-7046029254386353131 : Int64)) + (-7046029254386353131 : Int64)) + (-7046029254386353131 : Int64))))]))
    refine g_callS X15 hx hZ hown (hw _ (List.mem_of_getElem? (i := 36) rfl)) (hw _ (List.mem_of_getElem? (i := 37) rfl)) (hw _ (List.mem_of_getElem? (i := 38) rfl)) (hw _ (List.mem_of_getElem? (i := 39) rfl)) (by decide) e15 (rm6 l Z a0 hw [] (f5 (-7046029254386353131 : Int64) (((x0 + (-7046029254386353131 : Int64)) + (-7046029254386353131 : Int64)) + (-7046029254386353131 : Int64))) T10.heap) [(.long (f5 (-7046029254386353131 : Int64) (((x0 + (-7046029254386353131 : Int64)) + (-7046029254386353131 : Int64)) + (-7046029254386353131 : Int64))))] [] 0 rfl (lenOf pd__28J_29J rfl) rfl (Nat.le_of_eq rfl) (by decide) (by decide) (by decide) (by decide) (by rw [hml]; rfl) (hb hby at_138) ?_
    intro T17 L17 v17 X17 q17
    obtain ⟨rfl, rfl, e17⟩ := q17
    have NS17 := Fr.app NS15 (Fr.nil n0)
    show Go p e below s _ _ _ (T17.setTop (mkF m 141 #[.val (.long x0), .second, .val (.int x1), .val (.int (v0_s x1)), .val (.ref b1), .val (.long (-7046029254386353131 : Int64)), .second, .val (.long (f5 (-7046029254386353131 : Int64) x0)), .second, .val (.long (f5 (-7046029254386353131 : Int64) (x0 + (-7046029254386353131 : Int64)))), .second, .val (.long (f5 (-7046029254386353131 : Int64) ((x0 + (-7046029254386353131 : Int64)) + (-7046029254386353131 : Int64)))), .second, .val (.long (f5 (-7046029254386353131 : Int64) (((x0 + (-7046029254386353131 : Int64)) + (-7046029254386353131 : Int64)) + (-7046029254386353131 : Int64)))), .second] [(.long (f6 (f5 (-7046029254386353131 : Int64) (((x0 + (-7046029254386353131 : Int64)) + (-7046029254386353131 : Int64)) + (-7046029254386353131 : Int64)))))]))
    refine g_lloadN X17 hx 142 (hb hby at_141) rfl rfl ?_
    show Go p e below s _ _ _ (T17.setTop (mkF m 142 #[.val (.long x0), .second, .val (.int x1), .val (.int (v0_s x1)), .val (.ref b1), .val (.long (-7046029254386353131 : Int64)), .second, .val (.long (f5 (-7046029254386353131 : Int64) x0)), .second, .val (.long (f5 (-7046029254386353131 : Int64) (x0 + (-7046029254386353131 : Int64)))), .second, .val (.long (f5 (-7046029254386353131 : Int64) ((x0 + (-7046029254386353131 : Int64)) + (-7046029254386353131 : Int64)))), .second, .val (.long (f5 (-7046029254386353131 : Int64) (((x0 + (-7046029254386353131 : Int64)) + (-7046029254386353131 : Int64)) + (-7046029254386353131 : Int64)))), .second] [(.long x0), (.long (f6 (f5 (-7046029254386353131 : Int64) (((x0 + (-7046029254386353131 : Int64)) + (-7046029254386353131 : Int64)) + (-7046029254386353131 : Int64)))))]))
    refine g_ldc2_w X17 hx hZ hown (hw _ (List.mem_of_getElem? (i := 50) rfl)) 145 (hb hby at_142) rfl ?_
    show Go p e below s _ _ _ (T17.setTop (mkF m 145 #[.val (.long x0), .second, .val (.int x1), .val (.int (v0_s x1)), .val (.ref b1), .val (.long (-7046029254386353131 : Int64)), .second, .val (.long (f5 (-7046029254386353131 : Int64) x0)), .second, .val (.long (f5 (-7046029254386353131 : Int64) (x0 + (-7046029254386353131 : Int64)))), .second, .val (.long (f5 (-7046029254386353131 : Int64) ((x0 + (-7046029254386353131 : Int64)) + (-7046029254386353131 : Int64)))), .second, .val (.long (f5 (-7046029254386353131 : Int64) (((x0 + (-7046029254386353131 : Int64)) + (-7046029254386353131 : Int64)) + (-7046029254386353131 : Int64)))), .second] [(.long (4 : Int64)), (.long x0), (.long (f6 (f5 (-7046029254386353131 : Int64) (((x0 + (-7046029254386353131 : Int64)) + (-7046029254386353131 : Int64)) + (-7046029254386353131 : Int64)))))]))
    refine g_lload X17 hx 147 (hb hby at_145) rfl rfl ?_
    show Go p e below s _ _ _ (T17.setTop (mkF m 147 #[.val (.long x0), .second, .val (.int x1), .val (.int (v0_s x1)), .val (.ref b1), .val (.long (-7046029254386353131 : Int64)), .second, .val (.long (f5 (-7046029254386353131 : Int64) x0)), .second, .val (.long (f5 (-7046029254386353131 : Int64) (x0 + (-7046029254386353131 : Int64)))), .second, .val (.long (f5 (-7046029254386353131 : Int64) ((x0 + (-7046029254386353131 : Int64)) + (-7046029254386353131 : Int64)))), .second, .val (.long (f5 (-7046029254386353131 : Int64) (((x0 + (-7046029254386353131 : Int64)) + (-7046029254386353131 : Int64)) + (-7046029254386353131 : Int64)))), .second] [(.long (-7046029254386353131 : Int64)), (.long (4 : Int64)), (.long x0), (.long (f6 (f5 (-7046029254386353131 : Int64) (((x0 + (-7046029254386353131 : Int64)) + (-7046029254386353131 : Int64)) + (-7046029254386353131 : Int64)))))]))
    refine g_lmul X17 hx 148 (hb hby at_147) rfl ?_
    show Go p e below s _ _ _ (T17.setTop (mkF m 148 #[.val (.long x0), .second, .val (.int x1), .val (.int (v0_s x1)), .val (.ref b1), .val (.long (-7046029254386353131 : Int64)), .second, .val (.long (f5 (-7046029254386353131 : Int64) x0)), .second, .val (.long (f5 (-7046029254386353131 : Int64) (x0 + (-7046029254386353131 : Int64)))), .second, .val (.long (f5 (-7046029254386353131 : Int64) ((x0 + (-7046029254386353131 : Int64)) + (-7046029254386353131 : Int64)))), .second, .val (.long (f5 (-7046029254386353131 : Int64) (((x0 + (-7046029254386353131 : Int64)) + (-7046029254386353131 : Int64)) + (-7046029254386353131 : Int64)))), .second] [(.long ((4 : Int64) * (-7046029254386353131 : Int64))), (.long x0), (.long (f6 (f5 (-7046029254386353131 : Int64) (((x0 + (-7046029254386353131 : Int64)) + (-7046029254386353131 : Int64)) + (-7046029254386353131 : Int64)))))]))
    refine g_ladd X17 hx 149 (hb hby at_148) rfl ?_
    show Go p e below s _ _ _ (T17.setTop (mkF m 149 #[.val (.long x0), .second, .val (.int x1), .val (.int (v0_s x1)), .val (.ref b1), .val (.long (-7046029254386353131 : Int64)), .second, .val (.long (f5 (-7046029254386353131 : Int64) x0)), .second, .val (.long (f5 (-7046029254386353131 : Int64) (x0 + (-7046029254386353131 : Int64)))), .second, .val (.long (f5 (-7046029254386353131 : Int64) ((x0 + (-7046029254386353131 : Int64)) + (-7046029254386353131 : Int64)))), .second, .val (.long (f5 (-7046029254386353131 : Int64) (((x0 + (-7046029254386353131 : Int64)) + (-7046029254386353131 : Int64)) + (-7046029254386353131 : Int64)))), .second] [(.long (x0 + ((4 : Int64) * (-7046029254386353131 : Int64)))), (.long (f6 (f5 (-7046029254386353131 : Int64) (((x0 + (-7046029254386353131 : Int64)) + (-7046029254386353131 : Int64)) + (-7046029254386353131 : Int64)))))]))
    refine g_lcmp X17 hx 150 (hb hby at_149) rfl ?_
    show Go p e below s _ _ _ (T17.setTop (mkF m 150 #[.val (.long x0), .second, .val (.int x1), .val (.int (v0_s x1)), .val (.ref b1), .val (.long (-7046029254386353131 : Int64)), .second, .val (.long (f5 (-7046029254386353131 : Int64) x0)), .second, .val (.long (f5 (-7046029254386353131 : Int64) (x0 + (-7046029254386353131 : Int64)))), .second, .val (.long (f5 (-7046029254386353131 : Int64) ((x0 + (-7046029254386353131 : Int64)) + (-7046029254386353131 : Int64)))), .second, .val (.long (f5 (-7046029254386353131 : Int64) (((x0 + (-7046029254386353131 : Int64)) + (-7046029254386353131 : Int64)) + (-7046029254386353131 : Int64)))), .second] [(.int (lcmpW (f6 (f5 (-7046029254386353131 : Int64) (((x0 + (-7046029254386353131 : Int64)) + (-7046029254386353131 : Int64)) + (-7046029254386353131 : Int64)))) (x0 + ((4 : Int64) * (-7046029254386353131 : Int64)))))]))
    have h18 : (f6 (f5 (-7046029254386353131 : Int64) (((x0 + (-7046029254386353131 : Int64)) + (-7046029254386353131 : Int64)) + (-7046029254386353131 : Int64)))) = (x0 + ((4 : Int64) * (-7046029254386353131 : Int64))) := own_u4 x0 _ _ rfl
    refine g_lc_ne X17 hx 157 153 (hb hby at_150) (by decide) rfl rfl (fun _ => ?_) (fun q => absurd h18 q)
    show Go p e below s _ _ _ (T17.setTop (mkF m 153 #[.val (.long x0), .second, .val (.int x1), .val (.int (v0_s x1)), .val (.ref b1), .val (.long (-7046029254386353131 : Int64)), .second, .val (.long (f5 (-7046029254386353131 : Int64) x0)), .second, .val (.long (f5 (-7046029254386353131 : Int64) (x0 + (-7046029254386353131 : Int64)))), .second, .val (.long (f5 (-7046029254386353131 : Int64) ((x0 + (-7046029254386353131 : Int64)) + (-7046029254386353131 : Int64)))), .second, .val (.long (f5 (-7046029254386353131 : Int64) (((x0 + (-7046029254386353131 : Int64)) + (-7046029254386353131 : Int64)) + (-7046029254386353131 : Int64)))), .second] []))
    refine g_iconst X17 hx (1 : Int32) 154 (hb hby at_153) rfl rfl ?_
    show Go p e below s _ _ _ (T17.setTop (mkF m 154 #[.val (.long x0), .second, .val (.int x1), .val (.int (v0_s x1)), .val (.ref b1), .val (.long (-7046029254386353131 : Int64)), .second, .val (.long (f5 (-7046029254386353131 : Int64) x0)), .second, .val (.long (f5 (-7046029254386353131 : Int64) (x0 + (-7046029254386353131 : Int64)))), .second, .val (.long (f5 (-7046029254386353131 : Int64) ((x0 + (-7046029254386353131 : Int64)) + (-7046029254386353131 : Int64)))), .second, .val (.long (f5 (-7046029254386353131 : Int64) (((x0 + (-7046029254386353131 : Int64)) + (-7046029254386353131 : Int64)) + (-7046029254386353131 : Int64)))), .second] [(.int (1 : Int32))]))
    refine g_goto X17 hx 158 (hb hby at_154) (by decide) rfl ?_
    show Go p e below s _ _ _ (T17.setTop (mkF m 158 #[.val (.long x0), .second, .val (.int x1), .val (.int (v0_s x1)), .val (.ref b1), .val (.long (-7046029254386353131 : Int64)), .second, .val (.long (f5 (-7046029254386353131 : Int64) x0)), .second, .val (.long (f5 (-7046029254386353131 : Int64) (x0 + (-7046029254386353131 : Int64)))), .second, .val (.long (f5 (-7046029254386353131 : Int64) ((x0 + (-7046029254386353131 : Int64)) + (-7046029254386353131 : Int64)))), .second, .val (.long (f5 (-7046029254386353131 : Int64) (((x0 + (-7046029254386353131 : Int64)) + (-7046029254386353131 : Int64)) + (-7046029254386353131 : Int64)))), .second] [(.int (1 : Int32))]))
    exact g_retN X17 hx hret (by simp) hlk (hb hby at_158) (by decide) (by decide) ⟨rfl, NS17⟩
  · show Go p e below s _ _ _ (T2.setTop (mkF m 19 #[.val (.long x0), .second, .val (.int x1), .val (.int (v0_s x1)), .val (.ref b1), .unset, .unset, .unset, .unset, .unset, .unset, .unset, .unset, .unset, .unset] []))
    refine g_aload X2 hx 21 (hb hby at_19) rfl rfl rfl ?_
    show Go p e below s _ _ _ (T2.setTop (mkF m 21 #[.val (.long x0), .second, .val (.int x1), .val (.int (v0_s x1)), .val (.ref b1), .unset, .unset, .unset, .unset, .unset, .unset, .unset, .unset, .unset, .unset] [(.ref b1)]))
    refine g_callV X2 hx hZ hown (hw _ (List.mem_of_getElem? (i := 16) rfl)) (hw _ (List.mem_of_getElem? (i := 17) rfl)) (hw _ (List.mem_of_getElem? (i := 19) rfl)) (hw _ (List.mem_of_getElem? (i := 18) rfl)) (hw _ (List.mem_of_getElem? (i := 2) rfl)) (hw _ (List.mem_of_getElem? (i := 20) rfl)) (by decide) rfl b1 k2_1 (rm3 l Z a0 hw [] b1 x0 (0 : Int64) (-7046029254386353131 : Int64) x0 T2.heap n0 Z2 k2_1 p2_0 p2_1 p2_2 p2_3 N_b1) [] [] 0 rfl (lenOf pd__28_29V rfl) rfl (Nat.le_of_eq rfl) (by decide) (by decide) (by decide) (by decide) (by rw [hml]; rfl) (hb hby at_21) ?_
    intro T19 L19 v19 X19 q19
    obtain ⟨rfl, N19, K19, p19_0, p19_1, p19_2, p19_3⟩ := q19
    have NN19 := Fr.app NN2 N19
    have k19_1 := k2_1.keep K19
    have Z19 : n0 ≤ T19.heap.size := Nat.le_trans Z2 K19.1
    show Go p e below s _ _ _ (T19.setTop (mkF m 24 #[.val (.long x0), .second, .val (.int x1), .val (.int (v0_s x1)), .val (.ref b1), .unset, .unset, .unset, .unset, .unset, .unset, .unset, .unset, .unset, .unset] []))
    refine g_iloadN X19 hx 25 (hb hby at_24) rfl rfl ?_
    show Go p e below s _ _ _ (T19.setTop (mkF m 25 #[.val (.long x0), .second, .val (.int x1), .val (.int (v0_s x1)), .val (.ref b1), .unset, .unset, .unset, .unset, .unset, .unset, .unset, .unset, .unset, .unset] [(.int (v0_s x1))]))
    refine g_iconst X19 hx (2 : Int32) 26 (hb hby at_25) rfl rfl ?_
    show Go p e below s _ _ _ (T19.setTop (mkF m 26 #[.val (.long x0), .second, .val (.int x1), .val (.int (v0_s x1)), .val (.ref b1), .unset, .unset, .unset, .unset, .unset, .unset, .unset, .unset, .unset, .unset] [(.int (2 : Int32)), (.int (v0_s x1))]))
    refine g_icmp_lt X19 hx 34 29 (hb hby at_26) (by decide) rfl rfl (fun h20 => ?_) (fun h20 => ?_)
    · show Go p e below s _ _ _ (T19.setTop (mkF m 34 #[.val (.long x0), .second, .val (.int x1), .val (.int (v0_s x1)), .val (.ref b1), .unset, .unset, .unset, .unset, .unset, .unset, .unset, .unset, .unset, .unset] []))
      refine g_iloadN X19 hx 35 (hb hby at_34) rfl rfl ?_
      show Go p e below s _ _ _ (T19.setTop (mkF m 35 #[.val (.long x0), .second, .val (.int x1), .val (.int (v0_s x1)), .val (.ref b1), .unset, .unset, .unset, .unset, .unset, .unset, .unset, .unset, .unset, .unset] [(.int (v0_s x1))]))
      refine g_iconst X19 hx (3 : Int32) 36 (hb hby at_35) rfl rfl ?_
      show Go p e below s _ _ _ (T19.setTop (mkF m 36 #[.val (.long x0), .second, .val (.int x1), .val (.int (v0_s x1)), .val (.ref b1), .unset, .unset, .unset, .unset, .unset, .unset, .unset, .unset, .unset, .unset] [(.int (3 : Int32)), (.int (v0_s x1))]))
      have h21 : (v0_s x1) < (3 : Int32) := by rw [own_s1 ‹¬ v0_s x1 < (1 : Int32)› ‹v0_s x1 < (2 : Int32)›]; decide
      refine g_icmp_lt X19 hx 44 39 (hb hby at_36) (by decide) rfl rfl (fun _ => ?_) (fun q => absurd h21 q)
      show Go p e below s _ _ _ (T19.setTop (mkF m 44 #[.val (.long x0), .second, .val (.int x1), .val (.int (v0_s x1)), .val (.ref b1), .unset, .unset, .unset, .unset, .unset, .unset, .unset, .unset, .unset, .unset] []))
      refine g_iloadN X19 hx 45 (hb hby at_44) rfl rfl ?_
      show Go p e below s _ _ _ (T19.setTop (mkF m 45 #[.val (.long x0), .second, .val (.int x1), .val (.int (v0_s x1)), .val (.ref b1), .unset, .unset, .unset, .unset, .unset, .unset, .unset, .unset, .unset, .unset] [(.int (v0_s x1))]))
      have h22 : ¬ ((v0_s x1) = (0 : Int32)) := by rw [own_s1 ‹¬ v0_s x1 < (1 : Int32)› ‹v0_s x1 < (2 : Int32)›]; decide
      refine g_if0_ne X19 hx 54 48 (hb hby at_45) (by decide) rfl rfl (fun q => absurd q h22) (fun _ => ?_)
      show Go p e below s _ _ _ (T19.setTop (mkF m 54 #[.val (.long x0), .second, .val (.int x1), .val (.int (v0_s x1)), .val (.ref b1), .unset, .unset, .unset, .unset, .unset, .unset, .unset, .unset, .unset, .unset] []))
      refine g_iloadN X19 hx 55 (hb hby at_54) rfl rfl ?_
      show Go p e below s _ _ _ (T19.setTop (mkF m 55 #[.val (.long x0), .second, .val (.int x1), .val (.int (v0_s x1)), .val (.ref b1), .unset, .unset, .unset, .unset, .unset, .unset, .unset, .unset, .unset, .unset] [(.int (v0_s x1))]))
      refine g_i2l X19 hx 56 (hb hby at_55) rfl ?_
      show Go p e below s _ _ _ (T19.setTop (mkF m 56 #[.val (.long x0), .second, .val (.int x1), .val (.int (v0_s x1)), .val (.ref b1), .unset, .unset, .unset, .unset, .unset, .unset, .unset, .unset, .unset, .unset] [(.long ((v0_s x1).toInt64))]))
      refine g_callS X19 hx hZ hown (hw _ (List.mem_of_getElem? (i := 30) rfl)) (hw _ (List.mem_of_getElem? (i := 24) rfl)) (hw _ (List.mem_of_getElem? (i := 2) rfl)) (hw _ (List.mem_of_getElem? (i := 25) rfl)) (by decide) rfl (rm4 l Z a0 hw [] ((v0_s x1).toInt64) T19.heap) [(.long ((v0_s x1).toInt64))] [] 0 rfl (lenOf pd__28J_29J rfl) rfl (Nat.le_of_eq rfl) (by decide) (by decide) (by decide) (by decide) (by rw [hml]; rfl) (hb hby at_56) ?_
      intro T23 L23 v23 X23 q23
      obtain ⟨rfl, rfl, e23⟩ := q23
      have NS23 := Fr.app NN19 (Fr.nil n0)
      show Go p e below s _ _ _ (T23.setTop (mkF m 59 #[.val (.long x0), .second, .val (.int x1), .val (.int (v0_s x1)), .val (.ref b1), .unset, .unset, .unset, .unset, .unset, .unset, .unset, .unset, .unset, .unset] [(.long (f4 ((v0_s x1).toInt64)))]))
      refine g_lstore X23 hx #[.val (.long x0), .second, .val (.int x1), .val (.int (v0_s x1)), .val (.ref b1), .val (.long (f4 ((v0_s x1).toInt64))), .second, .unset, .unset, .unset, .unset, .unset, .unset, .unset, .unset] 61 (hb hby at_59) rfl rfl ?_
      show Go p e below s _ _ _ (T23.setTop (mkF m 61 #[.val (.long x0), .second, .val (.int x1), .val (.int (v0_s x1)), .val (.ref b1), .val (.long (f4 ((v0_s x1).toInt64))), .second, .unset, .unset, .unset, .unset, .unset, .unset, .unset, .unset] []))
      refine g_aload X23 hx 63 (hb hby at_61) rfl rfl rfl ?_
      show Go p e below s _ _ _ (T23.setTop (mkF m 63 #[.val (.long x0), .second, .val (.int x1), .val (.int (v0_s x1)), .val (.ref b1), .val (.long (f4 ((v0_s x1).toInt64))), .second, .unset, .unset, .unset, .unset, .unset, .unset, .unset, .unset] [(.ref b1)]))
      refine g_callV X23 hx hZ hown (hw _ (List.mem_of_getElem? (i := 31) rfl)) (hw _ (List.mem_of_getElem? (i := 32) rfl)) (hw _ (List.mem_of_getElem? (i := 34) rfl)) (hw _ (List.mem_of_getElem? (i := 33) rfl)) (hw _ (List.mem_of_getElem? (i := 2) rfl)) (hw _ (List.mem_of_getElem? (i := 35) rfl)) (by decide) e23 b1 k19_1 (rm5 l Z a0 hw [] b1 (f4 ((0 : Int64) + (1 : Int64))) x0 T19.heap n0 Z19 k19_1 p19_2 p19_3 N_b1) [] [] 0 rfl (lenOf pd__28_29J rfl) rfl (Nat.le_of_eq rfl) (by decide) (by decide) (by decide) (by decide) (by rw [hml]; rfl) (hb hby at_63) ?_
      intro T24 L24 v24 X24 q24
      obtain ⟨rfl, N24, K24, p24_0, p24_1⟩ := q24
      have NN24 := Fr.app NS23 N24
      have k24_1 := k19_1.keep K24
      have Z24 : n0 ≤ T24.heap.size := Nat.le_trans Z19 K24.1
      show Go p e below s _ _ _ (T24.setTop (mkF m 66 #[.val (.long x0), .second, .val (.int x1), .val (.int (v0_s x1)), .val (.ref b1), .val (.long (f4 ((v0_s x1).toInt64))), .second, .unset, .unset, .unset, .unset, .unset, .unset, .unset, .unset] [(.long (f5 (f4 ((0 : Int64) + (1 : Int64))) x0))]))
      refine g_lstore X24 hx #[.val (.long x0), .second, .val (.int x1), .val (.int (v0_s x1)), .val (.ref b1), .val (.long (f4 ((v0_s x1).toInt64))), .second, .val (.long (f5 (f4 ((0 : Int64) + (1 : Int64))) x0)), .second, .unset, .unset, .unset, .unset, .unset, .unset] 68 (hb hby at_66) rfl rfl ?_
      show Go p e below s _ _ _ (T24.setTop (mkF m 68 #[.val (.long x0), .second, .val (.int x1), .val (.int (v0_s x1)), .val (.ref b1), .val (.long (f4 ((v0_s x1).toInt64))), .second, .val (.long (f5 (f4 ((0 : Int64) + (1 : Int64))) x0)), .second, .unset, .unset, .unset, .unset, .unset, .unset] []))
      refine g_aload X24 hx 70 (hb hby at_68) rfl rfl rfl ?_
      show Go p e below s _ _ _ (T24.setTop (mkF m 70 #[.val (.long x0), .second, .val (.int x1), .val (.int (v0_s x1)), .val (.ref b1), .val (.long (f4 ((v0_s x1).toInt64))), .second, .val (.long (f5 (f4 ((0 : Int64) + (1 : Int64))) x0)), .second, .unset, .unset, .unset, .unset, .unset, .unset] [(.ref b1)]))
      refine g_callV X24 hx hZ hown (hw _ (List.mem_of_getElem? (i := 31) rfl)) (hw _ (List.mem_of_getElem? (i := 32) rfl)) (hw _ (List.mem_of_getElem? (i := 34) rfl)) (hw _ (List.mem_of_getElem? (i := 33) rfl)) (hw _ (List.mem_of_getElem? (i := 2) rfl)) (hw _ (List.mem_of_getElem? (i := 35) rfl)) (by decide) rfl b1 k24_1 (rm5 l Z a0 hw [] b1 (f4 ((0 : Int64) + (1 : Int64))) (x0 + (f4 ((0 : Int64) + (1 : Int64)))) T24.heap n0 Z24 k24_1 p24_0 p24_1 N_b1) [] [] 0 rfl (lenOf pd__28_29J rfl) rfl (Nat.le_of_eq rfl) (by decide) (by decide) (by decide) (by decide) (by rw [hml]; rfl) (hb hby at_70) ?_
      intro T25 L25 v25 X25 q25
      obtain ⟨rfl, N25, K25, p25_0, p25_1⟩ := q25
      have NN25 := Fr.app NN24 N25
      have k25_1 := k24_1.keep K25
      have Z25 : n0 ≤ T25.heap.size := Nat.le_trans Z24 K25.1
      show Go p e below s _ _ _ (T25.setTop (mkF m 73 #[.val (.long x0), .second, .val (.int x1), .val (.int (v0_s x1)), .val (.ref b1), .val (.long (f4 ((v0_s x1).toInt64))), .second, .val (.long (f5 (f4 ((0 : Int64) + (1 : Int64))) x0)), .second, .unset, .unset, .unset, .unset, .unset, .unset] [(.long (f5 (f4 ((0 : Int64) + (1 : Int64))) (x0 + (f4 ((0 : Int64) + (1 : Int64))))))]))
      refine g_lstore X25 hx #[.val (.long x0), .second, .val (.int x1), .val (.int (v0_s x1)), .val (.ref b1), .val (.long (f4 ((v0_s x1).toInt64))), .second, .val (.long (f5 (f4 ((0 : Int64) + (1 : Int64))) x0)), .second, .val (.long (f5 (f4 ((0 : Int64) + (1 : Int64))) (x0 + (f4 ((0 : Int64) + (1 : Int64)))))), .second, .unset, .unset, .unset, .unset] 75 (hb hby at_73) rfl rfl ?_
      show Go p e below s _ _ _ (T25.setTop (mkF m 75 #[.val (.long x0), .second, .val (.int x1), .val (.int (v0_s x1)), .val (.ref b1), .val (.long (f4 ((v0_s x1).toInt64))), .second, .val (.long (f5 (f4 ((0 : Int64) + (1 : Int64))) x0)), .second, .val (.long (f5 (f4 ((0 : Int64) + (1 : Int64))) (x0 + (f4 ((0 : Int64) + (1 : Int64)))))), .second, .unset, .unset, .unset, .unset] []))
      refine g_aload X25 hx 77 (hb hby at_75) rfl rfl rfl ?_
      show Go p e below s _ _ _ (T25.setTop (mkF m 77 #[.val (.long x0), .second, .val (.int x1), .val (.int (v0_s x1)), .val (.ref b1), .val (.long (f4 ((v0_s x1).toInt64))), .second, .val (.long (f5 (f4 ((0 : Int64) + (1 : Int64))) x0)), .second, .val (.long (f5 (f4 ((0 : Int64) + (1 : Int64))) (x0 + (f4 ((0 : Int64) + (1 : Int64)))))), .second, .unset, .unset, .unset, .unset] [(.ref b1)]))
      refine g_callV X25 hx hZ hown (hw _ (List.mem_of_getElem? (i := 31) rfl)) (hw _ (List.mem_of_getElem? (i := 32) rfl)) (hw _ (List.mem_of_getElem? (i := 34) rfl)) (hw _ (List.mem_of_getElem? (i := 33) rfl)) (hw _ (List.mem_of_getElem? (i := 2) rfl)) (hw _ (List.mem_of_getElem? (i := 35) rfl)) (by decide) rfl b1 k25_1 (rm5 l Z a0 hw [] b1 (f4 ((0 : Int64) + (1 : Int64))) ((x0 + (f4 ((0 : Int64) + (1 : Int64)))) + (f4 ((0 : Int64) + (1 : Int64)))) T25.heap n0 Z25 k25_1 p25_0 p25_1 N_b1) [] [] 0 rfl (lenOf pd__28_29J rfl) rfl (Nat.le_of_eq rfl) (by decide) (by decide) (by decide) (by decide) (by rw [hml]; rfl) (hb hby at_77) ?_
      intro T26 L26 v26 X26 q26
      obtain ⟨rfl, N26, K26, p26_0, p26_1⟩ := q26
      have NN26 := Fr.app NN25 N26
      have k26_1 := k25_1.keep K26
      have Z26 : n0 ≤ T26.heap.size := Nat.le_trans Z25 K26.1
      show Go p e below s _ _ _ (T26.setTop (mkF m 80 #[.val (.long x0), .second, .val (.int x1), .val (.int (v0_s x1)), .val (.ref b1), .val (.long (f4 ((v0_s x1).toInt64))), .second, .val (.long (f5 (f4 ((0 : Int64) + (1 : Int64))) x0)), .second, .val (.long (f5 (f4 ((0 : Int64) + (1 : Int64))) (x0 + (f4 ((0 : Int64) + (1 : Int64)))))), .second, .unset, .unset, .unset, .unset] [(.long (f5 (f4 ((0 : Int64) + (1 : Int64))) ((x0 + (f4 ((0 : Int64) + (1 : Int64)))) + (f4 ((0 : Int64) + (1 : Int64))))))]))
      refine g_lstore X26 hx #[.val (.long x0), .second, .val (.int x1), .val (.int (v0_s x1)), .val (.ref b1), .val (.long (f4 ((v0_s x1).toInt64))), .second, .val (.long (f5 (f4 ((0 : Int64) + (1 : Int64))) x0)), .second, .val (.long (f5 (f4 ((0 : Int64) + (1 : Int64))) (x0 + (f4 ((0 : Int64) + (1 : Int64)))))), .second, .val (.long (f5 (f4 ((0 : Int64) + (1 : Int64))) ((x0 + (f4 ((0 : Int64) + (1 : Int64)))) + (f4 ((0 : Int64) + (1 : Int64)))))), .second, .unset, .unset] 82 (hb hby at_80) rfl rfl ?_
      show Go p e below s _ _ _ (T26.setTop (mkF m 82 #[.val (.long x0), .second, .val (.int x1), .val (.int (v0_s x1)), .val (.ref b1), .val (.long (f4 ((v0_s x1).toInt64))), .second, .val (.long (f5 (f4 ((0 : Int64) + (1 : Int64))) x0)), .second, .val (.long (f5 (f4 ((0 : Int64) + (1 : Int64))) (x0 + (f4 ((0 : Int64) + (1 : Int64)))))), .second, .val (.long (f5 (f4 ((0 : Int64) + (1 : Int64))) ((x0 + (f4 ((0 : Int64) + (1 : Int64)))) + (f4 ((0 : Int64) + (1 : Int64)))))), .second, .unset, .unset] []))
      refine g_aload X26 hx 84 (hb hby at_82) rfl rfl rfl ?_
      show Go p e below s _ _ _ (T26.setTop (mkF m 84 #[.val (.long x0), .second, .val (.int x1), .val (.int (v0_s x1)), .val (.ref b1), .val (.long (f4 ((v0_s x1).toInt64))), .second, .val (.long (f5 (f4 ((0 : Int64) + (1 : Int64))) x0)), .second, .val (.long (f5 (f4 ((0 : Int64) + (1 : Int64))) (x0 + (f4 ((0 : Int64) + (1 : Int64)))))), .second, .val (.long (f5 (f4 ((0 : Int64) + (1 : Int64))) ((x0 + (f4 ((0 : Int64) + (1 : Int64)))) + (f4 ((0 : Int64) + (1 : Int64)))))), .second, .unset, .unset] [(.ref b1)]))
      refine g_callV X26 hx hZ hown (hw _ (List.mem_of_getElem? (i := 31) rfl)) (hw _ (List.mem_of_getElem? (i := 32) rfl)) (hw _ (List.mem_of_getElem? (i := 34) rfl)) (hw _ (List.mem_of_getElem? (i := 33) rfl)) (hw _ (List.mem_of_getElem? (i := 2) rfl)) (hw _ (List.mem_of_getElem? (i := 35) rfl)) (by decide) rfl b1 k26_1 (rm5 l Z a0 hw [] b1 (f4 ((0 : Int64) + (1 : Int64))) (((x0 + (f4 ((0 : Int64) + (1 : Int64)))) + (f4 ((0 : Int64) + (1 : Int64)))) + (f4 ((0 : Int64) + (1 : Int64)))) T26.heap n0 Z26 k26_1 p26_0 p26_1 N_b1) [] [] 0 rfl (lenOf pd__28_29J rfl) rfl (Nat.le_of_eq rfl) (by decide) (by decide) (by decide) (by decide) (by rw [hml]; rfl) (hb hby at_84) ?_
      intro T27 L27 v27 X27 q27
      obtain ⟨rfl, N27, K27, p27_0, p27_1⟩ := q27
      have NN27 := Fr.app NN26 N27
      have k27_1 := k26_1.keep K27
      have Z27 : n0 ≤ T27.heap.size := Nat.le_trans Z26 K27.1
      show Go p e below s _ _ _ (T27.setTop (mkF m 87 #[.val (.long x0), .second, .val (.int x1), .val (.int (v0_s x1)), .val (.ref b1), .val (.long (f4 ((v0_s x1).toInt64))), .second, .val (.long (f5 (f4 ((0 : Int64) + (1 : Int64))) x0)), .second, .val (.long (f5 (f4 ((0 : Int64) + (1 : Int64))) (x0 + (f4 ((0 : Int64) + (1 : Int64)))))), .second, .val (.long (f5 (f4 ((0 : Int64) + (1 : Int64))) ((x0 + (f4 ((0 : Int64) + (1 : Int64)))) + (f4 ((0 : Int64) + (1 : Int64)))))), .second, .unset, .unset] [(.long (f5 (f4 ((0 : Int64) + (1 : Int64))) (((x0 + (f4 ((0 : Int64) + (1 : Int64)))) + (f4 ((0 : Int64) + (1 : Int64)))) + (f4 ((0 : Int64) + (1 : Int64))))))]))
      refine g_lstore X27 hx #[.val (.long x0), .second, .val (.int x1), .val (.int (v0_s x1)), .val (.ref b1), .val (.long (f4 ((v0_s x1).toInt64))), .second, .val (.long (f5 (f4 ((0 : Int64) + (1 : Int64))) x0)), .second, .val (.long (f5 (f4 ((0 : Int64) + (1 : Int64))) (x0 + (f4 ((0 : Int64) + (1 : Int64)))))), .second, .val (.long (f5 (f4 ((0 : Int64) + (1 : Int64))) ((x0 + (f4 ((0 : Int64) + (1 : Int64)))) + (f4 ((0 : Int64) + (1 : Int64)))))), .second, .val (.long (f5 (f4 ((0 : Int64) + (1 : Int64))) (((x0 + (f4 ((0 : Int64) + (1 : Int64)))) + (f4 ((0 : Int64) + (1 : Int64)))) + (f4 ((0 : Int64) + (1 : Int64)))))), .second] 89 (hb hby at_87) rfl rfl ?_
      show Go p e below s _ _ _ (T27.setTop (mkF m 89 #[.val (.long x0), .second, .val (.int x1), .val (.int (v0_s x1)), .val (.ref b1), .val (.long (f4 ((v0_s x1).toInt64))), .second, .val (.long (f5 (f4 ((0 : Int64) + (1 : Int64))) x0)), .second, .val (.long (f5 (f4 ((0 : Int64) + (1 : Int64))) (x0 + (f4 ((0 : Int64) + (1 : Int64)))))), .second, .val (.long (f5 (f4 ((0 : Int64) + (1 : Int64))) ((x0 + (f4 ((0 : Int64) + (1 : Int64)))) + (f4 ((0 : Int64) + (1 : Int64)))))), .second, .val (.long (f5 (f4 ((0 : Int64) + (1 : Int64))) (((x0 + (f4 ((0 : Int64) + (1 : Int64)))) + (f4 ((0 : Int64) + (1 : Int64)))) + (f4 ((0 : Int64) + (1 : Int64)))))), .second] []))
      refine g_lload X27 hx 91 (hb hby at_89) rfl rfl ?_
      show Go p e below s _ _ _ (T27.setTop (mkF m 91 #[.val (.long x0), .second, .val (.int x1), .val (.int (v0_s x1)), .val (.ref b1), .val (.long (f4 ((v0_s x1).toInt64))), .second, .val (.long (f5 (f4 ((0 : Int64) + (1 : Int64))) x0)), .second, .val (.long (f5 (f4 ((0 : Int64) + (1 : Int64))) (x0 + (f4 ((0 : Int64) + (1 : Int64)))))), .second, .val (.long (f5 (f4 ((0 : Int64) + (1 : Int64))) ((x0 + (f4 ((0 : Int64) + (1 : Int64)))) + (f4 ((0 : Int64) + (1 : Int64)))))), .second, .val (.long (f5 (f4 ((0 : Int64) + (1 : Int64))) (((x0 + (f4 ((0 : Int64) + (1 : Int64)))) + (f4 ((0 : Int64) + (1 : Int64)))) + (f4 ((0 : Int64) + (1 : Int64)))))), .second] [(.long (f5 (f4 ((0 : Int64) + (1 : Int64))) x0))]))
      refine g_callS X27 hx hZ hown (hw _ (List.mem_of_getElem? (i := 36) rfl)) (hw _ (List.mem_of_getElem? (i := 37) rfl)) (hw _ (List.mem_of_getElem? (i := 38) rfl)) (hw _ (List.mem_of_getElem? (i := 39) rfl)) (by decide) rfl (rm6 l Z a0 hw [] (f5 (f4 ((0 : Int64) + (1 : Int64))) x0) T27.heap) [(.long (f5 (f4 ((0 : Int64) + (1 : Int64))) x0))] [] 0 rfl (lenOf pd__28J_29J rfl) rfl (Nat.le_of_eq rfl) (by decide) (by decide) (by decide) (by decide) (by rw [hml]; rfl) (hb hby at_91) ?_
      intro T28 L28 v28 X28 q28
      obtain ⟨rfl, rfl, e28⟩ := q28
      have NS28 := Fr.app NN27 (Fr.nil n0)
      show Go p e below s _ _ _ (T28.setTop (mkF m 94 #[.val (.long x0), .second, .val (.int x1), .val (.int (v0_s x1)), .val (.ref b1), .val (.long (f4 ((v0_s x1).toInt64))), .second, .val (.long (f5 (f4 ((0 : Int64) + (1 : Int64))) x0)), .second, .val (.long (f5 (f4 ((0 : Int64) + (1 : Int64))) (x0 + (f4 ((0 : Int64) + (1 : Int64)))))), .second, .val (.long (f5 (f4 ((0 : Int64) + (1 : Int64))) ((x0 + (f4 ((0 : Int64) + (1 : Int64)))) + (f4 ((0 : Int64) + (1 : Int64)))))), .second, .val (.long (f5 (f4 ((0 : Int64) + (1 : Int64))) (((x0 + (f4 ((0 : Int64) + (1 : Int64)))) + (f4 ((0 : Int64) + (1 : Int64)))) + (f4 ((0 : Int64) + (1 : Int64)))))), .second] [(.long (f6 (f5 (f4 ((0 : Int64) + (1 : Int64))) x0)))]))
      refine g_lloadN X28 hx 95 (hb hby at_94) rfl rfl ?_
      show Go p e below s _ _ _ (T28.setTop (mkF m 95 #[.val (.long x0), .second, .val (.int x1), .val (.int (v0_s x1)), .val (.ref b1), .val (.long (f4 ((v0_s x1).toInt64))), .second, .val (.long (f5 (f4 ((0 : Int64) + (1 : Int64))) x0)), .second, .val (.long (f5 (f4 ((0 : Int64) + (1 : Int64))) (x0 + (f4 ((0 : Int64) + (1 : Int64)))))), .second, .val (.long (f5 (f4 ((0 : Int64) + (1 : Int64))) ((x0 + (f4 ((0 : Int64) + (1 : Int64)))) + (f4 ((0 : Int64) + (1 : Int64)))))), .second, .val (.long (f5 (f4 ((0 : Int64) + (1 : Int64))) (((x0 + (f4 ((0 : Int64) + (1 : Int64)))) + (f4 ((0 : Int64) + (1 : Int64)))) + (f4 ((0 : Int64) + (1 : Int64)))))), .second] [(.long x0), (.long (f6 (f5 (f4 ((0 : Int64) + (1 : Int64))) x0)))]))
      refine g_lload X28 hx 97 (hb hby at_95) rfl rfl ?_
      show Go p e below s _ _ _ (T28.setTop (mkF m 97 #[.val (.long x0), .second, .val (.int x1), .val (.int (v0_s x1)), .val (.ref b1), .val (.long (f4 ((v0_s x1).toInt64))), .second, .val (.long (f5 (f4 ((0 : Int64) + (1 : Int64))) x0)), .second, .val (.long (f5 (f4 ((0 : Int64) + (1 : Int64))) (x0 + (f4 ((0 : Int64) + (1 : Int64)))))), .second, .val (.long (f5 (f4 ((0 : Int64) + (1 : Int64))) ((x0 + (f4 ((0 : Int64) + (1 : Int64)))) + (f4 ((0 : Int64) + (1 : Int64)))))), .second, .val (.long (f5 (f4 ((0 : Int64) + (1 : Int64))) (((x0 + (f4 ((0 : Int64) + (1 : Int64)))) + (f4 ((0 : Int64) + (1 : Int64)))) + (f4 ((0 : Int64) + (1 : Int64)))))), .second] [(.long (f4 ((v0_s x1).toInt64))), (.long x0), (.long (f6 (f5 (f4 ((0 : Int64) + (1 : Int64))) x0)))]))
      refine g_ladd X28 hx 98 (hb hby at_97) rfl ?_
      show Go p e below s _ _ _ (T28.setTop (mkF m 98 #[.val (.long x0), .second, .val (.int x1), .val (.int (v0_s x1)), .val (.ref b1), .val (.long (f4 ((v0_s x1).toInt64))), .second, .val (.long (f5 (f4 ((0 : Int64) + (1 : Int64))) x0)), .second, .val (.long (f5 (f4 ((0 : Int64) + (1 : Int64))) (x0 + (f4 ((0 : Int64) + (1 : Int64)))))), .second, .val (.long (f5 (f4 ((0 : Int64) + (1 : Int64))) ((x0 + (f4 ((0 : Int64) + (1 : Int64)))) + (f4 ((0 : Int64) + (1 : Int64)))))), .second, .val (.long (f5 (f4 ((0 : Int64) + (1 : Int64))) (((x0 + (f4 ((0 : Int64) + (1 : Int64)))) + (f4 ((0 : Int64) + (1 : Int64)))) + (f4 ((0 : Int64) + (1 : Int64)))))), .second] [(.long (x0 + (f4 ((v0_s x1).toInt64)))), (.long (f6 (f5 (f4 ((0 : Int64) + (1 : Int64))) x0)))]))
      refine g_lcmp X28 hx 99 (hb hby at_98) rfl ?_
      show Go p e below s _ _ _ (T28.setTop (mkF m 99 #[.val (.long x0), .second, .val (.int x1), .val (.int (v0_s x1)), .val (.ref b1), .val (.long (f4 ((v0_s x1).toInt64))), .second, .val (.long (f5 (f4 ((0 : Int64) + (1 : Int64))) x0)), .second, .val (.long (f5 (f4 ((0 : Int64) + (1 : Int64))) (x0 + (f4 ((0 : Int64) + (1 : Int64)))))), .second, .val (.long (f5 (f4 ((0 : Int64) + (1 : Int64))) ((x0 + (f4 ((0 : Int64) + (1 : Int64)))) + (f4 ((0 : Int64) + (1 : Int64)))))), .second, .val (.long (f5 (f4 ((0 : Int64) + (1 : Int64))) (((x0 + (f4 ((0 : Int64) + (1 : Int64)))) + (f4 ((0 : Int64) + (1 : Int64)))) + (f4 ((0 : Int64) + (1 : Int64)))))), .second] [(.int (lcmpW (f6 (f5 (f4 ((0 : Int64) + (1 : Int64))) x0)) (x0 + (f4 ((v0_s x1).toInt64)))))]))
      have h29 : (f6 (f5 (f4 ((0 : Int64) + (1 : Int64))) x0)) = (x0 + (f4 ((v0_s x1).toInt64))) := own_u1 x0 _ _ (own_eftt ‹¬ v0_s x1 < (1 : Int32)› ‹v0_s x1 < (2 : Int32)›)
      refine g_lc_ne X28 hx 157 102 (hb hby at_99) (by decide) rfl rfl (fun _ => ?_) (fun q => absurd h29 q)
      show Go p e below s _ _ _ (T28.setTop (mkF m 102 #[.val (.long x0), .second, .val (.int x1), .val (.int (v0_s x1)), .val (.ref b1), .val (.long (f4 ((v0_s x1).toInt64))), .second, .val (.long (f5 (f4 ((0 : Int64) + (1 : Int64))) x0)), .second, .val (.long (f5 (f4 ((0 : Int64) + (1 : Int64))) (x0 + (f4 ((0 : Int64) + (1 : Int64)))))), .second, .val (.long (f5 (f4 ((0 : Int64) + (1 : Int64))) ((x0 + (f4 ((0 : Int64) + (1 : Int64)))) + (f4 ((0 : Int64) + (1 : Int64)))))), .second, .val (.long (f5 (f4 ((0 : Int64) + (1 : Int64))) (((x0 + (f4 ((0 : Int64) + (1 : Int64)))) + (f4 ((0 : Int64) + (1 : Int64)))) + (f4 ((0 : Int64) + (1 : Int64)))))), .second] []))
      refine g_lload X28 hx 104 (hb hby at_102) rfl rfl ?_
      show Go p e below s _ _ _ (T28.setTop (mkF m 104 #[.val (.long x0), .second, .val (.int x1), .val (.int (v0_s x1)), .val (.ref b1), .val (.long (f4 ((v0_s x1).toInt64))), .second, .val (.long (f5 (f4 ((0 : Int64) + (1 : Int64))) x0)), .second, .val (.long (f5 (f4 ((0 : Int64) + (1 : Int64))) (x0 + (f4 ((0 : Int64) + (1 : Int64)))))), .second, .val (.long (f5 (f4 ((0 : Int64) + (1 : Int64))) ((x0 + (f4 ((0 : Int64) + (1 : Int64)))) + (f4 ((0 : Int64) + (1 : Int64)))))), .second, .val (.long (f5 (f4 ((0 : Int64) + (1 : Int64))) (((x0 + (f4 ((0 : Int64) + (1 : Int64)))) + (f4 ((0 : Int64) + (1 : Int64)))) + (f4 ((0 : Int64) + (1 : Int64)))))), .second] [(.long (f5 (f4 ((0 : Int64) + (1 : Int64))) (x0 + (f4 ((0 : Int64) + (1 : Int64))))))]))
      refine g_callS X28 hx hZ hown (hw _ (List.mem_of_getElem? (i := 36) rfl)) (hw _ (List.mem_of_getElem? (i := 37) rfl)) (hw _ (List.mem_of_getElem? (i := 38) rfl)) (hw _ (List.mem_of_getElem? (i := 39) rfl)) (by decide) e28 (rm6 l Z a0 hw [] (f5 (f4 ((0 : Int64) + (1 : Int64))) (x0 + (f4 ((0 : Int64) + (1 : Int64))))) T27.heap) [(.long (f5 (f4 ((0 : Int64) + (1 : Int64))) (x0 + (f4 ((0 : Int64) + (1 : Int64))))))] [] 0 rfl (lenOf pd__28J_29J rfl) rfl (Nat.le_of_eq rfl) (by decide) (by decide) (by decide) (by decide) (by rw [hml]; rfl) (hb hby at_104) ?_
      intro T30 L30 v30 X30 q30
      obtain ⟨rfl, rfl, e30⟩ := q30
      have NS30 := Fr.app NS28 (Fr.nil n0)
      show Go p e below s _ _ _ (T30.setTop (mkF m 107 #[.val (.long x0), .second, .val (.int x1), .val (.int (v0_s x1)), .val (.ref b1), .val (.long (f4 ((v0_s x1).toInt64))), .second, .val (.long (f5 (f4 ((0 : Int64) + (1 : Int64))) x0)), .second, .val (.long (f5 (f4 ((0 : Int64) + (1 : Int64))) (x0 + (f4 ((0 : Int64) + (1 : Int64)))))), .second, .val (.long (f5 (f4 ((0 : Int64) + (1 : Int64))) ((x0 + (f4 ((0 : Int64) + (1 : Int64)))) + (f4 ((0 : Int64) + (1 : Int64)))))), .second, .val (.long (f5 (f4 ((0 : Int64) + (1 : Int64))) (((x0 + (f4 ((0 : Int64) + (1 : Int64)))) + (f4 ((0 : Int64) + (1 : Int64)))) + (f4 ((0 : Int64) + (1 : Int64)))))), .second] [(.long (f6 (f5 (f4 ((0 : Int64) + (1 : Int64))) (x0 + (f4 ((0 : Int64) + (1 : Int64)))))))]))
      refine g_lloadN X30 hx 108 (hb hby at_107) rfl rfl ?_
      show Go p e below s _ _ _ (T30.setTop (mkF m 108 #[.val (.long x0), .second, .val (.int x1), .val (.int (v0_s x1)), .val (.ref b1), .val (.long (f4 ((v0_s x1).toInt64))), .second, .val (.long (f5 (f4 ((0 : Int64) + (1 : Int64))) x0)), .second, .val (.long (f5 (f4 ((0 : Int64) + (1 : Int64))) (x0 + (f4 ((0 : Int64) + (1 : Int64)))))), .second, .val (.long (f5 (f4 ((0 : Int64) + (1 : Int64))) ((x0 + (f4 ((0 : Int64) + (1 : Int64)))) + (f4 ((0 : Int64) + (1 : Int64)))))), .second, .val (.long (f5 (f4 ((0 : Int64) + (1 : Int64))) (((x0 + (f4 ((0 : Int64) + (1 : Int64)))) + (f4 ((0 : Int64) + (1 : Int64)))) + (f4 ((0 : Int64) + (1 : Int64)))))), .second] [(.long x0), (.long (f6 (f5 (f4 ((0 : Int64) + (1 : Int64))) (x0 + (f4 ((0 : Int64) + (1 : Int64)))))))]))
      refine g_ldc2_w X30 hx hZ hown (hw _ (List.mem_of_getElem? (i := 47) rfl)) 111 (hb hby at_108) rfl ?_
      show Go p e below s _ _ _ (T30.setTop (mkF m 111 #[.val (.long x0), .second, .val (.int x1), .val (.int (v0_s x1)), .val (.ref b1), .val (.long (f4 ((v0_s x1).toInt64))), .second, .val (.long (f5 (f4 ((0 : Int64) + (1 : Int64))) x0)), .second, .val (.long (f5 (f4 ((0 : Int64) + (1 : Int64))) (x0 + (f4 ((0 : Int64) + (1 : Int64)))))), .second, .val (.long (f5 (f4 ((0 : Int64) + (1 : Int64))) ((x0 + (f4 ((0 : Int64) + (1 : Int64)))) + (f4 ((0 : Int64) + (1 : Int64)))))), .second, .val (.long (f5 (f4 ((0 : Int64) + (1 : Int64))) (((x0 + (f4 ((0 : Int64) + (1 : Int64)))) + (f4 ((0 : Int64) + (1 : Int64)))) + (f4 ((0 : Int64) + (1 : Int64)))))), .second] [(.long (2 : Int64)), (.long x0), (.long (f6 (f5 (f4 ((0 : Int64) + (1 : Int64))) (x0 + (f4 ((0 : Int64) + (1 : Int64)))))))]))
      refine g_lload X30 hx 113 (hb hby at_111) rfl rfl ?_
      show Go p e below s _ _ _ (T30.setTop (mkF m 113 #[.val (.long x0), .second, .val (.int x1), .val (.int (v0_s x1)), .val (.ref b1), .val (.long (f4 ((v0_s x1).toInt64))), .second, .val (.long (f5 (f4 ((0 : Int64) + (1 : Int64))) x0)), .second, .val (.long (f5 (f4 ((0 : Int64) + (1 : Int64))) (x0 + (f4 ((0 : Int64) + (1 : Int64)))))), .second, .val (.long (f5 (f4 ((0 : Int64) + (1 : Int64))) ((x0 + (f4 ((0 : Int64) + (1 : Int64)))) + (f4 ((0 : Int64) + (1 : Int64)))))), .second, .val (.long (f5 (f4 ((0 : Int64) + (1 : Int64))) (((x0 + (f4 ((0 : Int64) + (1 : Int64)))) + (f4 ((0 : Int64) + (1 : Int64)))) + (f4 ((0 : Int64) + (1 : Int64)))))), .second] [(.long (f4 ((v0_s x1).toInt64))), (.long (2 : Int64)), (.long x0), (.long (f6 (f5 (f4 ((0 : Int64) + (1 : Int64))) (x0 + (f4 ((0 : Int64) + (1 : Int64)))))))]))
      refine g_lmul X30 hx 114 (hb hby at_113) rfl ?_
      show Go p e below s _ _ _ (T30.setTop (mkF m 114 #[.val (.long x0), .second, .val (.int x1), .val (.int (v0_s x1)), .val (.ref b1), .val (.long (f4 ((v0_s x1).toInt64))), .second, .val (.long (f5 (f4 ((0 : Int64) + (1 : Int64))) x0)), .second, .val (.long (f5 (f4 ((0 : Int64) + (1 : Int64))) (x0 + (f4 ((0 : Int64) + (1 : Int64)))))), .second, .val (.long (f5 (f4 ((0 : Int64) + (1 : Int64))) ((x0 + (f4 ((0 : Int64) + (1 : Int64)))) + (f4 ((0 : Int64) + (1 : Int64)))))), .second, .val (.long (f5 (f4 ((0 : Int64) + (1 : Int64))) (((x0 + (f4 ((0 : Int64) + (1 : Int64)))) + (f4 ((0 : Int64) + (1 : Int64)))) + (f4 ((0 : Int64) + (1 : Int64)))))), .second] [(.long ((2 : Int64) * (f4 ((v0_s x1).toInt64)))), (.long x0), (.long (f6 (f5 (f4 ((0 : Int64) + (1 : Int64))) (x0 + (f4 ((0 : Int64) + (1 : Int64)))))))]))
      refine g_ladd X30 hx 115 (hb hby at_114) rfl ?_
      show Go p e below s _ _ _ (T30.setTop (mkF m 115 #[.val (.long x0), .second, .val (.int x1), .val (.int (v0_s x1)), .val (.ref b1), .val (.long (f4 ((v0_s x1).toInt64))), .second, .val (.long (f5 (f4 ((0 : Int64) + (1 : Int64))) x0)), .second, .val (.long (f5 (f4 ((0 : Int64) + (1 : Int64))) (x0 + (f4 ((0 : Int64) + (1 : Int64)))))), .second, .val (.long (f5 (f4 ((0 : Int64) + (1 : Int64))) ((x0 + (f4 ((0 : Int64) + (1 : Int64)))) + (f4 ((0 : Int64) + (1 : Int64)))))), .second, .val (.long (f5 (f4 ((0 : Int64) + (1 : Int64))) (((x0 + (f4 ((0 : Int64) + (1 : Int64)))) + (f4 ((0 : Int64) + (1 : Int64)))) + (f4 ((0 : Int64) + (1 : Int64)))))), .second] [(.long (x0 + ((2 : Int64) * (f4 ((v0_s x1).toInt64))))), (.long (f6 (f5 (f4 ((0 : Int64) + (1 : Int64))) (x0 + (f4 ((0 : Int64) + (1 : Int64)))))))]))
      refine g_lcmp X30 hx 116 (hb hby at_115) rfl ?_
      show Go p e below s _ _ _ (T30.setTop (mkF m 116 #[.val (.long x0), .second, .val (.int x1), .val (.int (v0_s x1)), .val (.ref b1), .val (.long (f4 ((v0_s x1).toInt64))), .second, .val (.long (f5 (f4 ((0 : Int64) + (1 : Int64))) x0)), .second, .val (.long (f5 (f4 ((0 : Int64) + (1 : Int64))) (x0 + (f4 ((0 : Int64) + (1 : Int64)))))), .second, .val (.long (f5 (f4 ((0 : Int64) + (1 : Int64))) ((x0 + (f4 ((0 : Int64) + (1 : Int64)))) + (f4 ((0 : Int64) + (1 : Int64)))))), .second, .val (.long (f5 (f4 ((0 : Int64) + (1 : Int64))) (((x0 + (f4 ((0 : Int64) + (1 : Int64)))) + (f4 ((0 : Int64) + (1 : Int64)))) + (f4 ((0 : Int64) + (1 : Int64)))))), .second] [(.int (lcmpW (f6 (f5 (f4 ((0 : Int64) + (1 : Int64))) (x0 + (f4 ((0 : Int64) + (1 : Int64)))))) (x0 + ((2 : Int64) * (f4 ((v0_s x1).toInt64))))))]))
      have h31 : (f6 (f5 (f4 ((0 : Int64) + (1 : Int64))) (x0 + (f4 ((0 : Int64) + (1 : Int64)))))) = (x0 + ((2 : Int64) * (f4 ((v0_s x1).toInt64)))) := own_u2 x0 _ _ (own_eftt ‹¬ v0_s x1 < (1 : Int32)› ‹v0_s x1 < (2 : Int32)›)
      refine g_lc_ne X30 hx 157 119 (hb hby at_116) (by decide) rfl rfl (fun _ => ?_) (fun q => absurd h31 q)
      show Go p e below s _ _ _ (T30.setTop (mkF m 119 #[.val (.long x0), .second, .val (.int x1), .val (.int (v0_s x1)), .val (.ref b1), .val (.long (f4 ((v0_s x1).toInt64))), .second, .val (.long (f5 (f4 ((0 : Int64) + (1 : Int64))) x0)), .second, .val (.long (f5 (f4 ((0 : Int64) + (1 : Int64))) (x0 + (f4 ((0 : Int64) + (1 : Int64)))))), .second, .val (.long (f5 (f4 ((0 : Int64) + (1 : Int64))) ((x0 + (f4 ((0 : Int64) + (1 : Int64)))) + (f4 ((0 : Int64) + (1 : Int64)))))), .second, .val (.long (f5 (f4 ((0 : Int64) + (1 : Int64))) (((x0 + (f4 ((0 : Int64) + (1 : Int64)))) + (f4 ((0 : Int64) + (1 : Int64)))) + (f4 ((0 : Int64) + (1 : Int64)))))), .second] []))
      refine g_lload X30 hx 121 (hb hby at_119) rfl rfl ?_
      show Go p e below s _ _ _ (T30.setTop (mkF m 121 #[.val (.long x0), .second, .val (.int x1), .val (.int (v0_s x1)), .val (.ref b1), .val (.long (f4 ((v0_s x1).toInt64))), .second, .val (.long (f5 (f4 ((0 : Int64) + (1 : Int64))) x0)), .second, .val (.long (f5 (f4 ((0 : Int64) + (1 : Int64))) (x0 + (f4 ((0 : Int64) + (1 : Int64)))))), .second, .val (.long (f5 (f4 ((0 : Int64) + (1 : Int64))) ((x0 + (f4 ((0 : Int64) + (1 : Int64)))) + (f4 ((0 : Int64) + (1 : Int64)))))), .second, .val (.long (f5 (f4 ((0 : Int64) + (1 : Int64))) (((x0 + (f4 ((0 : Int64) + (1 : Int64)))) + (f4 ((0 : Int64) + (1 : Int64)))) + (f4 ((0 : Int64) + (1 : Int64)))))), .second] [(.long (f5 (f4 ((0 : Int64) + (1 : Int64))) ((x0 + (f4 ((0 : Int64) + (1 : Int64)))) + (f4 ((0 : Int64) + (1 : Int64))))))]))
      refine g_callS X30 hx hZ hown (hw _ (List.mem_of_getElem? (i := 36) rfl)) (hw _ (List.mem_of_getElem? (i := 37) rfl)) (hw _ (List.mem_of_getElem? (i := 38) rfl)) (hw _ (List.mem_of_getElem? (i := 39) rfl)) (by decide) e30 (rm6 l Z a0 hw [] (f5 (f4 ((0 : Int64) + (1 : Int64))) ((x0 + (f4 ((0 : Int64) + (1 : Int64)))) + (f4 ((0 : Int64) + (1 : Int64))))) T27.heap) [(.long (f5 (f4 ((0 : Int64) + (1 : Int64))) ((x0 + (f4 ((0 : Int64) + (1 : Int64)))) + (f4 ((0 : Int64) + (1 : Int64))))))] [] 0 rfl (lenOf pd__28J_29J rfl) rfl (Nat.le_of_eq rfl) (by decide) (by decide) (by decide) (by decide) (by rw [hml]; rfl) (hb hby at_121) ?_
      intro T32 L32 v32 X32 q32
      obtain ⟨rfl, rfl, e32⟩ := q32
      have NS32 := Fr.app NS30 (Fr.nil n0)
      show Go p e below s _ _ _ (T32.setTop (mkF m 124 #[.val (.long x0), .second, .val (.int x1), .val (.int (v0_s x1)), .val (.ref b1), .val (.long (f4 ((v0_s x1).toInt64))), .second, .val (.long (f5 (f4 ((0 : Int64) + (1 : Int64))) x0)), .second, .val (.long (f5 (f4 ((0 : Int64) + (1 : Int64))) (x0 + (f4 ((0 : Int64) + (1 : Int64)))))), .second, .val (.long (f5 (f4 ((0 : Int64) + (1 : Int64))) ((x0 + (f4 ((0 : Int64) + (1 : Int64)))) + (f4 ((0 : Int64) + (1 : Int64)))))), .second, .val (.long (f5 (f4 ((0 : Int64) + (1 : Int64))) (((x0 + (f4 ((0 : Int64) + (1 : Int64)))) + (f4 ((0 : Int64) + (1 : Int64)))) + (f4 ((0 : Int64) + (1 : Int64)))))), .second] [(.long (f6 (f5 (f4 ((0 : Int64) + (1 : Int64))) ((x0 + (f4 ((0 : Int64) + (1 : Int64)))) + (f4 ((0 : Int64) + (1 : Int64)))))))]))
      refine g_lloadN X32 hx 125 (hb hby at_124) rfl rfl ?_
      show Go p e below s _ _ _ (T32.setTop (mkF m 125 #[.val (.long x0), .second, .val (.int x1), .val (.int (v0_s x1)), .val (.ref b1), .val (.long (f4 ((v0_s x1).toInt64))), .second, .val (.long (f5 (f4 ((0 : Int64) + (1 : Int64))) x0)), .second, .val (.long (f5 (f4 ((0 : Int64) + (1 : Int64))) (x0 + (f4 ((0 : Int64) + (1 : Int64)))))), .second, .val (.long (f5 (f4 ((0 : Int64) + (1 : Int64))) ((x0 + (f4 ((0 : Int64) + (1 : Int64)))) + (f4 ((0 : Int64) + (1 : Int64)))))), .second, .val (.long (f5 (f4 ((0 : Int64) + (1 : Int64))) (((x0 + (f4 ((0 : Int64) + (1 : Int64)))) + (f4 ((0 : Int64) + (1 : Int64)))) + (f4 ((0 : Int64) + (1 : Int64)))))), .second] [(.long x0), (.long (f6 (f5 (f4 ((0 : Int64) + (1 : Int64))) ((x0 + (f4 ((0 : Int64) + (1 : Int64)))) + (f4 ((0 : Int64) + (1 : Int64)))))))]))
      refine g_ldc2_w X32 hx hZ hown (hw _ (List.mem_of_getElem? (i := 49) rfl)) 128 (hb hby at_125) rfl ?_
      show Go p e below s _ _ _ (T32.setTop (mkF m 128 #[.val (.long x0), .second, .val (.int x1), .val (.int (v0_s x1)), .val (.ref b1), .val (.long (f4 ((v0_s x1).toInt64))), .second, .val (.long (f5 (f4 ((0 : Int64) + (1 : Int64))) x0)), .second, .val (.long (f5 (f4 ((0 : Int64) + (1 : Int64))) (x0 + (f4 ((0 : Int64) + (1 : Int64)))))), .second, .val (.long (f5 (f4 ((0 : Int64) + (1 : Int64))) ((x0 + (f4 ((0 : Int64) + (1 : Int64)))) + (f4 ((0 : Int64) + (1 : Int64)))))), .second, .val (.long (f5 (f4 ((0 : Int64) + (1 : Int64))) (((x0 + (f4 ((0 : Int64) + (1 : Int64)))) + (f4 ((0 : Int64) + (1 : Int64)))) + (f4 ((0 : Int64) + (1 : Int64)))))), .second] [(.long (3 : Int64)), (.long x0), (.long (f6 (f5 (f4 ((0 : Int64) + (1 : Int64))) ((x0 + (f4 ((0 : Int64) + (1 : Int64)))) + (f4 ((0 : Int64) + (1 : Int64)))))))]))
      refine g_lload X32 hx 130 (hb hby at_128) rfl rfl ?_
      show Go p e below s _ _ _ (T32.setTop (mkF m 130 #[.val (.long x0), .second, .val (.int x1), .val (.int (v0_s x1)), .val (.ref b1), .val (.long (f4 ((v0_s x1).toInt64))), .second, .val (.long (f5 (f4 ((0 : Int64) + (1 : Int64))) x0)), .second, .val (.long (f5 (f4 ((0 : Int64) + (1 : Int64))) (x0 + (f4 ((0 : Int64) + (1 : Int64)))))), .second, .val (.long (f5 (f4 ((0 : Int64) + (1 : Int64))) ((x0 + (f4 ((0 : Int64) + (1 : Int64)))) + (f4 ((0 : Int64) + (1 : Int64)))))), .second, .val (.long (f5 (f4 ((0 : Int64) + (1 : Int64))) (((x0 + (f4 ((0 : Int64) + (1 : Int64)))) + (f4 ((0 : Int64) + (1 : Int64)))) + (f4 ((0 : Int64) + (1 : Int64)))))), .second] [(.long (f4 ((v0_s x1).toInt64))), (.long (3 : Int64)), (.long x0), (.long (f6 (f5 (f4 ((0 : Int64) + (1 : Int64))) ((x0 + (f4 ((0 : Int64) + (1 : Int64)))) + (f4 ((0 : Int64) + (1 : Int64)))))))]))
      refine g_lmul X32 hx 131 (hb hby at_130) rfl ?_
      show Go p e below s _ _ _ (T32.setTop (mkF m 131 #[.val (.long x0), .second, .val (.int x1), .val (.int (v0_s x1)), .val (.ref b1), .val (.long (f4 ((v0_s x1).toInt64))), .second, .val (.long (f5 (f4 ((0 : Int64) + (1 : Int64))) x0)), .second, .val (.long (f5 (f4 ((0 : Int64) + (1 : Int64))) (x0 + (f4 ((0 : Int64) + (1 : Int64)))))), .second, .val (.long (f5 (f4 ((0 : Int64) + (1 : Int64))) ((x0 + (f4 ((0 : Int64) + (1 : Int64)))) + (f4 ((0 : Int64) + (1 : Int64)))))), .second, .val (.long (f5 (f4 ((0 : Int64) + (1 : Int64))) (((x0 + (f4 ((0 : Int64) + (1 : Int64)))) + (f4 ((0 : Int64) + (1 : Int64)))) + (f4 ((0 : Int64) + (1 : Int64)))))), .second] [(.long ((3 : Int64) * (f4 ((v0_s x1).toInt64)))), (.long x0), (.long (f6 (f5 (f4 ((0 : Int64) + (1 : Int64))) ((x0 + (f4 ((0 : Int64) + (1 : Int64)))) + (f4 ((0 : Int64) + (1 : Int64)))))))]))
      refine g_ladd X32 hx 132 (hb hby at_131) rfl ?_
      show Go p e below s _ _ _ (T32.setTop (mkF m 132 #[.val (.long x0), .second, .val (.int x1), .val (.int (v0_s x1)), .val (.ref b1), .val (.long (f4 ((v0_s x1).toInt64))), .second, .val (.long (f5 (f4 ((0 : Int64) + (1 : Int64))) x0)), .second, .val (.long (f5 (f4 ((0 : Int64) + (1 : Int64))) (x0 + (f4 ((0 : Int64) + (1 : Int64)))))), .second, .val (.long (f5 (f4 ((0 : Int64) + (1 : Int64))) ((x0 + (f4 ((0 : Int64) + (1 : Int64)))) + (f4 ((0 : Int64) + (1 : Int64)))))), .second, .val (.long (f5 (f4 ((0 : Int64) + (1 : Int64))) (((x0 + (f4 ((0 : Int64) + (1 : Int64)))) + (f4 ((0 : Int64) + (1 : Int64)))) + (f4 ((0 : Int64) + (1 : Int64)))))), .second] [(.long (x0 + ((3 : Int64) * (f4 ((v0_s x1).toInt64))))), (.long (f6 (f5 (f4 ((0 : Int64) + (1 : Int64))) ((x0 + (f4 ((0 : Int64) + (1 : Int64)))) + (f4 ((0 : Int64) + (1 : Int64)))))))]))
      refine g_lcmp X32 hx 133 (hb hby at_132) rfl ?_
      show Go p e below s _ _ _ (T32.setTop (mkF m 133 #[.val (.long x0), .second, .val (.int x1), .val (.int (v0_s x1)), .val (.ref b1), .val (.long (f4 ((v0_s x1).toInt64))), .second, .val (.long (f5 (f4 ((0 : Int64) + (1 : Int64))) x0)), .second, .val (.long (f5 (f4 ((0 : Int64) + (1 : Int64))) (x0 + (f4 ((0 : Int64) + (1 : Int64)))))), .second, .val (.long (f5 (f4 ((0 : Int64) + (1 : Int64))) ((x0 + (f4 ((0 : Int64) + (1 : Int64)))) + (f4 ((0 : Int64) + (1 : Int64)))))), .second, .val (.long (f5 (f4 ((0 : Int64) + (1 : Int64))) (((x0 + (f4 ((0 : Int64) + (1 : Int64)))) + (f4 ((0 : Int64) + (1 : Int64)))) + (f4 ((0 : Int64) + (1 : Int64)))))), .second] [(.int (lcmpW (f6 (f5 (f4 ((0 : Int64) + (1 : Int64))) ((x0 + (f4 ((0 : Int64) + (1 : Int64)))) + (f4 ((0 : Int64) + (1 : Int64)))))) (x0 + ((3 : Int64) * (f4 ((v0_s x1).toInt64))))))]))
      have h33 : (f6 (f5 (f4 ((0 : Int64) + (1 : Int64))) ((x0 + (f4 ((0 : Int64) + (1 : Int64)))) + (f4 ((0 : Int64) + (1 : Int64)))))) = (x0 + ((3 : Int64) * (f4 ((v0_s x1).toInt64)))) := own_u3 x0 _ _ (own_eftt ‹¬ v0_s x1 < (1 : Int32)› ‹v0_s x1 < (2 : Int32)›)
      refine g_lc_ne X32 hx 157 136 (hb hby at_133) (by decide) rfl rfl (fun _ => ?_) (fun q => absurd h33 q)
      show Go p e below s _ _ _ (T32.setTop (mkF m 136 #[.val (.long x0), .second, .val (.int x1), .val (.int (v0_s x1)), .val (.ref b1), .val (.long (f4 ((v0_s x1).toInt64))), .second, .val (.long (f5 (f4 ((0 : Int64) + (1 : Int64))) x0)), .second, .val (.long (f5 (f4 ((0 : Int64) + (1 : Int64))) (x0 + (f4 ((0 : Int64) + (1 : Int64)))))), .second, .val (.long (f5 (f4 ((0 : Int64) + (1 : Int64))) ((x0 + (f4 ((0 : Int64) + (1 : Int64)))) + (f4 ((0 : Int64) + (1 : Int64)))))), .second, .val (.long (f5 (f4 ((0 : Int64) + (1 : Int64))) (((x0 + (f4 ((0 : Int64) + (1 : Int64)))) + (f4 ((0 : Int64) + (1 : Int64)))) + (f4 ((0 : Int64) + (1 : Int64)))))), .second] []))
      refine g_lload X32 hx 138 (hb hby at_136) rfl rfl ?_
      show Go p e below s _ _ _ (T32.setTop (mkF m 138 #[.val (.long x0), .second, .val (.int x1), .val (.int (v0_s x1)), .val (.ref b1), .val (.long (f4 ((v0_s x1).toInt64))), .second, .val (.long (f5 (f4 ((0 : Int64) + (1 : Int64))) x0)), .second, .val (.long (f5 (f4 ((0 : Int64) + (1 : Int64))) (x0 + (f4 ((0 : Int64) + (1 : Int64)))))), .second, .val (.long (f5 (f4 ((0 : Int64) + (1 : Int64))) ((x0 + (f4 ((0 : Int64) + (1 : Int64)))) + (f4 ((0 : Int64) + (1 : Int64)))))), .second, .val (.long (f5 (f4 ((0 : Int64) + (1 : Int64))) (((x0 + (f4 ((0 : Int64) + (1 : Int64)))) + (f4 ((0 : Int64) + (1 : Int64)))) + (f4 ((0 : Int64) + (1 : Int64)))))), .second] [(.long (f5 (f4 ((0 : Int64) + (1 : Int64))) (((x0 + (f4 ((0 : Int64) + (1 : Int64)))) + (f4 ((0 : Int64) + (1 : Int64)))) + (f4 ((0 : Int64) + (1 : Int64))))))]))
      refine g_callS X32 hx hZ hown (hw _ (List.mem_of_getElem? (i := 36) rfl)) (hw _ (List.mem_of_getElem? (i := 37) rfl)) (hw _ (List.mem_of_getElem? (i := 38) rfl)) (hw _ (List.mem_of_getElem? (i := 39) rfl)) (by decide) e32 (rm6 l Z a0 hw [] (f5 (f4 ((0 : Int64) + (1 : Int64))) (((x0 + (f4 ((0 : Int64) + (1 : Int64)))) + (f4 ((0 : Int64) + (1 : Int64)))) + (f4 ((0 : Int64) + (1 : Int64))))) T27.heap) [(.long (f5 (f4 ((0 : Int64) + (1 : Int64))) (((x0 + (f4 ((0 : Int64) + (1 : Int64)))) + (f4 ((0 : Int64) + (1 : Int64)))) + (f4 ((0 : Int64) + (1 : Int64))))))] [] 0 rfl (lenOf pd__28J_29J rfl) rfl (Nat.le_of_eq rfl) (by decide) (by decide) (by decide) (by decide) (by rw [hml]; rfl) (hb hby at_138) ?_
      intro T34 L34 v34 X34 q34
      obtain ⟨rfl, rfl, e34⟩ := q34
      have NS34 := Fr.app NS32 (Fr.nil n0)
      show Go p e below s _ _ _ (T34.setTop (mkF m 141 #[.val (.long x0), .second, .val (.int x1), .val (.int (v0_s x1)), .val (.ref b1), .val (.long (f4 ((v0_s x1).toInt64))), .second, .val (.long (f5 (f4 ((0 : Int64) + (1 : Int64))) x0)), .second, .val (.long (f5 (f4 ((0 : Int64) + (1 : Int64))) (x0 + (f4 ((0 : Int64) + (1 : Int64)))))), .second, .val (.long (f5 (f4 ((0 : Int64) + (1 : Int64))) ((x0 + (f4 ((0 : Int64) + (1 : Int64)))) + (f4 ((0 : Int64) + (1 : Int64)))))), .second, .val (.long (f5 (f4 ((0 : Int64) + (1 : Int64))) (((x0 + (f4 ((0 : Int64) + (1 : Int64)))) + (f4 ((0 : Int64) + (1 : Int64)))) + (f4 ((0 : Int64) + (1 : Int64)))))), .second] [(.long (f6 (f5 (f4 ((0 : Int64) + (1 : Int64))) (((x0 + (f4 ((0 : Int64) + (1 : Int64)))) + (f4 ((0 : Int64) + (1 : Int64)))) + (f4 ((0 : Int64) + (1 : Int64)))))))]))
      refine g_lloadN X34 hx 142 (hb hby at_141) rfl rfl ?_
      show Go p e below s _ _ _ (T34.setTop (mkF m 142 #[.val (.long x0), .second, .val (.int x1), .val (.int (v0_s x1)), .val (.ref b1), .val (.long (f4 ((v0_s x1).toInt64))), .second, .val (.long (f5 (f4 ((0 : Int64) + (1 : Int64))) x0)), .second, .val (.long (f5 (f4 ((0 : Int64) + (1 : Int64))) (x0 + (f4 ((0 : Int64) + (1 : Int64)))))), .second, .val (.long (f5 (f4 ((0 : Int64) + (1 : Int64))) ((x0 + (f4 ((0 : Int64) + (1 : Int64)))) + (f4 ((0 : Int64) + (1 : Int64)))))), .second, .val (.long (f5 (f4 ((0 : Int64) + (1 : Int64))) (((x0 + (f4 ((0 : Int64) + (1 : Int64)))) + (f4 ((0 : Int64) + (1 : Int64)))) + (f4 ((0 : Int64) + (1 : Int64)))))), .second] [(.long x0), (.long (f6 (f5 (f4 ((0 : Int64) + (1 : Int64))) (((x0 + (f4 ((0 : Int64) + (1 : Int64)))) + (f4 ((0 : Int64) + (1 : Int64)))) + (f4 ((0 : Int64) + (1 : Int64)))))))]))
      refine g_ldc2_w X34 hx hZ hown (hw _ (List.mem_of_getElem? (i := 50) rfl)) 145 (hb hby at_142) rfl ?_
      show Go p e below s _ _ _ (T34.setTop (mkF m 145 #[.val (.long x0), .second, .val (.int x1), .val (.int (v0_s x1)), .val (.ref b1), .val (.long (f4 ((v0_s x1).toInt64))), .second, .val (.long (f5 (f4 ((0 : Int64) + (1 : Int64))) x0)), .second, .val (.long (f5 (f4 ((0 : Int64) + (1 : Int64))) (x0 + (f4 ((0 : Int64) + (1 : Int64)))))), .second, .val (.long (f5 (f4 ((0 : Int64) + (1 : Int64))) ((x0 + (f4 ((0 : Int64) + (1 : Int64)))) + (f4 ((0 : Int64) + (1 : Int64)))))), .second, .val (.long (f5 (f4 ((0 : Int64) + (1 : Int64))) (((x0 + (f4 ((0 : Int64) + (1 : Int64)))) + (f4 ((0 : Int64) + (1 : Int64)))) + (f4 ((0 : Int64) + (1 : Int64)))))), .second] [(.long (4 : Int64)), (.long x0), (.long (f6 (f5 (f4 ((0 : Int64) + (1 : Int64))) (((x0 + (f4 ((0 : Int64) + (1 : Int64)))) + (f4 ((0 : Int64) + (1 : Int64)))) + (f4 ((0 : Int64) + (1 : Int64)))))))]))
      refine g_lload X34 hx 147 (hb hby at_145) rfl rfl ?_
      show Go p e below s _ _ _ (T34.setTop (mkF m 147 #[.val (.long x0), .second, .val (.int x1), .val (.int (v0_s x1)), .val (.ref b1), .val (.long (f4 ((v0_s x1).toInt64))), .second, .val (.long (f5 (f4 ((0 : Int64) + (1 : Int64))) x0)), .second, .val (.long (f5 (f4 ((0 : Int64) + (1 : Int64))) (x0 + (f4 ((0 : Int64) + (1 : Int64)))))), .second, .val (.long (f5 (f4 ((0 : Int64) + (1 : Int64))) ((x0 + (f4 ((0 : Int64) + (1 : Int64)))) + (f4 ((0 : Int64) + (1 : Int64)))))), .second, .val (.long (f5 (f4 ((0 : Int64) + (1 : Int64))) (((x0 + (f4 ((0 : Int64) + (1 : Int64)))) + (f4 ((0 : Int64) + (1 : Int64)))) + (f4 ((0 : Int64) + (1 : Int64)))))), .second] [(.long (f4 ((v0_s x1).toInt64))), (.long (4 : Int64)), (.long x0), (.long (f6 (f5 (f4 ((0 : Int64) + (1 : Int64))) (((x0 + (f4 ((0 : Int64) + (1 : Int64)))) + (f4 ((0 : Int64) + (1 : Int64)))) + (f4 ((0 : Int64) + (1 : Int64)))))))]))
      refine g_lmul X34 hx 148 (hb hby at_147) rfl ?_
      show Go p e below s _ _ _ (T34.setTop (mkF m 148 #[.val (.long x0), .second, .val (.int x1), .val (.int (v0_s x1)), .val (.ref b1), .val (.long (f4 ((v0_s x1).toInt64))), .second, .val (.long (f5 (f4 ((0 : Int64) + (1 : Int64))) x0)), .second, .val (.long (f5 (f4 ((0 : Int64) + (1 : Int64))) (x0 + (f4 ((0 : Int64) + (1 : Int64)))))), .second, .val (.long (f5 (f4 ((0 : Int64) + (1 : Int64))) ((x0 + (f4 ((0 : Int64) + (1 : Int64)))) + (f4 ((0 : Int64) + (1 : Int64)))))), .second, .val (.long (f5 (f4 ((0 : Int64) + (1 : Int64))) (((x0 + (f4 ((0 : Int64) + (1 : Int64)))) + (f4 ((0 : Int64) + (1 : Int64)))) + (f4 ((0 : Int64) + (1 : Int64)))))), .second] [(.long ((4 : Int64) * (f4 ((v0_s x1).toInt64)))), (.long x0), (.long (f6 (f5 (f4 ((0 : Int64) + (1 : Int64))) (((x0 + (f4 ((0 : Int64) + (1 : Int64)))) + (f4 ((0 : Int64) + (1 : Int64)))) + (f4 ((0 : Int64) + (1 : Int64)))))))]))
      refine g_ladd X34 hx 149 (hb hby at_148) rfl ?_
      show Go p e below s _ _ _ (T34.setTop (mkF m 149 #[.val (.long x0), .second, .val (.int x1), .val (.int (v0_s x1)), .val (.ref b1), .val (.long (f4 ((v0_s x1).toInt64))), .second, .val (.long (f5 (f4 ((0 : Int64) + (1 : Int64))) x0)), .second, .val (.long (f5 (f4 ((0 : Int64) + (1 : Int64))) (x0 + (f4 ((0 : Int64) + (1 : Int64)))))), .second, .val (.long (f5 (f4 ((0 : Int64) + (1 : Int64))) ((x0 + (f4 ((0 : Int64) + (1 : Int64)))) + (f4 ((0 : Int64) + (1 : Int64)))))), .second, .val (.long (f5 (f4 ((0 : Int64) + (1 : Int64))) (((x0 + (f4 ((0 : Int64) + (1 : Int64)))) + (f4 ((0 : Int64) + (1 : Int64)))) + (f4 ((0 : Int64) + (1 : Int64)))))), .second] [(.long (x0 + ((4 : Int64) * (f4 ((v0_s x1).toInt64))))), (.long (f6 (f5 (f4 ((0 : Int64) + (1 : Int64))) (((x0 + (f4 ((0 : Int64) + (1 : Int64)))) + (f4 ((0 : Int64) + (1 : Int64)))) + (f4 ((0 : Int64) + (1 : Int64)))))))]))
      refine g_lcmp X34 hx 150 (hb hby at_149) rfl ?_
      show Go p e below s _ _ _ (T34.setTop (mkF m 150 #[.val (.long x0), .second, .val (.int x1), .val (.int (v0_s x1)), .val (.ref b1), .val (.long (f4 ((v0_s x1).toInt64))), .second, .val (.long (f5 (f4 ((0 : Int64) + (1 : Int64))) x0)), .second, .val (.long (f5 (f4 ((0 : Int64) + (1 : Int64))) (x0 + (f4 ((0 : Int64) + (1 : Int64)))))), .second, .val (.long (f5 (f4 ((0 : Int64) + (1 : Int64))) ((x0 + (f4 ((0 : Int64) + (1 : Int64)))) + (f4 ((0 : Int64) + (1 : Int64)))))), .second, .val (.long (f5 (f4 ((0 : Int64) + (1 : Int64))) (((x0 + (f4 ((0 : Int64) + (1 : Int64)))) + (f4 ((0 : Int64) + (1 : Int64)))) + (f4 ((0 : Int64) + (1 : Int64)))))), .second] [(.int (lcmpW (f6 (f5 (f4 ((0 : Int64) + (1 : Int64))) (((x0 + (f4 ((0 : Int64) + (1 : Int64)))) + (f4 ((0 : Int64) + (1 : Int64)))) + (f4 ((0 : Int64) + (1 : Int64)))))) (x0 + ((4 : Int64) * (f4 ((v0_s x1).toInt64))))))]))
      have h35 : (f6 (f5 (f4 ((0 : Int64) + (1 : Int64))) (((x0 + (f4 ((0 : Int64) + (1 : Int64)))) + (f4 ((0 : Int64) + (1 : Int64)))) + (f4 ((0 : Int64) + (1 : Int64)))))) = (x0 + ((4 : Int64) * (f4 ((v0_s x1).toInt64)))) := own_u4 x0 _ _ (own_eftt ‹¬ v0_s x1 < (1 : Int32)› ‹v0_s x1 < (2 : Int32)›)
      refine g_lc_ne X34 hx 157 153 (hb hby at_150) (by decide) rfl rfl (fun _ => ?_) (fun q => absurd h35 q)
      show Go p e below s _ _ _ (T34.setTop (mkF m 153 #[.val (.long x0), .second, .val (.int x1), .val (.int (v0_s x1)), .val (.ref b1), .val (.long (f4 ((v0_s x1).toInt64))), .second, .val (.long (f5 (f4 ((0 : Int64) + (1 : Int64))) x0)), .second, .val (.long (f5 (f4 ((0 : Int64) + (1 : Int64))) (x0 + (f4 ((0 : Int64) + (1 : Int64)))))), .second, .val (.long (f5 (f4 ((0 : Int64) + (1 : Int64))) ((x0 + (f4 ((0 : Int64) + (1 : Int64)))) + (f4 ((0 : Int64) + (1 : Int64)))))), .second, .val (.long (f5 (f4 ((0 : Int64) + (1 : Int64))) (((x0 + (f4 ((0 : Int64) + (1 : Int64)))) + (f4 ((0 : Int64) + (1 : Int64)))) + (f4 ((0 : Int64) + (1 : Int64)))))), .second] []))
      refine g_iconst X34 hx (1 : Int32) 154 (hb hby at_153) rfl rfl ?_
      show Go p e below s _ _ _ (T34.setTop (mkF m 154 #[.val (.long x0), .second, .val (.int x1), .val (.int (v0_s x1)), .val (.ref b1), .val (.long (f4 ((v0_s x1).toInt64))), .second, .val (.long (f5 (f4 ((0 : Int64) + (1 : Int64))) x0)), .second, .val (.long (f5 (f4 ((0 : Int64) + (1 : Int64))) (x0 + (f4 ((0 : Int64) + (1 : Int64)))))), .second, .val (.long (f5 (f4 ((0 : Int64) + (1 : Int64))) ((x0 + (f4 ((0 : Int64) + (1 : Int64)))) + (f4 ((0 : Int64) + (1 : Int64)))))), .second, .val (.long (f5 (f4 ((0 : Int64) + (1 : Int64))) (((x0 + (f4 ((0 : Int64) + (1 : Int64)))) + (f4 ((0 : Int64) + (1 : Int64)))) + (f4 ((0 : Int64) + (1 : Int64)))))), .second] [(.int (1 : Int32))]))
      refine g_goto X34 hx 158 (hb hby at_154) (by decide) rfl ?_
      show Go p e below s _ _ _ (T34.setTop (mkF m 158 #[.val (.long x0), .second, .val (.int x1), .val (.int (v0_s x1)), .val (.ref b1), .val (.long (f4 ((v0_s x1).toInt64))), .second, .val (.long (f5 (f4 ((0 : Int64) + (1 : Int64))) x0)), .second, .val (.long (f5 (f4 ((0 : Int64) + (1 : Int64))) (x0 + (f4 ((0 : Int64) + (1 : Int64)))))), .second, .val (.long (f5 (f4 ((0 : Int64) + (1 : Int64))) ((x0 + (f4 ((0 : Int64) + (1 : Int64)))) + (f4 ((0 : Int64) + (1 : Int64)))))), .second, .val (.long (f5 (f4 ((0 : Int64) + (1 : Int64))) (((x0 + (f4 ((0 : Int64) + (1 : Int64)))) + (f4 ((0 : Int64) + (1 : Int64)))) + (f4 ((0 : Int64) + (1 : Int64)))))), .second] [(.int (1 : Int32))]))
      exact g_retN X34 hx hret (by simp) hlk (hb hby at_158) (by decide) (by decide) ⟨rfl, NS34⟩
    · show Go p e below s _ _ _ (T19.setTop (mkF m 29 #[.val (.long x0), .second, .val (.int x1), .val (.int (v0_s x1)), .val (.ref b1), .unset, .unset, .unset, .unset, .unset, .unset, .unset, .unset, .unset, .unset] []))
      refine g_aload X19 hx 31 (hb hby at_29) rfl rfl rfl ?_
      show Go p e below s _ _ _ (T19.setTop (mkF m 31 #[.val (.long x0), .second, .val (.int x1), .val (.int (v0_s x1)), .val (.ref b1), .unset, .unset, .unset, .unset, .unset, .unset, .unset, .unset, .unset, .unset] [(.ref b1)]))
      refine g_callV X19 hx hZ hown (hw _ (List.mem_of_getElem? (i := 16) rfl)) (hw _ (List.mem_of_getElem? (i := 17) rfl)) (hw _ (List.mem_of_getElem? (i := 19) rfl)) (hw _ (List.mem_of_getElem? (i := 18) rfl)) (hw _ (List.mem_of_getElem? (i := 2) rfl)) (hw _ (List.mem_of_getElem? (i := 20) rfl)) (by decide) rfl b1 k19_1 (rm3 l Z a0 hw [] b1 x0 ((0 : Int64) + (1 : Int64)) (f4 ((0 : Int64) + (1 : Int64))) x0 T19.heap n0 Z19 k19_1 p19_0 p19_1 p19_2 p19_3 N_b1) [] [] 0 rfl (lenOf pd__28_29V rfl) rfl (Nat.le_of_eq rfl) (by decide) (by decide) (by decide) (by decide) (by rw [hml]; rfl) (hb hby at_31) ?_
      intro T36 L36 v36 X36 q36
      obtain ⟨rfl, N36, K36, p36_0, p36_1, p36_2, p36_3⟩ := q36
      have NN36 := Fr.app NN19 N36
      have k36_1 := k19_1.keep K36
      have Z36 : n0 ≤ T36.heap.size := Nat.le_trans Z19 K36.1
      show Go p e below s _ _ _ (T36.setTop (mkF m 34 #[.val (.long x0), .second, .val (.int x1), .val (.int (v0_s x1)), .val (.ref b1), .unset, .unset, .unset, .unset, .unset, .unset, .unset, .unset, .unset, .unset] []))
      refine g_iloadN X36 hx 35 (hb hby at_34) rfl rfl ?_
      show Go p e below s _ _ _ (T36.setTop (mkF m 35 #[.val (.long x0), .second, .val (.int x1), .val (.int (v0_s x1)), .val (.ref b1), .unset, .unset, .unset, .unset, .unset, .unset, .unset, .unset, .unset, .unset] [(.int (v0_s x1))]))
      refine g_iconst X36 hx (3 : Int32) 36 (hb hby at_35) rfl rfl ?_
      show Go p e below s _ _ _ (T36.setTop (mkF m 36 #[.val (.long x0), .second, .val (.int x1), .val (.int (v0_s x1)), .val (.ref b1), .unset, .unset, .unset, .unset, .unset, .unset, .unset, .unset, .unset, .unset] [(.int (3 : Int32)), (.int (v0_s x1))]))
      refine g_icmp_lt X36 hx 44 39 (hb hby at_36) (by decide) rfl rfl (fun h37 => ?_) (fun h37 => ?_)
      · show Go p e below s _ _ _ (T36.setTop (mkF m 44 #[.val (.long x0), .second, .val (.int x1), .val (.int (v0_s x1)), .val (.ref b1), .unset, .unset, .unset, .unset, .unset, .unset, .unset, .unset, .unset, .unset] []))
        refine g_iloadN X36 hx 45 (hb hby at_44) rfl rfl ?_
        show Go p e below s _ _ _ (T36.setTop (mkF m 45 #[.val (.long x0), .second, .val (.int x1), .val (.int (v0_s x1)), .val (.ref b1), .unset, .unset, .unset, .unset, .unset, .unset, .unset, .unset, .unset, .unset] [(.int (v0_s x1))]))
        have h38 : ¬ ((v0_s x1) = (0 : Int32)) := by rw [own_s2 ‹¬ v0_s x1 < (2 : Int32)› ‹v0_s x1 < (3 : Int32)›]; decide
        refine g_if0_ne X36 hx 54 48 (hb hby at_45) (by decide) rfl rfl (fun q => absurd q h38) (fun _ => ?_)
        show Go p e below s _ _ _ (T36.setTop (mkF m 54 #[.val (.long x0), .second, .val (.int x1), .val (.int (v0_s x1)), .val (.ref b1), .unset, .unset, .unset, .unset, .unset, .unset, .unset, .unset, .unset, .unset] []))
        refine g_iloadN X36 hx 55 (hb hby at_54) rfl rfl ?_
        show Go p e below s _ _ _ (T36.setTop (mkF m 55 #[.val (.long x0), .second, .val (.int x1), .val (.int (v0_s x1)), .val (.ref b1), .unset, .unset, .unset, .unset, .unset, .unset, .unset, .unset, .unset, .unset] [(.int (v0_s x1))]))
        refine g_i2l X36 hx 56 (hb hby at_55) rfl ?_
        show Go p e below s _ _ _ (T36.setTop (mkF m 56 #[.val (.long x0), .second, .val (.int x1), .val (.int (v0_s x1)), .val (.ref b1), .unset, .unset, .unset, .unset, .unset, .unset, .unset, .unset, .unset, .unset] [(.long ((v0_s x1).toInt64))]))
        refine g_callS X36 hx hZ hown (hw _ (List.mem_of_getElem? (i := 30) rfl)) (hw _ (List.mem_of_getElem? (i := 24) rfl)) (hw _ (List.mem_of_getElem? (i := 2) rfl)) (hw _ (List.mem_of_getElem? (i := 25) rfl)) (by decide) rfl (rm4 l Z a0 hw [] ((v0_s x1).toInt64) T36.heap) [(.long ((v0_s x1).toInt64))] [] 0 rfl (lenOf pd__28J_29J rfl) rfl (Nat.le_of_eq rfl) (by decide) (by decide) (by decide) (by decide) (by rw [hml]; rfl) (hb hby at_56) ?_
        intro T39 L39 v39 X39 q39
        obtain ⟨rfl, rfl, e39⟩ := q39
        have NS39 := Fr.app NN36 (Fr.nil n0)
        show Go p e below s _ _ _ (T39.setTop (mkF m 59 #[.val (.long x0), .second, .val (.int x1), .val (.int (v0_s x1)), .val (.ref b1), .unset, .unset, .unset, .unset, .unset, .unset, .unset, .unset, .unset, .unset] [(.long (f4 ((v0_s x1).toInt64)))]))
        refine g_lstore X39 hx #[.val (.long x0), .second, .val (.int x1), .val (.int (v0_s x1)), .val (.ref b1), .val (.long (f4 ((v0_s x1).toInt64))), .second, .unset, .unset, .unset, .unset, .unset, .unset, .unset, .unset] 61 (hb hby at_59) rfl rfl ?_
        show Go p e below s _ _ _ (T39.setTop (mkF m 61 #[.val (.long x0), .second, .val (.int x1), .val (.int (v0_s x1)), .val (.ref b1), .val (.long (f4 ((v0_s x1).toInt64))), .second, .unset, .unset, .unset, .unset, .unset, .unset, .unset, .unset] []))
        refine g_aload X39 hx 63 (hb hby at_61) rfl rfl rfl ?_
        show Go p e below s _ _ _ (T39.setTop (mkF m 63 #[.val (.long x0), .second, .val (.int x1), .val (.int (v0_s x1)), .val (.ref b1), .val (.long (f4 ((v0_s x1).toInt64))), .second, .unset, .unset, .unset, .unset, .unset, .unset, .unset, .unset] [(.ref b1)]))
        refine g_callV X39 hx hZ hown (hw _ (List.mem_of_getElem? (i := 31) rfl)) (hw _ (List.mem_of_getElem? (i := 32) rfl)) (hw _ (List.mem_of_getElem? (i := 34) rfl)) (hw _ (List.mem_of_getElem? (i := 33) rfl)) (hw _ (List.mem_of_getElem? (i := 2) rfl)) (hw _ (List.mem_of_getElem? (i := 35) rfl)) (by decide) e39 b1 k36_1 (rm5 l Z a0 hw [] b1 (f4 (((0 : Int64) + (1 : Int64)) + (1 : Int64))) x0 T36.heap n0 Z36 k36_1 p36_2 p36_3 N_b1) [] [] 0 rfl (lenOf pd__28_29J rfl) rfl (Nat.le_of_eq rfl) (by decide) (by decide) (by decide) (by decide) (by rw [hml]; rfl) (hb hby at_63) ?_
        intro T40 L40 v40 X40 q40
        obtain ⟨rfl, N40, K40, p40_0, p40_1⟩ := q40
        have NN40 := Fr.app NS39 N40
        have k40_1 := k36_1.keep K40
        have Z40 : n0 ≤ T40.heap.size := Nat.le_trans Z36 K40.1
        show Go p e below s _ _ _ (T40.setTop (mkF m 66 #[.val (.long x0), .second, .val (.int x1), .val (.int (v0_s x1)), .val (.ref b1), .val (.long (f4 ((v0_s x1).toInt64))), .second, .unset, .unset, .unset, .unset, .unset, .unset, .unset, .unset] [(.long (f5 (f4 (((0 : Int64) + (1 : Int64)) + (1 : Int64))) x0))]))
        refine g_lstore X40 hx #[.val (.long x0), .second, .val (.int x1), .val (.int (v0_s x1)), .val (.ref b1), .val (.long (f4 ((v0_s x1).toInt64))), .second, .val (.long (f5 (f4 (((0 : Int64) + (1 : Int64)) + (1 : Int64))) x0)), .second, .unset, .unset, .unset, .unset, .unset, .unset] 68 (hb hby at_66) rfl rfl ?_
        show Go p e below s _ _ _ (T40.setTop (mkF m 68 #[.val (.long x0), .second, .val (.int x1), .val (.int (v0_s x1)), .val (.ref b1), .val (.long (f4 ((v0_s x1).toInt64))), .second, .val (.long (f5 (f4 (((0 : Int64) + (1 : Int64)) + (1 : Int64))) x0)), .second, .unset, .unset, .unset, .unset, .unset, .unset] []))
        refine g_aload X40 hx 70 (hb hby at_68) rfl rfl rfl ?_
        show Go p e below s _ _ _ (T40.setTop (mkF m 70 #[.val (.long x0), .second, .val (.int x1), .val (.int (v0_s x1)), .val (.ref b1), .val (.long (f4 ((v0_s x1).toInt64))), .second, .val (.long (f5 (f4 (((0 : Int64) + (1 : Int64)) + (1 : Int64))) x0)), .second, .unset, .unset, .unset, .unset, .unset, .unset] [(.ref b1)]))
        refine g_callV X40 hx hZ hown (hw _ (List.mem_of_getElem? (i := 31) rfl)) (hw _ (List.mem_of_getElem? (i := 32) rfl)) (hw _ (List.mem_of_getElem? (i := 34) rfl)) (hw _ (List.mem_of_getElem? (i := 33) rfl)) (hw _ (List.mem_of_getElem? (i := 2) rfl)) (hw _ (List.mem_of_getElem? (i := 35) rfl)) (by decide) rfl b1 k40_1 (rm5 l Z a0 hw [] b1 (f4 (((0 : Int64) + (1 : Int64)) + (1 : Int64))) (x0 + (f4 (((0 : Int64) + (1 : Int64)) + (1 : Int64)))) T40.heap n0 Z40 k40_1 p40_0 p40_1 N_b1) [] [] 0 rfl (lenOf pd__28_29J rfl) rfl (Nat.le_of_eq rfl) (by decide) (by decide) (by decide) (by decide) (by rw [hml]; rfl) (hb hby at_70) ?_
        intro T41 L41 v41 X41 q41
        obtain ⟨rfl, N41, K41, p41_0, p41_1⟩ := q41
        have NN41 := Fr.app NN40 N41
        have k41_1 := k40_1.keep K41
        have Z41 : n0 ≤ T41.heap.size := Nat.le_trans Z40 K41.1
        show Go p e below s _ _ _ (T41.setTop (mkF m 73 #[.val (.long x0), .second, .val (.int x1), .val (.int (v0_s x1)), .val (.ref b1), .val (.long (f4 ((v0_s x1).toInt64))), .second, .val (.long (f5 (f4 (((0 : Int64) + (1 : Int64)) + (1 : Int64))) x0)), .second, .unset, .unset, .unset, .unset, .unset, .unset] [(.long (f5 (f4 (((0 : Int64) + (1 : Int64)) + (1 : Int64))) (x0 + (f4 (((0 : Int64) + (1 : Int64)) + (1 : Int64))))))]))
        refine g_lstore X41 hx #[.val (.long x0), .second, .val (.int x1), .val (.int (v0_s x1)), .val (.ref b1), .val (.long (f4 ((v0_s x1).toInt64))), .second, .val (.long (f5 (f4 (((0 : Int64) + (1 : Int64)) + (1 : Int64))) x0)), .second, .val (.long (f5 (f4 (((0 : Int64) + (1 : Int64)) + (1 : Int64))) (x0 + (f4 (((0 : Int64) + (1 : Int64)) + (1 : Int64)))))), .second, .unset, .unset, .unset, .unset] 75 (hb hby at_73) rfl rfl ?_
        show Go p e below s _ _ _ (T41.setTop (mkF m 75 #[.val (.long x0), .second, .val (.int x1), .val (.int (v0_s x1)), .val (.ref b1), .val (.long (f4 ((v0_s x1).toInt64))), .second, .val (.long (f5 (f4 (((0 : Int64) + (1 : Int64)) + (1 : Int64))) x0)), .second, .val (.long (f5 (f4 (((0 : Int64) + (1 : Int64)) + (1 : Int64))) (x0 + (f4 (((0 : Int64) + (1 : Int64)) + (1 : Int64)))))), .second, .unset, .unset, .unset, .unset] []))
        refine g_aload X41 hx 77 (hb hby at_75) rfl rfl rfl ?_
        show Go p e below s _ _ _ (T41.setTop (mkF m 77 #[.val (.long x0), .second, .val (.int x1), .val (.int (v0_s x1)), .val (.ref b1), .val (.long (f4 ((v0_s x1).toInt64))), .second, .val (.long (f5 (f4 (((0 : Int64) + (1 : Int64)) + (1 : Int64))) x0)), .second, .val (.long (f5 (f4 (((0 : Int64) + (1 : Int64)) + (1 : Int64))) (x0 + (f4 (((0 : Int64) + (1 : Int64)) + (1 : Int64)))))), .second, .unset, .unset, .unset, .unset] [(.ref b1)]))
        refine g_callV X41 hx hZ hown (hw _ (List.mem_of_getElem? (i := 31) rfl)) (hw _ (List.mem_of_getElem? (i := 32) rfl)) (hw _ (List.mem_of_getElem? (i := 34) rfl)) (hw _ (List.mem_of_getElem? (i := 33) rfl)) (hw _ (List.mem_of_getElem? (i := 2) rfl)) (hw _ (List.mem_of_getElem? (i := 35) rfl)) (by decide) rfl b1 k41_1 (rm5 l Z a0 hw [] b1 (f4 (((0 : Int64) + (1 : Int64)) + (1 : Int64))) ((x0 + (f4 (((0 : Int64) + (1 : Int64)) + (1 : Int64)))) + (f4 (((0 : Int64) + (1 : Int64)) + (1 : Int64)))) T41.heap n0 Z41 k41_1 p41_0 p41_1 N_b1) [] [] 0 rfl (lenOf pd__28_29J rfl) rfl (Nat.le_of_eq rfl) (by decide) (by decide) (by decide) (by decide) (by rw [hml]; rfl) (hb hby at_77) ?_
        intro T42 L42 v42 X42 q42
        obtain ⟨rfl, N42, K42, p42_0, p42_1⟩ := q42
        have NN42 := Fr.app NN41 N42
        have k42_1 := k41_1.keep K42
        have Z42 : n0 ≤ T42.heap.size := Nat.le_trans Z41 K42.1
        show Go p e below s _ _ _ (T42.setTop (mkF m 80 #[.val (.long x0), .second, .val (.int x1), .val (.int (v0_s x1)), .val (.ref b1), .val (.long (f4 ((v0_s x1).toInt64))), .second, .val (.long (f5 (f4 (((0 : Int64) + (1 : Int64)) + (1 : Int64))) x0)), .second, .val (.long (f5 (f4 (((0 : Int64) + (1 : Int64)) + (1 : Int64))) (x0 + (f4 (((0 : Int64) + (1 : Int64)) + (1 : Int64)))))), .second, .unset, .unset, .unset, .unset] [(.long (f5 (f4 (((0 : Int64) + (1 : Int64)) + (1 : Int64))) ((x0 + (f4 (((0 : Int64) + (1 : Int64)) + (1 : Int64)))) + (f4 (((0 : Int64) + (1 : Int64)) + (1 : Int64))))))]))
        refine g_lstore X42 hx #[.val (.long x0), .second, .val (.int x1), .val (.int (v0_s x1)), .val (.ref b1), .val (.long (f4 ((v0_s x1).toInt64))), .second, .val (.long (f5 (f4 (((0 : Int64) + (1 : Int64)) + (1 : Int64))) x0)), .second, .val (.long (f5 (f4 (((0 : Int64) + (1 : Int64)) + (1 : Int64))) (x0 + (f4 (((0 : Int64) + (1 : Int64)) + (1 : Int64)))))), .second, .val (.long (f5 (f4 (((0 : Int64) + (1 : Int64)) + (1 : Int64))) ((x0 + (f4 (((0 : Int64) + (1 : Int64)) + (1 : Int64)))) + (f4 (((0 : Int64) + (1 : Int64)) + (1 : Int64)))))), .second, .unset, .unset] 82 (hb hby at_80) rfl rfl ?_
        show Go p e below s _ _ _ (T42.setTop (mkF m 82 #[.val (.long x0), .second, .val (.int x1), .val (.int (v0_s x1)), .val (.ref b1), .val (.long (f4 ((v0_s x1).toInt64))), .second, .val (.long (f5 (f4 (((0 : Int64) + (1 : Int64)) + (1 : Int64))) x0)), .second, .val (.long (f5 (f4 (((0 : Int64) + (1 : Int64)) + (1 : Int64))) (x0 + (f4 (((0 : Int64) + (1 : Int64)) + (1 : Int64)))))), .second, .val (.long (f5 (f4 (((0 : Int64) + (1 : Int64)) + (1 : Int64))) ((x0 + (f4 (((0 : Int64) + (1 : Int64)) + (1 : Int64)))) + (f4 (((0 : Int64) + (1 : Int64)) + (1 : Int64)))))), .second, .unset, .unset] []))
        refine g_aload X42 hx 84 (hb hby at_82) rfl rfl rfl ?_
        show Go p e below s _ _ _ (T42.setTop (mkF m 84 #[.val (.long x0), .second, .val (.int x1), .val (.int (v0_s x1)), .val (.ref b1), .val (.long (f4 ((v0_s x1).toInt64))), .second, .val (.long (f5 (f4 (((0 : Int64) + (1 : Int64)) + (1 : Int64))) x0)), .second, .val (.long (f5 (f4 (((0 : Int64) + (1 : Int64)) + (1 : Int64))) (x0 + (f4 (((0 : Int64) + (1 : Int64)) + (1 : Int64)))))), .second, .val (.long (f5 (f4 (((0 : Int64) + (1 : Int64)) + (1 : Int64))) ((x0 + (f4 (((0 : Int64) + (1 : Int64)) + (1 : Int64)))) + (f4 (((0 : Int64) + (1 : Int64)) + (1 : Int64)))))), .second, .unset, .unset] [(.ref b1)]))
        refine g_callV X42 hx hZ hown (hw _ (List.mem_of_getElem? (i := 31) rfl)) (hw _ (List.mem_of_getElem? (i := 32) rfl)) (hw _ (List.mem_of_getElem? (i := 34) rfl)) (hw _ (List.mem_of_getElem? (i := 33) rfl)) (hw _ (List.mem_of_getElem? (i := 2) rfl)) (hw _ (List.mem_of_getElem? (i := 35) rfl)) (by decide) rfl b1 k42_1 (rm5 l Z a0 hw [] b1 (f4 (((0 : Int64) + (1 : Int64)) + (1 : Int64))) (((x0 + (f4 (((0 : Int64) + (1 : Int64)) + (1 : Int64)))) + (f4 (((0 : Int64) + (1 : Int64)) + (1 : Int64)))) + (f4 (((0 : Int64) + (1 : Int64)) + (1 : Int64)))) T42.heap n0 Z42 k42_1 p42_0 p42_1 N_b1) [] [] 0 rfl (lenOf pd__28_29J rfl) rfl (Nat.le_of_eq rfl) (by decide) (by decide) (by decide) (by decide) (by rw [hml]; rfl) (hb hby at_84) ?_
        intro T43 L43 v43 X43 q43
        obtain ⟨rfl, N43, K43, p43_0, p43_1⟩ := q43
        have NN43 := Fr.app NN42 N43
        have k43_1 := k42_1.keep K43
        have Z43 : n0 ≤ T43.heap.size := Nat.le_trans Z42 K43.1
        show Go p e below s _ _ _ (T43.setTop (mkF m 87 #[.val (.long x0), .second, .val (.int x1), .val (.int (v0_s x1)), .val (.ref b1), .val (.long (f4 ((v0_s x1).toInt64))), .second, .val (.long (f5 (f4 (((0 : Int64) + (1 : Int64)) + (1 : Int64))) x0)), .second, .val (.long (f5 (f4 (((0 : Int64) + (1 : Int64)) + (1 : Int64))) (x0 + (f4 (((0 : Int64) + (1 : Int64)) + (1 : Int64)))))), .second, .val (.long (f5 (f4 (((0 : Int64) + (1 : Int64)) + (1 : Int64))) ((x0 + (f4 (((0 : Int64) + (1 : Int64)) + (1 : Int64)))) + (f4 (((0 : Int64) + (1 : Int64)) + (1 : Int64)))))), .second, .unset, .unset] [(.long (f5 (f4 (((0 : Int64) + (1 : Int64)) + (1 : Int64))) (((x0 + (f4 (((0 : Int64) + (1 : Int64)) + (1 : Int64)))) + (f4 (((0 : Int64) + (1 : Int64)) + (1 : Int64)))) + (f4 (((0 : Int64) + (1 : Int64)) + (1 : Int64))))))]))
        refine g_lstore X43 hx #[.val (.long x0), .second, .val (.int x1), .val (.int (v0_s x1)), .val (.ref b1), .val (.long (f4 ((v0_s x1).toInt64))), .second, .val (.long (f5 (f4 (((0 : Int64) + (1 : Int64)) + (1 : Int64))) x0)), .second, .val (.long (f5 (f4 (((0 : Int64) + (1 : Int64)) + (1 : Int64))) (x0 + (f4 (((0 : Int64) + (1 : Int64)) + (1 : Int64)))))), .second, .val (.long (f5 (f4 (((0 : Int64) + (1 : Int64)) + (1 : Int64))) ((x0 + (f4 (((0 : Int64) + (1 : Int64)) + (1 : Int64)))) + (f4 (((0 : Int64) + (1 : Int64)) + (1 : Int64)))))), .second, .val (.long (f5 (f4 (((0 : Int64) + (1 : Int64)) + (1 : Int64))) (((x0 + (f4 (((0 : Int64) + (1 : Int64)) + (1 : Int64)))) + (f4 (((0 : Int64) + (1 : Int64)) + (1 : Int64)))) + (f4 (((0 : Int64) + (1 : Int64)) + (1 : Int64)))))), .second] 89 (hb hby at_87) rfl rfl ?_
        show Go p e below s _ _ _ (T43.setTop (mkF m 89 #[.val (.long x0), .second, .val (.int x1), .val (.int (v0_s x1)), .val (.ref b1), .val (.long (f4 ((v0_s x1).toInt64))), .second, .val (.long (f5 (f4 (((0 : Int64) + (1 : Int64)) + (1 : Int64))) x0)), .second, .val (.long (f5 (f4 (((0 : Int64) + (1 : Int64)) + (1 : Int64))) (x0 + (f4 (((0 : Int64) + (1 : Int64)) + (1 : Int64)))))), .second, .val (.long (f5 (f4 (((0 : Int64) + (1 : Int64)) + (1 : Int64))) ((x0 + (f4 (((0 : Int64) + (1 : Int64)) + (1 : Int64)))) + (f4 (((0 : Int64) + (1 : Int64)) + (1 : Int64)))))), .second, .val (.long (f5 (f4 (((0 : Int64) + (1 : Int64)) + (1 : Int64))) (((x0 + (f4 (((0 : Int64) + (1 : Int64)) + (1 : Int64)))) + (f4 (((0 : Int64) + (1 : Int64)) + (1 : Int64)))) + (f4 (((0 : Int64) + (1 : Int64)) + (1 : Int64)))))), .second] []))
        refine g_lload X43 hx 91 (hb hby at_89) rfl rfl ?_
        show Go p e below s _ _ _ (T43.setTop (mkF m 91 #[.val (.long x0), .second, .val (.int x1), .val (.int (v0_s x1)), .val (.ref b1), .val (.long (f4 ((v0_s x1).toInt64))), .second, .val (.long (f5 (f4 (((0 : Int64) + (1 : Int64)) + (1 : Int64))) x0)), .second, .val (.long (f5 (f4 (((0 : Int64) + (1 : Int64)) + (1 : Int64))) (x0 + (f4 (((0 : Int64) + (1 : Int64)) + (1 : Int64)))))), .second, .val (.long (f5 (f4 (((0 : Int64) + (1 : Int64)) + (1 : Int64))) ((x0 + (f4 (((0 : Int64) + (1 : Int64)) + (1 : Int64)))) + (f4 (((0 : Int64) + (1 : Int64)) + (1 : Int64)))))), .second, .val (.long (f5 (f4 (((0 : Int64) + (1 : Int64)) + (1 : Int64))) (((x0 + (f4 (((0 : Int64) + (1 : Int64)) + (1 : Int64)))) + (f4 (((0 : Int64) + (1 : Int64)) + (1 : Int64)))) + (f4 (((0 : Int64) + (1 : Int64)) + (1 : Int64)))))), .second] [(.long (f5 (f4 (((0 : Int64) + (1 : Int64)) + (1 : Int64))) x0))]))
        refine g_callS X43 hx hZ hown (hw _ (List.mem_of_getElem? (i := 36) rfl)) (hw _ (List.mem_of_getElem? (i := 37) rfl)) (hw _ (List.mem_of_getElem? (i := 38) rfl)) (hw _ (List.mem_of_getElem? (i := 39) rfl)) (by decide) rfl (rm6 l Z a0 hw [] (f5 (f4 (((0 : Int64) + (1 : Int64)) + (1 : Int64))) x0) T43.heap) [(.long (f5 (f4 (((0 : Int64) + (1 : Int64)) + (1 : Int64))) x0))] [] 0 rfl (lenOf pd__28J_29J rfl) rfl (Nat.le_of_eq rfl) (by decide) (by decide) (by decide) (by decide) (by rw [hml]; rfl) (hb hby at_91) ?_
        intro T44 L44 v44 X44 q44
        obtain ⟨rfl, rfl, e44⟩ := q44
        have NS44 := Fr.app NN43 (Fr.nil n0)
        show Go p e below s _ _ _ (T44.setTop (mkF m 94 #[.val (.long x0), .second, .val (.int x1), .val (.int (v0_s x1)), .val (.ref b1), .val (.long (f4 ((v0_s x1).toInt64))), .second, .val (.long (f5 (f4 (((0 : Int64) + (1 : Int64)) + (1 : Int64))) x0)), .second, .val (.long (f5 (f4 (((0 : Int64) + (1 : Int64)) + (1 : Int64))) (x0 + (f4 (((0 : Int64) + (1 : Int64)) + (1 : Int64)))))), .second, .val (.long (f5 (f4 (((0 : Int64) + (1 : Int64)) + (1 : Int64))) ((x0 + (f4 (((0 : Int64) + (1 : Int64)) + (1 : Int64)))) + (f4 (((0 : Int64) + (1 : Int64)) + (1 : Int64)))))), .second, .val (.long (f5 (f4 (((0 : Int64) + (1 : Int64)) + (1 : Int64))) (((x0 + (f4 (((0 : Int64) + (1 : Int64)) + (1 : Int64)))) + (f4 (((0 : Int64) + (1 : Int64)) + (1 : Int64)))) + (f4 (((0 : Int64) + (1 : Int64)) + (1 : Int64)))))), .second] [(.long (f6 (f5 (f4 (((0 : Int64) + (1 : Int64)) + (1 : Int64))) x0)))]))
        refine g_lloadN X44 hx 95 (hb hby at_94) rfl rfl ?_
        show Go p e below s _ _ _ (T44.setTop (mkF m 95 #[.val (.long x0), .second, .val (.int x1), .val (.int (v0_s x1)), .val (.ref b1), .val (.long (f4 ((v0_s x1).toInt64))), .second, .val (.long (f5 (f4 (((0 : Int64) + (1 : Int64)) + (1 : Int64))) x0)), .second, .val (.long (f5 (f4 (((0 : Int64) + (1 : Int64)) + (1 : Int64))) (x0 + (f4 (((0 : Int64) + (1 : Int64)) + (1 : Int64)))))), .second, .val (.long (f5 (f4 (((0 : Int64) + (1 : Int64)) + (1 : Int64))) ((x0 + (f4 (((0 : Int64) + (1 : Int64)) + (1 : Int64)))) + (f4 (((0 : Int64) + (1 : Int64)) + (1 : Int64)))))), .second, .val (.long (f5 (f4 (((0 : Int64) + (1 : Int64)) + (1 : Int64))) (((x0 + (f4 (((0 : Int64) + (1 : Int64)) + (1 : Int64)))) + (f4 (((0 : Int64) + (1 : Int64)) + (1 : Int64)))) + (f4 (((0 : Int64) + (1 : Int64)) + (1 : Int64)))))), .second] [(.long x0), (.long (f6 (f5 (f4 (((0 : Int64) + (1 : Int64)) + (1 : Int64))) x0)))]))
        refine g_lload X44 hx 97 (hb hby at_95) rfl rfl ?_
        show Go p e below s _ _ _ (T44.setTop (mkF m 97 #[.val (.long x0), .second, .val (.int x1), .val (.int (v0_s x1)), .val (.ref b1), .val (.long (f4 ((v0_s x1).toInt64))), .second, .val (.long (f5 (f4 (((0 : Int64) + (1 : Int64)) + (1 : Int64))) x0)), .second, .val (.long (f5 (f4 (((0 : Int64) + (1 : Int64)) + (1 : Int64))) (x0 + (f4 (((0 : Int64) + (1 : Int64)) + (1 : Int64)))))), .second, .val (.long (f5 (f4 (((0 : Int64) + (1 : Int64)) + (1 : Int64))) ((x0 + (f4 (((0 : Int64) + (1 : Int64)) + (1 : Int64)))) + (f4 (((0 : Int64) + (1 : Int64)) + (1 : Int64)))))), .second, .val (.long (f5 (f4 (((0 : Int64) + (1 : Int64)) + (1 : Int64))) (((x0 + (f4 (((0 : Int64) + (1 : Int64)) + (1 : Int64)))) + (f4 (((0 : Int64) + (1 : Int64)) + (1 : Int64)))) + (f4 (((0 : Int64) + (1 : Int64)) + (1 : Int64)))))), .second] [(.long (f4 ((v0_s x1).toInt64))), (.long x0), (.long (f6 (f5 (f4 (((0 : Int64) + (1 : Int64)) + (1 : Int64))) x0)))]))
        refine g_ladd X44 hx 98 (hb hby at_97) rfl ?_
        show Go p e below s _ _ _ (T44.setTop (mkF m 98 #[.val (.long x0), .second, .val (.int x1), .val (.int (v0_s x1)), .val (.ref b1), .val (.long (f4 ((v0_s x1).toInt64))), .second, .val (.long (f5 (f4 (((0 : Int64) + (1 : Int64)) + (1 : Int64))) x0)), .second, .val (.long (f5 (f4 (((0 : Int64) + (1 : Int64)) + (1 : Int64))) (x0 + (f4 (((0 : Int64) + (1 : Int64)) + (1 : Int64)))))), .second, .val (.long (f5 (f4 (((0 : Int64) + (1 : Int64)) + (1 : Int64))) ((x0 + (f4 (((0 : Int64) + (1 : Int64)) + (1 : Int64)))) + (f4 (((0 : Int64) + (1 : Int64)) + (1 : Int64)))))), .second, .val (.long (f5 (f4 (((0 : Int64) + (1 : Int64)) + (1 : Int64))) (((x0 + (f4 (((0 : Int64) + (1 : Int64)) + (1 : Int64)))) + (f4 (((0 : Int64) + (1 : Int64)) + (1 : Int64)))) + (f4 (((0 : Int64) + (1 : Int64)) + (1 : Int64)))))), .second] [(.long (x0 + (f4 ((v0_s x1).toInt64)))), (.long (f6 (f5 (f4 (((0 : Int64) + (1 : Int64)) + (1 : Int64))) x0)))]))
        refine g_lcmp X44 hx 99 (hb hby at_98) rfl ?_
        show Go p e below s _ _ _ (T44.setTop (mkF m 99 #[.val (.long x0), .second, .val (.int x1), .val (.int (v0_s x1)), .val (.ref b1), .val (.long (f4 ((v0_s x1).toInt64))), .second, .val (.long (f5 (f4 (((0 : Int64) + (1 : Int64)) + (1 : Int64))) x0)), .second, .val (.long (f5 (f4 (((0 : Int64) + (1 : Int64)) + (1 : Int64))) (x0 + (f4 (((0 : Int64) + (1 : Int64)) + (1 : Int64)))))), .second, .val (.long (f5 (f4 (((0 : Int64) + (1 : Int64)) + (1 : Int64))) ((x0 + (f4 (((0 : Int64) + (1 : Int64)) + (1 : Int64)))) + (f4 (((0 : Int64) + (1 : Int64)) + (1 : Int64)))))), .second, .val (.long (f5 (f4 (((0 : Int64) + (1 : Int64)) + (1 : Int64))) (((x0 + (f4 (((0 : Int64) + (1 : Int64)) + (1 : Int64)))) + (f4 (((0 : Int64) + (1 : Int64)) + (1 : Int64)))) + (f4 (((0 : Int64) + (1 : Int64)) + (1 : Int64)))))), .second] [(.int (lcmpW (f6 (f5 (f4 (((0 : Int64) + (1 : Int64)) + (1 : Int64))) x0)) (x0 + (f4 ((v0_s x1).toInt64)))))]))
        have h45 : (f6 (f5 (f4 (((0 : Int64) + (1 : Int64)) + (1 : Int64))) x0)) = (x0 + (f4 ((v0_s x1).toInt64))) := own_u1 x0 _ _ (own_efft ‹¬ v0_s x1 < (2 : Int32)› ‹v0_s x1 < (3 : Int32)›)
        refine g_lc_ne X44 hx 157 102 (hb hby at_99) (by decide) rfl rfl (fun _ => ?_) (fun q => absurd h45 q)
        show Go p e below s _ _ _ (T44.setTop (mkF m 102 #[.val (.long x0), .second, .val (.int x1), .val (.int (v0_s x1)), .val (.ref b1), .val (.long (f4 ((v0_s x1).toInt64))), .second, .val (.long (f5 (f4 (((0 : Int64) + (1 : Int64)) + (1 : Int64))) x0)), .second, .val (.long (f5 (f4 (((0 : Int64) + (1 : Int64)) + (1 : Int64))) (x0 + (f4 (((0 : Int64) + (1 : Int64)) + (1 : Int64)))))), .second, .val (.long (f5 (f4 (((0 : Int64) + (1 : Int64)) + (1 : Int64))) ((x0 + (f4 (((0 : Int64) + (1 : Int64)) + (1 : Int64)))) + (f4 (((0 : Int64) + (1 : Int64)) + (1 : Int64)))))), .second, .val (.long (f5 (f4 (((0 : Int64) + (1 : Int64)) + (1 : Int64))) (((x0 + (f4 (((0 : Int64) + (1 : Int64)) + (1 : Int64)))) + (f4 (((0 : Int64) + (1 : Int64)) + (1 : Int64)))) + (f4 (((0 : Int64) + (1 : Int64)) + (1 : Int64)))))), .second] []))
        refine g_lload X44 hx 104 (hb hby at_102) rfl rfl ?_
        show Go p e below s _ _ _ (T44.setTop (mkF m 104 #[.val (.long x0), .second, .val (.int x1), .val (.int (v0_s x1)), .val (.ref b1), .val (.long (f4 ((v0_s x1).toInt64))), .second, .val (.long (f5 (f4 (((0 : Int64) + (1 : Int64)) + (1 : Int64))) x0)), .second, .val (.long (f5 (f4 (((0 : Int64) + (1 : Int64)) + (1 : Int64))) (x0 + (f4 (((0 : Int64) + (1 : Int64)) + (1 : Int64)))))), .second, .val (.long (f5 (f4 (((0 : Int64) + (1 : Int64)) + (1 : Int64))) ((x0 + (f4 (((0 : Int64) + (1 : Int64)) + (1 : Int64)))) + (f4 (((0 : Int64) + (1 : Int64)) + (1 : Int64)))))), .second, .val (.long (f5 (f4 (((0 : Int64) + (1 : Int64)) + (1 : Int64))) (((x0 + (f4 (((0 : Int64) + (1 : Int64)) + (1 : Int64)))) + (f4 (((0 : Int64) + (1 : Int64)) + (1 : Int64)))) + (f4 (((0 : Int64) + (1 : Int64)) + (1 : Int64)))))), .second] [(.long (f5 (f4 (((0 : Int64) + (1 : Int64)) + (1 : Int64))) (x0 + (f4 (((0 : Int64) + (1 : Int64)) + (1 : Int64))))))]))
        refine g_callS X44 hx hZ hown (hw _ (List.mem_of_getElem? (i := 36) rfl)) (hw _ (List.mem_of_getElem? (i := 37) rfl)) (hw _ (List.mem_of_getElem? (i := 38) rfl)) (hw _ (List.mem_of_getElem? (i := 39) rfl)) (by decide) e44 (rm6 l Z a0 hw [] (f5 (f4 (((0 : Int64) + (1 : Int64)) + (1 : Int64))) (x0 + (f4 (((0 : Int64) + (1 : Int64)) + (1 : Int64))))) T43.heap) [(.long (f5 (f4 (((0 : Int64) + (1 : Int64)) + (1 : Int64))) (x0 + (f4 (((0 : Int64) + (1 : Int64)) + (1 : Int64))))))] [] 0 rfl (lenOf pd__28J_29J rfl) rfl (Nat.le_of_eq rfl) (by decide) (by decide) (by decide) (by decide) (by rw [hml]; rfl) (hb hby at_104) ?_
        intro T46 L46 v46 X46 q46
        obtain ⟨rfl, rfl, e46⟩ := q46
        have NS46 := Fr.app NS44 (Fr.nil n0)
        show Go p e below s _ _ _ (T46.setTop (mkF m 107 #[.val (.long x0), .second, .val (.int x1), .val (.int (v0_s x1)), .val (.ref b1), .val (.long (f4 ((v0_s x1).toInt64))), .second, .val (.long (f5 (f4 (((0 : Int64) + (1 : Int64)) + (1 : Int64))) x0)), .second, .val (.long (f5 (f4 (((0 : Int64) + (1 : Int64)) + (1 : Int64))) (x0 + (f4 (((0 : Int64) + (1 : Int64)) + (1 : Int64)))))), .second, .val (.long (f5 (f4 (((0 : Int64) + (1 : Int64)) + (1 : Int64))) ((x0 + (f4 (((0 : Int64) + (1 : Int64)) + (1 : Int64)))) + (f4 (((0 : Int64) + (1 : Int64)) + (1 : Int64)))))), .second, .val (.long (f5 (f4 (((0 : Int64) + (1 : Int64)) + (1 : Int64))) (((x0 + (f4 (((0 : Int64) + (1 : Int64)) + (1 : Int64)))) + (f4 (((0 : Int64) + (1 : Int64)) + (1 : Int64)))) + (f4 (((0 : Int64) + (1 : Int64)) + (1 : Int64)))))), .second] [(.long (f6 (f5 (f4 (((0 : Int64) + (1 : Int64)) + (1 : Int64))) (x0 + (f4 (((0 : Int64) + (1 : Int64)) + (1 : Int64)))))))]))
        refine g_lloadN X46 hx 108 (hb hby at_107) rfl rfl ?_
        show Go p e below s _ _ _ (T46.setTop (mkF m 108 #[.val (.long x0), .second, .val (.int x1), .val (.int (v0_s x1)), .val (.ref b1), .val (.long (f4 ((v0_s x1).toInt64))), .second, .val (.long (f5 (f4 (((0 : Int64) + (1 : Int64)) + (1 : Int64))) x0)), .second, .val (.long (f5 (f4 (((0 : Int64) + (1 : Int64)) + (1 : Int64))) (x0 + (f4 (((0 : Int64) + (1 : Int64)) + (1 : Int64)))))), .second, .val (.long (f5 (f4 (((0 : Int64) + (1 : Int64)) + (1 : Int64))) ((x0 + (f4 (((0 : Int64) + (1 : Int64)) + (1 : Int64)))) + (f4 (((0 : Int64) + (1 : Int64)) + (1 : Int64)))))), .second, .val (.long (f5 (f4 (((0 : Int64) + (1 : Int64)) + (1 : Int64))) (((x0 + (f4 (((0 : Int64) + (1 : Int64)) + (1 : Int64)))) + (f4 (((0 : Int64) + (1 : Int64)) + (1 : Int64)))) + (f4 (((0 : Int64) + (1 : Int64)) + (1 : Int64)))))), .second] [(.long x0), (.long (f6 (f5 (f4 (((0 : Int64) + (1 : Int64)) + (1 : Int64))) (x0 + (f4 (((0 : Int64) + (1 : Int64)) + (1 : Int64)))))))]))
        refine g_ldc2_w X46 hx hZ hown (hw _ (List.mem_of_getElem? (i := 47) rfl)) 111 (hb hby at_108) rfl ?_
        show Go p e below s _ _ _ (T46.setTop (mkF m 111 #[.val (.long x0), .second, .val (.int x1), .val (.int (v0_s x1)), .val (.ref b1), .val (.long (f4 ((v0_s x1).toInt64))), .second, .val (.long (f5 (f4 (((0 : Int64) + (1 : Int64)) + (1 : Int64))) x0)), .second, .val (.long (f5 (f4 (((0 : Int64) + (1 : Int64)) + (1 : Int64))) (x0 + (f4 (((0 : Int64) + (1 : Int64)) + (1 : Int64)))))), .second, .val (.long (f5 (f4 (((0 : Int64) + (1 : Int64)) + (1 : Int64))) ((x0 + (f4 (((0 : Int64) + (1 : Int64)) + (1 : Int64)))) + (f4 (((0 : Int64) + (1 : Int64)) + (1 : Int64)))))), .second, .val (.long (f5 (f4 (((0 : Int64) + (1 : Int64)) + (1 : Int64))) (((x0 + (f4 (((0 : Int64) + (1 : Int64)) + (1 : Int64)))) + (f4 (((0 : Int64) + (1 : Int64)) + (1 : Int64)))) + (f4 (((0 : Int64) + (1 : Int64)) + (1 : Int64)))))), .second] [(.long (2 : Int64)), (.long x0), (.long (f6 (f5 (f4 (((0 : Int64) + (1 : Int64)) + (1 : Int64))) (x0 + (f4 (((0 : Int64) + (1 : Int64)) + (1 : Int64)))))))]))
        refine g_lload X46 hx 113 (hb hby at_111) rfl rfl ?_
        show Go p e below s _ _ _ (T46.setTop (mkF m 113 #[.val (.long x0), .second, .val (.int x1), .val (.int (v0_s x1)), .val (.ref b1), .val (.long (f4 ((v0_s x1).toInt64))), .second, .val (.long (f5 (f4 (((0 : Int64) + (1 : Int64)) + (1 : Int64))) x0)), .second, .val (.long (f5 (f4 (((0 : Int64) + (1 : Int64)) + (1 : Int64))) (x0 + (f4 (((0 : Int64) + (1 : Int64)) + (1 : Int64)))))), .second, .val (.long (f5 (f4 (((0 : Int64) + (1 : Int64)) + (1 : Int64))) ((x0 + (f4 (((0 : Int64) + (1 : Int64)) + (1 : Int64)))) + (f4 (((0 : Int64) + (1 : Int64)) + (1 : Int64)))))), .second, .val (.long (f5 (f4 (((0 : Int64) + (1 : Int64)) + (1 : Int64))) (((x0 + (f4 (((0 : Int64) + (1 : Int64)) + (1 : Int64)))) + (f4 (((0 : Int64) + (1 : Int64)) + (1 : Int64)))) + (f4 (((0 : Int64) + (1 : Int64)) + (1 : Int64)))))), .second] [(.long (f4 ((v0_s x1).toInt64))), (.long (2 : Int64)), (.long x0), (.long (f6 (f5 (f4 (((0 : Int64) + (1 : Int64)) + (1 : Int64))) (x0 + (f4 (((0 : Int64) + (1 : Int64)) + (1 : Int64)))))))]))
        refine g_lmul X46 hx 114 (hb hby at_113) rfl ?_
        show Go p e below s _ _ _ (T46.setTop (mkF m 114 #[.val (.long x0), .second, .val (.int x1), .val (.int (v0_s x1)), .val (.ref b1), .val (.long (f4 ((v0_s x1).toInt64))), .second, .val (.long (f5 (f4 (((0 : Int64) + (1 : Int64)) + (1 : Int64))) x0)), .second, .val (.long (f5 (f4 (((0 : Int64) + (1 : Int64)) + (1 : Int64))) (x0 + (f4 (((0 : Int64) + (1 : Int64)) + (1 : Int64)))))), .second, .val (.long (f5 (f4 (((0 : Int64) + (1 : Int64)) + (1 : Int64))) ((x0 + (f4 (((0 : Int64) + (1 : Int64)) + (1 : Int64)))) + (f4 (((0 : Int64) + (1 : Int64)) + (1 : Int64)))))), .second, .val (.long (f5 (f4 (((0 : Int64) + (1 : Int64)) + (1 : Int64))) (((x0 + (f4 (((0 : Int64) + (1 : Int64)) + (1 : Int64)))) + (f4 (((0 : Int64) + (1 : Int64)) + (1 : Int64)))) + (f4 (((0 : Int64) + (1 : Int64)) + (1 : Int64)))))), .second] [(.long ((2 : Int64) * (f4 ((v0_s x1).toInt64)))), (.long x0), (.long (f6 (f5 (f4 (((0 : Int64) + (1 : Int64)) + (1 : Int64))) (x0 + (f4 (((0 : Int64) + (1 : Int64)) + (1 : Int64)))))))]))
        refine g_ladd X46 hx 115 (hb hby at_114) rfl ?_
        show Go p e below s _ _ _ (T46.setTop (mkF m 115 #[.val (.long x0), .second, .val (.int x1), .val (.int (v0_s x1)), .val (.ref b1), .val (.long (f4 ((v0_s x1).toInt64))), .second, .val (.long (f5 (f4 (((0 : Int64) + (1 : Int64)) + (1 : Int64))) x0)), .second, .val (.long (f5 (f4 (((0 : Int64) + (1 : Int64)) + (1 : Int64))) (x0 + (f4 (((0 : Int64) + (1 : Int64)) + (1 : Int64)))))), .second, .val (.long (f5 (f4 (((0 : Int64) + (1 : Int64)) + (1 : Int64))) ((x0 + (f4 (((0 : Int64) + (1 : Int64)) + (1 : Int64)))) + (f4 (((0 : Int64) + (1 : Int64)) + (1 : Int64)))))), .second, .val (.long (f5 (f4 (((0 : Int64) + (1 : Int64)) + (1 : Int64))) (((x0 + (f4 (((0 : Int64) + (1 : Int64)) + (1 : Int64)))) + (f4 (((0 : Int64) + (1 : Int64)) + (1 : Int64)))) + (f4 (((0 : Int64) + (1 : Int64)) + (1 : Int64)))))), .second] [(.long (x0 + ((2 : Int64) * (f4 ((v0_s x1).toInt64))))), (.long (f6 (f5 (f4 (((0 : Int64) + (1 : Int64)) + (1 : Int64))) (x0 + (f4 (((0 : Int64) + (1 : Int64)) + (1 : Int64)))))))]))
        refine g_lcmp X46 hx 116 (hb hby at_115) rfl ?_
        show Go p e below s _ _ _ (T46.setTop (mkF m 116 #[.val (.long x0), .second, .val (.int x1), .val (.int (v0_s x1)), .val (.ref b1), .val (.long (f4 ((v0_s x1).toInt64))), .second, .val (.long (f5 (f4 (((0 : Int64) + (1 : Int64)) + (1 : Int64))) x0)), .second, .val (.long (f5 (f4 (((0 : Int64) + (1 : Int64)) + (1 : Int64))) (x0 + (f4 (((0 : Int64) + (1 : Int64)) + (1 : Int64)))))), .second, .val (.long (f5 (f4 (((0 : Int64) + (1 : Int64)) + (1 : Int64))) ((x0 + (f4 (((0 : Int64) + (1 : Int64)) + (1 : Int64)))) + (f4 (((0 : Int64) + (1 : Int64)) + (1 : Int64)))))), .second, .val (.long (f5 (f4 (((0 : Int64) + (1 : Int64)) + (1 : Int64))) (((x0 + (f4 (((0 : Int64) + (1 : Int64)) + (1 : Int64)))) + (f4 (((0 : Int64) + (1 : Int64)) + (1 : Int64)))) + (f4 (((0 : Int64) + (1 : Int64)) + (1 : Int64)))))), .second] [(.int (lcmpW (f6 (f5 (f4 (((0 : Int64) + (1 : Int64)) + (1 : Int64))) (x0 + (f4 (((0 : Int64) + (1 : Int64)) + (1 : Int64)))))) (x0 + ((2 : Int64) * (f4 ((v0_s x1).toInt64))))))]))
        have h47 : (f6 (f5 (f4 (((0 : Int64) + (1 : Int64)) + (1 : Int64))) (x0 + (f4 (((0 : Int64) + (1 : Int64)) + (1 : Int64)))))) = (x0 + ((2 : Int64) * (f4 ((v0_s x1).toInt64)))) := own_u2 x0 _ _ (own_efft ‹¬ v0_s x1 < (2 : Int32)› ‹v0_s x1 < (3 : Int32)›)
        refine g_lc_ne X46 hx 157 119 (hb hby at_116) (by decide) rfl rfl (fun _ => ?_) (fun q => absurd h47 q)
        show Go p e below s _ _ _ (T46.setTop (mkF m 119 #[.val (.long x0), .second, .val (.int x1), .val (.int (v0_s x1)), .val (.ref b1), .val (.long (f4 ((v0_s x1).toInt64))), .second, .val (.long (f5 (f4 (((0 : Int64) + (1 : Int64)) + (1 : Int64))) x0)), .second, .val (.long (f5 (f4 (((0 : Int64) + (1 : Int64)) + (1 : Int64))) (x0 + (f4 (((0 : Int64) + (1 : Int64)) + (1 : Int64)))))), .second, .val (.long (f5 (f4 (((0 : Int64) + (1 : Int64)) + (1 : Int64))) ((x0 + (f4 (((0 : Int64) + (1 : Int64)) + (1 : Int64)))) + (f4 (((0 : Int64) + (1 : Int64)) + (1 : Int64)))))), .second, .val (.long (f5 (f4 (((0 : Int64) + (1 : Int64)) + (1 : Int64))) (((x0 + (f4 (((0 : Int64) + (1 : Int64)) + (1 : Int64)))) + (f4 (((0 : Int64) + (1 : Int64)) + (1 : Int64)))) + (f4 (((0 : Int64) + (1 : Int64)) + (1 : Int64)))))), .second] []))
        refine g_lload X46 hx 121 (hb hby at_119) rfl rfl ?_
        show Go p e below s _ _ _ (T46.setTop (mkF m 121 #[.val (.long x0), .second, .val (.int x1), .val (.int (v0_s x1)), .val (.ref b1), .val (.long (f4 ((v0_s x1).toInt64))), .second, .val (.long (f5 (f4 (((0 : Int64) + (1 : Int64)) + (1 : Int64))) x0)), .second, .val (.long (f5 (f4 (((0 : Int64) + (1 : Int64)) + (1 : Int64))) (x0 + (f4 (((0 : Int64) + (1 : Int64)) + (1 : Int64)))))), .second, .val (.long (f5 (f4 (((0 : Int64) + (1 : Int64)) + (1 : Int64))) ((x0 + (f4 (((0 : Int64) + (1 : Int64)) + (1 : Int64)))) + (f4 (((0 : Int64) + (1 : Int64)) + (1 : Int64)))))), .second, .val (.long (f5 (f4 (((0 : Int64) + (1 : Int64)) + (1 : Int64))) (((x0 + (f4 (((0 : Int64) + (1 : Int64)) + (1 : Int64)))) + (f4 (((0 : Int64) + (1 : Int64)) + (1 : Int64)))) + (f4 (((0 : Int64) + (1 : Int64)) + (1 : Int64)))))), .second] [(.long (f5 (f4 (((0 : Int64) + (1 : Int64)) + (1 : Int64))) ((x0 + (f4 (((0 : Int64) + (1 : Int64)) + (1 : Int64)))) + (f4 (((0 : Int64) + (1 : Int64)) + (1 : Int64))))))]))
        refine g_callS X46 hx hZ hown (hw _ (List.mem_of_getElem? (i := 36) rfl)) (hw _ (List.mem_of_getElem? (i := 37) rfl)) (hw _ (List.mem_of_getElem? (i := 38) rfl)) (hw _ (List.mem_of_getElem? (i := 39) rfl)) (by decide) e46 (rm6 l Z a0 hw [] (f5 (f4 (((0 : Int64) + (1 : Int64)) + (1 : Int64))) ((x0 + (f4 (((0 : Int64) + (1 : Int64)) + (1 : Int64)))) + (f4 (((0 : Int64) + (1 : Int64)) + (1 : Int64))))) T43.heap) [(.long (f5 (f4 (((0 : Int64) + (1 : Int64)) + (1 : Int64))) ((x0 + (f4 (((0 : Int64) + (1 : Int64)) + (1 : Int64)))) + (f4 (((0 : Int64) + (1 : Int64)) + (1 : Int64))))))] [] 0 rfl (lenOf pd__28J_29J rfl) rfl (Nat.le_of_eq rfl) (by decide) (by decide) (by decide) (by decide) (by rw [hml]; rfl) (hb hby at_121) ?_
        intro T48 L48 v48 X48 q48
        obtain ⟨rfl, rfl, e48⟩ := q48
        have NS48 := Fr.app NS46 (Fr.nil n0)
        show Go p e below s _ _ _ (T48.setTop (mkF m 124 #[.val (.long x0), .second, .val (.int x1), .val (.int (v0_s x1)), .val (.ref b1), .val (.long (f4 ((v0_s x1).toInt64))), .second, .val (.long (f5 (f4 (((0 : Int64) + (1 : Int64)) + (1 : Int64))) x0)), .second, .val (.long (f5 (f4 (((0 : Int64) + (1 : Int64)) + (1 : Int64))) (x0 + (f4 (((0 : Int64) + (1 : Int64)) + (1 : Int64)))))), .second, .val (.long (f5 (f4 (((0 : Int64) + (1 : Int64)) + (1 : Int64))) ((x0 + (f4 (((0 : Int64) + (1 : Int64)) + (1 : Int64)))) + (f4 (((0 : Int64) + (1 : Int64)) + (1 : Int64)))))), .second, .val (.long (f5 (f4 (((0 : Int64) + (1 : Int64)) + (1 : Int64))) (((x0 + (f4 (((0 : Int64) + (1 : Int64)) + (1 : Int64)))) + (f4 (((0 : Int64) + (1 : Int64)) + (1 : Int64)))) + (f4 (((0 : Int64) + (1 : Int64)) + (1 : Int64)))))), .second] [(.long (f6 (f5 (f4 (((0 : Int64) + (1 : Int64)) + (1 : Int64))) ((x0 + (f4 (((0 : Int64) + (1 : Int64)) + (1 : Int64)))) + (f4 (((0 : Int64) + (1 : Int64)) + (1 : Int64)))))))]))
        refine g_lloadN X48 hx 125 (hb hby at_124) rfl rfl ?_
        show Go p e below s _ _ _ (T48.setTop (mkF m 125 #[.val (.long x0), .second, .val (.int x1), .val (.int (v0_s x1)), .val (.ref b1), .val (.long (f4 ((v0_s x1).toInt64))), .second, .val (.long (f5 (f4 (((0 : Int64) + (1 : Int64)) + (1 : Int64))) x0)), .second, .val (.long (f5 (f4 (((0 : Int64) + (1 : Int64)) + (1 : Int64))) (x0 + (f4 (((0 : Int64) + (1 : Int64)) + (1 : Int64)))))), .second, .val (.long (f5 (f4 (((0 : Int64) + (1 : Int64)) + (1 : Int64))) ((x0 + (f4 (((0 : Int64) + (1 : Int64)) + (1 : Int64)))) + (f4 (((0 : Int64) + (1 : Int64)) + (1 : Int64)))))), .second, .val (.long (f5 (f4 (((0 : Int64) + (1 : Int64)) + (1 : Int64))) (((x0 + (f4 (((0 : Int64) + (1 : Int64)) + (1 : Int64)))) + (f4 (((0 : Int64) + (1 : Int64)) + (1 : Int64)))) + (f4 (((0 : Int64) + (1 : Int64)) + (1 : Int64)))))), .second] [(.long x0), (.long (f6 (f5 (f4 (((0 : Int64) + (1 : Int64)) + (1 : Int64))) ((x0 + (f4 (((0 : Int64) + (1 : Int64)) + (1 : Int64)))) + (f4 (((0 : Int64) + (1 : Int64)) + (1 : Int64)))))))]))
        refine g_ldc2_w X48 hx hZ hown (hw _ (List.mem_of_getElem? (i := 49) rfl)) 128 (hb hby at_125) rfl ?_
        show Go p e below s _ _ _ (T48.setTop (mkF m 128 #[.val (.long x0), .second, .val (.int x1), .val (.int (v0_s x1)), .val (.ref b1), .val (.long (f4 ((v0_s x1).toInt64))), .second, .val (.long (f5 (f4 (((0 : Int64) + (1 : Int64)) + (1 : Int64))) x0)), .second, .val (.long (f5 (f4 (((0 : Int64) + (1 : Int64)) + (1 : Int64))) (x0 + (f4 (((0 : Int64) + (1 : Int64)) + (1 : Int64)))))), .second, .val (.long (f5 (f4 (((0 : Int64) + (1 : Int64)) + (1 : Int64))) ((x0 + (f4 (((0 : Int64) + (1 : Int64)) + (1 : Int64)))) + (f4 (((0 : Int64) + (1 : Int64)) + (1 : Int64)))))), .second, .val (.long (f5 (f4 (((0 : Int64) + (1 : Int64)) + (1 : Int64))) (((x0 + (f4 (((0 : Int64) + (1 : Int64)) + (1 : Int64)))) + (f4 (((0 : Int64) + (1 : Int64)) + (1 : Int64)))) + (f4 (((0 : Int64) + (1 : Int64)) + (1 : Int64)))))), .second] [(.long (3 : Int64)), (.long x0), (.long (f6 (f5 (f4 (((0 : Int64) + (1 : Int64)) + (1 : Int64))) ((x0 + (f4 (((0 : Int64) + (1 : Int64)) + (1 : Int64)))) + (f4 (((0 : Int64) + (1 : Int64)) + (1 : Int64)))))))]))
        refine g_lload X48 hx 130 (hb hby at_128) rfl rfl ?_
        show Go p e below s _ _ _ (T48.setTop (mkF m 130 #[.val (.long x0), .second, .val (.int x1), .val (.int (v0_s x1)), .val (.ref b1), .val (.long (f4 ((v0_s x1).toInt64))), .second, .val (.long (f5 (f4 (((0 : Int64) + (1 : Int64)) + (1 : Int64))) x0)), .second, .val (.long (f5 (f4 (((0 : Int64) + (1 : Int64)) + (1 : Int64))) (x0 + (f4 (((0 : Int64) + (1 : Int64)) + (1 : Int64)))))), .second, .val (.long (f5 (f4 (((0 : Int64) + (1 : Int64)) + (1 : Int64))) ((x0 + (f4 (((0 : Int64) + (1 : Int64)) + (1 : Int64)))) + (f4 (((0 : Int64) + (1 : Int64)) + (1 : Int64)))))), .second, .val (.long (f5 (f4 (((0 : Int64) + (1 : Int64)) + (1 : Int64))) (((x0 + (f4 (((0 : Int64) + (1 : Int64)) + (1 : Int64)))) + (f4 (((0 : Int64) + (1 : Int64)) + (1 : Int64)))) + (f4 (((0 : Int64) + (1 : Int64)) + (1 : Int64)))))), .second] [(.long (f4 ((v0_s x1).toInt64))), (.long (3 : Int64)), (.long x0), (.long (f6 (f5 (f4 (((0 : Int64) + (1 : Int64)) + (1 : Int64))) ((x0 + (f4 (((0 : Int64) + (1 : Int64)) + (1 : Int64)))) + (f4 (((0 : Int64) + (1 : Int64)) + (1 : Int64)))))))]))
        refine g_lmul X48 hx 131 (hb hby at_130) rfl ?_
        show Go p e below s _ _ _ (T48.setTop (mkF m 131 #[.val (.long x0), .second, .val (.int x1), .val (.int (v0_s x1)), .val (.ref b1), .val (.long (f4 ((v0_s x1).toInt64))), .second, .val (.long (f5 (f4 (((0 : Int64) + (1 : Int64)) + (1 : Int64))) x0)), .second, .val (.long (f5 (f4 (((0 : Int64) + (1 : Int64)) + (1 : Int64))) (x0 + (f4 (((0 : Int64) + (1 : Int64)) + (1 : Int64)))))), .second, .val (.long (f5 (f4 (((0 : Int64) + (1 : Int64)) + (1 : Int64))) ((x0 + (f4 (((0 : Int64) + (1 : Int64)) + (1 : Int64)))) + (f4 (((0 : Int64) + (1 : Int64)) + (1 : Int64)))))), .second, .val (.long (f5 (f4 (((0 : Int64) + (1 : Int64)) + (1 : Int64))) (((x0 + (f4 (((0 : Int64) + (1 : Int64)) + (1 : Int64)))) + (f4 (((0 : Int64) + (1 : Int64)) + (1 : Int64)))) + (f4 (((0 : Int64) + (1 : Int64)) + (1 : Int64)))))), .second] [(.long ((3 : Int64) * (f4 ((v0_s x1).toInt64)))), (.long x0), (.long (f6 (f5 (f4 (((0 : Int64) + (1 : Int64)) + (1 : Int64))) ((x0 + (f4 (((0 : Int64) + (1 : Int64)) + (1 : Int64)))) + (f4 (((0 : Int64) + (1 : Int64)) + (1 : Int64)))))))]))
        refine g_ladd X48 hx 132 (hb hby at_131) rfl ?_
        show Go p e below s _ _ _ (T48.setTop (mkF m 132 #[.val (.long x0), .second, .val (.int x1), .val (.int (v0_s x1)), .val (.ref b1), .val (.long (f4 ((v0_s x1).toInt64))), .second, .val (.long (f5 (f4 (((0 : Int64) + (1 : Int64)) + (1 : Int64))) x0)), .second, .val (.long (f5 (f4 (((0 : Int64) + (1 : Int64)) + (1 : Int64))) (x0 + (f4 (((0 : Int64) + (1 : Int64)) + (1 : Int64)))))), .second, .val (.long (f5 (f4 (((0 : Int64) + (1 : Int64)) + (1 : Int64))) ((x0 + (f4 (((0 : Int64) + (1 : Int64)) + (1 : Int64)))) + (f4 (((0 : Int64) + (1 : Int64)) + (1 : Int64)))))), .second, .val (.long (f5 (f4 (((0 : Int64) + (1 : Int64)) + (1 : Int64))) (((x0 + (f4 (((0 : Int64) + (1 : Int64)) + (1 : Int64)))) + (f4 (((0 : Int64) + (1 : Int64)) + (1 : Int64)))) + (f4 (((0 : Int64) + (1 : Int64)) + (1 : Int64)))))), .second] [(.long (x0 + ((3 : Int64) * (f4 ((v0_s x1).toInt64))))), (.long (f6 (f5 (f4 (((0 : Int64) + (1 : Int64)) + (1 : Int64))) ((x0 + (f4 (((0 : Int64) + (1 : Int64)) + (1 : Int64)))) + (f4 (((0 : Int64) + (1 : Int64)) + (1 : Int64)))))))]))
        refine g_lcmp X48 hx 133 (hb hby at_132) rfl ?_
        show Go p e below s _ _ _ (T48.setTop (mkF m 133 #[.val (.long x0), .second, .val (.int x1), .val (.int (v0_s x1)), .val (.ref b1), .val (.long (f4 ((v0_s x1).toInt64))), .second, .val (.long (f5 (f4 (((0 : Int64) + (1 : Int64)) + (1 : Int64))) x0)), .second, .val (.long (f5 (f4 (((0 : Int64) + (1 : Int64)) + (1 : Int64))) (x0 + (f4 (((0 : Int64) + (1 : Int64)) + (1 : Int64)))))), .second, .val (.long (f5 (f4 (((0 : Int64) + (1 : Int64)) + (1 : Int64))) ((x0 + (f4 (((0 : Int64) + (1 : Int64)) + (1 : Int64)))) + (f4 (((0 : Int64) + (1 : Int64)) + (1 : Int64)))))), .second, .val (.long (f5 (f4 (((0 : Int64) + (1 : Int64)) + (1 : Int64))) (((x0 + (f4 (((0 : Int64) + (1 : Int64)) + (1 : Int64)))) + (f4 (((0 : Int64) + (1 : Int64)) + (1 : Int64)))) + (f4 (((0 : Int64) + (1 : Int64)) + (1 : Int64)))))), .second] [(.int (lcmpW (f6 (f5 (f4 (((0 : Int64) + (1 : Int64)) + (1 : Int64))) ((x0 + (f4 (((0 : Int64) + (1 : Int64)) + (1 : Int64)))) + (f4 (((0 : Int64) + (1 : Int64)) + (1 : Int64)))))) (x0 + ((3 : Int64) * (f4 ((v0_s x1).toInt64))))))]))
        have h49 : (f6 (f5 (f4 (((0 : Int64) + (1 : Int64)) + (1 : Int64))) ((x0 + (f4 (((0 : Int64) + (1 : Int64)) + (1 : Int64)))) + (f4 (((0 : Int64) + (1 : Int64)) + (1 : Int64)))))) = (x0 + ((3 : Int64) * (f4 ((v0_s x1).toInt64)))) := own_u3 x0 _ _ (own_efft ‹¬ v0_s x1 < (2 : Int32)› ‹v0_s x1 < (3 : Int32)›)
        refine g_lc_ne X48 hx 157 136 (hb hby at_133) (by decide) rfl rfl (fun _ => ?_) (fun q => absurd h49 q)
        show Go p e below s _ _ _ (T48.setTop (mkF m 136 #[.val (.long x0), .second, .val (.int x1), .val (.int (v0_s x1)), .val (.ref b1), .val (.long (f4 ((v0_s x1).toInt64))), .second, .val (.long (f5 (f4 (((0 : Int64) + (1 : Int64)) + (1 : Int64))) x0)), .second, .val (.long (f5 (f4 (((0 : Int64) + (1 : Int64)) + (1 : Int64))) (x0 + (f4 (((0 : Int64) + (1 : Int64)) + (1 : Int64)))))), .second, .val (.long (f5 (f4 (((0 : Int64) + (1 : Int64)) + (1 : Int64))) ((x0 + (f4 (((0 : Int64) + (1 : Int64)) + (1 : Int64)))) + (f4 (((0 : Int64) + (1 : Int64)) + (1 : Int64)))))), .second, .val (.long (f5 (f4 (((0 : Int64) + (1 : Int64)) + (1 : Int64))) (((x0 + (f4 (((0 : Int64) + (1 : Int64)) + (1 : Int64)))) + (f4 (((0 : Int64) + (1 : Int64)) + (1 : Int64)))) + (f4 (((0 : Int64) + (1 : Int64)) + (1 : Int64)))))), .second] []))
        refine g_lload X48 hx 138 (hb hby at_136) rfl rfl ?_
        show Go p e below s _ _ _ (T48.setTop (mkF m 138 #[.val (.long x0), .second, .val (.int x1), .val (.int (v0_s x1)), .val (.ref b1), .val (.long (f4 ((v0_s x1).toInt64))), .second, .val (.long (f5 (f4 (((0 : Int64) + (1 : Int64)) + (1 : Int64))) x0)), .second, .val (.long (f5 (f4 (((0 : Int64) + (1 : Int64)) + (1 : Int64))) (x0 + (f4 (((0 : Int64) + (1 : Int64)) + (1 : Int64)))))), .second, .val (.long (f5 (f4 (((0 : Int64) + (1 : Int64)) + (1 : Int64))) ((x0 + (f4 (((0 : Int64) + (1 : Int64)) + (1 : Int64)))) + (f4 (((0 : Int64) + (1 : Int64)) + (1 : Int64)))))), .second, .val (.long (f5 (f4 (((0 : Int64) + (1 : Int64)) + (1 : Int64))) (((x0 + (f4 (((0 : Int64) + (1 : Int64)) + (1 : Int64)))) + (f4 (((0 : Int64) + (1 : Int64)) + (1 : Int64)))) + (f4 (((0 : Int64) + (1 : Int64)) + (1 : Int64)))))), .second] [(.long (f5 (f4 (((0 : Int64) + (1 : Int64)) + (1 : Int64))) (((x0 + (f4 (((0 : Int64) + (1 : Int64)) + (1 : Int64)))) + (f4 (((0 : Int64) + (1 : Int64)) + (1 : Int64)))) + (f4 (((0 : Int64) + (1 : Int64)) + (1 : Int64))))))]))
        refine g_callS X48 hx hZ hown (hw _ (List.mem_of_getElem? (i := 36) rfl)) (hw _ (List.mem_of_getElem? (i := 37) rfl)) (hw _ (List.mem_of_getElem? (i := 38) rfl)) (hw _ (List.mem_of_getElem? (i := 39) rfl)) (by decide) e48 (rm6 l Z a0 hw [] (f5 (f4 (((0 : Int64) + (1 : Int64)) + (1 : Int64))) (((x0 + (f4 (((0 : Int64) + (1 : Int64)) + (1 : Int64)))) + (f4 (((0 : Int64) + (1 : Int64)) + (1 : Int64)))) + (f4 (((0 : Int64) + (1 : Int64)) + (1 : Int64))))) T43.heap) [(.long (f5 (f4 (((0 : Int64) + (1 : Int64)) + (1 : Int64))) (((x0 + (f4 (((0 : Int64) + (1 : Int64)) + (1 : Int64)))) + (f4 (((0 : Int64) + (1 : Int64)) + (1 : Int64)))) + (f4 (((0 : Int64) + (1 : Int64)) + (1 : Int64))))))] [] 0 rfl (lenOf pd__28J_29J rfl) rfl (Nat.le_of_eq rfl) (by decide) (by decide) (by decide) (by decide) (by rw [hml]; rfl) (hb hby at_138) ?_
        intro T50 L50 v50 X50 q50
        obtain ⟨rfl, rfl, e50⟩ := q50
        have NS50 := Fr.app NS48 (Fr.nil n0)
        show Go p e below s _ _ _ (T50.setTop (mkF m 141 #[.val (.long x0), .second, .val (.int x1), .val (.int (v0_s x1)), .val (.ref b1), .val (.long (f4 ((v0_s x1).toInt64))), .second, .val (.long (f5 (f4 (((0 : Int64) + (1 : Int64)) + (1 : Int64))) x0)), .second, .val (.long (f5 (f4 (((0 : Int64) + (1 : Int64)) + (1 : Int64))) (x0 + (f4 (((0 : Int64) + (1 : Int64)) + (1 : Int64)))))), .second, .val (.long (f5 (f4 (((0 : Int64) + (1 : Int64)) + (1 : Int64))) ((x0 + (f4 (((0 : Int64) + (1 : Int64)) + (1 : Int64)))) + (f4 (((0 : Int64) + (1 : Int64)) + (1 : Int64)))))), .second, .val (.long (f5 (f4 (((0 : Int64) + (1 : Int64)) + (1 : Int64))) (((x0 + (f4 (((0 : Int64) + (1 : Int64)) + (1 : Int64)))) + (f4 (((0 : Int64) + (1 : Int64)) + (1 : Int64)))) + (f4 (((0 : Int64) + (1 : Int64)) + (1 : Int64)))))), .second] [(.long (f6 (f5 (f4 (((0 : Int64) + (1 : Int64)) + (1 : Int64))) (((x0 + (f4 (((0 : Int64) + (1 : Int64)) + (1 : Int64)))) + (f4 (((0 : Int64) + (1 : Int64)) + (1 : Int64)))) + (f4 (((0 : Int64) + (1 : Int64)) + (1 : Int64)))))))]))
        refine g_lloadN X50 hx 142 (hb hby at_141) rfl rfl ?_
        show Go p e below s _ _ _ (T50.setTop (mkF m 142 #[.val (.long x0), .second, .val (.int x1), .val (.int (v0_s x1)), .val (.ref b1), .val (.long (f4 ((v0_s x1).toInt64))), .second, .val (.long (f5 (f4 (((0 : Int64) + (1 : Int64)) + (1 : Int64))) x0)), .second, .val (.long (f5 (f4 (((0 : Int64) + (1 : Int64)) + (1 : Int64))) (x0 + (f4 (((0 : Int64) + (1 : Int64)) + (1 : Int64)))))), .second, .val (.long (f5 (f4 (((0 : Int64) + (1 : Int64)) + (1 : Int64))) ((x0 + (f4 (((0 : Int64) + (1 : Int64)) + (1 : Int64)))) + (f4 (((0 : Int64) + (1 : Int64)) + (1 : Int64)))))), .second, .val (.long (f5 (f4 (((0 : Int64) + (1 : Int64)) + (1 : Int64))) (((x0 + (f4 (((0 : Int64) + (1 : Int64)) + (1 : Int64)))) + (f4 (((0 : Int64) + (1 : Int64)) + (1 : Int64)))) + (f4 (((0 : Int64) + (1 : Int64)) + (1 : Int64)))))), .second] [(.long x0), (.long (f6 (f5 (f4 (((0 : Int64) + (1 : Int64)) + (1 : Int64))) (((x0 + (f4 (((0 : Int64) + (1 : Int64)) + (1 : Int64)))) + (f4 (((0 : Int64) + (1 : Int64)) + (1 : Int64)))) + (f4 (((0 : Int64) + (1 : Int64)) + (1 : Int64)))))))]))
        refine g_ldc2_w X50 hx hZ hown (hw _ (List.mem_of_getElem? (i := 50) rfl)) 145 (hb hby at_142) rfl ?_
        show Go p e below s _ _ _ (T50.setTop (mkF m 145 #[.val (.long x0), .second, .val (.int x1), .val (.int (v0_s x1)), .val (.ref b1), .val (.long (f4 ((v0_s x1).toInt64))), .second, .val (.long (f5 (f4 (((0 : Int64) + (1 : Int64)) + (1 : Int64))) x0)), .second, .val (.long (f5 (f4 (((0 : Int64) + (1 : Int64)) + (1 : Int64))) (x0 + (f4 (((0 : Int64) + (1 : Int64)) + (1 : Int64)))))), .second, .val (.long (f5 (f4 (((0 : Int64) + (1 : Int64)) + (1 : Int64))) ((x0 + (f4 (((0 : Int64) + (1 : Int64)) + (1 : Int64)))) + (f4 (((0 : Int64) + (1 : Int64)) + (1 : Int64)))))), .second, .val (.long (f5 (f4 (((0 : Int64) + (1 : Int64)) + (1 : Int64))) (((x0 + (f4 (((0 : Int64) + (1 : Int64)) + (1 : Int64)))) + (f4 (((0 : Int64) + (1 : Int64)) + (1 : Int64)))) + (f4 (((0 : Int64) + (1 : Int64)) + (1 : Int64)))))), .second] [(.long (4 : Int64)), (.long x0), (.long (f6 (f5 (f4 (((0 : Int64) + (1 : Int64)) + (1 : Int64))) (((x0 + (f4 (((0 : Int64) + (1 : Int64)) + (1 : Int64)))) + (f4 (((0 : Int64) + (1 : Int64)) + (1 : Int64)))) + (f4 (((0 : Int64) + (1 : Int64)) + (1 : Int64)))))))]))
        refine g_lload X50 hx 147 (hb hby at_145) rfl rfl ?_
        show Go p e below s _ _ _ (T50.setTop (mkF m 147 #[.val (.long x0), .second, .val (.int x1), .val (.int (v0_s x1)), .val (.ref b1), .val (.long (f4 ((v0_s x1).toInt64))), .second, .val (.long (f5 (f4 (((0 : Int64) + (1 : Int64)) + (1 : Int64))) x0)), .second, .val (.long (f5 (f4 (((0 : Int64) + (1 : Int64)) + (1 : Int64))) (x0 + (f4 (((0 : Int64) + (1 : Int64)) + (1 : Int64)))))), .second, .val (.long (f5 (f4 (((0 : Int64) + (1 : Int64)) + (1 : Int64))) ((x0 + (f4 (((0 : Int64) + (1 : Int64)) + (1 : Int64)))) + (f4 (((0 : Int64) + (1 : Int64)) + (1 : Int64)))))), .second, .val (.long (f5 (f4 (((0 : Int64) + (1 : Int64)) + (1 : Int64))) (((x0 + (f4 (((0 : Int64) + (1 : Int64)) + (1 : Int64)))) + (f4 (((0 : Int64) + (1 : Int64)) + (1 : Int64)))) + (f4 (((0 : Int64) + (1 : Int64)) + (1 : Int64)))))), .second] [(.long (f4 ((v0_s x1).toInt64))), (.long (4 : Int64)), (.long x0), (.long (f6 (f5 (f4 (((0 : Int64) + (1 : Int64)) + (1 : Int64))) (((x0 + (f4 (((0 : Int64) + (1 : Int64)) + (1 : Int64)))) + (f4 (((0 : Int64) + (1 : Int64)) + (1 : Int64)))) + (f4 (((0 : Int64) + (1 : Int64)) + (1 : Int64)))))))]))
        refine g_lmul X50 hx 148 (hb hby at_147) rfl ?_
        show Go p e below s _ _ _ (T50.setTop (mkF m 148 #[.val (.long x0), .second, .val (.int x1), .val (.int (v0_s x1)), .val (.ref b1), .val (.long (f4 ((v0_s x1).toInt64))), .second, .val (.long (f5 (f4 (((0 : Int64) + (1 : Int64)) + (1 : Int64))) x0)), .second, .val (.long (f5 (f4 (((0 : Int64) + (1 : Int64)) + (1 : Int64))) (x0 + (f4 (((0 : Int64) + (1 : Int64)) + (1 : Int64)))))), .second, .val (.long (f5 (f4 (((0 : Int64) + (1 : Int64)) + (1 : Int64))) ((x0 + (f4 (((0 : Int64) + (1 : Int64)) + (1 : Int64)))) + (f4 (((0 : Int64) + (1 : Int64)) + (1 : Int64)))))), .second, .val (.long (f5 (f4 (((0 : Int64) + (1 : Int64)) + (1 : Int64))) (((x0 + (f4 (((0 : Int64) + (1 : Int64)) + (1 : Int64)))) + (f4 (((0 : Int64) + (1 : Int64)) + (1 : Int64)))) + (f4 (((0 : Int64) + (1 : Int64)) + (1 : Int64)))))), .second] [(.long ((4 : Int64) * (f4 ((v0_s x1).toInt64)))), (.long x0), (.long (f6 (f5 (f4 (((0 : Int64) + (1 : Int64)) + (1 : Int64))) (((x0 + (f4 (((0 : Int64) + (1 : Int64)) + (1 : Int64)))) + (f4 (((0 : Int64) + (1 : Int64)) + (1 : Int64)))) + (f4 (((0 : Int64) + (1 : Int64)) + (1 : Int64)))))))]))
        refine g_ladd X50 hx 149 (hb hby at_148) rfl ?_
        show Go p e below s _ _ _ (T50.setTop (mkF m 149 #[.val (.long x0), .second, .val (.int x1), .val (.int (v0_s x1)), .val (.ref b1), .val (.long (f4 ((v0_s x1).toInt64))), .second, .val (.long (f5 (f4 (((0 : Int64) + (1 : Int64)) + (1 : Int64))) x0)), .second, .val (.long (f5 (f4 (((0 : Int64) + (1 : Int64)) + (1 : Int64))) (x0 + (f4 (((0 : Int64) + (1 : Int64)) + (1 : Int64)))))), .second, .val (.long (f5 (f4 (((0 : Int64) + (1 : Int64)) + (1 : Int64))) ((x0 + (f4 (((0 : Int64) + (1 : Int64)) + (1 : Int64)))) + (f4 (((0 : Int64) + (1 : Int64)) + (1 : Int64)))))), .second, .val (.long (f5 (f4 (((0 : Int64) + (1 : Int64)) + (1 : Int64))) (((x0 + (f4 (((0 : Int64) + (1 : Int64)) + (1 : Int64)))) + (f4 (((0 : Int64) + (1 : Int64)) + (1 : Int64)))) + (f4 (((0 : Int64) + (1 : Int64)) + (1 : Int64)))))), .second] [(.long (x0 + ((4 : Int64) * (f4 ((v0_s x1).toInt64))))), (.long (f6 (f5 (f4 (((0 : Int64) + (1 : Int64)) + (1 : Int64))) (((x0 + (f4 (((0 : Int64) + (1 : Int64)) + (1 : Int64)))) + (f4 (((0 : Int64) + (1 : Int64)) + (1 : Int64)))) + (f4 (((0 : Int64) + (1 : Int64)) + (1 : Int64)))))))]))
        refine g_lcmp X50 hx 150 (hb hby at_149) rfl ?_
        show Go p e below s _ _ _ (T50.setTop (mkF m 150 #[.val (.long x0), .second, .val (.int x1), .val (.int (v0_s x1)), .val (.ref b1), .val (.long (f4 ((v0_s x1).toInt64))), .second, .val (.long (f5 (f4 (((0 : Int64) + (1 : Int64)) + (1 : Int64))) x0)), .second, .val (.long (f5 (f4 (((0 : Int64) + (1 : Int64)) + (1 : Int64))) (x0 + (f4 (((0 : Int64) + (1 : Int64)) + (1 : Int64)))))), .second, .val (.long (f5 (f4 (((0 : Int64) + (1 : Int64)) + (1 : Int64))) ((x0 + (f4 (((0 : Int64) + (1 : Int64)) + (1 : Int64)))) + (f4 (((0 : Int64) + (1 : Int64)) + (1 : Int64)))))), .second, .val (.long (f5 (f4 (((0 : Int64) + (1 : Int64)) + (1 : Int64))) (((x0 + (f4 (((0 : Int64) + (1 : Int64)) + (1 : Int64)))) + (f4 (((0 : Int64) + (1 : Int64)) + (1 : Int64)))) + (f4 (((0 : Int64) + (1 : Int64)) + (1 : Int64)))))), .second] [(.int (lcmpW (f6 (f5 (f4 (((0 : Int64) + (1 : Int64)) + (1 : Int64))) (((x0 + (f4 (((0 : Int64) + (1 : Int64)) + (1 : Int64)))) + (f4 (((0 : Int64) + (1 : Int64)) + (1 : Int64)))) + (f4 (((0 : Int64) + (1 : Int64)) + (1 : Int64)))))) (x0 + ((4 : Int64) * (f4 ((v0_s x1).toInt64))))))]))
        have h51 : (f6 (f5 (f4 (((0 : Int64) + (1 : Int64)) + (1 : Int64))) (((x0 + (f4 (((0 : Int64) + (1 : Int64)) + (1 : Int64)))) + (f4 (((0 : Int64) + (1 : Int64)) + (1 : Int64)))) + (f4 (((0 : Int64) + (1 : Int64)) + (1 : Int64)))))) = (x0 + ((4 : Int64) * (f4 ((v0_s x1).toInt64)))) := own_u4 x0 _ _ (own_efft ‹¬ v0_s x1 < (2 : Int32)› ‹v0_s x1 < (3 : Int32)›)
        refine g_lc_ne X50 hx 157 153 (hb hby at_150) (by decide) rfl rfl (fun _ => ?_) (fun q => absurd h51 q)
        show Go p e below s _ _ _ (T50.setTop (mkF m 153 #[.val (.long x0), .second, .val (.int x1), .val (.int (v0_s x1)), .val (.ref b1), .val (.long (f4 ((v0_s x1).toInt64))), .second, .val (.long (f5 (f4 (((0 : Int64) + (1 : Int64)) + (1 : Int64))) x0)), .second, .val (.long (f5 (f4 (((0 : Int64) + (1 : Int64)) + (1 : Int64))) (x0 + (f4 (((0 : Int64) + (1 : Int64)) + (1 : Int64)))))), .second, .val (.long (f5 (f4 (((0 : Int64) + (1 : Int64)) + (1 : Int64))) ((x0 + (f4 (((0 : Int64) + (1 : Int64)) + (1 : Int64)))) + (f4 (((0 : Int64) + (1 : Int64)) + (1 : Int64)))))), .second, .val (.long (f5 (f4 (((0 : Int64) + (1 : Int64)) + (1 : Int64))) (((x0 + (f4 (((0 : Int64) + (1 : Int64)) + (1 : Int64)))) + (f4 (((0 : Int64) + (1 : Int64)) + (1 : Int64)))) + (f4 (((0 : Int64) + (1 : Int64)) + (1 : Int64)))))), .second] []))
        refine g_iconst X50 hx (1 : Int32) 154 (hb hby at_153) rfl rfl ?_
        show Go p e below s _ _ _ (T50.setTop (mkF m 154 #[.val (.long x0), .second, .val (.int x1), .val (.int (v0_s x1)), .val (.ref b1), .val (.long (f4 ((v0_s x1).toInt64))), .second, .val (.long (f5 (f4 (((0 : Int64) + (1 : Int64)) + (1 : Int64))) x0)), .second, .val (.long (f5 (f4 (((0 : Int64) + (1 : Int64)) + (1 : Int64))) (x0 + (f4 (((0 : Int64) + (1 : Int64)) + (1 : Int64)))))), .second, .val (.long (f5 (f4 (((0 : Int64) + (1 : Int64)) + (1 : Int64))) ((x0 + (f4 (((0 : Int64) + (1 : Int64)) + (1 : Int64)))) + (f4 (((0 : Int64) + (1 : Int64)) + (1 : Int64)))))), .second, .val (.long (f5 (f4 (((0 : Int64) + (1 : Int64)) + (1 : Int64))) (((x0 + (f4 (((0 : Int64) + (1 : Int64)) + (1 : Int64)))) + (f4 (((0 : Int64) + (1 : Int64)) + (1 : Int64)))) + (f4 (((0 : Int64) + (1 : Int64)) + (1 : Int64)))))), .second] [(.int (1 : Int32))]))
        refine g_goto X50 hx 158 (hb hby at_154) (by decide) rfl ?_
        show Go p e below s _ _ _ (T50.setTop (mkF m 158 #[.val (.long x0), .second, .val (.int x1), .val (.int (v0_s x1)), .val (.ref b1), .val (.long (f4 ((v0_s x1).toInt64))), .second, .val (.long (f5 (f4 (((0 : Int64) + (1 : Int64)) + (1 : Int64))) x0)), .second, .val (.long (f5 (f4 (((0 : Int64) + (1 : Int64)) + (1 : Int64))) (x0 + (f4 (((0 : Int64) + (1 : Int64)) + (1 : Int64)))))), .second, .val (.long (f5 (f4 (((0 : Int64) + (1 : Int64)) + (1 : Int64))) ((x0 + (f4 (((0 : Int64) + (1 : Int64)) + (1 : Int64)))) + (f4 (((0 : Int64) + (1 : Int64)) + (1 : Int64)))))), .second, .val (.long (f5 (f4 (((0 : Int64) + (1 : Int64)) + (1 : Int64))) (((x0 + (f4 (((0 : Int64) + (1 : Int64)) + (1 : Int64)))) + (f4 (((0 : Int64) + (1 : Int64)) + (1 : Int64)))) + (f4 (((0 : Int64) + (1 : Int64)) + (1 : Int64)))))), .second] [(.int (1 : Int32))]))
        exact g_retN X50 hx hret (by simp) hlk (hb hby at_158) (by decide) (by decide) ⟨rfl, NS50⟩
      · show Go p e below s _ _ _ (T36.setTop (mkF m 39 #[.val (.long x0), .second, .val (.int x1), .val (.int (v0_s x1)), .val (.ref b1), .unset, .unset, .unset, .unset, .unset, .unset, .unset, .unset, .unset, .unset] []))
        refine g_aload X36 hx 41 (hb hby at_39) rfl rfl rfl ?_
        show Go p e below s _ _ _ (T36.setTop (mkF m 41 #[.val (.long x0), .second, .val (.int x1), .val (.int (v0_s x1)), .val (.ref b1), .unset, .unset, .unset, .unset, .unset, .unset, .unset, .unset, .unset, .unset] [(.ref b1)]))
        refine g_callV X36 hx hZ hown (hw _ (List.mem_of_getElem? (i := 16) rfl)) (hw _ (List.mem_of_getElem? (i := 17) rfl)) (hw _ (List.mem_of_getElem? (i := 19) rfl)) (hw _ (List.mem_of_getElem? (i := 18) rfl)) (hw _ (List.mem_of_getElem? (i := 2) rfl)) (hw _ (List.mem_of_getElem? (i := 20) rfl)) (by decide) rfl b1 k36_1 (rm3 l Z a0 hw [] b1 x0 (((0 : Int64) + (1 : Int64)) + (1 : Int64)) (f4 (((0 : Int64) + (1 : Int64)) + (1 : Int64))) x0 T36.heap n0 Z36 k36_1 p36_0 p36_1 p36_2 p36_3 N_b1) [] [] 0 rfl (lenOf pd__28_29V rfl) rfl (Nat.le_of_eq rfl) (by decide) (by decide) (by decide) (by decide) (by rw [hml]; rfl) (hb hby at_41) ?_
        intro T52 L52 v52 X52 q52
        obtain ⟨rfl, N52, K52, p52_0, p52_1, p52_2, p52_3⟩ := q52
        have NN52 := Fr.app NN36 N52
        have k52_1 := k36_1.keep K52
        have Z52 : n0 ≤ T52.heap.size := Nat.le_trans Z36 K52.1
        show Go p e below s _ _ _ (T52.setTop (mkF m 44 #[.val (.long x0), .second, .val (.int x1), .val (.int (v0_s x1)), .val (.ref b1), .unset, .unset, .unset, .unset, .unset, .unset, .unset, .unset, .unset, .unset] []))
        refine g_iloadN X52 hx 45 (hb hby at_44) rfl rfl ?_
        show Go p e below s _ _ _ (T52.setTop (mkF m 45 #[.val (.long x0), .second, .val (.int x1), .val (.int (v0_s x1)), .val (.ref b1), .unset, .unset, .unset, .unset, .unset, .unset, .unset, .unset, .unset, .unset] [(.int (v0_s x1))]))
        have h53 : ¬ ((v0_s x1) = (0 : Int32)) := by rw [own_s3 ‹¬ v0_s x1 < (3 : Int32)›]; decide
        refine g_if0_ne X52 hx 54 48 (hb hby at_45) (by decide) rfl rfl (fun q => absurd q h53) (fun _ => ?_)
        show Go p e below s _ _ _ (T52.setTop (mkF m 54 #[.val (.long x0), .second, .val (.int x1), .val (.int (v0_s x1)), .val (.ref b1), .unset, .unset, .unset, .unset, .unset, .unset, .unset, .unset, .unset, .unset] []))
        refine g_iloadN X52 hx 55 (hb hby at_54) rfl rfl ?_
        show Go p e below s _ _ _ (T52.setTop (mkF m 55 #[.val (.long x0), .second, .val (.int x1), .val (.int (v0_s x1)), .val (.ref b1), .unset, .unset, .unset, .unset, .unset, .unset, .unset, .unset, .unset, .unset] [(.int (v0_s x1))]))
        refine g_i2l X52 hx 56 (hb hby at_55) rfl ?_
        show Go p e below s _ _ _ (T52.setTop (mkF m 56 #[.val (.long x0), .second, .val (.int x1), .val (.int (v0_s x1)), .val (.ref b1), .unset, .unset, .unset, .unset, .unset, .unset, .unset, .unset, .unset, .unset] [(.long ((v0_s x1).toInt64))]))
        refine g_callS X52 hx hZ hown (hw _ (List.mem_of_getElem? (i := 30) rfl)) (hw _ (List.mem_of_getElem? (i := 24) rfl)) (hw _ (List.mem_of_getElem? (i := 2) rfl)) (hw _ (List.mem_of_getElem? (i := 25) rfl)) (by decide) rfl (rm4 l Z a0 hw [] ((v0_s x1).toInt64) T52.heap) [(.long ((v0_s x1).toInt64))] [] 0 rfl (lenOf pd__28J_29J rfl) rfl (Nat.le_of_eq rfl) (by decide) (by decide) (by decide) (by decide) (by rw [hml]; rfl) (hb hby at_56) ?_
        intro T54 L54 v54 X54 q54
        obtain ⟨rfl, rfl, e54⟩ := q54
        have NS54 := Fr.app NN52 (Fr.nil n0)
        show Go p e below s _ _ _ (T54.setTop (mkF m 59 #[.val (.long x0), .second, .val (.int x1), .val (.int (v0_s x1)), .val (.ref b1), .unset, .unset, .unset, .unset, .unset, .unset, .unset, .unset, .unset, .unset] [(.long (f4 ((v0_s x1).toInt64)))]))
        refine g_lstore X54 hx #[.val (.long x0), .second, .val (.int x1), .val (.int (v0_s x1)), .val (.ref b1), .val (.long (f4 ((v0_s x1).toInt64))), .second, .unset, .unset, .unset, .unset, .unset, .unset, .unset, .unset] 61 (hb hby at_59) rfl rfl ?_
        show Go p e below s _ _ _ (T54.setTop (mkF m 61 #[.val (.long x0), .second, .val (.int x1), .val (.int (v0_s x1)), .val (.ref b1), .val (.long (f4 ((v0_s x1).toInt64))), .second, .unset, .unset, .unset, .unset, .unset, .unset, .unset, .unset] []))
        refine g_aload X54 hx 63 (hb hby at_61) rfl rfl rfl ?_
        show Go p e below s _ _ _ (T54.setTop (mkF m 63 #[.val (.long x0), .second, .val (.int x1), .val (.int (v0_s x1)), .val (.ref b1), .val (.long (f4 ((v0_s x1).toInt64))), .second, .unset, .unset, .unset, .unset, .unset, .unset, .unset, .unset] [(.ref b1)]))
        refine g_callV X54 hx hZ hown (hw _ (List.mem_of_getElem? (i := 31) rfl)) (hw _ (List.mem_of_getElem? (i := 32) rfl)) (hw _ (List.mem_of_getElem? (i := 34) rfl)) (hw _ (List.mem_of_getElem? (i := 33) rfl)) (hw _ (List.mem_of_getElem? (i := 2) rfl)) (hw _ (List.mem_of_getElem? (i := 35) rfl)) (by decide) e54 b1 k52_1 (rm5 l Z a0 hw [] b1 (f4 ((((0 : Int64) + (1 : Int64)) + (1 : Int64)) + (1 : Int64))) x0 T52.heap n0 Z52 k52_1 p52_2 p52_3 N_b1) [] [] 0 rfl (lenOf pd__28_29J rfl) rfl (Nat.le_of_eq rfl) (by decide) (by decide) (by decide) (by decide) (by rw [hml]; rfl) (hb hby at_63) ?_
        intro T55 L55 v55 X55 q55
        obtain ⟨rfl, N55, K55, p55_0, p55_1⟩ := q55
        have NN55 := Fr.app NS54 N55
        have k55_1 := k52_1.keep K55
        have Z55 : n0 ≤ T55.heap.size := Nat.le_trans Z52 K55.1
        show Go p e below s _ _ _ (T55.setTop (mkF m 66 #[.val (.long x0), .second, .val (.int x1), .val (.int (v0_s x1)), .val (.ref b1), .val (.long (f4 ((v0_s x1).toInt64))), .second, .unset, .unset, .unset, .unset, .unset, .unset, .unset, .unset] [(.long (f5 (f4 ((((0 : Int64) + (1 : Int64)) + (1 : Int64)) + (1 : Int64))) x0))]))
        refine g_lstore X55 hx #[.val (.long x0), .second, .val (.int x1), .val (.int (v0_s x1)), .val (.ref b1), .val (.long (f4 ((v0_s x1).toInt64))), .second, .val (.long (f5 (f4 ((((0 : Int64) + (1 : Int64)) + (1 : Int64)) + (1 : Int64))) x0)), .second, .unset, .unset, .unset, .unset, .unset, .unset] 68 (hb hby at_66) rfl rfl ?_
        show Go p e below s _ _ _ (T55.setTop (mkF m 68 #[.val (.long x0), .second, .val (.int x1), .val (.int (v0_s x1)), .val (.ref b1), .val (.long (f4 ((v0_s x1).toInt64))), .second, .val (.long (f5 (f4 ((((0 : Int64) + (1 : Int64)) + (1 : Int64)) + (1 : Int64))) x0)), .second, .unset, .unset, .unset, .unset, .unset, .unset] []))
        refine g_aload X55 hx 70 (hb hby at_68) rfl rfl rfl ?_
        show Go p e below s _ _ _ (T55.setTop (mkF m 70 #[.val (.long x0), .second, .val (.int x1), .val (.int (v0_s x1)), .val (.ref b1), .val (.long (f4 ((v0_s x1).toInt64))), .second, .val (.long (f5 (f4 ((((0 : Int64) + (1 : Int64)) + (1 : Int64)) + (1 : Int64))) x0)), .second, .unset, .unset, .unset, .unset, .unset, .unset] [(.ref b1)]))
        refine g_callV X55 hx hZ hown (hw _ (List.mem_of_getElem? (i := 31) rfl)) (hw _ (List.mem_of_getElem? (i := 32) rfl)) (hw _ (List.mem_of_getElem? (i := 34) rfl)) (hw _ (List.mem_of_getElem? (i := 33) rfl)) (hw _ (List.mem_of_getElem? (i := 2) rfl)) (hw _ (List.mem_of_getElem? (i := 35) rfl)) (by decide) rfl b1 k55_1 (rm5 l Z a0 hw [] b1 (f4 ((((0 : Int64) + (1 : Int64)) + (1 : Int64)) + (1 : Int64))) (x0 + (f4 ((((0 : Int64) + (1 : Int64)) + (1 : Int64)) + (1 : Int64)))) T55.heap n0 Z55 k55_1 p55_0 p55_1 N_b1) [] [] 0 rfl (lenOf pd__28_29J rfl) rfl (Nat.le_of_eq rfl) (by decide) (by decide) (by decide) (by decide) (by rw [hml]; rfl) (hb hby at_70) ?_
        intro T56 L56 v56 X56 q56
        obtain ⟨rfl, N56, K56, p56_0, p56_1⟩ := q56
        have NN56 := Fr.app NN55 N56
        have k56_1 := k55_1.keep K56
        have Z56 : n0 ≤ T56.heap.size := Nat.le_trans Z55 K56.1
        show Go p e below s _ _ _ (T56.setTop (mkF m 73 #[.val (.long x0), .second, .val (.int x1), .val (.int (v0_s x1)), .val (.ref b1), .val (.long (f4 ((v0_s x1).toInt64))), .second, .val (.long (f5 (f4 ((((0 : Int64) + (1 : Int64)) + (1 : Int64)) + (1 : Int64))) x0)), .second, .unset, .unset, .unset, .unset, .unset, .unset] [(.long (f5 (f4 ((((0 : Int64) + (1 : Int64)) + (1 : Int64)) + (1 : Int64))) (x0 + (f4 ((((0 : Int64) + (1 : Int64)) + (1 : Int64)) + (1 : Int64))))))]))
        refine g_lstore X56 hx #[.val (.long x0), .second, .val (.int x1), .val (.int (v0_s x1)), .val (.ref b1), .val (.long (f4 ((v0_s x1).toInt64))), .second, .val (.long (f5 (f4 ((((0 : Int64) + (1 : Int64)) + (1 : Int64)) + (1 : Int64))) x0)), .second, .val (.long (f5 (f4 ((((0 : Int64) + (1 : Int64)) + (1 : Int64)) + (1 : Int64))) (x0 + (f4 ((((0 : Int64) + (1 : Int64)) + (1 : Int64)) + (1 : Int64)))))), .second, .unset, .unset, .unset, .unset] 75 (hb hby at_73) rfl rfl ?_
        show Go p e below s _ _ _ (T56.setTop (mkF m 75 #[.val (.long x0), .second, .val (.int x1), .val (.int (v0_s x1)), .val (.ref b1), .val (.long (f4 ((v0_s x1).toInt64))), .second, .val (.long (f5 (f4 ((((0 : Int64) + (1 : Int64)) + (1 : Int64)) + (1 : Int64))) x0)), .second, .val (.long (f5 (f4 ((((0 : Int64) + (1 : Int64)) + (1 : Int64)) + (1 : Int64))) (x0 + (f4 ((((0 : Int64) + (1 : Int64)) + (1 : Int64)) + (1 : Int64)))))), .second, .unset, .unset, .unset, .unset] []))
        refine g_aload X56 hx 77 (hb hby at_75) rfl rfl rfl ?_
        show Go p e below s _ _ _ (T56.setTop (mkF m 77 #[.val (.long x0), .second, .val (.int x1), .val (.int (v0_s x1)), .val (.ref b1), .val (.long (f4 ((v0_s x1).toInt64))), .second, .val (.long (f5 (f4 ((((0 : Int64) + (1 : Int64)) + (1 : Int64)) + (1 : Int64))) x0)), .second, .val (.long (f5 (f4 ((((0 : Int64) + (1 : Int64)) + (1 : Int64)) + (1 : Int64))) (x0 + (f4 ((((0 : Int64) + (1 : Int64)) + (1 : Int64)) + (1 : Int64)))))), .second, .unset, .unset, .unset, .unset] [(.ref b1)]))
        refine g_callV X56 hx hZ hown (hw _ (List.mem_of_getElem? (i := 31) rfl)) (hw _ (List.mem_of_getElem? (i := 32) rfl)) (hw _ (List.mem_of_getElem? (i := 34) rfl)) (hw _ (List.mem_of_getElem? (i := 33) rfl)) (hw _ (List.mem_of_getElem? (i := 2) rfl)) (hw _ (List.mem_of_getElem? (i := 35) rfl)) (by decide) rfl b1 k56_1 (rm5 l Z a0 hw [] b1 (f4 ((((0 : Int64) + (1 : Int64)) + (1 : Int64)) + (1 : Int64))) ((x0 + (f4 ((((0 : Int64) + (1 : Int64)) + (1 : Int64)) + (1 : Int64)))) + (f4 ((((0 : Int64) + (1 : Int64)) + (1 : Int64)) + (1 : Int64)))) T56.heap n0 Z56 k56_1 p56_0 p56_1 N_b1) [] [] 0 rfl (lenOf pd__28_29J rfl) rfl (Nat.le_of_eq rfl) (by decide) (by decide) (by decide) (by decide) (by rw [hml]; rfl) (hb hby at_77) ?_
        intro T57 L57 v57 X57 q57
        obtain ⟨rfl, N57, K57, p57_0, p57_1⟩ := q57
        have NN57 := Fr.app NN56 N57
        have k57_1 := k56_1.keep K57
        have Z57 : n0 ≤ T57.heap.size := Nat.le_trans Z56 K57.1
        show Go p e below s _ _ _ (T57.setTop (mkF m 80 #[.val (.long x0), .second, .val (.int x1), .val (.int (v0_s x1)), .val (.ref b1), .val (.long (f4 ((v0_s x1).toInt64))), .second, .val (.long (f5 (f4 ((((0 : Int64) + (1 : Int64)) + (1 : Int64)) + (1 : Int64))) x0)), .second, .val (.long (f5 (f4 ((((0 : Int64) + (1 : Int64)) + (1 : Int64)) + (1 : Int64))) (x0 + (f4 ((((0 : Int64) + (1 : Int64)) + (1 : Int64)) + (1 : Int64)))))), .second, .unset, .unset, .unset, .unset] [(.long (f5 (f4 ((((0 : Int64) + (1 : Int64)) + (1 : Int64)) + (1 : Int64))) ((x0 + (f4 ((((0 : Int64) + (1 : Int64)) + (1 : Int64)) + (1 : Int64)))) + (f4 ((((0 : Int64) + (1 : Int64)) + (1 : Int64)) + (1 : Int64))))))]))
        refine g_lstore X57 hx #[.val (.long x0), .second, .val (.int x1), .val (.int (v0_s x1)), .val (.ref b1), .val (.long (f4 ((v0_s x1).toInt64))), .second, .val (.long (f5 (f4 ((((0 : Int64) + (1 : Int64)) + (1 : Int64)) + (1 : Int64))) x0)), .second, .val (.long (f5 (f4 ((((0 : Int64) + (1 : Int64)) + (1 : Int64)) + (1 : Int64))) (x0 + (f4 ((((0 : Int64) + (1 : Int64)) + (1 : Int64)) + (1 : Int64)))))), .second, .val (.long (f5 (f4 ((((0 : Int64) + (1 : Int64)) + (1 : Int64)) + (1 : Int64))) ((x0 + (f4 ((((0 : Int64) + (1 : Int64)) + (1 : Int64)) + (1 : Int64)))) + (f4 ((((0 : Int64) + (1 : Int64)) + (1 : Int64)) + (1 : Int64)))))), .second, .unset, .unset] 82 (hb hby at_80) rfl rfl ?_
        show Go p e below s _ _ _ (T57.setTop (mkF m 82 #[.val (.long x0), .second, .val (.int x1), .val (.int (v0_s x1)), .val (.ref b1), .val (.long (f4 ((v0_s x1).toInt64))), .second, .val (.long (f5 (f4 ((((0 : Int64) + (1 : Int64)) + (1 : Int64)) + (1 : Int64))) x0)), .second, .val (.long (f5 (f4 ((((0 : Int64) + (1 : Int64)) + (1 : Int64)) + (1 : Int64))) (x0 + (f4 ((((0 : Int64) + (1 : Int64)) + (1 : Int64)) + (1 : Int64)))))), .second, .val (.long (f5 (f4 ((((0 : Int64) + (1 : Int64)) + (1 : Int64)) + (1 : Int64))) ((x0 + (f4 ((((0 : Int64) + (1 : Int64)) + (1 : Int64)) + (1 : Int64)))) + (f4 ((((0 : Int64) + (1 : Int64)) + (1 : Int64)) + (1 : Int64)))))), .second, .unset, .unset] []))
        refine g_aload X57 hx 84 (hb hby at_82) rfl rfl rfl ?_
        show Go p e below s _ _ _ (T57.setTop (mkF m 84 #[.val (.long x0), .second, .val (.int x1), .val (.int (v0_s x1)), .val (.ref b1), .val (.long (f4 ((v0_s x1).toInt64))), .second, .val (.long (f5 (f4 ((((0 : Int64) + (1 : Int64)) + (1 : Int64)) + (1 : Int64))) x0)), .second, .val (.long (f5 (f4 ((((0 : Int64) + (1 : Int64)) + (1 : Int64)) + (1 : Int64))) (x0 + (f4 ((((0 : Int64) + (1 : Int64)) + (1 : Int64)) + (1 : Int64)))))), .second, .val (.long (f5 (f4 ((((0 : Int64) + (1 : Int64)) + (1 : Int64)) + (1 : Int64))) ((x0 + (f4 ((((0 : Int64) + (1 : Int64)) + (1 : Int64)) + (1 : Int64)))) + (f4 ((((0 : Int64) + (1 : Int64)) + (1 : Int64)) + (1 : Int64)))))), .second, .unset, .unset] [(.ref b1)]))
        refine g_callV X57 hx hZ hown (hw _ (List.mem_of_getElem? (i := 31) rfl)) (hw _ (List.mem_of_getElem? (i := 32) rfl)) (hw _ (List.mem_of_getElem? (i := 34) rfl)) (hw _ (List.mem_of_getElem? (i := 33) rfl)) (hw _ (List.mem_of_getElem? (i := 2) rfl)) (hw _ (List.mem_of_getElem? (i := 35) rfl)) (by decide) rfl b1 k57_1 (rm5 l Z a0 hw [] b1 (f4 ((((0 : Int64) + (1 : Int64)) + (1 : Int64)) + (1 : Int64))) (((x0 + (f4 ((((0 : Int64) + (1 : Int64)) + (1 : Int64)) + (1 : Int64)))) + (f4 ((((0 : Int64) + (1 : Int64)) + (1 : Int64)) + (1 : Int64)))) + (f4 ((((0 : Int64) + (1 : Int64)) + (1 : Int64)) + (1 : Int64)))) T57.heap n0 Z57 k57_1 p57_0 p57_1 N_b1) [] [] 0 rfl (lenOf pd__28_29J rfl) rfl (Nat.le_of_eq rfl) (by decide) (by decide) (by decide) (by decide) (by rw [hml]; rfl) (hb hby at_84) ?_
        intro T58 L58 v58 X58 q58
        obtain ⟨rfl, N58, K58, p58_0, p58_1⟩ := q58
        have NN58 := Fr.app NN57 N58
        have k58_1 := k57_1.keep K58
        have Z58 : n0 ≤ T58.heap.size := Nat.le_trans Z57 K58.1
        show Go p e below s _ _ _ (T58.setTop (mkF m 87 #[.val (.long x0), .second, .val (.int x1), .val (.int (v0_s x1)), .val (.ref b1), .val (.long (f4 ((v0_s x1).toInt64))), .second, .val (.long (f5 (f4 ((((0 : Int64) + (1 : Int64)) + (1 : Int64)) + (1 : Int64))) x0)), .second, .val (.long (f5 (f4 ((((0 : Int64) + (1 : Int64)) + (1 : Int64)) + (1 : Int64))) (x0 + (f4 ((((0 : Int64) + (1 : Int64)) + (1 : Int64)) + (1 : Int64)))))), .second, .val (.long (f5 (f4 ((((0 : Int64) + (1 : Int64)) + (1 : Int64)) + (1 : Int64))) ((x0 + (f4 ((((0 : Int64) + (1 : Int64)) + (1 : Int64)) + (1 : Int64)))) + (f4 ((((0 : Int64) + (1 : Int64)) + (1 : Int64)) + (1 : Int64)))))), .second, .unset, .unset] [(.long (f5 (f4 ((((0 : Int64) + (1 : Int64)) + (1 : Int64)) + (1 : Int64))) (((x0 + (f4 ((((0 : Int64) + (1 : Int64)) + (1 : Int64)) + (1 : Int64)))) + (f4 ((((0 : Int64) + (1 : Int64)) + (1 : Int64)) + (1 : Int64)))) + (f4 ((((0 : Int64) + (1 : Int64)) + (1 : Int64)) + (1 : Int64))))))]))
        refine g_lstore X58 hx #[.val (.long x0), .second, .val (.int x1), .val (.int (v0_s x1)), .val (.ref b1), .val (.long (f4 ((v0_s x1).toInt64))), .second, .val (.long (f5 (f4 ((((0 : Int64) + (1 : Int64)) + (1 : Int64)) + (1 : Int64))) x0)), .second, .val (.long (f5 (f4 ((((0 : Int64) + (1 : Int64)) + (1 : Int64)) + (1 : Int64))) (x0 + (f4 ((((0 : Int64) + (1 : Int64)) + (1 : Int64)) + (1 : Int64)))))), .second, .val (.long (f5 (f4 ((((0 : Int64) + (1 : Int64)) + (1 : Int64)) + (1 : Int64))) ((x0 + (f4 ((((0 : Int64) + (1 : Int64)) + (1 : Int64)) + (1 : Int64)))) + (f4 ((((0 : Int64) + (1 : Int64)) + (1 : Int64)) + (1 : Int64)))))), .second, .val (.long (f5 (f4 ((((0 : Int64) + (1 : Int64)) + (1 : Int64)) + (1 : Int64))) (((x0 + (f4 ((((0 : Int64) + (1 : Int64)) + (1 : Int64)) + (1 : Int64)))) + (f4 ((((0 : Int64) + (1 : Int64)) + (1 : Int64)) + (1 : Int64)))) + (f4 ((((0 : Int64) + (1 : Int64)) + (1 : Int64)) + (1 : Int64)))))), .second] 89 (hb hby at_87) rfl rfl ?_
        show Go p e below s _ _ _ (T58.setTop (mkF m 89 #[.val (.long x0), .second, .val (.int x1), .val (.int (v0_s x1)), .val (.ref b1), .val (.long (f4 ((v0_s x1).toInt64))), .second, .val (.long (f5 (f4 ((((0 : Int64) + (1 : Int64)) + (1 : Int64)) + (1 : Int64))) x0)), .second, .val (.long (f5 (f4 ((((0 : Int64) + (1 : Int64)) + (1 : Int64)) + (1 : Int64))) (x0 + (f4 ((((0 : Int64) + (1 : Int64)) + (1 : Int64)) + (1 : Int64)))))), .second, .val (.long (f5 (f4 ((((0 : Int64) + (1 : Int64)) + (1 : Int64)) + (1 : Int64))) ((x0 + (f4 ((((0 : Int64) + (1 : Int64)) + (1 : Int64)) + (1 : Int64)))) + (f4 ((((0 : Int64) + (1 : Int64)) + (1 : Int64)) + (1 : Int64)))))), .second, .val (.long (f5 (f4 ((((0 : Int64) + (1 : Int64)) + (1 : Int64)) + (1 : Int64))) (((x0 + (f4 ((((0 : Int64) + (1 : Int64)) + (1 : Int64)) + (1 : Int64)))) + (f4 ((((0 : Int64) + (1 : Int64)) + (1 : Int64)) + (1 : Int64)))) + (f4 ((((0 : Int64) + (1 : Int64)) + (1 : Int64)) + (1 : Int64)))))), .second] []))
        refine g_lload X58 hx 91 (hb hby at_89) rfl rfl ?_
        show Go p e below s _ _ _ (T58.setTop (mkF m 91 #[.val (.long x0), .second, .val (.int x1), .val (.int (v0_s x1)), .val (.ref b1), .val (.long (f4 ((v0_s x1).toInt64))), .second, .val (.long (f5 (f4 ((((0 : Int64) + (1 : Int64)) + (1 : Int64)) + (1 : Int64))) x0)), .second, .val (.long (f5 (f4 ((((0 : Int64) + (1 : Int64)) + (1 : Int64)) + (1 : Int64))) (x0 + (f4 ((((0 : Int64) + (1 : Int64)) + (1 : Int64)) + (1 : Int64)))))), .second, .val (.long (f5 (f4 ((((0 : Int64) + (1 : Int64)) + (1 : Int64)) + (1 : Int64))) ((x0 + (f4 ((((0 : Int64) + (1 : Int64)) + (1 : Int64)) + (1 : Int64)))) + (f4 ((((0 : Int64) + (1 : Int64)) + (1 : Int64)) + (1 : Int64)))))), .second, .val (.long (f5 (f4 ((((0 : Int64) + (1 : Int64)) + (1 : Int64)) + (1 : Int64))) (((x0 + (f4 ((((0 : Int64) + (1 : Int64)) + (1 : Int64)) + (1 : Int64)))) + (f4 ((((0 : Int64) + (1 : Int64)) + (1 : Int64)) + (1 : Int64)))) + (f4 ((((0 : Int64) + (1 : Int64)) + (1 : Int64)) + (1 : Int64)))))), .second] [(.long (f5 (f4 ((((0 : Int64) + (1 : Int64)) + (1 : Int64)) + (1 : Int64))) x0))]))
        refine g_callS X58 hx hZ hown (hw _ (List.mem_of_getElem? (i := 36) rfl)) (hw _ (List.mem_of_getElem? (i := 37) rfl)) (hw _ (List.mem_of_getElem? (i := 38) rfl)) (hw _ (List.mem_of_getElem? (i := 39) rfl)) (by decide) rfl (rm6 l Z a0 hw [] (f5 (f4 ((((0 : Int64) + (1 : Int64)) + (1 : Int64)) + (1 : Int64))) x0) T58.heap) [(.long (f5 (f4 ((((0 : Int64) + (1 : Int64)) + (1 : Int64)) + (1 : Int64))) x0))] [] 0 rfl (lenOf pd__28J_29J rfl) rfl (Nat.le_of_eq rfl) (by decide) (by decide) (by decide) (by decide) (by rw [hml]; rfl) (hb hby at_91) ?_
        intro T59 L59 v59 X59 q59
        obtain ⟨rfl, rfl, e59⟩ := q59
        have NS59 := Fr.app NN58 (Fr.nil n0)
        show Go p e below s _ _ _ (T59.setTop (mkF m 94 #[.val (.long x0), .second, .val (.int x1), .val (.int (v0_s x1)), .val (.ref b1), .val (.long (f4 ((v0_s x1).toInt64))), .second, .val (.long (f5 (f4 ((((0 : Int64) + (1 : Int64)) + (1 : Int64)) + (1 : Int64))) x0)), .second, .val (.long (f5 (f4 ((((0 : Int64) + (1 : Int64)) + (1 : Int64)) + (1 : Int64))) (x0 + (f4 ((((0 : Int64) + (1 : Int64)) + (1 : Int64)) + (1 : Int64)))))), .second, .val (.long (f5 (f4 ((((0 : Int64) + (1 : Int64)) + (1 : Int64)) + (1 : Int64))) ((x0 + (f4 ((((0 : Int64) + (1 : Int64)) + (1 : Int64)) + (1 : Int64)))) + (f4 ((((0 : Int64) + (1 : Int64)) + (1 : Int64)) + (1 : Int64)))))), .second, .val (.long (f5 (f4 ((((0 : Int64) + (1 : Int64)) + (1 : Int64)) + (1 : Int64))) (((x0 + (f4 ((((0 : Int64) + (1 : Int64)) + (1 : Int64)) + (1 : Int64)))) + (f4 ((((0 : Int64) + (1 : Int64)) + (1 : Int64)) + (1 : Int64)))) + (f4 ((((0 : Int64) + (1 : Int64)) + (1 : Int64)) + (1 : Int64)))))), .second] [(.long (f6 (f5 (f4 ((((0 : Int64) + (1 : Int64)) + (1 : Int64)) + (1 : Int64))) x0)))]))
        refine g_lloadN X59 hx 95 (hb hby at_94) rfl rfl ?_
        show Go p e below s _ _ _ (T59.setTop (mkF m 95 #[.val (.long x0), .second, .val (.int x1), .val (.int (v0_s x1)), .val (.ref b1), .val (.long (f4 ((v0_s x1).toInt64))), .second, .val (.long (f5 (f4 ((((0 : Int64) + (1 : Int64)) + (1 : Int64)) + (1 : Int64))) x0)), .second, .val (.long (f5 (f4 ((((0 : Int64) + (1 : Int64)) + (1 : Int64)) + (1 : Int64))) (x0 + (f4 ((((0 : Int64) + (1 : Int64)) + (1 : Int64)) + (1 : Int64)))))), .second, .val (.long (f5 (f4 ((((0 : Int64) + (1 : Int64)) + (1 : Int64)) + (1 : Int64))) ((x0 + (f4 ((((0 : Int64) + (1 : Int64)) + (1 : Int64)) + (1 : Int64)))) + (f4 ((((0 : Int64) + (1 : Int64)) + (1 : Int64)) + (1 : Int64)))))), .second, .val (.long (f5 (f4 ((((0 : Int64) + (1 : Int64)) + (1 : Int64)) + (1 : Int64))) (((x0 + (f4 ((((0 : Int64) + (1 : Int64)) + (1 : Int64)) + (1 : Int64)))) + (f4 ((((0 : Int64) + (1 : Int64)) + (1 : Int64)) + (1 : Int64)))) + (f4 ((((0 : Int64) + (1 : Int64)) + (1 : Int64)) + (1 : Int64)))))), .second] [(.long x0), (.long (f6 (f5 (f4 ((((0 : Int64) + (1 : Int64)) + (1 : Int64)) + (1 : Int64))) x0)))]))
        refine g_lload X59 hx 97 (hb hby at_95) rfl rfl ?_
        show Go p e below s _ _ _ (T59.setTop (mkF m 97 #[.val (.long x0), .second, .val (.int x1), .val (.int (v0_s x1)), .val (.ref b1), .val (.long (f4 ((v0_s x1).toInt64))), .second, .val (.long (f5 (f4 ((((0 : Int64) + (1 : Int64)) + (1 : Int64)) + (1 : Int64))) x0)), .second, .val (.long (f5 (f4 ((((0 : Int64) + (1 : Int64)) + (1 : Int64)) + (1 : Int64))) (x0 + (f4 ((((0 : Int64) + (1 : Int64)) + (1 : Int64)) + (1 : Int64)))))), .second, .val (.long (f5 (f4 ((((0 : Int64) + (1 : Int64)) + (1 : Int64)) + (1 : Int64))) ((x0 + (f4 ((((0 : Int64) + (1 : Int64)) + (1 : Int64)) + (1 : Int64)))) + (f4 ((((0 : Int64) + (1 : Int64)) + (1 : Int64)) + (1 : Int64)))))), .second, .val (.long (f5 (f4 ((((0 : Int64) + (1 : Int64)) + (1 : Int64)) + (1 : Int64))) (((x0 + (f4 ((((0 : Int64) + (1 : Int64)) + (1 : Int64)) + (1 : Int64)))) + (f4 ((((0 : Int64) + (1 : Int64)) + (1 : Int64)) + (1 : Int64)))) + (f4 ((((0 : Int64) + (1 : Int64)) + (1 : Int64)) + (1 : Int64)))))), .second] [(.long (f4 ((v0_s x1).toInt64))), (.long x0), (.long (f6 (f5 (f4 ((((0 : Int64) + (1 : Int64)) + (1 : Int64)) + (1 : Int64))) x0)))]))
        refine g_ladd X59 hx 98 (hb hby at_97) rfl ?_
        show Go p e below s _ _ _ (T59.setTop (mkF m 98 #[.val (.long x0), .second, .val (.int x1), .val (.int (v0_s x1)), .val (.ref b1), .val (.long (f4 ((v0_s x1).toInt64))), .second, .val (.long (f5 (f4 ((((0 : Int64) + (1 : Int64)) + (1 : Int64)) + (1 : Int64))) x0)), .second, .val (.long (f5 (f4 ((((0 : Int64) + (1 : Int64)) + (1 : Int64)) + (1 : Int64))) (x0 + (f4 ((((0 : Int64) + (1 : Int64)) + (1 : Int64)) + (1 : Int64)))))), .second, .val (.long (f5 (f4 ((((0 : Int64) + (1 : Int64)) + (1 : Int64)) + (1 : Int64))) ((x0 + (f4 ((((0 : Int64) + (1 : Int64)) + (1 : Int64)) + (1 : Int64)))) + (f4 ((((0 : Int64) + (1 : Int64)) + (1 : Int64)) + (1 : Int64)))))), .second, .val (.long (f5 (f4 ((((0 : Int64) + (1 : Int64)) + (1 : Int64)) + (1 : Int64))) (((x0 + (f4 ((((0 : Int64) + (1 : Int64)) + (1 : Int64)) + (1 : Int64)))) + (f4 ((((0 : Int64) + (1 : Int64)) + (1 : Int64)) + (1 : Int64)))) + (f4 ((((0 : Int64) + (1 : Int64)) + (1 : Int64)) + (1 : Int64)))))), .second] [(.long (x0 + (f4 ((v0_s x1).toInt64)))), (.long (f6 (f5 (f4 ((((0 : Int64) + (1 : Int64)) + (1 : Int64)) + (1 : Int64))) x0)))]))
        refine g_lcmp X59 hx 99 (hb hby at_98) rfl ?_
        show Go p e below s _ _ _ (T59.setTop (mkF m 99 #[.val (.long x0), .second, .val (.int x1), .val (.int (v0_s x1)), .val (.ref b1), .val (.long (f4 ((v0_s x1).toInt64))), .second, .val (.long (f5 (f4 ((((0 : Int64) + (1 : Int64)) + (1 : Int64)) + (1 : Int64))) x0)), .second, .val (.long (f5 (f4 ((((0 : Int64) + (1 : Int64)) + (1 : Int64)) + (1 : Int64))) (x0 + (f4 ((((0 : Int64) + (1 : Int64)) + (1 : Int64)) + (1 : Int64)))))), .second, .val (.long (f5 (f4 ((((0 : Int64) + (1 : Int64)) + (1 : Int64)) + (1 : Int64))) ((x0 + (f4 ((((0 : Int64) + (1 : Int64)) + (1 : Int64)) + (1 : Int64)))) + (f4 ((((0 : Int64) + (1 : Int64)) + (1 : Int64)) + (1 : Int64)))))), .second, .val (.long (f5 (f4 ((((0 : Int64) + (1 : Int64)) + (1 : Int64)) + (1 : Int64))) (((x0 + (f4 ((((0 : Int64) + (1 : Int64)) + (1 : Int64)) + (1 : Int64)))) + (f4 ((((0 : Int64) + (1 : Int64)) + (1 : Int64)) + (1 : Int64)))) + (f4 ((((0 : Int64) + (1 : Int64)) + (1 : Int64)) + (1 : Int64)))))), .second] [(.int (lcmpW (f6 (f5 (f4 ((((0 : Int64) + (1 : Int64)) + (1 : Int64)) + (1 : Int64))) x0)) (x0 + (f4 ((v0_s x1).toInt64)))))]))
        have h60 : (f6 (f5 (f4 ((((0 : Int64) + (1 : Int64)) + (1 : Int64)) + (1 : Int64))) x0)) = (x0 + (f4 ((v0_s x1).toInt64))) := own_u1 x0 _ _ (own_efff ‹¬ v0_s x1 < (3 : Int32)›)
        refine g_lc_ne X59 hx 157 102 (hb hby at_99) (by decide) rfl rfl (fun _ => ?_) (fun q => absurd h60 q)
        show Go p e below s _ _ _ (T59.setTop (mkF m 102 #[.val (.long x0), .second, .val (.int x1), .val (.int (v0_s x1)), .val (.ref b1), .val (.long (f4 ((v0_s x1).toInt64))), .second, .val (.long (f5 (f4 ((((0 : Int64) + (1 : Int64)) + (1 : Int64)) + (1 : Int64))) x0)), .second, .val (.long (f5 (f4 ((((0 : Int64) + (1 : Int64)) + (1 : Int64)) + (1 : Int64))) (x0 + (f4 ((((0 : Int64) + (1 : Int64)) + (1 : Int64)) + (1 : Int64)))))), .second, .val (.long (f5 (f4 ((((0 : Int64) + (1 : Int64)) + (1 : Int64)) + (1 : Int64))) ((x0 + (f4 ((((0 : Int64) + (1 : Int64)) + (1 : Int64)) + (1 : Int64)))) + (f4 ((((0 : Int64) + (1 : Int64)) + (1 : Int64)) + (1 : Int64)))))), .second, .val (.long (f5 (f4 ((((0 : Int64) + (1 : Int64)) + (1 : Int64)) + (1 : Int64))) (((x0 + (f4 ((((0 : Int64) + (1 : Int64)) + (1 : Int64)) + (1 : Int64)))) + (f4 ((((0 : Int64) + (1 : Int64)) + (1 : Int64)) + (1 : Int64)))) + (f4 ((((0 : Int64) + (1 : Int64)) + (1 : Int64)) + (1 : Int64)))))), .second] []))
        refine g_lload X59 hx 104 (hb hby at_102) rfl rfl ?_
        show Go p e below s _ _ _ (T59.setTop (mkF m 104 #[.val (.long x0), .second, .val (.int x1), .val (.int (v0_s x1)), .val (.ref b1), .val (.long (f4 ((v0_s x1).toInt64))), .second, .val (.long (f5 (f4 ((((0 : Int64) + (1 : Int64)) + (1 : Int64)) + (1 : Int64))) x0)), .second, .val (.long (f5 (f4 ((((0 : Int64) + (1 : Int64)) + (1 : Int64)) + (1 : Int64))) (x0 + (f4 ((((0 : Int64) + (1 : Int64)) + (1 : Int64)) + (1 : Int64)))))), .second, .val (.long (f5 (f4 ((((0 : Int64) + (1 : Int64)) + (1 : Int64)) + (1 : Int64))) ((x0 + (f4 ((((0 : Int64) + (1 : Int64)) + (1 : Int64)) + (1 : Int64)))) + (f4 ((((0 : Int64) + (1 : Int64)) + (1 : Int64)) + (1 : Int64)))))), .second, .val (.long (f5 (f4 ((((0 : Int64) + (1 : Int64)) + (1 : Int64)) + (1 : Int64))) (((x0 + (f4 ((((0 : Int64) + (1 : Int64)) + (1 : Int64)) + (1 : Int64)))) + (f4 ((((0 : Int64) + (1 : Int64)) + (1 : Int64)) + (1 : Int64)))) + (f4 ((((0 : Int64) + (1 : Int64)) + (1 : Int64)) + (1 : Int64)))))), .second] [(.long (f5 (f4 ((((0 : Int64) + (1 : Int64)) + (1 : Int64)) + (1 : Int64))) (x0 + (f4 ((((0 : Int64) + (1 : Int64)) + (1 : Int64)) + (1 : Int64))))))]))
        refine g_callS X59 hx hZ hown (hw _ (List.mem_of_getElem? (i := 36) rfl)) (hw _ (List.mem_of_getElem? (i := 37) rfl)) (hw _ (List.mem_of_getElem? (i := 38) rfl)) (hw _ (List.mem_of_getElem? (i := 39) rfl)) (by decide) e59 (rm6 l Z a0 hw [] (f5 (f4 ((((0 : Int64) + (1 : Int64)) + (1 : Int64)) + (1 : Int64))) (x0 + (f4 ((((0 : Int64) + (1 : Int64)) + (1 : Int64)) + (1 : Int64))))) T58.heap) [(.long (f5 (f4 ((((0 : Int64) + (1 : Int64)) + (1 : Int64)) + (1 : Int64))) (x0 + (f4 ((((0 : Int64) + (1 : Int64)) + (1 : Int64)) + (1 : Int64))))))] [] 0 rfl (lenOf pd__28J_29J rfl) rfl (Nat.le_of_eq rfl) (by decide) (by decide) (by decide) (by decide) (by rw [hml]; rfl) (hb hby at_104) ?_
        intro T61 L61 v61 X61 q61
        obtain ⟨rfl, rfl, e61⟩ := q61
        have NS61 := Fr.app NS59 (Fr.nil n0)
        show Go p e below s _ _ _ (T61.setTop (mkF m 107 #[.val (.long x0), .second, .val (.int x1), .val (.int (v0_s x1)), .val (.ref b1), .val (.long (f4 ((v0_s x1).toInt64))), .second, .val (.long (f5 (f4 ((((0 : Int64) + (1 : Int64)) + (1 : Int64)) + (1 : Int64))) x0)), .second, .val (.long (f5 (f4 ((((0 : Int64) + (1 : Int64)) + (1 : Int64)) + (1 : Int64))) (x0 + (f4 ((((0 : Int64) + (1 : Int64)) + (1 : Int64)) + (1 : Int64)))))), .second, .val (.long (f5 (f4 ((((0 : Int64) + (1 : Int64)) + (1 : Int64)) + (1 : Int64))) ((x0 + (f4 ((((0 : Int64) + (1 : Int64)) + (1 : Int64)) + (1 : Int64)))) + (f4 ((((0 : Int64) + (1 : Int64)) + (1 : Int64)) + (1 : Int64)))))), .second, .val (.long (f5 (f4 ((((0 : Int64) + (1 : Int64)) + (1 : Int64)) + (1 : Int64))) (((x0 + (f4 ((((0 : Int64) + (1 : Int64)) + (1 : Int64)) + (1 : Int64)))) + (f4 ((((0 : Int64) + (1 : Int64)) + (1 : Int64)) + (1 : Int64)))) + (f4 ((((0 : Int64) + (1 : Int64)) + (1 : Int64)) + (1 : Int64)))))), .second] [(.long (f6 (f5 (f4 ((((0 : Int64) + (1 : Int64)) + (1 : Int64)) + (1 : Int64))) (x0 + (f4 ((((0 : Int64) + (1 : Int64)) + (1 : Int64)) + (1 : Int64)))))))]))
        refine g_lloadN X61 hx 108 (hb hby at_107) rfl rfl ?_
        show Go p e below s _ _ _ (T61.setTop (mkF m 108 #[.val (.long x0), .second, .val (.int x1), .val (.int (v0_s x1)), .val (.ref b1), .val (.long (f4 ((v0_s x1).toInt64))), .second, .val (.long (f5 (f4 ((((0 : Int64) + (1 : Int64)) + (1 : Int64)) + (1 : Int64))) x0)), .second, .val (.long (f5 (f4 ((((0 : Int64) + (1 : Int64)) + (1 : Int64)) + (1 : Int64))) (x0 + (f4 ((((0 : Int64) + (1 : Int64)) + (1 : Int64)) + (1 : Int64)))))), .second, .val (.long (f5 (f4 ((((0 : Int64) + (1 : Int64)) + (1 : Int64)) + (1 : Int64))) ((x0 + (f4 ((((0 : Int64) + (1 : Int64)) + (1 : Int64)) + (1 : Int64)))) + (f4 ((((0 : Int64) + (1 : Int64)) + (1 : Int64)) + (1 : Int64)))))), .second, .val (.long (f5 (f4 ((((0 : Int64) + (1 : Int64)) + (1 : Int64)) + (1 : Int64))) (((x0 + (f4 ((((0 : Int64) + (1 : Int64)) + (1 : Int64)) + (1 : Int64)))) + (f4 ((((0 : Int64) + (1 : Int64)) + (1 : Int64)) + (1 : Int64)))) + (f4 ((((0 : Int64) + (1 : Int64)) + (1 : Int64)) + (1 : Int64)))))), .second] [(.long x0), (.long (f6 (f5 (f4 ((((0 : Int64) + (1 : Int64)) + (1 : Int64)) + (1 : Int64))) (x0 + (f4 ((((0 : Int64) + (1 : Int64)) + (1 : Int64)) + (1 : Int64)))))))]))
        refine g_ldc2_w X61 hx hZ hown (hw _ (List.mem_of_getElem? (i := 47) rfl)) 111 (hb hby at_108) rfl ?_
        show Go p e below s _ _ _ (T61.setTop (mkF m 111 #[.val (.long x0), .second, .val (.int x1), .val (.int (v0_s x1)), .val (.ref b1), .val (.long (f4 ((v0_s x1).toInt64))), .second, .val (.long (f5 (f4 ((((0 : Int64) + (1 : Int64)) + (1 : Int64)) + (1 : Int64))) x0)), .second, .val (.long (f5 (f4 ((((0 : Int64) + (1 : Int64)) + (1 : Int64)) + (1 : Int64))) (x0 + (f4 ((((0 : Int64) + (1 : Int64)) + (1 : Int64)) + (1 : Int64)))))), .second, .val (.long (f5 (f4 ((((0 : Int64) + (1 : Int64)) + (1 : Int64)) + (1 : Int64))) ((x0 + (f4 ((((0 : Int64) + (1 : Int64)) + (1 : Int64)) + (1 : Int64)))) + (f4 ((((0 : Int64) + (1 : Int64)) + (1 : Int64)) + (1 : Int64)))))), .second, .val (.long (f5 (f4 ((((0 : Int64) + (1 : Int64)) + (1 : Int64)) + (1 : Int64))) (((x0 + (f4 ((((0 : Int64) + (1 : Int64)) + (1 : Int64)) + (1 : Int64)))) + (f4 ((((0 : Int64) + (1 : Int64)) + (1 : Int64)) + (1 : Int64)))) + (f4 ((((0 : Int64) + (1 : Int64)) + (1 : Int64)) + (1 : Int64)))))), .second] [(.long (2 : Int64)), (.long x0), (.long (f6 (f5 (f4 ((((0 : Int64) + (1 : Int64)) + (1 : Int64)) + (1 : Int64))) (x0 + (f4 ((((0 : Int64) + (1 : Int64)) + (1 : Int64)) + (1 : Int64)))))))]))
        refine g_lload X61 hx 113 (hb hby at_111) rfl rfl ?_
        show Go p e below s _ _ _ (T61.setTop (mkF m 113 #[.val (.long x0), .second, .val (.int x1), .val (.int (v0_s x1)), .val (.ref b1), .val (.long (f4 ((v0_s x1).toInt64))), .second, .val (.long (f5 (f4 ((((0 : Int64) + (1 : Int64)) + (1 : Int64)) + (1 : Int64))) x0)), .second, .val (.long (f5 (f4 ((((0 : Int64) + (1 : Int64)) + (1 : Int64)) + (1 : Int64))) (x0 + (f4 ((((0 : Int64) + (1 : Int64)) + (1 : Int64)) + (1 : Int64)))))), .second, .val (.long (f5 (f4 ((((0 : Int64) + (1 : Int64)) + (1 : Int64)) + (1 : Int64))) ((x0 + (f4 ((((0 : Int64) + (1 : Int64)) + (1 : Int64)) + (1 : Int64)))) + (f4 ((((0 : Int64) + (1 : Int64)) + (1 : Int64)) + (1 : Int64)))))), .second, .val (.long (f5 (f4 ((((0 : Int64) + (1 : Int64)) + (1 : Int64)) + (1 : Int64))) (((x0 + (f4 ((((0 : Int64) + (1 : Int64)) + (1 : Int64)) + (1 : Int64)))) + (f4 ((((0 : Int64) + (1 : Int64)) + (1 : Int64)) + (1 : Int64)))) + (f4 ((((0 : Int64) + (1 : Int64)) + (1 : Int64)) + (1 : Int64)))))), .second] [(.long (f4 ((v0_s x1).toInt64))), (.long (2 : Int64)), (.long x0), (.long (f6 (f5 (f4 ((((0 : Int64) + (1 : Int64)) + (1 : Int64)) + (1 : Int64))) (x0 + (f4 ((((0 : Int64) + (1 : Int64)) + (1 : Int64)) + (1 : Int64)))))))]))
        refine g_lmul X61 hx 114 (hb hby at_113) rfl ?_
        show Go p e below s _ _ _ (T61.setTop (mkF m 114 #[.val (.long x0), .second, .val (.int x1), .val (.int (v0_s x1)), .val (.ref b1), .val (.long (f4 ((v0_s x1).toInt64))), .second, .val (.long (f5 (f4 ((((0 : Int64) + (1 : Int64)) + (1 : Int64)) + (1 : Int64))) x0)), .second, .val (.long (f5 (f4 ((((0 : Int64) + (1 : Int64)) + (1 : Int64)) + (1 : Int64))) (x0 + (f4 ((((0 : Int64) + (1 : Int64)) + (1 : Int64)) + (1 : Int64)))))), .second, .val (.long (f5 (f4 ((((0 : Int64) + (1 : Int64)) + (1 : Int64)) + (1 : Int64))) ((x0 + (f4 ((((0 : Int64) + (1 : Int64)) + (1 : Int64)) + (1 : Int64)))) + (f4 ((((0 : Int64) + (1 : Int64)) + (1 : Int64)) + (1 : Int64)))))), .second, .val (.long (f5 (f4 ((((0 : Int64) + (1 : Int64)) + (1 : Int64)) + (1 : Int64))) (((x0 + (f4 ((((0 : Int64) + (1 : Int64)) + (1 : Int64)) + (1 : Int64)))) + (f4 ((((0 : Int64) + (1 : Int64)) + (1 : Int64)) + (1 : Int64)))) + (f4 ((((0 : Int64) + (1 : Int64)) + (1 : Int64)) + (1 : Int64)))))), .second] [(.long ((2 : Int64) * (f4 ((v0_s x1).toInt64)))), (.long x0), (.long (f6 (f5 (f4 ((((0 : Int64) + (1 : Int64)) + (1 : Int64)) + (1 : Int64))) (x0 + (f4 ((((0 : Int64) + (1 : Int64)) + (1 : Int64)) + (1 : Int64)))))))]))
        refine g_ladd X61 hx 115 (hb hby at_114) rfl ?_
        show Go p e below s _ _ _ (T61.setTop (mkF m 115 #[.val (.long x0), .second, .val (.int x1), .val (.int (v0_s x1)), .val (.ref b1), .val (.long (f4 ((v0_s x1).toInt64))), .second, .val (.long (f5 (f4 ((((0 : Int64) + (1 : Int64)) + (1 : Int64)) + (1 : Int64))) x0)), .second, .val (.long (f5 (f4 ((((0 : Int64) + (1 : Int64)) + (1 : Int64)) + (1 : Int64))) (x0 + (f4 ((((0 : Int64) + (1 : Int64)) + (1 : Int64)) + (1 : Int64)))))), .second, .val (.long (f5 (f4 ((((0 : Int64) + (1 : Int64)) + (1 : Int64)) + (1 : Int64))) ((x0 + (f4 ((((0 : Int64) + (1 : Int64)) + (1 : Int64)) + (1 : Int64)))) + (f4 ((((0 : Int64) + (1 : Int64)) + (1 : Int64)) + (1 : Int64)))))), .second, .val (.long (f5 (f4 ((((0 : Int64) + (1 : Int64)) + (1 : Int64)) + (1 : Int64))) (((x0 + (f4 ((((0 : Int64) + (1 : Int64)) + (1 : Int64)) + (1 : Int64)))) + (f4 ((((0 : Int64) + (1 : Int64)) + (1 : Int64)) + (1 : Int64)))) + (f4 ((((0 : Int64) + (1 : Int64)) + (1 : Int64)) + (1 : Int64)))))), .second] [(.long (x0 + ((2 : Int64) * (f4 ((v0_s x1).toInt64))))), (.long (f6 (f5 (f4 ((((0 : Int64) + (1 : Int64)) + (1 : Int64)) + (1 : Int64))) (x0 + (f4 ((((0 : Int64) + (1 : Int64)) + (1 : Int64)) + (1 : Int64)))))))]))
        refine g_lcmp X61 hx 116 (hb hby at_115) rfl ?_
        show Go p e below s _ _ _ (T61.setTop (mkF m 116 #[.val (.long x0), .second, .val (.int x1), .val (.int (v0_s x1)), .val (.ref b1), .val (.long (f4 ((v0_s x1).toInt64))), .second, .val (.long (f5 (f4 ((((0 : Int64) + (1 : Int64)) + (1 : Int64)) + (1 : Int64))) x0)), .second, .val (.long (f5 (f4 ((((0 : Int64) + (1 : Int64)) + (1 : Int64)) + (1 : Int64))) (x0 + (f4 ((((0 : Int64) + (1 : Int64)) + (1 : Int64)) + (1 : Int64)))))), .second, .val (.long (f5 (f4 ((((0 : Int64) + (1 : Int64)) + (1 : Int64)) + (1 : Int64))) ((x0 + (f4 ((((0 : Int64) + (1 : Int64)) + (1 : Int64)) + (1 : Int64)))) + (f4 ((((0 : Int64) + (1 : Int64)) + (1 : Int64)) + (1 : Int64)))))), .second, .val (.long (f5 (f4 ((((0 : Int64) + (1 : Int64)) + (1 : Int64)) + (1 : Int64))) (((x0 + (f4 ((((0 : Int64) + (1 : Int64)) + (1 : Int64)) + (1 : Int64)))) + (f4 ((((0 : Int64) + (1 : Int64)) + (1 : Int64)) + (1 : Int64)))) + (f4 ((((0 : Int64) + (1 : Int64)) + (1 : Int64)) + (1 : Int64)))))), .second] [(.int (lcmpW (f6 (f5 (f4 ((((0 : Int64) + (1 : Int64)) + (1 : Int64)) + (1 : Int64))) (x0 + (f4 ((((0 : Int64) + (1 : Int64)) + (1 : Int64)) + (1 : Int64)))))) (x0 + ((2 : Int64) * (f4 ((v0_s x1).toInt64))))))]))
        have h62 : (f6 (f5 (f4 ((((0 : Int64) + (1 : Int64)) + (1 : Int64)) + (1 : Int64))) (x0 + (f4 ((((0 : Int64) + (1 : Int64)) + (1 : Int64)) + (1 : Int64)))))) = (x0 + ((2 : Int64) * (f4 ((v0_s x1).toInt64)))) := own_u2 x0 _ _ (own_efff ‹¬ v0_s x1 < (3 : Int32)›)
        refine g_lc_ne X61 hx 157 119 (hb hby at_116) (by decide) rfl rfl (fun _ => ?_) (fun q => absurd h62 q)
        show Go p e below s _ _ _ (T61.setTop (mkF m 119 #[.val (.long x0), .second, .val (.int x1), .val (.int (v0_s x1)), .val (.ref b1), .val (.long (f4 ((v0_s x1).toInt64))), .second, .val (.long (f5 (f4 ((((0 : Int64) + (1 : Int64)) + (1 : Int64)) + (1 : Int64))) x0)), .second, .val (.long (f5 (f4 ((((0 : Int64) + (1 : Int64)) + (1 : Int64)) + (1 : Int64))) (x0 + (f4 ((((0 : Int64) + (1 : Int64)) + (1 : Int64)) + (1 : Int64)))))), .second, .val (.long (f5 (f4 ((((0 : Int64) + (1 : Int64)) + (1 : Int64)) + (1 : Int64))) ((x0 + (f4 ((((0 : Int64) + (1 : Int64)) + (1 : Int64)) + (1 : Int64)))) + (f4 ((((0 : Int64) + (1 : Int64)) + (1 : Int64)) + (1 : Int64)))))), .second, .val (.long (f5 (f4 ((((0 : Int64) + (1 : Int64)) + (1 : Int64)) + (1 : Int64))) (((x0 + (f4 ((((0 : Int64) + (1 : Int64)) + (1 : Int64)) + (1 : Int64)))) + (f4 ((((0 : Int64) + (1 : Int64)) + (1 : Int64)) + (1 : Int64)))) + (f4 ((((0 : Int64) + (1 : Int64)) + (1 : Int64)) + (1 : Int64)))))), .second] []))
        refine g_lload X61 hx 121 (hb hby at_119) rfl rfl ?_
        show Go p e below s _ _ _ (T61.setTop (mkF m 121 #[.val (.long x0), .second, .val (.int x1), .val (.int (v0_s x1)), .val (.ref b1), .val (.long (f4 ((v0_s x1).toInt64))), .second, .val (.long (f5 (f4 ((((0 : Int64) + (1 : Int64)) + (1 : Int64)) + (1 : Int64))) x0)), .second, .val (.long (f5 (f4 ((((0 : Int64) + (1 : Int64)) + (1 : Int64)) + (1 : Int64))) (x0 + (f4 ((((0 : Int64) + (1 : Int64)) + (1 : Int64)) + (1 : Int64)))))), .second, .val (.long (f5 (f4 ((((0 : Int64) + (1 : Int64)) + (1 : Int64)) + (1 : Int64))) ((x0 + (f4 ((((0 : Int64) + (1 : Int64)) + (1 : Int64)) + (1 : Int64)))) + (f4 ((((0 : Int64) + (1 : Int64)) + (1 : Int64)) + (1 : Int64)))))), .second, .val (.long (f5 (f4 ((((0 : Int64) + (1 : Int64)) + (1 : Int64)) + (1 : Int64))) (((x0 + (f4 ((((0 : Int64) + (1 : Int64)) + (1 : Int64)) + (1 : Int64)))) + (f4 ((((0 : Int64) + (1 : Int64)) + (1 : Int64)) + (1 : Int64)))) + (f4 ((((0 : Int64) + (1 : Int64)) + (1 : Int64)) + (1 : Int64)))))), .second] [(.long (f5 (f4 ((((0 : Int64) + (1 : Int64)) + (1 : Int64)) + (1 : Int64))) ((x0 + (f4 ((((0 : Int64) + (1 : Int64)) + (1 : Int64)) + (1 : Int64)))) + (f4 ((((0 : Int64) + (1 : Int64)) + (1 : Int64)) + (1 : Int64))))))]))
        refine g_callS X61 hx hZ hown (hw _ (List.mem_of_getElem? (i := 36) rfl)) (hw _ (List.mem_of_getElem? (i := 37) rfl)) (hw _ (List.mem_of_getElem? (i := 38) rfl)) (hw _ (List.mem_of_getElem? (i := 39) rfl)) (by decide) e61 (rm6 l Z a0 hw [] (f5 (f4 ((((0 : Int64) + (1 : Int64)) + (1 : Int64)) + (1 : Int64))) ((x0 + (f4 ((((0 : Int64) + (1 : Int64)) + (1 : Int64)) + (1 : Int64)))) + (f4 ((((0 : Int64) + (1 : Int64)) + (1 : Int64)) + (1 : Int64))))) T58.heap) [(.long (f5 (f4 ((((0 : Int64) + (1 : Int64)) + (1 : Int64)) + (1 : Int64))) ((x0 + (f4 ((((0 : Int64) + (1 : Int64)) + (1 : Int64)) + (1 : Int64)))) + (f4 ((((0 : Int64) + (1 : Int64)) + (1 : Int64)) + (1 : Int64))))))] [] 0 rfl (lenOf pd__28J_29J rfl) rfl (Nat.le_of_eq rfl) (by decide) (by decide) (by decide) (by decide) (by rw [hml]; rfl) (hb hby at_121) ?_
        intro T63 L63 v63 X63 q63
        obtain ⟨rfl, rfl, e63⟩ := q63
        have NS63 := Fr.app NS61 (Fr.nil n0)
        show Go p e below s _ _ _ (T63.setTop (mkF m 124 #[.val (.long x0), .second, .val (.int x1), .val (.int (v0_s x1)), .val (.ref b1), .val (.long (f4 ((v0_s x1).toInt64))), .second, .val (.long (f5 (f4 ((((0 : Int64) + (1 : Int64)) + (1 : Int64)) + (1 : Int64))) x0)), .second, .val (.long (f5 (f4 ((((0 : Int64) + (1 : Int64)) + (1 : Int64)) + (1 : Int64))) (x0 + (f4 ((((0 : Int64) + (1 : Int64)) + (1 : Int64)) + (1 : Int64)))))), .second, .val (.long (f5 (f4 ((((0 : Int64) + (1 : Int64)) + (1 : Int64)) + (1 : Int64))) ((x0 + (f4 ((((0 : Int64) + (1 : Int64)) + (1 : Int64)) + (1 : Int64)))) + (f4 ((((0 : Int64) + (1 : Int64)) + (1 : Int64)) + (1 : Int64)))))), .second, .val (.long (f5 (f4 ((((0 : Int64) + (1 : Int64)) + (1 : Int64)) + (1 : Int64))) (((x0 + (f4 ((((0 : Int64) + (1 : Int64)) + (1 : Int64)) + (1 : Int64)))) + (f4 ((((0 : Int64) + (1 : Int64)) + (1 : Int64)) + (1 : Int64)))) + (f4 ((((0 : Int64) + (1 : Int64)) + (1 : Int64)) + (1 : Int64)))))), .second] [(.long (f6 (f5 (f4 ((((0 : Int64) + (1 : Int64)) + (1 : Int64)) + (1 : Int64))) ((x0 + (f4 ((((0 : Int64) + (1 : Int64)) + (1 : Int64)) + (1 : Int64)))) + (f4 ((((0 : Int64) + (1 : Int64)) + (1 : Int64)) + (1 : Int64)))))))]))
        refine g_lloadN X63 hx 125 (hb hby at_124) rfl rfl ?_
        show Go p e below s _ _ _ (T63.setTop (mkF m 125 #[.val (.long x0), .second, .val (.int x1), .val (.int (v0_s x1)), .val (.ref b1), .val (.long (f4 ((v0_s x1).toInt64))), .second, .val (.long (f5 (f4 ((((0 : Int64) + (1 : Int64)) + (1 : Int64)) + (1 : Int64))) x0)), .second, .val (.long (f5 (f4 ((((0 : Int64) + (1 : Int64)) + (1 : Int64)) + (1 : Int64))) (x0 + (f4 ((((0 : Int64) + (1 : Int64)) + (1 : Int64)) + (1 : Int64)))))), .second, .val (.long (f5 (f4 ((((0 : Int64) + (1 : Int64)) + (1 : Int64)) + (1 : Int64))) ((x0 + (f4 ((((0 : Int64) + (1 : Int64)) + (1 : Int64)) + (1 : Int64)))) + (f4 ((((0 : Int64) + (1 : Int64)) + (1 : Int64)) + (1 : Int64)))))), .second, .val (.long (f5 (f4 ((((0 : Int64) + (1 : Int64)) + (1 : Int64)) + (1 : Int64))) (((x0 + (f4 ((((0 : Int64) + (1 : Int64)) + (1 : Int64)) + (1 : Int64)))) + (f4 ((((0 : Int64) + (1 : Int64)) + (1 : Int64)) + (1 : Int64)))) + (f4 ((((0 : Int64) + (1 : Int64)) + (1 : Int64)) + (1 : Int64)))))), .second] [(.long x0), (.long (f6 (f5 (f4 ((((0 : Int64) + (1 : Int64)) + (1 : Int64)) + (1 : Int64))) ((x0 + (f4 ((((0 : Int64) + (1 : Int64)) + (1 : Int64)) + (1 : Int64)))) + (f4 ((((0 : Int64) + (1 : Int64)) + (1 : Int64)) + (1 : Int64)))))))]))
        refine g_ldc2_w X63 hx hZ hown (hw _ (List.mem_of_getElem? (i := 49) rfl)) 128 (hb hby at_125) rfl ?_
        show Go p e below s _ _ _ (T63.setTop (mkF m 128 #[.val (.long x0), .second, .val (.int x1), .val (.int (v0_s x1)), .val (.ref b1), .val (.long (f4 ((v0_s x1).toInt64))), .second, .val (.long (f5 (f4 ((((0 : Int64) + (1 : Int64)) + (1 : Int64)) + (1 : Int64))) x0)), .second, .val (.long (f5 (f4 ((((0 : Int64) + (1 : Int64)) + (1 : Int64)) + (1 : Int64))) (x0 + (f4 ((((0 : Int64) + (1 : Int64)) + (1 : Int64)) + (1 : Int64)))))), .second, .val (.long (f5 (f4 ((((0 : Int64) + (1 : Int64)) + (1 : Int64)) + (1 : Int64))) ((x0 + (f4 ((((0 : Int64) + (1 : Int64)) + (1 : Int64)) + (1 : Int64)))) + (f4 ((((0 : Int64) + (1 : Int64)) + (1 : Int64)) + (1 : Int64)))))), .second, .val (.long (f5 (f4 ((((0 : Int64) + (1 : Int64)) + (1 : Int64)) + (1 : Int64))) (((x0 + (f4 ((((0 : Int64) + (1 : Int64)) + (1 : Int64)) + (1 : Int64)))) + (f4 ((((0 : Int64) + (1 : Int64)) + (1 : Int64)) + (1 : Int64)))) + (f4 ((((0 : Int64) + (1 : Int64)) + (1 : Int64)) + (1 : Int64)))))), .second] [(.long (3 : Int64)), (.long x0), (.long (f6 (f5 (f4 ((((0 : Int64) + (1 : Int64)) + (1 : Int64)) + (1 : Int64))) ((x0 + (f4 ((((0 : Int64) + (1 : Int64)) + (1 : Int64)) + (1 : Int64)))) + (f4 ((((0 : Int64) + (1 : Int64)) + (1 : Int64)) + (1 : Int64)))))))]))
        refine g_lload X63 hx 130 (hb hby at_128) rfl rfl ?_
        show Go p e below s _ _ _ (T63.setTop (mkF m 130 #[.val (.long x0), .second, .val (.int x1), .val (.int (v0_s x1)), .val (.ref b1), .val (.long (f4 ((v0_s x1).toInt64))), .second, .val (.long (f5 (f4 ((((0 : Int64) + (1 : Int64)) + (1 : Int64)) + (1 : Int64))) x0)), .second, .val (.long (f5 (f4 ((((0 : Int64) + (1 : Int64)) + (1 : Int64)) + (1 : Int64))) (x0 + (f4 ((((0 : Int64) + (1 : Int64)) + (1 : Int64)) + (1 : Int64)))))), .second, .val (.long (f5 (f4 ((((0 : Int64) + (1 : Int64)) + (1 : Int64)) + (1 : Int64))) ((x0 + (f4 ((((0 : Int64) + (1 : Int64)) + (1 : Int64)) + (1 : Int64)))) + (f4 ((((0 : Int64) + (1 : Int64)) + (1 : Int64)) + (1 : Int64)))))), .second, .val (.long (f5 (f4 ((((0 : Int64) + (1 : Int64)) + (1 : Int64)) + (1 : Int64))) (((x0 + (f4 ((((0 : Int64) + (1 : Int64)) + (1 : Int64)) + (1 : Int64)))) + (f4 ((((0 : Int64) + (1 : Int64)) + (1 : Int64)) + (1 : Int64)))) + (f4 ((((0 : Int64) + (1 : Int64)) + (1 : Int64)) + (1 : Int64)))))), .second] [(.long (f4 ((v0_s x1).toInt64))), (.long (3 : Int64)), (.long x0), (.long (f6 (f5 (f4 ((((0 : Int64) + (1 : Int64)) + (1 : Int64)) + (1 : Int64))) ((x0 + (f4 ((((0 : Int64) + (1 : Int64)) + (1 : Int64)) + (1 : Int64)))) + (f4 ((((0 : Int64) + (1 : Int64)) + (1 : Int64)) + (1 : Int64)))))))]))
        refine g_lmul X63 hx 131 (hb hby at_130) rfl ?_
        show Go p e below s _ _ _ (T63.setTop (mkF m 131 #[.val (.long x0), .second, .val (.int x1), .val (.int (v0_s x1)), .val (.ref b1), .val (.long (f4 ((v0_s x1).toInt64))), .second, .val (.long (f5 (f4 ((((0 : Int64) + (1 : Int64)) + (1 : Int64)) + (1 : Int64))) x0)), .second, .val (.long (f5 (f4 ((((0 : Int64) + (1 : Int64)) + (1 : Int64)) + (1 : Int64))) (x0 + (f4 ((((0 : Int64) + (1 : Int64)) + (1 : Int64)) + (1 : Int64)))))), .second, .val (.long (f5 (f4 ((((0 : Int64) + (1 : Int64)) + (1 : Int64)) + (1 : Int64))) ((x0 + (f4 ((((0 : Int64) + (1 : Int64)) + (1 : Int64)) + (1 : Int64)))) + (f4 ((((0 : Int64) + (1 : Int64)) + (1 : Int64)) + (1 : Int64)))))), .second, .val (.long (f5 (f4 ((((0 : Int64) + (1 : Int64)) + (1 : Int64)) + (1 : Int64))) (((x0 + (f4 ((((0 : Int64) + (1 : Int64)) + (1 : Int64)) + (1 : Int64)))) + (f4 ((((0 : Int64) + (1 : Int64)) + (1 : Int64)) + (1 : Int64)))) + (f4 ((((0 : Int64) + (1 : Int64)) + (1 : Int64)) + (1 : Int64)))))), .second] [(.long ((3 : Int64) * (f4 ((v0_s x1).toInt64)))), (.long x0), (.long (f6 (f5 (f4 ((((0 : Int64) + (1 : Int64)) + (1 : Int64)) + (1 : Int64))) ((x0 + (f4 ((((0 : Int64) + (1 : Int64)) + (1 : Int64)) + (1 : Int64)))) + (f4 ((((0 : Int64) + (1 : Int64)) + (1 : Int64)) + (1 : Int64)))))))]))
        refine g_ladd X63 hx 132 (hb hby at_131) rfl ?_
        show Go p e below s _ _ _ (T63.setTop (mkF m 132 #[.val (.long x0), .second, .val (.int x1), .val (.int (v0_s x1)), .val (.ref b1), .val (.long (f4 ((v0_s x1).toInt64))), .second, .val (.long (f5 (f4 ((((0 : Int64) + (1 : Int64)) + (1 : Int64)) + (1 : Int64))) x0)), .second, .val (.long (f5 (f4 ((((0 : Int64) + (1 : Int64)) + (1 : Int64)) + (1 : Int64))) (x0 + (f4 ((((0 : Int64) + (1 : Int64)) + (1 : Int64)) + (1 : Int64)))))), .second, .val (.long (f5 (f4 ((((0 : Int64) + (1 : Int64)) + (1 : Int64)) + (1 : Int64))) ((x0 + (f4 ((((0 : Int64) + (1 : Int64)) + (1 : Int64)) + (1 : Int64)))) + (f4 ((((0 : Int64) + (1 : Int64)) + (1 : Int64)) + (1 : Int64)))))), .second, .val (.long (f5 (f4 ((((0 : Int64) + (1 : Int64)) + (1 : Int64)) + (1 : Int64))) (((x0 + (f4 ((((0 : Int64) + (1 : Int64)) + (1 : Int64)) + (1 : Int64)))) + (f4 ((((0 : Int64) + (1 : Int64)) + (1 : Int64)) + (1 : Int64)))) + (f4 ((((0 : Int64) + (1 : Int64)) + (1 : Int64)) + (1 : Int64)))))), .second] [(.long (x0 + ((3 : Int64) * (f4 ((v0_s x1).toInt64))))), (.long (f6 (f5 (f4 ((((0 : Int64) + (1 : Int64)) + (1 : Int64)) + (1 : Int64))) ((x0 + (f4 ((((0 : Int64) + (1 : Int64)) + (1 : Int64)) + (1 : Int64)))) + (f4 ((((0 : Int64) + (1 : Int64)) + (1 : Int64)) + (1 : Int64)))))))]))
        refine g_lcmp X63 hx 133 (hb hby at_132) rfl ?_
        show Go p e below s _ _ _ (T63.setTop (mkF m 133 #[.val (.long x0), .second, .val (.int x1), .val (.int (v0_s x1)), .val (.ref b1), .val (.long (f4 ((v0_s x1).toInt64))), .second, .val (.long (f5 (f4 ((((0 : Int64) + (1 : Int64)) + (1 : Int64)) + (1 : Int64))) x0)), .second, .val (.long (f5 (f4 ((((0 : Int64) + (1 : Int64)) + (1 : Int64)) + (1 : Int64))) (x0 + (f4 ((((0 : Int64) + (1 : Int64)) + (1 : Int64)) + (1 : Int64)))))), .second, .val (.long (f5 (f4 ((((0 : Int64) + (1 : Int64)) + (1 : Int64)) + (1 : Int64))) ((x0 + (f4 ((((0 : Int64) + (1 : Int64)) + (1 : Int64)) + (1 : Int64)))) + (f4 ((((0 : Int64) + (1 : Int64)) + (1 : Int64)) + (1 : Int64)))))), .second, .val (.long (f5 (f4 ((((0 : Int64) + (1 : Int64)) + (1 : Int64)) + (1 : Int64))) (((x0 + (f4 ((((0 : Int64) + (1 : Int64)) + (1 : Int64)) + (1 : Int64)))) + (f4 ((((0 : Int64) + (1 : Int64)) + (1 : Int64)) + (1 : Int64)))) + (f4 ((((0 : Int64) + (1 : Int64)) + (1 : Int64)) + (1 : Int64)))))), .second] [(.int (lcmpW (f6 (f5 (f4 ((((0 : Int64) + (1 : Int64)) + (1 : Int64)) + (1 : Int64))) ((x0 + (f4 ((((0 : Int64) + (1 : Int64)) + (1 : Int64)) + (1 : Int64)))) + (f4 ((((0 : Int64) + (1 : Int64)) + (1 : Int64)) + (1 : Int64)))))) (x0 + ((3 : Int64) * (f4 ((v0_s x1).toInt64))))))]))
        have h64 : (f6 (f5 (f4 ((((0 : Int64) + (1 : Int64)) + (1 : Int64)) + (1 : Int64))) ((x0 + (f4 ((((0 : Int64) + (1 : Int64)) + (1 : Int64)) + (1 : Int64)))) + (f4 ((((0 : Int64) + (1 : Int64)) + (1 : Int64)) + (1 : Int64)))))) = (x0 + ((3 : Int64) * (f4 ((v0_s x1).toInt64)))) := own_u3 x0 _ _ (own_efff ‹¬ v0_s x1 < (3 : Int32)›)
        refine g_lc_ne X63 hx 157 136 (hb hby at_133) (by decide) rfl rfl (fun _ => ?_) (fun q => absurd h64 q)
        show Go p e below s _ _ _ (T63.setTop (mkF m 136 #[.val (.long x0), .second, .val (.int x1), .val (.int (v0_s x1)), .val (.ref b1), .val (.long (f4 ((v0_s x1).toInt64))), .second, .val (.long (f5 (f4 ((((0 : Int64) + (1 : Int64)) + (1 : Int64)) + (1 : Int64))) x0)), .second, .val (.long (f5 (f4 ((((0 : Int64) + (1 : Int64)) + (1 : Int64)) + (1 : Int64))) (x0 + (f4 ((((0 : Int64) + (1 : Int64)) + (1 : Int64)) + (1 : Int64)))))), .second, .val (.long (f5 (f4 ((((0 : Int64) + (1 : Int64)) + (1 : Int64)) + (1 : Int64))) ((x0 + (f4 ((((0 : Int64) + (1 : Int64)) + (1 : Int64)) + (1 : Int64)))) + (f4 ((((0 : Int64) + (1 : Int64)) + (1 : Int64)) + (1 : Int64)))))), .second, .val (.long (f5 (f4 ((((0 : Int64) + (1 : Int64)) + (1 : Int64)) + (1 : Int64))) (((x0 + (f4 ((((0 : Int64) + (1 : Int64)) + (1 : Int64)) + (1 : Int64)))) + (f4 ((((0 : Int64) + (1 : Int64)) + (1 : Int64)) + (1 : Int64)))) + (f4 ((((0 : Int64) + (1 : Int64)) + (1 : Int64)) + (1 : Int64)))))), .second] []))
        refine g_lload X63 hx 138 (hb hby at_136) rfl rfl ?_
        show Go p e below s _ _ _ (T63.setTop (mkF m 138 #[.val (.long x0), .second, .val (.int x1), .val (.int (v0_s x1)), .val (.ref b1), .val (.long (f4 ((v0_s x1).toInt64))), .second, .val (.long (f5 (f4 ((((0 : Int64) + (1 : Int64)) + (1 : Int64)) + (1 : Int64))) x0)), .second, .val (.long (f5 (f4 ((((0 : Int64) + (1 : Int64)) + (1 : Int64)) + (1 : Int64))) (x0 + (f4 ((((0 : Int64) + (1 : Int64)) + (1 : Int64)) + (1 : Int64)))))), .second, .val (.long (f5 (f4 ((((0 : Int64) + (1 : Int64)) + (1 : Int64)) + (1 : Int64))) ((x0 + (f4 ((((0 : Int64) + (1 : Int64)) + (1 : Int64)) + (1 : Int64)))) + (f4 ((((0 : Int64) + (1 : Int64)) + (1 : Int64)) + (1 : Int64)))))), .second, .val (.long (f5 (f4 ((((0 : Int64) + (1 : Int64)) + (1 : Int64)) + (1 : Int64))) (((x0 + (f4 ((((0 : Int64) + (1 : Int64)) + (1 : Int64)) + (1 : Int64)))) + (f4 ((((0 : Int64) + (1 : Int64)) + (1 : Int64)) + (1 : Int64)))) + (f4 ((((0 : Int64) + (1 : Int64)) + (1 : Int64)) + (1 : Int64)))))), .second] [(.long (f5 (f4 ((((0 : Int64) + (1 : Int64)) + (1 : Int64)) + (1 : Int64))) (((x0 + (f4 ((((0 : Int64) + (1 : Int64)) + (1 : Int64)) + (1 : Int64)))) + (f4 ((((0 : Int64) + (1 : Int64)) + (1 : Int64)) + (1 : Int64)))) + (f4 ((((0 : Int64) + (1 : Int64)) + (1 : Int64)) + (1 : Int64))))))]))
        refine g_callS X63 hx hZ hown (hw _ (List.mem_of_getElem? (i := 36) rfl)) (hw _ (List.mem_of_getElem? (i := 37) rfl)) (hw _ (List.mem_of_getElem? (i := 38) rfl)) (hw _ (List.mem_of_getElem? (i := 39) rfl)) (by decide) e63 (rm6 l Z a0 hw [] (f5 (f4 ((((0 : Int64) + (1 : Int64)) + (1 : Int64)) + (1 : Int64))) (((x0 + (f4 ((((0 : Int64) + (1 : Int64)) + (1 : Int64)) + (1 : Int64)))) + (f4 ((((0 : Int64) + (1 : Int64)) + (1 : Int64)) + (1 : Int64)))) + (f4 ((((0 : Int64) + (1 : Int64)) + (1 : Int64)) + (1 : Int64))))) T58.heap) [(.long (f5 (f4 ((((0 : Int64) + (1 : Int64)) + (1 : Int64)) + (1 : Int64))) (((x0 + (f4 ((((0 : Int64) + (1 : Int64)) + (1 : Int64)) + (1 : Int64)))) + (f4 ((((0 : Int64) + (1 : Int64)) + (1 : Int64)) + (1 : Int64)))) + (f4 ((((0 : Int64) + (1 : Int64)) + (1 : Int64)) + (1 : Int64))))))] [] 0 rfl (lenOf pd__28J_29J rfl) rfl (Nat.le_of_eq rfl) (by decide) (by decide) (by decide) (by decide) (by rw [hml]; rfl) (hb hby at_138) ?_
        intro T65 L65 v65 X65 q65
        obtain ⟨rfl, rfl, e65⟩ := q65
        have NS65 := Fr.app NS63 (Fr.nil n0)
        show Go p e below s _ _ _ (T65.setTop (mkF m 141 #[.val (.long x0), .second, .val (.int x1), .val (.int (v0_s x1)), .val (.ref b1), .val (.long (f4 ((v0_s x1).toInt64))), .second, .val (.long (f5 (f4 ((((0 : Int64) + (1 : Int64)) + (1 : Int64)) + (1 : Int64))) x0)), .second, .val (.long (f5 (f4 ((((0 : Int64) + (1 : Int64)) + (1 : Int64)) + (1 : Int64))) (x0 + (f4 ((((0 : Int64) + (1 : Int64)) + (1 : Int64)) + (1 : Int64)))))), .second, .val (.long (f5 (f4 ((((0 : Int64) + (1 : Int64)) + (1 : Int64)) + (1 : Int64))) ((x0 + (f4 ((((0 : Int64) + (1 : Int64)) + (1 : Int64)) + (1 : Int64)))) + (f4 ((((0 : Int64) + (1 : Int64)) + (1 : Int64)) + (1 : Int64)))))), .second, .val (.long (f5 (f4 ((((0 : Int64) + (1 : Int64)) + (1 : Int64)) + (1 : Int64))) (((x0 + (f4 ((((0 : Int64) + (1 : Int64)) + (1 : Int64)) + (1 : Int64)))) + (f4 ((((0 : Int64) + (1 : Int64)) + (1 : Int64)) + (1 : Int64)))) + (f4 ((((0 : Int64) + (1 : Int64)) + (1 : Int64)) + (1 : Int64)))))), .second] [(.long (f6 (f5 (f4 ((((0 : Int64) + (1 : Int64)) + (1 : Int64)) + (1 : Int64))) (((x0 + (f4 ((((0 : Int64) + (1 : Int64)) + (1 : Int64)) + (1 : Int64)))) + (f4 ((((0 : Int64) + (1 : Int64)) + (1 : Int64)) + (1 : Int64)))) + (f4 ((((0 : Int64) + (1 : Int64)) + (1 : Int64)) + (1 : Int64)))))))]))
        refine g_lloadN X65 hx 142 (hb hby at_141) rfl rfl ?_
        show Go p e below s _ _ _ (T65.setTop (mkF m 142 #[.val (.long x0), .second, .val (.int x1), .val (.int (v0_s x1)), .val (.ref b1), .val (.long (f4 ((v0_s x1).toInt64))), .second, .val (.long (f5 (f4 ((((0 : Int64) + (1 : Int64)) + (1 : Int64)) + (1 : Int64))) x0)), .second, .val (.long (f5 (f4 ((((0 : Int64) + (1 : Int64)) + (1 : Int64)) + (1 : Int64))) (x0 + (f4 ((((0 : Int64) + (1 : Int64)) + (1 : Int64)) + (1 : Int64)))))), .second, .val (.long (f5 (f4 ((((0 : Int64) + (1 : Int64)) + (1 : Int64)) + (1 : Int64))) ((x0 + (f4 ((((0 : Int64) + (1 : Int64)) + (1 : Int64)) + (1 : Int64)))) + (f4 ((((0 : Int64) + (1 : Int64)) + (1 : Int64)) + (1 : Int64)))))), .second, .val (.long (f5 (f4 ((((0 : Int64) + (1 : Int64)) + (1 : Int64)) + (1 : Int64))) (((x0 + (f4 ((((0 : Int64) + (1 : Int64)) + (1 : Int64)) + (1 : Int64)))) + (f4 ((((0 : Int64) + (1 : Int64)) + (1 : Int64)) + (1 : Int64)))) + (f4 ((((0 : Int64) + (1 : Int64)) + (1 : Int64)) + (1 : Int64)))))), .second] [(.long x0), (.long (f6 (f5 (f4 ((((0 : Int64) + (1 : Int64)) + (1 : Int64)) + (1 : Int64))) (((x0 + (f4 ((((0 : Int64) + (1 : Int64)) + (1 : Int64)) + (1 : Int64)))) + (f4 ((((0 : Int64) + (1 : Int64)) + (1 : Int64)) + (1 : Int64)))) + (f4 ((((0 : Int64) + (1 : Int64)) + (1 : Int64)) + (1 : Int64)))))))]))
        refine g_ldc2_w X65 hx hZ hown (hw _ (List.mem_of_getElem? (i := 50) rfl)) 145 (hb hby at_142) rfl ?_
        show Go p e below s _ _ _ (T65.setTop (mkF m 145 #[.val (.long x0), .second, .val (.int x1), .val (.int (v0_s x1)), .val (.ref b1), .val (.long (f4 ((v0_s x1).toInt64))), .second, .val (.long (f5 (f4 ((((0 : Int64) + (1 : Int64)) + (1 : Int64)) + (1 : Int64))) x0)), .second, .val (.long (f5 (f4 ((((0 : Int64) + (1 : Int64)) + (1 : Int64)) + (1 : Int64))) (x0 + (f4 ((((0 : Int64) + (1 : Int64)) + (1 : Int64)) + (1 : Int64)))))), .second, .val (.long (f5 (f4 ((((0 : Int64) + (1 : Int64)) + (1 : Int64)) + (1 : Int64))) ((x0 + (f4 ((((0 : Int64) + (1 : Int64)) + (1 : Int64)) + (1 : Int64)))) + (f4 ((((0 : Int64) + (1 : Int64)) + (1 : Int64)) + (1 : Int64)))))), .second, .val (.long (f5 (f4 ((((0 : Int64) + (1 : Int64)) + (1 : Int64)) + (1 : Int64))) (((x0 + (f4 ((((0 : Int64) + (1 : Int64)) + (1 : Int64)) + (1 : Int64)))) + (f4 ((((0 : Int64) + (1 : Int64)) + (1 : Int64)) + (1 : Int64)))) + (f4 ((((0 : Int64) + (1 : Int64)) + (1 : Int64)) + (1 : Int64)))))), .second] [(.long (4 : Int64)), (.long x0), (.long (f6 (f5 (f4 ((((0 : Int64) + (1 : Int64)) + (1 : Int64)) + (1 : Int64))) (((x0 + (f4 ((((0 : Int64) + (1 : Int64)) + (1 : Int64)) + (1 : Int64)))) + (f4 ((((0 : Int64) + (1 : Int64)) + (1 : Int64)) + (1 : Int64)))) + (f4 ((((0 : Int64) + (1 : Int64)) + (1 : Int64)) + (1 : Int64)))))))]))
        refine g_lload X65 hx 147 (hb hby at_145) rfl rfl ?_
        show Go p e below s _ _ _ (T65.setTop (mkF m 147 #[.val (.long x0), .second, .val (.int x1), .val (.int (v0_s x1)), .val (.ref b1), .val (.long (f4 ((v0_s x1).toInt64))), .second, .val (.long (f5 (f4 ((((0 : Int64) + (1 : Int64)) + (1 : Int64)) + (1 : Int64))) x0)), .second, .val (.long (f5 (f4 ((((0 : Int64) + (1 : Int64)) + (1 : Int64)) + (1 : Int64))) (x0 + (f4 ((((0 : Int64) + (1 : Int64)) + (1 : Int64)) + (1 : Int64)))))), .second, .val (.long (f5 (f4 ((((0 : Int64) + (1 : Int64)) + (1 : Int64)) + (1 : Int64))) ((x0 + (f4 ((((0 : Int64) + (1 : Int64)) + (1 : Int64)) + (1 : Int64)))) + (f4 ((((0 : Int64) + (1 : Int64)) + (1 : Int64)) + (1 : Int64)))))), .second, .val (.long (f5 (f4 ((((0 : Int64) + (1 : Int64)) + (1 : Int64)) + (1 : Int64))) (((x0 + (f4 ((((0 : Int64) + (1 : Int64)) + (1 : Int64)) + (1 : Int64)))) + (f4 ((((0 : Int64) + (1 : Int64)) + (1 : Int64)) + (1 : Int64)))) + (f4 ((((0 : Int64) + (1 : Int64)) + (1 : Int64)) + (1 : Int64)))))), .second] [(.long (f4 ((v0_s x1).toInt64))), (.long (4 : Int64)), (.long x0), (.long (f6 (f5 (f4 ((((0 : Int64) + (1 : Int64)) + (1 : Int64)) + (1 : Int64))) (((x0 + (f4 ((((0 : Int64) + (1 : Int64)) + (1 : Int64)) + (1 : Int64)))) + (f4 ((((0 : Int64) + (1 : Int64)) + (1 : Int64)) + (1 : Int64)))) + (f4 ((((0 : Int64) + (1 : Int64)) + (1 : Int64)) + (1 : Int64)))))))]))
        refine g_lmul X65 hx 148 (hb hby at_147) rfl ?_
        show Go p e below s _ _ _ (T65.setTop (mkF m 148 #[.val (.long x0), .second, .val (.int x1), .val (.int (v0_s x1)), .val (.ref b1), .val (.long (f4 ((v0_s x1).toInt64))), .second, .val (.long (f5 (f4 ((((0 : Int64) + (1 : Int64)) + (1 : Int64)) + (1 : Int64))) x0)), .second, .val (.long (f5 (f4 ((((0 : Int64) + (1 : Int64)) + (1 : Int64)) + (1 : Int64))) (x0 + (f4 ((((0 : Int64) + (1 : Int64)) + (1 : Int64)) + (1 : Int64)))))), .second, .val (.long (f5 (f4 ((((0 : Int64) + (1 : Int64)) + (1 : Int64)) + (1 : Int64))) ((x0 + (f4 ((((0 : Int64) + (1 : Int64)) + (1 : Int64)) + (1 : Int64)))) + (f4 ((((0 : Int64) + (1 : Int64)) + (1 : Int64)) + (1 : Int64)))))), .second, .val (.long (f5 (f4 ((((0 : Int64) + (1 : Int64)) + (1 : Int64)) + (1 : Int64))) (((x0 + (f4 ((((0 : Int64) + (1 : Int64)) + (1 : Int64)) + (1 : Int64)))) + (f4 ((((0 : Int64) + (1 : Int64)) + (1 : Int64)) + (1 : Int64)))) + (f4 ((((0 : Int64) + (1 : Int64)) + (1 : Int64)) + (1 : Int64)))))), .second] [(.long ((4 : Int64) * (f4 ((v0_s x1).toInt64)))), (.long x0), (.long (f6 (f5 (f4 ((((0 : Int64) + (1 : Int64)) + (1 : Int64)) + (1 : Int64))) (((x0 + (f4 ((((0 : Int64) + (1 : Int64)) + (1 : Int64)) + (1 : Int64)))) + (f4 ((((0 : Int64) + (1 : Int64)) + (1 : Int64)) + (1 : Int64)))) + (f4 ((((0 : Int64) + (1 : Int64)) + (1 : Int64)) + (1 : Int64)))))))]))
        refine g_ladd X65 hx 149 (hb hby at_148) rfl ?_
        show Go p e below s _ _ _ (T65.setTop (mkF m 149 #[.val (.long x0), .second, .val (.int x1), .val (.int (v0_s x1)), .val (.ref b1), .val (.long (f4 ((v0_s x1).toInt64))), .second, .val (.long (f5 (f4 ((((0 : Int64) + (1 : Int64)) + (1 : Int64)) + (1 : Int64))) x0)), .second, .val (.long (f5 (f4 ((((0 : Int64) + (1 : Int64)) + (1 : Int64)) + (1 : Int64))) (x0 + (f4 ((((0 : Int64) + (1 : Int64)) + (1 : Int64)) + (1 : Int64)))))), .second, .val (.long (f5 (f4 ((((0 : Int64) + (1 : Int64)) + (1 : Int64)) + (1 : Int64))) ((x0 + (f4 ((((0 : Int64) + (1 : Int64)) + (1 : Int64)) + (1 : Int64)))) + (f4 ((((0 : Int64) + (1 : Int64)) + (1 : Int64)) + (1 : Int64)))))), .second, .val (.long (f5 (f4 ((((0 : Int64) + (1 : Int64)) + (1 : Int64)) + (1 : Int64))) (((x0 + (f4 ((((0 : Int64) + (1 : Int64)) + (1 : Int64)) + (1 : Int64)))) + (f4 ((((0 : Int64) + (1 : Int64)) + (1 : Int64)) + (1 : Int64)))) + (f4 ((((0 : Int64) + (1 : Int64)) + (1 : Int64)) + (1 : Int64)))))), .second] [(.long (x0 + ((4 : Int64) * (f4 ((v0_s x1).toInt64))))), (.long (f6 (f5 (f4 ((((0 : Int64) + (1 : Int64)) + (1 : Int64)) + (1 : Int64))) (((x0 + (f4 ((((0 : Int64) + (1 : Int64)) + (1 : Int64)) + (1 : Int64)))) + (f4 ((((0 : Int64) + (1 : Int64)) + (1 : Int64)) + (1 : Int64)))) + (f4 ((((0 : Int64) + (1 : Int64)) + (1 : Int64)) + (1 : Int64)))))))]))
        refine g_lcmp X65 hx 150 (hb hby at_149) rfl ?_
        show Go p e below s _ _ _ (T65.setTop (mkF m 150 #[.val (.long x0), .second, .val (.int x1), .val (.int (v0_s x1)), .val (.ref b1), .val (.long (f4 ((v0_s x1).toInt64))), .second, .val (.long (f5 (f4 ((((0 : Int64) + (1 : Int64)) + (1 : Int64)) + (1 : Int64))) x0)), .second, .val (.long (f5 (f4 ((((0 : Int64) + (1 : Int64)) + (1 : Int64)) + (1 : Int64))) (x0 + (f4 ((((0 : Int64) + (1 : Int64)) + (1 : Int64)) + (1 : Int64)))))), .second, .val (.long (f5 (f4 ((((0 : Int64) + (1 : Int64)) + (1 : Int64)) + (1 : Int64))) ((x0 + (f4 ((((0 : Int64) + (1 : Int64)) + (1 : Int64)) + (1 : Int64)))) + (f4 ((((0 : Int64) + (1 : Int64)) + (1 : Int64)) + (1 : Int64)))))), .second, .val (.long (f5 (f4 ((((0 : Int64) + (1 : Int64)) + (1 : Int64)) + (1 : Int64))) (((x0 + (f4 ((((0 : Int64) + (1 : Int64)) + (1 : Int64)) + (1 : Int64)))) + (f4 ((((0 : Int64) + (1 : Int64)) + (1 : Int64)) + (1 : Int64)))) + (f4 ((((0 : Int64) + (1 : Int64)) + (1 : Int64)) + (1 : Int64)))))), .second] [(.int (lcmpW (f6 (f5 (f4 ((((0 : Int64) + (1 : Int64)) + (1 : Int64)) + (1 : Int64))) (((x0 + (f4 ((((0 : Int64) + (1 : Int64)) + (1 : Int64)) + (1 : Int64)))) + (f4 ((((0 : Int64) + (1 : Int64)) + (1 : Int64)) + (1 : Int64)))) + (f4 ((((0 : Int64) + (1 : Int64)) + (1 : Int64)) + (1 : Int64)))))) (x0 + ((4 : Int64) * (f4 ((v0_s x1).toInt64))))))]))
        have h66 : (f6 (f5 (f4 ((((0 : Int64) + (1 : Int64)) + (1 : Int64)) + (1 : Int64))) (((x0 + (f4 ((((0 : Int64) + (1 : Int64)) + (1 : Int64)) + (1 : Int64)))) + (f4 ((((0 : Int64) + (1 : Int64)) + (1 : Int64)) + (1 : Int64)))) + (f4 ((((0 : Int64) + (1 : Int64)) + (1 : Int64)) + (1 : Int64)))))) = (x0 + ((4 : Int64) * (f4 ((v0_s x1).toInt64)))) := own_u4 x0 _ _ (own_efff ‹¬ v0_s x1 < (3 : Int32)›)
        refine g_lc_ne X65 hx 157 153 (hb hby at_150) (by decide) rfl rfl (fun _ => ?_) (fun q => absurd h66 q)
        show Go p e below s _ _ _ (T65.setTop (mkF m 153 #[.val (.long x0), .second, .val (.int x1), .val (.int (v0_s x1)), .val (.ref b1), .val (.long (f4 ((v0_s x1).toInt64))), .second, .val (.long (f5 (f4 ((((0 : Int64) + (1 : Int64)) + (1 : Int64)) + (1 : Int64))) x0)), .second, .val (.long (f5 (f4 ((((0 : Int64) + (1 : Int64)) + (1 : Int64)) + (1 : Int64))) (x0 + (f4 ((((0 : Int64) + (1 : Int64)) + (1 : Int64)) + (1 : Int64)))))), .second, .val (.long (f5 (f4 ((((0 : Int64) + (1 : Int64)) + (1 : Int64)) + (1 : Int64))) ((x0 + (f4 ((((0 : Int64) + (1 : Int64)) + (1 : Int64)) + (1 : Int64)))) + (f4 ((((0 : Int64) + (1 : Int64)) + (1 : Int64)) + (1 : Int64)))))), .second, .val (.long (f5 (f4 ((((0 : Int64) + (1 : Int64)) + (1 : Int64)) + (1 : Int64))) (((x0 + (f4 ((((0 : Int64) + (1 : Int64)) + (1 : Int64)) + (1 : Int64)))) + (f4 ((((0 : Int64) + (1 : Int64)) + (1 : Int64)) + (1 : Int64)))) + (f4 ((((0 : Int64) + (1 : Int64)) + (1 : Int64)) + (1 : Int64)))))), .second] []))
        refine g_iconst X65 hx (1 : Int32) 154 (hb hby at_153) rfl rfl ?_
        show Go p e below s _ _ _ (T65.setTop (mkF m 154 #[.val (.long x0), .second, .val (.int x1), .val (.int (v0_s x1)), .val (.ref b1), .val (.long (f4 ((v0_s x1).toInt64))), .second, .val (.long (f5 (f4 ((((0 : Int64) + (1 : Int64)) + (1 : Int64)) + (1 : Int64))) x0)), .second, .val (.long (f5 (f4 ((((0 : Int64) + (1 : Int64)) + (1 : Int64)) + (1 : Int64))) (x0 + (f4 ((((0 : Int64) + (1 : Int64)) + (1 : Int64)) + (1 : Int64)))))), .second, .val (.long (f5 (f4 ((((0 : Int64) + (1 : Int64)) + (1 : Int64)) + (1 : Int64))) ((x0 + (f4 ((((0 : Int64) + (1 : Int64)) + (1 : Int64)) + (1 : Int64)))) + (f4 ((((0 : Int64) + (1 : Int64)) + (1 : Int64)) + (1 : Int64)))))), .second, .val (.long (f5 (f4 ((((0 : Int64) + (1 : Int64)) + (1 : Int64)) + (1 : Int64))) (((x0 + (f4 ((((0 : Int64) + (1 : Int64)) + (1 : Int64)) + (1 : Int64)))) + (f4 ((((0 : Int64) + (1 : Int64)) + (1 : Int64)) + (1 : Int64)))) + (f4 ((((0 : Int64) + (1 : Int64)) + (1 : Int64)) + (1 : Int64)))))), .second] [(.int (1 : Int32))]))
        refine g_goto X65 hx 158 (hb hby at_154) (by decide) rfl ?_
        show Go p e below s _ _ _ (T65.setTop (mkF m 158 #[.val (.long x0), .second, .val (.int x1), .val (.int (v0_s x1)), .val (.ref b1), .val (.long (f4 ((v0_s x1).toInt64))), .second, .val (.long (f5 (f4 ((((0 : Int64) + (1 : Int64)) + (1 : Int64)) + (1 : Int64))) x0)), .second, .val (.long (f5 (f4 ((((0 : Int64) + (1 : Int64)) + (1 : Int64)) + (1 : Int64))) (x0 + (f4 ((((0 : Int64) + (1 : Int64)) + (1 : Int64)) + (1 : Int64)))))), .second, .val (.long (f5 (f4 ((((0 : Int64) + (1 : Int64)) + (1 : Int64)) + (1 : Int64))) ((x0 + (f4 ((((0 : Int64) + (1 : Int64)) + (1 : Int64)) + (1 : Int64)))) + (f4 ((((0 : Int64) + (1 : Int64)) + (1 : Int64)) + (1 : Int64)))))), .second, .val (.long (f5 (f4 ((((0 : Int64) + (1 : Int64)) + (1 : Int64)) + (1 : Int64))) (((x0 + (f4 ((((0 : Int64) + (1 : Int64)) + (1 : Int64)) + (1 : Int64)))) + (f4 ((((0 : Int64) + (1 : Int64)) + (1 : Int64)) + (1 : Int64)))) + (f4 ((((0 : Int64) + (1 : Int64)) + (1 : Int64)) + (1 : Int64)))))), .second] [(.int (1 : Int32))]))
        exact g_retN X65 hx hret (by simp) hlk (hb hby at_158) (by decide) (by decide) ⟨rfl, NS65⟩
set_option maxRecDepth 65536 in
set_option maxHeartbeats 40000000 in
theorem comes_1 {Post : Tables → Env → Array Value → State → Outcome → State → Prop} (hpost : ∀ tb e args s v u, (limb_1_1.after args s (.returned v) u = true ∧ limb_1_2.after args s (.returned v) u = true ∧ True) → FrameEnd s (.returned v) u (Jvm.fieldLocs frame_1_writes args s ++ Jvm.arrayLocs frame_1_arrays args s ++ Jvm.staticLocs frame_1_statics s) 16 128 → Post tb e args s (.returned v) u) :
    ArmFor flags0 classFile x code maxLocals ret World_1 tables_1 room_1 Calls_1 rest_1 Pre_1 Post := by
  intro l hfl _ _ p e ha hc hk s m args below hf hA hF happ hP
  obtain ⟨hcalls, hrest, hpre⟩ := hP
  obtain ⟨-, -, -, hnamed, -, -, -, hat⟩ := (Spec.applies_iff hf).mp happ
  obtain ⟨hg, hn⟩ := and_e (Cond.before_iff.mp (show (Jvm.Cond.and given_1 narrow_1).before args s = true from hpre))
  obtain ⟨g1, g2⟩ := and_e hg
  obtain ⟨g3, g4⟩ := and_e g2
  obtain ⟨w0, w1, rfl⟩ : ∃ w0 w1 : Value, args = #[w0, w1] := by
    have hs : args.size = 2 := by simpa [Cond.value, given_1] using g1
    obtain ⟨L⟩ := args
    match L, hs with
    | [w0, w1], _ => exact ⟨w0, w1, rfl⟩
  have hw := fun d (hd : d ∈ tables_1) => atoms_spec (ws := Jvm.Cond.code x code maxLocals ret :: tables_1) hat d (List.mem_cons_of_mem _ hd)
  obtain ⟨i0, ei0⟩ := isL_v g3
  obtain rfl : w0 = (.long i0) := Option.some.inj ei0
  obtain ⟨i1, ei1⟩ := is_v g4
  obtain rfl : w1 = (.int i1) := Option.some.inj ei1
  obtain ⟨n, o, h1, h2, h3, _, L, rfl, ⟨rfl, N⟩, hq⟩ := rm0 l s _ hw tables_1 i0 i1 s.heap s.heap.size (Nat.le_refl _) p e ha hc hk s m _ below hf ((Spec.applies_iff_loose hf).mp happ).1 ⟨rfl, State.Warmed39.refl s, rfl⟩ trivial
  refine ⟨n, _, h1, h2, h3, hpost _ _ _ _ _ _ ⟨Cond.after_iff.mpr rfl, Cond.after_iff.mpr (eq_i res_at (Term.int_eval (1)) rfl), trivial⟩ ⟨hq.1, hq.2.1, (hq.2.2.sift fun y hy => Or.inr (N y hy)).mono (by decide) (by decide)⟩⟩
theorem main_1_1 : Claimed_1_1 := comes_1 fun _ _ _ _ _ _ h hF => ⟨h.1, hF⟩
theorem main_1_2 : Claimed_1_2 := comes_1 fun _ _ _ _ _ _ h hF => ⟨h.2.1, hF⟩
end Jvm.Pilot.@@N@@
namespace Jvm.Pilot.@@N@@
open Jvm Jvm.ClassFile Sem Op Lib Jvm.Free Jvm.Stand Jvm.Pilot.@@N@@.Jvm.D
/-! MADE BY PROGRAM (witnessworld.py) out of the Statement's table words and the real class files: 9 classes; the members and pool entries that the words name. The judged class is class 1, her method 4. -/
namespace start1
open Jvm.ClassFile
def u (s : String) : CpInfo := .utf8 (stringToUtf16 s)
/-- a pool by its gaps: so many unusable entries, then the entry; so many at the end -/
def gap : Nat → List CpInfo → List CpInfo
  | 0, r => r
  | n + 1, r => .unusable :: gap n r
def poolList (es : List (Nat × CpInfo)) (last : Nat) : List CpInfo := es.foldr (fun e r => gap e.1 (e.2 :: r)) (gap last [])
def pool (es : List (Nat × CpInfo)) (last : Nat) : Array CpInfo := ⟨poolList es last⟩
def fileOf (pool : Array CpInfo) (this : Nat) (attrs : Array Attribute := #[]) (ms : Array MethodInfo := #[]) (fl : Nat := 33) (sup : Nat := 0) (ifs : Array Nat := #[]) (fds : Array FieldInfo := #[]) : ClassFile where
  minorVersion := 0
  majorVersion := 65
  constantPool := pool
  accessFlags := fl
  thisClass := this
  superClass := sup
  interfaces := ifs
  fields := fds
  methods := ms
  attributes := attrs
def plain (name : String) (sup : Option ClassId) : Class where
  name := name
  kind := .ordinary
  loader := none
  accessFlags := 33
  super := sup
  interfaces := #[]
  cf := none
  fields := #[]
  methods := #[]
  instanceTypes := #[]
  staticTypes := #[]
  resolved := #[]
  callSites := []
  init := .initialized
  statics := none
  mirror := none

def pool0 : Array CpInfo := pool [(5, u "<init>"), (0, u "()V"), (1, .class_ 10), (1, u "java/lang/Object")] 113

def k0c0 : Code := { maxStack := 0, maxLocals := 1, code := object_method_1_code, exceptionTable := #[], attributes := #[] }
def k0m0 : Method := { name := "<init>", desc := "()V", sig := { parameters := [], returnType := none }, accessFlags := 1, code := some k0c0 }
/-- java/lang/Object -/
def k0 : Class := { plain "java/lang/Object" none with
  accessFlags := 33
  interfaces := #[]
  cf := some (fileOf pool0 8 #[] #[{ accessFlags := 1, nameIndex := 5, descriptorIndex := 6, attributes := #[] }] 33 0 #[] #[])
  fields := #[]
  methods := #[k0m0]
  instanceTypes := #[]
  staticTypes := #[]
  resolved := Array.replicate 124 none
  statics := none }

def pool1 : Array CpInfo := pool [(2, .class_ 4), (1, u "java/lang/Object"), (0, u "<init>"), (0, u "()V"), (0, .long 2), (1, .methodref 10 11), (0, .class_ 12), (0, .nameAndType 13 14), (0, u "com/example/varietal/varietal/core/random/SeededRandomNextLongPinLaw"), (0, u "newton"), (0, u "(JJ)J"), (0, .long 10723151780598845931), (1, .methodref 10 18), (0, .nameAndType 19 20), (0, u "inverse"), (0, u "(J)J"), (0, .long 13787848793156543929), (1, .class_ 24), (0, u "com/example/varietal/varietal/core/random/SeededRandom"), (0, .methodref 23 26), (0, .nameAndType 5 27), (0, u "(J)V"), (0, .methodref 23 29), (0, .nameAndType 30 6), (0, u "nextStream"), (0, .long 11400714819323198485), (1, .methodref 23 34), (0, .nameAndType 35 20), (0, u "step"), (0, .methodref 23 37), (0, .nameAndType 38 39), (0, u "nextLong"), (0, u "()J"), (0, .methodref 10 41), (0, .nameAndType 42 20), (0, u "unmix"), (0, .long 3), (1, .long 4), (3, u "law"), (0, u "(JI)Z")] 3

def k1m0 : Method := { name := "<init>", desc := "()V", sig := { parameters := [], returnType := none }, accessFlags := 2, code := none }
def k1c1 : Code := { maxStack := 8, maxLocals := 4, code := method_2_code, exceptionTable := #[], attributes := #[] }
def k1m1 : Method := { name := "newton", desc := "(JJ)J", sig := { parameters := [.long, .long], returnType := some .long }, accessFlags := 10, code := some k1c1 }
def k1c2 : Code := { maxStack := 4, maxLocals := 4, code := method_3_code, exceptionTable := #[], attributes := #[] }
def k1m2 : Method := { name := "inverse", desc := "(J)J", sig := { parameters := [.long], returnType := some .long }, accessFlags := 10, code := some k1c2 }
def k1c3 : Code := { maxStack := 5, maxLocals := 4, code := method_4_code, exceptionTable := #[], attributes := #[] }
def k1m3 : Method := { name := "unmix", desc := "(J)J", sig := { parameters := [.long], returnType := some .long }, accessFlags := 10, code := some k1c3 }
def k1c4 : Code := { maxStack := 8, maxLocals := 15, code := code, exceptionTable := #[], attributes := #[] }
def k1m4 : Method := { name := "law", desc := "(JI)Z", sig := { parameters := [.long, .int], returnType := some .boolean }, accessFlags := 9, code := some k1c4 }
/-- com/example/varietal/varietal/core/random/SeededRandomNextLongPinLaw -/
def k1 : Class := { plain "com/example/varietal/varietal/core/random/SeededRandomNextLongPinLaw" (some 0) with
  accessFlags := 49
  interfaces := #[]
  cf := some (fileOf pool1 10 #[] #[{ accessFlags := 2, nameIndex := 5, descriptorIndex := 6, attributes := #[] }, { accessFlags := 10, nameIndex := 13, descriptorIndex := 14, attributes := #[] }, { accessFlags := 10, nameIndex := 19, descriptorIndex := 20, attributes := #[] }, { accessFlags := 10, nameIndex := 42, descriptorIndex := 20, attributes := #[] }, { accessFlags := 9, nameIndex := 49, descriptorIndex := 50, attributes := #[] }] 49 2 #[] #[])
  fields := #[]
  methods := #[k1m0, k1m1, k1m2, k1m3, k1m4]
  instanceTypes := #[]
  staticTypes := #[]
  resolved := Array.replicate 54 none
  statics := none }

def pool2 : Array CpInfo := pool [(3, .methodref 4 5), (0, .class_ 6), (0, .nameAndType 7 8), (0, u "java/lang/Object"), (0, u "<init>"), (0, u "()V"), (0, .class_ 10), (0, u "com/example/varietal/varietal/core/random/SeededRandom"), (0, .long 11400714819323198485), (1, .fieldref 9 14), (0, .nameAndType 15 16), (0, u "step"), (0, u "J"), (0, .fieldref 9 18), (0, .nameAndType 19 16), (0, u "seed"), (0, .fieldref 9 21), (0, .nameAndType 22 16), (0, u "state"), (0, .fieldref 9 24), (0, .nameAndType 25 16), (0, u "stream"), (0, .methodref 9 27), (0, .nameAndType 15 28), (0, u "(J)J"), (0, .long 13787848793156543929), (1, .long 10723151780598845931), (1, .long 9223372036854775807), (3, u "nextLong"), (0, u "()J"), (0, .long 2), (1, u "STEP"), (1, u "LOW_63_BITS"), (0, u "(J)V"), (2, u "nextStream")] 7

def k2c0 : Code := { maxStack := 3, maxLocals := 3, code := prog_9_method_1_code, exceptionTable := #[], attributes := #[] }
def k2m0 : Method := { name := "<init>", desc := "(J)V", sig := { parameters := [.long], returnType := none }, accessFlags := 0, code := some k2c0 }
def k2c1 : Code := { maxStack := 5, maxLocals := 1, code := prog_9_method_2_code, exceptionTable := #[], attributes := #[] }
def k2m1 : Method := { name := "nextStream", desc := "()V", sig := { parameters := [], returnType := none }, accessFlags := 0, code := some k2c1 }
def k2c2 : Code := { maxStack := 5, maxLocals := 3, code := prog_9_method_3_code, exceptionTable := #[], attributes := #[] }
def k2m2 : Method := { name := "nextLong", desc := "()J", sig := { parameters := [], returnType := some .long }, accessFlags := 0, code := some k2c2 }
def k2c3 : Code := { maxStack := 6, maxLocals := 4, code := prog_9_method_6_code, exceptionTable := #[], attributes := #[] }
def k2m3 : Method := { name := "step", desc := "(J)J", sig := { parameters := [.long], returnType := some .long }, accessFlags := 8, code := some k2c3 }
/-- com/example/varietal/varietal/core/random/SeededRandom -/
def k2 : Class := { plain "com/example/varietal/varietal/core/random/SeededRandom" (some 0) with
  accessFlags := 32
  interfaces := #[]
  cf := some (fileOf pool2 9 #[] #[{ accessFlags := 0, nameIndex := 7, descriptorIndex := 44, attributes := #[] }, { accessFlags := 0, nameIndex := 47, descriptorIndex := 8, attributes := #[] }, { accessFlags := 0, nameIndex := 37, descriptorIndex := 38, attributes := #[] }, { accessFlags := 8, nameIndex := 15, descriptorIndex := 28, attributes := #[] }] 32 4 #[] #[{ accessFlags := 26, nameIndex := 41, descriptorIndex := 16, attributes := #[] }, { accessFlags := 26, nameIndex := 43, descriptorIndex := 16, attributes := #[] }, { accessFlags := 18, nameIndex := 19, descriptorIndex := 16, attributes := #[] }, { accessFlags := 2, nameIndex := 25, descriptorIndex := 16, attributes := #[] }, { accessFlags := 2, nameIndex := 15, descriptorIndex := 16, attributes := #[] }, { accessFlags := 2, nameIndex := 22, descriptorIndex := 16, attributes := #[] }])
  fields := #[{ name := "STEP", type := .long, accessFlags := 26, slot := 0, constantValue := 0 }, { name := "LOW_63_BITS", type := .long, accessFlags := 26, slot := 1, constantValue := 0 }, { name := "seed", type := .long, accessFlags := 18, slot := 0, constantValue := 0 }, { name := "stream", type := .long, accessFlags := 2, slot := 1, constantValue := 0 }, { name := "step", type := .long, accessFlags := 2, slot := 2, constantValue := 0 }, { name := "state", type := .long, accessFlags := 2, slot := 3, constantValue := 0 }]
  methods := #[k2m0, k2m1, k2m2, k2m3]
  instanceTypes := #[.long, .long, .long, .long]
  staticTypes := #[.long, .long]
  resolved := Array.replicate 55 none
  statics := none }

def pool3 : Array CpInfo := pool [(1, u "java/lang/Cloneable"), (0, .class_ 1), (0, u "java/lang/Object"), (0, .class_ 3)] 3

/-- java/lang/Cloneable -/
def k3 : Class := { plain "java/lang/Cloneable" (some 0) with
  accessFlags := 1537
  interfaces := #[]
  cf := some (fileOf pool3 2 #[] #[] 1537 4 #[] #[])
  fields := #[]
  methods := #[]
  instanceTypes := #[]
  staticTypes := #[]
  resolved := Array.replicate 8 none
  statics := none }

def pool4 : Array CpInfo := pool [(1, u "java/io/Serializable"), (0, .class_ 1), (0, u "java/lang/Object"), (0, .class_ 3)] 3

/-- java/io/Serializable -/
def k4 : Class := { plain "java/io/Serializable" (some 0) with
  accessFlags := 1537
  interfaces := #[]
  cf := some (fileOf pool4 2 #[] #[] 1537 4 #[] #[])
  fields := #[]
  methods := #[]
  instanceTypes := #[]
  staticTypes := #[]
  resolved := Array.replicate 8 none
  statics := none }

/-- the primitive byte -/
def k5 : Class := { plain "byte" none with kind := .primitive 'B', accessFlags := 0x411 }
/-- [B -/
def k6 : Class := { plain "[B" (some 0) with kind := .array 5 .byte, interfaces := #[3, 4], accessFlags := 1041 }

/-- the primitive int -/
def k7 : Class := { plain "int" none with kind := .primitive 'I', accessFlags := 0x411 }
/-- [I -/
def k8 : Class := { plain "[I" (some 0) with kind := .array 7 .int, interfaces := #[3, 4], accessFlags := 1041 }

def heap : Heap := #[]
def classes : Array Class := #[k0, k1, k2, k3, k4, k5, k6, k7, k8]
def interned : List (Array UInt16 × Addr) := []
def slotsUsed : Nat := 0
def theMethod : MethodId := ⟨1, 4⟩
def args0 : Array Value := #[.long 5, .int 2]
def aboutOver (below : List Frame) : State where
  vm := { classes := classes, interned := interned.toArray }
  heap := heap
  slotsUsed := slotsUsed
  threads := #[{ frames := .invoking theMethod args0 :: below }]
def below0 : List Frame := [.native { method := ⟨0, 0⟩, args := #[] }]
def about1 : State := aboutOver below0
def p0 : Program := .bare "" "" ""
def e0 : Env := launch0.env 0 0 0
theorem w_frames : about1.frames = Frame.invoking theMethod args0 :: below0 := rfl
set_option maxRecDepth 65536 in
theorem w_args : argsFit about1.vm theMethod args0 = true := by decide +kernel
set_option maxRecDepth 65536 in
theorem w_heap : heapFits about1 = true := by decide +kernel
set_option maxRecDepth 65536 in
theorem w_runnable : about1.curStatus? = some .runnable := by decide +kernel
set_option maxRecDepth 65536 in
theorem w_alone : about1.alone = true := by decide +kernel
set_option maxRecDepth 65536 in
theorem w_named : about1.methodNamed? x = some theMethod := by decide +kernel
set_option maxRecDepth 65536 in
theorem w_hears : about1.hears theMethod below0 = true := by decide +kernel
set_option maxRecDepth 65536 in
theorem w_ripe : about1.ripe theMethod args0 below0 = true := by decide +kernel
theorem w_running : about1.status = .running := rfl
set_option maxRecDepth 65536 in
theorem w_room : about1.hasRoom e0.platform room_1 = true :=
  launch0.hasRoom_least _ room_1 (by decide +kernel) (by decide +kernel) (by decide +kernel) (by decide +kernel) (by decide +kernel) (by decide +kernel)
theorem allAtoms_all (ts : List Jvm.Cond) (a : Array Jvm.Value) (st : Jvm.State) : (allAtoms ts).before a st = ts.all (fun c => c.before a st) := by
  induction ts with
  | nil => rfl
  | cons c t ih =>
    show (Jvm.Cond.and c (allAtoms t)).before a st = _
    rw [Jvm.Cond.before_and, ih, List.all_cons]
def words1 : List Jvm.Cond := Jvm.Cond.code x code maxLocals ret :: tables_1
/-- a 'code' word, met by the world's own term for the bytes: nothing is compared byte by byte -/
theorem code_word {y : MethodName} {bytes : ByteArray} {mx : Nat} {rt : Option FieldType} {a : Array Value} {s : State} {m : MethodId} {meth : Method} {c : Code} (h1 : s.methodNamed? y = some m) (h2 : s.vm.method? m = some meth) (h3 : meth.code = some c) (h4 : c.code = bytes)
    (h5 : (c.maxLocals == mx && c.exceptionTable.isEmpty && decide (c.maxStack ≤ mostOperands) && decide (meth.sig.returnType = rt) && !meth.locks && decide (parseMethodDescriptor y.desc = some meth.sig)) = true) : (Jvm.Cond.code y bytes mx rt).before a s = true := by
  simp only [Bool.and_eq_true, beq_iff_eq, Bool.not_eq_true', decide_eq_true_eq] at h5
  obtain ⟨⟨⟨⟨⟨g1, g2⟩, g3⟩, g4⟩, g5⟩, g6⟩ := h5
  simp [Cond.before, Cond.holds, Cond.value, h1, h2, h3, h4, g1, g2, g3, g4, g5, g6]
def isCode : Jvm.Cond → Bool
  | .code _ _ _ _ => true
  | _ => false
theorem all_split {L : List Jvm.Cond} {P : Jvm.Cond → Bool} (h1 : L.all (fun c => isCode c || P c) = true) (h2 : ∀ c ∈ L.filter isCode, P c = true) : L.all P = true := by
  refine List.all_eq_true.mpr fun c hc => ?_
  have h := List.all_eq_true.mp h1 c hc
  rcases Bool.eq_false_or_eq_true (isCode c) with hi | hi
  · exact h2 c (List.mem_filter.mpr ⟨hc, hi⟩)
  · simpa [hi] using h
set_option maxRecDepth 65536 in
theorem w_c0 : (Jvm.Cond.code x code maxLocals ret).before args0 about1 = true := code_word (m := ⟨1, 4⟩) (meth := k1m4) (c := k1c4) (by decide +kernel) rfl rfl rfl (by decide +kernel)
set_option maxRecDepth 65536 in
theorem w_c1 : (Jvm.Cond.code ({ cls := "com/example/varietal/varietal/core/random/SeededRandom", name := "<init>", desc := "(J)V" } : Jvm.MethodName) prog_9_method_1_code (3 : Nat) (Option.none : Option Jvm.ClassFile.FieldType)).before args0 about1 = true := code_word (m := ⟨2, 0⟩) (meth := k2m0) (c := k2c0) (by decide +kernel) rfl rfl rfl (by decide +kernel)
set_option maxRecDepth 65536 in
theorem w_c2 : (Jvm.Cond.code ({ cls := "java/lang/Object", name := "<init>", desc := "()V" } : Jvm.MethodName) object_method_1_code (1 : Nat) (Option.none : Option Jvm.ClassFile.FieldType)).before args0 about1 = true := code_word (m := ⟨0, 0⟩) (meth := k0m0) (c := k0c0) (by decide +kernel) rfl rfl rfl (by decide +kernel)
set_option maxRecDepth 65536 in
theorem w_c3 : (Jvm.Cond.code ({ cls := "com/example/varietal/varietal/core/random/SeededRandom", name := "nextStream", desc := "()V" } : Jvm.MethodName) prog_9_method_2_code (1 : Nat) (Option.none : Option Jvm.ClassFile.FieldType)).before args0 about1 = true := code_word (m := ⟨2, 1⟩) (meth := k2m1) (c := k2c1) (by decide +kernel) rfl rfl rfl (by decide +kernel)
set_option maxRecDepth 65536 in
theorem w_c4 : (Jvm.Cond.code ({ cls := "com/example/varietal/varietal/core/random/SeededRandom", name := "step", desc := "(J)J" } : Jvm.MethodName) prog_9_method_6_code (4 : Nat) (Option.some Jvm.ClassFile.FieldType.long)).before args0 about1 = true := code_word (m := ⟨2, 3⟩) (meth := k2m3) (c := k2c3) (by decide +kernel) rfl rfl rfl (by decide +kernel)
set_option maxRecDepth 65536 in
theorem w_c5 : (Jvm.Cond.code ({ cls := "com/example/varietal/varietal/core/random/SeededRandom", name := "nextLong", desc := "()J" } : Jvm.MethodName) prog_9_method_3_code (3 : Nat) (Option.some Jvm.ClassFile.FieldType.long)).before args0 about1 = true := code_word (m := ⟨2, 2⟩) (meth := k2m2) (c := k2c2) (by decide +kernel) rfl rfl rfl (by decide +kernel)
set_option maxRecDepth 65536 in
theorem w_c6 : (Jvm.Cond.code ({ cls := "com/example/varietal/varietal/core/random/SeededRandomNextLongPinLaw", name := "unmix", desc := "(J)J" } : Jvm.MethodName) method_4_code (4 : Nat) (Option.some Jvm.ClassFile.FieldType.long)).before args0 about1 = true := code_word (m := ⟨1, 3⟩) (meth := k1m3) (c := k1c3) (by decide +kernel) rfl rfl rfl (by decide +kernel)
set_option maxRecDepth 65536 in
theorem w_c7 : (Jvm.Cond.code ({ cls := "com/example/varietal/varietal/core/random/SeededRandomNextLongPinLaw", name := "inverse", desc := "(J)J" } : Jvm.MethodName) method_3_code (4 : Nat) (Option.some Jvm.ClassFile.FieldType.long)).before args0 about1 = true := code_word (m := ⟨1, 2⟩) (meth := k1m2) (c := k1c2) (by decide +kernel) rfl rfl rfl (by decide +kernel)
set_option maxRecDepth 65536 in
theorem w_c8 : (Jvm.Cond.code ({ cls := "com/example/varietal/varietal/core/random/SeededRandomNextLongPinLaw", name := "newton", desc := "(JJ)J" } : Jvm.MethodName) method_2_code (4 : Nat) (Option.some Jvm.ClassFile.FieldType.long)).before args0 about1 = true := code_word (m := ⟨1, 1⟩) (meth := k1m1) (c := k1c1) (by decide +kernel) rfl rfl rfl (by decide +kernel)
def codes1 : List Jvm.Cond := [Jvm.Cond.code x code maxLocals ret, Jvm.Cond.code ({ cls := "com/example/varietal/varietal/core/random/SeededRandom", name := "<init>", desc := "(J)V" } : Jvm.MethodName) prog_9_method_1_code (3 : Nat) (Option.none : Option Jvm.ClassFile.FieldType), Jvm.Cond.code ({ cls := "java/lang/Object", name := "<init>", desc := "()V" } : Jvm.MethodName) object_method_1_code (1 : Nat) (Option.none : Option Jvm.ClassFile.FieldType), Jvm.Cond.code ({ cls := "com/example/varietal/varietal/core/random/SeededRandom", name := "nextStream", desc := "()V" } : Jvm.MethodName) prog_9_method_2_code (1 : Nat) (Option.none : Option Jvm.ClassFile.FieldType), Jvm.Cond.code ({ cls := "com/example/varietal/varietal/core/random/SeededRandom", name := "step", desc := "(J)J" } : Jvm.MethodName) prog_9_method_6_code (4 : Nat) (Option.some Jvm.ClassFile.FieldType.long), Jvm.Cond.code ({ cls := "com/example/varietal/varietal/core/random/SeededRandom", name := "nextLong", desc := "()J" } : Jvm.MethodName) prog_9_method_3_code (3 : Nat) (Option.some Jvm.ClassFile.FieldType.long), Jvm.Cond.code ({ cls := "com/example/varietal/varietal/core/random/SeededRandomNextLongPinLaw", name := "unmix", desc := "(J)J" } : Jvm.MethodName) method_4_code (4 : Nat) (Option.some Jvm.ClassFile.FieldType.long), Jvm.Cond.code ({ cls := "com/example/varietal/varietal/core/random/SeededRandomNextLongPinLaw", name := "inverse", desc := "(J)J" } : Jvm.MethodName) method_3_code (4 : Nat) (Option.some Jvm.ClassFile.FieldType.long), Jvm.Cond.code ({ cls := "com/example/varietal/varietal/core/random/SeededRandomNextLongPinLaw", name := "newton", desc := "(JJ)J" } : Jvm.MethodName) method_2_code (4 : Nat) (Option.some Jvm.ClassFile.FieldType.long)]
set_option maxRecDepth 65536 in
theorem codes_eq : words1.filter isCode = codes1 := rfl
theorem w_codes : ∀ c ∈ words1.filter isCode, c.before args0 about1 = true := by
  rw [codes_eq]
  intro c hc
  simp only [codes1, List.mem_cons, List.not_mem_nil, or_false] at hc
  rcases hc with rfl | rfl | rfl | rfl | rfl | rfl | rfl | rfl | rfl
  · exact w_c0
  · exact w_c1
  · exact w_c2
  · exact w_c3
  · exact w_c4
  · exact w_c5
  · exact w_c6
  · exact w_c7
  · exact w_c8
set_option maxRecDepth 65536 in
theorem w_t1 : (words1.take 24).all (fun c => isCode c || c.before args0 about1) = true := by decide +kernel
set_option maxRecDepth 65536 in
theorem w_t2 : ((words1.drop 24).take 24).all (fun c => isCode c || c.before args0 about1) = true := by decide +kernel
set_option maxRecDepth 65536 in
theorem w_t3 : ((words1.drop 24).drop 24).all (fun c => isCode c || c.before args0 about1) = true := by decide +kernel
theorem w_tables : (allAtoms (Jvm.Cond.code x code maxLocals ret :: tables_1)).before args0 about1 = true := by
  rw [allAtoms_all]
  show words1.all (fun c => c.before args0 about1) = true
  refine all_split ?_ w_codes
  rw [← List.take_append_drop 24 words1, List.all_append, w_t1, ← List.take_append_drop 24 (words1.drop 24), List.all_append, w_t2, w_t3]
  rfl
set_option maxRecDepth 65536 in
theorem w_case : (Jvm.Cond.and given_1 narrow_1).before args0 about1 = true := by decide +kernel
theorem w_applies : (headSpec (Jvm.Cond.code x code maxLocals ret :: tables_1) room_1).applies x e0.platform about1 = true :=
  (Spec.applies_iff w_frames).mpr ⟨w_running, w_runnable, w_alone, w_named, w_hears, w_ripe, w_room, w_tables⟩
theorem atStart : AtStart classFile x code maxLocals ret World_1 tables_1 room_1 Calls_1 rest_1 Pre_1 launch0 p0 e0 about1 theMethod args0 below0 :=
  ⟨lists_1, trivial, launch0.admits_env _ _ _, launch0.least_env, fairChoices_fair.cas, fairChoices_fair.clock, w_frames, w_args, w_heap, w_applies, trivial, trivial, w_case⟩
end start1
theorem witness_1 : WitnessClaimed_1 := ⟨start1.p0, start1.e0, start1.about1, start1.theMethod, start1.args0, start1.below0, start1.atStart⟩
end Jvm.Pilot.@@N@@
