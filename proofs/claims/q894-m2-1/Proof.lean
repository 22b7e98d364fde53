import JvmDerived
import JvmDerived.Pilot.@@N@@Statement
import JvmDerived.Pilot.@@N@@Code
set_option linter.unusedVariables false
set_option linter.unusedSimpArgs false
namespace Jvm.RoadKit
open Sem ClassFile Op Lib Jvm.Stand Jvm.Free Jvm.LawKit
section New
variable {p : Program} {l : Launch} {e : Env} {R : Room} {s : State} {m : MethodId} {args : Array Value} {below : List Frame} {meth : Method} {c : Code} {T : State} {locs : List Loc} {cells slots : Nat}
theorem retI (X : Stand p l e R s m args below meth c T locs cells slots) (hx : p.tables.exec = Jvm.exec) {pc : Nat} {Ls : Array Slot} {z : Int32} {rest : List Value} (hret : meth.sig.returnType = some .int) (hd : decode c.code pc = .ok (.ireturn, 1)) {fs : List Frame}
    (hl : ∀ (f : JFrame) (acts : List Action), f.method = m → f.locked = none → f.entered = [] → (doReturn e (T.setTop f) acts (some (.int z))).1 = T.setFrames fs) : Steps p.tables e below (T.setTop (mkF m pc Ls (.int z :: rest))) (T.setFrames fs) := by
  have hm' : T.vm.method? m = some meth := X.method'
  have hn : narrow .int (.int z) = .int z := rfl
  show Steps p.tables e below (T.setTop { method := m, pc := pc, locals := Ls, stack := _ :: rest, locked := none }) _
  jvm_step X.here [X.here.top, hx, hd, hm', hret, hn]
  first | (intro acts; rw [hl _ acts rfl rfl rfl]) | rw [hl _ _ rfl rfl rfl]
  exact Steps.refl _
end New
end Jvm.RoadKit
namespace Jvm.Pilot.@@N@@
open Jvm Jvm.ClassFile Sem Op Lib Jvm.Free Jvm.Stand Jvm.LawKit Jvm.RoadKit Bundle Jvm.Pilot.@@N@@.Jvm.D
section OwnKit
variable {p : Program} {l : Launch} {e : Env} {R : Room} {s : State} {m : MethodId} {args : Array Value} {below : List Frame} {meth : Method} {c : Code} {T : State} {locs : List Loc} {cells slots : Nat} {Z : State} {a0 : Array Value} {h : Heap}
variable {Q : Option Value → Heap → List Loc → Prop} {rc rs pc : Nat} {Ls : Array Slot} {st : List Value}
def Go (p : Program) (e : Env) (below : List Frame) (s : State) (Q : Option Value → Heap → List Loc → Prop) (rc rs : Nat) (F : State) : Prop :=
  ∃ s₂ o, Steps p.tables e below F s₂ ∧ s₂.status = .running ∧ Ended s₂ below o ∧ ∃ v L, o = .returned v ∧ Q v s₂.heap L ∧ FrameEnd s o s₂ L rc rs
theorem Go.by {F F' : State} (g : Go p e below s Q rc rs F') (h : ∀ t, Steps p.tables e below F' t → Steps p.tables e below F t) : Go p e below s Q rc rs F := by
  obtain ⟨s2, o, h1, r⟩ := g
  exact ⟨s2, o, h _ h1, r⟩
def shlI (x y : Int32) : Int32 := x <<< (y &&& 31)
def shrI (x y : Int32) : Int32 := x >>> (y &&& 31)
def ushrI (x y : Int32) : Int32 := (x.toUInt32 >>> (y &&& 31).toUInt32).toInt32
def shlJ (x : Int64) (y : Int32) : Int64 := x <<< (y &&& 0x3f).toInt64
def shrJ (x : Int64) (y : Int32) : Int64 := x >>> (y &&& 0x3f).toInt64
def ushrJ (x : Int64) (y : Int32) : Int64 := (x.toUInt64 >>> (y &&& 0x3f).toInt64.toUInt64).toInt64
def i2bI (x : Int32) : Int32 := x.toInt8.toInt32
def i2cI (x : Int32) : Int32 := x.toUInt32.toUInt16.toUInt32.toInt32
def i2sI (x : Int32) : Int32 := x.toInt16.toInt32
theorem g_iload (X : Stand p l e R s m args below meth c T locs cells slots) (hx : p.tables.exec = Jvm.exec) {k : Nat} {v : Int32} (pc' : Nat) (hd : decode c.code pc = .ok (.iload k, 2)) (hl : Ls[k]? = some (.val (.int v))) (hp : pc + 2 = pc') (g : Go p e below s Q rc rs (T.setTop (mkF m pc' Ls (.int v :: st)))) : Go p e below s Q rc rs (T.setTop (mkF m pc Ls st)) := by
  subst hp; exact g.by fun t k => XS.iload X.here hx rfl hd hl k
theorem g_iloadN (X : Stand p l e R s m args below meth c T locs cells slots) (hx : p.tables.exec = Jvm.exec) {k : Fin 4} {v : Int32} (pc' : Nat) (hd : decode c.code pc = .ok (.iload_n k, 1)) (hl : Ls[k.val]? = some (.val (.int v))) (hp : pc + 1 = pc') (g : Go p e below s Q rc rs (T.setTop (mkF m pc' Ls (.int v :: st)))) : Go p e below s Q rc rs (T.setTop (mkF m pc Ls st)) := by
  subst hp; exact g.by fun t k => XS.iloadN X.here hx rfl hd hl k
theorem g_istore (X : Stand p l e R s m args below meth c T locs cells slots) (hx : p.tables.exec = Jvm.exec) {k : Nat} {v : Int32} (l' : Array Slot) (pc' : Nat) (hd : decode c.code pc = .ok (.istore k, 2)) (hl : storeLocals Ls k (.int v) = some l') (hp : pc + 2 = pc') (g : Go p e below s Q rc rs (T.setTop (mkF m pc' l' st))) : Go p e below s Q rc rs (T.setTop (mkF m pc Ls (.int v :: st))) := by
  subst hp; exact g.by fun t k => XS.istore X.here hx rfl hd rfl hl k
theorem g_istoreN (X : Stand p l e R s m args below meth c T locs cells slots) (hx : p.tables.exec = Jvm.exec) {k : Fin 4} {v : Int32} (l' : Array Slot) (pc' : Nat) (hd : decode c.code pc = .ok (.istore_n k, 1)) (hl : storeLocals Ls k.val (.int v) = some l') (hp : pc + 1 = pc') (g : Go p e below s Q rc rs (T.setTop (mkF m pc' l' st))) : Go p e below s Q rc rs (T.setTop (mkF m pc Ls (.int v :: st))) := by
  subst hp; exact g.by fun t k => XS.istoreN X.here hx rfl hd rfl hl k
theorem g_lload (X : Stand p l e R s m args below meth c T locs cells slots) (hx : p.tables.exec = Jvm.exec) {k : Nat} {v : Int64} (pc' : Nat) (hd : decode c.code pc = .ok (.lload k, 2)) (hl : Ls[k]? = some (.val (.long v))) (hp : pc + 2 = pc') (g : Go p e below s Q rc rs (T.setTop (mkF m pc' Ls (.long v :: st)))) : Go p e below s Q rc rs (T.setTop (mkF m pc Ls st)) := by
  subst hp; exact g.by fun t k => XS.lload X.here hx rfl hd hl k
theorem g_lloadN (X : Stand p l e R s m args below meth c T locs cells slots) (hx : p.tables.exec = Jvm.exec) {k : Fin 4} {v : Int64} (pc' : Nat) (hd : decode c.code pc = .ok (.lload_n k, 1)) (hl : Ls[k.val]? = some (.val (.long v))) (hp : pc + 1 = pc') (g : Go p e below s Q rc rs (T.setTop (mkF m pc' Ls (.long v :: st)))) : Go p e below s Q rc rs (T.setTop (mkF m pc Ls st)) := by
  subst hp; exact g.by fun t k => XS.lloadN X.here hx rfl hd hl k
theorem g_lstore (X : Stand p l e R s m args below meth c T locs cells slots) (hx : p.tables.exec = Jvm.exec) {k : Nat} {v : Int64} (l' : Array Slot) (pc' : Nat) (hd : decode c.code pc = .ok (.lstore k, 2)) (hl : storeLocals Ls k (.long v) = some l') (hp : pc + 2 = pc') (g : Go p e below s Q rc rs (T.setTop (mkF m pc' l' st))) : Go p e below s Q rc rs (T.setTop (mkF m pc Ls (.long v :: st))) := by
  subst hp; exact g.by fun t k => XS.lstore X.here hx rfl hd rfl hl k
theorem g_lstoreN (X : Stand p l e R s m args below meth c T locs cells slots) (hx : p.tables.exec = Jvm.exec) {k : Fin 4} {v : Int64} (l' : Array Slot) (pc' : Nat) (hd : decode c.code pc = .ok (.lstore_n k, 1)) (hl : storeLocals Ls k.val (.long v) = some l') (hp : pc + 1 = pc') (g : Go p e below s Q rc rs (T.setTop (mkF m pc' l' st))) : Go p e below s Q rc rs (T.setTop (mkF m pc Ls (.long v :: st))) := by
  subst hp; exact g.by fun t k => XS.lstoreN X.here hx rfl hd rfl hl k
theorem g_aload (X : Stand p l e R s m args below meth c T locs cells slots) (hx : p.tables.exec = Jvm.exec) {k : Nat} {v : Value} (pc' : Nat) (hd : decode c.code pc = .ok (.aload k, 2)) (hl : Ls[k]? = some (.val v)) (hv : v.isRef = true) (hp : pc + 2 = pc') (g : Go p e below s Q rc rs (T.setTop (mkF m pc' Ls (v :: st)))) : Go p e below s Q rc rs (T.setTop (mkF m pc Ls st)) := by
  subst hp; exact g.by fun t k => XS.aload X.here hx rfl hd hl hv k
theorem g_aloadN (X : Stand p l e R s m args below meth c T locs cells slots) (hx : p.tables.exec = Jvm.exec) {k : Fin 4} {v : Value} (pc' : Nat) (hd : decode c.code pc = .ok (.aload_n k, 1)) (hl : Ls[k.val]? = some (.val v)) (hv : v.isRef = true) (hp : pc + 1 = pc') (g : Go p e below s Q rc rs (T.setTop (mkF m pc' Ls (v :: st)))) : Go p e below s Q rc rs (T.setTop (mkF m pc Ls st)) := by
  subst hp; exact g.by fun t k => XS.aloadN X.here hx rfl hd hl hv k
theorem g_astore (X : Stand p l e R s m args below meth c T locs cells slots) (hx : p.tables.exec = Jvm.exec) {k : Nat} {v : Value} (l' : Array Slot) (pc' : Nat) (hd : decode c.code pc = .ok (.astore k, 2)) (hl : storeLocals Ls k v = some l') (hv : v.isRef = true) (hp : pc + 2 = pc') (g : Go p e below s Q rc rs (T.setTop (mkF m pc' l' st))) : Go p e below s Q rc rs (T.setTop (mkF m pc Ls (v :: st))) := by
  subst hp; exact g.by fun t k => XS.astore X.here hx rfl hd rfl hv hl k
theorem g_astoreN (X : Stand p l e R s m args below meth c T locs cells slots) (hx : p.tables.exec = Jvm.exec) {k : Fin 4} {v : Value} (l' : Array Slot) (pc' : Nat) (hd : decode c.code pc = .ok (.astore_n k, 1)) (hl : storeLocals Ls k.val v = some l') (hv : v.isRef = true) (hp : pc + 1 = pc') (g : Go p e below s Q rc rs (T.setTop (mkF m pc' l' st))) : Go p e below s Q rc rs (T.setTop (mkF m pc Ls (v :: st))) := by
  subst hp; exact g.by fun t k => XS.astoreN X.here hx rfl hd rfl hv hl k
theorem g_istoreS (X : Stand p l e R s m args below meth c T locs cells slots) (hx : p.tables.exec = Jvm.exec) {k : Nat} {v : Int32} {os : Slot} (l' : Array Slot) (pc' : Nat) (hd : decode c.code pc = .ok (.istore k, 2)) (hold : Ls[k]? = some os) (ho : One os) (hl : Ls.setIfInBounds k (.val (.int v)) = l') (hp : pc + 2 = pc') (g : Go p e below s Q rc rs (T.setTop (mkF m pc' l' st))) : Go p e below s Q rc rs (T.setTop (mkF m pc Ls ((.int v) :: st))) := by
  subst hp; exact g.by fun t k => XS.istore X.here hx rfl hd rfl (hl ▸ XS.store1 hold ho rfl) k
theorem g_istoreNS (X : Stand p l e R s m args below meth c T locs cells slots) (hx : p.tables.exec = Jvm.exec) {k : Fin 4} {v : Int32} {os : Slot} (l' : Array Slot) (pc' : Nat) (hd : decode c.code pc = .ok (.istore_n k, 1)) (hold : Ls[k.val]? = some os) (ho : One os) (hl : Ls.setIfInBounds k.val (.val (.int v)) = l') (hp : pc + 1 = pc') (g : Go p e below s Q rc rs (T.setTop (mkF m pc' l' st))) : Go p e below s Q rc rs (T.setTop (mkF m pc Ls ((.int v) :: st))) := by
  subst hp; exact g.by fun t k => XS.istoreN X.here hx rfl hd rfl (hl ▸ XS.store1 hold ho rfl) k
theorem g_astoreS (X : Stand p l e R s m args below meth c T locs cells slots) (hx : p.tables.exec = Jvm.exec) {k : Nat} {v : Value} {os : Slot} (l' : Array Slot) (pc' : Nat) (hd : decode c.code pc = .ok (.astore k, 2)) (hold : Ls[k]? = some os) (ho : One os) (hl : Ls.setIfInBounds k (.val v) = l') (hv : v.isRef = true) (hp : pc + 2 = pc') (g : Go p e below s Q rc rs (T.setTop (mkF m pc' l' st))) : Go p e below s Q rc rs (T.setTop (mkF m pc Ls (v :: st))) := by
  subst hp; exact g.by fun t k => XS.astore X.here hx rfl hd rfl hv (hl ▸ XS.store1 hold ho (by cases v <;> first | rfl | simp_all [Value.isRef])) k
theorem g_astoreNS (X : Stand p l e R s m args below meth c T locs cells slots) (hx : p.tables.exec = Jvm.exec) {k : Fin 4} {v : Value} {os : Slot} (l' : Array Slot) (pc' : Nat) (hd : decode c.code pc = .ok (.astore_n k, 1)) (hold : Ls[k.val]? = some os) (ho : One os) (hl : Ls.setIfInBounds k.val (.val v) = l') (hv : v.isRef = true) (hp : pc + 1 = pc') (g : Go p e below s Q rc rs (T.setTop (mkF m pc' l' st))) : Go p e below s Q rc rs (T.setTop (mkF m pc Ls (v :: st))) := by
  subst hp; exact g.by fun t k => XS.astoreN X.here hx rfl hd rfl hv (hl ▸ XS.store1 hold ho (by cases v <;> first | rfl | simp_all [Value.isRef])) k
theorem g_iconst (X : Stand p l e R s m args below meth c T locs cells slots) (hx : p.tables.exec = Jvm.exec) {i : Int} (v : Int32) (pc' : Nat) (hd : decode c.code pc = .ok (.iconst i, 1)) (hv : Int32.ofInt i = v) (hp : pc + 1 = pc') (g : Go p e below s Q rc rs (T.setTop (mkF m pc' Ls (.int v :: st)))) : Go p e below s Q rc rs (T.setTop (mkF m pc Ls st)) := by
  subst hp hv; exact g.by fun t k => XS.iconst X.here hx rfl hd k
theorem g_bipush (X : Stand p l e R s m args below meth c T locs cells slots) (hx : p.tables.exec = Jvm.exec) {i : Int} (v : Int32) (pc' : Nat) (hd : decode c.code pc = .ok (.bipush i, 2)) (hv : (Int8.ofInt i).toInt32 = v) (hp : pc + 2 = pc') (g : Go p e below s Q rc rs (T.setTop (mkF m pc' Ls (.int v :: st)))) : Go p e below s Q rc rs (T.setTop (mkF m pc Ls st)) := by
  subst hp hv; exact g.by fun t k => XS.bipush X.here hx rfl hd k
theorem g_sipush (X : Stand p l e R s m args below meth c T locs cells slots) (hx : p.tables.exec = Jvm.exec) {i : Int} (v : Int32) (pc' : Nat) (hd : decode c.code pc = .ok (.sipush i, 3)) (hv : (Int16.ofInt i).toInt32 = v) (hp : pc + 3 = pc') (g : Go p e below s Q rc rs (T.setTop (mkF m pc' Ls (.int v :: st)))) : Go p e below s Q rc rs (T.setTop (mkF m pc Ls st)) := by
  subst hp hv; exact g.by fun t k => XS.sipush X.here hx rfl hd k
theorem g_lconst (X : Stand p l e R s m args below meth c T locs cells slots) (hx : p.tables.exec = Jvm.exec) {i : Fin 2} (v : Int64) (pc' : Nat) (hd : decode c.code pc = .ok (.lconst i, 1)) (hv : Int64.ofNat i = v) (hp : pc + 1 = pc') (g : Go p e below s Q rc rs (T.setTop (mkF m pc' Ls (.long v :: st)))) : Go p e below s Q rc rs (T.setTop (mkF m pc Ls st)) := by
  subst hp hv; exact g.by fun t k => XS.lconst X.here hx rfl hd k
theorem g_aconst_null (X : Stand p l e R s m args below meth c T locs cells slots) (hx : p.tables.exec = Jvm.exec) (pc' : Nat) (hd : decode c.code pc = .ok (.aconst_null, 1)) (hp : pc + 1 = pc') (g : Go p e below s Q rc rs (T.setTop (mkF m pc' Ls (.null :: st)))) : Go p e below s Q rc rs (T.setTop (mkF m pc Ls st)) := by
  subst hp; exact g.by fun t k => XS.aconstNull X.here hx rfl hd k
theorem g_ldc (X : Stand p l e R s m args below meth c T locs cells slots) (hx : p.tables.exec = Jvm.exec) (hZ : Z.Warmed39 s.vm) {own : String} {i : Nat} {v : Int32} (hown : s.vm.findClass own = some m.cls) (w : (Cond.constant own i v).before a0 Z = true) (pc' : Nat) (hd : decode c.code pc = .ok (.ldc i, 2)) (hp : pc + 2 = pc') (g : Go p e below s Q rc rs (T.setTop (mkF m pc' Ls (.int v :: st)))) : Go p e below s Q rc rs (T.setTop (mkF m pc Ls st)) := by
  subst hp; exact g.by fun t k => X.ldcInt hx hown (mvT hZ w) (g := mkF m pc Ls st) rfl hd t k
theorem g_ldc_w (X : Stand p l e R s m args below meth c T locs cells slots) (hx : p.tables.exec = Jvm.exec) (hZ : Z.Warmed39 s.vm) {own : String} {i : Nat} {v : Int32} (hown : s.vm.findClass own = some m.cls) (w : (Cond.constant own i v).before a0 Z = true) (pc' : Nat) (hd : decode c.code pc = .ok (.ldc_w i, 3)) (hp : pc + 3 = pc') (g : Go p e below s Q rc rs (T.setTop (mkF m pc' Ls (.int v :: st)))) : Go p e below s Q rc rs (T.setTop (mkF m pc Ls st)) := by
  subst hp; exact g.by fun t k => X.ldcwInt hx hown (mvT hZ w) (g := mkF m pc Ls st) rfl hd t k
theorem g_ldc2_w (X : Stand p l e R s m args below meth c T locs cells slots) (hx : p.tables.exec = Jvm.exec) (hZ : Z.Warmed39 s.vm) {own : String} {i : Nat} {v : Int64} (hown : s.vm.findClass own = some m.cls) (w : (Cond.constantLong own i v).before a0 Z = true) (pc' : Nat) (hd : decode c.code pc = .ok (.ldc2_w i, 3)) (hp : pc + 3 = pc') (g : Go p e below s Q rc rs (T.setTop (mkF m pc' Ls (.long v :: st)))) : Go p e below s Q rc rs (T.setTop (mkF m pc Ls st)) := by
  subst hp; exact g.by fun t k => X.ldc2Long hx hown (mvT hZ w) (g := mkF m pc Ls st) rfl hd t k
theorem g_iadd (X : Stand p l e R s m args below meth c T locs cells slots) (hx : p.tables.exec = Jvm.exec) {x y : Int32} (pc' : Nat) (hd : decode c.code pc = .ok (.iadd, 1)) (hp : pc + 1 = pc') (g : Go p e below s Q rc rs (T.setTop (mkF m pc' Ls (.int (x + y) :: st)))) : Go p e below s Q rc rs (T.setTop (mkF m pc Ls (.int y :: .int x :: st))) := by
  subst hp; exact g.by fun t k => XS.iadd X.here hx rfl hd rfl k
theorem g_isub (X : Stand p l e R s m args below meth c T locs cells slots) (hx : p.tables.exec = Jvm.exec) {x y : Int32} (pc' : Nat) (hd : decode c.code pc = .ok (.isub, 1)) (hp : pc + 1 = pc') (g : Go p e below s Q rc rs (T.setTop (mkF m pc' Ls (.int (x - y) :: st)))) : Go p e below s Q rc rs (T.setTop (mkF m pc Ls (.int y :: .int x :: st))) := by
  subst hp; exact g.by fun t k => XS.isub X.here hx rfl hd rfl k
theorem g_imul (X : Stand p l e R s m args below meth c T locs cells slots) (hx : p.tables.exec = Jvm.exec) {x y : Int32} (pc' : Nat) (hd : decode c.code pc = .ok (.imul, 1)) (hp : pc + 1 = pc') (g : Go p e below s Q rc rs (T.setTop (mkF m pc' Ls (.int (x * y) :: st)))) : Go p e below s Q rc rs (T.setTop (mkF m pc Ls (.int y :: .int x :: st))) := by
  subst hp; exact g.by fun t k => XS.imul X.here hx rfl hd rfl k
theorem g_iand (X : Stand p l e R s m args below meth c T locs cells slots) (hx : p.tables.exec = Jvm.exec) {x y : Int32} (pc' : Nat) (hd : decode c.code pc = .ok (.iand, 1)) (hp : pc + 1 = pc') (g : Go p e below s Q rc rs (T.setTop (mkF m pc' Ls (.int (x &&& y) :: st)))) : Go p e below s Q rc rs (T.setTop (mkF m pc Ls (.int y :: .int x :: st))) := by
  subst hp; exact g.by fun t k => XS.iand X.here hx rfl hd rfl k
theorem g_ior (X : Stand p l e R s m args below meth c T locs cells slots) (hx : p.tables.exec = Jvm.exec) {x y : Int32} (pc' : Nat) (hd : decode c.code pc = .ok (.ior, 1)) (hp : pc + 1 = pc') (g : Go p e below s Q rc rs (T.setTop (mkF m pc' Ls (.int (x ||| y) :: st)))) : Go p e below s Q rc rs (T.setTop (mkF m pc Ls (.int y :: .int x :: st))) := by
  subst hp; exact g.by fun t k => XS.ior X.here hx rfl hd rfl k
theorem g_ixor (X : Stand p l e R s m args below meth c T locs cells slots) (hx : p.tables.exec = Jvm.exec) {x y : Int32} (pc' : Nat) (hd : decode c.code pc = .ok (.ixor, 1)) (hp : pc + 1 = pc') (g : Go p e below s Q rc rs (T.setTop (mkF m pc' Ls (.int (x ^^^ y) :: st)))) : Go p e below s Q rc rs (T.setTop (mkF m pc Ls (.int y :: .int x :: st))) := by
  subst hp; exact g.by fun t k => XS.ixor X.here hx rfl hd rfl k
theorem g_ineg (X : Stand p l e R s m args below meth c T locs cells slots) (hx : p.tables.exec = Jvm.exec) {x : Int32} (pc' : Nat) (hd : decode c.code pc = .ok (.ineg, 1)) (hp : pc + 1 = pc') (g : Go p e below s Q rc rs (T.setTop (mkF m pc' Ls (.int (-x) :: st)))) : Go p e below s Q rc rs (T.setTop (mkF m pc Ls (.int x :: st))) := by
  subst hp; exact g.by fun t k => XS.ineg X.here hx rfl hd rfl k
theorem g_idiv (X : Stand p l e R s m args below meth c T locs cells slots) (hx : p.tables.exec = Jvm.exec) {x y : Int32} (pc' : Nat) (hd : decode c.code pc = .ok (.idiv, 1)) (hy : y ≠ 0) (hp : pc + 1 = pc') (g : Go p e below s Q rc rs (T.setTop (mkF m pc' Ls (.int (x / y) :: st)))) : Go p e below s Q rc rs (T.setTop (mkF m pc Ls (.int y :: .int x :: st))) := by
  subst hp; exact g.by fun t k => XS.idiv X.here hx rfl hd rfl hy k
theorem g_ladd (X : Stand p l e R s m args below meth c T locs cells slots) (hx : p.tables.exec = Jvm.exec) {x y : Int64} (pc' : Nat) (hd : decode c.code pc = .ok (.ladd, 1)) (hp : pc + 1 = pc') (g : Go p e below s Q rc rs (T.setTop (mkF m pc' Ls (.long (x + y) :: st)))) : Go p e below s Q rc rs (T.setTop (mkF m pc Ls (.long y :: .long x :: st))) := by
  subst hp; exact g.by fun t k => XS.ladd X.here hx rfl hd rfl k
theorem g_lsub (X : Stand p l e R s m args below meth c T locs cells slots) (hx : p.tables.exec = Jvm.exec) {x y : Int64} (pc' : Nat) (hd : decode c.code pc = .ok (.lsub, 1)) (hp : pc + 1 = pc') (g : Go p e below s Q rc rs (T.setTop (mkF m pc' Ls (.long (x - y) :: st)))) : Go p e below s Q rc rs (T.setTop (mkF m pc Ls (.long y :: .long x :: st))) := by
  subst hp; exact g.by fun t k => XS.lsub X.here hx rfl hd rfl k
theorem g_lmul (X : Stand p l e R s m args below meth c T locs cells slots) (hx : p.tables.exec = Jvm.exec) {x y : Int64} (pc' : Nat) (hd : decode c.code pc = .ok (.lmul, 1)) (hp : pc + 1 = pc') (g : Go p e below s Q rc rs (T.setTop (mkF m pc' Ls (.long (x * y) :: st)))) : Go p e below s Q rc rs (T.setTop (mkF m pc Ls (.long y :: .long x :: st))) := by
  subst hp; exact g.by fun t k => XS.lmul X.here hx rfl hd rfl k
theorem g_land (X : Stand p l e R s m args below meth c T locs cells slots) (hx : p.tables.exec = Jvm.exec) {x y : Int64} (pc' : Nat) (hd : decode c.code pc = .ok (.land, 1)) (hp : pc + 1 = pc') (g : Go p e below s Q rc rs (T.setTop (mkF m pc' Ls (.long (x &&& y) :: st)))) : Go p e below s Q rc rs (T.setTop (mkF m pc Ls (.long y :: .long x :: st))) := by
  subst hp; exact g.by fun t k => XS.land X.here hx rfl hd rfl k
theorem g_lor (X : Stand p l e R s m args below meth c T locs cells slots) (hx : p.tables.exec = Jvm.exec) {x y : Int64} (pc' : Nat) (hd : decode c.code pc = .ok (.lor, 1)) (hp : pc + 1 = pc') (g : Go p e below s Q rc rs (T.setTop (mkF m pc' Ls (.long (x ||| y) :: st)))) : Go p e below s Q rc rs (T.setTop (mkF m pc Ls (.long y :: .long x :: st))) := by
  subst hp; exact g.by fun t k => XS.lor X.here hx rfl hd rfl k
theorem g_lxor (X : Stand p l e R s m args below meth c T locs cells slots) (hx : p.tables.exec = Jvm.exec) {x y : Int64} (pc' : Nat) (hd : decode c.code pc = .ok (.lxor, 1)) (hp : pc + 1 = pc') (g : Go p e below s Q rc rs (T.setTop (mkF m pc' Ls (.long (x ^^^ y) :: st)))) : Go p e below s Q rc rs (T.setTop (mkF m pc Ls (.long y :: .long x :: st))) := by
  subst hp; exact g.by fun t k => XS.lxor X.here hx rfl hd rfl k
theorem g_lneg (X : Stand p l e R s m args below meth c T locs cells slots) (hx : p.tables.exec = Jvm.exec) {x : Int64} (pc' : Nat) (hd : decode c.code pc = .ok (.lneg, 1)) (hp : pc + 1 = pc') (g : Go p e below s Q rc rs (T.setTop (mkF m pc' Ls (.long (-x) :: st)))) : Go p e below s Q rc rs (T.setTop (mkF m pc Ls (.long x :: st))) := by
  subst hp; exact g.by fun t k => XS.lneg X.here hx rfl hd rfl k
theorem g_ldiv (X : Stand p l e R s m args below meth c T locs cells slots) (hx : p.tables.exec = Jvm.exec) {x y : Int64} (pc' : Nat) (hd : decode c.code pc = .ok (.ldiv, 1)) (hy : y ≠ 0) (hp : pc + 1 = pc') (g : Go p e below s Q rc rs (T.setTop (mkF m pc' Ls (.long (x / y) :: st)))) : Go p e below s Q rc rs (T.setTop (mkF m pc Ls (.long y :: .long x :: st))) := by
  subst hp; exact g.by fun t k => XS.ldiv X.here hx rfl hd rfl hy k
theorem g_irem (X : Stand p l e R s m args below meth c T locs cells slots) (hx : p.tables.exec = Jvm.exec) {x y : Int32} (pc' : Nat) (hd : decode c.code pc = .ok (.irem, 1)) (hy : y ≠ 0) (hp : pc + 1 = pc') (g : Go p e below s Q rc rs (T.setTop (mkF m pc' Ls (.int (x % y) :: st)))) : Go p e below s Q rc rs (T.setTop (mkF m pc Ls (.int y :: .int x :: st))) := by
  subst hp; exact g.by fun t k => iremM X hx rfl hd rfl hy k
theorem g_lrem (X : Stand p l e R s m args below meth c T locs cells slots) (hx : p.tables.exec = Jvm.exec) {x y : Int64} (pc' : Nat) (hd : decode c.code pc = .ok (.lrem, 1)) (hy : y ≠ 0) (hp : pc + 1 = pc') (g : Go p e below s Q rc rs (T.setTop (mkF m pc' Ls (.long (x % y) :: st)))) : Go p e below s Q rc rs (T.setTop (mkF m pc Ls (.long y :: .long x :: st))) := by
  subst hp; exact g.by fun t k => XS.lrem X.here hx rfl hd rfl hy (by rw [lrem_mod]; exact k)
theorem g_ishl (X : Stand p l e R s m args below meth c T locs cells slots) (hx : p.tables.exec = Jvm.exec) {x : Int32} {y : Int32} (pc' : Nat) (hd : decode c.code pc = .ok (.ishl, 1)) (hp : pc + 1 = pc') (g : Go p e below s Q rc rs (T.setTop (mkF m pc' Ls (.int (shlI x y) :: st)))) : Go p e below s Q rc rs (T.setTop (mkF m pc Ls (.int y :: .int x :: st))) := by
  subst hp; exact g.by fun t k => XS.ishl X.here hx rfl hd rfl k
theorem g_ishr (X : Stand p l e R s m args below meth c T locs cells slots) (hx : p.tables.exec = Jvm.exec) {x : Int32} {y : Int32} (pc' : Nat) (hd : decode c.code pc = .ok (.ishr, 1)) (hp : pc + 1 = pc') (g : Go p e below s Q rc rs (T.setTop (mkF m pc' Ls (.int (shrI x y) :: st)))) : Go p e below s Q rc rs (T.setTop (mkF m pc Ls (.int y :: .int x :: st))) := by
  subst hp; exact g.by fun t k => XS.ishr X.here hx rfl hd rfl k
theorem g_iushr (X : Stand p l e R s m args below meth c T locs cells slots) (hx : p.tables.exec = Jvm.exec) {x : Int32} {y : Int32} (pc' : Nat) (hd : decode c.code pc = .ok (.iushr, 1)) (hp : pc + 1 = pc') (g : Go p e below s Q rc rs (T.setTop (mkF m pc' Ls (.int (ushrI x y) :: st)))) : Go p e below s Q rc rs (T.setTop (mkF m pc Ls (.int y :: .int x :: st))) := by
  subst hp; exact g.by fun t k => XS.iushr X.here hx rfl hd rfl k
theorem g_lshl (X : Stand p l e R s m args below meth c T locs cells slots) (hx : p.tables.exec = Jvm.exec) {x : Int64} {y : Int32} (pc' : Nat) (hd : decode c.code pc = .ok (.lshl, 1)) (hp : pc + 1 = pc') (g : Go p e below s Q rc rs (T.setTop (mkF m pc' Ls (.long (shlJ x y) :: st)))) : Go p e below s Q rc rs (T.setTop (mkF m pc Ls (.int y :: .long x :: st))) := by
  subst hp; exact g.by fun t k => XS.lshl X.here hx rfl hd rfl k
theorem g_lshr (X : Stand p l e R s m args below meth c T locs cells slots) (hx : p.tables.exec = Jvm.exec) {x : Int64} {y : Int32} (pc' : Nat) (hd : decode c.code pc = .ok (.lshr, 1)) (hp : pc + 1 = pc') (g : Go p e below s Q rc rs (T.setTop (mkF m pc' Ls (.long (shrJ x y) :: st)))) : Go p e below s Q rc rs (T.setTop (mkF m pc Ls (.int y :: .long x :: st))) := by
  subst hp; exact g.by fun t k => XS.lshr X.here hx rfl hd rfl k
theorem g_lushr (X : Stand p l e R s m args below meth c T locs cells slots) (hx : p.tables.exec = Jvm.exec) {x : Int64} {y : Int32} (pc' : Nat) (hd : decode c.code pc = .ok (.lushr, 1)) (hp : pc + 1 = pc') (g : Go p e below s Q rc rs (T.setTop (mkF m pc' Ls (.long (ushrJ x y) :: st)))) : Go p e below s Q rc rs (T.setTop (mkF m pc Ls (.int y :: .long x :: st))) := by
  subst hp; exact g.by fun t k => XS.lushr X.here hx rfl hd rfl k
theorem g_i2l (X : Stand p l e R s m args below meth c T locs cells slots) (hx : p.tables.exec = Jvm.exec) {x : Int32} (pc' : Nat) (hd : decode c.code pc = .ok (.i2l, 1)) (hp : pc + 1 = pc') (g : Go p e below s Q rc rs (T.setTop (mkF m pc' Ls (.long (x.toInt64) :: st)))) : Go p e below s Q rc rs (T.setTop (mkF m pc Ls (.int x :: st))) := by
  subst hp; exact g.by fun t k => XS.i2l X.here hx rfl hd rfl k
theorem g_l2i (X : Stand p l e R s m args below meth c T locs cells slots) (hx : p.tables.exec = Jvm.exec) {x : Int64} (pc' : Nat) (hd : decode c.code pc = .ok (.l2i, 1)) (hp : pc + 1 = pc') (g : Go p e below s Q rc rs (T.setTop (mkF m pc' Ls (.int (x.toInt32) :: st)))) : Go p e below s Q rc rs (T.setTop (mkF m pc Ls (.long x :: st))) := by
  subst hp; exact g.by fun t k => XS.l2i X.here hx rfl hd rfl k
theorem g_i2b (X : Stand p l e R s m args below meth c T locs cells slots) (hx : p.tables.exec = Jvm.exec) {x : Int32} (pc' : Nat) (hd : decode c.code pc = .ok (.i2b, 1)) (hp : pc + 1 = pc') (g : Go p e below s Q rc rs (T.setTop (mkF m pc' Ls (.int (i2bI x) :: st)))) : Go p e below s Q rc rs (T.setTop (mkF m pc Ls (.int x :: st))) := by
  subst hp; exact g.by fun t k => XS.i2b X.here hx rfl hd rfl k
theorem g_i2c (X : Stand p l e R s m args below meth c T locs cells slots) (hx : p.tables.exec = Jvm.exec) {x : Int32} (pc' : Nat) (hd : decode c.code pc = .ok (.i2c, 1)) (hp : pc + 1 = pc') (g : Go p e below s Q rc rs (T.setTop (mkF m pc' Ls (.int (i2cI x) :: st)))) : Go p e below s Q rc rs (T.setTop (mkF m pc Ls (.int x :: st))) := by
  subst hp; exact g.by fun t k => XS.i2c X.here hx rfl hd rfl k
theorem g_i2s (X : Stand p l e R s m args below meth c T locs cells slots) (hx : p.tables.exec = Jvm.exec) {x : Int32} (pc' : Nat) (hd : decode c.code pc = .ok (.i2s, 1)) (hp : pc + 1 = pc') (g : Go p e below s Q rc rs (T.setTop (mkF m pc' Ls (.int (i2sI x) :: st)))) : Go p e below s Q rc rs (T.setTop (mkF m pc Ls (.int x :: st))) := by
  subst hp; exact g.by fun t k => XS.i2s X.here hx rfl hd rfl k
theorem g_lcmp (X : Stand p l e R s m args below meth c T locs cells slots) (hx : p.tables.exec = Jvm.exec) {x y : Int64} (pc' : Nat) (hd : decode c.code pc = .ok (.lcmp, 1)) (hp : pc + 1 = pc') (g : Go p e below s Q rc rs (T.setTop (mkF m pc' Ls (.int (lcmpW x y) :: st)))) : Go p e below s Q rc rs (T.setTop (mkF m pc Ls (.long y :: .long x :: st))) := by
  subst hp; exact g.by fun t k => XS.lcmp X.here hx rfl hd rfl k
theorem g_iinc (X : Stand p l e R s m args below meth c T locs cells slots) (hx : p.tables.exec = Jvm.exec) {k : Nat} {i : Int} {x : Int32} (v : Int32) (l' : Array Slot) (pc' : Nat) (hd : decode c.code pc = .ok (.iinc k i, 3)) (hv : Int32.ofInt i = v) (hl : Ls[k]? = some (.val (.int x))) (hl' : storeLocals Ls k (.int (x + v)) = some l') (hp : pc + 3 = pc') (g : Go p e below s Q rc rs (T.setTop (mkF m pc' l' st))) : Go p e below s Q rc rs (T.setTop (mkF m pc Ls st)) := by
  subst hp hv; exact g.by fun t k => XS.iinc X.here hx rfl hd hl hl' k
theorem g_dup (X : Stand p l e R s m args below meth c T locs cells slots) (hx : p.tables.exec = Jvm.exec) {x : Value} (pc' : Nat) (hd : decode c.code pc = .ok (.dup, 1)) (hc : x.category = 1) (hp : pc + 1 = pc') (g : Go p e below s Q rc rs (T.setTop (mkF m pc' Ls (x :: x :: st)))) : Go p e below s Q rc rs (T.setTop (mkF m pc Ls (x :: st))) := by
  subst hp; exact g.by fun t k => XS.dup X.here hx rfl hd rfl hc k
theorem g_pop (X : Stand p l e R s m args below meth c T locs cells slots) (hx : p.tables.exec = Jvm.exec) {x : Value} (pc' : Nat) (hd : decode c.code pc = .ok (.pop, 1)) (hc : x.category = 1) (hp : pc + 1 = pc') (g : Go p e below s Q rc rs (T.setTop (mkF m pc' Ls st))) : Go p e below s Q rc rs (T.setTop (mkF m pc Ls (x :: st))) := by
  subst hp; exact g.by fun t k => XS.pop X.here hx rfl hd rfl hc k
theorem g_dup_x1 (X : Stand p l e R s m args below meth c T locs cells slots) (hx : p.tables.exec = Jvm.exec) {x y : Value} (pc' : Nat) (hd : decode c.code pc = .ok (.dup_x1, 1)) (hc : x.category = 1) (hc2 : y.category = 1) (hp : pc + 1 = pc') (g : Go p e below s Q rc rs (T.setTop (mkF m pc' Ls (x :: y :: x :: st)))) : Go p e below s Q rc rs (T.setTop (mkF m pc Ls (x :: y :: st))) := by
  subst hp; exact g.by fun t k => XS.dupX1 X.here hx rfl hd rfl hc hc2 k
theorem g_dup2 (X : Stand p l e R s m args below meth c T locs cells slots) (hx : p.tables.exec = Jvm.exec) {x y : Value} (pc' : Nat) (hd : decode c.code pc = .ok (.dup2, 1)) (hc : x.category = 1) (hc2 : y.category = 1) (hp : pc + 1 = pc') (g : Go p e below s Q rc rs (T.setTop (mkF m pc' Ls (x :: y :: x :: y :: st)))) : Go p e below s Q rc rs (T.setTop (mkF m pc Ls (x :: y :: st))) := by
  subst hp; exact g.by fun t k => XT.dup2 X.here hx rfl hd rfl hc hc2 k
theorem g_dup2L (X : Stand p l e R s m args below meth c T locs cells slots) (hx : p.tables.exec = Jvm.exec) {x : Int64} (pc' : Nat) (hd : decode c.code pc = .ok (.dup2, 1)) (hp : pc + 1 = pc') (g : Go p e below s Q rc rs (T.setTop (mkF m pc' Ls (.long x :: .long x :: st)))) : Go p e below s Q rc rs (T.setTop (mkF m pc Ls (.long x :: st))) := by
  subst hp; exact g.by fun t k => XT.dup2L X.here hx rfl hd rfl k
theorem g_pop2L (X : Stand p l e R s m args below meth c T locs cells slots) (hx : p.tables.exec = Jvm.exec) {x : Int64} (pc' : Nat) (hd : decode c.code pc = .ok (.pop2, 1)) (hp : pc + 1 = pc') (g : Go p e below s Q rc rs (T.setTop (mkF m pc' Ls st))) : Go p e below s Q rc rs (T.setTop (mkF m pc Ls (.long x :: st))) := by
  subst hp; refine g.by fun t k => ?_
  jvm_step X.here [X.here.top, hx, hd, Value.category]
  exact k
theorem g_goto (X : Stand p l e R s m args below meth c T locs cells slots) (hx : p.tables.exec = Jvm.exec) {o : Int} (pc' : Nat) (hd : decode c.code pc = .ok (.goto o, 3)) (ho : 0 ≤ (pc : Int) + o) (hp : ((pc : Int) + o).toNat = pc') (g : Go p e below s Q rc rs (T.setTop (mkF m pc' Ls st))) : Go p e below s Q rc rs (T.setTop (mkF m pc Ls st)) := by
  subst hp; exact g.by fun t k => XS.goto X.here hx rfl rfl hd ho rfl k
theorem g_icmp_lt (X : Stand p l e R s m args below meth c T locs cells slots) (hx : p.tables.exec = Jvm.exec) {x y : Int32} {o : Int} (pcY pcN : Nat) (hd : decode c.code pc = .ok (.if_icmp .lt o, 3)) (ho : 0 ≤ (pc : Int) + o) (hY : ((pc : Int) + o).toNat = pcY) (hN : pc + 3 = pcN) (gp : x < y → Go p e below s Q rc rs (T.setTop (mkF m pcY Ls st))) (gn : ¬ x < y → Go p e below s Q rc rs (T.setTop (mkF m pcN Ls st))) : Go p e below s Q rc rs (T.setTop (mkF m pc Ls (.int y :: .int x :: st))) := by
  subst hY hN
  by_cases q : x < y
  · exact (gp q).by fun t k => XS.icmpYes X.here hx rfl rfl hd rfl (tlt q).1 ho rfl k
  · exact (gn q).by fun t k => XS.icmpNo X.here hx rfl hd rfl (flt q).1 k
theorem g_if0_lt (X : Stand p l e R s m args below meth c T locs cells slots) (hx : p.tables.exec = Jvm.exec) {x : Int32} {o : Int} (pcY pcN : Nat) (hd : decode c.code pc = .ok (.ifCond .lt o, 3)) (ho : 0 ≤ (pc : Int) + o) (hY : ((pc : Int) + o).toNat = pcY) (hN : pc + 3 = pcN) (gp : x < 0 → Go p e below s Q rc rs (T.setTop (mkF m pcY Ls st))) (gn : ¬ x < 0 → Go p e below s Q rc rs (T.setTop (mkF m pcN Ls st))) : Go p e below s Q rc rs (T.setTop (mkF m pc Ls (.int x :: st))) := by
  subst hY hN
  by_cases q : x < 0
  · exact (gp q).by fun t k => XS.ifYes X.here hx rfl rfl hd rfl ((if0 _ _).trans (tlt q).1) ho rfl k
  · exact (gn q).by fun t k => XS.ifNo X.here hx rfl hd rfl ((if0 _ _).trans (flt q).1) k
theorem g_lc_lt (X : Stand p l e R s m args below meth c T locs cells slots) (hx : p.tables.exec = Jvm.exec) {x y : Int64} {o : Int} (pcY pcN : Nat) (hd : decode c.code pc = .ok (.ifCond .lt o, 3)) (ho : 0 ≤ (pc : Int) + o) (hY : ((pc : Int) + o).toNat = pcY) (hN : pc + 3 = pcN) (gp : x < y → Go p e below s Q rc rs (T.setTop (mkF m pcY Ls st))) (gn : ¬ x < y → Go p e below s Q rc rs (T.setTop (mkF m pcN Ls st))) : Go p e below s Q rc rs (T.setTop (mkF m pc Ls (.int (lcmpW x y) :: st))) :=
  g_if0_lt X hx pcY pcN hd ho hY hN (fun q => gp ((lw_lt x y).1 q)) (fun q => gn fun r => q ((lw_lt x y).2 r))
theorem g_icmp_ge (X : Stand p l e R s m args below meth c T locs cells slots) (hx : p.tables.exec = Jvm.exec) {x y : Int32} {o : Int} (pcY pcN : Nat) (hd : decode c.code pc = .ok (.if_icmp .ge o, 3)) (ho : 0 ≤ (pc : Int) + o) (hY : ((pc : Int) + o).toNat = pcY) (hN : pc + 3 = pcN) (gp : x < y → Go p e below s Q rc rs (T.setTop (mkF m pcN Ls st))) (gn : ¬ x < y → Go p e below s Q rc rs (T.setTop (mkF m pcY Ls st))) : Go p e below s Q rc rs (T.setTop (mkF m pc Ls (.int y :: .int x :: st))) := by
  subst hY hN
  by_cases q : x < y
  · exact (gp q).by fun t k => XS.icmpNo X.here hx rfl hd rfl (tlt q).2.1 k
  · exact (gn q).by fun t k => XS.icmpYes X.here hx rfl rfl hd rfl (flt q).2.1 ho rfl k
theorem g_if0_ge (X : Stand p l e R s m args below meth c T locs cells slots) (hx : p.tables.exec = Jvm.exec) {x : Int32} {o : Int} (pcY pcN : Nat) (hd : decode c.code pc = .ok (.ifCond .ge o, 3)) (ho : 0 ≤ (pc : Int) + o) (hY : ((pc : Int) + o).toNat = pcY) (hN : pc + 3 = pcN) (gp : x < 0 → Go p e below s Q rc rs (T.setTop (mkF m pcN Ls st))) (gn : ¬ x < 0 → Go p e below s Q rc rs (T.setTop (mkF m pcY Ls st))) : Go p e below s Q rc rs (T.setTop (mkF m pc Ls (.int x :: st))) := by
  subst hY hN
  by_cases q : x < 0
  · exact (gp q).by fun t k => XS.ifNo X.here hx rfl hd rfl ((if0 _ _).trans (tlt q).2.1) k
  · exact (gn q).by fun t k => XS.ifYes X.here hx rfl rfl hd rfl ((if0 _ _).trans (flt q).2.1) ho rfl k
theorem g_lc_ge (X : Stand p l e R s m args below meth c T locs cells slots) (hx : p.tables.exec = Jvm.exec) {x y : Int64} {o : Int} (pcY pcN : Nat) (hd : decode c.code pc = .ok (.ifCond .ge o, 3)) (ho : 0 ≤ (pc : Int) + o) (hY : ((pc : Int) + o).toNat = pcY) (hN : pc + 3 = pcN) (gp : x < y → Go p e below s Q rc rs (T.setTop (mkF m pcN Ls st))) (gn : ¬ x < y → Go p e below s Q rc rs (T.setTop (mkF m pcY Ls st))) : Go p e below s Q rc rs (T.setTop (mkF m pc Ls (.int (lcmpW x y) :: st))) :=
  g_if0_ge X hx pcY pcN hd ho hY hN (fun q => gp ((lw_lt x y).1 q)) (fun q => gn fun r => q ((lw_lt x y).2 r))
theorem g_icmp_gt (X : Stand p l e R s m args below meth c T locs cells slots) (hx : p.tables.exec = Jvm.exec) {x y : Int32} {o : Int} (pcY pcN : Nat) (hd : decode c.code pc = .ok (.if_icmp .gt o, 3)) (ho : 0 ≤ (pc : Int) + o) (hY : ((pc : Int) + o).toNat = pcY) (hN : pc + 3 = pcN) (gp : y < x → Go p e below s Q rc rs (T.setTop (mkF m pcY Ls st))) (gn : ¬ y < x → Go p e below s Q rc rs (T.setTop (mkF m pcN Ls st))) : Go p e below s Q rc rs (T.setTop (mkF m pc Ls (.int y :: .int x :: st))) := by
  subst hY hN
  by_cases q : y < x
  · exact (gp q).by fun t k => XS.icmpYes X.here hx rfl rfl hd rfl (tlt q).2.2.1 ho rfl k
  · exact (gn q).by fun t k => XS.icmpNo X.here hx rfl hd rfl (flt q).2.2.1 k
theorem g_if0_gt (X : Stand p l e R s m args below meth c T locs cells slots) (hx : p.tables.exec = Jvm.exec) {x : Int32} {o : Int} (pcY pcN : Nat) (hd : decode c.code pc = .ok (.ifCond .gt o, 3)) (ho : 0 ≤ (pc : Int) + o) (hY : ((pc : Int) + o).toNat = pcY) (hN : pc + 3 = pcN) (gp : 0 < x → Go p e below s Q rc rs (T.setTop (mkF m pcY Ls st))) (gn : ¬ 0 < x → Go p e below s Q rc rs (T.setTop (mkF m pcN Ls st))) : Go p e below s Q rc rs (T.setTop (mkF m pc Ls (.int x :: st))) := by
  subst hY hN
  by_cases q : 0 < x
  · exact (gp q).by fun t k => XS.ifYes X.here hx rfl rfl hd rfl ((if0 _ _).trans (tlt q).2.2.1) ho rfl k
  · exact (gn q).by fun t k => XS.ifNo X.here hx rfl hd rfl ((if0 _ _).trans (flt q).2.2.1) k
theorem g_lc_gt (X : Stand p l e R s m args below meth c T locs cells slots) (hx : p.tables.exec = Jvm.exec) {x y : Int64} {o : Int} (pcY pcN : Nat) (hd : decode c.code pc = .ok (.ifCond .gt o, 3)) (ho : 0 ≤ (pc : Int) + o) (hY : ((pc : Int) + o).toNat = pcY) (hN : pc + 3 = pcN) (gp : y < x → Go p e below s Q rc rs (T.setTop (mkF m pcY Ls st))) (gn : ¬ y < x → Go p e below s Q rc rs (T.setTop (mkF m pcN Ls st))) : Go p e below s Q rc rs (T.setTop (mkF m pc Ls (.int (lcmpW x y) :: st))) :=
  g_if0_gt X hx pcY pcN hd ho hY hN (fun q => gp ((lw_gt x y).1 q)) (fun q => gn fun r => q ((lw_gt x y).2 r))
theorem g_icmp_le (X : Stand p l e R s m args below meth c T locs cells slots) (hx : p.tables.exec = Jvm.exec) {x y : Int32} {o : Int} (pcY pcN : Nat) (hd : decode c.code pc = .ok (.if_icmp .le o, 3)) (ho : 0 ≤ (pc : Int) + o) (hY : ((pc : Int) + o).toNat = pcY) (hN : pc + 3 = pcN) (gp : y < x → Go p e below s Q rc rs (T.setTop (mkF m pcN Ls st))) (gn : ¬ y < x → Go p e below s Q rc rs (T.setTop (mkF m pcY Ls st))) : Go p e below s Q rc rs (T.setTop (mkF m pc Ls (.int y :: .int x :: st))) := by
  subst hY hN
  by_cases q : y < x
  · exact (gp q).by fun t k => XS.icmpNo X.here hx rfl hd rfl (tlt q).2.2.2 k
  · exact (gn q).by fun t k => XS.icmpYes X.here hx rfl rfl hd rfl (flt q).2.2.2 ho rfl k
theorem g_if0_le (X : Stand p l e R s m args below meth c T locs cells slots) (hx : p.tables.exec = Jvm.exec) {x : Int32} {o : Int} (pcY pcN : Nat) (hd : decode c.code pc = .ok (.ifCond .le o, 3)) (ho : 0 ≤ (pc : Int) + o) (hY : ((pc : Int) + o).toNat = pcY) (hN : pc + 3 = pcN) (gp : 0 < x → Go p e below s Q rc rs (T.setTop (mkF m pcN Ls st))) (gn : ¬ 0 < x → Go p e below s Q rc rs (T.setTop (mkF m pcY Ls st))) : Go p e below s Q rc rs (T.setTop (mkF m pc Ls (.int x :: st))) := by
  subst hY hN
  by_cases q : 0 < x
  · exact (gp q).by fun t k => XS.ifNo X.here hx rfl hd rfl ((if0 _ _).trans (tlt q).2.2.2) k
  · exact (gn q).by fun t k => XS.ifYes X.here hx rfl rfl hd rfl ((if0 _ _).trans (flt q).2.2.2) ho rfl k
theorem g_lc_le (X : Stand p l e R s m args below meth c T locs cells slots) (hx : p.tables.exec = Jvm.exec) {x y : Int64} {o : Int} (pcY pcN : Nat) (hd : decode c.code pc = .ok (.ifCond .le o, 3)) (ho : 0 ≤ (pc : Int) + o) (hY : ((pc : Int) + o).toNat = pcY) (hN : pc + 3 = pcN) (gp : y < x → Go p e below s Q rc rs (T.setTop (mkF m pcN Ls st))) (gn : ¬ y < x → Go p e below s Q rc rs (T.setTop (mkF m pcY Ls st))) : Go p e below s Q rc rs (T.setTop (mkF m pc Ls (.int (lcmpW x y) :: st))) :=
  g_if0_le X hx pcY pcN hd ho hY hN (fun q => gp ((lw_gt x y).1 q)) (fun q => gn fun r => q ((lw_gt x y).2 r))
theorem g_icmp_eq (X : Stand p l e R s m args below meth c T locs cells slots) (hx : p.tables.exec = Jvm.exec) {x y : Int32} {o : Int} (pcY pcN : Nat) (hd : decode c.code pc = .ok (.if_icmp .eq o, 3)) (ho : 0 ≤ (pc : Int) + o) (hY : ((pc : Int) + o).toNat = pcY) (hN : pc + 3 = pcN) (gp : x = y → Go p e below s Q rc rs (T.setTop (mkF m pcY Ls st))) (gn : ¬ x = y → Go p e below s Q rc rs (T.setTop (mkF m pcN Ls st))) : Go p e below s Q rc rs (T.setTop (mkF m pc Ls (.int y :: .int x :: st))) := by
  subst hY hN
  by_cases q : x = y
  · exact (gp q).by fun t k => XS.icmpYes X.here hx rfl rfl hd rfl (teq q).1 ho rfl k
  · exact (gn q).by fun t k => XS.icmpNo X.here hx rfl hd rfl (feq q).1 k
theorem g_if0_eq (X : Stand p l e R s m args below meth c T locs cells slots) (hx : p.tables.exec = Jvm.exec) {x : Int32} {o : Int} (pcY pcN : Nat) (hd : decode c.code pc = .ok (.ifCond .eq o, 3)) (ho : 0 ≤ (pc : Int) + o) (hY : ((pc : Int) + o).toNat = pcY) (hN : pc + 3 = pcN) (gp : x = 0 → Go p e below s Q rc rs (T.setTop (mkF m pcY Ls st))) (gn : ¬ x = 0 → Go p e below s Q rc rs (T.setTop (mkF m pcN Ls st))) : Go p e below s Q rc rs (T.setTop (mkF m pc Ls (.int x :: st))) := by
  subst hY hN
  by_cases q : x = 0
  · exact (gp q).by fun t k => XS.ifYes X.here hx rfl rfl hd rfl ((if0 _ _).trans (teq q).1) ho rfl k
  · exact (gn q).by fun t k => XS.ifNo X.here hx rfl hd rfl ((if0 _ _).trans (feq q).1) k
theorem g_lc_eq (X : Stand p l e R s m args below meth c T locs cells slots) (hx : p.tables.exec = Jvm.exec) {x y : Int64} {o : Int} (pcY pcN : Nat) (hd : decode c.code pc = .ok (.ifCond .eq o, 3)) (ho : 0 ≤ (pc : Int) + o) (hY : ((pc : Int) + o).toNat = pcY) (hN : pc + 3 = pcN) (gp : x = y → Go p e below s Q rc rs (T.setTop (mkF m pcY Ls st))) (gn : ¬ x = y → Go p e below s Q rc rs (T.setTop (mkF m pcN Ls st))) : Go p e below s Q rc rs (T.setTop (mkF m pc Ls (.int (lcmpW x y) :: st))) :=
  g_if0_eq X hx pcY pcN hd ho hY hN (fun q => gp ((lw_eq x y).1 q)) (fun q => gn fun r => q ((lw_eq x y).2 r))
theorem g_icmp_ne (X : Stand p l e R s m args below meth c T locs cells slots) (hx : p.tables.exec = Jvm.exec) {x y : Int32} {o : Int} (pcY pcN : Nat) (hd : decode c.code pc = .ok (.if_icmp .ne o, 3)) (ho : 0 ≤ (pc : Int) + o) (hY : ((pc : Int) + o).toNat = pcY) (hN : pc + 3 = pcN) (gp : x = y → Go p e below s Q rc rs (T.setTop (mkF m pcN Ls st))) (gn : ¬ x = y → Go p e below s Q rc rs (T.setTop (mkF m pcY Ls st))) : Go p e below s Q rc rs (T.setTop (mkF m pc Ls (.int y :: .int x :: st))) := by
  subst hY hN
  by_cases q : x = y
  · exact (gp q).by fun t k => XS.icmpNo X.here hx rfl hd rfl (teq q).2 k
  · exact (gn q).by fun t k => XS.icmpYes X.here hx rfl rfl hd rfl (feq q).2 ho rfl k
theorem g_if0_ne (X : Stand p l e R s m args below meth c T locs cells slots) (hx : p.tables.exec = Jvm.exec) {x : Int32} {o : Int} (pcY pcN : Nat) (hd : decode c.code pc = .ok (.ifCond .ne o, 3)) (ho : 0 ≤ (pc : Int) + o) (hY : ((pc : Int) + o).toNat = pcY) (hN : pc + 3 = pcN) (gp : x = 0 → Go p e below s Q rc rs (T.setTop (mkF m pcN Ls st))) (gn : ¬ x = 0 → Go p e below s Q rc rs (T.setTop (mkF m pcY Ls st))) : Go p e below s Q rc rs (T.setTop (mkF m pc Ls (.int x :: st))) := by
  subst hY hN
  by_cases q : x = 0
  · exact (gp q).by fun t k => XS.ifNo X.here hx rfl hd rfl ((if0 _ _).trans (teq q).2) k
  · exact (gn q).by fun t k => XS.ifYes X.here hx rfl rfl hd rfl ((if0 _ _).trans (feq q).2) ho rfl k
theorem g_lc_ne (X : Stand p l e R s m args below meth c T locs cells slots) (hx : p.tables.exec = Jvm.exec) {x y : Int64} {o : Int} (pcY pcN : Nat) (hd : decode c.code pc = .ok (.ifCond .ne o, 3)) (ho : 0 ≤ (pc : Int) + o) (hY : ((pc : Int) + o).toNat = pcY) (hN : pc + 3 = pcN) (gp : x = y → Go p e below s Q rc rs (T.setTop (mkF m pcN Ls st))) (gn : ¬ x = y → Go p e below s Q rc rs (T.setTop (mkF m pcY Ls st))) : Go p e below s Q rc rs (T.setTop (mkF m pc Ls (.int (lcmpW x y) :: st))) :=
  g_if0_ne X hx pcY pcN hd ho hY hN (fun q => gp ((lw_eq x y).1 q)) (fun q => gn fun r => q ((lw_eq x y).2 r))
theorem g_ifnull_no (X : Stand p l e R s m args below meth c T locs cells slots) (hx : p.tables.exec = Jvm.exec) {b : Addr} {o : Int} (pc' : Nat) (hd : decode c.code pc = .ok (.ifnull o, 3)) (hp : pc + 3 = pc') (g : Go p e below s Q rc rs (T.setTop (mkF m pc' Ls st))) : Go p e below s Q rc rs (T.setTop (mkF m pc Ls (.ref b :: st))) := by
  subst hp; exact g.by fun t k => XS.ifnullNo X.here hx rfl hd rfl k
theorem g_ifnonnull_yes (X : Stand p l e R s m args below meth c T locs cells slots) (hx : p.tables.exec = Jvm.exec) {b : Addr} {o : Int} (pc' : Nat) (hd : decode c.code pc = .ok (.ifnonnull o, 3)) (ho : 0 ≤ (pc : Int) + o) (hp : ((pc : Int) + o).toNat = pc') (g : Go p e below s Q rc rs (T.setTop (mkF m pc' Ls st))) : Go p e below s Q rc rs (T.setTop (mkF m pc Ls (.ref b :: st))) := by
  subst hp; exact g.by fun t k => XS.ifnonnullYes X.here hx rfl rfl hd rfl ho rfl k
theorem g_retI (X : Stand p l e R s m args below meth c T locs cells slots) (hx : p.tables.exec = Jvm.exec) (hret : meth.sig.returnType = some .int) (hlk : meth.locks = false) {z : Int32} (hd : decode c.code pc = .ok (.ireturn, 1)) (hc : cells ≤ rc) (hs : slots ≤ rs) (hQ : Q (some (.int z)) T.heap locs) : Go p e below s Q rc rs (T.setTop (mkF m pc Ls (.int z :: st))) := by
  obtain ⟨fs, hr, hrun, hended, hW, hsame⟩ := X.leave (v := some (.int z)) (fun q => by rw [hret] at q; cases q) hlk
  exact ⟨_, _, retI X hx hret hd hr, hrun, hended, _, _, rfl, hQ, ⟨_, rfl⟩, hW, hsame.mono hc hs⟩
theorem g_retN (X : Stand p l e R s m args below meth c T locs cells slots) (hx : p.tables.exec = Jvm.exec) {ty : FieldType} (hret : meth.sig.returnType = some ty) (ht : ty = .boolean ∨ ty = .byte ∨ ty = .char ∨ ty = .short) (hlk : meth.locks = false) {z : Int32} (hd : decode c.code pc = .ok (.ireturn, 1)) (hc : cells ≤ rc) (hs : slots ≤ rs) (hQ : Q (some (.int (nar ty z))) T.heap locs) : Go p e below s Q rc rs (T.setTop (mkF m pc Ls (.int z :: st))) := by
  obtain ⟨fs, hr, hrun, hended, hW, hsame⟩ := X.leave (v := some (.int (nar ty z))) (fun q => by rw [hret] at q; cases q) hlk
  exact ⟨_, _, retN X hx hret ht hd hr, hrun, hended, _, _, rfl, hQ, ⟨_, rfl⟩, hW, hsame.mono hc hs⟩
theorem g_retJ (X : Stand p l e R s m args below meth c T locs cells slots) (hx : p.tables.exec = Jvm.exec) (hret : meth.sig.returnType = some .long) (hlk : meth.locks = false) {z : Int64} (hd : decode c.code pc = .ok (.lreturn, 1)) (hc : cells ≤ rc) (hs : slots ≤ rs) (hQ : Q (some (.long z)) T.heap locs) : Go p e below s Q rc rs (T.setTop (mkF m pc Ls (.long z :: st))) := by
  obtain ⟨fs, hr, hrun, hended, hW, hsame⟩ := X.leave (v := some (.long z)) (fun q => by rw [hret] at q; cases q) hlk
  exact ⟨_, _, retOut X hx hret rfl (Or.inr (Or.inl ⟨rfl, rfl, z, rfl⟩)) hd hr, hrun, hended, _, _, rfl, hQ, ⟨_, rfl⟩, hW, hsame.mono hc hs⟩
theorem g_retA (X : Stand p l e R s m args below meth c T locs cells slots) (hx : p.tables.exec = Jvm.exec) {ty : FieldType} (hret : meth.sig.returnType = some ty) (ht : ty.isReference = true) (hlk : meth.locks = false) {b : Addr} (hd : decode c.code pc = .ok (.areturn, 1)) (hc : cells ≤ rc) (hs : slots ≤ rs) (hQ : Q (some (.ref b)) T.heap locs) : Go p e below s Q rc rs (T.setTop (mkF m pc Ls [.ref b])) := by
  obtain ⟨fs, hr, hrun, hended, hW, hsame⟩ := X.leave (v := some (.ref b)) (fun q => by rw [hret] at q; cases q) hlk
  exact ⟨_, _, X.areturnOut hx rfl hret ht hd hr, hrun, hended, _, _, rfl, hQ, ⟨_, rfl⟩, hW, hsame.mono hc hs⟩
theorem g_retV (X : Stand p l e R s m args below meth c T locs cells slots) (hx : p.tables.exec = Jvm.exec) (hret : meth.sig.returnType = none) (hlk : meth.locks = false) (hd : decode c.code pc = .ok (.return_, 1)) (hc : cells ≤ rc) (hs : slots ≤ rs) (hQ : Q none T.heap locs) : Go p e below s Q rc rs (T.setTop (mkF m pc Ls [])) := by
  obtain ⟨fs, hr, hrun, hended, hW, hsame⟩ := X.leave (v := none) (fun _ => rfl) hlk
  exact ⟨_, _, X.returnOut hx hret hd hr, hrun, hended, _, _, rfl, hQ, ⟨_, rfl⟩, hW, hsame.mono hc hs⟩
theorem g_body {y : MethodName} {bytes : ByteArray} {maxL : Nat} {ret : Option FieldType} {ws : List Jvm.Cond} {rm : Room} {as : Array Value} (hpn : plainFor y = true)
    (body : ∀ p e s m below meth c T, Stand p l e rm s m as below meth c T [] 0 0 → p.tables.exec = Jvm.exec → c.code = bytes → c.maxLocals = maxL → meth.sig.returnType = ret → meth.locks = false → s.vm.findClass y.cls = some m.cls → meth.name = y.name → Z.Warmed39 s.vm → T.heap = h → Go p e below s Q rc rs (T.setTop (entryFrame m as maxL))) :
    MetFree l y (head1 (Jvm.Cond.code y bytes maxL ret :: ws) rm) (fun a U => a = as ∧ Z.Warmed39 U.vm ∧ U.heap = h) (fun _ _ _ _ _ => True) (fun _ U o U' => ∃ v L, o = .returned v ∧ Q v U'.heap L ∧ FrameEnd U o U' L rc rs) := by
  refine MetFree.of_bodySF hpn hisR ?_
  intro p e s m args below meth c s₁ Bd hml hP hK
  obtain ⟨rfl, hZ, hh⟩ := hP
  exact body p e s m below meth c s₁ (Stand.of_body Bd) Bd.exec Bd.bytes hml Bd.returns Bd.notSynchronized (findClass_of_methodNamed Bd.named) (name_of_methodNamed Bd.named Bd.method).1 hZ (by rw [← hh, Bd.state]; rfl)
theorem g_callS (X : Stand p l e R s m args below meth c T locs cells slots) (hx : p.tables.exec = Jvm.exec) (hZ : Z.Warmed39 s.vm) {own : String} {i : Nat} {y : MethodName} {bytes : ByteArray} {maxL : Nat} {ret : Option FieldType} {rm : Room} {as : Array Value} {Q' : Option Value → Heap → List Loc → Prop} (hown : s.vm.findClass own = some m.cls) (w1 : (Jvm.Cond.methodLink own i y).before a0 Z = true) (w2 : (Jvm.Cond.static y).before a0 Z = true) (w3 : (Jvm.Cond.initialized y.cls).before a0 Z = true) (w4 : (Jvm.Cond.code y bytes maxL ret).before a0 Z = true) (hy : y.cls ≠ "java/lang/invoke/MethodHandle" ∧ y.cls ≠ "java/lang/invoke/VarHandle") (eT : T.heap = h) (hM : MetFree l y (head1 [Jvm.Cond.code y bytes maxL ret] rm) (fun a U => a = as ∧ Z.Warmed39 U.vm ∧ U.heap = h) (fun _ _ _ _ _ => True) (fun _ U o U' => ∃ v L, o = .returned v ∧ Q' v U'.heap L ∧ FrameEnd U o U' L rm.cells rm.slots)) (argsL rest : List Value) (W : Nat) (has : argsL.toArray = as) (hlen : ∀ sig, parseMethodDescriptor y.desc = some sig → argsL.length = sig.parameters.length) (hst : st = argsL.reverse ++ rest) (hW : (rest.map fun v => v.category).sum ≤ W) (hf : rm.frames + 1 ≤ R.frames) (hlo : W + (maxL + 11) + rm.locals ≤ R.locals) (hcl : cells + rm.cells ≤ R.cells) (hsl : slots + rm.slots ≤ R.slots) (hsz : Ls.size = c.maxLocals) (hd : decode c.code pc = .ok (.invokestatic i, 3)) (k : ∀ T' L v, Stand p l e R s m args below meth c T' (locs ++ L) (cells + rm.cells) (slots + rm.slots) → Q' v T'.heap L → Go p e below s Q rc rs (T'.setTop (mkF m (pc + 3) Ls (v.toList ++ rest)))) : Go p e below s Q rc rs (T.setTop (mkF m pc Ls st)) := by
  subst hst has
  obtain ⟨_, _, ⟨T', L', k', n'⟩, -, X', ⟨Lc, hQ, e1, e2, e3⟩, stp⟩ := Jvm.LawKit.callS X hx (y := y) hown (mvT hZ w1) (mvT hZ w2) (mvT hZ w3) (mvT hZ w4) hy (backOf (W := W) hM hZ w4 w3 hf hlo) (g := mkF m pc Ls (argsL.reverse ++ rest)) rfl hsz (argsL := argsL) (rest := rest) hlen rfl (by show 2 * 0 + _ ≤ _; omega) hd (fun _ _ => ⟨rfl, eT, hcl, hsl⟩)
  dsimp only [Pt.U, Pt.locs, Pt.cells, Pt.slots] at X' e1 e2 e3 stp hQ
  subst e1 e2 e3
  exact (k _ _ _ X' hQ).by stp
theorem g_callI (X : Stand p l e R s m args below meth c T locs cells slots) (hx : p.tables.exec = Jvm.exec) (hZ : Z.Warmed39 s.vm) {own : String} {i : Nat} {y : MethodName} {bytes : ByteArray} {maxL : Nat} {rm : Room} {as : Array Value} {Q' : Option Value → Heap → List Loc → Prop} (hy1 : y.name = "<init>") (hown : s.vm.findClass own = some m.cls) (w1 : (Jvm.Cond.methodLink own i y).before a0 Z = true) (w2 : (Jvm.Cond.instanceMethod y).before a0 Z = true) (w3 : (Jvm.Cond.initialized y.cls).before a0 Z = true) (w4 : (Jvm.Cond.code y bytes maxL none).before a0 Z = true) (hy : y.cls ≠ "java/lang/invoke/MethodHandle" ∧ y.cls ≠ "java/lang/invoke/VarHandle") (eT : T.heap = h) (hM : MetFree l y (head1 [Jvm.Cond.code y bytes maxL none] rm) (fun a U => a = as ∧ Z.Warmed39 U.vm ∧ U.heap = h) (fun _ _ _ _ _ => True) (fun _ U o U' => ∃ v L, o = .returned v ∧ Q' v U'.heap L ∧ FrameEnd U o U' L rm.cells rm.slots)) (b : Addr) (argsL rest : List Value) (W : Nat) (has : (.ref b :: argsL : List Value).toArray = as) (hlen : ∀ sig, parseMethodDescriptor y.desc = some sig → argsL.length = sig.parameters.length) (hst : st = argsL.reverse ++ .ref b :: rest) (hW : (rest.map fun v => v.category).sum ≤ W) (hf : rm.frames + 1 ≤ R.frames) (hlo : W + (maxL + 11) + rm.locals ≤ R.locals) (hcl : cells + rm.cells ≤ R.cells) (hsl : slots + rm.slots ≤ R.slots) (hsz : Ls.size = c.maxLocals) (hd : decode c.code pc = .ok (.invokespecial i, 3)) (k : ∀ T' L v, Stand p l e R s m args below meth c T' (locs ++ L) (cells + rm.cells) (slots + rm.slots) → Q' v T'.heap L → Go p e below s Q rc rs (T'.setTop (mkF m (pc + 3) Ls (v.toList ++ rest)))) : Go p e below s Q rc rs (T.setTop (mkF m pc Ls st)) := by
  subst hst has
  obtain ⟨_, _, ⟨T', L', k', n'⟩, -, X', ⟨Lc, hQ, e1, e2, e3⟩, stp⟩ := X.specialBack hx (y := y) hy1 hown (mvT hZ w1) (mvT hZ w2) (mvT hZ w4) hy (backOf (W := W) hM hZ w4 w3 hf hlo) (g := mkF m pc Ls (argsL.reverse ++ .ref b :: rest)) rfl hsz (Steps.refl _) (a := b) (argsL := argsL) (rest := rest) hlen rfl (by show 2 * 0 + _ ≤ _; omega) hd (fun _ _ => ⟨rfl, eT, hcl, hsl⟩)
  dsimp only [Pt.U, Pt.locs, Pt.cells, Pt.slots] at X' e1 e2 e3 stp hQ
  subst e1 e2 e3
  exact (k _ _ _ X' hQ).by fun t k => stp.trans k
theorem g_callV (X : Stand p l e R s m args below meth c T locs cells slots) (hx : p.tables.exec = Jvm.exec) (hZ : Z.Warmed39 s.vm) {own C : String} {i : Nat} {y : MethodName} {bytes : ByteArray} {maxL : Nat} {ret : Option FieldType} {rm : Room} {as : Array Value} {Q' : Option Value → Heap → List Loc → Prop} (hown : s.vm.findClass own = some m.cls) (w1 : (Jvm.Cond.methodLink own i y).before a0 Z = true) (w2 : (Jvm.Cond.declares y).before a0 Z = true) (w5 : (Jvm.Cond.selects C y y).before a0 Z = true) (w6 : (Jvm.Cond.instanceMethod y).before a0 Z = true) (w3 : (Jvm.Cond.initialized y.cls).before a0 Z = true) (w4 : (Jvm.Cond.code y bytes maxL ret).before a0 Z = true) (hy : y.cls ≠ "java/lang/invoke/MethodHandle" ∧ y.cls ≠ "java/lang/invoke/VarHandle") (eT : T.heap = h) (b : Addr) (E : Exa Z h b C) (hM : MetFree l y (head1 [Jvm.Cond.code y bytes maxL ret] rm) (fun a U => a = as ∧ Z.Warmed39 U.vm ∧ U.heap = h) (fun _ _ _ _ _ => True) (fun _ U o U' => ∃ v L, o = .returned v ∧ Q' v U'.heap L ∧ FrameEnd U o U' L rm.cells rm.slots)) (argsL rest : List Value) (W : Nat) (has : (.ref b :: argsL : List Value).toArray = as) (hlen : ∀ sig, parseMethodDescriptor y.desc = some sig → argsL.length = sig.parameters.length) (hst : st = argsL.reverse ++ .ref b :: rest) (hW : (rest.map fun v => v.category).sum ≤ W) (hf : rm.frames + 1 ≤ R.frames) (hlo : W + (maxL + 11) + rm.locals ≤ R.locals) (hcl : cells + rm.cells ≤ R.cells) (hsl : slots + rm.slots ≤ R.slots) (hsz : Ls.size = c.maxLocals) (hd : decode c.code pc = .ok (.invokevirtual i, 3)) (k : ∀ T' L v, Stand p l e R s m args below meth c T' (locs ++ L) (cells + rm.cells) (slots + rm.slots) → Q' v T'.heap L → Go p e below s Q rc rs (T'.setTop (mkF m (pc + 3) Ls (v.toList ++ rest)))) : Go p e below s Q rc rs (T.setTop (mkF m pc Ls st)) := by
  subst hst has
  obtain ⟨cq, kq, qa, qb, qc⟩ := isOf hZ eT E
  obtain ⟨_, _, ⟨T', L', k', n'⟩, -, X', ⟨Lc, hQ, e1, e2, e3⟩, stp⟩ := X.virtualBack hx (y := y) (z := y) hown (mvT hZ w1) (mvT hZ w2) (notFace_of_selects (args := #[]) (mvT hZ w5)) (mvT hZ w5) (mvT hZ w6) hy (backOf (W := W) hM hZ w4 w3 hf hlo) qa qc (g := mkF m pc Ls (argsL.reverse ++ .ref b :: rest)) rfl hsz (Steps.refl _) (argsL := argsL) (rest := rest) hlen rfl (by show 2 * 0 + _ ≤ _; omega) hd (fun _ _ => ⟨rfl, eT, hcl, hsl⟩)
  dsimp only [Pt.U, Pt.locs, Pt.cells, Pt.slots] at X' e1 e2 e3 stp hQ
  subst e1 e2 e3
  exact (k _ _ _ X' hQ).by fun t k => stp.trans k
theorem g_callP (X : Stand p l e R s m args below meth c T locs cells slots) (hx : p.tables.exec = Jvm.exec) (hZ : Z.Warmed39 s.vm) {own C : String} {i : Nat} {y : MethodName} {bytes : ByteArray} {maxL : Nat} {ret : Option FieldType} {rm : Room} {as : Array Value} {Q' : Option Value → Heap → List Loc → Prop} (hown : s.vm.findClass own = some m.cls) (w1 : (Jvm.Cond.methodLink own i y).before a0 Z = true) (w2 : (Jvm.Cond.instanceMethod y).before a0 Z = true) (w5 : (Jvm.Cond.selects y.cls y y).before a0 Z = true) (w6 : (Jvm.Cond.privateMethod y).before a0 Z = true) (w3 : (Jvm.Cond.initialized y.cls).before a0 Z = true) (w4 : (Jvm.Cond.code y bytes maxL ret).before a0 Z = true) (hy : y.cls ≠ "java/lang/invoke/MethodHandle" ∧ y.cls ≠ "java/lang/invoke/VarHandle") (eT : T.heap = h) (b : Addr) (E : Exa Z h b C) (hM : MetFree l y (head1 [Jvm.Cond.code y bytes maxL ret] rm) (fun a U => a = as ∧ Z.Warmed39 U.vm ∧ U.heap = h) (fun _ _ _ _ _ => True) (fun _ U o U' => ∃ v L, o = .returned v ∧ Q' v U'.heap L ∧ FrameEnd U o U' L rm.cells rm.slots)) (argsL rest : List Value) (W : Nat) (has : (.ref b :: argsL : List Value).toArray = as) (hlen : ∀ sig, parseMethodDescriptor y.desc = some sig → argsL.length = sig.parameters.length) (hst : st = argsL.reverse ++ .ref b :: rest) (hW : (rest.map fun v => v.category).sum ≤ W) (hf : rm.frames + 1 ≤ R.frames) (hlo : W + (maxL + 11) + rm.locals ≤ R.locals) (hcl : cells + rm.cells ≤ R.cells) (hsl : slots + rm.slots ≤ R.slots) (hsz : Ls.size = c.maxLocals) (hd : decode c.code pc = .ok (.invokevirtual i, 3)) (k : ∀ T' L v, Stand p l e R s m args below meth c T' (locs ++ L) (cells + rm.cells) (slots + rm.slots) → Q' v T'.heap L → Go p e below s Q rc rs (T'.setTop (mkF m (pc + 3) Ls (v.toList ++ rest)))) : Go p e below s Q rc rs (T.setTop (mkF m pc Ls st)) := by
  subst hst has
  obtain ⟨cq, q, q'⟩ := E.cell
  obtain ⟨_, _, ⟨T', L', k', n'⟩, -, X', ⟨Lc, hQ, e1, e2, e3⟩, stp⟩ := X.privateBack hx (y := y) hown (mvT hZ w1) (mvT hZ w2) (mvT hZ w5) (Cond.privateMethod_at (mvP hZ w6 (args := #[]))) (mvT hZ w4) hy (backOf (W := W) hM hZ w4 w3 hf hlo) (g := mkF m pc Ls (argsL.reverse ++ .ref b :: rest)) rfl hsz (Steps.refl _) (a := b) (by rw [eT]; exact q) q' (argsL := argsL) (rest := rest) hlen rfl (by show 2 * 0 + _ ≤ _; omega) hd (fun _ _ => ⟨rfl, eT, hcl, hsl⟩)
  dsimp only [Pt.U, Pt.locs, Pt.cells, Pt.slots] at X' e1 e2 e3 stp hQ
  subst e1 e2 e3
  exact (k _ _ _ X' hQ).by fun t k => stp.trans k
end OwnKit
theorem d1_0 : decode prog_9_method_6_code 0 = .ok (.lload_n 0, 1) := by decide +kernel
theorem d1_1 : decode prog_9_method_6_code 1 = .ok (.lload_n 0, 1) := by decide +kernel
theorem d1_2 : decode prog_9_method_6_code 2 = .ok (.bipush 31, 2) := by decide +kernel
theorem d1_4 : decode prog_9_method_6_code 4 = .ok (.lushr, 1) := by decide +kernel
theorem d1_5 : decode prog_9_method_6_code 5 = .ok (.lxor, 1) := by decide +kernel
theorem d1_6 : decode prog_9_method_6_code 6 = .ok (.ldc2_w 29, 3) := by decide +kernel
theorem d1_9 : decode prog_9_method_6_code 9 = .ok (.lmul, 1) := by decide +kernel
theorem d1_10 : decode prog_9_method_6_code 10 = .ok (.ldc2_w 33, 3) := by decide +kernel
theorem d1_13 : decode prog_9_method_6_code 13 = .ok (.land, 1) := by decide +kernel
theorem d1_14 : decode prog_9_method_6_code 14 = .ok (.lstore_n 2, 1) := by decide +kernel
theorem d1_15 : decode prog_9_method_6_code 15 = .ok (.lload_n 2, 1) := by decide +kernel
theorem d1_16 : decode prog_9_method_6_code 16 = .ok (.lload_n 2, 1) := by decide +kernel
theorem d1_17 : decode prog_9_method_6_code 17 = .ok (.bipush 29, 2) := by decide +kernel
theorem d1_19 : decode prog_9_method_6_code 19 = .ok (.lushr, 1) := by decide +kernel
theorem d1_20 : decode prog_9_method_6_code 20 = .ok (.lxor, 1) := by decide +kernel
theorem d1_21 : decode prog_9_method_6_code 21 = .ok (.ldc2_w 31, 3) := by decide +kernel
theorem d1_24 : decode prog_9_method_6_code 24 = .ok (.lmul, 1) := by decide +kernel
theorem d1_25 : decode prog_9_method_6_code 25 = .ok (.ldc2_w 33, 3) := by decide +kernel
theorem d1_28 : decode prog_9_method_6_code 28 = .ok (.land, 1) := by decide +kernel
theorem d1_29 : decode prog_9_method_6_code 29 = .ok (.lstore_n 2, 1) := by decide +kernel
theorem d1_30 : decode prog_9_method_6_code 30 = .ok (.lload_n 2, 1) := by decide +kernel
theorem d1_31 : decode prog_9_method_6_code 31 = .ok (.lload_n 2, 1) := by decide +kernel
theorem d1_32 : decode prog_9_method_6_code 32 = .ok (.bipush 32, 2) := by decide +kernel
theorem d1_34 : decode prog_9_method_6_code 34 = .ok (.lushr, 1) := by decide +kernel
theorem d1_35 : decode prog_9_method_6_code 35 = .ok (.lxor, 1) := by decide +kernel
theorem d1_36 : decode prog_9_method_6_code 36 = .ok (.lstore_n 2, 1) := by decide +kernel
theorem d1_37 : decode prog_9_method_6_code 37 = .ok (.ldc2_w 11, 3) := by decide +kernel
theorem d1_40 : decode prog_9_method_6_code 40 = .ok (.ldc2_w 39, 3) := by decide +kernel
theorem d1_43 : decode prog_9_method_6_code 43 = .ok (.lload_n 2, 1) := by decide +kernel
theorem d1_44 : decode prog_9_method_6_code 44 = .ok (.lmul, 1) := by decide +kernel
theorem d1_45 : decode prog_9_method_6_code 45 = .ok (.ladd, 1) := by decide +kernel
theorem d1_46 : decode prog_9_method_6_code 46 = .ok (.lreturn, 1) := by decide +kernel
theorem pn_1 : plainName "com/example/varietal/varietal/core/random/SeededRandom" = true := by first | (simp [plainName, overriddenIn]; done) | decide +kernel
theorem ef_1 (m : MethodId) (x0 : Int64) : entryFrame m #[(.long x0)] 4 = mkF m 0 #[.val (.long x0), .second, .unset, .unset] [] := by first | (simp [entryFrame, mkF, argsToLocals, Value.category]; done) | rfl
def v1_m1 (x0 : Int64) : Int64 := (((x0 ^^^ (ushrJ x0 (31 : Int32))) * (-4658895280553007687 : Int64)) &&& (9223372036854775807 : Int64))
def v1_m2 (x0 : Int64) : Int64 := ((((v1_m1 x0) ^^^ (ushrJ (v1_m1 x0) (29 : Int32))) * (-7723592293110705685 : Int64)) &&& (9223372036854775807 : Int64))
def v1_m3 (x0 : Int64) : Int64 := ((v1_m2 x0) ^^^ (ushrJ (v1_m2 x0) (32 : Int32)))
def f1 (x0 : Int64) : Int64 := ((-7046029254386353131 : Int64) + ((2 : Int64) * (v1_m3 x0)))
def Q1 (x0 : Int64) (h0 : Heap) (v : Option Value) (h : Heap) (L : List Loc) : Prop := v = some (.long (f1 x0)) ∧ L = [] ∧ h = h0
set_option maxRecDepth 65536 in
set_option maxHeartbeats 40000000 in
theorem rm1 (l : Launch) (Z : State) (a0 : Array Value) (hw : ∀ d ∈ tables_1, d.before a0 Z = true) (ws : List Jvm.Cond) (x0 : Int64) (h0 : Heap) :
    MetFree l (⟨"com/example/varietal/varietal/core/random/SeededRandom", "step", "(J)J"⟩ : MethodName) (head1 (Jvm.Cond.code (⟨"com/example/varietal/varietal/core/random/SeededRandom", "step", "(J)J"⟩ : MethodName) prog_9_method_6_code 4 (some .long) :: ws) ({ frames := 0, cells := 0, slots := 0, locals := 0 } : Room)) (fun a U => a = #[(.long x0)] ∧ Z.Warmed39 U.vm ∧ U.heap = h0) (fun _ _ _ _ _ => True) (fun _ U o U' => ∃ v L, o = .returned v ∧ Q1 x0 h0 v U'.heap L ∧ FrameEnd U o U' L ({ frames := 0, cells := 0, slots := 0, locals := 0 } : Room).cells ({ frames := 0, cells := 0, slots := 0, locals := 0 } : Room).slots) := by
  refine g_body (plainFor_of_name pn_1) ?_
  intro p e s m below meth c T0 X0 hx hby hml hret hlk hown hnm hZ e0
  rw [ef_1]
  show Go p e below s _ _ _ (T0.setTop (mkF m 0 #[.val (.long x0), .second, .unset, .unset] []))
  refine g_lloadN X0 hx 1 (hb hby d1_0) rfl rfl ?_
  show Go p e below s _ _ _ (T0.setTop (mkF m 1 #[.val (.long x0), .second, .unset, .unset] [(.long x0)]))
  refine g_lloadN X0 hx 2 (hb hby d1_1) rfl rfl ?_
  show Go p e below s _ _ _ (T0.setTop (mkF m 2 #[.val (.long x0), .second, .unset, .unset] [(.long x0), (.long x0)]))
  refine g_bipush X0 hx (31 : Int32) 4 (hb hby d1_2) rfl rfl ?_
  show Go p e below s _ _ _ (T0.setTop (mkF m 4 #[.val (.long x0), .second, .unset, .unset] [(.int (31 : Int32)), (.long x0), (.long x0)]))
  refine g_lushr X0 hx 5 (hb hby d1_4) rfl ?_
  show Go p e below s _ _ _ (T0.setTop (mkF m 5 #[.val (.long x0), .second, .unset, .unset] [(.long (ushrJ x0 (31 : Int32))), (.long x0)]))
  refine g_lxor X0 hx 6 (hb hby d1_5) rfl ?_
  show Go p e below s _ _ _ (T0.setTop (mkF m 6 #[.val (.long x0), .second, .unset, .unset] [(.long (x0 ^^^ (ushrJ x0 (31 : Int32))))]))
  refine g_ldc2_w X0 hx hZ hown (hw _ (List.mem_of_getElem? (i := 5) rfl)) 9 (hb hby d1_6) rfl ?_
  show Go p e below s _ _ _ (T0.setTop (mkF m 9 #[.val (.long x0), .second, .unset, .unset] [(.long (-4658895280553007687 : Int64)), (.long (x0 ^^^ (ushrJ x0 (31 : Int32))))]))
  refine g_lmul X0 hx 10 (hb hby d1_9) rfl ?_
  show Go p e below s _ _ _ (T0.setTop (mkF m 10 #[.val (.long x0), .second, .unset, .unset] [(.long ((x0 ^^^ (ushrJ x0 (31 : Int32))) * (-4658895280553007687 : Int64)))]))
  refine g_ldc2_w X0 hx hZ hown (hw _ (List.mem_of_getElem? (i := 6) rfl)) 13 (hb hby d1_10) rfl ?_
  show Go p e below s _ _ _ (T0.setTop (mkF m 13 #[.val (.long x0), .second, .unset, .unset] [(.long (9223372036854775807 : Int64)), (.long ((x0 ^^^ (ushrJ x0 (31 : Int32))) * (-4658895280553007687 : Int64)))]))
  refine g_land X0 hx 14 (hb hby d1_13) rfl ?_
  show Go p e below s _ _ _ (T0.setTop (mkF m 14 #[.val (.long x0), .second, .unset, .unset] [(.long (((x0 ^^^ (ushrJ x0 (31 : Int32))) * (-4658895280553007687 : Int64)) &&& (9223372036854775807 : Int64)))]))
  refine g_lstoreN X0 hx #[.val (.long x0), .second, .val (.long (v1_m1 x0)), .second] 15 (hb hby d1_14) rfl rfl ?_
  show Go p e below s _ _ _ (T0.setTop (mkF m 15 #[.val (.long x0), .second, .val (.long (v1_m1 x0)), .second] []))
  refine g_lloadN X0 hx 16 (hb hby d1_15) rfl rfl ?_
  show Go p e below s _ _ _ (T0.setTop (mkF m 16 #[.val (.long x0), .second, .val (.long (v1_m1 x0)), .second] [(.long (v1_m1 x0))]))
  refine g_lloadN X0 hx 17 (hb hby d1_16) rfl rfl ?_
  show Go p e below s _ _ _ (T0.setTop (mkF m 17 #[.val (.long x0), .second, .val (.long (v1_m1 x0)), .second] [(.long (v1_m1 x0)), (.long (v1_m1 x0))]))
  refine g_bipush X0 hx (29 : Int32) 19 (hb hby d1_17) rfl rfl ?_
  show Go p e below s _ _ _ (T0.setTop (mkF m 19 #[.val (.long x0), .second, .val (.long (v1_m1 x0)), .second] [(.int (29 : Int32)), (.long (v1_m1 x0)), (.long (v1_m1 x0))]))
  refine g_lushr X0 hx 20 (hb hby d1_19) rfl ?_
  show Go p e below s _ _ _ (T0.setTop (mkF m 20 #[.val (.long x0), .second, .val (.long (v1_m1 x0)), .second] [(.long (ushrJ (v1_m1 x0) (29 : Int32))), (.long (v1_m1 x0))]))
  refine g_lxor X0 hx 21 (hb hby d1_20) rfl ?_
  show Go p e below s _ _ _ (T0.setTop (mkF m 21 #[.val (.long x0), .second, .val (.long (v1_m1 x0)), .second] [(.long ((v1_m1 x0) ^^^ (ushrJ (v1_m1 x0) (29 : Int32))))]))
  refine g_ldc2_w X0 hx hZ hown (hw _ (List.mem_of_getElem? (i := 7) rfl)) 24 (hb hby d1_21) rfl ?_
  show Go p e below s _ _ _ (T0.setTop (mkF m 24 #[.val (.long x0), .second, .val (.long (v1_m1 x0)), .second] [(.long (-7723592293110705685 : Int64)), (.long ((v1_m1 x0) ^^^ (ushrJ (v1_m1 x0) (29 : Int32))))]))
  refine g_lmul X0 hx 25 (hb hby d1_24) rfl ?_
  show Go p e below s _ _ _ (T0.setTop (mkF m 25 #[.val (.long x0), .second, .val (.long (v1_m1 x0)), .second] [(.long (((v1_m1 x0) ^^^ (ushrJ (v1_m1 x0) (29 : Int32))) * (-7723592293110705685 : Int64)))]))
  refine g_ldc2_w X0 hx hZ hown (hw _ (List.mem_of_getElem? (i := 6) rfl)) 28 (hb hby d1_25) rfl ?_
  show Go p e below s _ _ _ (T0.setTop (mkF m 28 #[.val (.long x0), .second, .val (.long (v1_m1 x0)), .second] [(.long (9223372036854775807 : Int64)), (.long (((v1_m1 x0) ^^^ (ushrJ (v1_m1 x0) (29 : Int32))) * (-7723592293110705685 : Int64)))]))
  refine g_land X0 hx 29 (hb hby d1_28) rfl ?_
  show Go p e below s _ _ _ (T0.setTop (mkF m 29 #[.val (.long x0), .second, .val (.long (v1_m1 x0)), .second] [(.long ((((v1_m1 x0) ^^^ (ushrJ (v1_m1 x0) (29 : Int32))) * (-7723592293110705685 : Int64)) &&& (9223372036854775807 : Int64)))]))
  refine g_lstoreN X0 hx #[.val (.long x0), .second, .val (.long (v1_m2 x0)), .second] 30 (hb hby d1_29) rfl rfl ?_
  show Go p e below s _ _ _ (T0.setTop (mkF m 30 #[.val (.long x0), .second, .val (.long (v1_m2 x0)), .second] []))
  refine g_lloadN X0 hx 31 (hb hby d1_30) rfl rfl ?_
  show Go p e below s _ _ _ (T0.setTop (mkF m 31 #[.val (.long x0), .second, .val (.long (v1_m2 x0)), .second] [(.long (v1_m2 x0))]))
  refine g_lloadN X0 hx 32 (hb hby d1_31) rfl rfl ?_
  show Go p e below s _ _ _ (T0.setTop (mkF m 32 #[.val (.long x0), .second, .val (.long (v1_m2 x0)), .second] [(.long (v1_m2 x0)), (.long (v1_m2 x0))]))
  refine g_bipush X0 hx (32 : Int32) 34 (hb hby d1_32) rfl rfl ?_
  show Go p e below s _ _ _ (T0.setTop (mkF m 34 #[.val (.long x0), .second, .val (.long (v1_m2 x0)), .second] [(.int (32 : Int32)), (.long (v1_m2 x0)), (.long (v1_m2 x0))]))
  refine g_lushr X0 hx 35 (hb hby d1_34) rfl ?_
  show Go p e below s _ _ _ (T0.setTop (mkF m 35 #[.val (.long x0), .second, .val (.long (v1_m2 x0)), .second] [(.long (ushrJ (v1_m2 x0) (32 : Int32))), (.long (v1_m2 x0))]))
  refine g_lxor X0 hx 36 (hb hby d1_35) rfl ?_
  show Go p e below s _ _ _ (T0.setTop (mkF m 36 #[.val (.long x0), .second, .val (.long (v1_m2 x0)), .second] [(.long ((v1_m2 x0) ^^^ (ushrJ (v1_m2 x0) (32 : Int32))))]))
  refine g_lstoreN X0 hx #[.val (.long x0), .second, .val (.long (v1_m3 x0)), .second] 37 (hb hby d1_36) rfl rfl ?_
  show Go p e below s _ _ _ (T0.setTop (mkF m 37 #[.val (.long x0), .second, .val (.long (v1_m3 x0)), .second] []))
  refine g_ldc2_w X0 hx hZ hown (hw _ (List.mem_of_getElem? (i := 8) rfl)) 40 (hb hby d1_37) rfl ?_
  show Go p e below s _ _ _ (T0.setTop (mkF m 40 #[.val (.long x0), .second, .val (.long (v1_m3 x0)), .second] [(.long (-7046029254386353131 : Int64))]))
  refine g_ldc2_w X0 hx hZ hown (hw _ (List.mem_of_getElem? (i := 9) rfl)) 43 (hb hby d1_40) rfl ?_
  show Go p e below s _ _ _ (T0.setTop (mkF m 43 #[.val (.long x0), .second, .val (.long (v1_m3 x0)), .second] [(.long (2 : Int64)), (.long (-7046029254386353131 : Int64))]))
  refine g_lloadN X0 hx 44 (hb hby d1_43) rfl rfl ?_
  show Go p e below s _ _ _ (T0.setTop (mkF m 44 #[.val (.long x0), .second, .val (.long (v1_m3 x0)), .second] [(.long (v1_m3 x0)), (.long (2 : Int64)), (.long (-7046029254386353131 : Int64))]))
  refine g_lmul X0 hx 45 (hb hby d1_44) rfl ?_
  show Go p e below s _ _ _ (T0.setTop (mkF m 45 #[.val (.long x0), .second, .val (.long (v1_m3 x0)), .second] [(.long ((2 : Int64) * (v1_m3 x0))), (.long (-7046029254386353131 : Int64))]))
  refine g_ladd X0 hx 46 (hb hby d1_45) rfl ?_
  show Go p e below s _ _ _ (T0.setTop (mkF m 46 #[.val (.long x0), .second, .val (.long (v1_m3 x0)), .second] [(.long ((-7046029254386353131 : Int64) + ((2 : Int64) * (v1_m3 x0))))]))
  exact g_retJ X0 hx hret hlk (hb hby d1_46) (by decide) (by decide) ⟨congrArg (fun z => some (Value.long z)) (show ((-7046029254386353131 : Int64) + ((2 : Int64) * (v1_m3 x0))) = (f1 x0) from by rw [f1]), rfl, e0⟩
theorem pd__28J_29J : parseMethodDescriptor "(J)J" = some ⟨[.long], some .long⟩ := by decide +kernel
theorem pn_0 : plainName "com/example/varietal/varietal/core/random/SeededRandomStepPinLaw" = true := by first | (simp [plainName, overriddenIn]; done) | decide +kernel
theorem ef_0 (m : MethodId) (x0 : Int64) (x1 : Int64) (x2 : Int32) : entryFrame m #[(.long x0), (.long x1), (.int x2)] maxLocals = mkF m 0 #[.val (.long x0), .second, .val (.long x1), .second, .val (.int x2), .unset, .unset, .unset, .unset, .unset, .unset, .unset, .unset, .unset, .unset, .unset, .unset, .unset, .unset, .unset] [] := by first | (simp [entryFrame, mkF, argsToLocals, Value.category, maxLocals]; done) | rfl
def v0_a (x0 : Int64) : Int64 := (x0 &&& (9223372036854775807 : Int64))
def z0_76_l7_1 (x0 : Int64) (x1 : Int64) (x2 : Int32) : Int64 := (if (x2 &&& (3 : Int32)) = (0 : Int32) then (x1 &&& (9223372036854775807 : Int64)) else (if (x2 &&& (3 : Int32)) = (1 : Int32) then (((v0_a x0) + (x1 &&& (255 : Int64))) &&& (9223372036854775807 : Int64)) else (if (x2 &&& (3 : Int32)) = (2 : Int32) then ((v0_a x0) ^^^ (shlJ (1 : Int64) ((x1 &&& (62 : Int64)).toInt32))) else (0 : Int64))))
def v0_b (x0 : Int64) (x1 : Int64) (x2 : Int32) : Int64 := ((z0_76_l7_1 x0 x1 x2) &&& (9223372036854775807 : Int64))
def z0_127_s0_5 (x0 : Int64) (x1 : Int64) (x2 : Int32) : Int32 := (if ((f1 (v0_a x0)) &&& (1 : Int64)) = (1 : Int64) then (if ((f1 (v0_b x0 x1 x2)) &&& (1 : Int64)) = (1 : Int64) then (1 : Int32) else (0 : Int32)) else (0 : Int32))
def z0_143_s0_6 : Int32 := (if (f1 (0 : Int64)) = (-7046029254386353131 : Int64) then (1 : Int32) else (0 : Int32))
def z0_158_s0_7 (x0 : Int64) (x1 : Int64) (x2 : Int32) : Int32 := (if (f1 (v0_a x0)) = (f1 (v0_b x0 x1 x2)) then (1 : Int32) else (0 : Int32))
def z0_171_s0_8 (x0 : Int64) (x1 : Int64) (x2 : Int32) : Int32 := (if (v0_a x0) = (v0_b x0 x1 x2) then (1 : Int32) else (0 : Int32))
def z0_179_s0_9 (x0 : Int64) (x1 : Int64) (x2 : Int32) : Int32 := (if (z0_158_s0_7 x0 x1 x2) = (z0_171_s0_8 x0 x1 x2) then (1 : Int32) else (0 : Int32))
def z0_195_s0_10 (x0 : Int64) : Int32 := (if (f1 (v0_a x0)) = (-7046029254386353131 : Int64) then (1 : Int32) else (0 : Int32))
def z0_207_s0_11 (x0 : Int64) : Int32 := (if (v0_a x0) = (0 : Int64) then (1 : Int32) else (0 : Int32))
def z0_215_s0_12 (x0 : Int64) : Int32 := (if (z0_195_s0_10 x0) = (z0_207_s0_11 x0) then (1 : Int32) else (0 : Int32))
def f0 (x0 : Int64) (x1 : Int64) (x2 : Int32) : Int32 := if (z0_127_s0_5 x0 x1 x2) = (0 : Int32) then (0 : Int32) else if z0_143_s0_6 = (0 : Int32) then (0 : Int32) else if (z0_179_s0_9 x0 x1 x2) = (0 : Int32) then (0 : Int32) else if (z0_215_s0_12 x0) = (0 : Int32) then (0 : Int32) else (1 : Int32)
def Q0 (x0 : Int64) (x1 : Int64) (x2 : Int32) (h0 : Heap) (v : Option Value) (h : Heap) (L : List Loc) : Prop := v = some (.int (f0 x0 x1 x2)) ∧ L = [] ∧ h = h0
set_option maxRecDepth 65536 in
set_option maxHeartbeats 40000000 in
theorem rm0 (l : Launch) (Z : State) (a0 : Array Value) (hw : ∀ d ∈ tables_1, d.before a0 Z = true) (ws : List Jvm.Cond) (x0 : Int64) (x1 : Int64) (x2 : Int32) (h0 : Heap) :
    MetFree l x (head1 (Jvm.Cond.code x code maxLocals ret :: ws) room_1) (fun a U => a = #[(.long x0), (.long x1), (.int x2)] ∧ Z.Warmed39 U.vm ∧ U.heap = h0) (fun _ _ _ _ _ => True) (fun _ U o U' => ∃ v L, o = .returned v ∧ Q0 x0 x1 x2 h0 v U'.heap L ∧ FrameEnd U o U' L room_1.cells room_1.slots) := by
  refine g_body (plainFor_of_name pn_0) ?_
  intro p e s m below meth c T0 X0 hx hby hml hret hlk hown hnm hZ e0
  rw [ef_0]
  show Go p e below s _ _ _ (T0.setTop (mkF m 0 #[.val (.long x0), .second, .val (.long x1), .second, .val (.int x2), .unset, .unset, .unset, .unset, .unset, .unset, .unset, .unset, .unset, .unset, .unset, .unset, .unset, .unset, .unset] []))
  refine g_lloadN X0 hx 1 (hb hby at_0) rfl rfl ?_
  show Go p e below s _ _ _ (T0.setTop (mkF m 1 #[.val (.long x0), .second, .val (.long x1), .second, .val (.int x2), .unset, .unset, .unset, .unset, .unset, .unset, .unset, .unset, .unset, .unset, .unset, .unset, .unset, .unset, .unset] [(.long x0)]))
  refine g_ldc2_w X0 hx hZ hown (hw _ (List.mem_of_getElem? (i := 0) rfl)) 4 (hb hby at_1) rfl ?_
  show Go p e below s _ _ _ (T0.setTop (mkF m 4 #[.val (.long x0), .second, .val (.long x1), .second, .val (.int x2), .unset, .unset, .unset, .unset, .unset, .unset, .unset, .unset, .unset, .unset, .unset, .unset, .unset, .unset, .unset] [(.long (9223372036854775807 : Int64)), (.long x0)]))
  refine g_land X0 hx 5 (hb hby at_4) rfl ?_
  show Go p e below s _ _ _ (T0.setTop (mkF m 5 #[.val (.long x0), .second, .val (.long x1), .second, .val (.int x2), .unset, .unset, .unset, .unset, .unset, .unset, .unset, .unset, .unset, .unset, .unset, .unset, .unset, .unset, .unset] [(.long (x0 &&& (9223372036854775807 : Int64)))]))
  refine g_lstore X0 hx #[.val (.long x0), .second, .val (.long x1), .second, .val (.int x2), .val (.long (v0_a x0)), .second, .unset, .unset, .unset, .unset, .unset, .unset, .unset, .unset, .unset, .unset, .unset, .unset, .unset] 7 (hb hby at_5) rfl rfl ?_
  show Go p e below s _ _ _ (T0.setTop (mkF m 7 #[.val (.long x0), .second, .val (.long x1), .second, .val (.int x2), .val (.long (v0_a x0)), .second, .unset, .unset, .unset, .unset, .unset, .unset, .unset, .unset, .unset, .unset, .unset, .unset, .unset] []))
  refine g_iload X0 hx 9 (hb hby at_7) rfl rfl ?_
  show Go p e below s _ _ _ (T0.setTop (mkF m 9 #[.val (.long x0), .second, .val (.long x1), .second, .val (.int x2), .val (.long (v0_a x0)), .second, .unset, .unset, .unset, .unset, .unset, .unset, .unset, .unset, .unset, .unset, .unset, .unset, .unset] [(.int x2)]))
  refine g_iconst X0 hx (3 : Int32) 10 (hb hby at_9) rfl rfl ?_
  show Go p e below s _ _ _ (T0.setTop (mkF m 10 #[.val (.long x0), .second, .val (.long x1), .second, .val (.int x2), .val (.long (v0_a x0)), .second, .unset, .unset, .unset, .unset, .unset, .unset, .unset, .unset, .unset, .unset, .unset, .unset, .unset] [(.int (3 : Int32)), (.int x2)]))
  refine g_iand X0 hx 11 (hb hby at_10) rfl ?_
  show Go p e below s _ _ _ (T0.setTop (mkF m 11 #[.val (.long x0), .second, .val (.long x1), .second, .val (.int x2), .val (.long (v0_a x0)), .second, .unset, .unset, .unset, .unset, .unset, .unset, .unset, .unset, .unset, .unset, .unset, .unset, .unset] [(.int (x2 &&& (3 : Int32)))]))
  refine g_istore X0 hx #[.val (.long x0), .second, .val (.long x1), .second, .val (.int x2), .val (.long (v0_a x0)), .second, .unset, .unset, .val (.int (x2 &&& (3 : Int32))), .unset, .unset, .unset, .unset, .unset, .unset, .unset, .unset, .unset, .unset] 13 (hb hby at_11) rfl rfl ?_
  show Go p e below s _ _ _ (T0.setTop (mkF m 13 #[.val (.long x0), .second, .val (.long x1), .second, .val (.int x2), .val (.long (v0_a x0)), .second, .unset, .unset, .val (.int (x2 &&& (3 : Int32))), .unset, .unset, .unset, .unset, .unset, .unset, .unset, .unset, .unset, .unset] []))
  refine g_iload X0 hx 15 (hb hby at_13) rfl rfl ?_
  show Go p e below s _ _ _ (T0.setTop (mkF m 15 #[.val (.long x0), .second, .val (.long x1), .second, .val (.int x2), .val (.long (v0_a x0)), .second, .unset, .unset, .val (.int (x2 &&& (3 : Int32))), .unset, .unset, .unset, .unset, .unset, .unset, .unset, .unset, .unset, .unset] [(.int (x2 &&& (3 : Int32)))]))
  have J1 : Go p e below s (Q0 x0 x1 x2 h0) room_1.cells room_1.slots (T0.setTop (mkF m 76 #[.val (.long x0), .second, .val (.long x1), .second, .val (.int x2), .val (.long (v0_a x0)), .second, .val (.long (z0_76_l7_1 x0 x1 x2)), .second, .val (.int (x2 &&& (3 : Int32))), .unset, .unset, .unset, .unset, .unset, .unset, .unset, .unset, .unset, .unset] [])) := by
    refine g_lload X0 hx 78 (hb hby at_76) rfl rfl ?_
    show Go p e below s _ _ _ (T0.setTop (mkF m 78 #[.val (.long x0), .second, .val (.long x1), .second, .val (.int x2), .val (.long (v0_a x0)), .second, .val (.long (z0_76_l7_1 x0 x1 x2)), .second, .val (.int (x2 &&& (3 : Int32))), .unset, .unset, .unset, .unset, .unset, .unset, .unset, .unset, .unset, .unset] [(.long (z0_76_l7_1 x0 x1 x2))]))
    refine g_ldc2_w X0 hx hZ hown (hw _ (List.mem_of_getElem? (i := 0) rfl)) 81 (hb hby at_78) rfl ?_
    show Go p e below s _ _ _ (T0.setTop (mkF m 81 #[.val (.long x0), .second, .val (.long x1), .second, .val (.int x2), .val (.long (v0_a x0)), .second, .val (.long (z0_76_l7_1 x0 x1 x2)), .second, .val (.int (x2 &&& (3 : Int32))), .unset, .unset, .unset, .unset, .unset, .unset, .unset, .unset, .unset, .unset] [(.long (9223372036854775807 : Int64)), (.long (z0_76_l7_1 x0 x1 x2))]))
    refine g_land X0 hx 82 (hb hby at_81) rfl ?_
    show Go p e below s _ _ _ (T0.setTop (mkF m 82 #[.val (.long x0), .second, .val (.long x1), .second, .val (.int x2), .val (.long (v0_a x0)), .second, .val (.long (z0_76_l7_1 x0 x1 x2)), .second, .val (.int (x2 &&& (3 : Int32))), .unset, .unset, .unset, .unset, .unset, .unset, .unset, .unset, .unset, .unset] [(.long ((z0_76_l7_1 x0 x1 x2) &&& (9223372036854775807 : Int64)))]))
    refine g_lstore X0 hx #[.val (.long x0), .second, .val (.long x1), .second, .val (.int x2), .val (.long (v0_a x0)), .second, .val (.long (v0_b x0 x1 x2)), .second, .val (.int (x2 &&& (3 : Int32))), .unset, .unset, .unset, .unset, .unset, .unset, .unset, .unset, .unset, .unset] 84 (hb hby at_82) rfl rfl ?_
    show Go p e below s _ _ _ (T0.setTop (mkF m 84 #[.val (.long x0), .second, .val (.long x1), .second, .val (.int x2), .val (.long (v0_a x0)), .second, .val (.long (v0_b x0 x1 x2)), .second, .val (.int (x2 &&& (3 : Int32))), .unset, .unset, .unset, .unset, .unset, .unset, .unset, .unset, .unset, .unset] []))
    refine g_lload X0 hx 86 (hb hby at_84) rfl rfl ?_
    show Go p e below s _ _ _ (T0.setTop (mkF m 86 #[.val (.long x0), .second, .val (.long x1), .second, .val (.int x2), .val (.long (v0_a x0)), .second, .val (.long (v0_b x0 x1 x2)), .second, .val (.int (x2 &&& (3 : Int32))), .unset, .unset, .unset, .unset, .unset, .unset, .unset, .unset, .unset, .unset] [(.long (v0_a x0))]))
    refine g_callS X0 hx hZ hown (hw _ (List.mem_of_getElem? (i := 1) rfl)) (hw _ (List.mem_of_getElem? (i := 2) rfl)) (hw _ (List.mem_of_getElem? (i := 3) rfl)) (hw _ (List.mem_of_getElem? (i := 4) rfl)) (by decide) e0 (rm1 l Z a0 hw [] (v0_a x0) h0) [(.long (v0_a x0))] [] 0 rfl (lenOf pd__28J_29J rfl) rfl (Nat.le_of_eq rfl) (by decide) (by decide) (by decide) (by decide) (by rw [hml]; rfl) (hb hby at_86) ?_
    intro T2 L2 v2 X2 q2
    obtain ⟨rfl, rfl, e2⟩ := q2
    show Go p e below s _ _ _ (T2.setTop (mkF m 89 #[.val (.long x0), .second, .val (.long x1), .second, .val (.int x2), .val (.long (v0_a x0)), .second, .val (.long (v0_b x0 x1 x2)), .second, .val (.int (x2 &&& (3 : Int32))), .unset, .unset, .unset, .unset, .unset, .unset, .unset, .unset, .unset, .unset] [(.long (f1 (v0_a x0)))]))
    refine g_lstore X2 hx #[.val (.long x0), .second, .val (.long x1), .second, .val (.int x2), .val (.long (v0_a x0)), .second, .val (.long (v0_b x0 x1 x2)), .second, .val (.int (x2 &&& (3 : Int32))), .val (.long (f1 (v0_a x0))), .second, .unset, .unset, .unset, .unset, .unset, .unset, .unset, .unset] 91 (hb hby at_89) rfl rfl ?_
    show Go p e below s _ _ _ (T2.setTop (mkF m 91 #[.val (.long x0), .second, .val (.long x1), .second, .val (.int x2), .val (.long (v0_a x0)), .second, .val (.long (v0_b x0 x1 x2)), .second, .val (.int (x2 &&& (3 : Int32))), .val (.long (f1 (v0_a x0))), .second, .unset, .unset, .unset, .unset, .unset, .unset, .unset, .unset] []))
    refine g_lload X2 hx 93 (hb hby at_91) rfl rfl ?_
    show Go p e below s _ _ _ (T2.setTop (mkF m 93 #[.val (.long x0), .second, .val (.long x1), .second, .val (.int x2), .val (.long (v0_a x0)), .second, .val (.long (v0_b x0 x1 x2)), .second, .val (.int (x2 &&& (3 : Int32))), .val (.long (f1 (v0_a x0))), .second, .unset, .unset, .unset, .unset, .unset, .unset, .unset, .unset] [(.long (v0_b x0 x1 x2))]))
    refine g_callS X2 hx hZ hown (hw _ (List.mem_of_getElem? (i := 1) rfl)) (hw _ (List.mem_of_getElem? (i := 2) rfl)) (hw _ (List.mem_of_getElem? (i := 3) rfl)) (hw _ (List.mem_of_getElem? (i := 4) rfl)) (by decide) e2 (rm1 l Z a0 hw [] (v0_b x0 x1 x2) h0) [(.long (v0_b x0 x1 x2))] [] 0 rfl (lenOf pd__28J_29J rfl) rfl (Nat.le_of_eq rfl) (by decide) (by decide) (by decide) (by decide) (by rw [hml]; rfl) (hb hby at_93) ?_
    intro T3 L3 v3 X3 q3
    obtain ⟨rfl, rfl, e3⟩ := q3
    show Go p e below s _ _ _ (T3.setTop (mkF m 96 #[.val (.long x0), .second, .val (.long x1), .second, .val (.int x2), .val (.long (v0_a x0)), .second, .val (.long (v0_b x0 x1 x2)), .second, .val (.int (x2 &&& (3 : Int32))), .val (.long (f1 (v0_a x0))), .second, .unset, .unset, .unset, .unset, .unset, .unset, .unset, .unset] [(.long (f1 (v0_b x0 x1 x2)))]))
    refine g_lstore X3 hx #[.val (.long x0), .second, .val (.long x1), .second, .val (.int x2), .val (.long (v0_a x0)), .second, .val (.long (v0_b x0 x1 x2)), .second, .val (.int (x2 &&& (3 : Int32))), .val (.long (f1 (v0_a x0))), .second, .val (.long (f1 (v0_b x0 x1 x2))), .second, .unset, .unset, .unset, .unset, .unset, .unset] 98 (hb hby at_96) rfl rfl ?_
    show Go p e below s _ _ _ (T3.setTop (mkF m 98 #[.val (.long x0), .second, .val (.long x1), .second, .val (.int x2), .val (.long (v0_a x0)), .second, .val (.long (v0_b x0 x1 x2)), .second, .val (.int (x2 &&& (3 : Int32))), .val (.long (f1 (v0_a x0))), .second, .val (.long (f1 (v0_b x0 x1 x2))), .second, .unset, .unset, .unset, .unset, .unset, .unset] []))
    refine g_lconst X3 hx (0 : Int64) 99 (hb hby at_98) rfl rfl ?_
    show Go p e below s _ _ _ (T3.setTop (mkF m 99 #[.val (.long x0), .second, .val (.long x1), .second, .val (.int x2), .val (.long (v0_a x0)), .second, .val (.long (v0_b x0 x1 x2)), .second, .val (.int (x2 &&& (3 : Int32))), .val (.long (f1 (v0_a x0))), .second, .val (.long (f1 (v0_b x0 x1 x2))), .second, .unset, .unset, .unset, .unset, .unset, .unset] [(.long (0 : Int64))]))
    refine g_callS X3 hx hZ hown (hw _ (List.mem_of_getElem? (i := 1) rfl)) (hw _ (List.mem_of_getElem? (i := 2) rfl)) (hw _ (List.mem_of_getElem? (i := 3) rfl)) (hw _ (List.mem_of_getElem? (i := 4) rfl)) (by decide) e3 (rm1 l Z a0 hw [] (0 : Int64) h0) [(.long (0 : Int64))] [] 0 rfl (lenOf pd__28J_29J rfl) rfl (Nat.le_of_eq rfl) (by decide) (by decide) (by decide) (by decide) (by rw [hml]; rfl) (hb hby at_99) ?_
    intro T4 L4 v4 X4 q4
    obtain ⟨rfl, rfl, e4⟩ := q4
    show Go p e below s _ _ _ (T4.setTop (mkF m 102 #[.val (.long x0), .second, .val (.long x1), .second, .val (.int x2), .val (.long (v0_a x0)), .second, .val (.long (v0_b x0 x1 x2)), .second, .val (.int (x2 &&& (3 : Int32))), .val (.long (f1 (v0_a x0))), .second, .val (.long (f1 (v0_b x0 x1 x2))), .second, .unset, .unset, .unset, .unset, .unset, .unset] [(.long (f1 (0 : Int64)))]))
    refine g_lstore X4 hx #[.val (.long x0), .second, .val (.long x1), .second, .val (.int x2), .val (.long (v0_a x0)), .second, .val (.long (v0_b x0 x1 x2)), .second, .val (.int (x2 &&& (3 : Int32))), .val (.long (f1 (v0_a x0))), .second, .val (.long (f1 (v0_b x0 x1 x2))), .second, .val (.long (f1 (0 : Int64))), .second, .unset, .unset, .unset, .unset] 104 (hb hby at_102) rfl rfl ?_
    show Go p e below s _ _ _ (T4.setTop (mkF m 104 #[.val (.long x0), .second, .val (.long x1), .second, .val (.int x2), .val (.long (v0_a x0)), .second, .val (.long (v0_b x0 x1 x2)), .second, .val (.int (x2 &&& (3 : Int32))), .val (.long (f1 (v0_a x0))), .second, .val (.long (f1 (v0_b x0 x1 x2))), .second, .val (.long (f1 (0 : Int64))), .second, .unset, .unset, .unset, .unset] []))
    refine g_lload X4 hx 106 (hb hby at_104) rfl rfl ?_
    show Go p e below s _ _ _ (T4.setTop (mkF m 106 #[.val (.long x0), .second, .val (.long x1), .second, .val (.int x2), .val (.long (v0_a x0)), .second, .val (.long (v0_b x0 x1 x2)), .second, .val (.int (x2 &&& (3 : Int32))), .val (.long (f1 (v0_a x0))), .second, .val (.long (f1 (v0_b x0 x1 x2))), .second, .val (.long (f1 (0 : Int64))), .second, .unset, .unset, .unset, .unset] [(.long (f1 (v0_a x0)))]))
    refine g_lconst X4 hx (1 : Int64) 107 (hb hby at_106) rfl rfl ?_
    show Go p e below s _ _ _ (T4.setTop (mkF m 107 #[.val (.long x0), .second, .val (.long x1), .second, .val (.int x2), .val (.long (v0_a x0)), .second, .val (.long (v0_b x0 x1 x2)), .second, .val (.int (x2 &&& (3 : Int32))), .val (.long (f1 (v0_a x0))), .second, .val (.long (f1 (v0_b x0 x1 x2))), .second, .val (.long (f1 (0 : Int64))), .second, .unset, .unset, .unset, .unset] [(.long (1 : Int64)), (.long (f1 (v0_a x0)))]))
    refine g_land X4 hx 108 (hb hby at_107) rfl ?_
    show Go p e below s _ _ _ (T4.setTop (mkF m 108 #[.val (.long x0), .second, .val (.long x1), .second, .val (.int x2), .val (.long (v0_a x0)), .second, .val (.long (v0_b x0 x1 x2)), .second, .val (.int (x2 &&& (3 : Int32))), .val (.long (f1 (v0_a x0))), .second, .val (.long (f1 (v0_b x0 x1 x2))), .second, .val (.long (f1 (0 : Int64))), .second, .unset, .unset, .unset, .unset] [(.long ((f1 (v0_a x0)) &&& (1 : Int64)))]))
    refine g_lconst X4 hx (1 : Int64) 109 (hb hby at_108) rfl rfl ?_
    show Go p e below s _ _ _ (T4.setTop (mkF m 109 #[.val (.long x0), .second, .val (.long x1), .second, .val (.int x2), .val (.long (v0_a x0)), .second, .val (.long (v0_b x0 x1 x2)), .second, .val (.int (x2 &&& (3 : Int32))), .val (.long (f1 (v0_a x0))), .second, .val (.long (f1 (v0_b x0 x1 x2))), .second, .val (.long (f1 (0 : Int64))), .second, .unset, .unset, .unset, .unset] [(.long (1 : Int64)), (.long ((f1 (v0_a x0)) &&& (1 : Int64)))]))
    refine g_lcmp X4 hx 110 (hb hby at_109) rfl ?_
    show Go p e below s _ _ _ (T4.setTop (mkF m 110 #[.val (.long x0), .second, .val (.long x1), .second, .val (.int x2), .val (.long (v0_a x0)), .second, .val (.long (v0_b x0 x1 x2)), .second, .val (.int (x2 &&& (3 : Int32))), .val (.long (f1 (v0_a x0))), .second, .val (.long (f1 (v0_b x0 x1 x2))), .second, .val (.long (f1 (0 : Int64))), .second, .unset, .unset, .unset, .unset] [(.int (lcmpW ((f1 (v0_a x0)) &&& (1 : Int64)) (1 : Int64)))]))
    have J5 : Go p e below s (Q0 x0 x1 x2 h0) room_1.cells room_1.slots (T4.setTop (mkF m 127 #[.val (.long x0), .second, .val (.long x1), .second, .val (.int x2), .val (.long (v0_a x0)), .second, .val (.long (v0_b x0 x1 x2)), .second, .val (.int (x2 &&& (3 : Int32))), .val (.long (f1 (v0_a x0))), .second, .val (.long (f1 (v0_b x0 x1 x2))), .second, .val (.long (f1 (0 : Int64))), .second, .unset, .unset, .unset, .unset] [(.int (z0_127_s0_5 x0 x1 x2))])) := by
      refine g_istore X4 hx #[.val (.long x0), .second, .val (.long x1), .second, .val (.int x2), .val (.long (v0_a x0)), .second, .val (.long (v0_b x0 x1 x2)), .second, .val (.int (x2 &&& (3 : Int32))), .val (.long (f1 (v0_a x0))), .second, .val (.long (f1 (v0_b x0 x1 x2))), .second, .val (.long (f1 (0 : Int64))), .second, .val (.int (z0_127_s0_5 x0 x1 x2)), .unset, .unset, .unset] 129 (hb hby at_127) rfl rfl ?_
      show Go p e below s _ _ _ (T4.setTop (mkF m 129 #[.val (.long x0), .second, .val (.long x1), .second, .val (.int x2), .val (.long (v0_a x0)), .second, .val (.long (v0_b x0 x1 x2)), .second, .val (.int (x2 &&& (3 : Int32))), .val (.long (f1 (v0_a x0))), .second, .val (.long (f1 (v0_b x0 x1 x2))), .second, .val (.long (f1 (0 : Int64))), .second, .val (.int (z0_127_s0_5 x0 x1 x2)), .unset, .unset, .unset] []))
      refine g_lload X4 hx 131 (hb hby at_129) rfl rfl ?_
      show Go p e below s _ _ _ (T4.setTop (mkF m 131 #[.val (.long x0), .second, .val (.long x1), .second, .val (.int x2), .val (.long (v0_a x0)), .second, .val (.long (v0_b x0 x1 x2)), .second, .val (.int (x2 &&& (3 : Int32))), .val (.long (f1 (v0_a x0))), .second, .val (.long (f1 (v0_b x0 x1 x2))), .second, .val (.long (f1 (0 : Int64))), .second, .val (.int (z0_127_s0_5 x0 x1 x2)), .unset, .unset, .unset] [(.long (f1 (0 : Int64)))]))
      refine g_ldc2_w X4 hx hZ hown (hw _ (List.mem_of_getElem? (i := 10) rfl)) 134 (hb hby at_131) rfl ?_
      show Go p e below s _ _ _ (T4.setTop (mkF m 134 #[.val (.long x0), .second, .val (.long x1), .second, .val (.int x2), .val (.long (v0_a x0)), .second, .val (.long (v0_b x0 x1 x2)), .second, .val (.int (x2 &&& (3 : Int32))), .val (.long (f1 (v0_a x0))), .second, .val (.long (f1 (v0_b x0 x1 x2))), .second, .val (.long (f1 (0 : Int64))), .second, .val (.int (z0_127_s0_5 x0 x1 x2)), .unset, .unset, .unset] [(.long (-7046029254386353131 : Int64)), (.long (f1 (0 : Int64)))]))
      refine g_lcmp X4 hx 135 (hb hby at_134) rfl ?_
      show Go p e below s _ _ _ (T4.setTop (mkF m 135 #[.val (.long x0), .second, .val (.long x1), .second, .val (.int x2), .val (.long (v0_a x0)), .second, .val (.long (v0_b x0 x1 x2)), .second, .val (.int (x2 &&& (3 : Int32))), .val (.long (f1 (v0_a x0))), .second, .val (.long (f1 (v0_b x0 x1 x2))), .second, .val (.long (f1 (0 : Int64))), .second, .val (.int (z0_127_s0_5 x0 x1 x2)), .unset, .unset, .unset] [(.int (lcmpW (f1 (0 : Int64)) (-7046029254386353131 : Int64)))]))
      have J6 : Go p e below s (Q0 x0 x1 x2 h0) room_1.cells room_1.slots (T4.setTop (mkF m 143 #[.val (.long x0), .second, .val (.long x1), .second, .val (.int x2), .val (.long (v0_a x0)), .second, .val (.long (v0_b x0 x1 x2)), .second, .val (.int (x2 &&& (3 : Int32))), .val (.long (f1 (v0_a x0))), .second, .val (.long (f1 (v0_b x0 x1 x2))), .second, .val (.long (f1 (0 : Int64))), .second, .val (.int (z0_127_s0_5 x0 x1 x2)), .unset, .unset, .unset] [(.int z0_143_s0_6)])) := by
        refine g_istore X4 hx #[.val (.long x0), .second, .val (.long x1), .second, .val (.int x2), .val (.long (v0_a x0)), .second, .val (.long (v0_b x0 x1 x2)), .second, .val (.int (x2 &&& (3 : Int32))), .val (.long (f1 (v0_a x0))), .second, .val (.long (f1 (v0_b x0 x1 x2))), .second, .val (.long (f1 (0 : Int64))), .second, .val (.int (z0_127_s0_5 x0 x1 x2)), .val (.int z0_143_s0_6), .unset, .unset] 145 (hb hby at_143) rfl rfl ?_
        show Go p e below s _ _ _ (T4.setTop (mkF m 145 #[.val (.long x0), .second, .val (.long x1), .second, .val (.int x2), .val (.long (v0_a x0)), .second, .val (.long (v0_b x0 x1 x2)), .second, .val (.int (x2 &&& (3 : Int32))), .val (.long (f1 (v0_a x0))), .second, .val (.long (f1 (v0_b x0 x1 x2))), .second, .val (.long (f1 (0 : Int64))), .second, .val (.int (z0_127_s0_5 x0 x1 x2)), .val (.int z0_143_s0_6), .unset, .unset] []))
        refine g_lload X4 hx 147 (hb hby at_145) rfl rfl ?_
        show Go p e below s _ _ _ (T4.setTop (mkF m 147 #[.val (.long x0), .second, .val (.long x1), .second, .val (.int x2), .val (.long (v0_a x0)), .second, .val (.long (v0_b x0 x1 x2)), .second, .val (.int (x2 &&& (3 : Int32))), .val (.long (f1 (v0_a x0))), .second, .val (.long (f1 (v0_b x0 x1 x2))), .second, .val (.long (f1 (0 : Int64))), .second, .val (.int (z0_127_s0_5 x0 x1 x2)), .val (.int z0_143_s0_6), .unset, .unset] [(.long (f1 (v0_a x0)))]))
        refine g_lload X4 hx 149 (hb hby at_147) rfl rfl ?_
        show Go p e below s _ _ _ (T4.setTop (mkF m 149 #[.val (.long x0), .second, .val (.long x1), .second, .val (.int x2), .val (.long (v0_a x0)), .second, .val (.long (v0_b x0 x1 x2)), .second, .val (.int (x2 &&& (3 : Int32))), .val (.long (f1 (v0_a x0))), .second, .val (.long (f1 (v0_b x0 x1 x2))), .second, .val (.long (f1 (0 : Int64))), .second, .val (.int (z0_127_s0_5 x0 x1 x2)), .val (.int z0_143_s0_6), .unset, .unset] [(.long (f1 (v0_b x0 x1 x2))), (.long (f1 (v0_a x0)))]))
        refine g_lcmp X4 hx 150 (hb hby at_149) rfl ?_
        show Go p e below s _ _ _ (T4.setTop (mkF m 150 #[.val (.long x0), .second, .val (.long x1), .second, .val (.int x2), .val (.long (v0_a x0)), .second, .val (.long (v0_b x0 x1 x2)), .second, .val (.int (x2 &&& (3 : Int32))), .val (.long (f1 (v0_a x0))), .second, .val (.long (f1 (v0_b x0 x1 x2))), .second, .val (.long (f1 (0 : Int64))), .second, .val (.int (z0_127_s0_5 x0 x1 x2)), .val (.int z0_143_s0_6), .unset, .unset] [(.int (lcmpW (f1 (v0_a x0)) (f1 (v0_b x0 x1 x2))))]))
        have J7 : Go p e below s (Q0 x0 x1 x2 h0) room_1.cells room_1.slots (T4.setTop (mkF m 158 #[.val (.long x0), .second, .val (.long x1), .second, .val (.int x2), .val (.long (v0_a x0)), .second, .val (.long (v0_b x0 x1 x2)), .second, .val (.int (x2 &&& (3 : Int32))), .val (.long (f1 (v0_a x0))), .second, .val (.long (f1 (v0_b x0 x1 x2))), .second, .val (.long (f1 (0 : Int64))), .second, .val (.int (z0_127_s0_5 x0 x1 x2)), .val (.int z0_143_s0_6), .unset, .unset] [(.int (z0_158_s0_7 x0 x1 x2))])) := by
          refine g_lload X4 hx 160 (hb hby at_158) rfl rfl ?_
          show Go p e below s _ _ _ (T4.setTop (mkF m 160 #[.val (.long x0), .second, .val (.long x1), .second, .val (.int x2), .val (.long (v0_a x0)), .second, .val (.long (v0_b x0 x1 x2)), .second, .val (.int (x2 &&& (3 : Int32))), .val (.long (f1 (v0_a x0))), .second, .val (.long (f1 (v0_b x0 x1 x2))), .second, .val (.long (f1 (0 : Int64))), .second, .val (.int (z0_127_s0_5 x0 x1 x2)), .val (.int z0_143_s0_6), .unset, .unset] [(.long (v0_a x0)), (.int (z0_158_s0_7 x0 x1 x2))]))
          refine g_lload X4 hx 162 (hb hby at_160) rfl rfl ?_
          show Go p e below s _ _ _ (T4.setTop (mkF m 162 #[.val (.long x0), .second, .val (.long x1), .second, .val (.int x2), .val (.long (v0_a x0)), .second, .val (.long (v0_b x0 x1 x2)), .second, .val (.int (x2 &&& (3 : Int32))), .val (.long (f1 (v0_a x0))), .second, .val (.long (f1 (v0_b x0 x1 x2))), .second, .val (.long (f1 (0 : Int64))), .second, .val (.int (z0_127_s0_5 x0 x1 x2)), .val (.int z0_143_s0_6), .unset, .unset] [(.long (v0_b x0 x1 x2)), (.long (v0_a x0)), (.int (z0_158_s0_7 x0 x1 x2))]))
          refine g_lcmp X4 hx 163 (hb hby at_162) rfl ?_
          show Go p e below s _ _ _ (T4.setTop (mkF m 163 #[.val (.long x0), .second, .val (.long x1), .second, .val (.int x2), .val (.long (v0_a x0)), .second, .val (.long (v0_b x0 x1 x2)), .second, .val (.int (x2 &&& (3 : Int32))), .val (.long (f1 (v0_a x0))), .second, .val (.long (f1 (v0_b x0 x1 x2))), .second, .val (.long (f1 (0 : Int64))), .second, .val (.int (z0_127_s0_5 x0 x1 x2)), .val (.int z0_143_s0_6), .unset, .unset] [(.int (lcmpW (v0_a x0) (v0_b x0 x1 x2))), (.int (z0_158_s0_7 x0 x1 x2))]))
          have J8 : Go p e below s (Q0 x0 x1 x2 h0) room_1.cells room_1.slots (T4.setTop (mkF m 171 #[.val (.long x0), .second, .val (.long x1), .second, .val (.int x2), .val (.long (v0_a x0)), .second, .val (.long (v0_b x0 x1 x2)), .second, .val (.int (x2 &&& (3 : Int32))), .val (.long (f1 (v0_a x0))), .second, .val (.long (f1 (v0_b x0 x1 x2))), .second, .val (.long (f1 (0 : Int64))), .second, .val (.int (z0_127_s0_5 x0 x1 x2)), .val (.int z0_143_s0_6), .unset, .unset] [(.int (z0_171_s0_8 x0 x1 x2)), (.int (z0_158_s0_7 x0 x1 x2))])) := by
            have J9 : Go p e below s (Q0 x0 x1 x2 h0) room_1.cells room_1.slots (T4.setTop (mkF m 179 #[.val (.long x0), .second, .val (.long x1), .second, .val (.int x2), .val (.long (v0_a x0)), .second, .val (.long (v0_b x0 x1 x2)), .second, .val (.int (x2 &&& (3 : Int32))), .val (.long (f1 (v0_a x0))), .second, .val (.long (f1 (v0_b x0 x1 x2))), .second, .val (.long (f1 (0 : Int64))), .second, .val (.int (z0_127_s0_5 x0 x1 x2)), .val (.int z0_143_s0_6), .unset, .unset] [(.int (z0_179_s0_9 x0 x1 x2))])) := by
              refine g_istore X4 hx #[.val (.long x0), .second, .val (.long x1), .second, .val (.int x2), .val (.long (v0_a x0)), .second, .val (.long (v0_b x0 x1 x2)), .second, .val (.int (x2 &&& (3 : Int32))), .val (.long (f1 (v0_a x0))), .second, .val (.long (f1 (v0_b x0 x1 x2))), .second, .val (.long (f1 (0 : Int64))), .second, .val (.int (z0_127_s0_5 x0 x1 x2)), .val (.int z0_143_s0_6), .val (.int (z0_179_s0_9 x0 x1 x2)), .unset] 181 (hb hby at_179) rfl rfl ?_
              show Go p e below s _ _ _ (T4.setTop (mkF m 181 #[.val (.long x0), .second, .val (.long x1), .second, .val (.int x2), .val (.long (v0_a x0)), .second, .val (.long (v0_b x0 x1 x2)), .second, .val (.int (x2 &&& (3 : Int32))), .val (.long (f1 (v0_a x0))), .second, .val (.long (f1 (v0_b x0 x1 x2))), .second, .val (.long (f1 (0 : Int64))), .second, .val (.int (z0_127_s0_5 x0 x1 x2)), .val (.int z0_143_s0_6), .val (.int (z0_179_s0_9 x0 x1 x2)), .unset] []))
              refine g_lload X4 hx 183 (hb hby at_181) rfl rfl ?_
              show Go p e below s _ _ _ (T4.setTop (mkF m 183 #[.val (.long x0), .second, .val (.long x1), .second, .val (.int x2), .val (.long (v0_a x0)), .second, .val (.long (v0_b x0 x1 x2)), .second, .val (.int (x2 &&& (3 : Int32))), .val (.long (f1 (v0_a x0))), .second, .val (.long (f1 (v0_b x0 x1 x2))), .second, .val (.long (f1 (0 : Int64))), .second, .val (.int (z0_127_s0_5 x0 x1 x2)), .val (.int z0_143_s0_6), .val (.int (z0_179_s0_9 x0 x1 x2)), .unset] [(.long (f1 (v0_a x0)))]))
              refine g_ldc2_w X4 hx hZ hown (hw _ (List.mem_of_getElem? (i := 10) rfl)) 186 (hb hby at_183) rfl ?_
              show Go p e below s _ _ _ (T4.setTop (mkF m 186 #[.val (.long x0), .second, .val (.long x1), .second, .val (.int x2), .val (.long (v0_a x0)), .second, .val (.long (v0_b x0 x1 x2)), .second, .val (.int (x2 &&& (3 : Int32))), .val (.long (f1 (v0_a x0))), .second, .val (.long (f1 (v0_b x0 x1 x2))), .second, .val (.long (f1 (0 : Int64))), .second, .val (.int (z0_127_s0_5 x0 x1 x2)), .val (.int z0_143_s0_6), .val (.int (z0_179_s0_9 x0 x1 x2)), .unset] [(.long (-7046029254386353131 : Int64)), (.long (f1 (v0_a x0)))]))
              refine g_lcmp X4 hx 187 (hb hby at_186) rfl ?_
              show Go p e below s _ _ _ (T4.setTop (mkF m 187 #[.val (.long x0), .second, .val (.long x1), .second, .val (.int x2), .val (.long (v0_a x0)), .second, .val (.long (v0_b x0 x1 x2)), .second, .val (.int (x2 &&& (3 : Int32))), .val (.long (f1 (v0_a x0))), .second, .val (.long (f1 (v0_b x0 x1 x2))), .second, .val (.long (f1 (0 : Int64))), .second, .val (.int (z0_127_s0_5 x0 x1 x2)), .val (.int z0_143_s0_6), .val (.int (z0_179_s0_9 x0 x1 x2)), .unset] [(.int (lcmpW (f1 (v0_a x0)) (-7046029254386353131 : Int64)))]))
              have J10 : Go p e below s (Q0 x0 x1 x2 h0) room_1.cells room_1.slots (T4.setTop (mkF m 195 #[.val (.long x0), .second, .val (.long x1), .second, .val (.int x2), .val (.long (v0_a x0)), .second, .val (.long (v0_b x0 x1 x2)), .second, .val (.int (x2 &&& (3 : Int32))), .val (.long (f1 (v0_a x0))), .second, .val (.long (f1 (v0_b x0 x1 x2))), .second, .val (.long (f1 (0 : Int64))), .second, .val (.int (z0_127_s0_5 x0 x1 x2)), .val (.int z0_143_s0_6), .val (.int (z0_179_s0_9 x0 x1 x2)), .unset] [(.int (z0_195_s0_10 x0))])) := by
                refine g_lload X4 hx 197 (hb hby at_195) rfl rfl ?_
                show Go p e below s _ _ _ (T4.setTop (mkF m 197 #[.val (.long x0), .second, .val (.long x1), .second, .val (.int x2), .val (.long (v0_a x0)), .second, .val (.long (v0_b x0 x1 x2)), .second, .val (.int (x2 &&& (3 : Int32))), .val (.long (f1 (v0_a x0))), .second, .val (.long (f1 (v0_b x0 x1 x2))), .second, .val (.long (f1 (0 : Int64))), .second, .val (.int (z0_127_s0_5 x0 x1 x2)), .val (.int z0_143_s0_6), .val (.int (z0_179_s0_9 x0 x1 x2)), .unset] [(.long (v0_a x0)), (.int (z0_195_s0_10 x0))]))
                refine g_lconst X4 hx (0 : Int64) 198 (hb hby at_197) rfl rfl ?_
                show Go p e below s _ _ _ (T4.setTop (mkF m 198 #[.val (.long x0), .second, .val (.long x1), .second, .val (.int x2), .val (.long (v0_a x0)), .second, .val (.long (v0_b x0 x1 x2)), .second, .val (.int (x2 &&& (3 : Int32))), .val (.long (f1 (v0_a x0))), .second, .val (.long (f1 (v0_b x0 x1 x2))), .second, .val (.long (f1 (0 : Int64))), .second, .val (.int (z0_127_s0_5 x0 x1 x2)), .val (.int z0_143_s0_6), .val (.int (z0_179_s0_9 x0 x1 x2)), .unset] [(.long (0 : Int64)), (.long (v0_a x0)), (.int (z0_195_s0_10 x0))]))
                refine g_lcmp X4 hx 199 (hb hby at_198) rfl ?_
                show Go p e below s _ _ _ (T4.setTop (mkF m 199 #[.val (.long x0), .second, .val (.long x1), .second, .val (.int x2), .val (.long (v0_a x0)), .second, .val (.long (v0_b x0 x1 x2)), .second, .val (.int (x2 &&& (3 : Int32))), .val (.long (f1 (v0_a x0))), .second, .val (.long (f1 (v0_b x0 x1 x2))), .second, .val (.long (f1 (0 : Int64))), .second, .val (.int (z0_127_s0_5 x0 x1 x2)), .val (.int z0_143_s0_6), .val (.int (z0_179_s0_9 x0 x1 x2)), .unset] [(.int (lcmpW (v0_a x0) (0 : Int64))), (.int (z0_195_s0_10 x0))]))
                have J11 : Go p e below s (Q0 x0 x1 x2 h0) room_1.cells room_1.slots (T4.setTop (mkF m 207 #[.val (.long x0), .second, .val (.long x1), .second, .val (.int x2), .val (.long (v0_a x0)), .second, .val (.long (v0_b x0 x1 x2)), .second, .val (.int (x2 &&& (3 : Int32))), .val (.long (f1 (v0_a x0))), .second, .val (.long (f1 (v0_b x0 x1 x2))), .second, .val (.long (f1 (0 : Int64))), .second, .val (.int (z0_127_s0_5 x0 x1 x2)), .val (.int z0_143_s0_6), .val (.int (z0_179_s0_9 x0 x1 x2)), .unset] [(.int (z0_207_s0_11 x0)), (.int (z0_195_s0_10 x0))])) := by
                  have J12 : Go p e below s (Q0 x0 x1 x2 h0) room_1.cells room_1.slots (T4.setTop (mkF m 215 #[.val (.long x0), .second, .val (.long x1), .second, .val (.int x2), .val (.long (v0_a x0)), .second, .val (.long (v0_b x0 x1 x2)), .second, .val (.int (x2 &&& (3 : Int32))), .val (.long (f1 (v0_a x0))), .second, .val (.long (f1 (v0_b x0 x1 x2))), .second, .val (.long (f1 (0 : Int64))), .second, .val (.int (z0_127_s0_5 x0 x1 x2)), .val (.int z0_143_s0_6), .val (.int (z0_179_s0_9 x0 x1 x2)), .unset] [(.int (z0_215_s0_12 x0))])) := by
                    refine g_istore X4 hx #[.val (.long x0), .second, .val (.long x1), .second, .val (.int x2), .val (.long (v0_a x0)), .second, .val (.long (v0_b x0 x1 x2)), .second, .val (.int (x2 &&& (3 : Int32))), .val (.long (f1 (v0_a x0))), .second, .val (.long (f1 (v0_b x0 x1 x2))), .second, .val (.long (f1 (0 : Int64))), .second, .val (.int (z0_127_s0_5 x0 x1 x2)), .val (.int z0_143_s0_6), .val (.int (z0_179_s0_9 x0 x1 x2)), .val (.int (z0_215_s0_12 x0))] 217 (hb hby at_215) rfl rfl ?_
                    show Go p e below s _ _ _ (T4.setTop (mkF m 217 #[.val (.long x0), .second, .val (.long x1), .second, .val (.int x2), .val (.long (v0_a x0)), .second, .val (.long (v0_b x0 x1 x2)), .second, .val (.int (x2 &&& (3 : Int32))), .val (.long (f1 (v0_a x0))), .second, .val (.long (f1 (v0_b x0 x1 x2))), .second, .val (.long (f1 (0 : Int64))), .second, .val (.int (z0_127_s0_5 x0 x1 x2)), .val (.int z0_143_s0_6), .val (.int (z0_179_s0_9 x0 x1 x2)), .val (.int (z0_215_s0_12 x0))] []))
                    refine g_iload X4 hx 219 (hb hby at_217) rfl rfl ?_
                    show Go p e below s _ _ _ (T4.setTop (mkF m 219 #[.val (.long x0), .second, .val (.long x1), .second, .val (.int x2), .val (.long (v0_a x0)), .second, .val (.long (v0_b x0 x1 x2)), .second, .val (.int (x2 &&& (3 : Int32))), .val (.long (f1 (v0_a x0))), .second, .val (.long (f1 (v0_b x0 x1 x2))), .second, .val (.long (f1 (0 : Int64))), .second, .val (.int (z0_127_s0_5 x0 x1 x2)), .val (.int z0_143_s0_6), .val (.int (z0_179_s0_9 x0 x1 x2)), .val (.int (z0_215_s0_12 x0))] [(.int (z0_127_s0_5 x0 x1 x2))]))
                    refine g_if0_eq X4 hx 241 222 (hb hby at_219) (by decide) rfl rfl (fun h13 => ?_) (fun h13 => ?_)
                    · show Go p e below s _ _ _ (T4.setTop (mkF m 241 #[.val (.long x0), .second, .val (.long x1), .second, .val (.int x2), .val (.long (v0_a x0)), .second, .val (.long (v0_b x0 x1 x2)), .second, .val (.int (x2 &&& (3 : Int32))), .val (.long (f1 (v0_a x0))), .second, .val (.long (f1 (v0_b x0 x1 x2))), .second, .val (.long (f1 (0 : Int64))), .second, .val (.int (z0_127_s0_5 x0 x1 x2)), .val (.int z0_143_s0_6), .val (.int (z0_179_s0_9 x0 x1 x2)), .val (.int (z0_215_s0_12 x0))] []))
                      refine g_iconst X4 hx (0 : Int32) 242 (hb hby at_241) rfl rfl ?_
                      show Go p e below s _ _ _ (T4.setTop (mkF m 242 #[.val (.long x0), .second, .val (.long x1), .second, .val (.int x2), .val (.long (v0_a x0)), .second, .val (.long (v0_b x0 x1 x2)), .second, .val (.int (x2 &&& (3 : Int32))), .val (.long (f1 (v0_a x0))), .second, .val (.long (f1 (v0_b x0 x1 x2))), .second, .val (.long (f1 (0 : Int64))), .second, .val (.int (z0_127_s0_5 x0 x1 x2)), .val (.int z0_143_s0_6), .val (.int (z0_179_s0_9 x0 x1 x2)), .val (.int (z0_215_s0_12 x0))] [(.int (0 : Int32))]))
                      exact g_retN X4 hx hret (by simp) hlk (hb hby at_242) (by decide) (by decide) ⟨congrArg (fun z => some (Value.int z)) (show (0 : Int32) = (f0 x0 x1 x2) from by rw [f0, if_pos h13]), rfl, e4⟩
                    · show Go p e below s _ _ _ (T4.setTop (mkF m 222 #[.val (.long x0), .second, .val (.long x1), .second, .val (.int x2), .val (.long (v0_a x0)), .second, .val (.long (v0_b x0 x1 x2)), .second, .val (.int (x2 &&& (3 : Int32))), .val (.long (f1 (v0_a x0))), .second, .val (.long (f1 (v0_b x0 x1 x2))), .second, .val (.long (f1 (0 : Int64))), .second, .val (.int (z0_127_s0_5 x0 x1 x2)), .val (.int z0_143_s0_6), .val (.int (z0_179_s0_9 x0 x1 x2)), .val (.int (z0_215_s0_12 x0))] []))
                      refine g_iload X4 hx 224 (hb hby at_222) rfl rfl ?_
                      show Go p e below s _ _ _ (T4.setTop (mkF m 224 #[.val (.long x0), .second, .val (.long x1), .second, .val (.int x2), .val (.long (v0_a x0)), .second, .val (.long (v0_b x0 x1 x2)), .second, .val (.int (x2 &&& (3 : Int32))), .val (.long (f1 (v0_a x0))), .second, .val (.long (f1 (v0_b x0 x1 x2))), .second, .val (.long (f1 (0 : Int64))), .second, .val (.int (z0_127_s0_5 x0 x1 x2)), .val (.int z0_143_s0_6), .val (.int (z0_179_s0_9 x0 x1 x2)), .val (.int (z0_215_s0_12 x0))] [(.int z0_143_s0_6)]))
                      refine g_if0_eq X4 hx 241 227 (hb hby at_224) (by decide) rfl rfl (fun h14 => ?_) (fun h14 => ?_)
                      · show Go p e below s _ _ _ (T4.setTop (mkF m 241 #[.val (.long x0), .second, .val (.long x1), .second, .val (.int x2), .val (.long (v0_a x0)), .second, .val (.long (v0_b x0 x1 x2)), .second, .val (.int (x2 &&& (3 : Int32))), .val (.long (f1 (v0_a x0))), .second, .val (.long (f1 (v0_b x0 x1 x2))), .second, .val (.long (f1 (0 : Int64))), .second, .val (.int (z0_127_s0_5 x0 x1 x2)), .val (.int z0_143_s0_6), .val (.int (z0_179_s0_9 x0 x1 x2)), .val (.int (z0_215_s0_12 x0))] []))
                        refine g_iconst X4 hx (0 : Int32) 242 (hb hby at_241) rfl rfl ?_
                        show Go p e below s _ _ _ (T4.setTop (mkF m 242 #[.val (.long x0), .second, .val (.long x1), .second, .val (.int x2), .val (.long (v0_a x0)), .second, .val (.long (v0_b x0 x1 x2)), .second, .val (.int (x2 &&& (3 : Int32))), .val (.long (f1 (v0_a x0))), .second, .val (.long (f1 (v0_b x0 x1 x2))), .second, .val (.long (f1 (0 : Int64))), .second, .val (.int (z0_127_s0_5 x0 x1 x2)), .val (.int z0_143_s0_6), .val (.int (z0_179_s0_9 x0 x1 x2)), .val (.int (z0_215_s0_12 x0))] [(.int (0 : Int32))]))
                        exact g_retN X4 hx hret (by simp) hlk (hb hby at_242) (by decide) (by decide) ⟨congrArg (fun z => some (Value.int z)) (show (0 : Int32) = (f0 x0 x1 x2) from by rw [f0, if_neg h13, if_pos h14]), rfl, e4⟩
                      · show Go p e below s _ _ _ (T4.setTop (mkF m 227 #[.val (.long x0), .second, .val (.long x1), .second, .val (.int x2), .val (.long (v0_a x0)), .second, .val (.long (v0_b x0 x1 x2)), .second, .val (.int (x2 &&& (3 : Int32))), .val (.long (f1 (v0_a x0))), .second, .val (.long (f1 (v0_b x0 x1 x2))), .second, .val (.long (f1 (0 : Int64))), .second, .val (.int (z0_127_s0_5 x0 x1 x2)), .val (.int z0_143_s0_6), .val (.int (z0_179_s0_9 x0 x1 x2)), .val (.int (z0_215_s0_12 x0))] []))
                        refine g_iload X4 hx 229 (hb hby at_227) rfl rfl ?_
                        show Go p e below s _ _ _ (T4.setTop (mkF m 229 #[.val (.long x0), .second, .val (.long x1), .second, .val (.int x2), .val (.long (v0_a x0)), .second, .val (.long (v0_b x0 x1 x2)), .second, .val (.int (x2 &&& (3 : Int32))), .val (.long (f1 (v0_a x0))), .second, .val (.long (f1 (v0_b x0 x1 x2))), .second, .val (.long (f1 (0 : Int64))), .second, .val (.int (z0_127_s0_5 x0 x1 x2)), .val (.int z0_143_s0_6), .val (.int (z0_179_s0_9 x0 x1 x2)), .val (.int (z0_215_s0_12 x0))] [(.int (z0_179_s0_9 x0 x1 x2))]))
                        refine g_if0_eq X4 hx 241 232 (hb hby at_229) (by decide) rfl rfl (fun h15 => ?_) (fun h15 => ?_)
                        · show Go p e below s _ _ _ (T4.setTop (mkF m 241 #[.val (.long x0), .second, .val (.long x1), .second, .val (.int x2), .val (.long (v0_a x0)), .second, .val (.long (v0_b x0 x1 x2)), .second, .val (.int (x2 &&& (3 : Int32))), .val (.long (f1 (v0_a x0))), .second, .val (.long (f1 (v0_b x0 x1 x2))), .second, .val (.long (f1 (0 : Int64))), .second, .val (.int (z0_127_s0_5 x0 x1 x2)), .val (.int z0_143_s0_6), .val (.int (z0_179_s0_9 x0 x1 x2)), .val (.int (z0_215_s0_12 x0))] []))
                          refine g_iconst X4 hx (0 : Int32) 242 (hb hby at_241) rfl rfl ?_
                          show Go p e below s _ _ _ (T4.setTop (mkF m 242 #[.val (.long x0), .second, .val (.long x1), .second, .val (.int x2), .val (.long (v0_a x0)), .second, .val (.long (v0_b x0 x1 x2)), .second, .val (.int (x2 &&& (3 : Int32))), .val (.long (f1 (v0_a x0))), .second, .val (.long (f1 (v0_b x0 x1 x2))), .second, .val (.long (f1 (0 : Int64))), .second, .val (.int (z0_127_s0_5 x0 x1 x2)), .val (.int z0_143_s0_6), .val (.int (z0_179_s0_9 x0 x1 x2)), .val (.int (z0_215_s0_12 x0))] [(.int (0 : Int32))]))
                          exact g_retN X4 hx hret (by simp) hlk (hb hby at_242) (by decide) (by decide) ⟨congrArg (fun z => some (Value.int z)) (show (0 : Int32) = (f0 x0 x1 x2) from by rw [f0, if_neg h13, if_neg h14, if_pos h15]), rfl, e4⟩
                        · show Go p e below s _ _ _ (T4.setTop (mkF m 232 #[.val (.long x0), .second, .val (.long x1), .second, .val (.int x2), .val (.long (v0_a x0)), .second, .val (.long (v0_b x0 x1 x2)), .second, .val (.int (x2 &&& (3 : Int32))), .val (.long (f1 (v0_a x0))), .second, .val (.long (f1 (v0_b x0 x1 x2))), .second, .val (.long (f1 (0 : Int64))), .second, .val (.int (z0_127_s0_5 x0 x1 x2)), .val (.int z0_143_s0_6), .val (.int (z0_179_s0_9 x0 x1 x2)), .val (.int (z0_215_s0_12 x0))] []))
                          refine g_iload X4 hx 234 (hb hby at_232) rfl rfl ?_
                          show Go p e below s _ _ _ (T4.setTop (mkF m 234 #[.val (.long x0), .second, .val (.long x1), .second, .val (.int x2), .val (.long (v0_a x0)), .second, .val (.long (v0_b x0 x1 x2)), .second, .val (.int (x2 &&& (3 : Int32))), .val (.long (f1 (v0_a x0))), .second, .val (.long (f1 (v0_b x0 x1 x2))), .second, .val (.long (f1 (0 : Int64))), .second, .val (.int (z0_127_s0_5 x0 x1 x2)), .val (.int z0_143_s0_6), .val (.int (z0_179_s0_9 x0 x1 x2)), .val (.int (z0_215_s0_12 x0))] [(.int (z0_215_s0_12 x0))]))
                          refine g_if0_eq X4 hx 241 237 (hb hby at_234) (by decide) rfl rfl (fun h16 => ?_) (fun h16 => ?_)
                          · show Go p e below s _ _ _ (T4.setTop (mkF m 241 #[.val (.long x0), .second, .val (.long x1), .second, .val (.int x2), .val (.long (v0_a x0)), .second, .val (.long (v0_b x0 x1 x2)), .second, .val (.int (x2 &&& (3 : Int32))), .val (.long (f1 (v0_a x0))), .second, .val (.long (f1 (v0_b x0 x1 x2))), .second, .val (.long (f1 (0 : Int64))), .second, .val (.int (z0_127_s0_5 x0 x1 x2)), .val (.int z0_143_s0_6), .val (.int (z0_179_s0_9 x0 x1 x2)), .val (.int (z0_215_s0_12 x0))] []))
                            refine g_iconst X4 hx (0 : Int32) 242 (hb hby at_241) rfl rfl ?_
                            show Go p e below s _ _ _ (T4.setTop (mkF m 242 #[.val (.long x0), .second, .val (.long x1), .second, .val (.int x2), .val (.long (v0_a x0)), .second, .val (.long (v0_b x0 x1 x2)), .second, .val (.int (x2 &&& (3 : Int32))), .val (.long (f1 (v0_a x0))), .second, .val (.long (f1 (v0_b x0 x1 x2))), .second, .val (.long (f1 (0 : Int64))), .second, .val (.int (z0_127_s0_5 x0 x1 x2)), .val (.int z0_143_s0_6), .val (.int (z0_179_s0_9 x0 x1 x2)), .val (.int (z0_215_s0_12 x0))] [(.int (0 : Int32))]))
                            exact g_retN X4 hx hret (by simp) hlk (hb hby at_242) (by decide) (by decide) ⟨congrArg (fun z => some (Value.int z)) (show (0 : Int32) = (f0 x0 x1 x2) from by rw [f0, if_neg h13, if_neg h14, if_neg h15, if_pos h16]), rfl, e4⟩
                          · show Go p e below s _ _ _ (T4.setTop (mkF m 237 #[.val (.long x0), .second, .val (.long x1), .second, .val (.int x2), .val (.long (v0_a x0)), .second, .val (.long (v0_b x0 x1 x2)), .second, .val (.int (x2 &&& (3 : Int32))), .val (.long (f1 (v0_a x0))), .second, .val (.long (f1 (v0_b x0 x1 x2))), .second, .val (.long (f1 (0 : Int64))), .second, .val (.int (z0_127_s0_5 x0 x1 x2)), .val (.int z0_143_s0_6), .val (.int (z0_179_s0_9 x0 x1 x2)), .val (.int (z0_215_s0_12 x0))] []))
                            refine g_iconst X4 hx (1 : Int32) 238 (hb hby at_237) rfl rfl ?_
                            show Go p e below s _ _ _ (T4.setTop (mkF m 238 #[.val (.long x0), .second, .val (.long x1), .second, .val (.int x2), .val (.long (v0_a x0)), .second, .val (.long (v0_b x0 x1 x2)), .second, .val (.int (x2 &&& (3 : Int32))), .val (.long (f1 (v0_a x0))), .second, .val (.long (f1 (v0_b x0 x1 x2))), .second, .val (.long (f1 (0 : Int64))), .second, .val (.int (z0_127_s0_5 x0 x1 x2)), .val (.int z0_143_s0_6), .val (.int (z0_179_s0_9 x0 x1 x2)), .val (.int (z0_215_s0_12 x0))] [(.int (1 : Int32))]))
                            refine g_goto X4 hx 242 (hb hby at_238) (by decide) rfl ?_
                            show Go p e below s _ _ _ (T4.setTop (mkF m 242 #[.val (.long x0), .second, .val (.long x1), .second, .val (.int x2), .val (.long (v0_a x0)), .second, .val (.long (v0_b x0 x1 x2)), .second, .val (.int (x2 &&& (3 : Int32))), .val (.long (f1 (v0_a x0))), .second, .val (.long (f1 (v0_b x0 x1 x2))), .second, .val (.long (f1 (0 : Int64))), .second, .val (.int (z0_127_s0_5 x0 x1 x2)), .val (.int z0_143_s0_6), .val (.int (z0_179_s0_9 x0 x1 x2)), .val (.int (z0_215_s0_12 x0))] [(.int (1 : Int32))]))
                            exact g_retN X4 hx hret (by simp) hlk (hb hby at_242) (by decide) (by decide) ⟨congrArg (fun z => some (Value.int z)) (show (1 : Int32) = (f0 x0 x1 x2) from by rw [f0, if_neg h13, if_neg h14, if_neg h15, if_neg h16]), rfl, e4⟩
                  refine g_icmp_ne X4 hx 214 210 (hb hby at_207) (by decide) rfl rfl (fun h17 => ?_) (fun h17 => ?_)
                  · show Go p e below s _ _ _ (T4.setTop (mkF m 210 #[.val (.long x0), .second, .val (.long x1), .second, .val (.int x2), .val (.long (v0_a x0)), .second, .val (.long (v0_b x0 x1 x2)), .second, .val (.int (x2 &&& (3 : Int32))), .val (.long (f1 (v0_a x0))), .second, .val (.long (f1 (v0_b x0 x1 x2))), .second, .val (.long (f1 (0 : Int64))), .second, .val (.int (z0_127_s0_5 x0 x1 x2)), .val (.int z0_143_s0_6), .val (.int (z0_179_s0_9 x0 x1 x2)), .unset] []))
                    refine g_iconst X4 hx (1 : Int32) 211 (hb hby at_210) rfl rfl ?_
                    show Go p e below s _ _ _ (T4.setTop (mkF m 211 #[.val (.long x0), .second, .val (.long x1), .second, .val (.int x2), .val (.long (v0_a x0)), .second, .val (.long (v0_b x0 x1 x2)), .second, .val (.int (x2 &&& (3 : Int32))), .val (.long (f1 (v0_a x0))), .second, .val (.long (f1 (v0_b x0 x1 x2))), .second, .val (.long (f1 (0 : Int64))), .second, .val (.int (z0_127_s0_5 x0 x1 x2)), .val (.int z0_143_s0_6), .val (.int (z0_179_s0_9 x0 x1 x2)), .unset] [(.int (1 : Int32))]))
                    refine g_goto X4 hx 215 (hb hby at_211) (by decide) rfl ?_
                    show Go p e below s _ _ _ (T4.setTop (mkF m 215 #[.val (.long x0), .second, .val (.long x1), .second, .val (.int x2), .val (.long (v0_a x0)), .second, .val (.long (v0_b x0 x1 x2)), .second, .val (.int (x2 &&& (3 : Int32))), .val (.long (f1 (v0_a x0))), .second, .val (.long (f1 (v0_b x0 x1 x2))), .second, .val (.long (f1 (0 : Int64))), .second, .val (.int (z0_127_s0_5 x0 x1 x2)), .val (.int z0_143_s0_6), .val (.int (z0_179_s0_9 x0 x1 x2)), .unset] [(.int (1 : Int32))]))
                    have q12 := J12
                    simp only [z0_215_s0_12, if_pos h17] at q12
                    exact q12
                  · show Go p e below s _ _ _ (T4.setTop (mkF m 214 #[.val (.long x0), .second, .val (.long x1), .second, .val (.int x2), .val (.long (v0_a x0)), .second, .val (.long (v0_b x0 x1 x2)), .second, .val (.int (x2 &&& (3 : Int32))), .val (.long (f1 (v0_a x0))), .second, .val (.long (f1 (v0_b x0 x1 x2))), .second, .val (.long (f1 (0 : Int64))), .second, .val (.int (z0_127_s0_5 x0 x1 x2)), .val (.int z0_143_s0_6), .val (.int (z0_179_s0_9 x0 x1 x2)), .unset] []))
                    refine g_iconst X4 hx (0 : Int32) 215 (hb hby at_214) rfl rfl ?_
                    show Go p e below s _ _ _ (T4.setTop (mkF m 215 #[.val (.long x0), .second, .val (.long x1), .second, .val (.int x2), .val (.long (v0_a x0)), .second, .val (.long (v0_b x0 x1 x2)), .second, .val (.int (x2 &&& (3 : Int32))), .val (.long (f1 (v0_a x0))), .second, .val (.long (f1 (v0_b x0 x1 x2))), .second, .val (.long (f1 (0 : Int64))), .second, .val (.int (z0_127_s0_5 x0 x1 x2)), .val (.int z0_143_s0_6), .val (.int (z0_179_s0_9 x0 x1 x2)), .unset] [(.int (0 : Int32))]))
                    have q12 := J12
                    simp only [z0_215_s0_12, if_neg h17] at q12
                    exact q12
                refine g_lc_ne X4 hx 206 202 (hb hby at_199) (by decide) rfl rfl (fun h18 => ?_) (fun h18 => ?_)
                · show Go p e below s _ _ _ (T4.setTop (mkF m 202 #[.val (.long x0), .second, .val (.long x1), .second, .val (.int x2), .val (.long (v0_a x0)), .second, .val (.long (v0_b x0 x1 x2)), .second, .val (.int (x2 &&& (3 : Int32))), .val (.long (f1 (v0_a x0))), .second, .val (.long (f1 (v0_b x0 x1 x2))), .second, .val (.long (f1 (0 : Int64))), .second, .val (.int (z0_127_s0_5 x0 x1 x2)), .val (.int z0_143_s0_6), .val (.int (z0_179_s0_9 x0 x1 x2)), .unset] [(.int (z0_195_s0_10 x0))]))
                  refine g_iconst X4 hx (1 : Int32) 203 (hb hby at_202) rfl rfl ?_
                  show Go p e below s _ _ _ (T4.setTop (mkF m 203 #[.val (.long x0), .second, .val (.long x1), .second, .val (.int x2), .val (.long (v0_a x0)), .second, .val (.long (v0_b x0 x1 x2)), .second, .val (.int (x2 &&& (3 : Int32))), .val (.long (f1 (v0_a x0))), .second, .val (.long (f1 (v0_b x0 x1 x2))), .second, .val (.long (f1 (0 : Int64))), .second, .val (.int (z0_127_s0_5 x0 x1 x2)), .val (.int z0_143_s0_6), .val (.int (z0_179_s0_9 x0 x1 x2)), .unset] [(.int (1 : Int32)), (.int (z0_195_s0_10 x0))]))
                  refine g_goto X4 hx 207 (hb hby at_203) (by decide) rfl ?_
                  show Go p e below s _ _ _ (T4.setTop (mkF m 207 #[.val (.long x0), .second, .val (.long x1), .second, .val (.int x2), .val (.long (v0_a x0)), .second, .val (.long (v0_b x0 x1 x2)), .second, .val (.int (x2 &&& (3 : Int32))), .val (.long (f1 (v0_a x0))), .second, .val (.long (f1 (v0_b x0 x1 x2))), .second, .val (.long (f1 (0 : Int64))), .second, .val (.int (z0_127_s0_5 x0 x1 x2)), .val (.int z0_143_s0_6), .val (.int (z0_179_s0_9 x0 x1 x2)), .unset] [(.int (1 : Int32)), (.int (z0_195_s0_10 x0))]))
                  have q11 := J11
                  simp only [z0_207_s0_11, if_pos h18] at q11
                  exact q11
                · show Go p e below s _ _ _ (T4.setTop (mkF m 206 #[.val (.long x0), .second, .val (.long x1), .second, .val (.int x2), .val (.long (v0_a x0)), .second, .val (.long (v0_b x0 x1 x2)), .second, .val (.int (x2 &&& (3 : Int32))), .val (.long (f1 (v0_a x0))), .second, .val (.long (f1 (v0_b x0 x1 x2))), .second, .val (.long (f1 (0 : Int64))), .second, .val (.int (z0_127_s0_5 x0 x1 x2)), .val (.int z0_143_s0_6), .val (.int (z0_179_s0_9 x0 x1 x2)), .unset] [(.int (z0_195_s0_10 x0))]))
                  refine g_iconst X4 hx (0 : Int32) 207 (hb hby at_206) rfl rfl ?_
                  show Go p e below s _ _ _ (T4.setTop (mkF m 207 #[.val (.long x0), .second, .val (.long x1), .second, .val (.int x2), .val (.long (v0_a x0)), .second, .val (.long (v0_b x0 x1 x2)), .second, .val (.int (x2 &&& (3 : Int32))), .val (.long (f1 (v0_a x0))), .second, .val (.long (f1 (v0_b x0 x1 x2))), .second, .val (.long (f1 (0 : Int64))), .second, .val (.int (z0_127_s0_5 x0 x1 x2)), .val (.int z0_143_s0_6), .val (.int (z0_179_s0_9 x0 x1 x2)), .unset] [(.int (0 : Int32)), (.int (z0_195_s0_10 x0))]))
                  have q11 := J11
                  simp only [z0_207_s0_11, if_neg h18] at q11
                  exact q11
              refine g_lc_ne X4 hx 194 190 (hb hby at_187) (by decide) rfl rfl (fun h19 => ?_) (fun h19 => ?_)
              · show Go p e below s _ _ _ (T4.setTop (mkF m 190 #[.val (.long x0), .second, .val (.long x1), .second, .val (.int x2), .val (.long (v0_a x0)), .second, .val (.long (v0_b x0 x1 x2)), .second, .val (.int (x2 &&& (3 : Int32))), .val (.long (f1 (v0_a x0))), .second, .val (.long (f1 (v0_b x0 x1 x2))), .second, .val (.long (f1 (0 : Int64))), .second, .val (.int (z0_127_s0_5 x0 x1 x2)), .val (.int z0_143_s0_6), .val (.int (z0_179_s0_9 x0 x1 x2)), .unset] []))
                refine g_iconst X4 hx (1 : Int32) 191 (hb hby at_190) rfl rfl ?_
                show Go p e below s _ _ _ (T4.setTop (mkF m 191 #[.val (.long x0), .second, .val (.long x1), .second, .val (.int x2), .val (.long (v0_a x0)), .second, .val (.long (v0_b x0 x1 x2)), .second, .val (.int (x2 &&& (3 : Int32))), .val (.long (f1 (v0_a x0))), .second, .val (.long (f1 (v0_b x0 x1 x2))), .second, .val (.long (f1 (0 : Int64))), .second, .val (.int (z0_127_s0_5 x0 x1 x2)), .val (.int z0_143_s0_6), .val (.int (z0_179_s0_9 x0 x1 x2)), .unset] [(.int (1 : Int32))]))
                refine g_goto X4 hx 195 (hb hby at_191) (by decide) rfl ?_
                show Go p e below s _ _ _ (T4.setTop (mkF m 195 #[.val (.long x0), .second, .val (.long x1), .second, .val (.int x2), .val (.long (v0_a x0)), .second, .val (.long (v0_b x0 x1 x2)), .second, .val (.int (x2 &&& (3 : Int32))), .val (.long (f1 (v0_a x0))), .second, .val (.long (f1 (v0_b x0 x1 x2))), .second, .val (.long (f1 (0 : Int64))), .second, .val (.int (z0_127_s0_5 x0 x1 x2)), .val (.int z0_143_s0_6), .val (.int (z0_179_s0_9 x0 x1 x2)), .unset] [(.int (1 : Int32))]))
                have q10 := J10
                simp only [z0_195_s0_10, if_pos h19] at q10
                exact q10
              · show Go p e below s _ _ _ (T4.setTop (mkF m 194 #[.val (.long x0), .second, .val (.long x1), .second, .val (.int x2), .val (.long (v0_a x0)), .second, .val (.long (v0_b x0 x1 x2)), .second, .val (.int (x2 &&& (3 : Int32))), .val (.long (f1 (v0_a x0))), .second, .val (.long (f1 (v0_b x0 x1 x2))), .second, .val (.long (f1 (0 : Int64))), .second, .val (.int (z0_127_s0_5 x0 x1 x2)), .val (.int z0_143_s0_6), .val (.int (z0_179_s0_9 x0 x1 x2)), .unset] []))
                refine g_iconst X4 hx (0 : Int32) 195 (hb hby at_194) rfl rfl ?_
                show Go p e below s _ _ _ (T4.setTop (mkF m 195 #[.val (.long x0), .second, .val (.long x1), .second, .val (.int x2), .val (.long (v0_a x0)), .second, .val (.long (v0_b x0 x1 x2)), .second, .val (.int (x2 &&& (3 : Int32))), .val (.long (f1 (v0_a x0))), .second, .val (.long (f1 (v0_b x0 x1 x2))), .second, .val (.long (f1 (0 : Int64))), .second, .val (.int (z0_127_s0_5 x0 x1 x2)), .val (.int z0_143_s0_6), .val (.int (z0_179_s0_9 x0 x1 x2)), .unset] [(.int (0 : Int32))]))
                have q10 := J10
                simp only [z0_195_s0_10, if_neg h19] at q10
                exact q10
            refine g_icmp_ne X4 hx 178 174 (hb hby at_171) (by decide) rfl rfl (fun h20 => ?_) (fun h20 => ?_)
            · show Go p e below s _ _ _ (T4.setTop (mkF m 174 #[.val (.long x0), .second, .val (.long x1), .second, .val (.int x2), .val (.long (v0_a x0)), .second, .val (.long (v0_b x0 x1 x2)), .second, .val (.int (x2 &&& (3 : Int32))), .val (.long (f1 (v0_a x0))), .second, .val (.long (f1 (v0_b x0 x1 x2))), .second, .val (.long (f1 (0 : Int64))), .second, .val (.int (z0_127_s0_5 x0 x1 x2)), .val (.int z0_143_s0_6), .unset, .unset] []))
              refine g_iconst X4 hx (1 : Int32) 175 (hb hby at_174) rfl rfl ?_
              show Go p e below s _ _ _ (T4.setTop (mkF m 175 #[.val (.long x0), .second, .val (.long x1), .second, .val (.int x2), .val (.long (v0_a x0)), .second, .val (.long (v0_b x0 x1 x2)), .second, .val (.int (x2 &&& (3 : Int32))), .val (.long (f1 (v0_a x0))), .second, .val (.long (f1 (v0_b x0 x1 x2))), .second, .val (.long (f1 (0 : Int64))), .second, .val (.int (z0_127_s0_5 x0 x1 x2)), .val (.int z0_143_s0_6), .unset, .unset] [(.int (1 : Int32))]))
              refine g_goto X4 hx 179 (hb hby at_175) (by decide) rfl ?_
              show Go p e below s _ _ _ (T4.setTop (mkF m 179 #[.val (.long x0), .second, .val (.long x1), .second, .val (.int x2), .val (.long (v0_a x0)), .second, .val (.long (v0_b x0 x1 x2)), .second, .val (.int (x2 &&& (3 : Int32))), .val (.long (f1 (v0_a x0))), .second, .val (.long (f1 (v0_b x0 x1 x2))), .second, .val (.long (f1 (0 : Int64))), .second, .val (.int (z0_127_s0_5 x0 x1 x2)), .val (.int z0_143_s0_6), .unset, .unset] [(.int (1 : Int32))]))
              have q9 := J9
              simp only [z0_179_s0_9, if_pos h20] at q9
              exact q9
            · show Go p e below s _ _ _ (T4.setTop (mkF m 178 #[.val (.long x0), .second, .val (.long x1), .second, .val (.int x2), .val (.long (v0_a x0)), .second, .val (.long (v0_b x0 x1 x2)), .second, .val (.int (x2 &&& (3 : Int32))), .val (.long (f1 (v0_a x0))), .second, .val (.long (f1 (v0_b x0 x1 x2))), .second, .val (.long (f1 (0 : Int64))), .second, .val (.int (z0_127_s0_5 x0 x1 x2)), .val (.int z0_143_s0_6), .unset, .unset] []))
              refine g_iconst X4 hx (0 : Int32) 179 (hb hby at_178) rfl rfl ?_
              show Go p e below s _ _ _ (T4.setTop (mkF m 179 #[.val (.long x0), .second, .val (.long x1), .second, .val (.int x2), .val (.long (v0_a x0)), .second, .val (.long (v0_b x0 x1 x2)), .second, .val (.int (x2 &&& (3 : Int32))), .val (.long (f1 (v0_a x0))), .second, .val (.long (f1 (v0_b x0 x1 x2))), .second, .val (.long (f1 (0 : Int64))), .second, .val (.int (z0_127_s0_5 x0 x1 x2)), .val (.int z0_143_s0_6), .unset, .unset] [(.int (0 : Int32))]))
              have q9 := J9
              simp only [z0_179_s0_9, if_neg h20] at q9
              exact q9
          refine g_lc_ne X4 hx 170 166 (hb hby at_163) (by decide) rfl rfl (fun h21 => ?_) (fun h21 => ?_)
          · show Go p e below s _ _ _ (T4.setTop (mkF m 166 #[.val (.long x0), .second, .val (.long x1), .second, .val (.int x2), .val (.long (v0_a x0)), .second, .val (.long (v0_b x0 x1 x2)), .second, .val (.int (x2 &&& (3 : Int32))), .val (.long (f1 (v0_a x0))), .second, .val (.long (f1 (v0_b x0 x1 x2))), .second, .val (.long (f1 (0 : Int64))), .second, .val (.int (z0_127_s0_5 x0 x1 x2)), .val (.int z0_143_s0_6), .unset, .unset] [(.int (z0_158_s0_7 x0 x1 x2))]))
            refine g_iconst X4 hx (1 : Int32) 167 (hb hby at_166) rfl rfl ?_
            show Go p e below s _ _ _ (T4.setTop (mkF m 167 #[.val (.long x0), .second, .val (.long x1), .second, .val (.int x2), .val (.long (v0_a x0)), .second, .val (.long (v0_b x0 x1 x2)), .second, .val (.int (x2 &&& (3 : Int32))), .val (.long (f1 (v0_a x0))), .second, .val (.long (f1 (v0_b x0 x1 x2))), .second, .val (.long (f1 (0 : Int64))), .second, .val (.int (z0_127_s0_5 x0 x1 x2)), .val (.int z0_143_s0_6), .unset, .unset] [(.int (1 : Int32)), (.int (z0_158_s0_7 x0 x1 x2))]))
            refine g_goto X4 hx 171 (hb hby at_167) (by decide) rfl ?_
            show Go p e below s _ _ _ (T4.setTop (mkF m 171 #[.val (.long x0), .second, .val (.long x1), .second, .val (.int x2), .val (.long (v0_a x0)), .second, .val (.long (v0_b x0 x1 x2)), .second, .val (.int (x2 &&& (3 : Int32))), .val (.long (f1 (v0_a x0))), .second, .val (.long (f1 (v0_b x0 x1 x2))), .second, .val (.long (f1 (0 : Int64))), .second, .val (.int (z0_127_s0_5 x0 x1 x2)), .val (.int z0_143_s0_6), .unset, .unset] [(.int (1 : Int32)), (.int (z0_158_s0_7 x0 x1 x2))]))
            have q8 := J8
            simp only [z0_171_s0_8, if_pos h21] at q8
            exact q8
          · show Go p e below s _ _ _ (T4.setTop (mkF m 170 #[.val (.long x0), .second, .val (.long x1), .second, .val (.int x2), .val (.long (v0_a x0)), .second, .val (.long (v0_b x0 x1 x2)), .second, .val (.int (x2 &&& (3 : Int32))), .val (.long (f1 (v0_a x0))), .second, .val (.long (f1 (v0_b x0 x1 x2))), .second, .val (.long (f1 (0 : Int64))), .second, .val (.int (z0_127_s0_5 x0 x1 x2)), .val (.int z0_143_s0_6), .unset, .unset] [(.int (z0_158_s0_7 x0 x1 x2))]))
            refine g_iconst X4 hx (0 : Int32) 171 (hb hby at_170) rfl rfl ?_
            show Go p e below s _ _ _ (T4.setTop (mkF m 171 #[.val (.long x0), .second, .val (.long x1), .second, .val (.int x2), .val (.long (v0_a x0)), .second, .val (.long (v0_b x0 x1 x2)), .second, .val (.int (x2 &&& (3 : Int32))), .val (.long (f1 (v0_a x0))), .second, .val (.long (f1 (v0_b x0 x1 x2))), .second, .val (.long (f1 (0 : Int64))), .second, .val (.int (z0_127_s0_5 x0 x1 x2)), .val (.int z0_143_s0_6), .unset, .unset] [(.int (0 : Int32)), (.int (z0_158_s0_7 x0 x1 x2))]))
            have q8 := J8
            simp only [z0_171_s0_8, if_neg h21] at q8
            exact q8
        refine g_lc_ne X4 hx 157 153 (hb hby at_150) (by decide) rfl rfl (fun h22 => ?_) (fun h22 => ?_)
        · show Go p e below s _ _ _ (T4.setTop (mkF m 153 #[.val (.long x0), .second, .val (.long x1), .second, .val (.int x2), .val (.long (v0_a x0)), .second, .val (.long (v0_b x0 x1 x2)), .second, .val (.int (x2 &&& (3 : Int32))), .val (.long (f1 (v0_a x0))), .second, .val (.long (f1 (v0_b x0 x1 x2))), .second, .val (.long (f1 (0 : Int64))), .second, .val (.int (z0_127_s0_5 x0 x1 x2)), .val (.int z0_143_s0_6), .unset, .unset] []))
          refine g_iconst X4 hx (1 : Int32) 154 (hb hby at_153) rfl rfl ?_
          show Go p e below s _ _ _ (T4.setTop (mkF m 154 #[.val (.long x0), .second, .val (.long x1), .second, .val (.int x2), .val (.long (v0_a x0)), .second, .val (.long (v0_b x0 x1 x2)), .second, .val (.int (x2 &&& (3 : Int32))), .val (.long (f1 (v0_a x0))), .second, .val (.long (f1 (v0_b x0 x1 x2))), .second, .val (.long (f1 (0 : Int64))), .second, .val (.int (z0_127_s0_5 x0 x1 x2)), .val (.int z0_143_s0_6), .unset, .unset] [(.int (1 : Int32))]))
          refine g_goto X4 hx 158 (hb hby at_154) (by decide) rfl ?_
          show Go p e below s _ _ _ (T4.setTop (mkF m 158 #[.val (.long x0), .second, .val (.long x1), .second, .val (.int x2), .val (.long (v0_a x0)), .second, .val (.long (v0_b x0 x1 x2)), .second, .val (.int (x2 &&& (3 : Int32))), .val (.long (f1 (v0_a x0))), .second, .val (.long (f1 (v0_b x0 x1 x2))), .second, .val (.long (f1 (0 : Int64))), .second, .val (.int (z0_127_s0_5 x0 x1 x2)), .val (.int z0_143_s0_6), .unset, .unset] [(.int (1 : Int32))]))
          have q7 := J7
          simp only [z0_158_s0_7, if_pos h22] at q7
          exact q7
        · show Go p e below s _ _ _ (T4.setTop (mkF m 157 #[.val (.long x0), .second, .val (.long x1), .second, .val (.int x2), .val (.long (v0_a x0)), .second, .val (.long (v0_b x0 x1 x2)), .second, .val (.int (x2 &&& (3 : Int32))), .val (.long (f1 (v0_a x0))), .second, .val (.long (f1 (v0_b x0 x1 x2))), .second, .val (.long (f1 (0 : Int64))), .second, .val (.int (z0_127_s0_5 x0 x1 x2)), .val (.int z0_143_s0_6), .unset, .unset] []))
          refine g_iconst X4 hx (0 : Int32) 158 (hb hby at_157) rfl rfl ?_
          show Go p e below s _ _ _ (T4.setTop (mkF m 158 #[.val (.long x0), .second, .val (.long x1), .second, .val (.int x2), .val (.long (v0_a x0)), .second, .val (.long (v0_b x0 x1 x2)), .second, .val (.int (x2 &&& (3 : Int32))), .val (.long (f1 (v0_a x0))), .second, .val (.long (f1 (v0_b x0 x1 x2))), .second, .val (.long (f1 (0 : Int64))), .second, .val (.int (z0_127_s0_5 x0 x1 x2)), .val (.int z0_143_s0_6), .unset, .unset] [(.int (0 : Int32))]))
          have q7 := J7
          simp only [z0_158_s0_7, if_neg h22] at q7
          exact q7
      refine g_lc_ne X4 hx 142 138 (hb hby at_135) (by decide) rfl rfl (fun h23 => ?_) (fun h23 => ?_)
      · show Go p e below s _ _ _ (T4.setTop (mkF m 138 #[.val (.long x0), .second, .val (.long x1), .second, .val (.int x2), .val (.long (v0_a x0)), .second, .val (.long (v0_b x0 x1 x2)), .second, .val (.int (x2 &&& (3 : Int32))), .val (.long (f1 (v0_a x0))), .second, .val (.long (f1 (v0_b x0 x1 x2))), .second, .val (.long (f1 (0 : Int64))), .second, .val (.int (z0_127_s0_5 x0 x1 x2)), .unset, .unset, .unset] []))
        refine g_iconst X4 hx (1 : Int32) 139 (hb hby at_138) rfl rfl ?_
        show Go p e below s _ _ _ (T4.setTop (mkF m 139 #[.val (.long x0), .second, .val (.long x1), .second, .val (.int x2), .val (.long (v0_a x0)), .second, .val (.long (v0_b x0 x1 x2)), .second, .val (.int (x2 &&& (3 : Int32))), .val (.long (f1 (v0_a x0))), .second, .val (.long (f1 (v0_b x0 x1 x2))), .second, .val (.long (f1 (0 : Int64))), .second, .val (.int (z0_127_s0_5 x0 x1 x2)), .unset, .unset, .unset] [(.int (1 : Int32))]))
        refine g_goto X4 hx 143 (hb hby at_139) (by decide) rfl ?_
        show Go p e below s _ _ _ (T4.setTop (mkF m 143 #[.val (.long x0), .second, .val (.long x1), .second, .val (.int x2), .val (.long (v0_a x0)), .second, .val (.long (v0_b x0 x1 x2)), .second, .val (.int (x2 &&& (3 : Int32))), .val (.long (f1 (v0_a x0))), .second, .val (.long (f1 (v0_b x0 x1 x2))), .second, .val (.long (f1 (0 : Int64))), .second, .val (.int (z0_127_s0_5 x0 x1 x2)), .unset, .unset, .unset] [(.int (1 : Int32))]))
        have q6 := J6
        simp only [z0_143_s0_6, if_pos h23] at q6
        exact q6
      · show Go p e below s _ _ _ (T4.setTop (mkF m 142 #[.val (.long x0), .second, .val (.long x1), .second, .val (.int x2), .val (.long (v0_a x0)), .second, .val (.long (v0_b x0 x1 x2)), .second, .val (.int (x2 &&& (3 : Int32))), .val (.long (f1 (v0_a x0))), .second, .val (.long (f1 (v0_b x0 x1 x2))), .second, .val (.long (f1 (0 : Int64))), .second, .val (.int (z0_127_s0_5 x0 x1 x2)), .unset, .unset, .unset] []))
        refine g_iconst X4 hx (0 : Int32) 143 (hb hby at_142) rfl rfl ?_
        show Go p e below s _ _ _ (T4.setTop (mkF m 143 #[.val (.long x0), .second, .val (.long x1), .second, .val (.int x2), .val (.long (v0_a x0)), .second, .val (.long (v0_b x0 x1 x2)), .second, .val (.int (x2 &&& (3 : Int32))), .val (.long (f1 (v0_a x0))), .second, .val (.long (f1 (v0_b x0 x1 x2))), .second, .val (.long (f1 (0 : Int64))), .second, .val (.int (z0_127_s0_5 x0 x1 x2)), .unset, .unset, .unset] [(.int (0 : Int32))]))
        have q6 := J6
        simp only [z0_143_s0_6, if_neg h23] at q6
        exact q6
    refine g_lc_ne X4 hx 126 113 (hb hby at_110) (by decide) rfl rfl (fun h24 => ?_) (fun h24 => ?_)
    · show Go p e below s _ _ _ (T4.setTop (mkF m 113 #[.val (.long x0), .second, .val (.long x1), .second, .val (.int x2), .val (.long (v0_a x0)), .second, .val (.long (v0_b x0 x1 x2)), .second, .val (.int (x2 &&& (3 : Int32))), .val (.long (f1 (v0_a x0))), .second, .val (.long (f1 (v0_b x0 x1 x2))), .second, .val (.long (f1 (0 : Int64))), .second, .unset, .unset, .unset, .unset] []))
      refine g_lload X4 hx 115 (hb hby at_113) rfl rfl ?_
      show Go p e below s _ _ _ (T4.setTop (mkF m 115 #[.val (.long x0), .second, .val (.long x1), .second, .val (.int x2), .val (.long (v0_a x0)), .second, .val (.long (v0_b x0 x1 x2)), .second, .val (.int (x2 &&& (3 : Int32))), .val (.long (f1 (v0_a x0))), .second, .val (.long (f1 (v0_b x0 x1 x2))), .second, .val (.long (f1 (0 : Int64))), .second, .unset, .unset, .unset, .unset] [(.long (f1 (v0_b x0 x1 x2)))]))
      refine g_lconst X4 hx (1 : Int64) 116 (hb hby at_115) rfl rfl ?_
      show Go p e below s _ _ _ (T4.setTop (mkF m 116 #[.val (.long x0), .second, .val (.long x1), .second, .val (.int x2), .val (.long (v0_a x0)), .second, .val (.long (v0_b x0 x1 x2)), .second, .val (.int (x2 &&& (3 : Int32))), .val (.long (f1 (v0_a x0))), .second, .val (.long (f1 (v0_b x0 x1 x2))), .second, .val (.long (f1 (0 : Int64))), .second, .unset, .unset, .unset, .unset] [(.long (1 : Int64)), (.long (f1 (v0_b x0 x1 x2)))]))
      refine g_land X4 hx 117 (hb hby at_116) rfl ?_
      show Go p e below s _ _ _ (T4.setTop (mkF m 117 #[.val (.long x0), .second, .val (.long x1), .second, .val (.int x2), .val (.long (v0_a x0)), .second, .val (.long (v0_b x0 x1 x2)), .second, .val (.int (x2 &&& (3 : Int32))), .val (.long (f1 (v0_a x0))), .second, .val (.long (f1 (v0_b x0 x1 x2))), .second, .val (.long (f1 (0 : Int64))), .second, .unset, .unset, .unset, .unset] [(.long ((f1 (v0_b x0 x1 x2)) &&& (1 : Int64)))]))
      refine g_lconst X4 hx (1 : Int64) 118 (hb hby at_117) rfl rfl ?_
      show Go p e below s _ _ _ (T4.setTop (mkF m 118 #[.val (.long x0), .second, .val (.long x1), .second, .val (.int x2), .val (.long (v0_a x0)), .second, .val (.long (v0_b x0 x1 x2)), .second, .val (.int (x2 &&& (3 : Int32))), .val (.long (f1 (v0_a x0))), .second, .val (.long (f1 (v0_b x0 x1 x2))), .second, .val (.long (f1 (0 : Int64))), .second, .unset, .unset, .unset, .unset] [(.long (1 : Int64)), (.long ((f1 (v0_b x0 x1 x2)) &&& (1 : Int64)))]))
      refine g_lcmp X4 hx 119 (hb hby at_118) rfl ?_
      show Go p e below s _ _ _ (T4.setTop (mkF m 119 #[.val (.long x0), .second, .val (.long x1), .second, .val (.int x2), .val (.long (v0_a x0)), .second, .val (.long (v0_b x0 x1 x2)), .second, .val (.int (x2 &&& (3 : Int32))), .val (.long (f1 (v0_a x0))), .second, .val (.long (f1 (v0_b x0 x1 x2))), .second, .val (.long (f1 (0 : Int64))), .second, .unset, .unset, .unset, .unset] [(.int (lcmpW ((f1 (v0_b x0 x1 x2)) &&& (1 : Int64)) (1 : Int64)))]))
      refine g_lc_ne X4 hx 126 122 (hb hby at_119) (by decide) rfl rfl (fun h25 => ?_) (fun h25 => ?_)
      · show Go p e below s _ _ _ (T4.setTop (mkF m 122 #[.val (.long x0), .second, .val (.long x1), .second, .val (.int x2), .val (.long (v0_a x0)), .second, .val (.long (v0_b x0 x1 x2)), .second, .val (.int (x2 &&& (3 : Int32))), .val (.long (f1 (v0_a x0))), .second, .val (.long (f1 (v0_b x0 x1 x2))), .second, .val (.long (f1 (0 : Int64))), .second, .unset, .unset, .unset, .unset] []))
        refine g_iconst X4 hx (1 : Int32) 123 (hb hby at_122) rfl rfl ?_
        show Go p e below s _ _ _ (T4.setTop (mkF m 123 #[.val (.long x0), .second, .val (.long x1), .second, .val (.int x2), .val (.long (v0_a x0)), .second, .val (.long (v0_b x0 x1 x2)), .second, .val (.int (x2 &&& (3 : Int32))), .val (.long (f1 (v0_a x0))), .second, .val (.long (f1 (v0_b x0 x1 x2))), .second, .val (.long (f1 (0 : Int64))), .second, .unset, .unset, .unset, .unset] [(.int (1 : Int32))]))
        refine g_goto X4 hx 127 (hb hby at_123) (by decide) rfl ?_
        show Go p e below s _ _ _ (T4.setTop (mkF m 127 #[.val (.long x0), .second, .val (.long x1), .second, .val (.int x2), .val (.long (v0_a x0)), .second, .val (.long (v0_b x0 x1 x2)), .second, .val (.int (x2 &&& (3 : Int32))), .val (.long (f1 (v0_a x0))), .second, .val (.long (f1 (v0_b x0 x1 x2))), .second, .val (.long (f1 (0 : Int64))), .second, .unset, .unset, .unset, .unset] [(.int (1 : Int32))]))
        have q5 := J5
        simp only [z0_127_s0_5, if_pos h24, if_pos h25] at q5
        exact q5
      · show Go p e below s _ _ _ (T4.setTop (mkF m 126 #[.val (.long x0), .second, .val (.long x1), .second, .val (.int x2), .val (.long (v0_a x0)), .second, .val (.long (v0_b x0 x1 x2)), .second, .val (.int (x2 &&& (3 : Int32))), .val (.long (f1 (v0_a x0))), .second, .val (.long (f1 (v0_b x0 x1 x2))), .second, .val (.long (f1 (0 : Int64))), .second, .unset, .unset, .unset, .unset] []))
        refine g_iconst X4 hx (0 : Int32) 127 (hb hby at_126) rfl rfl ?_
        show Go p e below s _ _ _ (T4.setTop (mkF m 127 #[.val (.long x0), .second, .val (.long x1), .second, .val (.int x2), .val (.long (v0_a x0)), .second, .val (.long (v0_b x0 x1 x2)), .second, .val (.int (x2 &&& (3 : Int32))), .val (.long (f1 (v0_a x0))), .second, .val (.long (f1 (v0_b x0 x1 x2))), .second, .val (.long (f1 (0 : Int64))), .second, .unset, .unset, .unset, .unset] [(.int (0 : Int32))]))
        have q5 := J5
        simp only [z0_127_s0_5, if_pos h24, if_neg h25] at q5
        exact q5
    · show Go p e below s _ _ _ (T4.setTop (mkF m 126 #[.val (.long x0), .second, .val (.long x1), .second, .val (.int x2), .val (.long (v0_a x0)), .second, .val (.long (v0_b x0 x1 x2)), .second, .val (.int (x2 &&& (3 : Int32))), .val (.long (f1 (v0_a x0))), .second, .val (.long (f1 (v0_b x0 x1 x2))), .second, .val (.long (f1 (0 : Int64))), .second, .unset, .unset, .unset, .unset] []))
      refine g_iconst X4 hx (0 : Int32) 127 (hb hby at_126) rfl rfl ?_
      show Go p e below s _ _ _ (T4.setTop (mkF m 127 #[.val (.long x0), .second, .val (.long x1), .second, .val (.int x2), .val (.long (v0_a x0)), .second, .val (.long (v0_b x0 x1 x2)), .second, .val (.int (x2 &&& (3 : Int32))), .val (.long (f1 (v0_a x0))), .second, .val (.long (f1 (v0_b x0 x1 x2))), .second, .val (.long (f1 (0 : Int64))), .second, .unset, .unset, .unset, .unset] [(.int (0 : Int32))]))
      have q5 := J5
      simp only [z0_127_s0_5, if_neg h24] at q5
      exact q5
  refine g_if0_ne X0 hx 28 18 (hb hby at_15) (by decide) rfl rfl (fun h26 => ?_) (fun h26 => ?_)
  · show Go p e below s _ _ _ (T0.setTop (mkF m 18 #[.val (.long x0), .second, .val (.long x1), .second, .val (.int x2), .val (.long (v0_a x0)), .second, .unset, .unset, .val (.int (x2 &&& (3 : Int32))), .unset, .unset, .unset, .unset, .unset, .unset, .unset, .unset, .unset, .unset] []))
    refine g_lloadN X0 hx 19 (hb hby at_18) rfl rfl ?_
    show Go p e below s _ _ _ (T0.setTop (mkF m 19 #[.val (.long x0), .second, .val (.long x1), .second, .val (.int x2), .val (.long (v0_a x0)), .second, .unset, .unset, .val (.int (x2 &&& (3 : Int32))), .unset, .unset, .unset, .unset, .unset, .unset, .unset, .unset, .unset, .unset] [(.long x1)]))
    refine g_ldc2_w X0 hx hZ hown (hw _ (List.mem_of_getElem? (i := 0) rfl)) 22 (hb hby at_19) rfl ?_
    show Go p e below s _ _ _ (T0.setTop (mkF m 22 #[.val (.long x0), .second, .val (.long x1), .second, .val (.int x2), .val (.long (v0_a x0)), .second, .unset, .unset, .val (.int (x2 &&& (3 : Int32))), .unset, .unset, .unset, .unset, .unset, .unset, .unset, .unset, .unset, .unset] [(.long (9223372036854775807 : Int64)), (.long x1)]))
    refine g_land X0 hx 23 (hb hby at_22) rfl ?_
    show Go p e below s _ _ _ (T0.setTop (mkF m 23 #[.val (.long x0), .second, .val (.long x1), .second, .val (.int x2), .val (.long (v0_a x0)), .second, .unset, .unset, .val (.int (x2 &&& (3 : Int32))), .unset, .unset, .unset, .unset, .unset, .unset, .unset, .unset, .unset, .unset] [(.long (x1 &&& (9223372036854775807 : Int64)))]))
    refine g_lstore X0 hx #[.val (.long x0), .second, .val (.long x1), .second, .val (.int x2), .val (.long (v0_a x0)), .second, .val (.long (x1 &&& (9223372036854775807 : Int64))), .second, .val (.int (x2 &&& (3 : Int32))), .unset, .unset, .unset, .unset, .unset, .unset, .unset, .unset, .unset, .unset] 25 (hb hby at_23) rfl rfl ?_
    show Go p e below s _ _ _ (T0.setTop (mkF m 25 #[.val (.long x0), .second, .val (.long x1), .second, .val (.int x2), .val (.long (v0_a x0)), .second, .val (.long (x1 &&& (9223372036854775807 : Int64))), .second, .val (.int (x2 &&& (3 : Int32))), .unset, .unset, .unset, .unset, .unset, .unset, .unset, .unset, .unset, .unset] []))
    refine g_goto X0 hx 76 (hb hby at_25) (by decide) rfl ?_
    show Go p e below s _ _ _ (T0.setTop (mkF m 76 #[.val (.long x0), .second, .val (.long x1), .second, .val (.int x2), .val (.long (v0_a x0)), .second, .val (.long (x1 &&& (9223372036854775807 : Int64))), .second, .val (.int (x2 &&& (3 : Int32))), .unset, .unset, .unset, .unset, .unset, .unset, .unset, .unset, .unset, .unset] []))
    have q1 := J1
    simp only [z0_76_l7_1, if_pos h26] at q1
    exact q1
  · show Go p e below s _ _ _ (T0.setTop (mkF m 28 #[.val (.long x0), .second, .val (.long x1), .second, .val (.int x2), .val (.long (v0_a x0)), .second, .unset, .unset, .val (.int (x2 &&& (3 : Int32))), .unset, .unset, .unset, .unset, .unset, .unset, .unset, .unset, .unset, .unset] []))
    refine g_iload X0 hx 30 (hb hby at_28) rfl rfl ?_
    show Go p e below s _ _ _ (T0.setTop (mkF m 30 #[.val (.long x0), .second, .val (.long x1), .second, .val (.int x2), .val (.long (v0_a x0)), .second, .unset, .unset, .val (.int (x2 &&& (3 : Int32))), .unset, .unset, .unset, .unset, .unset, .unset, .unset, .unset, .unset, .unset] [(.int (x2 &&& (3 : Int32)))]))
    refine g_iconst X0 hx (1 : Int32) 31 (hb hby at_30) rfl rfl ?_
    show Go p e below s _ _ _ (T0.setTop (mkF m 31 #[.val (.long x0), .second, .val (.long x1), .second, .val (.int x2), .val (.long (v0_a x0)), .second, .unset, .unset, .val (.int (x2 &&& (3 : Int32))), .unset, .unset, .unset, .unset, .unset, .unset, .unset, .unset, .unset, .unset] [(.int (1 : Int32)), (.int (x2 &&& (3 : Int32)))]))
    refine g_icmp_ne X0 hx 51 34 (hb hby at_31) (by decide) rfl rfl (fun h27 => ?_) (fun h27 => ?_)
    · show Go p e below s _ _ _ (T0.setTop (mkF m 34 #[.val (.long x0), .second, .val (.long x1), .second, .val (.int x2), .val (.long (v0_a x0)), .second, .unset, .unset, .val (.int (x2 &&& (3 : Int32))), .unset, .unset, .unset, .unset, .unset, .unset, .unset, .unset, .unset, .unset] []))
      refine g_lload X0 hx 36 (hb hby at_34) rfl rfl ?_
      show Go p e below s _ _ _ (T0.setTop (mkF m 36 #[.val (.long x0), .second, .val (.long x1), .second, .val (.int x2), .val (.long (v0_a x0)), .second, .unset, .unset, .val (.int (x2 &&& (3 : Int32))), .unset, .unset, .unset, .unset, .unset, .unset, .unset, .unset, .unset, .unset] [(.long (v0_a x0))]))
      refine g_lloadN X0 hx 37 (hb hby at_36) rfl rfl ?_
      show Go p e below s _ _ _ (T0.setTop (mkF m 37 #[.val (.long x0), .second, .val (.long x1), .second, .val (.int x2), .val (.long (v0_a x0)), .second, .unset, .unset, .val (.int (x2 &&& (3 : Int32))), .unset, .unset, .unset, .unset, .unset, .unset, .unset, .unset, .unset, .unset] [(.long x1), (.long (v0_a x0))]))
      refine g_ldc2_w X0 hx hZ hown (hw _ (List.mem_of_getElem? (i := 11) rfl)) 40 (hb hby at_37) rfl ?_
      show Go p e below s _ _ _ (T0.setTop (mkF m 40 #[.val (.long x0), .second, .val (.long x1), .second, .val (.int x2), .val (.long (v0_a x0)), .second, .unset, .unset, .val (.int (x2 &&& (3 : Int32))), .unset, .unset, .unset, .unset, .unset, .unset, .unset, .unset, .unset, .unset] [(.long (255 : Int64)), (.long x1), (.long (v0_a x0))]))
      refine g_land X0 hx 41 (hb hby at_40) rfl ?_
      show Go p e below s _ _ _ (T0.setTop (mkF m 41 #[.val (.long x0), .second, .val (.long x1), .second, .val (.int x2), .val (.long (v0_a x0)), .second, .unset, .unset, .val (.int (x2 &&& (3 : Int32))), .unset, .unset, .unset, .unset, .unset, .unset, .unset, .unset, .unset, .unset] [(.long (x1 &&& (255 : Int64))), (.long (v0_a x0))]))
      refine g_ladd X0 hx 42 (hb hby at_41) rfl ?_
      show Go p e below s _ _ _ (T0.setTop (mkF m 42 #[.val (.long x0), .second, .val (.long x1), .second, .val (.int x2), .val (.long (v0_a x0)), .second, .unset, .unset, .val (.int (x2 &&& (3 : Int32))), .unset, .unset, .unset, .unset, .unset, .unset, .unset, .unset, .unset, .unset] [(.long ((v0_a x0) + (x1 &&& (255 : Int64))))]))
      refine g_ldc2_w X0 hx hZ hown (hw _ (List.mem_of_getElem? (i := 0) rfl)) 45 (hb hby at_42) rfl ?_
      show Go p e below s _ _ _ (T0.setTop (mkF m 45 #[.val (.long x0), .second, .val (.long x1), .second, .val (.int x2), .val (.long (v0_a x0)), .second, .unset, .unset, .val (.int (x2 &&& (3 : Int32))), .unset, .unset, .unset, .unset, .unset, .unset, .unset, .unset, .unset, .unset] [(.long (9223372036854775807 : Int64)), (.long ((v0_a x0) + (x1 &&& (255 : Int64))))]))
      refine g_land X0 hx 46 (hb hby at_45) rfl ?_
      show Go p e below s _ _ _ (T0.setTop (mkF m 46 #[.val (.long x0), .second, .val (.long x1), .second, .val (.int x2), .val (.long (v0_a x0)), .second, .unset, .unset, .val (.int (x2 &&& (3 : Int32))), .unset, .unset, .unset, .unset, .unset, .unset, .unset, .unset, .unset, .unset] [(.long (((v0_a x0) + (x1 &&& (255 : Int64))) &&& (9223372036854775807 : Int64)))]))
      refine g_lstore X0 hx #[.val (.long x0), .second, .val (.long x1), .second, .val (.int x2), .val (.long (v0_a x0)), .second, .val (.long (((v0_a x0) + (x1 &&& (255 : Int64))) &&& (9223372036854775807 : Int64))), .second, .val (.int (x2 &&& (3 : Int32))), .unset, .unset, .unset, .unset, .unset, .unset, .unset, .unset, .unset, .unset] 48 (hb hby at_46) rfl rfl ?_
      show Go p e below s _ _ _ (T0.setTop (mkF m 48 #[.val (.long x0), .second, .val (.long x1), .second, .val (.int x2), .val (.long (v0_a x0)), .second, .val (.long (((v0_a x0) + (x1 &&& (255 : Int64))) &&& (9223372036854775807 : Int64))), .second, .val (.int (x2 &&& (3 : Int32))), .unset, .unset, .unset, .unset, .unset, .unset, .unset, .unset, .unset, .unset] []))
      refine g_goto X0 hx 76 (hb hby at_48) (by decide) rfl ?_
      show Go p e below s _ _ _ (T0.setTop (mkF m 76 #[.val (.long x0), .second, .val (.long x1), .second, .val (.int x2), .val (.long (v0_a x0)), .second, .val (.long (((v0_a x0) + (x1 &&& (255 : Int64))) &&& (9223372036854775807 : Int64))), .second, .val (.int (x2 &&& (3 : Int32))), .unset, .unset, .unset, .unset, .unset, .unset, .unset, .unset, .unset, .unset] []))
      have q1 := J1
      simp only [z0_76_l7_1, if_neg h26, if_pos h27] at q1
      exact q1
    · show Go p e below s _ _ _ (T0.setTop (mkF m 51 #[.val (.long x0), .second, .val (.long x1), .second, .val (.int x2), .val (.long (v0_a x0)), .second, .unset, .unset, .val (.int (x2 &&& (3 : Int32))), .unset, .unset, .unset, .unset, .unset, .unset, .unset, .unset, .unset, .unset] []))
      refine g_iload X0 hx 53 (hb hby at_51) rfl rfl ?_
      show Go p e below s _ _ _ (T0.setTop (mkF m 53 #[.val (.long x0), .second, .val (.long x1), .second, .val (.int x2), .val (.long (v0_a x0)), .second, .unset, .unset, .val (.int (x2 &&& (3 : Int32))), .unset, .unset, .unset, .unset, .unset, .unset, .unset, .unset, .unset, .unset] [(.int (x2 &&& (3 : Int32)))]))
      refine g_iconst X0 hx (2 : Int32) 54 (hb hby at_53) rfl rfl ?_
      show Go p e below s _ _ _ (T0.setTop (mkF m 54 #[.val (.long x0), .second, .val (.long x1), .second, .val (.int x2), .val (.long (v0_a x0)), .second, .unset, .unset, .val (.int (x2 &&& (3 : Int32))), .unset, .unset, .unset, .unset, .unset, .unset, .unset, .unset, .unset, .unset] [(.int (2 : Int32)), (.int (x2 &&& (3 : Int32)))]))
      refine g_icmp_ne X0 hx 73 57 (hb hby at_54) (by decide) rfl rfl (fun h28 => ?_) (fun h28 => ?_)
      · show Go p e below s _ _ _ (T0.setTop (mkF m 57 #[.val (.long x0), .second, .val (.long x1), .second, .val (.int x2), .val (.long (v0_a x0)), .second, .unset, .unset, .val (.int (x2 &&& (3 : Int32))), .unset, .unset, .unset, .unset, .unset, .unset, .unset, .unset, .unset, .unset] []))
        refine g_lload X0 hx 59 (hb hby at_57) rfl rfl ?_
        show Go p e below s _ _ _ (T0.setTop (mkF m 59 #[.val (.long x0), .second, .val (.long x1), .second, .val (.int x2), .val (.long (v0_a x0)), .second, .unset, .unset, .val (.int (x2 &&& (3 : Int32))), .unset, .unset, .unset, .unset, .unset, .unset, .unset, .unset, .unset, .unset] [(.long (v0_a x0))]))
        refine g_lconst X0 hx (1 : Int64) 60 (hb hby at_59) rfl rfl ?_
        show Go p e below s _ _ _ (T0.setTop (mkF m 60 #[.val (.long x0), .second, .val (.long x1), .second, .val (.int x2), .val (.long (v0_a x0)), .second, .unset, .unset, .val (.int (x2 &&& (3 : Int32))), .unset, .unset, .unset, .unset, .unset, .unset, .unset, .unset, .unset, .unset] [(.long (1 : Int64)), (.long (v0_a x0))]))
        refine g_lloadN X0 hx 61 (hb hby at_60) rfl rfl ?_
        show Go p e below s _ _ _ (T0.setTop (mkF m 61 #[.val (.long x0), .second, .val (.long x1), .second, .val (.int x2), .val (.long (v0_a x0)), .second, .unset, .unset, .val (.int (x2 &&& (3 : Int32))), .unset, .unset, .unset, .unset, .unset, .unset, .unset, .unset, .unset, .unset] [(.long x1), (.long (1 : Int64)), (.long (v0_a x0))]))
        refine g_ldc2_w X0 hx hZ hown (hw _ (List.mem_of_getElem? (i := 12) rfl)) 64 (hb hby at_61) rfl ?_
        show Go p e below s _ _ _ (T0.setTop (mkF m 64 #[.val (.long x0), .second, .val (.long x1), .second, .val (.int x2), .val (.long (v0_a x0)), .second, .unset, .unset, .val (.int (x2 &&& (3 : Int32))), .unset, .unset, .unset, .unset, .unset, .unset, .unset, .unset, .unset, .unset] [(.long (62 : Int64)), (.long x1), (.long (1 : Int64)), (.long (v0_a x0))]))
        refine g_land X0 hx 65 (hb hby at_64) rfl ?_
        show Go p e below s _ _ _ (T0.setTop (mkF m 65 #[.val (.long x0), .second, .val (.long x1), .second, .val (.int x2), .val (.long (v0_a x0)), .second, .unset, .unset, .val (.int (x2 &&& (3 : Int32))), .unset, .unset, .unset, .unset, .unset, .unset, .unset, .unset, .unset, .unset] [(.long (x1 &&& (62 : Int64))), (.long (1 : Int64)), (.long (v0_a x0))]))
        refine g_l2i X0 hx 66 (hb hby at_65) rfl ?_
        show Go p e below s _ _ _ (T0.setTop (mkF m 66 #[.val (.long x0), .second, .val (.long x1), .second, .val (.int x2), .val (.long (v0_a x0)), .second, .unset, .unset, .val (.int (x2 &&& (3 : Int32))), .unset, .unset, .unset, .unset, .unset, .unset, .unset, .unset, .unset, .unset] [(.int ((x1 &&& (62 : Int64)).toInt32)), (.long (1 : Int64)), (.long (v0_a x0))]))
        refine g_lshl X0 hx 67 (hb hby at_66) rfl ?_
        show Go p e below s _ _ _ (T0.setTop (mkF m 67 #[.val (.long x0), .second, .val (.long x1), .second, .val (.int x2), .val (.long (v0_a x0)), .second, .unset, .unset, .val (.int (x2 &&& (3 : Int32))), .unset, .unset, .unset, .unset, .unset, .unset, .unset, .unset, .unset, .unset] [(.long (shlJ (1 : Int64) ((x1 &&& (62 : Int64)).toInt32))), (.long (v0_a x0))]))
        refine g_lxor X0 hx 68 (hb hby at_67) rfl ?_
        show Go p e below s _ _ _ (T0.setTop (mkF m 68 #[.val (.long x0), .second, .val (.long x1), .second, .val (.int x2), .val (.long (v0_a x0)), .second, .unset, .unset, .val (.int (x2 &&& (3 : Int32))), .unset, .unset, .unset, .unset, .unset, .unset, .unset, .unset, .unset, .unset] [(.long ((v0_a x0) ^^^ (shlJ (1 : Int64) ((x1 &&& (62 : Int64)).toInt32))))]))
        refine g_lstore X0 hx #[.val (.long x0), .second, .val (.long x1), .second, .val (.int x2), .val (.long (v0_a x0)), .second, .val (.long ((v0_a x0) ^^^ (shlJ (1 : Int64) ((x1 &&& (62 : Int64)).toInt32)))), .second, .val (.int (x2 &&& (3 : Int32))), .unset, .unset, .unset, .unset, .unset, .unset, .unset, .unset, .unset, .unset] 70 (hb hby at_68) rfl rfl ?_
        show Go p e below s _ _ _ (T0.setTop (mkF m 70 #[.val (.long x0), .second, .val (.long x1), .second, .val (.int x2), .val (.long (v0_a x0)), .second, .val (.long ((v0_a x0) ^^^ (shlJ (1 : Int64) ((x1 &&& (62 : Int64)).toInt32)))), .second, .val (.int (x2 &&& (3 : Int32))), .unset, .unset, .unset, .unset, .unset, .unset, .unset, .unset, .unset, .unset] []))
        refine g_goto X0 hx 76 (hb hby at_70) (by decide) rfl ?_
        show Go p e below s _ _ _ (T0.setTop (mkF m 76 #[.val (.long x0), .second, .val (.long x1), .second, .val (.int x2), .val (.long (v0_a x0)), .second, .val (.long ((v0_a x0) ^^^ (shlJ (1 : Int64) ((x1 &&& (62 : Int64)).toInt32)))), .second, .val (.int (x2 &&& (3 : Int32))), .unset, .unset, .unset, .unset, .unset, .unset, .unset, .unset, .unset, .unset] []))
        have q1 := J1
        simp only [z0_76_l7_1, if_neg h26, if_neg h27, if_pos h28] at q1
        exact q1
      · show Go p e below s _ _ _ (T0.setTop (mkF m 73 #[.val (.long x0), .second, .val (.long x1), .second, .val (.int x2), .val (.long (v0_a x0)), .second, .unset, .unset, .val (.int (x2 &&& (3 : Int32))), .unset, .unset, .unset, .unset, .unset, .unset, .unset, .unset, .unset, .unset] []))
        refine g_lconst X0 hx (0 : Int64) 74 (hb hby at_73) rfl rfl ?_
        show Go p e below s _ _ _ (T0.setTop (mkF m 74 #[.val (.long x0), .second, .val (.long x1), .second, .val (.int x2), .val (.long (v0_a x0)), .second, .unset, .unset, .val (.int (x2 &&& (3 : Int32))), .unset, .unset, .unset, .unset, .unset, .unset, .unset, .unset, .unset, .unset] [(.long (0 : Int64))]))
        refine g_lstore X0 hx #[.val (.long x0), .second, .val (.long x1), .second, .val (.int x2), .val (.long (v0_a x0)), .second, .val (.long (0 : Int64)), .second, .val (.int (x2 &&& (3 : Int32))), .unset, .unset, .unset, .unset, .unset, .unset, .unset, .unset, .unset, .unset] 76 (hb hby at_74) rfl rfl ?_
        show Go p e below s _ _ _ (T0.setTop (mkF m 76 #[.val (.long x0), .second, .val (.long x1), .second, .val (.int x2), .val (.long (v0_a x0)), .second, .val (.long (0 : Int64)), .second, .val (.int (x2 &&& (3 : Int32))), .unset, .unset, .unset, .unset, .unset, .unset, .unset, .unset, .unset, .unset] []))
        have q1 := J1
        simp only [z0_76_l7_1, if_neg h26, if_neg h27, if_neg h28] at q1
        exact q1
/-- the number that a long's 64 bits write -/
def own_N (x : Int64) : Nat := x.toBitVec.toNat
theorem own_Nlt (x : Int64) : own_N x < 2 ^ 64 := x.toBitVec.isLt
theorem own_Ninj {x y : Int64} (h : own_N x = own_N y) : x = y := Int64.toBitVec_inj.mp (BitVec.eq_of_toNat_eq h)
theorem own_Nxor (x y : Int64) : own_N (x ^^^ y) = own_N x ^^^ own_N y := by simp [own_N]
theorem own_Nmul (x y : Int64) : own_N (x * y) = (own_N x * own_N y) % 2 ^ 64 := by simp [own_N]
theorem own_Nadd (x y : Int64) : own_N (x + y) = (own_N x + own_N y) % 2 ^ 64 := by simp [own_N]
theorem own_Nmax (x : Int64) : own_N (x &&& 9223372036854775807) = own_N x % 2 ^ 63 := by
  have : own_N (x &&& 9223372036854775807) = own_N x &&& (2 ^ 63 - 1) := by simp [own_N]
  rw [this, Nat.and_two_pow_sub_one_eq_mod]
theorem own_None (x : Int64) : own_N (x &&& 1) = own_N x % 2 := by
  have : own_N (x &&& 1) = own_N x &&& (2 ^ 1 - 1) := by simp [own_N]
  rw [this, Nat.and_two_pow_sub_one_eq_mod]
theorem own_Nshr (x : Int64) (q : Int32) (k : UInt64) (hk : (q &&& 0x3f).toInt64.toUInt64 = k) (hl : k.toNat < 64) : own_N (ushrJ x q) = own_N x >>> k.toNat := by
  have : own_N (ushrJ x q) = (x.toUInt64 >>> k).toBitVec.toNat := by unfold ushrJ own_N; rw [hk]; rfl
  rw [this, UInt64.toBitVec_shiftRight]
  simp [own_N, Nat.mod_eq_of_lt hl]
theorem own_xs {n m k : Nat} (hk : 0 < k) (h : n ^^^ (n >>> k) = m ^^^ (m >>> k)) : n = m := by
  have e : n ^^^ m = (n ^^^ m) >>> k := by
    rw [Nat.shiftRight_xor_distrib]
    calc n ^^^ m = (n ^^^ (n >>> k)) ^^^ (n >>> k) ^^^ m := by rw [Nat.xor_assoc n, Nat.xor_self, Nat.xor_zero]
      _ = (m ^^^ (m >>> k)) ^^^ (n >>> k) ^^^ m := by rw [h]
      _ = (n >>> k) ^^^ (m >>> k) := by
        rw [Nat.xor_comm m, Nat.xor_assoc, Nat.xor_assoc, Nat.xor_comm m, Nat.xor_assoc, Nat.xor_self, Nat.xor_zero, Nat.xor_comm]
  have z : n ^^^ m = 0 := by
    rcases Nat.eq_zero_or_pos (n ^^^ m) with z | z
    · exact z
    · have := Nat.div_lt_self z (Nat.one_lt_two_pow (Nat.pos_iff_ne_zero.mp hk))
      rw [Nat.shiftRight_eq_div_pow] at e
      omega
  have := congrArg (· ^^^ m) z
  simpa [Nat.xor_assoc] using this
theorem own_xslt {n k B : Nat} (h : n < 2 ^ B) : n ^^^ (n >>> k) < 2 ^ B := Nat.xor_lt_two_pow h (by rw [Nat.shiftRight_eq_div_pow]; exact Nat.lt_of_le_of_lt (Nat.div_le_self _ _) h)
theorem own_mul {u w c d : Nat} (hc : (c * d) % 2 ^ 63 = 1) (hu : u < 2 ^ 63) (hw : w < 2 ^ 63) (h : (u * c) % 2 ^ 63 = (w * c) % 2 ^ 63) : u = w := by
  have e : ∀ z, z < 2 ^ 63 → ((z * c) % 2 ^ 63 * d) % 2 ^ 63 = z := fun z hz => by
    rw [Nat.mod_mul_mod, Nat.mul_assoc, Nat.mul_mod, hc, Nat.mul_one, Nat.mod_mod, Nat.mod_eq_of_lt hz]
  rw [← e u hu, ← e w hw, h]
theorem own_step {a b : Int64} (ha : own_N a < 2 ^ 63) (hb : own_N b < 2 ^ 63) (h : f1 a = f1 b) : a = b := by
  have m1 : ∀ z, own_N (v1_m1 z) = ((own_N z ^^^ (own_N z >>> 31)) * 13787848793156543929) % 2 ^ 63 := fun z => by
    unfold v1_m1
    rw [own_Nmax, own_Nmul, own_Nxor, own_Nshr z 31 31 (by decide) (by decide), Nat.mod_mod_of_dvd _ (by decide)]
    rfl
  have m2 : ∀ z, own_N (v1_m2 z) = ((own_N (v1_m1 z) ^^^ (own_N (v1_m1 z) >>> 29)) * 10723151780598845931) % 2 ^ 63 := fun z => by
    unfold v1_m2
    rw [own_Nmax, own_Nmul, own_Nxor, own_Nshr (v1_m1 z) 29 29 (by decide) (by decide), Nat.mod_mod_of_dvd _ (by decide)]
    rfl
  have m3 : ∀ z, own_N (v1_m3 z) = own_N (v1_m2 z) ^^^ (own_N (v1_m2 z) >>> 32) := fun z => by
    unfold v1_m3
    rw [own_Nxor, own_Nshr (v1_m2 z) 32 32 (by decide) (by decide)]
    rfl
  have b1 : ∀ z, own_N (v1_m1 z) < 2 ^ 63 := fun z => by rw [m1]; exact Nat.mod_lt _ (by decide)
  have b2 : ∀ z, own_N (v1_m2 z) < 2 ^ 63 := fun z => by rw [m2]; exact Nat.mod_lt _ (by decide)
  have b3 : ∀ z, own_N (v1_m3 z) < 2 ^ 63 := fun z => by rw [m3]; exact own_xslt (b2 z)
  have h0 := congrArg own_N h
  unfold f1 at h0
  simp only [own_Nadd, own_Nmul] at h0
  have ea := b3 a
  have eb := b3 b
  have e2 : own_N 2 = 2 := rfl
  rw [e2] at h0
  have h3 : own_N (v1_m3 a) = own_N (v1_m3 b) := by have := own_Nlt (-7046029254386353131); omega
  rw [m3, m3] at h3
  have h2 := own_xs (by decide) h3
  rw [m2, m2] at h2
  have h2' := own_xs (by decide) (own_mul (d := 3573116690164977347) (by decide) (own_xslt (b1 a)) (own_xslt (b1 b)) h2)
  rw [m1, m1] at h2'
  exact own_Ninj (own_xs (by decide) (own_mul (d := 1647784300320493705) (by decide) (own_xslt ha) (own_xslt hb) h2'))
theorem own_odd (z : Int64) : f1 z &&& 1 = 1 := by
  apply own_Ninj
  rw [own_None]
  unfold f1
  rw [own_Nadd, own_Nmul]
  have e1 : own_N 1 = 1 := rfl
  have e2 : own_N 2 = 2 := rfl
  have e3 : own_N (-7046029254386353131) = 11400714819323198485 := rfl
  rw [e1, e2, e3]
  omega
theorem own_zero : f1 0 = -7046029254386353131 := by decide +kernel
theorem own_law (x y : Int64) (z : Int32) : f0 x y z = 1 := by
  have ha : own_N (v0_a x) < 2 ^ 63 := by unfold v0_a; rw [own_Nmax]; exact Nat.mod_lt _ (by decide)
  have hb : own_N (v0_b x y z) < 2 ^ 63 := by unfold v0_b; rw [own_Nmax]; exact Nat.mod_lt _ (by decide)
  unfold f0 z0_215_s0_12 z0_207_s0_11 z0_195_s0_10 z0_179_s0_9 z0_171_s0_8 z0_158_s0_7 z0_143_s0_6 z0_127_s0_5
  generalize v0_a x = a at *
  generalize v0_b x y z = b at *
  rw [if_pos (own_odd a), if_pos (own_odd b), if_pos own_zero]
  have i1 : (f1 a = f1 b) = (a = b) := propext ⟨own_step ha hb, fun q => by rw [q]⟩
  have i2 : (f1 a = -7046029254386353131) = (a = 0) := propext ⟨fun q => own_step ha (by decide) (by rw [q, own_zero]), fun q => by rw [q, own_zero]⟩
  simp only [i1, i2]
  by_cases p : a = b <;> by_cases q : a = 0 <;> simp [p, q]

set_option maxRecDepth 65536 in
set_option maxHeartbeats 40000000 in
theorem comes_1 {Post : Tables → Env → Array Value → State → Outcome → State → Prop} (hpost : ∀ tb e args s v u, (limb_1_1.after args s (.returned v) u = true ∧ limb_1_2.after args s (.returned v) u = true ∧ True) → FrameEnd s (.returned v) u (Jvm.fieldLocs frame_1_writes args s ++ Jvm.arrayLocs frame_1_arrays args s ++ Jvm.staticLocs frame_1_statics s) 0 0 → Post tb e args s (.returned v) u) :
    ArmFor flags0 classFile x code maxLocals ret World_1 tables_1 room_1 Calls_1 rest_1 Pre_1 Post := by
  intro l hfl _ _ p e ha hc hk s m args below hf hA hF happ hP
  obtain ⟨hcalls, hrest, hpre⟩ := hP
  obtain ⟨-, -, -, hnamed, -, -, -, hat⟩ := (Spec.applies_iff hf).mp happ
  obtain ⟨hg, hn⟩ := and_e (Cond.before_iff.mp (show (Jvm.Cond.and given_1 narrow_1).before args s = true from hpre))
  obtain ⟨g1, g2⟩ := and_e hg
  obtain ⟨g3, g4⟩ := and_e g2
  obtain ⟨g5, g6⟩ := and_e g4
  obtain ⟨w0, w1, w2, rfl⟩ : ∃ w0 w1 w2 : Value, args = #[w0, w1, w2] := by
    have hs : args.size = 3 := by simpa [Cond.value, given_1] using g1
    obtain ⟨L⟩ := args
    match L, hs with
    | [w0, w1, w2], _ => exact ⟨w0, w1, w2, rfl⟩
  have hw := fun d (hd : d ∈ tables_1) => atoms_spec (ws := Jvm.Cond.code x code maxLocals ret :: tables_1) hat d (List.mem_cons_of_mem _ hd)
  obtain ⟨i0, ei0⟩ := isL_v g3
  obtain rfl : w0 = (.long i0) := Option.some.inj ei0
  obtain ⟨i1, ei1⟩ := isL_v g5
  obtain rfl : w1 = (.long i1) := Option.some.inj ei1
  obtain ⟨i2, ei2⟩ := is_v g6
  obtain rfl : w2 = (.int i2) := Option.some.inj ei2
  obtain ⟨n, o, h1, h2, h3, _, L, rfl, ⟨rfl, rfl, N⟩, hq⟩ := rm0 l s _ hw tables_1 i0 i1 i2 s.heap p e ha hc hk s m _ below hf ((Spec.applies_iff_loose hf).mp happ).1 ⟨rfl, State.Warmed39.refl s, rfl⟩ trivial
  have hlaw : (f0 i0 i1 i2) = 1 := own_law i0 i1 i2
  rw [hlaw] at h3 hq
  refine ⟨n, _, h1, h2, h3, hpost _ _ _ _ _ _ ⟨Cond.after_iff.mpr rfl, Cond.after_iff.mpr (eq_i res_at (Term.int_eval (1)) rfl), trivial⟩ ⟨hq.1, hq.2.1, (hq.2.2.sift fun y hy => nomatch hy).mono (by decide) (by decide)⟩⟩
theorem main_1_1 : Claimed_1_1 := comes_1 fun _ _ _ _ _ _ h hF => ⟨h.1, hF⟩
theorem main_1_2 : Claimed_1_2 := comes_1 fun _ _ _ _ _ _ h hF => ⟨h.2.1, hF⟩
end Jvm.Pilot.@@N@@
namespace Jvm.Pilot.@@N@@
open Jvm Jvm.ClassFile Sem Op Lib Jvm.Free Jvm.Stand Jvm.Pilot.@@N@@.Jvm.D
/-! MADE BY PROGRAM (witnessworld.py) out of the Statement's table words and the real class files: 9 classes; the members and pool entries that the words name. The judged class is class 1, her method 1. -/
namespace start1
open Jvm.ClassFile
def u (s : String) : CpInfo := .utf8 (stringToUtf16 s)
/-- a pool by its gaps: so many unusable entries, then the entry; so many at the end -/
def gap : Nat → List CpInfo → List CpInfo
  | 0, r => r
  | n + 1, r => .unusable :: gap n r
def poolList (es : List (Nat × CpInfo)) (last : Nat) : List CpInfo := es.foldr (fun e r => gap e.1 (e.2 :: r)) (gap last [])
def pool (es : List (Nat × CpInfo)) (last : Nat) : Array CpInfo := ⟨poolList es last⟩
def fileOf (pool : Array CpInfo) (this : Nat) (attrs : Array Attribute := #[]) (ms : Array MethodInfo := #[]) (fl : Nat := 33) (sup : Nat := 0) (ifs : Array Nat := #[]) (fds : Array FieldInfo := #[]) : ClassFile where
  minorVersion := 0
  majorVersion := 65
  constantPool := pool
  accessFlags := fl
  thisClass := this
  superClass := sup
  interfaces := ifs
  fields := fds
  methods := ms
  attributes := attrs
def plain (name : String) (sup : Option ClassId) : Class where
  name := name
  kind := .ordinary
  loader := none
  accessFlags := 33
  super := sup
  interfaces := #[]
  cf := none
  fields := #[]
  methods := #[]
  instanceTypes := #[]
  staticTypes := #[]
  resolved := #[]
  callSites := []
  init := .initialized
  statics := none
  mirror := none

def pool0 : Array CpInfo := pool [(5, u "<init>"), (0, u "()V"), (1, .class_ 10), (1, u "java/lang/Object")] 113

def k0m0 : Method := { name := "<init>", desc := "()V", sig := { parameters := [], returnType := none }, accessFlags := 1, code := none }
/-- java/lang/Object -/
def k0 : Class := { plain "java/lang/Object" none with
  accessFlags := 33
  interfaces := #[]
  cf := some (fileOf pool0 8 #[] #[{ accessFlags := 1, nameIndex := 5, descriptorIndex := 6, attributes := #[] }] 33 0 #[] #[])
  fields := #[]
  methods := #[k0m0]
  instanceTypes := #[]
  staticTypes := #[]
  resolved := Array.replicate 124 none
  statics := none }

def pool1 : Array CpInfo := pool [(2, .class_ 4), (1, u "java/lang/Object"), (0, u "<init>"), (0, u "()V"), (2, .long 9223372036854775807), (1, .long 255), (1, .long 62), (1, .methodref 16 17), (0, .class_ 18), (0, .nameAndType 19 20), (0, u "com/example/varietal/varietal/core/random/SeededRandom"), (0, u "step"), (0, u "(J)J"), (0, .class_ 22), (0, u "com/example/varietal/varietal/core/random/SeededRandomStepPinLaw"), (0, .long 11400714819323198485), (1, u "SPLITMIX_STEP"), (0, u "J"), (3, u "law"), (0, u "(JJI)Z")] 3

def k1m0 : Method := { name := "<init>", desc := "()V", sig := { parameters := [], returnType := none }, accessFlags := 1, code := none }
def k1c1 : Code := { maxStack := 8, maxLocals := 20, code := code, exceptionTable := #[], attributes := #[] }
def k1m1 : Method := { name := "law", desc := "(JJI)Z", sig := { parameters := [.long, .long, .int], returnType := some .boolean }, accessFlags := 9, code := some k1c1 }
/-- com/example/varietal/varietal/core/random/SeededRandomStepPinLaw -/
def k1 : Class := { plain "com/example/varietal/varietal/core/random/SeededRandomStepPinLaw" (some 0) with
  accessFlags := 49
  interfaces := #[]
  cf := some (fileOf pool1 21 #[] #[{ accessFlags := 1, nameIndex := 5, descriptorIndex := 6, attributes := #[] }, { accessFlags := 9, nameIndex := 30, descriptorIndex := 31, attributes := #[] }] 49 2 #[] #[{ accessFlags := 26, nameIndex := 25, descriptorIndex := 26, attributes := #[] }])
  fields := #[{ name := "SPLITMIX_STEP", type := .long, accessFlags := 26, slot := 0, constantValue := 0 }]
  methods := #[k1m0, k1m1]
  instanceTypes := #[]
  staticTypes := #[.long]
  resolved := Array.replicate 35 none
  statics := none }

def pool2 : Array CpInfo := pool [(4, .class_ 6), (1, u "java/lang/Object"), (2, .class_ 10), (0, u "com/example/varietal/varietal/core/random/SeededRandom"), (0, .long 11400714819323198485), (3, u "step"), (0, u "J"), (2, u "seed"), (2, u "state"), (2, u "stream"), (2, u "(J)J"), (0, .long 13787848793156543929), (1, .long 10723151780598845931), (1, .long 9223372036854775807), (5, .long 2), (1, u "STEP"), (1, u "LOW_63_BITS")] 11

def k2c0 : Code := { maxStack := 6, maxLocals := 4, code := prog_9_method_6_code, exceptionTable := #[], attributes := #[] }
def k2m0 : Method := { name := "step", desc := "(J)J", sig := { parameters := [.long], returnType := some .long }, accessFlags := 8, code := some k2c0 }
/-- com/example/varietal/varietal/core/random/SeededRandom -/
def k2 : Class := { plain "com/example/varietal/varietal/core/random/SeededRandom" (some 0) with
  accessFlags := 32
  interfaces := #[]
  cf := some (fileOf pool2 9 #[] #[{ accessFlags := 8, nameIndex := 15, descriptorIndex := 28, attributes := #[] }] 32 4 #[] #[{ accessFlags := 26, nameIndex := 41, descriptorIndex := 16, attributes := #[] }, { accessFlags := 26, nameIndex := 43, descriptorIndex := 16, attributes := #[] }, { accessFlags := 18, nameIndex := 19, descriptorIndex := 16, attributes := #[] }, { accessFlags := 2, nameIndex := 25, descriptorIndex := 16, attributes := #[] }, { accessFlags := 2, nameIndex := 15, descriptorIndex := 16, attributes := #[] }, { accessFlags := 2, nameIndex := 22, descriptorIndex := 16, attributes := #[] }])
  fields := #[{ name := "STEP", type := .long, accessFlags := 26, slot := 0, constantValue := 0 }, { name := "LOW_63_BITS", type := .long, accessFlags := 26, slot := 1, constantValue := 0 }, { name := "seed", type := .long, accessFlags := 18, slot := 0, constantValue := 0 }, { name := "stream", type := .long, accessFlags := 2, slot := 1, constantValue := 0 }, { name := "step", type := .long, accessFlags := 2, slot := 2, constantValue := 0 }, { name := "state", type := .long, accessFlags := 2, slot := 3, constantValue := 0 }]
  methods := #[k2m0]
  instanceTypes := #[.long, .long, .long, .long]
  staticTypes := #[.long, .long]
  resolved := Array.replicate 55 none
  statics := none }

def pool3 : Array CpInfo := pool [(1, u "java/lang/Cloneable"), (0, .class_ 1), (0, u "java/lang/Object"), (0, .class_ 3)] 3

/-- java/lang/Cloneable -/
def k3 : Class := { plain "java/lang/Cloneable" (some 0) with
  accessFlags := 1537
  interfaces := #[]
  cf := some (fileOf pool3 2 #[] #[] 1537 4 #[] #[])
  fields := #[]
  methods := #[]
  instanceTypes := #[]
  staticTypes := #[]
  resolved := Array.replicate 8 none
  statics := none }

def pool4 : Array CpInfo := pool [(1, u "java/io/Serializable"), (0, .class_ 1), (0, u "java/lang/Object"), (0, .class_ 3)] 3

/-- java/io/Serializable -/
def k4 : Class := { plain "java/io/Serializable" (some 0) with
  accessFlags := 1537
  interfaces := #[]
  cf := some (fileOf pool4 2 #[] #[] 1537 4 #[] #[])
  fields := #[]
  methods := #[]
  instanceTypes := #[]
  staticTypes := #[]
  resolved := Array.replicate 8 none
  statics := none }

/-- the primitive byte -/
def k5 : Class := { plain "byte" none with kind := .primitive 'B', accessFlags := 0x411 }
/-- [B -/
def k6 : Class := { plain "[B" (some 0) with kind := .array 5 .byte, interfaces := #[3, 4], accessFlags := 1041 }

/-- the primitive int -/
def k7 : Class := { plain "int" none with kind := .primitive 'I', accessFlags := 0x411 }
/-- [I -/
def k8 : Class := { plain "[I" (some 0) with kind := .array 7 .int, interfaces := #[3, 4], accessFlags := 1041 }

def heap : Heap := #[]
def classes : Array Class := #[k0, k1, k2, k3, k4, k5, k6, k7, k8]
def interned : List (Array UInt16 × Addr) := []
def slotsUsed : Nat := 0
def theMethod : MethodId := ⟨1, 1⟩
def args0 : Array Value := #[.long 53, .long 7, .int 2]
def aboutOver (below : List Frame) : State where
  vm := { classes := classes, interned := interned.toArray }
  heap := heap
  slotsUsed := slotsUsed
  threads := #[{ frames := .invoking theMethod args0 :: below }]
def below0 : List Frame := [.native { method := ⟨0, 0⟩, args := #[] }]
def about1 : State := aboutOver below0
def p0 : Program := .bare "" "" ""
def e0 : Env := launch0.env 0 0 0
theorem w_frames : about1.frames = Frame.invoking theMethod args0 :: below0 := rfl
set_option maxRecDepth 65536 in
theorem w_args : argsFit about1.vm theMethod args0 = true := by decide +kernel
set_option maxRecDepth 65536 in
theorem w_heap : heapFits about1 = true := by decide +kernel
set_option maxRecDepth 65536 in
theorem w_runnable : about1.curStatus? = some .runnable := by decide +kernel
set_option maxRecDepth 65536 in
theorem w_alone : about1.alone = true := by decide +kernel
set_option maxRecDepth 65536 in
theorem w_named : about1.methodNamed? x = some theMethod := by decide +kernel
set_option maxRecDepth 65536 in
theorem w_hears : about1.hears theMethod below0 = true := by decide +kernel
set_option maxRecDepth 65536 in
theorem w_ripe : about1.ripe theMethod args0 below0 = true := by decide +kernel
theorem w_running : about1.status = .running := rfl
set_option maxRecDepth 65536 in
theorem w_room : about1.hasRoom e0.platform room_1 = true :=
  launch0.hasRoom_least _ room_1 (by decide +kernel) (by decide +kernel) (by decide +kernel) (by decide +kernel) (by decide +kernel) (by decide +kernel)
theorem allAtoms_all (ts : List Jvm.Cond) (a : Array Jvm.Value) (st : Jvm.State) : (allAtoms ts).before a st = ts.all (fun c => c.before a st) := by
  induction ts with
  | nil => rfl
  | cons c t ih =>
    show (Jvm.Cond.and c (allAtoms t)).before a st = _
    rw [Jvm.Cond.before_and, ih, List.all_cons]
def words1 : List Jvm.Cond := Jvm.Cond.code x code maxLocals ret :: tables_1
/-- a 'code' word, met by the world's own term for the bytes: nothing is compared byte by byte -/
theorem code_word {y : MethodName} {bytes : ByteArray} {mx : Nat} {rt : Option FieldType} {a : Array Value} {s : State} {m : MethodId} {meth : Method} {c : Code} (h1 : s.methodNamed? y = some m) (h2 : s.vm.method? m = some meth) (h3 : meth.code = some c) (h4 : c.code = bytes)
    (h5 : (c.maxLocals == mx && c.exceptionTable.isEmpty && decide (c.maxStack ≤ mostOperands) && decide (meth.sig.returnType = rt) && !meth.locks && decide (parseMethodDescriptor y.desc = some meth.sig)) = true) : (Jvm.Cond.code y bytes mx rt).before a s = true := by
  simp only [Bool.and_eq_true, beq_iff_eq, Bool.not_eq_true', decide_eq_true_eq] at h5
  obtain ⟨⟨⟨⟨⟨g1, g2⟩, g3⟩, g4⟩, g5⟩, g6⟩ := h5
  simp [Cond.before, Cond.holds, Cond.value, h1, h2, h3, h4, g1, g2, g3, g4, g5, g6]
def isCode : Jvm.Cond → Bool
  | .code _ _ _ _ => true
  | _ => false
theorem all_split {L : List Jvm.Cond} {P : Jvm.Cond → Bool} (h1 : L.all (fun c => isCode c || P c) = true) (h2 : ∀ c ∈ L.filter isCode, P c = true) : L.all P = true := by
  refine List.all_eq_true.mpr fun c hc => ?_
  have h := List.all_eq_true.mp h1 c hc
  rcases Bool.eq_false_or_eq_true (isCode c) with hi | hi
  · exact h2 c (List.mem_filter.mpr ⟨hc, hi⟩)
  · simpa [hi] using h
set_option maxRecDepth 65536 in
theorem w_c0 : (Jvm.Cond.code x code maxLocals ret).before args0 about1 = true := code_word (m := ⟨1, 1⟩) (meth := k1m1) (c := k1c1) (by decide +kernel) rfl rfl rfl (by decide +kernel)
set_option maxRecDepth 65536 in
theorem w_c1 : (Jvm.Cond.code ({ cls := "com/example/varietal/varietal/core/random/SeededRandom", name := "step", desc := "(J)J" } : Jvm.MethodName) prog_9_method_6_code (4 : Nat) (Option.some Jvm.ClassFile.FieldType.long)).before args0 about1 = true := code_word (m := ⟨2, 0⟩) (meth := k2m0) (c := k2c0) (by decide +kernel) rfl rfl rfl (by decide +kernel)
def codes1 : List Jvm.Cond := [Jvm.Cond.code x code maxLocals ret, Jvm.Cond.code ({ cls := "com/example/varietal/varietal/core/random/SeededRandom", name := "step", desc := "(J)J" } : Jvm.MethodName) prog_9_method_6_code (4 : Nat) (Option.some Jvm.ClassFile.FieldType.long)]
set_option maxRecDepth 65536 in
theorem codes_eq : words1.filter isCode = codes1 := rfl
theorem w_codes : ∀ c ∈ words1.filter isCode, c.before args0 about1 = true := by
  rw [codes_eq]
  intro c hc
  simp only [codes1, List.mem_cons, List.not_mem_nil, or_false] at hc
  rcases hc with rfl | rfl
  · exact w_c0
  · exact w_c1
set_option maxRecDepth 65536 in
theorem w_t1 : words1.all (fun c => isCode c || c.before args0 about1) = true := by decide +kernel
theorem w_tables : (allAtoms (Jvm.Cond.code x code maxLocals ret :: tables_1)).before args0 about1 = true := by
  rw [allAtoms_all]
  show words1.all (fun c => c.before args0 about1) = true
  refine all_split ?_ w_codes
  rw [w_t1]
set_option maxRecDepth 65536 in
theorem w_case : (Jvm.Cond.and given_1 narrow_1).before args0 about1 = true := by decide +kernel
theorem w_applies : (headSpec (Jvm.Cond.code x code maxLocals ret :: tables_1) room_1).applies x e0.platform about1 = true :=
  (Spec.applies_iff w_frames).mpr ⟨w_running, w_runnable, w_alone, w_named, w_hears, w_ripe, w_room, w_tables⟩
theorem atStart : AtStart classFile x code maxLocals ret World_1 tables_1 room_1 Calls_1 rest_1 Pre_1 launch0 p0 e0 about1 theMethod args0 below0 :=
  ⟨lists_1, trivial, launch0.admits_env _ _ _, launch0.least_env, fairChoices_fair.cas, fairChoices_fair.clock, w_frames, w_args, w_heap, w_applies, trivial, trivial, w_case⟩
end start1
theorem witness_1 : WitnessClaimed_1 := ⟨start1.p0, start1.e0, start1.about1, start1.theMethod, start1.args0, start1.below0, start1.atStart⟩
end Jvm.Pilot.@@N@@
