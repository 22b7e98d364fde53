import JvmDerived
import JvmDerived.Pilot.@@N@@Statement
import JvmDerived.Pilot.@@N@@Code
set_option linter.unusedVariables false
set_option linter.unusedSimpArgs false
namespace Jvm.RoadKit
open Sem ClassFile Op Lib Jvm.Stand Jvm.Free Jvm.LawKit
section New
variable {p : Program} {l : Launch} {e : Env} {R : Room} {s : State} {m : MethodId} {args : Array Value} {below : List Frame} {meth : Method} {c : Code} {T : State} {locs : List Loc} {cells slots : Nat}
theorem retI (X : Stand p l e R s m args below meth c T locs cells slots) (hx : p.tables.exec = Jvm.exec) {pc : Nat} {Ls : Array Slot} {z : Int32} {rest : List Value} (hret : meth.sig.returnType = some .int) (hd : decode c.code pc = .ok (.ireturn, 1)) {fs : List Frame}
    (hl : ∀ (f : JFrame) (acts : List Action), f.method = m → f.locked = none → f.entered = [] → (doReturn e (T.setTop f) acts (some (.int z))).1 = T.setFrames fs) : Steps p.tables e below (T.setTop (mkF m pc Ls (.int z :: rest))) (T.setFrames fs) := by
  have hm' : T.vm.method? m = some meth := X.method'
  have hn : narrow .int (.int z) = .int z := rfl
  show Steps p.tables e below (T.setTop { method := m, pc := pc, locals := Ls, stack := _ :: rest, locked := none }) _
  jvm_step X.here [X.here.top, hx, hd, hm', hret, hn]
  first | (intro acts; rw [hl _ acts rfl rfl rfl]) | rw [hl _ _ rfl rfl rfl]
  exact Steps.refl _
end New
end Jvm.RoadKit
namespace Jvm.Pilot.@@N@@
open Jvm Jvm.ClassFile Sem Op Lib Jvm.Free Jvm.Stand Jvm.LawKit Jvm.RoadKit Bundle Jvm.Pilot.@@N@@.Jvm.D
section OwnKit
variable {p : Program} {l : Launch} {e : Env} {R : Room} {s : State} {m : MethodId} {args : Array Value} {below : List Frame} {meth : Method} {c : Code} {T : State} {locs : List Loc} {cells slots : Nat} {Z : State} {a0 : Array Value} {h : Heap}
variable {Q : Option Value → Heap → List Loc → Prop} {rc rs pc : Nat} {Ls : Array Slot} {st : List Value}
def Go (p : Program) (e : Env) (below : List Frame) (s : State) (Q : Option Value → Heap → List Loc → Prop) (rc rs : Nat) (F : State) : Prop :=
  ∃ s₂ o, Steps p.tables e below F s₂ ∧ s₂.status = .running ∧ Ended s₂ below o ∧ ∃ v L, o = .returned v ∧ Q v s₂.heap L ∧ FrameEnd s o s₂ L rc rs
theorem Go.by {F F' : State} (g : Go p e below s Q rc rs F') (h : ∀ t, Steps p.tables e below F' t → Steps p.tables e below F t) : Go p e below s Q rc rs F := by
  obtain ⟨s2, o, h1, r⟩ := g
  exact ⟨s2, o, h _ h1, r⟩
def shlI (x y : Int32) : Int32 := x <<< (y &&& 31)
def shrI (x y : Int32) : Int32 := x >>> (y &&& 31)
def ushrI (x y : Int32) : Int32 := (x.toUInt32 >>> (y &&& 31).toUInt32).toInt32
def shlJ (x : Int64) (y : Int32) : Int64 := x <<< (y &&& 0x3f).toInt64
def shrJ (x : Int64) (y : Int32) : Int64 := x >>> (y &&& 0x3f).toInt64
def ushrJ (x : Int64) (y : Int32) : Int64 := (x.toUInt64 >>> (y &&& 0x3f).toInt64.toUInt64).toInt64
def i2bI (x : Int32) : Int32 := x.toInt8.toInt32
def i2cI (x : Int32) : Int32 := x.toUInt32.toUInt16.toUInt32.toInt32
def i2sI (x : Int32) : Int32 := x.toInt16.toInt32
theorem g_iload (X : Stand p l e R s m args below meth c T locs cells slots) (hx : p.tables.exec = Jvm.exec) {k : Nat} {v : Int32} (pc' : Nat) (hd : decode c.code pc = .ok (.iload k, 2)) (hl : Ls[k]? = some (.val (.int v))) (hp : pc + 2 = pc') (g : Go p e below s Q rc rs (T.setTop (mkF m pc' Ls (.int v :: st)))) : Go p e below s Q rc rs (T.setTop (mkF m pc Ls st)) := by
  subst hp; exact g.by fun t k => XS.iload X.here hx rfl hd hl k
theorem g_iloadN (X : Stand p l e R s m args below meth c T locs cells slots) (hx : p.tables.exec = Jvm.exec) {k : Fin 4} {v : Int32} (pc' : Nat) (hd : decode c.code pc = .ok (.iload_n k, 1)) (hl : Ls[k.val]? = some (.val (.int v))) (hp : pc + 1 = pc') (g : Go p e below s Q rc rs (T.setTop (mkF m pc' Ls (.int v :: st)))) : Go p e below s Q rc rs (T.setTop (mkF m pc Ls st)) := by
  subst hp; exact g.by fun t k => XS.iloadN X.here hx rfl hd hl k
theorem g_istore (X : Stand p l e R s m args below meth c T locs cells slots) (hx : p.tables.exec = Jvm.exec) {k : Nat} {v : Int32} (l' : Array Slot) (pc' : Nat) (hd : decode c.code pc = .ok (.istore k, 2)) (hl : storeLocals Ls k (.int v) = some l') (hp : pc + 2 = pc') (g : Go p e below s Q rc rs (T.setTop (mkF m pc' l' st))) : Go p e below s Q rc rs (T.setTop (mkF m pc Ls (.int v :: st))) := by
  subst hp; exact g.by fun t k => XS.istore X.here hx rfl hd rfl hl k
theorem g_istoreN (X : Stand p l e R s m args below meth c T locs cells slots) (hx : p.tables.exec = Jvm.exec) {k : Fin 4} {v : Int32} (l' : Array Slot) (pc' : Nat) (hd : decode c.code pc = .ok (.istore_n k, 1)) (hl : storeLocals Ls k.val (.int v) = some l') (hp : pc + 1 = pc') (g : Go p e below s Q rc rs (T.setTop (mkF m pc' l' st))) : Go p e below s Q rc rs (T.setTop (mkF m pc Ls (.int v :: st))) := by
  subst hp; exact g.by fun t k => XS.istoreN X.here hx rfl hd rfl hl k
theorem g_lload (X : Stand p l e R s m args below meth c T locs cells slots) (hx : p.tables.exec = Jvm.exec) {k : Nat} {v : Int64} (pc' : Nat) (hd : decode c.code pc = .ok (.lload k, 2)) (hl : Ls[k]? = some (.val (.long v))) (hp : pc + 2 = pc') (g : Go p e below s Q rc rs (T.setTop (mkF m pc' Ls (.long v :: st)))) : Go p e below s Q rc rs (T.setTop (mkF m pc Ls st)) := by
  subst hp; exact g.by fun t k => XS.lload X.here hx rfl hd hl k
theorem g_lloadN (X : Stand p l e R s m args below meth c T locs cells slots) (hx : p.tables.exec = Jvm.exec) {k : Fin 4} {v : Int64} (pc' : Nat) (hd : decode c.code pc = .ok (.lload_n k, 1)) (hl : Ls[k.val]? = some (.val (.long v))) (hp : pc + 1 = pc') (g : Go p e below s Q rc rs (T.setTop (mkF m pc' Ls (.long v :: st)))) : Go p e below s Q rc rs (T.setTop (mkF m pc Ls st)) := by
  subst hp; exact g.by fun t k => XS.lloadN X.here hx rfl hd hl k
theorem g_lstore (X : Stand p l e R s m args below meth c T locs cells slots) (hx : p.tables.exec = Jvm.exec) {k : Nat} {v : Int64} (l' : Array Slot) (pc' : Nat) (hd : decode c.code pc = .ok (.lstore k, 2)) (hl : storeLocals Ls k (.long v) = some l') (hp : pc + 2 = pc') (g : Go p e below s Q rc rs (T.setTop (mkF m pc' l' st))) : Go p e below s Q rc rs (T.setTop (mkF m pc Ls (.long v :: st))) := by
  subst hp; exact g.by fun t k => XS.lstore X.here hx rfl hd rfl hl k
theorem g_lstoreN (X : Stand p l e R s m args below meth c T locs cells slots) (hx : p.tables.exec = Jvm.exec) {k : Fin 4} {v : Int64} (l' : Array Slot) (pc' : Nat) (hd : decode c.code pc = .ok (.lstore_n k, 1)) (hl : storeLocals Ls k.val (.long v) = some l') (hp : pc + 1 = pc') (g : Go p e below s Q rc rs (T.setTop (mkF m pc' l' st))) : Go p e below s Q rc rs (T.setTop (mkF m pc Ls (.long v :: st))) := by
  subst hp; exact g.by fun t k => XS.lstoreN X.here hx rfl hd rfl hl k
theorem g_aload (X : Stand p l e R s m args below meth c T locs cells slots) (hx : p.tables.exec = Jvm.exec) {k : Nat} {v : Value} (pc' : Nat) (hd : decode c.code pc = .ok (.aload k, 2)) (hl : Ls[k]? = some (.val v)) (hv : v.isRef = true) (hp : pc + 2 = pc') (g : Go p e below s Q rc rs (T.setTop (mkF m pc' Ls (v :: st)))) : Go p e below s Q rc rs (T.setTop (mkF m pc Ls st)) := by
  subst hp; exact g.by fun t k => XS.aload X.here hx rfl hd hl hv k
theorem g_aloadN (X : Stand p l e R s m args below meth c T locs cells slots) (hx : p.tables.exec = Jvm.exec) {k : Fin 4} {v : Value} (pc' : Nat) (hd : decode c.code pc = .ok (.aload_n k, 1)) (hl : Ls[k.val]? = some (.val v)) (hv : v.isRef = true) (hp : pc + 1 = pc') (g : Go p e below s Q rc rs (T.setTop (mkF m pc' Ls (v :: st)))) : Go p e below s Q rc rs (T.setTop (mkF m pc Ls st)) := by
  subst hp; exact g.by fun t k => XS.aloadN X.here hx rfl hd hl hv k
theorem g_astore (X : Stand p l e R s m args below meth c T locs cells slots) (hx : p.tables.exec = Jvm.exec) {k : Nat} {v : Value} (l' : Array Slot) (pc' : Nat) (hd : decode c.code pc = .ok (.astore k, 2)) (hl : storeLocals Ls k v = some l') (hv : v.isRef = true) (hp : pc + 2 = pc') (g : Go p e below s Q rc rs (T.setTop (mkF m pc' l' st))) : Go p e below s Q rc rs (T.setTop (mkF m pc Ls (v :: st))) := by
  subst hp; exact g.by fun t k => XS.astore X.here hx rfl hd rfl hv hl k
theorem g_astoreN (X : Stand p l e R s m args below meth c T locs cells slots) (hx : p.tables.exec = Jvm.exec) {k : Fin 4} {v : Value} (l' : Array Slot) (pc' : Nat) (hd : decode c.code pc = .ok (.astore_n k, 1)) (hl : storeLocals Ls k.val v = some l') (hv : v.isRef = true) (hp : pc + 1 = pc') (g : Go p e below s Q rc rs (T.setTop (mkF m pc' l' st))) : Go p e below s Q rc rs (T.setTop (mkF m pc Ls (v :: st))) := by
  subst hp; exact g.by fun t k => XS.astoreN X.here hx rfl hd rfl hv hl k
theorem g_istoreS (X : Stand p l e R s m args below meth c T locs cells slots) (hx : p.tables.exec = Jvm.exec) {k : Nat} {v : Int32} {os : Slot} (l' : Array Slot) (pc' : Nat) (hd : decode c.code pc = .ok (.istore k, 2)) (hold : Ls[k]? = some os) (ho : One os) (hl : Ls.setIfInBounds k (.val (.int v)) = l') (hp : pc + 2 = pc') (g : Go p e below s Q rc rs (T.setTop (mkF m pc' l' st))) : Go p e below s Q rc rs (T.setTop (mkF m pc Ls ((.int v) :: st))) := by
  subst hp; exact g.by fun t k => XS.istore X.here hx rfl hd rfl (hl ▸ XS.store1 hold ho rfl) k
theorem g_istoreNS (X : Stand p l e R s m args below meth c T locs cells slots) (hx : p.tables.exec = Jvm.exec) {k : Fin 4} {v : Int32} {os : Slot} (l' : Array Slot) (pc' : Nat) (hd : decode c.code pc = .ok (.istore_n k, 1)) (hold : Ls[k.val]? = some os) (ho : One os) (hl : Ls.setIfInBounds k.val (.val (.int v)) = l') (hp : pc + 1 = pc') (g : Go p e below s Q rc rs (T.setTop (mkF m pc' l' st))) : Go p e below s Q rc rs (T.setTop (mkF m pc Ls ((.int v) :: st))) := by
  subst hp; exact g.by fun t k => XS.istoreN X.here hx rfl hd rfl (hl ▸ XS.store1 hold ho rfl) k
theorem g_astoreS (X : Stand p l e R s m args below meth c T locs cells slots) (hx : p.tables.exec = Jvm.exec) {k : Nat} {v : Value} {os : Slot} (l' : Array Slot) (pc' : Nat) (hd : decode c.code pc = .ok (.astore k, 2)) (hold : Ls[k]? = some os) (ho : One os) (hl : Ls.setIfInBounds k (.val v) = l') (hv : v.isRef = true) (hp : pc + 2 = pc') (g : Go p e below s Q rc rs (T.setTop (mkF m pc' l' st))) : Go p e below s Q rc rs (T.setTop (mkF m pc Ls (v :: st))) := by
  subst hp; exact g.by fun t k => XS.astore X.here hx rfl hd rfl hv (hl ▸ XS.store1 hold ho (by cases v <;> first | rfl | simp_all [Value.isRef])) k
theorem g_astoreNS (X : Stand p l e R s m args below meth c T locs cells slots) (hx : p.tables.exec = Jvm.exec) {k : Fin 4} {v : Value} {os : Slot} (l' : Array Slot) (pc' : Nat) (hd : decode c.code pc = .ok (.astore_n k, 1)) (hold : Ls[k.val]? = some os) (ho : One os) (hl : Ls.setIfInBounds k.val (.val v) = l') (hv : v.isRef = true) (hp : pc + 1 = pc') (g : Go p e below s Q rc rs (T.setTop (mkF m pc' l' st))) : Go p e below s Q rc rs (T.setTop (mkF m pc Ls (v :: st))) := by
  subst hp; exact g.by fun t k => XS.astoreN X.here hx rfl hd rfl hv (hl ▸ XS.store1 hold ho (by cases v <;> first | rfl | simp_all [Value.isRef])) k
theorem g_iconst (X : Stand p l e R s m args below meth c T locs cells slots) (hx : p.tables.exec = Jvm.exec) {i : Int} (v : Int32) (pc' : Nat) (hd : decode c.code pc = .ok (.iconst i, 1)) (hv : Int32.ofInt i = v) (hp : pc + 1 = pc') (g : Go p e below s Q rc rs (T.setTop (mkF m pc' Ls (.int v :: st)))) : Go p e below s Q rc rs (T.setTop (mkF m pc Ls st)) := by
  subst hp hv; exact g.by fun t k => XS.iconst X.here hx rfl hd k
theorem g_bipush (X : Stand p l e R s m args below meth c T locs cells slots) (hx : p.tables.exec = Jvm.exec) {i : Int} (v : Int32) (pc' : Nat) (hd : decode c.code pc = .ok (.bipush i, 2)) (hv : (Int8.ofInt i).toInt32 = v) (hp : pc + 2 = pc') (g : Go p e below s Q rc rs (T.setTop (mkF m pc' Ls (.int v :: st)))) : Go p e below s Q rc rs (T.setTop (mkF m pc Ls st)) := by
  subst hp hv; exact g.by fun t k => XS.bipush X.here hx rfl hd k
theorem g_sipush (X : Stand p l e R s m args below meth c T locs cells slots) (hx : p.tables.exec = Jvm.exec) {i : Int} (v : Int32) (pc' : Nat) (hd : decode c.code pc = .ok (.sipush i, 3)) (hv : (Int16.ofInt i).toInt32 = v) (hp : pc + 3 = pc') (g : Go p e below s Q rc rs (T.setTop (mkF m pc' Ls (.int v :: st)))) : Go p e below s Q rc rs (T.setTop (mkF m pc Ls st)) := by
  subst hp hv; exact g.by fun t k => XS.sipush X.here hx rfl hd k
theorem g_lconst (X : Stand p l e R s m args below meth c T locs cells slots) (hx : p.tables.exec = Jvm.exec) {i : Fin 2} (v : Int64) (pc' : Nat) (hd : decode c.code pc = .ok (.lconst i, 1)) (hv : Int64.ofNat i = v) (hp : pc + 1 = pc') (g : Go p e below s Q rc rs (T.setTop (mkF m pc' Ls (.long v :: st)))) : Go p e below s Q rc rs (T.setTop (mkF m pc Ls st)) := by
  subst hp hv; exact g.by fun t k => XS.lconst X.here hx rfl hd k
theorem g_aconst_null (X : Stand p l e R s m args below meth c T locs cells slots) (hx : p.tables.exec = Jvm.exec) (pc' : Nat) (hd : decode c.code pc = .ok (.aconst_null, 1)) (hp : pc + 1 = pc') (g : Go p e below s Q rc rs (T.setTop (mkF m pc' Ls (.null :: st)))) : Go p e below s Q rc rs (T.setTop (mkF m pc Ls st)) := by
  subst hp; exact g.by fun t k => XS.aconstNull X.here hx rfl hd k
theorem g_ldc (X : Stand p l e R s m args below meth c T locs cells slots) (hx : p.tables.exec = Jvm.exec) (hZ : Z.Warmed39 s.vm) {own : String} {i : Nat} {v : Int32} (hown : s.vm.findClass own = some m.cls) (w : (Cond.constant own i v).before a0 Z = true) (pc' : Nat) (hd : decode c.code pc = .ok (.ldc i, 2)) (hp : pc + 2 = pc') (g : Go p e below s Q rc rs (T.setTop (mkF m pc' Ls (.int v :: st)))) : Go p e below s Q rc rs (T.setTop (mkF m pc Ls st)) := by
  subst hp; exact g.by fun t k => X.ldcInt hx hown (mvT hZ w) (g := mkF m pc Ls st) rfl hd t k
theorem g_ldc_w (X : Stand p l e R s m args below meth c T locs cells slots) (hx : p.tables.exec = Jvm.exec) (hZ : Z.Warmed39 s.vm) {own : String} {i : Nat} {v : Int32} (hown : s.vm.findClass own = some m.cls) (w : (Cond.constant own i v).before a0 Z = true) (pc' : Nat) (hd : decode c.code pc = .ok (.ldc_w i, 3)) (hp : pc + 3 = pc') (g : Go p e below s Q rc rs (T.setTop (mkF m pc' Ls (.int v :: st)))) : Go p e below s Q rc rs (T.setTop (mkF m pc Ls st)) := by
  subst hp; exact g.by fun t k => X.ldcwInt hx hown (mvT hZ w) (g := mkF m pc Ls st) rfl hd t k
theorem g_ldc2_w (X : Stand p l e R s m args below meth c T locs cells slots) (hx : p.tables.exec = Jvm.exec) (hZ : Z.Warmed39 s.vm) {own : String} {i : Nat} {v : Int64} (hown : s.vm.findClass own = some m.cls) (w : (Cond.constantLong own i v).before a0 Z = true) (pc' : Nat) (hd : decode c.code pc = .ok (.ldc2_w i, 3)) (hp : pc + 3 = pc') (g : Go p e below s Q rc rs (T.setTop (mkF m pc' Ls (.long v :: st)))) : Go p e below s Q rc rs (T.setTop (mkF m pc Ls st)) := by
  subst hp; exact g.by fun t k => X.ldc2Long hx hown (mvT hZ w) (g := mkF m pc Ls st) rfl hd t k
theorem g_iadd (X : Stand p l e R s m args below meth c T locs cells slots) (hx : p.tables.exec = Jvm.exec) {x y : Int32} (pc' : Nat) (hd : decode c.code pc = .ok (.iadd, 1)) (hp : pc + 1 = pc') (g : Go p e below s Q rc rs (T.setTop (mkF m pc' Ls (.int (x + y) :: st)))) : Go p e below s Q rc rs (T.setTop (mkF m pc Ls (.int y :: .int x :: st))) := by
  subst hp; exact g.by fun t k => XS.iadd X.here hx rfl hd rfl k
theorem g_isub (X : Stand p l e R s m args below meth c T locs cells slots) (hx : p.tables.exec = Jvm.exec) {x y : Int32} (pc' : Nat) (hd : decode c.code pc = .ok (.isub, 1)) (hp : pc + 1 = pc') (g : Go p e below s Q rc rs (T.setTop (mkF m pc' Ls (.int (x - y) :: st)))) : Go p e below s Q rc rs (T.setTop (mkF m pc Ls (.int y :: .int x :: st))) := by
  subst hp; exact g.by fun t k => XS.isub X.here hx rfl hd rfl k
theorem g_imul (X : Stand p l e R s m args below meth c T locs cells slots) (hx : p.tables.exec = Jvm.exec) {x y : Int32} (pc' : Nat) (hd : decode c.code pc = .ok (.imul, 1)) (hp : pc + 1 = pc') (g : Go p e below s Q rc rs (T.setTop (mkF m pc' Ls (.int (x * y) :: st)))) : Go p e below s Q rc rs (T.setTop (mkF m pc Ls (.int y :: .int x :: st))) := by
  subst hp; exact g.by fun t k => XS.imul X.here hx rfl hd rfl k
theorem g_iand (X : Stand p l e R s m args below meth c T locs cells slots) (hx : p.tables.exec = Jvm.exec) {x y : Int32} (pc' : Nat) (hd : decode c.code pc = .ok (.iand, 1)) (hp : pc + 1 = pc') (g : Go p e below s Q rc rs (T.setTop (mkF m pc' Ls (.int (x &&& y) :: st)))) : Go p e below s Q rc rs (T.setTop (mkF m pc Ls (.int y :: .int x :: st))) := by
  subst hp; exact g.by fun t k => XS.iand X.here hx rfl hd rfl k
theorem g_ior (X : Stand p l e R s m args below meth c T locs cells slots) (hx : p.tables.exec = Jvm.exec) {x y : Int32} (pc' : Nat) (hd : decode c.code pc = .ok (.ior, 1)) (hp : pc + 1 = pc') (g : Go p e below s Q rc rs (T.setTop (mkF m pc' Ls (.int (x ||| y) :: st)))) : Go p e below s Q rc rs (T.setTop (mkF m pc Ls (.int y :: .int x :: st))) := by
  subst hp; exact g.by fun t k => XS.ior X.here hx rfl hd rfl k
theorem g_ixor (X : Stand p l e R s m args below meth c T locs cells slots) (hx : p.tables.exec = Jvm.exec) {x y : Int32} (pc' : Nat) (hd : decode c.code pc = .ok (.ixor, 1)) (hp : pc + 1 = pc') (g : Go p e below s Q rc rs (T.setTop (mkF m pc' Ls (.int (x ^^^ y) :: st)))) : Go p e below s Q rc rs (T.setTop (mkF m pc Ls (.int y :: .int x :: st))) := by
  subst hp; exact g.by fun t k => XS.ixor X.here hx rfl hd rfl k
theorem g_ineg (X : Stand p l e R s m args below meth c T locs cells slots) (hx : p.tables.exec = Jvm.exec) {x : Int32} (pc' : Nat) (hd : decode c.code pc = .ok (.ineg, 1)) (hp : pc + 1 = pc') (g : Go p e below s Q rc rs (T.setTop (mkF m pc' Ls (.int (-x) :: st)))) : Go p e below s Q rc rs (T.setTop (mkF m pc Ls (.int x :: st))) := by
  subst hp; exact g.by fun t k => XS.ineg X.here hx rfl hd rfl k
theorem g_idiv (X : Stand p l e R s m args below meth c T locs cells slots) (hx : p.tables.exec = Jvm.exec) {x y : Int32} (pc' : Nat) (hd : decode c.code pc = .ok (.idiv, 1)) (hy : y ≠ 0) (hp : pc + 1 = pc') (g : Go p e below s Q rc rs (T.setTop (mkF m pc' Ls (.int (x / y) :: st)))) : Go p e below s Q rc rs (T.setTop (mkF m pc Ls (.int y :: .int x :: st))) := by
  subst hp; exact g.by fun t k => XS.idiv X.here hx rfl hd rfl hy k
theorem g_ladd (X : Stand p l e R s m args below meth c T locs cells slots) (hx : p.tables.exec = Jvm.exec) {x y : Int64} (pc' : Nat) (hd : decode c.code pc = .ok (.ladd, 1)) (hp : pc + 1 = pc') (g : Go p e below s Q rc rs (T.setTop (mkF m pc' Ls (.long (x + y) :: st)))) : Go p e below s Q rc rs (T.setTop (mkF m pc Ls (.long y :: .long x :: st))) := by
  subst hp; exact g.by fun t k => XS.ladd X.here hx rfl hd rfl k
theorem g_lsub (X : Stand p l e R s m args below meth c T locs cells slots) (hx : p.tables.exec = Jvm.exec) {x y : Int64} (pc' : Nat) (hd : decode c.code pc = .ok (.lsub, 1)) (hp : pc + 1 = pc') (g : Go p e below s Q rc rs (T.setTop (mkF m pc' Ls (.long (x - y) :: st)))) : Go p e below s Q rc rs (T.setTop (mkF m pc Ls (.long y :: .long x :: st))) := by
  subst hp; exact g.by fun t k => XS.lsub X.here hx rfl hd rfl k
theorem g_lmul (X : Stand p l e R s m args below meth c T locs cells slots) (hx : p.tables.exec = Jvm.exec) {x y : Int64} (pc' : Nat) (hd : decode c.code pc = .ok (.lmul, 1)) (hp : pc + 1 = pc') (g : Go p e below s Q rc rs (T.setTop (mkF m pc' Ls (.long (x * y) :: st)))) : Go p e below s Q rc rs (T.setTop (mkF m pc Ls (.long y :: .long x :: st))) := by
  subst hp; exact g.by fun t k => XS.lmul X.here hx rfl hd rfl k
theorem g_land (X : Stand p l e R s m args below meth c T locs cells slots) (hx : p.tables.exec = Jvm.exec) {x y : Int64} (pc' : Nat) (hd : decode c.code pc = .ok (.land, 1)) (hp : pc + 1 = pc') (g : Go p e below s Q rc rs (T.setTop (mkF m pc' Ls (.long (x &&& y) :: st)))) : Go p e below s Q rc rs (T.setTop (mkF m pc Ls (.long y :: .long x :: st))) := by
  subst hp; exact g.by fun t k => XS.land X.here hx rfl hd rfl k
theorem g_lor (X : Stand p l e R s m args below meth c T locs cells slots) (hx : p.tables.exec = Jvm.exec) {x y : Int64} (pc' : Nat) (hd : decode c.code pc = .ok (.lor, 1)) (hp : pc + 1 = pc') (g : Go p e below s Q rc rs (T.setTop (mkF m pc' Ls (.long (x ||| y) :: st)))) : Go p e below s Q rc rs (T.setTop (mkF m pc Ls (.long y :: .long x :: st))) := by
  subst hp; exact g.by fun t k => XS.lor X.here hx rfl hd rfl k
theorem g_lxor (X : Stand p l e R s m args below meth c T locs cells slots) (hx : p.tables.exec = Jvm.exec) {x y : Int64} (pc' : Nat) (hd : decode c.code pc = .ok (.lxor, 1)) (hp : pc + 1 = pc') (g : Go p e below s Q rc rs (T.setTop (mkF m pc' Ls (.long (x ^^^ y) :: st)))) : Go p e below s Q rc rs (T.setTop (mkF m pc Ls (.long y :: .long x :: st))) := by
  subst hp; exact g.by fun t k => XS.lxor X.here hx rfl hd rfl k
theorem g_lneg (X : Stand p l e R s m args below meth c T locs cells slots) (hx : p.tables.exec = Jvm.exec) {x : Int64} (pc' : Nat) (hd : decode c.code pc = .ok (.lneg, 1)) (hp : pc + 1 = pc') (g : Go p e below s Q rc rs (T.setTop (mkF m pc' Ls (.long (-x) :: st)))) : Go p e below s Q rc rs (T.setTop (mkF m pc Ls (.long x :: st))) := by
  subst hp; exact g.by fun t k => XS.lneg X.here hx rfl hd rfl k
theorem g_ldiv (X : Stand p l e R s m args below meth c T locs cells slots) (hx : p.tables.exec = Jvm.exec) {x y : Int64} (pc' : Nat) (hd : decode c.code pc = .ok (.ldiv, 1)) (hy : y ≠ 0) (hp : pc + 1 = pc') (g : Go p e below s Q rc rs (T.setTop (mkF m pc' Ls (.long (x / y) :: st)))) : Go p e below s Q rc rs (T.setTop (mkF m pc Ls (.long y :: .long x :: st))) := by
  subst hp; exact g.by fun t k => XS.ldiv X.here hx rfl hd rfl hy k
theorem g_irem (X : Stand p l e R s m args below meth c T locs cells slots) (hx : p.tables.exec = Jvm.exec) {x y : Int32} (pc' : Nat) (hd : decode c.code pc = .ok (.irem, 1)) (hy : y ≠ 0) (hp : pc + 1 = pc') (g : Go p e below s Q rc rs (T.setTop (mkF m pc' Ls (.int (x % y) :: st)))) : Go p e below s Q rc rs (T.setTop (mkF m pc Ls (.int y :: .int x :: st))) := by
  subst hp; exact g.by fun t k => iremM X hx rfl hd rfl hy k
theorem g_lrem (X : Stand p l e R s m args below meth c T locs cells slots) (hx : p.tables.exec = Jvm.exec) {x y : Int64} (pc' : Nat) (hd : decode c.code pc = .ok (.lrem, 1)) (hy : y ≠ 0) (hp : pc + 1 = pc') (g : Go p e below s Q rc rs (T.setTop (mkF m pc' Ls (.long (x % y) :: st)))) : Go p e below s Q rc rs (T.setTop (mkF m pc Ls (.long y :: .long x :: st))) := by
  subst hp; exact g.by fun t k => XS.lrem X.here hx rfl hd rfl hy (by rw [lrem_mod]; exact k)
theorem g_ishl (X : Stand p l e R s m args below meth c T locs cells slots) (hx : p.tables.exec = Jvm.exec) {x : Int32} {y : Int32} (pc' : Nat) (hd : decode c.code pc = .ok (.ishl, 1)) (hp : pc + 1 = pc') (g : Go p e below s Q rc rs (T.setTop (mkF m pc' Ls (.int (shlI x y) :: st)))) : Go p e below s Q rc rs (T.setTop (mkF m pc Ls (.int y :: .int x :: st))) := by
  subst hp; exact g.by fun t k => XS.ishl X.here hx rfl hd rfl k
theorem g_ishr (X : Stand p l e R s m args below meth c T locs cells slots) (hx : p.tables.exec = Jvm.exec) {x : Int32} {y : Int32} (pc' : Nat) (hd : decode c.code pc = .ok (.ishr, 1)) (hp : pc + 1 = pc') (g : Go p e below s Q rc rs (T.setTop (mkF m pc' Ls (.int (shrI x y) :: st)))) : Go p e below s Q rc rs (T.setTop (mkF m pc Ls (.int y :: .int x :: st))) := by
  subst hp; exact g.by fun t k => XS.ishr X.here hx rfl hd rfl k
theorem g_iushr (X : Stand p l e R s m args below meth c T locs cells slots) (hx : p.tables.exec = Jvm.exec) {x : Int32} {y : Int32} (pc' : Nat) (hd : decode c.code pc = .ok (.iushr, 1)) (hp : pc + 1 = pc') (g : Go p e below s Q rc rs (T.setTop (mkF m pc' Ls (.int (ushrI x y) :: st)))) : Go p e below s Q rc rs (T.setTop (mkF m pc Ls (.int y :: .int x :: st))) := by
  subst hp; exact g.by fun t k => XS.iushr X.here hx rfl hd rfl k
theorem g_lshl (X : Stand p l e R s m args below meth c T locs cells slots) (hx : p.tables.exec = Jvm.exec) {x : Int64} {y : Int32} (pc' : Nat) (hd : decode c.code pc = .ok (.lshl, 1)) (hp : pc + 1 = pc') (g : Go p e below s Q rc rs (T.setTop (mkF m pc' Ls (.long (shlJ x y) :: st)))) : Go p e below s Q rc rs (T.setTop (mkF m pc Ls (.int y :: .long x :: st))) := by
  subst hp; exact g.by fun t k => XS.lshl X.here hx rfl hd rfl k
theorem g_lshr (X : Stand p l e R s m args below meth c T locs cells slots) (hx : p.tables.exec = Jvm.exec) {x : Int64} {y : Int32} (pc' : Nat) (hd : decode c.code pc = .ok (.lshr, 1)) (hp : pc + 1 = pc') (g : Go p e below s Q rc rs (T.setTop (mkF m pc' Ls (.long (shrJ x y) :: st)))) : Go p e below s Q rc rs (T.setTop (mkF m pc Ls (.int y :: .long x :: st))) := by
  subst hp; exact g.by fun t k => XS.lshr X.here hx rfl hd rfl k
theorem g_lushr (X : Stand p l e R s m args below meth c T locs cells slots) (hx : p.tables.exec = Jvm.exec) {x : Int64} {y : Int32} (pc' : Nat) (hd : decode c.code pc = .ok (.lushr, 1)) (hp : pc + 1 = pc') (g : Go p e below s Q rc rs (T.setTop (mkF m pc' Ls (.long (ushrJ x y) :: st)))) : Go p e below s Q rc rs (T.setTop (mkF m pc Ls (.int y :: .long x :: st))) := by
  subst hp; exact g.by fun t k => XS.lushr X.here hx rfl hd rfl k
theorem g_i2l (X : Stand p l e R s m args below meth c T locs cells slots) (hx : p.tables.exec = Jvm.exec) {x : Int32} (pc' : Nat) (hd : decode c.code pc = .ok (.i2l, 1)) (hp : pc + 1 = pc') (g : Go p e below s Q rc rs (T.setTop (mkF m pc' Ls (.long (x.toInt64) :: st)))) : Go p e below s Q rc rs (T.setTop (mkF m pc Ls (.int x :: st))) := by
  subst hp; exact g.by fun t k => XS.i2l X.here hx rfl hd rfl k
theorem g_l2i (X : Stand p l e R s m args below meth c T locs cells slots) (hx : p.tables.exec = Jvm.exec) {x : Int64} (pc' : Nat) (hd : decode c.code pc = .ok (.l2i, 1)) (hp : pc + 1 = pc') (g : Go p e below s Q rc rs (T.setTop (mkF m pc' Ls (.int (x.toInt32) :: st)))) : Go p e below s Q rc rs (T.setTop (mkF m pc Ls (.long x :: st))) := by
  subst hp; exact g.by fun t k => XS.l2i X.here hx rfl hd rfl k
theorem g_i2b (X : Stand p l e R s m args below meth c T locs cells slots) (hx : p.tables.exec = Jvm.exec) {x : Int32} (pc' : Nat) (hd : decode c.code pc = .ok (.i2b, 1)) (hp : pc + 1 = pc') (g : Go p e below s Q rc rs (T.setTop (mkF m pc' Ls (.int (i2bI x) :: st)))) : Go p e below s Q rc rs (T.setTop (mkF m pc Ls (.int x :: st))) := by
  subst hp; exact g.by fun t k => XS.i2b X.here hx rfl hd rfl k
theorem g_i2c (X : Stand p l e R s m args below meth c T locs cells slots) (hx : p.tables.exec = Jvm.exec) {x : Int32} (pc' : Nat) (hd : decode c.code pc = .ok (.i2c, 1)) (hp : pc + 1 = pc') (g : Go p e below s Q rc rs (T.setTop (mkF m pc' Ls (.int (i2cI x) :: st)))) : Go p e below s Q rc rs (T.setTop (mkF m pc Ls (.int x :: st))) := by
  subst hp; exact g.by fun t k => XS.i2c X.here hx rfl hd rfl k
theorem g_i2s (X : Stand p l e R s m args below meth c T locs cells slots) (hx : p.tables.exec = Jvm.exec) {x : Int32} (pc' : Nat) (hd : decode c.code pc = .ok (.i2s, 1)) (hp : pc + 1 = pc') (g : Go p e below s Q rc rs (T.setTop (mkF m pc' Ls (.int (i2sI x) :: st)))) : Go p e below s Q rc rs (T.setTop (mkF m pc Ls (.int x :: st))) := by
  subst hp; exact g.by fun t k => XS.i2s X.here hx rfl hd rfl k
theorem g_lcmp (X : Stand p l e R s m args below meth c T locs cells slots) (hx : p.tables.exec = Jvm.exec) {x y : Int64} (pc' : Nat) (hd : decode c.code pc = .ok (.lcmp, 1)) (hp : pc + 1 = pc') (g : Go p e below s Q rc rs (T.setTop (mkF m pc' Ls (.int (lcmpW x y) :: st)))) : Go p e below s Q rc rs (T.setTop (mkF m pc Ls (.long y :: .long x :: st))) := by
  subst hp; exact g.by fun t k => XS.lcmp X.here hx rfl hd rfl k
theorem g_iinc (X : Stand p l e R s m args below meth c T locs cells slots) (hx : p.tables.exec = Jvm.exec) {k : Nat} {i : Int} {x : Int32} (v : Int32) (l' : Array Slot) (pc' : Nat) (hd : decode c.code pc = .ok (.iinc k i, 3)) (hv : Int32.ofInt i = v) (hl : Ls[k]? = some (.val (.int x))) (hl' : storeLocals Ls k (.int (x + v)) = some l') (hp : pc + 3 = pc') (g : Go p e below s Q rc rs (T.setTop (mkF m pc' l' st))) : Go p e below s Q rc rs (T.setTop (mkF m pc Ls st)) := by
  subst hp hv; exact g.by fun t k => XS.iinc X.here hx rfl hd hl hl' k
theorem g_dup (X : Stand p l e R s m args below meth c T locs cells slots) (hx : p.tables.exec = Jvm.exec) {x : Value} (pc' : Nat) (hd : decode c.code pc = .ok (.dup, 1)) (hc : x.category = 1) (hp : pc + 1 = pc') (g : Go p e below s Q rc rs (T.setTop (mkF m pc' Ls (x :: x :: st)))) : Go p e below s Q rc rs (T.setTop (mkF m pc Ls (x :: st))) := by
  subst hp; exact g.by fun t k => XS.dup X.here hx rfl hd rfl hc k
theorem g_pop (X : Stand p l e R s m args below meth c T locs cells slots) (hx : p.tables.exec = Jvm.exec) {x : Value} (pc' : Nat) (hd : decode c.code pc = .ok (.pop, 1)) (hc : x.category = 1) (hp : pc + 1 = pc') (g : Go p e below s Q rc rs (T.setTop (mkF m pc' Ls st))) : Go p e below s Q rc rs (T.setTop (mkF m pc Ls (x :: st))) := by
  subst hp; exact g.by fun t k => XS.pop X.here hx rfl hd rfl hc k
theorem g_dup_x1 (X : Stand p l e R s m args below meth c T locs cells slots) (hx : p.tables.exec = Jvm.exec) {x y : Value} (pc' : Nat) (hd : decode c.code pc = .ok (.dup_x1, 1)) (hc : x.category = 1) (hc2 : y.category = 1) (hp : pc + 1 = pc') (g : Go p e below s Q rc rs (T.setTop (mkF m pc' Ls (x :: y :: x :: st)))) : Go p e below s Q rc rs (T.setTop (mkF m pc Ls (x :: y :: st))) := by
  subst hp; exact g.by fun t k => XS.dupX1 X.here hx rfl hd rfl hc hc2 k
theorem g_dup2 (X : Stand p l e R s m args below meth c T locs cells slots) (hx : p.tables.exec = Jvm.exec) {x y : Value} (pc' : Nat) (hd : decode c.code pc = .ok (.dup2, 1)) (hc : x.category = 1) (hc2 : y.category = 1) (hp : pc + 1 = pc') (g : Go p e below s Q rc rs (T.setTop (mkF m pc' Ls (x :: y :: x :: y :: st)))) : Go p e below s Q rc rs (T.setTop (mkF m pc Ls (x :: y :: st))) := by
  subst hp; exact g.by fun t k => XT.dup2 X.here hx rfl hd rfl hc hc2 k
theorem g_dup2L (X : Stand p l e R s m args below meth c T locs cells slots) (hx : p.tables.exec = Jvm.exec) {x : Int64} (pc' : Nat) (hd : decode c.code pc = .ok (.dup2, 1)) (hp : pc + 1 = pc') (g : Go p e below s Q rc rs (T.setTop (mkF m pc' Ls (.long x :: .long x :: st)))) : Go p e below s Q rc rs (T.setTop (mkF m pc Ls (.long x :: st))) := by
  subst hp; exact g.by fun t k => XT.dup2L X.here hx rfl hd rfl k
theorem g_pop2L (X : Stand p l e R s m args below meth c T locs cells slots) (hx : p.tables.exec = Jvm.exec) {x : Int64} (pc' : Nat) (hd : decode c.code pc = .ok (.pop2, 1)) (hp : pc + 1 = pc') (g : Go p e below s Q rc rs (T.setTop (mkF m pc' Ls st))) : Go p e below s Q rc rs (T.setTop (mkF m pc Ls (.long x :: st))) := by
  subst hp; refine g.by fun t k => ?_
  jvm_step X.here [X.here.top, hx, hd, Value.category]
  exact k
theorem g_goto (X : Stand p l e R s m args below meth c T locs cells slots) (hx : p.tables.exec = Jvm.exec) {o : Int} (pc' : Nat) (hd : decode c.code pc = .ok (.goto o, 3)) (ho : 0 ≤ (pc : Int) + o) (hp : ((pc : Int) + o).toNat = pc') (g : Go p e below s Q rc rs (T.setTop (mkF m pc' Ls st))) : Go p e below s Q rc rs (T.setTop (mkF m pc Ls st)) := by
  subst hp; exact g.by fun t k => XS.goto X.here hx rfl rfl hd ho rfl k
theorem g_icmp_lt (X : Stand p l e R s m args below meth c T locs cells slots) (hx : p.tables.exec = Jvm.exec) {x y : Int32} {o : Int} (pcY pcN : Nat) (hd : decode c.code pc = .ok (.if_icmp .lt o, 3)) (ho : 0 ≤ (pc : Int) + o) (hY : ((pc : Int) + o).toNat = pcY) (hN : pc + 3 = pcN) (gp : x < y → Go p e below s Q rc rs (T.setTop (mkF m pcY Ls st))) (gn : ¬ x < y → Go p e below s Q rc rs (T.setTop (mkF m pcN Ls st))) : Go p e below s Q rc rs (T.setTop (mkF m pc Ls (.int y :: .int x :: st))) := by
  subst hY hN
  by_cases q : x < y
  · exact (gp q).by fun t k => XS.icmpYes X.here hx rfl rfl hd rfl (tlt q).1 ho rfl k
  · exact (gn q).by fun t k => XS.icmpNo X.here hx rfl hd rfl (flt q).1 k
theorem g_if0_lt (X : Stand p l e R s m args below meth c T locs cells slots) (hx : p.tables.exec = Jvm.exec) {x : Int32} {o : Int} (pcY pcN : Nat) (hd : decode c.code pc = .ok (.ifCond .lt o, 3)) (ho : 0 ≤ (pc : Int) + o) (hY : ((pc : Int) + o).toNat = pcY) (hN : pc + 3 = pcN) (gp : x < 0 → Go p e below s Q rc rs (T.setTop (mkF m pcY Ls st))) (gn : ¬ x < 0 → Go p e below s Q rc rs (T.setTop (mkF m pcN Ls st))) : Go p e below s Q rc rs (T.setTop (mkF m pc Ls (.int x :: st))) := by
  subst hY hN
  by_cases q : x < 0
  · exact (gp q).by fun t k => XS.ifYes X.here hx rfl rfl hd rfl ((if0 _ _).trans (tlt q).1) ho rfl k
  · exact (gn q).by fun t k => XS.ifNo X.here hx rfl hd rfl ((if0 _ _).trans (flt q).1) k
theorem g_lc_lt (X : Stand p l e R s m args below meth c T locs cells slots) (hx : p.tables.exec = Jvm.exec) {x y : Int64} {o : Int} (pcY pcN : Nat) (hd : decode c.code pc = .ok (.ifCond .lt o, 3)) (ho : 0 ≤ (pc : Int) + o) (hY : ((pc : Int) + o).toNat = pcY) (hN : pc + 3 = pcN) (gp : x < y → Go p e below s Q rc rs (T.setTop (mkF m pcY Ls st))) (gn : ¬ x < y → Go p e below s Q rc rs (T.setTop (mkF m pcN Ls st))) : Go p e below s Q rc rs (T.setTop (mkF m pc Ls (.int (lcmpW x y) :: st))) :=
  g_if0_lt X hx pcY pcN hd ho hY hN (fun q => gp ((lw_lt x y).1 q)) (fun q => gn fun r => q ((lw_lt x y).2 r))
theorem g_icmp_ge (X : Stand p l e R s m args below meth c T locs cells slots) (hx : p.tables.exec = Jvm.exec) {x y : Int32} {o : Int} (pcY pcN : Nat) (hd : decode c.code pc = .ok (.if_icmp .ge o, 3)) (ho : 0 ≤ (pc : Int) + o) (hY : ((pc : Int) + o).toNat = pcY) (hN : pc + 3 = pcN) (gp : x < y → Go p e below s Q rc rs (T.setTop (mkF m pcN Ls st))) (gn : ¬ x < y → Go p e below s Q rc rs (T.setTop (mkF m pcY Ls st))) : Go p e below s Q rc rs (T.setTop (mkF m pc Ls (.int y :: .int x :: st))) := by
  subst hY hN
  by_cases q : x < y
  · exact (gp q).by fun t k => XS.icmpNo X.here hx rfl hd rfl (tlt q).2.1 k
  · exact (gn q).by fun t k => XS.icmpYes X.here hx rfl rfl hd rfl (flt q).2.1 ho rfl k
theorem g_if0_ge (X : Stand p l e R s m args below meth c T locs cells slots) (hx : p.tables.exec = Jvm.exec) {x : Int32} {o : Int} (pcY pcN : Nat) (hd : decode c.code pc = .ok (.ifCond .ge o, 3)) (ho : 0 ≤ (pc : Int) + o) (hY : ((pc : Int) + o).toNat = pcY) (hN : pc + 3 = pcN) (gp : x < 0 → Go p e below s Q rc rs (T.setTop (mkF m pcN Ls st))) (gn : ¬ x < 0 → Go p e below s Q rc rs (T.setTop (mkF m pcY Ls st))) : Go p e below s Q rc rs (T.setTop (mkF m pc Ls (.int x :: st))) := by
  subst hY hN
  by_cases q : x < 0
  · exact (gp q).by fun t k => XS.ifNo X.here hx rfl hd rfl ((if0 _ _).trans (tlt q).2.1) k
  · exact (gn q).by fun t k => XS.ifYes X.here hx rfl rfl hd rfl ((if0 _ _).trans (flt q).2.1) ho rfl k
theorem g_lc_ge (X : Stand p l e R s m args below meth c T locs cells slots) (hx : p.tables.exec = Jvm.exec) {x y : Int64} {o : Int} (pcY pcN : Nat) (hd : decode c.code pc = .ok (.ifCond .ge o, 3)) (ho : 0 ≤ (pc : Int) + o) (hY : ((pc : Int) + o).toNat = pcY) (hN : pc + 3 = pcN) (gp : x < y → Go p e below s Q rc rs (T.setTop (mkF m pcN Ls st))) (gn : ¬ x < y → Go p e below s Q rc rs (T.setTop (mkF m pcY Ls st))) : Go p e below s Q rc rs (T.setTop (mkF m pc Ls (.int (lcmpW x y) :: st))) :=
  g_if0_ge X hx pcY pcN hd ho hY hN (fun q => gp ((lw_lt x y).1 q)) (fun q => gn fun r => q ((lw_lt x y).2 r))
theorem g_icmp_gt (X : Stand p l e R s m args below meth c T locs cells slots) (hx : p.tables.exec = Jvm.exec) {x y : Int32} {o : Int} (pcY pcN : Nat) (hd : decode c.code pc = .ok (.if_icmp .gt o, 3)) (ho : 0 ≤ (pc : Int) + o) (hY : ((pc : Int) + o).toNat = pcY) (hN : pc + 3 = pcN) (gp : y < x → Go p e below s Q rc rs (T.setTop (mkF m pcY Ls st))) (gn : ¬ y < x → Go p e below s Q rc rs (T.setTop (mkF m pcN Ls st))) : Go p e below s Q rc rs (T.setTop (mkF m pc Ls (.int y :: .int x :: st))) := by
  subst hY hN
  by_cases q : y < x
  · exact (gp q).by fun t k => XS.icmpYes X.here hx rfl rfl hd rfl (tlt q).2.2.1 ho rfl k
  · exact (gn q).by fun t k => XS.icmpNo X.here hx rfl hd rfl (flt q).2.2.1 k
theorem g_if0_gt (X : Stand p l e R s m args below meth c T locs cells slots) (hx : p.tables.exec = Jvm.exec) {x : Int32} {o : Int} (pcY pcN : Nat) (hd : decode c.code pc = .ok (.ifCond .gt o, 3)) (ho : 0 ≤ (pc : Int) + o) (hY : ((pc : Int) + o).toNat = pcY) (hN : pc + 3 = pcN) (gp : 0 < x → Go p e below s Q rc rs (T.setTop (mkF m pcY Ls st))) (gn : ¬ 0 < x → Go p e below s Q rc rs (T.setTop (mkF m pcN Ls st))) : Go p e below s Q rc rs (T.setTop (mkF m pc Ls (.int x :: st))) := by
  subst hY hN
  by_cases q : 0 < x
  · exact (gp q).by fun t k => XS.ifYes X.here hx rfl rfl hd rfl ((if0 _ _).trans (tlt q).2.2.1) ho rfl k
  · exact (gn q).by fun t k => XS.ifNo X.here hx rfl hd rfl ((if0 _ _).trans (flt q).2.2.1) k
theorem g_lc_gt (X : Stand p l e R s m args below meth c T locs cells slots) (hx : p.tables.exec = Jvm.exec) {x y : Int64} {o : Int} (pcY pcN : Nat) (hd : decode c.code pc = .ok (.ifCond .gt o, 3)) (ho : 0 ≤ (pc : Int) + o) (hY : ((pc : Int) + o).toNat = pcY) (hN : pc + 3 = pcN) (gp : y < x → Go p e below s Q rc rs (T.setTop (mkF m pcY Ls st))) (gn : ¬ y < x → Go p e below s Q rc rs (T.setTop (mkF m pcN Ls st))) : Go p e below s Q rc rs (T.setTop (mkF m pc Ls (.int (lcmpW x y) :: st))) :=
  g_if0_gt X hx pcY pcN hd ho hY hN (fun q => gp ((lw_gt x y).1 q)) (fun q => gn fun r => q ((lw_gt x y).2 r))
theorem g_icmp_le (X : Stand p l e R s m args below meth c T locs cells slots) (hx : p.tables.exec = Jvm.exec) {x y : Int32} {o : Int} (pcY pcN : Nat) (hd : decode c.code pc = .ok (.if_icmp .le o, 3)) (ho : 0 ≤ (pc : Int) + o) (hY : ((pc : Int) + o).toNat = pcY) (hN : pc + 3 = pcN) (gp : y < x → Go p e below s Q rc rs (T.setTop (mkF m pcN Ls st))) (gn : ¬ y < x → Go p e below s Q rc rs (T.setTop (mkF m pcY Ls st))) : Go p e below s Q rc rs (T.setTop (mkF m pc Ls (.int y :: .int x :: st))) := by
  subst hY hN
  by_cases q : y < x
  · exact (gp q).by fun t k => XS.icmpNo X.here hx rfl hd rfl (tlt q).2.2.2 k
  · exact (gn q).by fun t k => XS.icmpYes X.here hx rfl rfl hd rfl (flt q).2.2.2 ho rfl k
theorem g_if0_le (X : Stand p l e R s m args below meth c T locs cells slots) (hx : p.tables.exec = Jvm.exec) {x : Int32} {o : Int} (pcY pcN : Nat) (hd : decode c.code pc = .ok (.ifCond .le o, 3)) (ho : 0 ≤ (pc : Int) + o) (hY : ((pc : Int) + o).toNat = pcY) (hN : pc + 3 = pcN) (gp : 0 < x → Go p e below s Q rc rs (T.setTop (mkF m pcN Ls st))) (gn : ¬ 0 < x → Go p e below s Q rc rs (T.setTop (mkF m pcY Ls st))) : Go p e below s Q rc rs (T.setTop (mkF m pc Ls (.int x :: st))) := by
  subst hY hN
  by_cases q : 0 < x
  · exact (gp q).by fun t k => XS.ifNo X.here hx rfl hd rfl ((if0 _ _).trans (tlt q).2.2.2) k
  · exact (gn q).by fun t k => XS.ifYes X.here hx rfl rfl hd rfl ((if0 _ _).trans (flt q).2.2.2) ho rfl k
theorem g_lc_le (X : Stand p l e R s m args below meth c T locs cells slots) (hx : p.tables.exec = Jvm.exec) {x y : Int64} {o : Int} (pcY pcN : Nat) (hd : decode c.code pc = .ok (.ifCond .le o, 3)) (ho : 0 ≤ (pc : Int) + o) (hY : ((pc : Int) + o).toNat = pcY) (hN : pc + 3 = pcN) (gp : y < x → Go p e below s Q rc rs (T.setTop (mkF m pcN Ls st))) (gn : ¬ y < x → Go p e below s Q rc rs (T.setTop (mkF m pcY Ls st))) : Go p e below s Q rc rs (T.setTop (mkF m pc Ls (.int (lcmpW x y) :: st))) :=
  g_if0_le X hx pcY pcN hd ho hY hN (fun q => gp ((lw_gt x y).1 q)) (fun q => gn fun r => q ((lw_gt x y).2 r))
theorem g_icmp_eq (X : Stand p l e R s m args below meth c T locs cells slots) (hx : p.tables.exec = Jvm.exec) {x y : Int32} {o : Int} (pcY pcN : Nat) (hd : decode c.code pc = .ok (.if_icmp .eq o, 3)) (ho : 0 ≤ (pc : Int) + o) (hY : ((pc : Int) + o).toNat = pcY) (hN : pc + 3 = pcN) (gp : x = y → Go p e below s Q rc rs (T.setTop (mkF m pcY Ls st))) (gn : ¬ x = y → Go p e below s Q rc rs (T.setTop (mkF m pcN Ls st))) : Go p e below s Q rc rs (T.setTop (mkF m pc Ls (.int y :: .int x :: st))) := by
  subst hY hN
  by_cases q : x = y
  · exact (gp q).by fun t k => XS.icmpYes X.here hx rfl rfl hd rfl (teq q).1 ho rfl k
  · exact (gn q).by fun t k => XS.icmpNo X.here hx rfl hd rfl (feq q).1 k
theorem g_if0_eq (X : Stand p l e R s m args below meth c T locs cells slots) (hx : p.tables.exec = Jvm.exec) {x : Int32} {o : Int} (pcY pcN : Nat) (hd : decode c.code pc = .ok (.ifCond .eq o, 3)) (ho : 0 ≤ (pc : Int) + o) (hY : ((pc : Int) + o).toNat = pcY) (hN : pc + 3 = pcN) (gp : x = 0 → Go p e below s Q rc rs (T.setTop (mkF m pcY Ls st))) (gn : ¬ x = 0 → Go p e below s Q rc rs (T.setTop (mkF m pcN Ls st))) : Go p e below s Q rc rs (T.setTop (mkF m pc Ls (.int x :: st))) := by
  subst hY hN
  by_cases q : x = 0
  · exact (gp q).by fun t k => XS.ifYes X.here hx rfl rfl hd rfl ((if0 _ _).trans (teq q).1) ho rfl k
  · exact (gn q).by fun t k => XS.ifNo X.here hx rfl hd rfl ((if0 _ _).trans (feq q).1) k
theorem g_lc_eq (X : Stand p l e R s m args below meth c T locs cells slots) (hx : p.tables.exec = Jvm.exec) {x y : Int64} {o : Int} (pcY pcN : Nat) (hd : decode c.code pc = .ok (.ifCond .eq o, 3)) (ho : 0 ≤ (pc : Int) + o) (hY : ((pc : Int) + o).toNat = pcY) (hN : pc + 3 = pcN) (gp : x = y → Go p e below s Q rc rs (T.setTop (mkF m pcY Ls st))) (gn : ¬ x = y → Go p e below s Q rc rs (T.setTop (mkF m pcN Ls st))) : Go p e below s Q rc rs (T.setTop (mkF m pc Ls (.int (lcmpW x y) :: st))) :=
  g_if0_eq X hx pcY pcN hd ho hY hN (fun q => gp ((lw_eq x y).1 q)) (fun q => gn fun r => q ((lw_eq x y).2 r))
theorem g_icmp_ne (X : Stand p l e R s m args below meth c T locs cells slots) (hx : p.tables.exec = Jvm.exec) {x y : Int32} {o : Int} (pcY pcN : Nat) (hd : decode c.code pc = .ok (.if_icmp .ne o, 3)) (ho : 0 ≤ (pc : Int) + o) (hY : ((pc : Int) + o).toNat = pcY) (hN : pc + 3 = pcN) (gp : x = y → Go p e below s Q rc rs (T.setTop (mkF m pcN Ls st))) (gn : ¬ x = y → Go p e below s Q rc rs (T.setTop (mkF m pcY Ls st))) : Go p e below s Q rc rs (T.setTop (mkF m pc Ls (.int y :: .int x :: st))) := by
  subst hY hN
  by_cases q : x = y
  · exact (gp q).by fun t k => XS.icmpNo X.here hx rfl hd rfl (teq q).2 k
  · exact (gn q).by fun t k => XS.icmpYes X.here hx rfl rfl hd rfl (feq q).2 ho rfl k
theorem g_if0_ne (X : Stand p l e R s m args below meth c T locs cells slots) (hx : p.tables.exec = Jvm.exec) {x : Int32} {o : Int} (pcY pcN : Nat) (hd : decode c.code pc = .ok (.ifCond .ne o, 3)) (ho : 0 ≤ (pc : Int) + o) (hY : ((pc : Int) + o).toNat = pcY) (hN : pc + 3 = pcN) (gp : x = 0 → Go p e below s Q rc rs (T.setTop (mkF m pcN Ls st))) (gn : ¬ x = 0 → Go p e below s Q rc rs (T.setTop (mkF m pcY Ls st))) : Go p e below s Q rc rs (T.setTop (mkF m pc Ls (.int x :: st))) := by
  subst hY hN
  by_cases q : x = 0
  · exact (gp q).by fun t k => XS.ifNo X.here hx rfl hd rfl ((if0 _ _).trans (teq q).2) k
  · exact (gn q).by fun t k => XS.ifYes X.here hx rfl rfl hd rfl ((if0 _ _).trans (feq q).2) ho rfl k
theorem g_lc_ne (X : Stand p l e R s m args below meth c T locs cells slots) (hx : p.tables.exec = Jvm.exec) {x y : Int64} {o : Int} (pcY pcN : Nat) (hd : decode c.code pc = .ok (.ifCond .ne o, 3)) (ho : 0 ≤ (pc : Int) + o) (hY : ((pc : Int) + o).toNat = pcY) (hN : pc + 3 = pcN) (gp : x = y → Go p e below s Q rc rs (T.setTop (mkF m pcN Ls st))) (gn : ¬ x = y → Go p e below s Q rc rs (T.setTop (mkF m pcY Ls st))) : Go p e below s Q rc rs (T.setTop (mkF m pc Ls (.int (lcmpW x y) :: st))) :=
  g_if0_ne X hx pcY pcN hd ho hY hN (fun q => gp ((lw_eq x y).1 q)) (fun q => gn fun r => q ((lw_eq x y).2 r))
theorem g_ifnull_no (X : Stand p l e R s m args below meth c T locs cells slots) (hx : p.tables.exec = Jvm.exec) {b : Addr} {o : Int} (pc' : Nat) (hd : decode c.code pc = .ok (.ifnull o, 3)) (hp : pc + 3 = pc') (g : Go p e below s Q rc rs (T.setTop (mkF m pc' Ls st))) : Go p e below s Q rc rs (T.setTop (mkF m pc Ls (.ref b :: st))) := by
  subst hp; exact g.by fun t k => XS.ifnullNo X.here hx rfl hd rfl k
theorem g_ifnonnull_yes (X : Stand p l e R s m args below meth c T locs cells slots) (hx : p.tables.exec = Jvm.exec) {b : Addr} {o : Int} (pc' : Nat) (hd : decode c.code pc = .ok (.ifnonnull o, 3)) (ho : 0 ≤ (pc : Int) + o) (hp : ((pc : Int) + o).toNat = pc') (g : Go p e below s Q rc rs (T.setTop (mkF m pc' Ls st))) : Go p e below s Q rc rs (T.setTop (mkF m pc Ls (.ref b :: st))) := by
  subst hp; exact g.by fun t k => XS.ifnonnullYes X.here hx rfl rfl hd rfl ho rfl k
theorem g_retI (X : Stand p l e R s m args below meth c T locs cells slots) (hx : p.tables.exec = Jvm.exec) (hret : meth.sig.returnType = some .int) (hlk : meth.locks = false) {z : Int32} (hd : decode c.code pc = .ok (.ireturn, 1)) (hc : cells ≤ rc) (hs : slots ≤ rs) (hQ : Q (some (.int z)) T.heap locs) : Go p e below s Q rc rs (T.setTop (mkF m pc Ls (.int z :: st))) := by
  obtain ⟨fs, hr, hrun, hended, hW, hsame⟩ := X.leave (v := some (.int z)) (fun q => by rw [hret] at q; cases q) hlk
  exact ⟨_, _, retI X hx hret hd hr, hrun, hended, _, _, rfl, hQ, ⟨_, rfl⟩, hW, hsame.mono hc hs⟩
theorem g_retN (X : Stand p l e R s m args below meth c T locs cells slots) (hx : p.tables.exec = Jvm.exec) {ty : FieldType} (hret : meth.sig.returnType = some ty) (ht : ty = .boolean ∨ ty = .byte ∨ ty = .char ∨ ty = .short) (hlk : meth.locks = false) {z : Int32} (hd : decode c.code pc = .ok (.ireturn, 1)) (hc : cells ≤ rc) (hs : slots ≤ rs) (hQ : Q (some (.int (nar ty z))) T.heap locs) : Go p e below s Q rc rs (T.setTop (mkF m pc Ls (.int z :: st))) := by
  obtain ⟨fs, hr, hrun, hended, hW, hsame⟩ := X.leave (v := some (.int (nar ty z))) (fun q => by rw [hret] at q; cases q) hlk
  exact ⟨_, _, retN X hx hret ht hd hr, hrun, hended, _, _, rfl, hQ, ⟨_, rfl⟩, hW, hsame.mono hc hs⟩
theorem g_retJ (X : Stand p l e R s m args below meth c T locs cells slots) (hx : p.tables.exec = Jvm.exec) (hret : meth.sig.returnType = some .long) (hlk : meth.locks = false) {z : Int64} (hd : decode c.code pc = .ok (.lreturn, 1)) (hc : cells ≤ rc) (hs : slots ≤ rs) (hQ : Q (some (.long z)) T.heap locs) : Go p e below s Q rc rs (T.setTop (mkF m pc Ls (.long z :: st))) := by
  obtain ⟨fs, hr, hrun, hended, hW, hsame⟩ := X.leave (v := some (.long z)) (fun q => by rw [hret] at q; cases q) hlk
  exact ⟨_, _, retOut X hx hret rfl (Or.inr (Or.inl ⟨rfl, rfl, z, rfl⟩)) hd hr, hrun, hended, _, _, rfl, hQ, ⟨_, rfl⟩, hW, hsame.mono hc hs⟩
theorem g_retA (X : Stand p l e R s m args below meth c T locs cells slots) (hx : p.tables.exec = Jvm.exec) {ty : FieldType} (hret : meth.sig.returnType = some ty) (ht : ty.isReference = true) (hlk : meth.locks = false) {b : Addr} (hd : decode c.code pc = .ok (.areturn, 1)) (hc : cells ≤ rc) (hs : slots ≤ rs) (hQ : Q (some (.ref b)) T.heap locs) : Go p e below s Q rc rs (T.setTop (mkF m pc Ls [.ref b])) := by
  obtain ⟨fs, hr, hrun, hended, hW, hsame⟩ := X.leave (v := some (.ref b)) (fun q => by rw [hret] at q; cases q) hlk
  exact ⟨_, _, X.areturnOut hx rfl hret ht hd hr, hrun, hended, _, _, rfl, hQ, ⟨_, rfl⟩, hW, hsame.mono hc hs⟩
theorem g_retV (X : Stand p l e R s m args below meth c T locs cells slots) (hx : p.tables.exec = Jvm.exec) (hret : meth.sig.returnType = none) (hlk : meth.locks = false) (hd : decode c.code pc = .ok (.return_, 1)) (hc : cells ≤ rc) (hs : slots ≤ rs) (hQ : Q none T.heap locs) : Go p e below s Q rc rs (T.setTop (mkF m pc Ls [])) := by
  obtain ⟨fs, hr, hrun, hended, hW, hsame⟩ := X.leave (v := none) (fun _ => rfl) hlk
  exact ⟨_, _, X.returnOut hx hret hd hr, hrun, hended, _, _, rfl, hQ, ⟨_, rfl⟩, hW, hsame.mono hc hs⟩
theorem g_body {y : MethodName} {bytes : ByteArray} {maxL : Nat} {ret : Option FieldType} {ws : List Jvm.Cond} {rm : Room} {as : Array Value} (hpn : plainFor y = true)
    (body : ∀ p e s m below meth c T, Stand p l e rm s m as below meth c T [] 0 0 → p.tables.exec = Jvm.exec → c.code = bytes → c.maxLocals = maxL → meth.sig.returnType = ret → meth.locks = false → s.vm.findClass y.cls = some m.cls → meth.name = y.name → Z.Warmed39 s.vm → T.heap = h → Go p e below s Q rc rs (T.setTop (entryFrame m as maxL))) :
    MetFree l y (head1 (Jvm.Cond.code y bytes maxL ret :: ws) rm) (fun a U => a = as ∧ Z.Warmed39 U.vm ∧ U.heap = h) (fun _ _ _ _ _ => True) (fun _ U o U' => ∃ v L, o = .returned v ∧ Q v U'.heap L ∧ FrameEnd U o U' L rc rs) := by
  refine MetFree.of_bodySF hpn hisR ?_
  intro p e s m args below meth c s₁ Bd hml hP hK
  obtain ⟨rfl, hZ, hh⟩ := hP
  exact body p e s m below meth c s₁ (Stand.of_body Bd) Bd.exec Bd.bytes hml Bd.returns Bd.notSynchronized (findClass_of_methodNamed Bd.named) (name_of_methodNamed Bd.named Bd.method).1 hZ (by rw [← hh, Bd.state]; rfl)
theorem g_callS (X : Stand p l e R s m args below meth c T locs cells slots) (hx : p.tables.exec = Jvm.exec) (hZ : Z.Warmed39 s.vm) {own : String} {i : Nat} {y : MethodName} {bytes : ByteArray} {maxL : Nat} {ret : Option FieldType} {rm : Room} {as : Array Value} {Q' : Option Value → Heap → List Loc → Prop} (hown : s.vm.findClass own = some m.cls) (w1 : (Jvm.Cond.methodLink own i y).before a0 Z = true) (w2 : (Jvm.Cond.static y).before a0 Z = true) (w3 : (Jvm.Cond.initialized y.cls).before a0 Z = true) (w4 : (Jvm.Cond.code y bytes maxL ret).before a0 Z = true) (hy : y.cls ≠ "java/lang/invoke/MethodHandle" ∧ y.cls ≠ "java/lang/invoke/VarHandle") (eT : T.heap = h) (hM : MetFree l y (head1 [Jvm.Cond.code y bytes maxL ret] rm) (fun a U => a = as ∧ Z.Warmed39 U.vm ∧ U.heap = h) (fun _ _ _ _ _ => True) (fun _ U o U' => ∃ v L, o = .returned v ∧ Q' v U'.heap L ∧ FrameEnd U o U' L rm.cells rm.slots)) (argsL rest : List Value) (W : Nat) (has : argsL.toArray = as) (hlen : ∀ sig, parseMethodDescriptor y.desc = some sig → argsL.length = sig.parameters.length) (hst : st = argsL.reverse ++ rest) (hW : (rest.map fun v => v.category).sum ≤ W) (hf : rm.frames + 1 ≤ R.frames) (hlo : W + (maxL + 11) + rm.locals ≤ R.locals) (hcl : cells + rm.cells ≤ R.cells) (hsl : slots + rm.slots ≤ R.slots) (hsz : Ls.size = c.maxLocals) (hd : decode c.code pc = .ok (.invokestatic i, 3)) (k : ∀ T' L v, Stand p l e R s m args below meth c T' (locs ++ L) (cells + rm.cells) (slots + rm.slots) → Q' v T'.heap L → Go p e below s Q rc rs (T'.setTop (mkF m (pc + 3) Ls (v.toList ++ rest)))) : Go p e below s Q rc rs (T.setTop (mkF m pc Ls st)) := by
  subst hst has
  obtain ⟨_, _, ⟨T', L', k', n'⟩, -, X', ⟨Lc, hQ, e1, e2, e3⟩, stp⟩ := Jvm.LawKit.callS X hx (y := y) hown (mvT hZ w1) (mvT hZ w2) (mvT hZ w3) (mvT hZ w4) hy (backOf (W := W) hM hZ w4 w3 hf hlo) (g := mkF m pc Ls (argsL.reverse ++ rest)) rfl hsz (argsL := argsL) (rest := rest) hlen rfl (by show 2 * 0 + _ ≤ _; omega) hd (fun _ _ => ⟨rfl, eT, hcl, hsl⟩)
  dsimp only [Pt.U, Pt.locs, Pt.cells, Pt.slots] at X' e1 e2 e3 stp hQ
  subst e1 e2 e3
  exact (k _ _ _ X' hQ).by stp
theorem g_callI (X : Stand p l e R s m args below meth c T locs cells slots) (hx : p.tables.exec = Jvm.exec) (hZ : Z.Warmed39 s.vm) {own : String} {i : Nat} {y : MethodName} {bytes : ByteArray} {maxL : Nat} {rm : Room} {as : Array Value} {Q' : Option Value → Heap → List Loc → Prop} (hy1 : y.name = "<init>") (hown : s.vm.findClass own = some m.cls) (w1 : (Jvm.Cond.methodLink own i y).before a0 Z = true) (w2 : (Jvm.Cond.instanceMethod y).before a0 Z = true) (w3 : (Jvm.Cond.initialized y.cls).before a0 Z = true) (w4 : (Jvm.Cond.code y bytes maxL none).before a0 Z = true) (hy : y.cls ≠ "java/lang/invoke/MethodHandle" ∧ y.cls ≠ "java/lang/invoke/VarHandle") (eT : T.heap = h) (hM : MetFree l y (head1 [Jvm.Cond.code y bytes maxL none] rm) (fun a U => a = as ∧ Z.Warmed39 U.vm ∧ U.heap = h) (fun _ _ _ _ _ => True) (fun _ U o U' => ∃ v L, o = .returned v ∧ Q' v U'.heap L ∧ FrameEnd U o U' L rm.cells rm.slots)) (b : Addr) (argsL rest : List Value) (W : Nat) (has : (.ref b :: argsL : List Value).toArray = as) (hlen : ∀ sig, parseMethodDescriptor y.desc = some sig → argsL.length = sig.parameters.length) (hst : st = argsL.reverse ++ .ref b :: rest) (hW : (rest.map fun v => v.category).sum ≤ W) (hf : rm.frames + 1 ≤ R.frames) (hlo : W + (maxL + 11) + rm.locals ≤ R.locals) (hcl : cells + rm.cells ≤ R.cells) (hsl : slots + rm.slots ≤ R.slots) (hsz : Ls.size = c.maxLocals) (hd : decode c.code pc = .ok (.invokespecial i, 3)) (k : ∀ T' L v, Stand p l e R s m args below meth c T' (locs ++ L) (cells + rm.cells) (slots + rm.slots) → Q' v T'.heap L → Go p e below s Q rc rs (T'.setTop (mkF m (pc + 3) Ls (v.toList ++ rest)))) : Go p e below s Q rc rs (T.setTop (mkF m pc Ls st)) := by
  subst hst has
  obtain ⟨_, _, ⟨T', L', k', n'⟩, -, X', ⟨Lc, hQ, e1, e2, e3⟩, stp⟩ := X.specialBack hx (y := y) hy1 hown (mvT hZ w1) (mvT hZ w2) (mvT hZ w4) hy (backOf (W := W) hM hZ w4 w3 hf hlo) (g := mkF m pc Ls (argsL.reverse ++ .ref b :: rest)) rfl hsz (Steps.refl _) (a := b) (argsL := argsL) (rest := rest) hlen rfl (by show 2 * 0 + _ ≤ _; omega) hd (fun _ _ => ⟨rfl, eT, hcl, hsl⟩)
  dsimp only [Pt.U, Pt.locs, Pt.cells, Pt.slots] at X' e1 e2 e3 stp hQ
  subst e1 e2 e3
  exact (k _ _ _ X' hQ).by fun t k => stp.trans k
theorem g_callV (X : Stand p l e R s m args below meth c T locs cells slots) (hx : p.tables.exec = Jvm.exec) (hZ : Z.Warmed39 s.vm) {own C : String} {i : Nat} {y : MethodName} {bytes : ByteArray} {maxL : Nat} {ret : Option FieldType} {rm : Room} {as : Array Value} {Q' : Option Value → Heap → List Loc → Prop} (hown : s.vm.findClass own = some m.cls) (w1 : (Jvm.Cond.methodLink own i y).before a0 Z = true) (w2 : (Jvm.Cond.declares y).before a0 Z = true) (w5 : (Jvm.Cond.selects C y y).before a0 Z = true) (w6 : (Jvm.Cond.instanceMethod y).before a0 Z = true) (w3 : (Jvm.Cond.initialized y.cls).before a0 Z = true) (w4 : (Jvm.Cond.code y bytes maxL ret).before a0 Z = true) (hy : y.cls ≠ "java/lang/invoke/MethodHandle" ∧ y.cls ≠ "java/lang/invoke/VarHandle") (eT : T.heap = h) (b : Addr) (E : Exa Z h b C) (hM : MetFree l y (head1 [Jvm.Cond.code y bytes maxL ret] rm) (fun a U => a = as ∧ Z.Warmed39 U.vm ∧ U.heap = h) (fun _ _ _ _ _ => True) (fun _ U o U' => ∃ v L, o = .returned v ∧ Q' v U'.heap L ∧ FrameEnd U o U' L rm.cells rm.slots)) (argsL rest : List Value) (W : Nat) (has : (.ref b :: argsL : List Value).toArray = as) (hlen : ∀ sig, parseMethodDescriptor y.desc = some sig → argsL.length = sig.parameters.length) (hst : st = argsL.reverse ++ .ref b :: rest) (hW : (rest.map fun v => v.category).sum ≤ W) (hf : rm.frames + 1 ≤ R.frames) (hlo : W + (maxL + 11) + rm.locals ≤ R.locals) (hcl : cells + rm.cells ≤ R.cells) (hsl : slots + rm.slots ≤ R.slots) (hsz : Ls.size = c.maxLocals) (hd : decode c.code pc = .ok (.invokevirtual i, 3)) (k : ∀ T' L v, Stand p l e R s m args below meth c T' (locs ++ L) (cells + rm.cells) (slots + rm.slots) → Q' v T'.heap L → Go p e below s Q rc rs (T'.setTop (mkF m (pc + 3) Ls (v.toList ++ rest)))) : Go p e below s Q rc rs (T.setTop (mkF m pc Ls st)) := by
  subst hst has
  obtain ⟨cq, kq, qa, qb, qc⟩ := isOf hZ eT E
  obtain ⟨_, _, ⟨T', L', k', n'⟩, -, X', ⟨Lc, hQ, e1, e2, e3⟩, stp⟩ := X.virtualBack hx (y := y) (z := y) hown (mvT hZ w1) (mvT hZ w2) (notFace_of_selects (args := #[]) (mvT hZ w5)) (mvT hZ w5) (mvT hZ w6) hy (backOf (W := W) hM hZ w4 w3 hf hlo) qa qc (g := mkF m pc Ls (argsL.reverse ++ .ref b :: rest)) rfl hsz (Steps.refl _) (argsL := argsL) (rest := rest) hlen rfl (by show 2 * 0 + _ ≤ _; omega) hd (fun _ _ => ⟨rfl, eT, hcl, hsl⟩)
  dsimp only [Pt.U, Pt.locs, Pt.cells, Pt.slots] at X' e1 e2 e3 stp hQ
  subst e1 e2 e3
  exact (k _ _ _ X' hQ).by fun t k => stp.trans k
theorem g_callP (X : Stand p l e R s m args below meth c T locs cells slots) (hx : p.tables.exec = Jvm.exec) (hZ : Z.Warmed39 s.vm) {own C : String} {i : Nat} {y : MethodName} {bytes : ByteArray} {maxL : Nat} {ret : Option FieldType} {rm : Room} {as : Array Value} {Q' : Option Value → Heap → List Loc → Prop} (hown : s.vm.findClass own = some m.cls) (w1 : (Jvm.Cond.methodLink own i y).before a0 Z = true) (w2 : (Jvm.Cond.instanceMethod y).before a0 Z = true) (w5 : (Jvm.Cond.selects y.cls y y).before a0 Z = true) (w6 : (Jvm.Cond.privateMethod y).before a0 Z = true) (w3 : (Jvm.Cond.initialized y.cls).before a0 Z = true) (w4 : (Jvm.Cond.code y bytes maxL ret).before a0 Z = true) (hy : y.cls ≠ "java/lang/invoke/MethodHandle" ∧ y.cls ≠ "java/lang/invoke/VarHandle") (eT : T.heap = h) (b : Addr) (E : Exa Z h b C) (hM : MetFree l y (head1 [Jvm.Cond.code y bytes maxL ret] rm) (fun a U => a = as ∧ Z.Warmed39 U.vm ∧ U.heap = h) (fun _ _ _ _ _ => True) (fun _ U o U' => ∃ v L, o = .returned v ∧ Q' v U'.heap L ∧ FrameEnd U o U' L rm.cells rm.slots)) (argsL rest : List Value) (W : Nat) (has : (.ref b :: argsL : List Value).toArray = as) (hlen : ∀ sig, parseMethodDescriptor y.desc = some sig → argsL.length = sig.parameters.length) (hst : st = argsL.reverse ++ .ref b :: rest) (hW : (rest.map fun v => v.category).sum ≤ W) (hf : rm.frames + 1 ≤ R.frames) (hlo : W + (maxL + 11) + rm.locals ≤ R.locals) (hcl : cells + rm.cells ≤ R.cells) (hsl : slots + rm.slots ≤ R.slots) (hsz : Ls.size = c.maxLocals) (hd : decode c.code pc = .ok (.invokevirtual i, 3)) (k : ∀ T' L v, Stand p l e R s m args below meth c T' (locs ++ L) (cells + rm.cells) (slots + rm.slots) → Q' v T'.heap L → Go p e below s Q rc rs (T'.setTop (mkF m (pc + 3) Ls (v.toList ++ rest)))) : Go p e below s Q rc rs (T.setTop (mkF m pc Ls st)) := by
  subst hst has
  obtain ⟨cq, q, q'⟩ := E.cell
  obtain ⟨_, _, ⟨T', L', k', n'⟩, -, X', ⟨Lc, hQ, e1, e2, e3⟩, stp⟩ := X.privateBack hx (y := y) hown (mvT hZ w1) (mvT hZ w2) (mvT hZ w5) (Cond.privateMethod_at (mvP hZ w6 (args := #[]))) (mvT hZ w4) hy (backOf (W := W) hM hZ w4 w3 hf hlo) (g := mkF m pc Ls (argsL.reverse ++ .ref b :: rest)) rfl hsz (Steps.refl _) (a := b) (by rw [eT]; exact q) q' (argsL := argsL) (rest := rest) hlen rfl (by show 2 * 0 + _ ≤ _; omega) hd (fun _ _ => ⟨rfl, eT, hcl, hsl⟩)
  dsimp only [Pt.U, Pt.locs, Pt.cells, Pt.slots] at X' e1 e2 e3 stp hQ
  subst e1 e2 e3
  exact (k _ _ _ X' hQ).by fun t k => stp.trans k
end OwnKit
theorem d1_0 : decode prog_3_method_4_code 0 = .ok (.iload_n 0, 1) := by decide +kernel
theorem d1_1 : decode prog_3_method_4_code 1 = .ok (.ifCond .le 9, 3) := by decide +kernel
theorem d1_4 : decode prog_3_method_4_code 4 = .ok (.iconst 2, 1) := by decide +kernel
theorem d1_5 : decode prog_3_method_4_code 5 = .ok (.iload_n 0, 1) := by decide +kernel
theorem d1_6 : decode prog_3_method_4_code 6 = .ok (.imul, 1) := by decide +kernel
theorem d1_7 : decode prog_3_method_4_code 7 = .ok (.goto 9, 3) := by decide +kernel
theorem d1_10 : decode prog_3_method_4_code 10 = .ok (.bipush (-2), 2) := by decide +kernel
theorem d1_12 : decode prog_3_method_4_code 12 = .ok (.iload_n 0, 1) := by decide +kernel
theorem d1_13 : decode prog_3_method_4_code 13 = .ok (.imul, 1) := by decide +kernel
theorem d1_14 : decode prog_3_method_4_code 14 = .ok (.iconst 1, 1) := by decide +kernel
theorem d1_15 : decode prog_3_method_4_code 15 = .ok (.iadd, 1) := by decide +kernel
theorem d1_16 : decode prog_3_method_4_code 16 = .ok (.ireturn, 1) := by decide +kernel
theorem pn_1 : plainName "com/example/varietal/varietal/core/Occurrences" = true := by first | (simp [plainName, overriddenIn]; done) | decide +kernel
theorem ef_1 (m : MethodId) (x0 : Int32) : entryFrame m #[(.int x0)] 1 = mkF m 0 #[.val (.int x0)] [] := by first | (simp [entryFrame, mkF, argsToLocals, Value.category]; done) | rfl
def f1 (x0 : Int32) : Int32 := if (0 : Int32) < x0 then ((2 : Int32) * x0) else (((-2 : Int32) * x0) + (1 : Int32))
def Q1 (x0 : Int32) (h0 : Heap) (v : Option Value) (h : Heap) (L : List Loc) : Prop := v = some (.int (f1 x0)) ∧ L = [] ∧ h = h0
set_option maxRecDepth 65536 in
set_option maxHeartbeats 40000000 in
theorem rm1 (l : Launch) (Z : State) (a0 : Array Value) (hw : ∀ d ∈ tables_1, d.before a0 Z = true) (ws : List Jvm.Cond) (x0 : Int32) (h0 : Heap) :
    MetFree l (⟨"com/example/varietal/varietal/core/Occurrences", "index", "(I)I"⟩ : MethodName) (head1 (Jvm.Cond.code (⟨"com/example/varietal/varietal/core/Occurrences", "index", "(I)I"⟩ : MethodName) prog_3_method_4_code 1 (some .int) :: ws) ({ frames := 0, cells := 0, slots := 0, locals := 0 } : Room)) (fun a U => a = #[(.int x0)] ∧ Z.Warmed39 U.vm ∧ U.heap = h0) (fun _ _ _ _ _ => True) (fun _ U o U' => ∃ v L, o = .returned v ∧ Q1 x0 h0 v U'.heap L ∧ FrameEnd U o U' L ({ frames := 0, cells := 0, slots := 0, locals := 0 } : Room).cells ({ frames := 0, cells := 0, slots := 0, locals := 0 } : Room).slots) := by
  refine g_body (plainFor_of_name pn_1) ?_
  intro p e s m below meth c T0 X0 hx hby hml hret hlk hown hnm hZ e0
  rw [ef_1]
  show Go p e below s _ _ _ (T0.setTop (mkF m 0 #[.val (.int x0)] []))
  refine g_iloadN X0 hx 1 (hb hby d1_0) rfl rfl ?_
  show Go p e below s _ _ _ (T0.setTop (mkF m 1 #[.val (.int x0)] [(.int x0)]))
  refine g_if0_le X0 hx 10 4 (hb hby d1_1) (by decide) rfl rfl (fun h1 => ?_) (fun h1 => ?_)
  · show Go p e below s _ _ _ (T0.setTop (mkF m 4 #[.val (.int x0)] []))
    refine g_iconst X0 hx (2 : Int32) 5 (hb hby d1_4) rfl rfl ?_
    show Go p e below s _ _ _ (T0.setTop (mkF m 5 #[.val (.int x0)] [(.int (2 : Int32))]))
    refine g_iloadN X0 hx 6 (hb hby d1_5) rfl rfl ?_
    show Go p e below s _ _ _ (T0.setTop (mkF m 6 #[.val (.int x0)] [(.int x0), (.int (2 : Int32))]))
    refine g_imul X0 hx 7 (hb hby d1_6) rfl ?_
    show Go p e below s _ _ _ (T0.setTop (mkF m 7 #[.val (.int x0)] [(.int ((2 : Int32) * x0))]))
    refine g_goto X0 hx 16 (hb hby d1_7) (by decide) rfl ?_
    show Go p e below s _ _ _ (T0.setTop (mkF m 16 #[.val (.int x0)] [(.int ((2 : Int32) * x0))]))
    exact g_retI X0 hx hret hlk (hb hby d1_16) (by decide) (by decide) ⟨congrArg (fun z => some (Value.int z)) (show ((2 : Int32) * x0) = (f1 x0) from by rw [f1, if_pos h1]), rfl, e0⟩
  · show Go p e below s _ _ _ (T0.setTop (mkF m 10 #[.val (.int x0)] []))
    refine g_bipush X0 hx (-2 : Int32) 12 (hb hby d1_10) rfl rfl ?_
    show Go p e below s _ _ _ (T0.setTop (mkF m 12 #[.val (.int x0)] [(.int (-2 : Int32))]))
    refine g_iloadN X0 hx 13 (hb hby d1_12) rfl rfl ?_
    show Go p e below s _ _ _ (T0.setTop (mkF m 13 #[.val (.int x0)] [(.int x0), (.int (-2 : Int32))]))
    refine g_imul X0 hx 14 (hb hby d1_13) rfl ?_
    show Go p e below s _ _ _ (T0.setTop (mkF m 14 #[.val (.int x0)] [(.int ((-2 : Int32) * x0))]))
    refine g_iconst X0 hx (1 : Int32) 15 (hb hby d1_14) rfl rfl ?_
    show Go p e below s _ _ _ (T0.setTop (mkF m 15 #[.val (.int x0)] [(.int (1 : Int32)), (.int ((-2 : Int32) * x0))]))
    refine g_iadd X0 hx 16 (hb hby d1_15) rfl ?_
    show Go p e below s _ _ _ (T0.setTop (mkF m 16 #[.val (.int x0)] [(.int (((-2 : Int32) * x0) + (1 : Int32)))]))
    exact g_retI X0 hx hret hlk (hb hby d1_16) (by decide) (by decide) ⟨congrArg (fun z => some (Value.int z)) (show (((-2 : Int32) * x0) + (1 : Int32)) = (f1 x0) from by rw [f1, if_neg h1]), rfl, e0⟩
theorem pd__28I_29I : parseMethodDescriptor "(I)I" = some ⟨[.int], some .int⟩ := by decide +kernel
theorem pn_0 : plainName "com/example/varietal/varietal/core/OccurrencesIndexPinLaw" = true := by first | (simp [plainName, overriddenIn]; done) | decide +kernel
theorem ef_0 (m : MethodId) (x0 : Int32) (x1 : Int32) : entryFrame m #[(.int x0), (.int x1)] maxLocals = mkF m 0 #[.val (.int x0), .val (.int x1), .unset, .unset, .unset, .unset, .unset, .unset, .unset, .unset] [] := by first | (simp [entryFrame, mkF, argsToLocals, Value.category, maxLocals]; done) | rfl
def v0_v (x0 : Int32) : Int32 := (((x0 &&& (2147483647 : Int32)) % (1073741823 : Int32)) + (1 : Int32))
def z0_21_s0_1 (x1 : Int32) : Int32 := (if (x1 &&& (1 : Int32)) = (0 : Int32) then (0 : Int32) else (1 : Int32))
def z0_32_s0_2 (x0 : Int32) (x1 : Int32) : Int32 := (if (z0_21_s0_1 x1) = (0 : Int32) then (v0_v x0) else (-(v0_v x0)))
def v0_lit (x0 : Int32) (x1 : Int32) : Int32 := (z0_32_s0_2 x0 x1)
def v0_idx (x0 : Int32) (x1 : Int32) : Int32 := (f1 (v0_lit x0 x1))
def v0_oth (x0 : Int32) (x1 : Int32) : Int32 := (f1 (-(v0_lit x0 x1)))
def z0_64_s0_5 (x1 : Int32) : Int64 := (if (z0_21_s0_1 x1) = (0 : Int32) then (0 : Int64) else (1 : Int64))
def v0_exp (x0 : Int32) (x1 : Int32) : Int64 := (((2 : Int64) * ((v0_v x0).toInt64)) + (z0_64_s0_5 x1))
def z0_76_s0_6 (x1 : Int32) : Int32 := (if (z0_21_s0_1 x1) = (0 : Int32) then (0 : Int32) else (1 : Int32))
def f0 (x0 : Int32) (x1 : Int32) : Int32 := if ((v0_idx x0 x1).toInt64) = (v0_exp x0 x1) then (if (shrI (v0_idx x0 x1) (1 : Int32)) = (v0_v x0) then (if ((v0_idx x0 x1) &&& (1 : Int32)) = (z0_76_s0_6 x1) then (if ((v0_idx x0 x1) ^^^ (1 : Int32)) = (v0_oth x0 x1) then (if (v0_idx x0 x1) < (2 : Int32) then (0 : Int32) else if (((2 : Int64) * ((v0_v x0).toInt64)) + (1 : Int64)) < ((v0_idx x0 x1).toInt64) then (0 : Int32) else (1 : Int32)) else (0 : Int32)) else (0 : Int32)) else (0 : Int32)) else (0 : Int32)
def Q0 (x0 : Int32) (x1 : Int32) (h0 : Heap) (v : Option Value) (h : Heap) (L : List Loc) : Prop := v = some (.int (f0 x0 x1)) ∧ L = [] ∧ h = h0
set_option maxRecDepth 65536 in
set_option maxHeartbeats 40000000 in
theorem rm0 (l : Launch) (Z : State) (a0 : Array Value) (hw : ∀ d ∈ tables_1, d.before a0 Z = true) (ws : List Jvm.Cond) (x0 : Int32) (x1 : Int32) (h0 : Heap) :
    MetFree l x (head1 (Jvm.Cond.code x code maxLocals ret :: ws) room_1) (fun a U => a = #[(.int x0), (.int x1)] ∧ Z.Warmed39 U.vm ∧ U.heap = h0) (fun _ _ _ _ _ => True) (fun _ U o U' => ∃ v L, o = .returned v ∧ Q0 x0 x1 h0 v U'.heap L ∧ FrameEnd U o U' L room_1.cells room_1.slots) := by
  refine g_body (plainFor_of_name pn_0) ?_
  intro p e s m below meth c T0 X0 hx hby hml hret hlk hown hnm hZ e0
  rw [ef_0]
  show Go p e below s _ _ _ (T0.setTop (mkF m 0 #[.val (.int x0), .val (.int x1), .unset, .unset, .unset, .unset, .unset, .unset, .unset, .unset] []))
  refine g_iloadN X0 hx 1 (hb hby at_0) rfl rfl ?_
  show Go p e below s _ _ _ (T0.setTop (mkF m 1 #[.val (.int x0), .val (.int x1), .unset, .unset, .unset, .unset, .unset, .unset, .unset, .unset] [(.int x0)]))
  refine g_ldc X0 hx hZ hown (hw _ (List.mem_of_getElem? (i := 0) rfl)) 3 (hb hby at_1) rfl ?_
  show Go p e below s _ _ _ (T0.setTop (mkF m 3 #[.val (.int x0), .val (.int x1), .unset, .unset, .unset, .unset, .unset, .unset, .unset, .unset] [(.int (2147483647 : Int32)), (.int x0)]))
  refine g_iand X0 hx 4 (hb hby at_3) rfl ?_
  show Go p e below s _ _ _ (T0.setTop (mkF m 4 #[.val (.int x0), .val (.int x1), .unset, .unset, .unset, .unset, .unset, .unset, .unset, .unset] [(.int (x0 &&& (2147483647 : Int32)))]))
  refine g_ldc X0 hx hZ hown (hw _ (List.mem_of_getElem? (i := 1) rfl)) 6 (hb hby at_4) rfl ?_
  show Go p e below s _ _ _ (T0.setTop (mkF m 6 #[.val (.int x0), .val (.int x1), .unset, .unset, .unset, .unset, .unset, .unset, .unset, .unset] [(.int (1073741823 : Int32)), (.int (x0 &&& (2147483647 : Int32)))]))
  refine g_irem X0 hx 7 (hb hby at_6) (by decide) rfl ?_
  show Go p e below s _ _ _ (T0.setTop (mkF m 7 #[.val (.int x0), .val (.int x1), .unset, .unset, .unset, .unset, .unset, .unset, .unset, .unset] [(.int ((x0 &&& (2147483647 : Int32)) % (1073741823 : Int32)))]))
  refine g_iconst X0 hx (1 : Int32) 8 (hb hby at_7) rfl rfl ?_
  show Go p e below s _ _ _ (T0.setTop (mkF m 8 #[.val (.int x0), .val (.int x1), .unset, .unset, .unset, .unset, .unset, .unset, .unset, .unset] [(.int (1 : Int32)), (.int ((x0 &&& (2147483647 : Int32)) % (1073741823 : Int32)))]))
  refine g_iadd X0 hx 9 (hb hby at_8) rfl ?_
  show Go p e below s _ _ _ (T0.setTop (mkF m 9 #[.val (.int x0), .val (.int x1), .unset, .unset, .unset, .unset, .unset, .unset, .unset, .unset] [(.int (((x0 &&& (2147483647 : Int32)) % (1073741823 : Int32)) + (1 : Int32)))]))
  refine g_istoreN X0 hx #[.val (.int x0), .val (.int x1), .val (.int (v0_v x0)), .unset, .unset, .unset, .unset, .unset, .unset, .unset] 10 (hb hby at_9) rfl rfl ?_
  show Go p e below s _ _ _ (T0.setTop (mkF m 10 #[.val (.int x0), .val (.int x1), .val (.int (v0_v x0)), .unset, .unset, .unset, .unset, .unset, .unset, .unset] []))
  refine g_iloadN X0 hx 11 (hb hby at_10) rfl rfl ?_
  show Go p e below s _ _ _ (T0.setTop (mkF m 11 #[.val (.int x0), .val (.int x1), .val (.int (v0_v x0)), .unset, .unset, .unset, .unset, .unset, .unset, .unset] [(.int x1)]))
  refine g_iconst X0 hx (1 : Int32) 12 (hb hby at_11) rfl rfl ?_
  show Go p e below s _ _ _ (T0.setTop (mkF m 12 #[.val (.int x0), .val (.int x1), .val (.int (v0_v x0)), .unset, .unset, .unset, .unset, .unset, .unset, .unset] [(.int (1 : Int32)), (.int x1)]))
  refine g_iand X0 hx 13 (hb hby at_12) rfl ?_
  show Go p e below s _ _ _ (T0.setTop (mkF m 13 #[.val (.int x0), .val (.int x1), .val (.int (v0_v x0)), .unset, .unset, .unset, .unset, .unset, .unset, .unset] [(.int (x1 &&& (1 : Int32)))]))
  have J1 : Go p e below s (Q0 x0 x1 h0) room_1.cells room_1.slots (T0.setTop (mkF m 21 #[.val (.int x0), .val (.int x1), .val (.int (v0_v x0)), .unset, .unset, .unset, .unset, .unset, .unset, .unset] [(.int (z0_21_s0_1 x1))])) := by
    refine g_istoreN X0 hx #[.val (.int x0), .val (.int x1), .val (.int (v0_v x0)), .val (.int (z0_21_s0_1 x1)), .unset, .unset, .unset, .unset, .unset, .unset] 22 (hb hby at_21) rfl rfl ?_
    show Go p e below s _ _ _ (T0.setTop (mkF m 22 #[.val (.int x0), .val (.int x1), .val (.int (v0_v x0)), .val (.int (z0_21_s0_1 x1)), .unset, .unset, .unset, .unset, .unset, .unset] []))
    refine g_iloadN X0 hx 23 (hb hby at_22) rfl rfl ?_
    show Go p e below s _ _ _ (T0.setTop (mkF m 23 #[.val (.int x0), .val (.int x1), .val (.int (v0_v x0)), .val (.int (z0_21_s0_1 x1)), .unset, .unset, .unset, .unset, .unset, .unset] [(.int (z0_21_s0_1 x1))]))
    have J2 : Go p e below s (Q0 x0 x1 h0) room_1.cells room_1.slots (T0.setTop (mkF m 32 #[.val (.int x0), .val (.int x1), .val (.int (v0_v x0)), .val (.int (z0_21_s0_1 x1)), .unset, .unset, .unset, .unset, .unset, .unset] [(.int (z0_32_s0_2 x0 x1))])) := by
      refine g_istore X0 hx #[.val (.int x0), .val (.int x1), .val (.int (v0_v x0)), .val (.int (z0_21_s0_1 x1)), .val (.int (v0_lit x0 x1)), .unset, .unset, .unset, .unset, .unset] 34 (hb hby at_32) rfl rfl ?_
      show Go p e below s _ _ _ (T0.setTop (mkF m 34 #[.val (.int x0), .val (.int x1), .val (.int (v0_v x0)), .val (.int (z0_21_s0_1 x1)), .val (.int (v0_lit x0 x1)), .unset, .unset, .unset, .unset, .unset] []))
      refine g_iload X0 hx 36 (hb hby at_34) rfl rfl ?_
      show Go p e below s _ _ _ (T0.setTop (mkF m 36 #[.val (.int x0), .val (.int x1), .val (.int (v0_v x0)), .val (.int (z0_21_s0_1 x1)), .val (.int (v0_lit x0 x1)), .unset, .unset, .unset, .unset, .unset] [(.int (v0_lit x0 x1))]))
      refine g_callS X0 hx hZ hown (hw _ (List.mem_of_getElem? (i := 2) rfl)) (hw _ (List.mem_of_getElem? (i := 3) rfl)) (hw _ (List.mem_of_getElem? (i := 4) rfl)) (hw _ (List.mem_of_getElem? (i := 5) rfl)) (by decide) e0 (rm1 l Z a0 hw [] (v0_lit x0 x1) h0) [(.int (v0_lit x0 x1))] [] 0 rfl (lenOf pd__28I_29I rfl) rfl (Nat.le_of_eq rfl) (by decide) (by decide) (by decide) (by decide) (by rw [hml]; rfl) (hb hby at_36) ?_
      intro T3 L3 v3 X3 q3
      obtain ⟨rfl, rfl, e3⟩ := q3
      show Go p e below s _ _ _ (T3.setTop (mkF m 39 #[.val (.int x0), .val (.int x1), .val (.int (v0_v x0)), .val (.int (z0_21_s0_1 x1)), .val (.int (v0_lit x0 x1)), .unset, .unset, .unset, .unset, .unset] [(.int (f1 (v0_lit x0 x1)))]))
      refine g_istore X3 hx #[.val (.int x0), .val (.int x1), .val (.int (v0_v x0)), .val (.int (z0_21_s0_1 x1)), .val (.int (v0_lit x0 x1)), .val (.int (v0_idx x0 x1)), .unset, .unset, .unset, .unset] 41 (hb hby at_39) rfl rfl ?_
      show Go p e below s _ _ _ (T3.setTop (mkF m 41 #[.val (.int x0), .val (.int x1), .val (.int (v0_v x0)), .val (.int (z0_21_s0_1 x1)), .val (.int (v0_lit x0 x1)), .val (.int (v0_idx x0 x1)), .unset, .unset, .unset, .unset] []))
      refine g_iload X3 hx 43 (hb hby at_41) rfl rfl ?_
      show Go p e below s _ _ _ (T3.setTop (mkF m 43 #[.val (.int x0), .val (.int x1), .val (.int (v0_v x0)), .val (.int (z0_21_s0_1 x1)), .val (.int (v0_lit x0 x1)), .val (.int (v0_idx x0 x1)), .unset, .unset, .unset, .unset] [(.int (v0_lit x0 x1))]))
      refine g_ineg X3 hx 44 (hb hby at_43) rfl ?_
      show Go p e below s _ _ _ (T3.setTop (mkF m 44 #[.val (.int x0), .val (.int x1), .val (.int (v0_v x0)), .val (.int (z0_21_s0_1 x1)), .val (.int (v0_lit x0 x1)), .val (.int (v0_idx x0 x1)), .unset, .unset, .unset, .unset] [(.int (-(v0_lit x0 x1)))]))
      refine g_callS X3 hx hZ hown (hw _ (List.mem_of_getElem? (i := 2) rfl)) (hw _ (List.mem_of_getElem? (i := 3) rfl)) (hw _ (List.mem_of_getElem? (i := 4) rfl)) (hw _ (List.mem_of_getElem? (i := 5) rfl)) (by decide) e3 (rm1 l Z a0 hw [] (-(v0_lit x0 x1)) h0) [(.int (-(v0_lit x0 x1)))] [] 0 rfl (lenOf pd__28I_29I rfl) rfl (Nat.le_of_eq rfl) (by decide) (by decide) (by decide) (by decide) (by rw [hml]; rfl) (hb hby at_44) ?_
      intro T4 L4 v4 X4 q4
      obtain ⟨rfl, rfl, e4⟩ := q4
      show Go p e below s _ _ _ (T4.setTop (mkF m 47 #[.val (.int x0), .val (.int x1), .val (.int (v0_v x0)), .val (.int (z0_21_s0_1 x1)), .val (.int (v0_lit x0 x1)), .val (.int (v0_idx x0 x1)), .unset, .unset, .unset, .unset] [(.int (f1 (-(v0_lit x0 x1))))]))
      refine g_istore X4 hx #[.val (.int x0), .val (.int x1), .val (.int (v0_v x0)), .val (.int (z0_21_s0_1 x1)), .val (.int (v0_lit x0 x1)), .val (.int (v0_idx x0 x1)), .val (.int (v0_oth x0 x1)), .unset, .unset, .unset] 49 (hb hby at_47) rfl rfl ?_
      show Go p e below s _ _ _ (T4.setTop (mkF m 49 #[.val (.int x0), .val (.int x1), .val (.int (v0_v x0)), .val (.int (z0_21_s0_1 x1)), .val (.int (v0_lit x0 x1)), .val (.int (v0_idx x0 x1)), .val (.int (v0_oth x0 x1)), .unset, .unset, .unset] []))
      refine g_ldc2_w X4 hx hZ hown (hw _ (List.mem_of_getElem? (i := 6) rfl)) 52 (hb hby at_49) rfl ?_
      show Go p e below s _ _ _ (T4.setTop (mkF m 52 #[.val (.int x0), .val (.int x1), .val (.int (v0_v x0)), .val (.int (z0_21_s0_1 x1)), .val (.int (v0_lit x0 x1)), .val (.int (v0_idx x0 x1)), .val (.int (v0_oth x0 x1)), .unset, .unset, .unset] [(.long (2 : Int64))]))
      refine g_iloadN X4 hx 53 (hb hby at_52) rfl rfl ?_
      show Go p e below s _ _ _ (T4.setTop (mkF m 53 #[.val (.int x0), .val (.int x1), .val (.int (v0_v x0)), .val (.int (z0_21_s0_1 x1)), .val (.int (v0_lit x0 x1)), .val (.int (v0_idx x0 x1)), .val (.int (v0_oth x0 x1)), .unset, .unset, .unset] [(.int (v0_v x0)), (.long (2 : Int64))]))
      refine g_i2l X4 hx 54 (hb hby at_53) rfl ?_
      show Go p e below s _ _ _ (T4.setTop (mkF m 54 #[.val (.int x0), .val (.int x1), .val (.int (v0_v x0)), .val (.int (z0_21_s0_1 x1)), .val (.int (v0_lit x0 x1)), .val (.int (v0_idx x0 x1)), .val (.int (v0_oth x0 x1)), .unset, .unset, .unset] [(.long ((v0_v x0).toInt64)), (.long (2 : Int64))]))
      refine g_lmul X4 hx 55 (hb hby at_54) rfl ?_
      show Go p e below s _ _ _ (T4.setTop (mkF m 55 #[.val (.int x0), .val (.int x1), .val (.int (v0_v x0)), .val (.int (z0_21_s0_1 x1)), .val (.int (v0_lit x0 x1)), .val (.int (v0_idx x0 x1)), .val (.int (v0_oth x0 x1)), .unset, .unset, .unset] [(.long ((2 : Int64) * ((v0_v x0).toInt64)))]))
      refine g_iloadN X4 hx 56 (hb hby at_55) rfl rfl ?_
      show Go p e below s _ _ _ (T4.setTop (mkF m 56 #[.val (.int x0), .val (.int x1), .val (.int (v0_v x0)), .val (.int (z0_21_s0_1 x1)), .val (.int (v0_lit x0 x1)), .val (.int (v0_idx x0 x1)), .val (.int (v0_oth x0 x1)), .unset, .unset, .unset] [(.int (z0_21_s0_1 x1)), (.long ((2 : Int64) * ((v0_v x0).toInt64)))]))
      have J5 : Go p e below s (Q0 x0 x1 h0) room_1.cells room_1.slots (T4.setTop (mkF m 64 #[.val (.int x0), .val (.int x1), .val (.int (v0_v x0)), .val (.int (z0_21_s0_1 x1)), .val (.int (v0_lit x0 x1)), .val (.int (v0_idx x0 x1)), .val (.int (v0_oth x0 x1)), .unset, .unset, .unset] [(.long (z0_64_s0_5 x1)), (.long ((2 : Int64) * ((v0_v x0).toInt64)))])) := by
        refine g_ladd X4 hx 65 (hb hby at_64) rfl ?_
        show Go p e below s _ _ _ (T4.setTop (mkF m 65 #[.val (.int x0), .val (.int x1), .val (.int (v0_v x0)), .val (.int (z0_21_s0_1 x1)), .val (.int (v0_lit x0 x1)), .val (.int (v0_idx x0 x1)), .val (.int (v0_oth x0 x1)), .unset, .unset, .unset] [(.long (((2 : Int64) * ((v0_v x0).toInt64)) + (z0_64_s0_5 x1)))]))
        refine g_lstore X4 hx #[.val (.int x0), .val (.int x1), .val (.int (v0_v x0)), .val (.int (z0_21_s0_1 x1)), .val (.int (v0_lit x0 x1)), .val (.int (v0_idx x0 x1)), .val (.int (v0_oth x0 x1)), .val (.long (v0_exp x0 x1)), .second, .unset] 67 (hb hby at_65) rfl rfl ?_
        show Go p e below s _ _ _ (T4.setTop (mkF m 67 #[.val (.int x0), .val (.int x1), .val (.int (v0_v x0)), .val (.int (z0_21_s0_1 x1)), .val (.int (v0_lit x0 x1)), .val (.int (v0_idx x0 x1)), .val (.int (v0_oth x0 x1)), .val (.long (v0_exp x0 x1)), .second, .unset] []))
        refine g_iloadN X4 hx 68 (hb hby at_67) rfl rfl ?_
        show Go p e below s _ _ _ (T4.setTop (mkF m 68 #[.val (.int x0), .val (.int x1), .val (.int (v0_v x0)), .val (.int (z0_21_s0_1 x1)), .val (.int (v0_lit x0 x1)), .val (.int (v0_idx x0 x1)), .val (.int (v0_oth x0 x1)), .val (.long (v0_exp x0 x1)), .second, .unset] [(.int (z0_21_s0_1 x1))]))
        have J6 : Go p e below s (Q0 x0 x1 h0) room_1.cells room_1.slots (T4.setTop (mkF m 76 #[.val (.int x0), .val (.int x1), .val (.int (v0_v x0)), .val (.int (z0_21_s0_1 x1)), .val (.int (v0_lit x0 x1)), .val (.int (v0_idx x0 x1)), .val (.int (v0_oth x0 x1)), .val (.long (v0_exp x0 x1)), .second, .unset] [(.int (z0_76_s0_6 x1))])) := by
          refine g_istore X4 hx #[.val (.int x0), .val (.int x1), .val (.int (v0_v x0)), .val (.int (z0_21_s0_1 x1)), .val (.int (v0_lit x0 x1)), .val (.int (v0_idx x0 x1)), .val (.int (v0_oth x0 x1)), .val (.long (v0_exp x0 x1)), .second, .val (.int (z0_76_s0_6 x1))] 78 (hb hby at_76) rfl rfl ?_
          show Go p e below s _ _ _ (T4.setTop (mkF m 78 #[.val (.int x0), .val (.int x1), .val (.int (v0_v x0)), .val (.int (z0_21_s0_1 x1)), .val (.int (v0_lit x0 x1)), .val (.int (v0_idx x0 x1)), .val (.int (v0_oth x0 x1)), .val (.long (v0_exp x0 x1)), .second, .val (.int (z0_76_s0_6 x1))] []))
          refine g_iload X4 hx 80 (hb hby at_78) rfl rfl ?_
          show Go p e below s _ _ _ (T4.setTop (mkF m 80 #[.val (.int x0), .val (.int x1), .val (.int (v0_v x0)), .val (.int (z0_21_s0_1 x1)), .val (.int (v0_lit x0 x1)), .val (.int (v0_idx x0 x1)), .val (.int (v0_oth x0 x1)), .val (.long (v0_exp x0 x1)), .second, .val (.int (z0_76_s0_6 x1))] [(.int (v0_idx x0 x1))]))
          refine g_i2l X4 hx 81 (hb hby at_80) rfl ?_
          show Go p e below s _ _ _ (T4.setTop (mkF m 81 #[.val (.int x0), .val (.int x1), .val (.int (v0_v x0)), .val (.int (z0_21_s0_1 x1)), .val (.int (v0_lit x0 x1)), .val (.int (v0_idx x0 x1)), .val (.int (v0_oth x0 x1)), .val (.long (v0_exp x0 x1)), .second, .val (.int (z0_76_s0_6 x1))] [(.long ((v0_idx x0 x1).toInt64))]))
          refine g_lload X4 hx 83 (hb hby at_81) rfl rfl ?_
          show Go p e below s _ _ _ (T4.setTop (mkF m 83 #[.val (.int x0), .val (.int x1), .val (.int (v0_v x0)), .val (.int (z0_21_s0_1 x1)), .val (.int (v0_lit x0 x1)), .val (.int (v0_idx x0 x1)), .val (.int (v0_oth x0 x1)), .val (.long (v0_exp x0 x1)), .second, .val (.int (z0_76_s0_6 x1))] [(.long (v0_exp x0 x1)), (.long ((v0_idx x0 x1).toInt64))]))
          refine g_lcmp X4 hx 84 (hb hby at_83) rfl ?_
          show Go p e below s _ _ _ (T4.setTop (mkF m 84 #[.val (.int x0), .val (.int x1), .val (.int (v0_v x0)), .val (.int (z0_21_s0_1 x1)), .val (.int (v0_lit x0 x1)), .val (.int (v0_idx x0 x1)), .val (.int (v0_oth x0 x1)), .val (.long (v0_exp x0 x1)), .second, .val (.int (z0_76_s0_6 x1))] [(.int (lcmpW ((v0_idx x0 x1).toInt64) (v0_exp x0 x1)))]))
          refine g_lc_ne X4 hx 138 87 (hb hby at_84) (by decide) rfl rfl (fun h7 => ?_) (fun h7 => ?_)
          · show Go p e below s _ _ _ (T4.setTop (mkF m 87 #[.val (.int x0), .val (.int x1), .val (.int (v0_v x0)), .val (.int (z0_21_s0_1 x1)), .val (.int (v0_lit x0 x1)), .val (.int (v0_idx x0 x1)), .val (.int (v0_oth x0 x1)), .val (.long (v0_exp x0 x1)), .second, .val (.int (z0_76_s0_6 x1))] []))
            refine g_iload X4 hx 89 (hb hby at_87) rfl rfl ?_
            show Go p e below s _ _ _ (T4.setTop (mkF m 89 #[.val (.int x0), .val (.int x1), .val (.int (v0_v x0)), .val (.int (z0_21_s0_1 x1)), .val (.int (v0_lit x0 x1)), .val (.int (v0_idx x0 x1)), .val (.int (v0_oth x0 x1)), .val (.long (v0_exp x0 x1)), .second, .val (.int (z0_76_s0_6 x1))] [(.int (v0_idx x0 x1))]))
            refine g_iconst X4 hx (1 : Int32) 90 (hb hby at_89) rfl rfl ?_
            show Go p e below s _ _ _ (T4.setTop (mkF m 90 #[.val (.int x0), .val (.int x1), .val (.int (v0_v x0)), .val (.int (z0_21_s0_1 x1)), .val (.int (v0_lit x0 x1)), .val (.int (v0_idx x0 x1)), .val (.int (v0_oth x0 x1)), .val (.long (v0_exp x0 x1)), .second, .val (.int (z0_76_s0_6 x1))] [(.int (1 : Int32)), (.int (v0_idx x0 x1))]))
            refine g_ishr X4 hx 91 (hb hby at_90) rfl ?_
            show Go p e below s _ _ _ (T4.setTop (mkF m 91 #[.val (.int x0), .val (.int x1), .val (.int (v0_v x0)), .val (.int (z0_21_s0_1 x1)), .val (.int (v0_lit x0 x1)), .val (.int (v0_idx x0 x1)), .val (.int (v0_oth x0 x1)), .val (.long (v0_exp x0 x1)), .second, .val (.int (z0_76_s0_6 x1))] [(.int (shrI (v0_idx x0 x1) (1 : Int32)))]))
            refine g_iloadN X4 hx 92 (hb hby at_91) rfl rfl ?_
            show Go p e below s _ _ _ (T4.setTop (mkF m 92 #[.val (.int x0), .val (.int x1), .val (.int (v0_v x0)), .val (.int (z0_21_s0_1 x1)), .val (.int (v0_lit x0 x1)), .val (.int (v0_idx x0 x1)), .val (.int (v0_oth x0 x1)), .val (.long (v0_exp x0 x1)), .second, .val (.int (z0_76_s0_6 x1))] [(.int (v0_v x0)), (.int (shrI (v0_idx x0 x1) (1 : Int32)))]))
            refine g_icmp_ne X4 hx 138 95 (hb hby at_92) (by decide) rfl rfl (fun h8 => ?_) (fun h8 => ?_)
            · show Go p e below s _ _ _ (T4.setTop (mkF m 95 #[.val (.int x0), .val (.int x1), .val (.int (v0_v x0)), .val (.int (z0_21_s0_1 x1)), .val (.int (v0_lit x0 x1)), .val (.int (v0_idx x0 x1)), .val (.int (v0_oth x0 x1)), .val (.long (v0_exp x0 x1)), .second, .val (.int (z0_76_s0_6 x1))] []))
              refine g_iload X4 hx 97 (hb hby at_95) rfl rfl ?_
              show Go p e below s _ _ _ (T4.setTop (mkF m 97 #[.val (.int x0), .val (.int x1), .val (.int (v0_v x0)), .val (.int (z0_21_s0_1 x1)), .val (.int (v0_lit x0 x1)), .val (.int (v0_idx x0 x1)), .val (.int (v0_oth x0 x1)), .val (.long (v0_exp x0 x1)), .second, .val (.int (z0_76_s0_6 x1))] [(.int (v0_idx x0 x1))]))
              refine g_iconst X4 hx (1 : Int32) 98 (hb hby at_97) rfl rfl ?_
              show Go p e below s _ _ _ (T4.setTop (mkF m 98 #[.val (.int x0), .val (.int x1), .val (.int (v0_v x0)), .val (.int (z0_21_s0_1 x1)), .val (.int (v0_lit x0 x1)), .val (.int (v0_idx x0 x1)), .val (.int (v0_oth x0 x1)), .val (.long (v0_exp x0 x1)), .second, .val (.int (z0_76_s0_6 x1))] [(.int (1 : Int32)), (.int (v0_idx x0 x1))]))
              refine g_iand X4 hx 99 (hb hby at_98) rfl ?_
              show Go p e below s _ _ _ (T4.setTop (mkF m 99 #[.val (.int x0), .val (.int x1), .val (.int (v0_v x0)), .val (.int (z0_21_s0_1 x1)), .val (.int (v0_lit x0 x1)), .val (.int (v0_idx x0 x1)), .val (.int (v0_oth x0 x1)), .val (.long (v0_exp x0 x1)), .second, .val (.int (z0_76_s0_6 x1))] [(.int ((v0_idx x0 x1) &&& (1 : Int32)))]))
              refine g_iload X4 hx 101 (hb hby at_99) rfl rfl ?_
              show Go p e below s _ _ _ (T4.setTop (mkF m 101 #[.val (.int x0), .val (.int x1), .val (.int (v0_v x0)), .val (.int (z0_21_s0_1 x1)), .val (.int (v0_lit x0 x1)), .val (.int (v0_idx x0 x1)), .val (.int (v0_oth x0 x1)), .val (.long (v0_exp x0 x1)), .second, .val (.int (z0_76_s0_6 x1))] [(.int (z0_76_s0_6 x1)), (.int ((v0_idx x0 x1) &&& (1 : Int32)))]))
              refine g_icmp_ne X4 hx 138 104 (hb hby at_101) (by decide) rfl rfl (fun h9 => ?_) (fun h9 => ?_)
              · show Go p e below s _ _ _ (T4.setTop (mkF m 104 #[.val (.int x0), .val (.int x1), .val (.int (v0_v x0)), .val (.int (z0_21_s0_1 x1)), .val (.int (v0_lit x0 x1)), .val (.int (v0_idx x0 x1)), .val (.int (v0_oth x0 x1)), .val (.long (v0_exp x0 x1)), .second, .val (.int (z0_76_s0_6 x1))] []))
                refine g_iload X4 hx 106 (hb hby at_104) rfl rfl ?_
                show Go p e below s _ _ _ (T4.setTop (mkF m 106 #[.val (.int x0), .val (.int x1), .val (.int (v0_v x0)), .val (.int (z0_21_s0_1 x1)), .val (.int (v0_lit x0 x1)), .val (.int (v0_idx x0 x1)), .val (.int (v0_oth x0 x1)), .val (.long (v0_exp x0 x1)), .second, .val (.int (z0_76_s0_6 x1))] [(.int (v0_idx x0 x1))]))
                refine g_iconst X4 hx (1 : Int32) 107 (hb hby at_106) rfl rfl ?_
                show Go p e below s _ _ _ (T4.setTop (mkF m 107 #[.val (.int x0), .val (.int x1), .val (.int (v0_v x0)), .val (.int (z0_21_s0_1 x1)), .val (.int (v0_lit x0 x1)), .val (.int (v0_idx x0 x1)), .val (.int (v0_oth x0 x1)), .val (.long (v0_exp x0 x1)), .second, .val (.int (z0_76_s0_6 x1))] [(.int (1 : Int32)), (.int (v0_idx x0 x1))]))
                refine g_ixor X4 hx 108 (hb hby at_107) rfl ?_
                show Go p e below s _ _ _ (T4.setTop (mkF m 108 #[.val (.int x0), .val (.int x1), .val (.int (v0_v x0)), .val (.int (z0_21_s0_1 x1)), .val (.int (v0_lit x0 x1)), .val (.int (v0_idx x0 x1)), .val (.int (v0_oth x0 x1)), .val (.long (v0_exp x0 x1)), .second, .val (.int (z0_76_s0_6 x1))] [(.int ((v0_idx x0 x1) ^^^ (1 : Int32)))]))
                refine g_iload X4 hx 110 (hb hby at_108) rfl rfl ?_
                show Go p e below s _ _ _ (T4.setTop (mkF m 110 #[.val (.int x0), .val (.int x1), .val (.int (v0_v x0)), .val (.int (z0_21_s0_1 x1)), .val (.int (v0_lit x0 x1)), .val (.int (v0_idx x0 x1)), .val (.int (v0_oth x0 x1)), .val (.long (v0_exp x0 x1)), .second, .val (.int (z0_76_s0_6 x1))] [(.int (v0_oth x0 x1)), (.int ((v0_idx x0 x1) ^^^ (1 : Int32)))]))
                refine g_icmp_ne X4 hx 138 113 (hb hby at_110) (by decide) rfl rfl (fun h10 => ?_) (fun h10 => ?_)
                · show Go p e below s _ _ _ (T4.setTop (mkF m 113 #[.val (.int x0), .val (.int x1), .val (.int (v0_v x0)), .val (.int (z0_21_s0_1 x1)), .val (.int (v0_lit x0 x1)), .val (.int (v0_idx x0 x1)), .val (.int (v0_oth x0 x1)), .val (.long (v0_exp x0 x1)), .second, .val (.int (z0_76_s0_6 x1))] []))
                  refine g_iload X4 hx 115 (hb hby at_113) rfl rfl ?_
                  show Go p e below s _ _ _ (T4.setTop (mkF m 115 #[.val (.int x0), .val (.int x1), .val (.int (v0_v x0)), .val (.int (z0_21_s0_1 x1)), .val (.int (v0_lit x0 x1)), .val (.int (v0_idx x0 x1)), .val (.int (v0_oth x0 x1)), .val (.long (v0_exp x0 x1)), .second, .val (.int (z0_76_s0_6 x1))] [(.int (v0_idx x0 x1))]))
                  refine g_iconst X4 hx (2 : Int32) 116 (hb hby at_115) rfl rfl ?_
                  show Go p e below s _ _ _ (T4.setTop (mkF m 116 #[.val (.int x0), .val (.int x1), .val (.int (v0_v x0)), .val (.int (z0_21_s0_1 x1)), .val (.int (v0_lit x0 x1)), .val (.int (v0_idx x0 x1)), .val (.int (v0_oth x0 x1)), .val (.long (v0_exp x0 x1)), .second, .val (.int (z0_76_s0_6 x1))] [(.int (2 : Int32)), (.int (v0_idx x0 x1))]))
                  refine g_icmp_lt X4 hx 138 119 (hb hby at_116) (by decide) rfl rfl (fun h11 => ?_) (fun h11 => ?_)
                  · show Go p e below s _ _ _ (T4.setTop (mkF m 138 #[.val (.int x0), .val (.int x1), .val (.int (v0_v x0)), .val (.int (z0_21_s0_1 x1)), .val (.int (v0_lit x0 x1)), .val (.int (v0_idx x0 x1)), .val (.int (v0_oth x0 x1)), .val (.long (v0_exp x0 x1)), .second, .val (.int (z0_76_s0_6 x1))] []))
                    refine g_iconst X4 hx (0 : Int32) 139 (hb hby at_138) rfl rfl ?_
                    show Go p e below s _ _ _ (T4.setTop (mkF m 139 #[.val (.int x0), .val (.int x1), .val (.int (v0_v x0)), .val (.int (z0_21_s0_1 x1)), .val (.int (v0_lit x0 x1)), .val (.int (v0_idx x0 x1)), .val (.int (v0_oth x0 x1)), .val (.long (v0_exp x0 x1)), .second, .val (.int (z0_76_s0_6 x1))] [(.int (0 : Int32))]))
                    exact g_retN X4 hx hret (by simp) hlk (hb hby at_139) (by decide) (by decide) ⟨congrArg (fun z => some (Value.int z)) (show (0 : Int32) = (f0 x0 x1) from by rw [f0, if_pos h7, if_pos h8, if_pos h9, if_pos h10, if_pos h11]), rfl, e4⟩
                  · show Go p e below s _ _ _ (T4.setTop (mkF m 119 #[.val (.int x0), .val (.int x1), .val (.int (v0_v x0)), .val (.int (z0_21_s0_1 x1)), .val (.int (v0_lit x0 x1)), .val (.int (v0_idx x0 x1)), .val (.int (v0_oth x0 x1)), .val (.long (v0_exp x0 x1)), .second, .val (.int (z0_76_s0_6 x1))] []))
                    refine g_iload X4 hx 121 (hb hby at_119) rfl rfl ?_
                    show Go p e below s _ _ _ (T4.setTop (mkF m 121 #[.val (.int x0), .val (.int x1), .val (.int (v0_v x0)), .val (.int (z0_21_s0_1 x1)), .val (.int (v0_lit x0 x1)), .val (.int (v0_idx x0 x1)), .val (.int (v0_oth x0 x1)), .val (.long (v0_exp x0 x1)), .second, .val (.int (z0_76_s0_6 x1))] [(.int (v0_idx x0 x1))]))
                    refine g_i2l X4 hx 122 (hb hby at_121) rfl ?_
                    show Go p e below s _ _ _ (T4.setTop (mkF m 122 #[.val (.int x0), .val (.int x1), .val (.int (v0_v x0)), .val (.int (z0_21_s0_1 x1)), .val (.int (v0_lit x0 x1)), .val (.int (v0_idx x0 x1)), .val (.int (v0_oth x0 x1)), .val (.long (v0_exp x0 x1)), .second, .val (.int (z0_76_s0_6 x1))] [(.long ((v0_idx x0 x1).toInt64))]))
                    refine g_ldc2_w X4 hx hZ hown (hw _ (List.mem_of_getElem? (i := 6) rfl)) 125 (hb hby at_122) rfl ?_
                    show Go p e below s _ _ _ (T4.setTop (mkF m 125 #[.val (.int x0), .val (.int x1), .val (.int (v0_v x0)), .val (.int (z0_21_s0_1 x1)), .val (.int (v0_lit x0 x1)), .val (.int (v0_idx x0 x1)), .val (.int (v0_oth x0 x1)), .val (.long (v0_exp x0 x1)), .second, .val (.int (z0_76_s0_6 x1))] [(.long (2 : Int64)), (.long ((v0_idx x0 x1).toInt64))]))
                    refine g_iloadN X4 hx 126 (hb hby at_125) rfl rfl ?_
                    show Go p e below s _ _ _ (T4.setTop (mkF m 126 #[.val (.int x0), .val (.int x1), .val (.int (v0_v x0)), .val (.int (z0_21_s0_1 x1)), .val (.int (v0_lit x0 x1)), .val (.int (v0_idx x0 x1)), .val (.int (v0_oth x0 x1)), .val (.long (v0_exp x0 x1)), .second, .val (.int (z0_76_s0_6 x1))] [(.int (v0_v x0)), (.long (2 : Int64)), (.long ((v0_idx x0 x1).toInt64))]))
                    refine g_i2l X4 hx 127 (hb hby at_126) rfl ?_
                    show Go p e below s _ _ _ (T4.setTop (mkF m 127 #[.val (.int x0), .val (.int x1), .val (.int (v0_v x0)), .val (.int (z0_21_s0_1 x1)), .val (.int (v0_lit x0 x1)), .val (.int (v0_idx x0 x1)), .val (.int (v0_oth x0 x1)), .val (.long (v0_exp x0 x1)), .second, .val (.int (z0_76_s0_6 x1))] [(.long ((v0_v x0).toInt64)), (.long (2 : Int64)), (.long ((v0_idx x0 x1).toInt64))]))
                    refine g_lmul X4 hx 128 (hb hby at_127) rfl ?_
                    show Go p e below s _ _ _ (T4.setTop (mkF m 128 #[.val (.int x0), .val (.int x1), .val (.int (v0_v x0)), .val (.int (z0_21_s0_1 x1)), .val (.int (v0_lit x0 x1)), .val (.int (v0_idx x0 x1)), .val (.int (v0_oth x0 x1)), .val (.long (v0_exp x0 x1)), .second, .val (.int (z0_76_s0_6 x1))] [(.long ((2 : Int64) * ((v0_v x0).toInt64))), (.long ((v0_idx x0 x1).toInt64))]))
                    refine g_lconst X4 hx (1 : Int64) 129 (hb hby at_128) rfl rfl ?_
                    show Go p e below s _ _ _ (T4.setTop (mkF m 129 #[.val (.int x0), .val (.int x1), .val (.int (v0_v x0)), .val (.int (z0_21_s0_1 x1)), .val (.int (v0_lit x0 x1)), .val (.int (v0_idx x0 x1)), .val (.int (v0_oth x0 x1)), .val (.long (v0_exp x0 x1)), .second, .val (.int (z0_76_s0_6 x1))] [(.long (1 : Int64)), (.long ((2 : Int64) * ((v0_v x0).toInt64))), (.long ((v0_idx x0 x1).toInt64))]))
                    refine g_ladd X4 hx 130 (hb hby at_129) rfl ?_
                    show Go p e below s _ _ _ (T4.setTop (mkF m 130 #[.val (.int x0), .val (.int x1), .val (.int (v0_v x0)), .val (.int (z0_21_s0_1 x1)), .val (.int (v0_lit x0 x1)), .val (.int (v0_idx x0 x1)), .val (.int (v0_oth x0 x1)), .val (.long (v0_exp x0 x1)), .second, .val (.int (z0_76_s0_6 x1))] [(.long (((2 : Int64) * ((v0_v x0).toInt64)) + (1 : Int64))), (.long ((v0_idx x0 x1).toInt64))]))
                    refine g_lcmp X4 hx 131 (hb hby at_130) rfl ?_
                    show Go p e below s _ _ _ (T4.setTop (mkF m 131 #[.val (.int x0), .val (.int x1), .val (.int (v0_v x0)), .val (.int (z0_21_s0_1 x1)), .val (.int (v0_lit x0 x1)), .val (.int (v0_idx x0 x1)), .val (.int (v0_oth x0 x1)), .val (.long (v0_exp x0 x1)), .second, .val (.int (z0_76_s0_6 x1))] [(.int (lcmpW ((v0_idx x0 x1).toInt64) (((2 : Int64) * ((v0_v x0).toInt64)) + (1 : Int64))))]))
                    refine g_lc_gt X4 hx 138 134 (hb hby at_131) (by decide) rfl rfl (fun h12 => ?_) (fun h12 => ?_)
                    · show Go p e below s _ _ _ (T4.setTop (mkF m 138 #[.val (.int x0), .val (.int x1), .val (.int (v0_v x0)), .val (.int (z0_21_s0_1 x1)), .val (.int (v0_lit x0 x1)), .val (.int (v0_idx x0 x1)), .val (.int (v0_oth x0 x1)), .val (.long (v0_exp x0 x1)), .second, .val (.int (z0_76_s0_6 x1))] []))
                      refine g_iconst X4 hx (0 : Int32) 139 (hb hby at_138) rfl rfl ?_
                      show Go p e below s _ _ _ (T4.setTop (mkF m 139 #[.val (.int x0), .val (.int x1), .val (.int (v0_v x0)), .val (.int (z0_21_s0_1 x1)), .val (.int (v0_lit x0 x1)), .val (.int (v0_idx x0 x1)), .val (.int (v0_oth x0 x1)), .val (.long (v0_exp x0 x1)), .second, .val (.int (z0_76_s0_6 x1))] [(.int (0 : Int32))]))
                      exact g_retN X4 hx hret (by simp) hlk (hb hby at_139) (by decide) (by decide) ⟨congrArg (fun z => some (Value.int z)) (show (0 : Int32) = (f0 x0 x1) from by rw [f0, if_pos h7, if_pos h8, if_pos h9, if_pos h10, if_neg h11, if_pos h12]), rfl, e4⟩
                    · show Go p e below s _ _ _ (T4.setTop (mkF m 134 #[.val (.int x0), .val (.int x1), .val (.int (v0_v x0)), .val (.int (z0_21_s0_1 x1)), .val (.int (v0_lit x0 x1)), .val (.int (v0_idx x0 x1)), .val (.int (v0_oth x0 x1)), .val (.long (v0_exp x0 x1)), .second, .val (.int (z0_76_s0_6 x1))] []))
                      refine g_iconst X4 hx (1 : Int32) 135 (hb hby at_134) rfl rfl ?_
                      show Go p e below s _ _ _ (T4.setTop (mkF m 135 #[.val (.int x0), .val (.int x1), .val (.int (v0_v x0)), .val (.int (z0_21_s0_1 x1)), .val (.int (v0_lit x0 x1)), .val (.int (v0_idx x0 x1)), .val (.int (v0_oth x0 x1)), .val (.long (v0_exp x0 x1)), .second, .val (.int (z0_76_s0_6 x1))] [(.int (1 : Int32))]))
                      refine g_goto X4 hx 139 (hb hby at_135) (by decide) rfl ?_
                      show Go p e below s _ _ _ (T4.setTop (mkF m 139 #[.val (.int x0), .val (.int x1), .val (.int (v0_v x0)), .val (.int (z0_21_s0_1 x1)), .val (.int (v0_lit x0 x1)), .val (.int (v0_idx x0 x1)), .val (.int (v0_oth x0 x1)), .val (.long (v0_exp x0 x1)), .second, .val (.int (z0_76_s0_6 x1))] [(.int (1 : Int32))]))
                      exact g_retN X4 hx hret (by simp) hlk (hb hby at_139) (by decide) (by decide) ⟨congrArg (fun z => some (Value.int z)) (show (1 : Int32) = (f0 x0 x1) from by rw [f0, if_pos h7, if_pos h8, if_pos h9, if_pos h10, if_neg h11, if_neg h12]), rfl, e4⟩
                · show Go p e below s _ _ _ (T4.setTop (mkF m 138 #[.val (.int x0), .val (.int x1), .val (.int (v0_v x0)), .val (.int (z0_21_s0_1 x1)), .val (.int (v0_lit x0 x1)), .val (.int (v0_idx x0 x1)), .val (.int (v0_oth x0 x1)), .val (.long (v0_exp x0 x1)), .second, .val (.int (z0_76_s0_6 x1))] []))
                  refine g_iconst X4 hx (0 : Int32) 139 (hb hby at_138) rfl rfl ?_
                  show Go p e below s _ _ _ (T4.setTop (mkF m 139 #[.val (.int x0), .val (.int x1), .val (.int (v0_v x0)), .val (.int (z0_21_s0_1 x1)), .val (.int (v0_lit x0 x1)), .val (.int (v0_idx x0 x1)), .val (.int (v0_oth x0 x1)), .val (.long (v0_exp x0 x1)), .second, .val (.int (z0_76_s0_6 x1))] [(.int (0 : Int32))]))
                  exact g_retN X4 hx hret (by simp) hlk (hb hby at_139) (by decide) (by decide) ⟨congrArg (fun z => some (Value.int z)) (show (0 : Int32) = (f0 x0 x1) from by rw [f0, if_pos h7, if_pos h8, if_pos h9, if_neg h10]), rfl, e4⟩
              · show Go p e below s _ _ _ (T4.setTop (mkF m 138 #[.val (.int x0), .val (.int x1), .val (.int (v0_v x0)), .val (.int (z0_21_s0_1 x1)), .val (.int (v0_lit x0 x1)), .val (.int (v0_idx x0 x1)), .val (.int (v0_oth x0 x1)), .val (.long (v0_exp x0 x1)), .second, .val (.int (z0_76_s0_6 x1))] []))
                refine g_iconst X4 hx (0 : Int32) 139 (hb hby at_138) rfl rfl ?_
                show Go p e below s _ _ _ (T4.setTop (mkF m 139 #[.val (.int x0), .val (.int x1), .val (.int (v0_v x0)), .val (.int (z0_21_s0_1 x1)), .val (.int (v0_lit x0 x1)), .val (.int (v0_idx x0 x1)), .val (.int (v0_oth x0 x1)), .val (.long (v0_exp x0 x1)), .second, .val (.int (z0_76_s0_6 x1))] [(.int (0 : Int32))]))
                exact g_retN X4 hx hret (by simp) hlk (hb hby at_139) (by decide) (by decide) ⟨congrArg (fun z => some (Value.int z)) (show (0 : Int32) = (f0 x0 x1) from by rw [f0, if_pos h7, if_pos h8, if_neg h9]), rfl, e4⟩
            · show Go p e below s _ _ _ (T4.setTop (mkF m 138 #[.val (.int x0), .val (.int x1), .val (.int (v0_v x0)), .val (.int (z0_21_s0_1 x1)), .val (.int (v0_lit x0 x1)), .val (.int (v0_idx x0 x1)), .val (.int (v0_oth x0 x1)), .val (.long (v0_exp x0 x1)), .second, .val (.int (z0_76_s0_6 x1))] []))
              refine g_iconst X4 hx (0 : Int32) 139 (hb hby at_138) rfl rfl ?_
              show Go p e below s _ _ _ (T4.setTop (mkF m 139 #[.val (.int x0), .val (.int x1), .val (.int (v0_v x0)), .val (.int (z0_21_s0_1 x1)), .val (.int (v0_lit x0 x1)), .val (.int (v0_idx x0 x1)), .val (.int (v0_oth x0 x1)), .val (.long (v0_exp x0 x1)), .second, .val (.int (z0_76_s0_6 x1))] [(.int (0 : Int32))]))
              exact g_retN X4 hx hret (by simp) hlk (hb hby at_139) (by decide) (by decide) ⟨congrArg (fun z => some (Value.int z)) (show (0 : Int32) = (f0 x0 x1) from by rw [f0, if_pos h7, if_neg h8]), rfl, e4⟩
          · show Go p e below s _ _ _ (T4.setTop (mkF m 138 #[.val (.int x0), .val (.int x1), .val (.int (v0_v x0)), .val (.int (z0_21_s0_1 x1)), .val (.int (v0_lit x0 x1)), .val (.int (v0_idx x0 x1)), .val (.int (v0_oth x0 x1)), .val (.long (v0_exp x0 x1)), .second, .val (.int (z0_76_s0_6 x1))] []))
            refine g_iconst X4 hx (0 : Int32) 139 (hb hby at_138) rfl rfl ?_
            show Go p e below s _ _ _ (T4.setTop (mkF m 139 #[.val (.int x0), .val (.int x1), .val (.int (v0_v x0)), .val (.int (z0_21_s0_1 x1)), .val (.int (v0_lit x0 x1)), .val (.int (v0_idx x0 x1)), .val (.int (v0_oth x0 x1)), .val (.long (v0_exp x0 x1)), .second, .val (.int (z0_76_s0_6 x1))] [(.int (0 : Int32))]))
            exact g_retN X4 hx hret (by simp) hlk (hb hby at_139) (by decide) (by decide) ⟨congrArg (fun z => some (Value.int z)) (show (0 : Int32) = (f0 x0 x1) from by rw [f0, if_neg h7]), rfl, e4⟩
        refine g_if0_eq X4 hx 75 71 (hb hby at_68) (by decide) rfl rfl (fun h13 => ?_) (fun h13 => ?_)
        · show Go p e below s _ _ _ (T4.setTop (mkF m 75 #[.val (.int x0), .val (.int x1), .val (.int (v0_v x0)), .val (.int (z0_21_s0_1 x1)), .val (.int (v0_lit x0 x1)), .val (.int (v0_idx x0 x1)), .val (.int (v0_oth x0 x1)), .val (.long (v0_exp x0 x1)), .second, .unset] []))
          refine g_iconst X4 hx (0 : Int32) 76 (hb hby at_75) rfl rfl ?_
          show Go p e below s _ _ _ (T4.setTop (mkF m 76 #[.val (.int x0), .val (.int x1), .val (.int (v0_v x0)), .val (.int (z0_21_s0_1 x1)), .val (.int (v0_lit x0 x1)), .val (.int (v0_idx x0 x1)), .val (.int (v0_oth x0 x1)), .val (.long (v0_exp x0 x1)), .second, .unset] [(.int (0 : Int32))]))
          have q6 := J6
          simp only [z0_76_s0_6, if_pos h13] at q6
          exact q6
        · show Go p e below s _ _ _ (T4.setTop (mkF m 71 #[.val (.int x0), .val (.int x1), .val (.int (v0_v x0)), .val (.int (z0_21_s0_1 x1)), .val (.int (v0_lit x0 x1)), .val (.int (v0_idx x0 x1)), .val (.int (v0_oth x0 x1)), .val (.long (v0_exp x0 x1)), .second, .unset] []))
          refine g_iconst X4 hx (1 : Int32) 72 (hb hby at_71) rfl rfl ?_
          show Go p e below s _ _ _ (T4.setTop (mkF m 72 #[.val (.int x0), .val (.int x1), .val (.int (v0_v x0)), .val (.int (z0_21_s0_1 x1)), .val (.int (v0_lit x0 x1)), .val (.int (v0_idx x0 x1)), .val (.int (v0_oth x0 x1)), .val (.long (v0_exp x0 x1)), .second, .unset] [(.int (1 : Int32))]))
          refine g_goto X4 hx 76 (hb hby at_72) (by decide) rfl ?_
          show Go p e below s _ _ _ (T4.setTop (mkF m 76 #[.val (.int x0), .val (.int x1), .val (.int (v0_v x0)), .val (.int (z0_21_s0_1 x1)), .val (.int (v0_lit x0 x1)), .val (.int (v0_idx x0 x1)), .val (.int (v0_oth x0 x1)), .val (.long (v0_exp x0 x1)), .second, .unset] [(.int (1 : Int32))]))
          have q6 := J6
          simp only [z0_76_s0_6, if_neg h13] at q6
          exact q6
      refine g_if0_eq X4 hx 63 59 (hb hby at_56) (by decide) rfl rfl (fun h14 => ?_) (fun h14 => ?_)
      · show Go p e below s _ _ _ (T4.setTop (mkF m 63 #[.val (.int x0), .val (.int x1), .val (.int (v0_v x0)), .val (.int (z0_21_s0_1 x1)), .val (.int (v0_lit x0 x1)), .val (.int (v0_idx x0 x1)), .val (.int (v0_oth x0 x1)), .unset, .unset, .unset] [(.long ((2 : Int64) * ((v0_v x0).toInt64)))]))
        refine g_lconst X4 hx (0 : Int64) 64 (hb hby at_63) rfl rfl ?_
        show Go p e below s _ _ _ (T4.setTop (mkF m 64 #[.val (.int x0), .val (.int x1), .val (.int (v0_v x0)), .val (.int (z0_21_s0_1 x1)), .val (.int (v0_lit x0 x1)), .val (.int (v0_idx x0 x1)), .val (.int (v0_oth x0 x1)), .unset, .unset, .unset] [(.long (0 : Int64)), (.long ((2 : Int64) * ((v0_v x0).toInt64)))]))
        have q5 := J5
        simp only [z0_64_s0_5, if_pos h14] at q5
        exact q5
      · show Go p e below s _ _ _ (T4.setTop (mkF m 59 #[.val (.int x0), .val (.int x1), .val (.int (v0_v x0)), .val (.int (z0_21_s0_1 x1)), .val (.int (v0_lit x0 x1)), .val (.int (v0_idx x0 x1)), .val (.int (v0_oth x0 x1)), .unset, .unset, .unset] [(.long ((2 : Int64) * ((v0_v x0).toInt64)))]))
        refine g_lconst X4 hx (1 : Int64) 60 (hb hby at_59) rfl rfl ?_
        show Go p e below s _ _ _ (T4.setTop (mkF m 60 #[.val (.int x0), .val (.int x1), .val (.int (v0_v x0)), .val (.int (z0_21_s0_1 x1)), .val (.int (v0_lit x0 x1)), .val (.int (v0_idx x0 x1)), .val (.int (v0_oth x0 x1)), .unset, .unset, .unset] [(.long (1 : Int64)), (.long ((2 : Int64) * ((v0_v x0).toInt64)))]))
        refine g_goto X4 hx 64 (hb hby at_60) (by decide) rfl ?_
        show Go p e below s _ _ _ (T4.setTop (mkF m 64 #[.val (.int x0), .val (.int x1), .val (.int (v0_v x0)), .val (.int (z0_21_s0_1 x1)), .val (.int (v0_lit x0 x1)), .val (.int (v0_idx x0 x1)), .val (.int (v0_oth x0 x1)), .unset, .unset, .unset] [(.long (1 : Int64)), (.long ((2 : Int64) * ((v0_v x0).toInt64)))]))
        have q5 := J5
        simp only [z0_64_s0_5, if_neg h14] at q5
        exact q5
    refine g_if0_eq X0 hx 31 26 (hb hby at_23) (by decide) rfl rfl (fun h15 => ?_) (fun h15 => ?_)
    · show Go p e below s _ _ _ (T0.setTop (mkF m 31 #[.val (.int x0), .val (.int x1), .val (.int (v0_v x0)), .val (.int (z0_21_s0_1 x1)), .unset, .unset, .unset, .unset, .unset, .unset] []))
      refine g_iloadN X0 hx 32 (hb hby at_31) rfl rfl ?_
      show Go p e below s _ _ _ (T0.setTop (mkF m 32 #[.val (.int x0), .val (.int x1), .val (.int (v0_v x0)), .val (.int (z0_21_s0_1 x1)), .unset, .unset, .unset, .unset, .unset, .unset] [(.int (v0_v x0))]))
      have q2 := J2
      simp only [z0_32_s0_2, if_pos h15] at q2
      exact q2
    · show Go p e below s _ _ _ (T0.setTop (mkF m 26 #[.val (.int x0), .val (.int x1), .val (.int (v0_v x0)), .val (.int (z0_21_s0_1 x1)), .unset, .unset, .unset, .unset, .unset, .unset] []))
      refine g_iloadN X0 hx 27 (hb hby at_26) rfl rfl ?_
      show Go p e below s _ _ _ (T0.setTop (mkF m 27 #[.val (.int x0), .val (.int x1), .val (.int (v0_v x0)), .val (.int (z0_21_s0_1 x1)), .unset, .unset, .unset, .unset, .unset, .unset] [(.int (v0_v x0))]))
      refine g_ineg X0 hx 28 (hb hby at_27) rfl ?_
      show Go p e below s _ _ _ (T0.setTop (mkF m 28 #[.val (.int x0), .val (.int x1), .val (.int (v0_v x0)), .val (.int (z0_21_s0_1 x1)), .unset, .unset, .unset, .unset, .unset, .unset] [(.int (-(v0_v x0)))]))
      refine g_goto X0 hx 32 (hb hby at_28) (by decide) rfl ?_
      show Go p e below s _ _ _ (T0.setTop (mkF m 32 #[.val (.int x0), .val (.int x1), .val (.int (v0_v x0)), .val (.int (z0_21_s0_1 x1)), .unset, .unset, .unset, .unset, .unset, .unset] [(.int (-(v0_v x0)))]))
      have q2 := J2
      simp only [z0_32_s0_2, if_neg h15] at q2
      exact q2
  refine g_if0_eq X0 hx 20 16 (hb hby at_13) (by decide) rfl rfl (fun h16 => ?_) (fun h16 => ?_)
  · show Go p e below s _ _ _ (T0.setTop (mkF m 20 #[.val (.int x0), .val (.int x1), .val (.int (v0_v x0)), .unset, .unset, .unset, .unset, .unset, .unset, .unset] []))
    refine g_iconst X0 hx (0 : Int32) 21 (hb hby at_20) rfl rfl ?_
    show Go p e below s _ _ _ (T0.setTop (mkF m 21 #[.val (.int x0), .val (.int x1), .val (.int (v0_v x0)), .unset, .unset, .unset, .unset, .unset, .unset, .unset] [(.int (0 : Int32))]))
    have q1 := J1
    simp only [z0_21_s0_1, if_pos h16] at q1
    exact q1
  · show Go p e below s _ _ _ (T0.setTop (mkF m 16 #[.val (.int x0), .val (.int x1), .val (.int (v0_v x0)), .unset, .unset, .unset, .unset, .unset, .unset, .unset] []))
    refine g_iconst X0 hx (1 : Int32) 17 (hb hby at_16) rfl rfl ?_
    show Go p e below s _ _ _ (T0.setTop (mkF m 17 #[.val (.int x0), .val (.int x1), .val (.int (v0_v x0)), .unset, .unset, .unset, .unset, .unset, .unset, .unset] [(.int (1 : Int32))]))
    refine g_goto X0 hx 21 (hb hby at_17) (by decide) rfl ?_
    show Go p e below s _ _ _ (T0.setTop (mkF m 21 #[.val (.int x0), .val (.int x1), .val (.int (v0_v x0)), .unset, .unset, .unset, .unset, .unset, .unset, .unset] [(.int (1 : Int32))]))
    have q1 := J1
    simp only [z0_21_s0_1, if_neg h16] at q1
    exact q1
theorem own_v (x : Int32) : 1 ≤ (v0_v x).toInt ∧ (v0_v x).toInt ≤ 1073741823 := by
  unfold v0_v
  have hm := c_mask x 2147483647 31 (by decide) (by decide)
  have h0 : 0 ≤ (x &&& 2147483647).toInt := by rw [hm]; exact Int.emod_nonneg _ (by decide)
  generalize (x &&& 2147483647) = y at *
  have hr := (c_irem y 1073741823 1073741823 rfl).1 h0
  have b1 : 0 ≤ (y % 1073741823).toInt := by rw [hr]; exact Int.emod_nonneg _ (by decide)
  have b2 : (y % 1073741823).toInt < 1073741823 := by rw [hr]; exact Int.emod_lt_of_pos _ (by decide)
  have e1 : (1 : Int32).toInt = 1 := rfl
  have := c_iadd (y % 1073741823) 1
  have := rng32 (y % 1073741823 + 1)
  omega
theorem own_xor1 (i : Int32) (h0 : 0 ≤ i.toInt) : (i ^^^ 1).toInt = if i.toInt % 2 = 0 then i.toInt + 1 else i.toInt - 1 := by
  have hs := (c_xorS i 1).2.2.2 h0 (by decide)
  have tn : ∀ j : Int32, 0 ≤ j.toInt → j.toInt = (j.toBitVec.toNat : Int) := fun j hj => by
    have q : j.toInt = j.toBitVec.toInt := rfl
    have q2 := BitVec.toInt_eq_toNat_cond j.toBitVec
    have q3 := j.toBitVec.isLt
    rw [q] at hj ⊢
    rw [q2] at hj ⊢
    split at hj <;> simp_all <;> omega
  have e : (i ^^^ 1).toInt = ((i.toBitVec ^^^ 1#32).toNat : Int) := tn _ hs
  have e2 := tn _ h0
  rw [e, e2, BitVec.toNat_xor]
  generalize i.toBitVec.toNat = n
  show ((n ^^^ 1 : Nat) : Int) = _
  have d := Nat.div_add_mod n 2
  have x2 : (n ^^^ 1) / 2 = n / 2 := by rw [Nat.xor_div_two]; simp
  have x3 : (n ^^^ 1) % 2 = (n + 1) % 2 := by rw [nx2]
  split <;> omega
theorem own_law (x y : Int32) : f0 x y = 1 := by
  obtain ⟨h1, h2⟩ := own_v x
  have e0 : (0 : Int32).toInt = 0 := rfl
  have e1 : (1 : Int32).toInt = 1 := rfl
  have e2 : (2 : Int32).toInt = 2 := rfl
  have em2 : (-2 : Int32).toInt = -2 := rfl
  have l2 : (2 : Int64).toInt = 2 := rfl
  have l1 : (1 : Int64).toInt = 1 := rfl
  have l0 : (0 : Int64).toInt = 0 := rfl
  unfold f0 v0_exp v0_idx v0_oth v0_lit z0_32_s0_2 z0_64_s0_5 z0_76_s0_6
  generalize v0_v x = v at *
  generalize hz : z0_21_s0_1 y = z
  have hz' : z = 0 ∨ z = 1 := by rw [← hz]; unfold z0_21_s0_1; split <;> simp
  have wide := c_i2l v
  have m2 := c_lmul 2 v.toInt64
  have r2 := rng64 (2 * v.toInt64)
  have dbl : (2 * v.toInt64).toInt = 2 * v.toInt := by rw [wide, l2] at m2; omega
  have a1 := c_ladd (2 * v.toInt64) 1
  have r3 := rng64 (2 * v.toInt64 + 1)
  have a0 := c_ladd (2 * v.toInt64) 0
  have r4 := rng64 (2 * v.toInt64 + 0)
  have pos : f1 v = 2 * v := by unfold f1; rw [if_pos]; rw [Int32.lt_iff_toInt_lt]; omega
  have ng := c_ineg v
  have rn := rng32 (-v)
  have nv : (-v).toInt = -v.toInt := by omega
  have neg : f1 (-v) = -2 * (-v) + 1 := by unfold f1; rw [if_neg]; rw [Int32.lt_iff_toInt_lt]; omega
  have p1 := c_imul 2 v
  have q1 := rng32 (2 * v)
  have t1 : (2 * v).toInt = 2 * v.toInt := by rw [e2] at p1; omega
  have p2 := c_imul (-2) (-v)
  have q2 := rng32 (-2 * -v)
  have t2 : (-2 * -v).toInt = 2 * v.toInt := by rw [em2, nv] at p2; omega
  have p3 := c_iadd (-2 * -v) 1
  have q3 := rng32 (-2 * -v + 1)
  have t3 : (-2 * -v + 1).toInt = 2 * v.toInt + 1 := by omega
  have nn : - -v = v := by simp
  rcases hz' with rfl | rfl
  · simp only [if_true]
    rw [pos, neg]
    have s1 : shrI (2 * v) 1 = v := by
      apply Int32.toInt_inj.mp
      have := c_ishr (2 * v) 1 1 (by decide)
      show ((2 * v) >>> (1 &&& 31)).toInt = _
      rw [this, t1]; omega
    have s2 : (2 * v) &&& 1 = 0 := by
      apply Int32.toInt_inj.mp
      have := c_mask (2 * v) 1 1 (by decide) (by decide)
      rw [this, t1]; omega
    have s3 : (2 * v) ^^^ 1 = -2 * -v + 1 := by
      apply Int32.toInt_inj.mp
      rw [own_xor1 _ (by omega), t1, t3]; split <;> omega
    have s4 : (2 * v).toInt64 = 2 * v.toInt64 + 0 := by
      apply Int64.toInt_inj.mp
      rw [c_i2l]; omega
    have s5 : ¬ 2 * v < 2 := by rw [Int32.lt_iff_toInt_lt]; omega
    have s6 : ¬ 2 * v.toInt64 + 1 < (2 * v).toInt64 := by rw [Int64.lt_iff_toInt_lt, c_i2l]; omega
    rw [if_pos s4, if_pos s1, if_pos s2, if_pos s3, if_neg s5, if_neg s6]
  · simp only [show ¬ (1 : Int32) = 0 from by decide, if_false]
    rw [nn, pos, neg]
    have s1 : shrI (-2 * -v + 1) 1 = v := by
      apply Int32.toInt_inj.mp
      have := c_ishr (-2 * -v + 1) 1 1 (by decide)
      show ((-2 * -v + 1) >>> (1 &&& 31)).toInt = _
      rw [this, t3]; omega
    have s2 : (-2 * -v + 1) &&& 1 = 1 := by
      apply Int32.toInt_inj.mp
      have := c_mask (-2 * -v + 1) 1 1 (by decide) (by decide)
      rw [this, t3]; omega
    have s3 : (-2 * -v + 1) ^^^ 1 = 2 * v := by
      apply Int32.toInt_inj.mp
      rw [own_xor1 _ (by omega), t1, t3]; split <;> omega
    have s4 : (-2 * -v + 1).toInt64 = 2 * v.toInt64 + 1 := by
      apply Int64.toInt_inj.mp
      rw [c_i2l]; omega
    have s5 : ¬ -2 * -v + 1 < 2 := by rw [Int32.lt_iff_toInt_lt]; omega
    have s6 : ¬ 2 * v.toInt64 + 1 < (-2 * -v + 1).toInt64 := by rw [Int64.lt_iff_toInt_lt, c_i2l]; omega
    rw [if_pos s4, if_pos s1, if_pos s2, if_pos s3, if_neg s5, if_neg s6]

set_option maxRecDepth 65536 in
set_option maxHeartbeats 40000000 in
theorem comes_1 {Post : Tables → Env → Array Value → State → Outcome → State → Prop} (hpost : ∀ tb e args s v u, (limb_1_1.after args s (.returned v) u = true ∧ limb_1_2.after args s (.returned v) u = true ∧ True) → FrameEnd s (.returned v) u (Jvm.fieldLocs frame_1_writes args s ++ Jvm.arrayLocs frame_1_arrays args s ++ Jvm.staticLocs frame_1_statics s) 0 0 → Post tb e args s (.returned v) u) :
    ArmFor flags0 classFile x code maxLocals ret World_1 tables_1 room_1 Calls_1 rest_1 Pre_1 Post := by
  intro l hfl _ _ p e ha hc hk s m args below hf hA hF happ hP
  obtain ⟨hcalls, hrest, hpre⟩ := hP
  obtain ⟨-, -, -, hnamed, -, -, -, hat⟩ := (Spec.applies_iff hf).mp happ
  obtain ⟨hg, hn⟩ := and_e (Cond.before_iff.mp (show (Jvm.Cond.and given_1 narrow_1).before args s = true from hpre))
  obtain ⟨g1, g2⟩ := and_e hg
  obtain ⟨g3, g4⟩ := and_e g2
  obtain ⟨w0, w1, rfl⟩ : ∃ w0 w1 : Value, args = #[w0, w1] := by
    have hs : args.size = 2 := by simpa [Cond.value, given_1] using g1
    obtain ⟨L⟩ := args
    match L, hs with
    | [w0, w1], _ => exact ⟨w0, w1, rfl⟩
  have hw := fun d (hd : d ∈ tables_1) => atoms_spec (ws := Jvm.Cond.code x code maxLocals ret :: tables_1) hat d (List.mem_cons_of_mem _ hd)
  obtain ⟨i0, ei0⟩ := is_v g3
  obtain rfl : w0 = (.int i0) := Option.some.inj ei0
  obtain ⟨i1, ei1⟩ := is_v g4
  obtain rfl : w1 = (.int i1) := Option.some.inj ei1
  obtain ⟨n, o, h1, h2, h3, _, L, rfl, ⟨rfl, rfl, N⟩, hq⟩ := rm0 l s _ hw tables_1 i0 i1 s.heap p e ha hc hk s m _ below hf ((Spec.applies_iff_loose hf).mp happ).1 ⟨rfl, State.Warmed39.refl s, rfl⟩ trivial
  have hlaw : (f0 i0 i1) = 1 := own_law i0 i1
  rw [hlaw] at h3 hq
  refine ⟨n, _, h1, h2, h3, hpost _ _ _ _ _ _ ⟨Cond.after_iff.mpr rfl, Cond.after_iff.mpr (eq_i res_at (Term.int_eval (1)) rfl), trivial⟩ ⟨hq.1, hq.2.1, (hq.2.2.sift fun y hy => nomatch hy).mono (by decide) (by decide)⟩⟩
theorem main_1_1 : Claimed_1_1 := comes_1 fun _ _ _ _ _ _ h hF => ⟨h.1, hF⟩
theorem main_1_2 : Claimed_1_2 := comes_1 fun _ _ _ _ _ _ h hF => ⟨h.2.1, hF⟩
end Jvm.Pilot.@@N@@
namespace Jvm.Pilot.@@N@@
open Jvm Jvm.ClassFile Sem Op Lib Jvm.Free Jvm.Stand Jvm.Pilot.@@N@@.Jvm.D
/-! MADE BY PROGRAM (witnessworld.py) out of the Statement's table words and the real class files: 9 classes; the members and pool entries that the words name. The judged class is class 1, her method 1. -/
namespace start1
open Jvm.ClassFile
def u (s : String) : CpInfo := .utf8 (stringToUtf16 s)
/-- a pool by its gaps: so many unusable entries, then the entry; so many at the end -/
def gap : Nat → List CpInfo → List CpInfo
  | 0, r => r
  | n + 1, r => .unusable :: gap n r
def poolList (es : List (Nat × CpInfo)) (last : Nat) : List CpInfo := es.foldr (fun e r => gap e.1 (e.2 :: r)) (gap last [])
def pool (es : List (Nat × CpInfo)) (last : Nat) : Array CpInfo := ⟨poolList es last⟩
def fileOf (pool : Array CpInfo) (this : Nat) (attrs : Array Attribute := #[]) (ms : Array MethodInfo := #[]) (fl : Nat := 33) (sup : Nat := 0) (ifs : Array Nat := #[]) (fds : Array FieldInfo := #[]) : ClassFile where
  minorVersion := 0
  majorVersion := 65
  constantPool := pool
  accessFlags := fl
  thisClass := this
  superClass := sup
  interfaces := ifs
  fields := fds
  methods := ms
  attributes := attrs
def plain (name : String) (sup : Option ClassId) : Class where
  name := name
  kind := .ordinary
  loader := none
  accessFlags := 33
  super := sup
  interfaces := #[]
  cf := none
  fields := #[]
  methods := #[]
  instanceTypes := #[]
  staticTypes := #[]
  resolved := #[]
  callSites := []
  init := .initialized
  statics := none
  mirror := none

def pool0 : Array CpInfo := pool [(5, u "<init>"), (0, u "()V"), (1, .class_ 10), (1, u "java/lang/Object")] 113

def k0m0 : Method := { name := "<init>", desc := "()V", sig := { parameters := [], returnType := none }, accessFlags := 1, code := none }
/-- java/lang/Object -/
def k0 : Class := { plain "java/lang/Object" none with
  accessFlags := 33
  interfaces := #[]
  cf := some (fileOf pool0 8 #[] #[{ accessFlags := 1, nameIndex := 5, descriptorIndex := 6, attributes := #[] }] 33 0 #[] #[])
  fields := #[]
  methods := #[k0m0]
  instanceTypes := #[]
  staticTypes := #[]
  resolved := Array.replicate 124 none
  statics := none }

def pool1 : Array CpInfo := pool [(2, .class_ 4), (1, u "java/lang/Object"), (0, u "<init>"), (0, u "()V"), (0, .integer 2147483647), (0, .integer 1073741823), (0, .methodref 10 11), (0, .class_ 12), (0, .nameAndType 13 14), (0, u "com/example/varietal/varietal/core/Occurrences"), (0, u "index"), (0, u "(I)I"), (0, .long 2), (1, .class_ 18), (0, u "com/example/varietal/varietal/core/OccurrencesIndexPinLaw"), (2, u "law"), (0, u "(II)Z")] 3

def k1m0 : Method := { name := "<init>", desc := "()V", sig := { parameters := [], returnType := none }, accessFlags := 1, code := none }
def k1c1 : Code := { maxStack := 6, maxLocals := 10, code := code, exceptionTable := #[], attributes := #[] }
def k1m1 : Method := { name := "law", desc := "(II)Z", sig := { parameters := [.int, .int], returnType := some .boolean }, accessFlags := 9, code := some k1c1 }
/-- com/example/varietal/varietal/core/OccurrencesIndexPinLaw -/
def k1 : Class := { plain "com/example/varietal/varietal/core/OccurrencesIndexPinLaw" (some 0) with
  accessFlags := 49
  interfaces := #[]
  cf := some (fileOf pool1 17 #[] #[{ accessFlags := 1, nameIndex := 5, descriptorIndex := 6, attributes := #[] }, { accessFlags := 9, nameIndex := 21, descriptorIndex := 22, attributes := #[] }] 49 2 #[] #[])
  fields := #[]
  methods := #[k1m0, k1m1]
  instanceTypes := #[]
  staticTypes := #[]
  resolved := Array.replicate 26 none
  statics := none }

def pool2 : Array CpInfo := pool [(2, .class_ 4), (1, u "java/lang/Object"), (21, .class_ 28), (1, u "com/example/varietal/varietal/core/Occurrences"), (0, u "index"), (0, u "(I)I"), (2, u "size"), (0, u "J"), (2, u "clauses"), (0, u "[[I")] 18

def k2c0 : Code := { maxStack := 2, maxLocals := 1, code := prog_3_method_4_code, exceptionTable := #[], attributes := #[] }
def k2m0 : Method := { name := "index", desc := "(I)I", sig := { parameters := [.int], returnType := some .int }, accessFlags := 9, code := some k2c0 }
/-- com/example/varietal/varietal/core/Occurrences -/
def k2 : Class := { plain "com/example/varietal/varietal/core/Occurrences" (some 0) with
  accessFlags := 33
  interfaces := #[]
  cf := some (fileOf pool2 26 #[] #[{ accessFlags := 9, nameIndex := 29, descriptorIndex := 30, attributes := #[] }] 33 2 #[] #[{ accessFlags := 18, nameIndex := 37, descriptorIndex := 38, attributes := #[] }, { accessFlags := 18, nameIndex := 33, descriptorIndex := 34, attributes := #[] }])
  fields := #[{ name := "clauses", type := (.array (.array .int)), accessFlags := 18, slot := 0, constantValue := 0 }, { name := "size", type := .long, accessFlags := 18, slot := 1, constantValue := 0 }]
  methods := #[k2m0]
  instanceTypes := #[(.array (.array .int)), .long]
  staticTypes := #[]
  resolved := Array.replicate 57 none
  statics := none }

def pool3 : Array CpInfo := pool [(1, u "java/lang/Cloneable"), (0, .class_ 1), (0, u "java/lang/Object"), (0, .class_ 3)] 3

/-- java/lang/Cloneable -/
def k3 : Class := { plain "java/lang/Cloneable" (some 0) with
  accessFlags := 1537
  interfaces := #[]
  cf := some (fileOf pool3 2 #[] #[] 1537 4 #[] #[])
  fields := #[]
  methods := #[]
  instanceTypes := #[]
  staticTypes := #[]
  resolved := Array.replicate 8 none
  statics := none }

def pool4 : Array CpInfo := pool [(1, u "java/io/Serializable"), (0, .class_ 1), (0, u "java/lang/Object"), (0, .class_ 3)] 3

/-- java/io/Serializable -/
def k4 : Class := { plain "java/io/Serializable" (some 0) with
  accessFlags := 1537
  interfaces := #[]
  cf := some (fileOf pool4 2 #[] #[] 1537 4 #[] #[])
  fields := #[]
  methods := #[]
  instanceTypes := #[]
  staticTypes := #[]
  resolved := Array.replicate 8 none
  statics := none }

/-- the primitive byte -/
def k5 : Class := { plain "byte" none with kind := .primitive 'B', accessFlags := 0x411 }
/-- [B -/
def k6 : Class := { plain "[B" (some 0) with kind := .array 5 .byte, interfaces := #[3, 4], accessFlags := 1041 }

/-- the primitive int -/
def k7 : Class := { plain "int" none with kind := .primitive 'I', accessFlags := 0x411 }
/-- [I -/
def k8 : Class := { plain "[I" (some 0) with kind := .array 7 .int, interfaces := #[3, 4], accessFlags := 1041 }

def heap : Heap := #[]
def classes : Array Class := #[k0, k1, k2, k3, k4, k5, k6, k7, k8]
def interned : List (Array UInt16 × Addr) := []
def slotsUsed : Nat := 0
def theMethod : MethodId := ⟨1, 1⟩
def args0 : Array Value := #[.int 53, .int 7]
def aboutOver (below : List Frame) : State where
  vm := { classes := classes, interned := interned.toArray }
  heap := heap
  slotsUsed := slotsUsed
  threads := #[{ frames := .invoking theMethod args0 :: below }]
def below0 : List Frame := [.native { method := ⟨0, 0⟩, args := #[] }]
def about1 : State := aboutOver below0
def p0 : Program := .bare "" "" ""
def e0 : Env := launch0.env 0 0 0
theorem w_frames : about1.frames = Frame.invoking theMethod args0 :: below0 := rfl
set_option maxRecDepth 65536 in
theorem w_args : argsFit about1.vm theMethod args0 = true := by decide +kernel
set_option maxRecDepth 65536 in
theorem w_heap : heapFits about1 = true := by decide +kernel
set_option maxRecDepth 65536 in
theorem w_runnable : about1.curStatus? = some .runnable := by decide +kernel
set_option maxRecDepth 65536 in
theorem w_alone : about1.alone = true := by decide +kernel
set_option maxRecDepth 65536 in
theorem w_named : about1.methodNamed? x = some theMethod := by decide +kernel
set_option maxRecDepth 65536 in
theorem w_hears : about1.hears theMethod below0 = true := by decide +kernel
set_option maxRecDepth 65536 in
theorem w_ripe : about1.ripe theMethod args0 below0 = true := by decide +kernel
theorem w_running : about1.status = .running := rfl
set_option maxRecDepth 65536 in
theorem w_room : about1.hasRoom e0.platform room_1 = true :=
  launch0.hasRoom_least _ room_1 (by decide +kernel) (by decide +kernel) (by decide +kernel) (by decide +kernel) (by decide +kernel) (by decide +kernel)
theorem allAtoms_all (ts : List Jvm.Cond) (a : Array Jvm.Value) (st : Jvm.State) : (allAtoms ts).before a st = ts.all (fun c => c.before a st) := by
  induction ts with
  | nil => rfl
  | cons c t ih =>
    show (Jvm.Cond.and c (allAtoms t)).before a st = _
    rw [Jvm.Cond.before_and, ih, List.all_cons]
def words1 : List Jvm.Cond := Jvm.Cond.code x code maxLocals ret :: tables_1
/-- a 'code' word, met by the world's own term for the bytes: nothing is compared byte by byte -/
theorem code_word {y : MethodName} {bytes : ByteArray} {mx : Nat} {rt : Option FieldType} {a : Array Value} {s : State} {m : MethodId} {meth : Method} {c : Code} (h1 : s.methodNamed? y = some m) (h2 : s.vm.method? m = some meth) (h3 : meth.code = some c) (h4 : c.code = bytes)
    (h5 : (c.maxLocals == mx && c.exceptionTable.isEmpty && decide (c.maxStack ≤ mostOperands) && decide (meth.sig.returnType = rt) && !meth.locks && decide (parseMethodDescriptor y.desc = some meth.sig)) = true) : (Jvm.Cond.code y bytes mx rt).before a s = true := by
  simp only [Bool.and_eq_true, beq_iff_eq, Bool.not_eq_true', decide_eq_true_eq] at h5
  obtain ⟨⟨⟨⟨⟨g1, g2⟩, g3⟩, g4⟩, g5⟩, g6⟩ := h5
  simp [Cond.before, Cond.holds, Cond.value, h1, h2, h3, h4, g1, g2, g3, g4, g5, g6]
def isCode : Jvm.Cond → Bool
  | .code _ _ _ _ => true
  | _ => false
theorem all_split {L : List Jvm.Cond} {P : Jvm.Cond → Bool} (h1 : L.all (fun c => isCode c || P c) = true) (h2 : ∀ c ∈ L.filter isCode, P c = true) : L.all P = true := by
  refine List.all_eq_true.mpr fun c hc => ?_
  have h := List.all_eq_true.mp h1 c hc
  rcases Bool.eq_false_or_eq_true (isCode c) with hi | hi
  · exact h2 c (List.mem_filter.mpr ⟨hc, hi⟩)
  · simpa [hi] using h
set_option maxRecDepth 65536 in
theorem w_c0 : (Jvm.Cond.code x code maxLocals ret).before args0 about1 = true := code_word (m := ⟨1, 1⟩) (meth := k1m1) (c := k1c1) (by decide +kernel) rfl rfl rfl (by decide +kernel)
set_option maxRecDepth 65536 in
theorem w_c1 : (Jvm.Cond.code ({ cls := "com/example/varietal/varietal/core/Occurrences", name := "index", desc := "(I)I" } : Jvm.MethodName) prog_3_method_4_code (1 : Nat) (Option.some Jvm.ClassFile.FieldType.int)).before args0 about1 = true := code_word (m := ⟨2, 0⟩) (meth := k2m0) (c := k2c0) (by decide +kernel) rfl rfl rfl (by decide +kernel)
def codes1 : List Jvm.Cond := [Jvm.Cond.code x code maxLocals ret, Jvm.Cond.code ({ cls := "com/example/varietal/varietal/core/Occurrences", name := "index", desc := "(I)I" } : Jvm.MethodName) prog_3_method_4_code (1 : Nat) (Option.some Jvm.ClassFile.FieldType.int)]
set_option maxRecDepth 65536 in
theorem codes_eq : words1.filter isCode = codes1 := rfl
theorem w_codes : ∀ c ∈ words1.filter isCode, c.before args0 about1 = true := by
  rw [codes_eq]
  intro c hc
  simp only [codes1, List.mem_cons, List.not_mem_nil, or_false] at hc
  rcases hc with rfl | rfl
  · exact w_c0
  · exact w_c1
set_option maxRecDepth 65536 in
theorem w_t1 : words1.all (fun c => isCode c || c.before args0 about1) = true := by decide +kernel
theorem w_tables : (allAtoms (Jvm.Cond.code x code maxLocals ret :: tables_1)).before args0 about1 = true := by
  rw [allAtoms_all]
  show words1.all (fun c => c.before args0 about1) = true
  refine all_split ?_ w_codes
  rw [w_t1]
set_option maxRecDepth 65536 in
theorem w_case : (Jvm.Cond.and given_1 narrow_1).before args0 about1 = true := by decide +kernel
theorem w_applies : (headSpec (Jvm.Cond.code x code maxLocals ret :: tables_1) room_1).applies x e0.platform about1 = true :=
  (Spec.applies_iff w_frames).mpr ⟨w_running, w_runnable, w_alone, w_named, w_hears, w_ripe, w_room, w_tables⟩
theorem atStart : AtStart classFile x code maxLocals ret World_1 tables_1 room_1 Calls_1 rest_1 Pre_1 launch0 p0 e0 about1 theMethod args0 below0 :=
  ⟨lists_1, trivial, launch0.admits_env _ _ _, launch0.least_env, fairChoices_fair.cas, fairChoices_fair.clock, w_frames, w_args, w_heap, w_applies, trivial, trivial, w_case⟩
end start1
theorem witness_1 : WitnessClaimed_1 := ⟨start1.p0, start1.e0, start1.about1, start1.theMethod, start1.args0, start1.below0, start1.atStart⟩
end Jvm.Pilot.@@N@@
