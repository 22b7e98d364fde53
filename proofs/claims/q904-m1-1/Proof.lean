import JvmDerived
import JvmDerived.Pilot.@@N@@Statement
import JvmDerived.Pilot.@@N@@Code
set_option linter.unusedVariables false
set_option linter.unusedSimpArgs false
namespace Jvm.RoadKit
open Sem ClassFile Op Lib Jvm.Stand Jvm.Free Jvm.LawKit
section New
variable {p : Program} {l : Launch} {e : Env} {R : Room} {s : State} {m : MethodId} {args : Array Value} {below : List Frame} {meth : Method} {c : Code} {T : State} {locs : List Loc} {cells slots : Nat}
theorem retI (X : Stand p l e R s m args below meth c T locs cells slots) (hx : p.tables.exec = Jvm.exec) {pc : Nat} {Ls : Array Slot} {z : Int32} {rest : List Value} (hret : meth.sig.returnType = some .int) (hd : decode c.code pc = .ok (.ireturn, 1)) {fs : List Frame}
    (hl : ∀ (f : JFrame) (acts : List Action), f.method = m → f.locked = none → f.entered = [] → (doReturn e (T.setTop f) acts (some (.int z))).1 = T.setFrames fs) : Steps p.tables e below (T.setTop (mkF m pc Ls (.int z :: rest))) (T.setFrames fs) := by
  have hm' : T.vm.method? m = some meth := X.method'
  have hn : narrow .int (.int z) = .int z := rfl
  show Steps p.tables e below (T.setTop { method := m, pc := pc, locals := Ls, stack := _ :: rest, locked := none }) _
  jvm_step X.here [X.here.top, hx, hd, hm', hret, hn]
  first | (intro acts; rw [hl _ acts rfl rfl rfl]) | rw [hl _ _ rfl rfl rfl]
  exact Steps.refl _
end New
end Jvm.RoadKit
namespace Jvm.Pilot.@@N@@
open Jvm Jvm.ClassFile Sem Op Lib Jvm.Free Jvm.Stand Jvm.LawKit Jvm.RoadKit Bundle Jvm.Pilot.@@N@@.Jvm.D
section OwnKit
variable {p : Program} {l : Launch} {e : Env} {R : Room} {s : State} {m : MethodId} {args : Array Value} {below : List Frame} {meth : Method} {c : Code} {T : State} {locs : List Loc} {cells slots : Nat} {Z : State} {a0 : Array Value} {h : Heap}
variable {Q : Option Value → Heap → List Loc → Prop} {rc rs pc : Nat} {Ls : Array Slot} {st : List Value}
def Go (p : Program) (e : Env) (below : List Frame) (s : State) (Q : Option Value → Heap → List Loc → Prop) (rc rs : Nat) (F : State) : Prop :=
  ∃ s₂ o, Steps p.tables e below F s₂ ∧ s₂.status = .running ∧ Ended s₂ below o ∧ ∃ v L, o = .returned v ∧ Q v s₂.heap L ∧ FrameEnd s o s₂ L rc rs
theorem Go.by {F F' : State} (g : Go p e below s Q rc rs F') (h : ∀ t, Steps p.tables e below F' t → Steps p.tables e below F t) : Go p e below s Q rc rs F := by
  obtain ⟨s2, o, h1, r⟩ := g
  exact ⟨s2, o, h _ h1, r⟩
def shlI (x y : Int32) : Int32 := x <<< (y &&& 31)
def shrI (x y : Int32) : Int32 := x >>> (y &&& 31)
def ushrI (x y : Int32) : Int32 := (x.toUInt32 >>> (y &&& 31).toUInt32).toInt32
def shlJ (x : Int64) (y : Int32) : Int64 := x <<< (y &&& 0x3f).toInt64
def shrJ (x : Int64) (y : Int32) : Int64 := x >>> (y &&& 0x3f).toInt64
def ushrJ (x : Int64) (y : Int32) : Int64 := (x.toUInt64 >>> (y &&& 0x3f).toInt64.toUInt64).toInt64
def i2bI (x : Int32) : Int32 := x.toInt8.toInt32
def i2cI (x : Int32) : Int32 := x.toUInt32.toUInt16.toUInt32.toInt32
def i2sI (x : Int32) : Int32 := x.toInt16.toInt32
theorem g_iload (X : Stand p l e R s m args below meth c T locs cells slots) (hx : p.tables.exec = Jvm.exec) {k : Nat} {v : Int32} (pc' : Nat) (hd : decode c.code pc = .ok (.iload k, 2)) (hl : Ls[k]? = some (.val (.int v))) (hp : pc + 2 = pc') (g : Go p e below s Q rc rs (T.setTop (mkF m pc' Ls (.int v :: st)))) : Go p e below s Q rc rs (T.setTop (mkF m pc Ls st)) := by
  subst hp; exact g.by fun t k => XS.iload X.here hx rfl hd hl k
theorem g_iloadN (X : Stand p l e R s m args below meth c T locs cells slots) (hx : p.tables.exec = Jvm.exec) {k : Fin 4} {v : Int32} (pc' : Nat) (hd : decode c.code pc = .ok (.iload_n k, 1)) (hl : Ls[k.val]? = some (.val (.int v))) (hp : pc + 1 = pc') (g : Go p e below s Q rc rs (T.setTop (mkF m pc' Ls (.int v :: st)))) : Go p e below s Q rc rs (T.setTop (mkF m pc Ls st)) := by
  subst hp; exact g.by fun t k => XS.iloadN X.here hx rfl hd hl k
theorem g_istore (X : Stand p l e R s m args below meth c T locs cells slots) (hx : p.tables.exec = Jvm.exec) {k : Nat} {v : Int32} (l' : Array Slot) (pc' : Nat) (hd : decode c.code pc = .ok (.istore k, 2)) (hl : storeLocals Ls k (.int v) = some l') (hp : pc + 2 = pc') (g : Go p e below s Q rc rs (T.setTop (mkF m pc' l' st))) : Go p e below s Q rc rs (T.setTop (mkF m pc Ls (.int v :: st))) := by
  subst hp; exact g.by fun t k => XS.istore X.here hx rfl hd rfl hl k
theorem g_istoreN (X : Stand p l e R s m args below meth c T locs cells slots) (hx : p.tables.exec = Jvm.exec) {k : Fin 4} {v : Int32} (l' : Array Slot) (pc' : Nat) (hd : decode c.code pc = .ok (.istore_n k, 1)) (hl : storeLocals Ls k.val (.int v) = some l') (hp : pc + 1 = pc') (g : Go p e below s Q rc rs (T.setTop (mkF m pc' l' st))) : Go p e below s Q rc rs (T.setTop (mkF m pc Ls (.int v :: st))) := by
  subst hp; exact g.by fun t k => XS.istoreN X.here hx rfl hd rfl hl k
theorem g_lload (X : Stand p l e R s m args below meth c T locs cells slots) (hx : p.tables.exec = Jvm.exec) {k : Nat} {v : Int64} (pc' : Nat) (hd : decode c.code pc = .ok (.lload k, 2)) (hl : Ls[k]? = some (.val (.long v))) (hp : pc + 2 = pc') (g : Go p e below s Q rc rs (T.setTop (mkF m pc' Ls (.long v :: st)))) : Go p e below s Q rc rs (T.setTop (mkF m pc Ls st)) := by
  subst hp; exact g.by fun t k => XS.lload X.here hx rfl hd hl k
theorem g_lloadN (X : Stand p l e R s m args below meth c T locs cells slots) (hx : p.tables.exec = Jvm.exec) {k : Fin 4} {v : Int64} (pc' : Nat) (hd : decode c.code pc = .ok (.lload_n k, 1)) (hl : Ls[k.val]? = some (.val (.long v))) (hp : pc + 1 = pc') (g : Go p e below s Q rc rs (T.setTop (mkF m pc' Ls (.long v :: st)))) : Go p e below s Q rc rs (T.setTop (mkF m pc Ls st)) := by
  subst hp; exact g.by fun t k => XS.lloadN X.here hx rfl hd hl k
theorem g_lstore (X : Stand p l e R s m args below meth c T locs cells slots) (hx : p.tables.exec = Jvm.exec) {k : Nat} {v : Int64} (l' : Array Slot) (pc' : Nat) (hd : decode c.code pc = .ok (.lstore k, 2)) (hl : storeLocals Ls k (.long v) = some l') (hp : pc + 2 = pc') (g : Go p e below s Q rc rs (T.setTop (mkF m pc' l' st))) : Go p e below s Q rc rs (T.setTop (mkF m pc Ls (.long v :: st))) := by
  subst hp; exact g.by fun t k => XS.lstore X.here hx rfl hd rfl hl k
theorem g_lstoreN (X : Stand p l e R s m args below meth c T locs cells slots) (hx : p.tables.exec = Jvm.exec) {k : Fin 4} {v : Int64} (l' : Array Slot) (pc' : Nat) (hd : decode c.code pc = .ok (.lstore_n k, 1)) (hl : storeLocals Ls k.val (.long v) = some l') (hp : pc + 1 = pc') (g : Go p e below s Q rc rs (T.setTop (mkF m pc' l' st))) : Go p e below s Q rc rs (T.setTop (mkF m pc Ls (.long v :: st))) := by
  subst hp; exact g.by fun t k => XS.lstoreN X.here hx rfl hd rfl hl k
theorem g_aload (X : Stand p l e R s m args below meth c T locs cells slots) (hx : p.tables.exec = Jvm.exec) {k : Nat} {v : Value} (pc' : Nat) (hd : decode c.code pc = .ok (.aload k, 2)) (hl : Ls[k]? = some (.val v)) (hv : v.isRef = true) (hp : pc + 2 = pc') (g : Go p e below s Q rc rs (T.setTop (mkF m pc' Ls (v :: st)))) : Go p e below s Q rc rs (T.setTop (mkF m pc Ls st)) := by
  subst hp; exact g.by fun t k => XS.aload X.here hx rfl hd hl hv k
theorem g_aloadN (X : Stand p l e R s m args below meth c T locs cells slots) (hx : p.tables.exec = Jvm.exec) {k : Fin 4} {v : Value} (pc' : Nat) (hd : decode c.code pc = .ok (.aload_n k, 1)) (hl : Ls[k.val]? = some (.val v)) (hv : v.isRef = true) (hp : pc + 1 = pc') (g : Go p e below s Q rc rs (T.setTop (mkF m pc' Ls (v :: st)))) : Go p e below s Q rc rs (T.setTop (mkF m pc Ls st)) := by
  subst hp; exact g.by fun t k => XS.aloadN X.here hx rfl hd hl hv k
theorem g_astore (X : Stand p l e R s m args below meth c T locs cells slots) (hx : p.tables.exec = Jvm.exec) {k : Nat} {v : Value} (l' : Array Slot) (pc' : Nat) (hd : decode c.code pc = .ok (.astore k, 2)) (hl : storeLocals Ls k v = some l') (hv : v.isRef = true) (hp : pc + 2 = pc') (g : Go p e below s Q rc rs (T.setTop (mkF m pc' l' st))) : Go p e below s Q rc rs (T.setTop (mkF m pc Ls (v :: st))) := by
  subst hp; exact g.by fun t k => XS.astore X.here hx rfl hd rfl hv hl k
theorem g_astoreN (X : Stand p l e R s m args below meth c T locs cells slots) (hx : p.tables.exec = Jvm.exec) {k : Fin 4} {v : Value} (l' : Array Slot) (pc' : Nat) (hd : decode c.code pc = .ok (.astore_n k, 1)) (hl : storeLocals Ls k.val v = some l') (hv : v.isRef = true) (hp : pc + 1 = pc') (g : Go p e below s Q rc rs (T.setTop (mkF m pc' l' st))) : Go p e below s Q rc rs (T.setTop (mkF m pc Ls (v :: st))) := by
  subst hp; exact g.by fun t k => XS.astoreN X.here hx rfl hd rfl hv hl k
theorem g_istoreS (X : Stand p l e R s m args below meth c T locs cells slots) (hx : p.tables.exec = Jvm.exec) {k : Nat} {v : Int32} {os : Slot} (l' : Array Slot) (pc' : Nat) (hd : decode c.code pc = .ok (.istore k, 2)) (hold : Ls[k]? = some os) (ho : One os) (hl : Ls.setIfInBounds k (.val (.int v)) = l') (hp : pc + 2 = pc') (g : Go p e below s Q rc rs (T.setTop (mkF m pc' l' st))) : Go p e below s Q rc rs (T.setTop (mkF m pc Ls ((.int v) :: st))) := by
  subst hp; exact g.by fun t k => XS.istore X.here hx rfl hd rfl (hl ▸ XS.store1 hold ho rfl) k
theorem g_istoreNS (X : Stand p l e R s m args below meth c T locs cells slots) (hx : p.tables.exec = Jvm.exec) {k : Fin 4} {v : Int32} {os : Slot} (l' : Array Slot) (pc' : Nat) (hd : decode c.code pc = .ok (.istore_n k, 1)) (hold : Ls[k.val]? = some os) (ho : One os) (hl : Ls.setIfInBounds k.val (.val (.int v)) = l') (hp : pc + 1 = pc') (g : Go p e below s Q rc rs (T.setTop (mkF m pc' l' st))) : Go p e below s Q rc rs (T.setTop (mkF m pc Ls ((.int v) :: st))) := by
  subst hp; exact g.by fun t k => XS.istoreN X.here hx rfl hd rfl (hl ▸ XS.store1 hold ho rfl) k
theorem g_astoreS (X : Stand p l e R s m args below meth c T locs cells slots) (hx : p.tables.exec = Jvm.exec) {k : Nat} {v : Value} {os : Slot} (l' : Array Slot) (pc' : Nat) (hd : decode c.code pc = .ok (.astore k, 2)) (hold : Ls[k]? = some os) (ho : One os) (hl : Ls.setIfInBounds k (.val v) = l') (hv : v.isRef = true) (hp : pc + 2 = pc') (g : Go p e below s Q rc rs (T.setTop (mkF m pc' l' st))) : Go p e below s Q rc rs (T.setTop (mkF m pc Ls (v :: st))) := by
  subst hp; exact g.by fun t k => XS.astore X.here hx rfl hd rfl hv (hl ▸ XS.store1 hold ho (by cases v <;> first | rfl | simp_all [Value.isRef])) k
theorem g_astoreNS (X : Stand p l e R s m args below meth c T locs cells slots) (hx : p.tables.exec = Jvm.exec) {k : Fin 4} {v : Value} {os : Slot} (l' : Array Slot) (pc' : Nat) (hd : decode c.code pc = .ok (.astore_n k, 1)) (hold : Ls[k.val]? = some os) (ho : One os) (hl : Ls.setIfInBounds k.val (.val v) = l') (hv : v.isRef = true) (hp : pc + 1 = pc') (g : Go p e below s Q rc rs (T.setTop (mkF m pc' l' st))) : Go p e below s Q rc rs (T.setTop (mkF m pc Ls (v :: st))) := by
  subst hp; exact g.by fun t k => XS.astoreN X.here hx rfl hd rfl hv (hl ▸ XS.store1 hold ho (by cases v <;> first | rfl | simp_all [Value.isRef])) k
theorem g_iconst (X : Stand p l e R s m args below meth c T locs cells slots) (hx : p.tables.exec = Jvm.exec) {i : Int} (v : Int32) (pc' : Nat) (hd : decode c.code pc = .ok (.iconst i, 1)) (hv : Int32.ofInt i = v) (hp : pc + 1 = pc') (g : Go p e below s Q rc rs (T.setTop (mkF m pc' Ls (.int v :: st)))) : Go p e below s Q rc rs (T.setTop (mkF m pc Ls st)) := by
  subst hp hv; exact g.by fun t k => XS.iconst X.here hx rfl hd k
theorem g_bipush (X : Stand p l e R s m args below meth c T locs cells slots) (hx : p.tables.exec = Jvm.exec) {i : Int} (v : Int32) (pc' : Nat) (hd : decode c.code pc = .ok (.bipush i, 2)) (hv : (Int8.ofInt i).toInt32 = v) (hp : pc + 2 = pc') (g : Go p e below s Q rc rs (T.setTop (mkF m pc' Ls (.int v :: st)))) : Go p e below s Q rc rs (T.setTop (mkF m pc Ls st)) := by
  subst hp hv; exact g.by fun t k => XS.bipush X.here hx rfl hd k
theorem g_sipush (X : Stand p l e R s m args below meth c T locs cells slots) (hx : p.tables.exec = Jvm.exec) {i : Int} (v : Int32) (pc' : Nat) (hd : decode c.code pc = .ok (.sipush i, 3)) (hv : (Int16.ofInt i).toInt32 = v) (hp : pc + 3 = pc') (g : Go p e below s Q rc rs (T.setTop (mkF m pc' Ls (.int v :: st)))) : Go p e below s Q rc rs (T.setTop (mkF m pc Ls st)) := by
  subst hp hv; exact g.by fun t k => XS.sipush X.here hx rfl hd k
theorem g_lconst (X : Stand p l e R s m args below meth c T locs cells slots) (hx : p.tables.exec = Jvm.exec) {i : Fin 2} (v : Int64) (pc' : Nat) (hd : decode c.code pc = .ok (.lconst i, 1)) (hv : Int64.ofNat i = v) (hp : pc + 1 = pc') (g : Go p e below s Q rc rs (T.setTop (mkF m pc' Ls (.long v :: st)))) : Go p e below s Q rc rs (T.setTop (mkF m pc Ls st)) := by
  subst hp hv; exact g.by fun t k => XS.lconst X.here hx rfl hd k
theorem g_aconst_null (X : Stand p l e R s m args below meth c T locs cells slots) (hx : p.tables.exec = Jvm.exec) (pc' : Nat) (hd : decode c.code pc = .ok (.aconst_null, 1)) (hp : pc + 1 = pc') (g : Go p e below s Q rc rs (T.setTop (mkF m pc' Ls (.null :: st)))) : Go p e below s Q rc rs (T.setTop (mkF m pc Ls st)) := by
  subst hp; exact g.by fun t k => XS.aconstNull X.here hx rfl hd k
theorem g_ldc (X : Stand p l e R s m args below meth c T locs cells slots) (hx : p.tables.exec = Jvm.exec) (hZ : Z.Warmed39 s.vm) {own : String} {i : Nat} {v : Int32} (hown : s.vm.findClass own = some m.cls) (w : (Cond.constant own i v).before a0 Z = true) (pc' : Nat) (hd : decode c.code pc = .ok (.ldc i, 2)) (hp : pc + 2 = pc') (g : Go p e below s Q rc rs (T.setTop (mkF m pc' Ls (.int v :: st)))) : Go p e below s Q rc rs (T.setTop (mkF m pc Ls st)) := by
  subst hp; exact g.by fun t k => X.ldcInt hx hown (mvT hZ w) (g := mkF m pc Ls st) rfl hd t k
theorem g_ldc_w (X : Stand p l e R s m args below meth c T locs cells slots) (hx : p.tables.exec = Jvm.exec) (hZ : Z.Warmed39 s.vm) {own : String} {i : Nat} {v : Int32} (hown : s.vm.findClass own = some m.cls) (w : (Cond.constant own i v).before a0 Z = true) (pc' : Nat) (hd : decode c.code pc = .ok (.ldc_w i, 3)) (hp : pc + 3 = pc') (g : Go p e below s Q rc rs (T.setTop (mkF m pc' Ls (.int v :: st)))) : Go p e below s Q rc rs (T.setTop (mkF m pc Ls st)) := by
  subst hp; exact g.by fun t k => X.ldcwInt hx hown (mvT hZ w) (g := mkF m pc Ls st) rfl hd t k
theorem g_ldc2_w (X : Stand p l e R s m args below meth c T locs cells slots) (hx : p.tables.exec = Jvm.exec) (hZ : Z.Warmed39 s.vm) {own : String} {i : Nat} {v : Int64} (hown : s.vm.findClass own = some m.cls) (w : (Cond.constantLong own i v).before a0 Z = true) (pc' : Nat) (hd : decode c.code pc = .ok (.ldc2_w i, 3)) (hp : pc + 3 = pc') (g : Go p e below s Q rc rs (T.setTop (mkF m pc' Ls (.long v :: st)))) : Go p e below s Q rc rs (T.setTop (mkF m pc Ls st)) := by
  subst hp; exact g.by fun t k => X.ldc2Long hx hown (mvT hZ w) (g := mkF m pc Ls st) rfl hd t k
theorem g_iadd (X : Stand p l e R s m args below meth c T locs cells slots) (hx : p.tables.exec = Jvm.exec) {x y : Int32} (pc' : Nat) (hd : decode c.code pc = .ok (.iadd, 1)) (hp : pc + 1 = pc') (g : Go p e below s Q rc rs (T.setTop (mkF m pc' Ls (.int (x + y) :: st)))) : Go p e below s Q rc rs (T.setTop (mkF m pc Ls (.int y :: .int x :: st))) := by
  subst hp; exact g.by fun t k => XS.iadd X.here hx rfl hd rfl k
theorem g_isub (X : Stand p l e R s m args below meth c T locs cells slots) (hx : p.tables.exec = Jvm.exec) {x y : Int32} (pc' : Nat) (hd : decode c.code pc = .ok (.isub, 1)) (hp : pc + 1 = pc') (g : Go p e below s Q rc rs (T.setTop (mkF m pc' Ls (.int (x - y) :: st)))) : Go p e below s Q rc rs (T.setTop (mkF m pc Ls (.int y :: .int x :: st))) := by
  subst hp; exact g.by fun t k => XS.isub X.here hx rfl hd rfl k
theorem g_imul (X : Stand p l e R s m args below meth c T locs cells slots) (hx : p.tables.exec = Jvm.exec) {x y : Int32} (pc' : Nat) (hd : decode c.code pc = .ok (.imul, 1)) (hp : pc + 1 = pc') (g : Go p e below s Q rc rs (T.setTop (mkF m pc' Ls (.int (x * y) :: st)))) : Go p e below s Q rc rs (T.setTop (mkF m pc Ls (.int y :: .int x :: st))) := by
  subst hp; exact g.by fun t k => XS.imul X.here hx rfl hd rfl k
theorem g_iand (X : Stand p l e R s m args below meth c T locs cells slots) (hx : p.tables.exec = Jvm.exec) {x y : Int32} (pc' : Nat) (hd : decode c.code pc = .ok (.iand, 1)) (hp : pc + 1 = pc') (g : Go p e below s Q rc rs (T.setTop (mkF m pc' Ls (.int (x &&& y) :: st)))) : Go p e below s Q rc rs (T.setTop (mkF m pc Ls (.int y :: .int x :: st))) := by
  subst hp; exact g.by fun t k => XS.iand X.here hx rfl hd rfl k
theorem g_ior (X : Stand p l e R s m args below meth c T locs cells slots) (hx : p.tables.exec = Jvm.exec) {x y : Int32} (pc' : Nat) (hd : decode c.code pc = .ok (.ior, 1)) (hp : pc + 1 = pc') (g : Go p e below s Q rc rs (T.setTop (mkF m pc' Ls (.int (x ||| y) :: st)))) : Go p e below s Q rc rs (T.setTop (mkF m pc Ls (.int y :: .int x :: st))) := by
  subst hp; exact g.by fun t k => XS.ior X.here hx rfl hd rfl k
theorem g_ixor (X : Stand p l e R s m args below meth c T locs cells slots) (hx : p.tables.exec = Jvm.exec) {x y : Int32} (pc' : Nat) (hd : decode c.code pc = .ok (.ixor, 1)) (hp : pc + 1 = pc') (g : Go p e below s Q rc rs (T.setTop (mkF m pc' Ls (.int (x ^^^ y) :: st)))) : Go p e below s Q rc rs (T.setTop (mkF m pc Ls (.int y :: .int x :: st))) := by
  subst hp; exact g.by fun t k => XS.ixor X.here hx rfl hd rfl k
theorem g_ineg (X : Stand p l e R s m args below meth c T locs cells slots) (hx : p.tables.exec = Jvm.exec) {x : Int32} (pc' : Nat) (hd : decode c.code pc = .ok (.ineg, 1)) (hp : pc + 1 = pc') (g : Go p e below s Q rc rs (T.setTop (mkF m pc' Ls (.int (-x) :: st)))) : Go p e below s Q rc rs (T.setTop (mkF m pc Ls (.int x :: st))) := by
  subst hp; exact g.by fun t k => XS.ineg X.here hx rfl hd rfl k
theorem g_idiv (X : Stand p l e R s m args below meth c T locs cells slots) (hx : p.tables.exec = Jvm.exec) {x y : Int32} (pc' : Nat) (hd : decode c.code pc = .ok (.idiv, 1)) (hy : y ≠ 0) (hp : pc + 1 = pc') (g : Go p e below s Q rc rs (T.setTop (mkF m pc' Ls (.int (x / y) :: st)))) : Go p e below s Q rc rs (T.setTop (mkF m pc Ls (.int y :: .int x :: st))) := by
  subst hp; exact g.by fun t k => XS.idiv X.here hx rfl hd rfl hy k
theorem g_ladd (X : Stand p l e R s m args below meth c T locs cells slots) (hx : p.tables.exec = Jvm.exec) {x y : Int64} (pc' : Nat) (hd : decode c.code pc = .ok (.ladd, 1)) (hp : pc + 1 = pc') (g : Go p e below s Q rc rs (T.setTop (mkF m pc' Ls (.long (x + y) :: st)))) : Go p e below s Q rc rs (T.setTop (mkF m pc Ls (.long y :: .long x :: st))) := by
  subst hp; exact g.by fun t k => XS.ladd X.here hx rfl hd rfl k
theorem g_lsub (X : Stand p l e R s m args below meth c T locs cells slots) (hx : p.tables.exec = Jvm.exec) {x y : Int64} (pc' : Nat) (hd : decode c.code pc = .ok (.lsub, 1)) (hp : pc + 1 = pc') (g : Go p e below s Q rc rs (T.setTop (mkF m pc' Ls (.long (x - y) :: st)))) : Go p e below s Q rc rs (T.setTop (mkF m pc Ls (.long y :: .long x :: st))) := by
  subst hp; exact g.by fun t k => XS.lsub X.here hx rfl hd rfl k
theorem g_lmul (X : Stand p l e R s m args below meth c T locs cells slots) (hx : p.tables.exec = Jvm.exec) {x y : Int64} (pc' : Nat) (hd : decode c.code pc = .ok (.lmul, 1)) (hp : pc + 1 = pc') (g : Go p e below s Q rc rs (T.setTop (mkF m pc' Ls (.long (x * y) :: st)))) : Go p e below s Q rc rs (T.setTop (mkF m pc Ls (.long y :: .long x :: st))) := by
  subst hp; exact g.by fun t k => XS.lmul X.here hx rfl hd rfl k
theorem g_land (X : Stand p l e R s m args below meth c T locs cells slots) (hx : p.tables.exec = Jvm.exec) {x y : Int64} (pc' : Nat) (hd : decode c.code pc = .ok (.land, 1)) (hp : pc + 1 = pc') (g : Go p e below s Q rc rs (T.setTop (mkF m pc' Ls (.long (x &&& y) :: st)))) : Go p e below s Q rc rs (T.setTop (mkF m pc Ls (.long y :: .long x :: st))) := by
  subst hp; exact g.by fun t k => XS.land X.here hx rfl hd rfl k
theorem g_lor (X : Stand p l e R s m args below meth c T locs cells slots) (hx : p.tables.exec = Jvm.exec) {x y : Int64} (pc' : Nat) (hd : decode c.code pc = .ok (.lor, 1)) (hp : pc + 1 = pc') (g : Go p e below s Q rc rs (T.setTop (mkF m pc' Ls (.long (x ||| y) :: st)))) : Go p e below s Q rc rs (T.setTop (mkF m pc Ls (.long y :: .long x :: st))) := by
  subst hp; exact g.by fun t k => XS.lor X.here hx rfl hd rfl k
theorem g_lxor (X : Stand p l e R s m args below meth c T locs cells slots) (hx : p.tables.exec = Jvm.exec) {x y : Int64} (pc' : Nat) (hd : decode c.code pc = .ok (.lxor, 1)) (hp : pc + 1 = pc') (g : Go p e below s Q rc rs (T.setTop (mkF m pc' Ls (.long (x ^^^ y) :: st)))) : Go p e below s Q rc rs (T.setTop (mkF m pc Ls (.long y :: .long x :: st))) := by
  subst hp; exact g.by fun t k => XS.lxor X.here hx rfl hd rfl k
theorem g_lneg (X : Stand p l e R s m args below meth c T locs cells slots) (hx : p.tables.exec = Jvm.exec) {x : Int64} (pc' : Nat) (hd : decode c.code pc = .ok (.lneg, 1)) (hp : pc + 1 = pc') (g : Go p e below s Q rc rs (T.setTop (mkF m pc' Ls (.long (-x) :: st)))) : Go p e below s Q rc rs (T.setTop (mkF m pc Ls (.long x :: st))) := by
  subst hp; exact g.by fun t k => XS.lneg X.here hx rfl hd rfl k
theorem g_ldiv (X : Stand p l e R s m args below meth c T locs cells slots) (hx : p.tables.exec = Jvm.exec) {x y : Int64} (pc' : Nat) (hd : decode c.code pc = .ok (.ldiv, 1)) (hy : y ≠ 0) (hp : pc + 1 = pc') (g : Go p e below s Q rc rs (T.setTop (mkF m pc' Ls (.long (x / y) :: st)))) : Go p e below s Q rc rs (T.setTop (mkF m pc Ls (.long y :: .long x :: st))) := by
  subst hp; exact g.by fun t k => XS.ldiv X.here hx rfl hd rfl hy k
theorem g_irem (X : Stand p l e R s m args below meth c T locs cells slots) (hx : p.tables.exec = Jvm.exec) {x y : Int32} (pc' : Nat) (hd : decode c.code pc = .ok (.irem, 1)) (hy : y ≠ 0) (hp : pc + 1 = pc') (g : Go p e below s Q rc rs (T.setTop (mkF m pc' Ls (.int (x % y) :: st)))) : Go p e below s Q rc rs (T.setTop (mkF m pc Ls (.int y :: .int x :: st))) := by
  subst hp; exact g.by fun t k => iremM X hx rfl hd rfl hy k
theorem g_lrem (X : Stand p l e R s m args below meth c T locs cells slots) (hx : p.tables.exec = Jvm.exec) {x y : Int64} (pc' : Nat) (hd : decode c.code pc = .ok (.lrem, 1)) (hy : y ≠ 0) (hp : pc + 1 = pc') (g : Go p e below s Q rc rs (T.setTop (mkF m pc' Ls (.long (x % y) :: st)))) : Go p e below s Q rc rs (T.setTop (mkF m pc Ls (.long y :: .long x :: st))) := by
  subst hp; exact g.by fun t k => XS.lrem X.here hx rfl hd rfl hy (by rw [lrem_mod]; exact k)
theorem g_ishl (X : Stand p l e R s m args below meth c T locs cells slots) (hx : p.tables.exec = Jvm.exec) {x : Int32} {y : Int32} (pc' : Nat) (hd : decode c.code pc = .ok (.ishl, 1)) (hp : pc + 1 = pc') (g : Go p e below s Q rc rs (T.setTop (mkF m pc' Ls (.int (shlI x y) :: st)))) : Go p e below s Q rc rs (T.setTop (mkF m pc Ls (.int y :: .int x :: st))) := by
  subst hp; exact g.by fun t k => XS.ishl X.here hx rfl hd rfl k
theorem g_ishr (X : Stand p l e R s m args below meth c T locs cells slots) (hx : p.tables.exec = Jvm.exec) {x : Int32} {y : Int32} (pc' : Nat) (hd : decode c.code pc = .ok (.ishr, 1)) (hp : pc + 1 = pc') (g : Go p e below s Q rc rs (T.setTop (mkF m pc' Ls (.int (shrI x y) :: st)))) : Go p e below s Q rc rs (T.setTop (mkF m pc Ls (.int y :: .int x :: st))) := by
  subst hp; exact g.by fun t k => XS.ishr X.here hx rfl hd rfl k
theorem g_iushr (X : Stand p l e R s m args below meth c T locs cells slots) (hx : p.tables.exec = Jvm.exec) {x : Int32} {y : Int32} (pc' : Nat) (hd : decode c.code pc = .ok (.iushr, 1)) (hp : pc + 1 = pc') (g : Go p e below s Q rc rs (T.setTop (mkF m pc' Ls (.int (ushrI x y) :: st)))) : Go p e below s Q rc rs (T.setTop (mkF m pc Ls (.int y :: .int x :: st))) := by
  subst hp; exact g.by fun t k => XS.iushr X.here hx rfl hd rfl k
theorem g_lshl (X : Stand p l e R s m args below meth c T locs cells slots) (hx : p.tables.exec = Jvm.exec) {x : Int64} {y : Int32} (pc' : Nat) (hd : decode c.code pc = .ok (.lshl, 1)) (hp : pc + 1 = pc') (g : Go p e below s Q rc rs (T.setTop (mkF m pc' Ls (.long (shlJ x y) :: st)))) : Go p e below s Q rc rs (T.setTop (mkF m pc Ls (.int y :: .long x :: st))) := by
  subst hp; exact g.by fun t k => XS.lshl X.here hx rfl hd rfl k
theorem g_lshr (X : Stand p l e R s m args below meth c T locs cells slots) (hx : p.tables.exec = Jvm.exec) {x : Int64} {y : Int32} (pc' : Nat) (hd : decode c.code pc = .ok (.lshr, 1)) (hp : pc + 1 = pc') (g : Go p e below s Q rc rs (T.setTop (mkF m pc' Ls (.long (shrJ x y) :: st)))) : Go p e below s Q rc rs (T.setTop (mkF m pc Ls (.int y :: .long x :: st))) := by
  subst hp; exact g.by fun t k => XS.lshr X.here hx rfl hd rfl k
theorem g_lushr (X : Stand p l e R s m args below meth c T locs cells slots) (hx : p.tables.exec = Jvm.exec) {x : Int64} {y : Int32} (pc' : Nat) (hd : decode c.code pc = .ok (.lushr, 1)) (hp : pc + 1 = pc') (g : Go p e below s Q rc rs (T.setTop (mkF m pc' Ls (.long (ushrJ x y) :: st)))) : Go p e below s Q rc rs (T.setTop (mkF m pc Ls (.int y :: .long x :: st))) := by
  subst hp; exact g.by fun t k => XS.lushr X.here hx rfl hd rfl k
theorem g_i2l (X : Stand p l e R s m args below meth c T locs cells slots) (hx : p.tables.exec = Jvm.exec) {x : Int32} (pc' : Nat) (hd : decode c.code pc = .ok (.i2l, 1)) (hp : pc + 1 = pc') (g : Go p e below s Q rc rs (T.setTop (mkF m pc' Ls (.long (x.toInt64) :: st)))) : Go p e below s Q rc rs (T.setTop (mkF m pc Ls (.int x :: st))) := by
  subst hp; exact g.by fun t k => XS.i2l X.here hx rfl hd rfl k
theorem g_l2i (X : Stand p l e R s m args below meth c T locs cells slots) (hx : p.tables.exec = Jvm.exec) {x : Int64} (pc' : Nat) (hd : decode c.code pc = .ok (.l2i, 1)) (hp : pc + 1 = pc') (g : Go p e below s Q rc rs (T.setTop (mkF m pc' Ls (.int (x.toInt32) :: st)))) : Go p e below s Q rc rs (T.setTop (mkF m pc Ls (.long x :: st))) := by
  subst hp; exact g.by fun t k => XS.l2i X.here hx rfl hd rfl k
theorem g_i2b (X : Stand p l e R s m args below meth c T locs cells slots) (hx : p.tables.exec = Jvm.exec) {x : Int32} (pc' : Nat) (hd : decode c.code pc = .ok (.i2b, 1)) (hp : pc + 1 = pc') (g : Go p e below s Q rc rs (T.setTop (mkF m pc' Ls (.int (i2bI x) :: st)))) : Go p e below s Q rc rs (T.setTop (mkF m pc Ls (.int x :: st))) := by
  subst hp; exact g.by fun t k => XS.i2b X.here hx rfl hd rfl k
theorem g_i2c (X : Stand p l e R s m args below meth c T locs cells slots) (hx : p.tables.exec = Jvm.exec) {x : Int32} (pc' : Nat) (hd : decode c.code pc = .ok (.i2c, 1)) (hp : pc + 1 = pc') (g : Go p e below s Q rc rs (T.setTop (mkF m pc' Ls (.int (i2cI x) :: st)))) : Go p e below s Q rc rs (T.setTop (mkF m pc Ls (.int x :: st))) := by
  subst hp; exact g.by fun t k => XS.i2c X.here hx rfl hd rfl k
theorem g_i2s (X : Stand p l e R s m args below meth c T locs cells slots) (hx : p.tables.exec = Jvm.exec) {x : Int32} (pc' : Nat) (hd : decode c.code pc = .ok (.i2s, 1)) (hp : pc + 1 = pc') (g : Go p e below s Q rc rs (T.setTop (mkF m pc' Ls (.int (i2sI x) :: st)))) : Go p e below s Q rc rs (T.setTop (mkF m pc Ls (.int x :: st))) := by
  subst hp; exact g.by fun t k => XS.i2s X.here hx rfl hd rfl k
theorem g_lcmp (X : Stand p l e R s m args below meth c T locs cells slots) (hx : p.tables.exec = Jvm.exec) {x y : Int64} (pc' : Nat) (hd : decode c.code pc = .ok (.lcmp, 1)) (hp : pc + 1 = pc') (g : Go p e below s Q rc rs (T.setTop (mkF m pc' Ls (.int (lcmpW x y) :: st)))) : Go p e below s Q rc rs (T.setTop (mkF m pc Ls (.long y :: .long x :: st))) := by
  subst hp; exact g.by fun t k => XS.lcmp X.here hx rfl hd rfl k
theorem g_iinc (X : Stand p l e R s m args below meth c T locs cells slots) (hx : p.tables.exec = Jvm.exec) {k : Nat} {i : Int} {x : Int32} (v : Int32) (l' : Array Slot) (pc' : Nat) (hd : decode c.code pc = .ok (.iinc k i, 3)) (hv : Int32.ofInt i = v) (hl : Ls[k]? = some (.val (.int x))) (hl' : storeLocals Ls k (.int (x + v)) = some l') (hp : pc + 3 = pc') (g : Go p e below s Q rc rs (T.setTop (mkF m pc' l' st))) : Go p e below s Q rc rs (T.setTop (mkF m pc Ls st)) := by
  subst hp hv; exact g.by fun t k => XS.iinc X.here hx rfl hd hl hl' k
theorem g_dup (X : Stand p l e R s m args below meth c T locs cells slots) (hx : p.tables.exec = Jvm.exec) {x : Value} (pc' : Nat) (hd : decode c.code pc = .ok (.dup, 1)) (hc : x.category = 1) (hp : pc + 1 = pc') (g : Go p e below s Q rc rs (T.setTop (mkF m pc' Ls (x :: x :: st)))) : Go p e below s Q rc rs (T.setTop (mkF m pc Ls (x :: st))) := by
  subst hp; exact g.by fun t k => XS.dup X.here hx rfl hd rfl hc k
theorem g_pop (X : Stand p l e R s m args below meth c T locs cells slots) (hx : p.tables.exec = Jvm.exec) {x : Value} (pc' : Nat) (hd : decode c.code pc = .ok (.pop, 1)) (hc : x.category = 1) (hp : pc + 1 = pc') (g : Go p e below s Q rc rs (T.setTop (mkF m pc' Ls st))) : Go p e below s Q rc rs (T.setTop (mkF m pc Ls (x :: st))) := by
  subst hp; exact g.by fun t k => XS.pop X.here hx rfl hd rfl hc k
theorem g_dup_x1 (X : Stand p l e R s m args below meth c T locs cells slots) (hx : p.tables.exec = Jvm.exec) {x y : Value} (pc' : Nat) (hd : decode c.code pc = .ok (.dup_x1, 1)) (hc : x.category = 1) (hc2 : y.category = 1) (hp : pc + 1 = pc') (g : Go p e below s Q rc rs (T.setTop (mkF m pc' Ls (x :: y :: x :: st)))) : Go p e below s Q rc rs (T.setTop (mkF m pc Ls (x :: y :: st))) := by
  subst hp; exact g.by fun t k => XS.dupX1 X.here hx rfl hd rfl hc hc2 k
theorem g_dup2 (X : Stand p l e R s m args below meth c T locs cells slots) (hx : p.tables.exec = Jvm.exec) {x y : Value} (pc' : Nat) (hd : decode c.code pc = .ok (.dup2, 1)) (hc : x.category = 1) (hc2 : y.category = 1) (hp : pc + 1 = pc') (g : Go p e below s Q rc rs (T.setTop (mkF m pc' Ls (x :: y :: x :: y :: st)))) : Go p e below s Q rc rs (T.setTop (mkF m pc Ls (x :: y :: st))) := by
  subst hp; exact g.by fun t k => XT.dup2 X.here hx rfl hd rfl hc hc2 k
theorem g_dup2L (X : Stand p l e R s m args below meth c T locs cells slots) (hx : p.tables.exec = Jvm.exec) {x : Int64} (pc' : Nat) (hd : decode c.code pc = .ok (.dup2, 1)) (hp : pc + 1 = pc') (g : Go p e below s Q rc rs (T.setTop (mkF m pc' Ls (.long x :: .long x :: st)))) : Go p e below s Q rc rs (T.setTop (mkF m pc Ls (.long x :: st))) := by
  subst hp; exact g.by fun t k => XT.dup2L X.here hx rfl hd rfl k
theorem g_pop2L (X : Stand p l e R s m args below meth c T locs cells slots) (hx : p.tables.exec = Jvm.exec) {x : Int64} (pc' : Nat) (hd : decode c.code pc = .ok (.pop2, 1)) (hp : pc + 1 = pc') (g : Go p e below s Q rc rs (T.setTop (mkF m pc' Ls st))) : Go p e below s Q rc rs (T.setTop (mkF m pc Ls (.long x :: st))) := by
  subst hp; refine g.by fun t k => ?_
  jvm_step X.here [X.here.top, hx, hd, Value.category]
  exact k
theorem g_goto (X : Stand p l e R s m args below meth c T locs cells slots) (hx : p.tables.exec = Jvm.exec) {o : Int} (pc' : Nat) (hd : decode c.code pc = .ok (.goto o, 3)) (ho : 0 ≤ (pc : Int) + o) (hp : ((pc : Int) + o).toNat = pc') (g : Go p e below s Q rc rs (T.setTop (mkF m pc' Ls st))) : Go p e below s Q rc rs (T.setTop (mkF m pc Ls st)) := by
  subst hp; exact g.by fun t k => XS.goto X.here hx rfl rfl hd ho rfl k
theorem g_icmp_lt (X : Stand p l e R s m args below meth c T locs cells slots) (hx : p.tables.exec = Jvm.exec) {x y : Int32} {o : Int} (pcY pcN : Nat) (hd : decode c.code pc = .ok (.if_icmp .lt o, 3)) (ho : 0 ≤ (pc : Int) + o) (hY : ((pc : Int) + o).toNat = pcY) (hN : pc + 3 = pcN) (gp : x < y → Go p e below s Q rc rs (T.setTop (mkF m pcY Ls st))) (gn : ¬ x < y → Go p e below s Q rc rs (T.setTop (mkF m pcN Ls st))) : Go p e below s Q rc rs (T.setTop (mkF m pc Ls (.int y :: .int x :: st))) := by
  subst hY hN
  by_cases q : x < y
  · exact (gp q).by fun t k => XS.icmpYes X.here hx rfl rfl hd rfl (tlt q).1 ho rfl k
  · exact (gn q).by fun t k => XS.icmpNo X.here hx rfl hd rfl (flt q).1 k
theorem g_if0_lt (X : Stand p l e R s m args below meth c T locs cells slots) (hx : p.tables.exec = Jvm.exec) {x : Int32} {o : Int} (pcY pcN : Nat) (hd : decode c.code pc = .ok (.ifCond .lt o, 3)) (ho : 0 ≤ (pc : Int) + o) (hY : ((pc : Int) + o).toNat = pcY) (hN : pc + 3 = pcN) (gp : x < 0 → Go p e below s Q rc rs (T.setTop (mkF m pcY Ls st))) (gn : ¬ x < 0 → Go p e below s Q rc rs (T.setTop (mkF m pcN Ls st))) : Go p e below s Q rc rs (T.setTop (mkF m pc Ls (.int x :: st))) := by
  subst hY hN
  by_cases q : x < 0
  · exact (gp q).by fun t k => XS.ifYes X.here hx rfl rfl hd rfl ((if0 _ _).trans (tlt q).1) ho rfl k
  · exact (gn q).by fun t k => XS.ifNo X.here hx rfl hd rfl ((if0 _ _).trans (flt q).1) k
theorem g_lc_lt (X : Stand p l e R s m args below meth c T locs cells slots) (hx : p.tables.exec = Jvm.exec) {x y : Int64} {o : Int} (pcY pcN : Nat) (hd : decode c.code pc = .ok (.ifCond .lt o, 3)) (ho : 0 ≤ (pc : Int) + o) (hY : ((pc : Int) + o).toNat = pcY) (hN : pc + 3 = pcN) (gp : x < y → Go p e below s Q rc rs (T.setTop (mkF m pcY Ls st))) (gn : ¬ x < y → Go p e below s Q rc rs (T.setTop (mkF m pcN Ls st))) : Go p e below s Q rc rs (T.setTop (mkF m pc Ls (.int (lcmpW x y) :: st))) :=
  g_if0_lt X hx pcY pcN hd ho hY hN (fun q => gp ((lw_lt x y).1 q)) (fun q => gn fun r => q ((lw_lt x y).2 r))
theorem g_icmp_ge (X : Stand p l e R s m args below meth c T locs cells slots) (hx : p.tables.exec = Jvm.exec) {x y : Int32} {o : Int} (pcY pcN : Nat) (hd : decode c.code pc = .ok (.if_icmp .ge o, 3)) (ho : 0 ≤ (pc : Int) + o) (hY : ((pc : Int) + o).toNat = pcY) (hN : pc + 3 = pcN) (gp : x < y → Go p e below s Q rc rs (T.setTop (mkF m pcN Ls st))) (gn : ¬ x < y → Go p e below s Q rc rs (T.setTop (mkF m pcY Ls st))) : Go p e below s Q rc rs (T.setTop (mkF m pc Ls (.int y :: .int x :: st))) := by
  subst hY hN
  by_cases q : x < y
  · exact (gp q).by fun t k => XS.icmpNo X.here hx rfl hd rfl (tlt q).2.1 k
  · exact (gn q).by fun t k => XS.icmpYes X.here hx rfl rfl hd rfl (flt q).2.1 ho rfl k
theorem g_if0_ge (X : Stand p l e R s m args below meth c T locs cells slots) (hx : p.tables.exec = Jvm.exec) {x : Int32} {o : Int} (pcY pcN : Nat) (hd : decode c.code pc = .ok (.ifCond .ge o, 3)) (ho : 0 ≤ (pc : Int) + o) (hY : ((pc : Int) + o).toNat = pcY) (hN : pc + 3 = pcN) (gp : x < 0 → Go p e below s Q rc rs (T.setTop (mkF m pcN Ls st))) (gn : ¬ x < 0 → Go p e below s Q rc rs (T.setTop (mkF m pcY Ls st))) : Go p e below s Q rc rs (T.setTop (mkF m pc Ls (.int x :: st))) := by
  subst hY hN
  by_cases q : x < 0
  · exact (gp q).by fun t k => XS.ifNo X.here hx rfl hd rfl ((if0 _ _).trans (tlt q).2.1) k
  · exact (gn q).by fun t k => XS.ifYes X.here hx rfl rfl hd rfl ((if0 _ _).trans (flt q).2.1) ho rfl k
theorem g_lc_ge (X : Stand p l e R s m args below meth c T locs cells slots) (hx : p.tables.exec = Jvm.exec) {x y : Int64} {o : Int} (pcY pcN : Nat) (hd : decode c.code pc = .ok (.ifCond .ge o, 3)) (ho : 0 ≤ (pc : Int) + o) (hY : ((pc : Int) + o).toNat = pcY) (hN : pc + 3 = pcN) (gp : x < y → Go p e below s Q rc rs (T.setTop (mkF m pcN Ls st))) (gn : ¬ x < y → Go p e below s Q rc rs (T.setTop (mkF m pcY Ls st))) : Go p e below s Q rc rs (T.setTop (mkF m pc Ls (.int (lcmpW x y) :: st))) :=
  g_if0_ge X hx pcY pcN hd ho hY hN (fun q => gp ((lw_lt x y).1 q)) (fun q => gn fun r => q ((lw_lt x y).2 r))
theorem g_icmp_gt (X : Stand p l e R s m args below meth c T locs cells slots) (hx : p.tables.exec = Jvm.exec) {x y : Int32} {o : Int} (pcY pcN : Nat) (hd : decode c.code pc = .ok (.if_icmp .gt o, 3)) (ho : 0 ≤ (pc : Int) + o) (hY : ((pc : Int) + o).toNat = pcY) (hN : pc + 3 = pcN) (gp : y < x → Go p e below s Q rc rs (T.setTop (mkF m pcY Ls st))) (gn : ¬ y < x → Go p e below s Q rc rs (T.setTop (mkF m pcN Ls st))) : Go p e below s Q rc rs (T.setTop (mkF m pc Ls (.int y :: .int x :: st))) := by
  subst hY hN
  by_cases q : y < x
  · exact (gp q).by fun t k => XS.icmpYes X.here hx rfl rfl hd rfl (tlt q).2.2.1 ho rfl k
  · exact (gn q).by fun t k => XS.icmpNo X.here hx rfl hd rfl (flt q).2.2.1 k
theorem g_if0_gt (X : Stand p l e R s m args below meth c T locs cells slots) (hx : p.tables.exec = Jvm.exec) {x : Int32} {o : Int} (pcY pcN : Nat) (hd : decode c.code pc = .ok (.ifCond .gt o, 3)) (ho : 0 ≤ (pc : Int) + o) (hY : ((pc : Int) + o).toNat = pcY) (hN : pc + 3 = pcN) (gp : 0 < x → Go p e below s Q rc rs (T.setTop (mkF m pcY Ls st))) (gn : ¬ 0 < x → Go p e below s Q rc rs (T.setTop (mkF m pcN Ls st))) : Go p e below s Q rc rs (T.setTop (mkF m pc Ls (.int x :: st))) := by
  subst hY hN
  by_cases q : 0 < x
  · exact (gp q).by fun t k => XS.ifYes X.here hx rfl rfl hd rfl ((if0 _ _).trans (tlt q).2.2.1) ho rfl k
  · exact (gn q).by fun t k => XS.ifNo X.here hx rfl hd rfl ((if0 _ _).trans (flt q).2.2.1) k
theorem g_lc_gt (X : Stand p l e R s m args below meth c T locs cells slots) (hx : p.tables.exec = Jvm.exec) {x y : Int64} {o : Int} (pcY pcN : Nat) (hd : decode c.code pc = .ok (.ifCond .gt o, 3)) (ho : 0 ≤ (pc : Int) + o) (hY : ((pc : Int) + o).toNat = pcY) (hN : pc + 3 = pcN) (gp : y < x → Go p e below s Q rc rs (T.setTop (mkF m pcY Ls st))) (gn : ¬ y < x → Go p e below s Q rc rs (T.setTop (mkF m pcN Ls st))) : Go p e below s Q rc rs (T.setTop (mkF m pc Ls (.int (lcmpW x y) :: st))) :=
  g_if0_gt X hx pcY pcN hd ho hY hN (fun q => gp ((lw_gt x y).1 q)) (fun q => gn fun r => q ((lw_gt x y).2 r))
theorem g_icmp_le (X : Stand p l e R s m args below meth c T locs cells slots) (hx : p.tables.exec = Jvm.exec) {x y : Int32} {o : Int} (pcY pcN : Nat) (hd : decode c.code pc = .ok (.if_icmp .le o, 3)) (ho : 0 ≤ (pc : Int) + o) (hY : ((pc : Int) + o).toNat = pcY) (hN : pc + 3 = pcN) (gp : y < x → Go p e below s Q rc rs (T.setTop (mkF m pcN Ls st))) (gn : ¬ y < x → Go p e below s Q rc rs (T.setTop (mkF m pcY Ls st))) : Go p e below s Q rc rs (T.setTop (mkF m pc Ls (.int y :: .int x :: st))) := by
  subst hY hN
  by_cases q : y < x
  · exact (gp q).by fun t k => XS.icmpNo X.here hx rfl hd rfl (tlt q).2.2.2 k
  · exact (gn q).by fun t k => XS.icmpYes X.here hx rfl rfl hd rfl (flt q).2.2.2 ho rfl k
theorem g_if0_le (X : Stand p l e R s m args below meth c T locs cells slots) (hx : p.tables.exec = Jvm.exec) {x : Int32} {o : Int} (pcY pcN : Nat) (hd : decode c.code pc = .ok (.ifCond .le o, 3)) (ho : 0 ≤ (pc : Int) + o) (hY : ((pc : Int) + o).toNat = pcY) (hN : pc + 3 = pcN) (gp : 0 < x → Go p e below s Q rc rs (T.setTop (mkF m pcN Ls st))) (gn : ¬ 0 < x → Go p e below s Q rc rs (T.setTop (mkF m pcY Ls st))) : Go p e below s Q rc rs (T.setTop (mkF m pc Ls (.int x :: st))) := by
  subst hY hN
  by_cases q : 0 < x
  · exact (gp q).by fun t k => XS.ifNo X.here hx rfl hd rfl ((if0 _ _).trans (tlt q).2.2.2) k
  · exact (gn q).by fun t k => XS.ifYes X.here hx rfl rfl hd rfl ((if0 _ _).trans (flt q).2.2.2) ho rfl k
theorem g_lc_le (X : Stand p l e R s m args below meth c T locs cells slots) (hx : p.tables.exec = Jvm.exec) {x y : Int64} {o : Int} (pcY pcN : Nat) (hd : decode c.code pc = .ok (.ifCond .le o, 3)) (ho : 0 ≤ (pc : Int) + o) (hY : ((pc : Int) + o).toNat = pcY) (hN : pc + 3 = pcN) (gp : y < x → Go p e below s Q rc rs (T.setTop (mkF m pcN Ls st))) (gn : ¬ y < x → Go p e below s Q rc rs (T.setTop (mkF m pcY Ls st))) : Go p e below s Q rc rs (T.setTop (mkF m pc Ls (.int (lcmpW x y) :: st))) :=
  g_if0_le X hx pcY pcN hd ho hY hN (fun q => gp ((lw_gt x y).1 q)) (fun q => gn fun r => q ((lw_gt x y).2 r))
theorem g_icmp_eq (X : Stand p l e R s m args below meth c T locs cells slots) (hx : p.tables.exec = Jvm.exec) {x y : Int32} {o : Int} (pcY pcN : Nat) (hd : decode c.code pc = .ok (.if_icmp .eq o, 3)) (ho : 0 ≤ (pc : Int) + o) (hY : ((pc : Int) + o).toNat = pcY) (hN : pc + 3 = pcN) (gp : x = y → Go p e below s Q rc rs (T.setTop (mkF m pcY Ls st))) (gn : ¬ x = y → Go p e below s Q rc rs (T.setTop (mkF m pcN Ls st))) : Go p e below s Q rc rs (T.setTop (mkF m pc Ls (.int y :: .int x :: st))) := by
  subst hY hN
  by_cases q : x = y
  · exact (gp q).by fun t k => XS.icmpYes X.here hx rfl rfl hd rfl (teq q).1 ho rfl k
  · exact (gn q).by fun t k => XS.icmpNo X.here hx rfl hd rfl (feq q).1 k
theorem g_if0_eq (X : Stand p l e R s m args below meth c T locs cells slots) (hx : p.tables.exec = Jvm.exec) {x : Int32} {o : Int} (pcY pcN : Nat) (hd : decode c.code pc = .ok (.ifCond .eq o, 3)) (ho : 0 ≤ (pc : Int) + o) (hY : ((pc : Int) + o).toNat = pcY) (hN : pc + 3 = pcN) (gp : x = 0 → Go p e below s Q rc rs (T.setTop (mkF m pcY Ls st))) (gn : ¬ x = 0 → Go p e below s Q rc rs (T.setTop (mkF m pcN Ls st))) : Go p e below s Q rc rs (T.setTop (mkF m pc Ls (.int x :: st))) := by
  subst hY hN
  by_cases q : x = 0
  · exact (gp q).by fun t k => XS.ifYes X.here hx rfl rfl hd rfl ((if0 _ _).trans (teq q).1) ho rfl k
  · exact (gn q).by fun t k => XS.ifNo X.here hx rfl hd rfl ((if0 _ _).trans (feq q).1) k
theorem g_lc_eq (X : Stand p l e R s m args below meth c T locs cells slots) (hx : p.tables.exec = Jvm.exec) {x y : Int64} {o : Int} (pcY pcN : Nat) (hd : decode c.code pc = .ok (.ifCond .eq o, 3)) (ho : 0 ≤ (pc : Int) + o) (hY : ((pc : Int) + o).toNat = pcY) (hN : pc + 3 = pcN) (gp : x = y → Go p e below s Q rc rs (T.setTop (mkF m pcY Ls st))) (gn : ¬ x = y → Go p e below s Q rc rs (T.setTop (mkF m pcN Ls st))) : Go p e below s Q rc rs (T.setTop (mkF m pc Ls (.int (lcmpW x y) :: st))) :=
  g_if0_eq X hx pcY pcN hd ho hY hN (fun q => gp ((lw_eq x y).1 q)) (fun q => gn fun r => q ((lw_eq x y).2 r))
theorem g_icmp_ne (X : Stand p l e R s m args below meth c T locs cells slots) (hx : p.tables.exec = Jvm.exec) {x y : Int32} {o : Int} (pcY pcN : Nat) (hd : decode c.code pc = .ok (.if_icmp .ne o, 3)) (ho : 0 ≤ (pc : Int) + o) (hY : ((pc : Int) + o).toNat = pcY) (hN : pc + 3 = pcN) (gp : x = y → Go p e below s Q rc rs (T.setTop (mkF m pcN Ls st))) (gn : ¬ x = y → Go p e below s Q rc rs (T.setTop (mkF m pcY Ls st))) : Go p e below s Q rc rs (T.setTop (mkF m pc Ls (.int y :: .int x :: st))) := by
  subst hY hN
  by_cases q : x = y
  · exact (gp q).by fun t k => XS.icmpNo X.here hx rfl hd rfl (teq q).2 k
  · exact (gn q).by fun t k => XS.icmpYes X.here hx rfl rfl hd rfl (feq q).2 ho rfl k
theorem g_if0_ne (X : Stand p l e R s m args below meth c T locs cells slots) (hx : p.tables.exec = Jvm.exec) {x : Int32} {o : Int} (pcY pcN : Nat) (hd : decode c.code pc = .ok (.ifCond .ne o, 3)) (ho : 0 ≤ (pc : Int) + o) (hY : ((pc : Int) + o).toNat = pcY) (hN : pc + 3 = pcN) (gp : x = 0 → Go p e below s Q rc rs (T.setTop (mkF m pcN Ls st))) (gn : ¬ x = 0 → Go p e below s Q rc rs (T.setTop (mkF m pcY Ls st))) : Go p e below s Q rc rs (T.setTop (mkF m pc Ls (.int x :: st))) := by
  subst hY hN
  by_cases q : x = 0
  · exact (gp q).by fun t k => XS.ifNo X.here hx rfl hd rfl ((if0 _ _).trans (teq q).2) k
  · exact (gn q).by fun t k => XS.ifYes X.here hx rfl rfl hd rfl ((if0 _ _).trans (feq q).2) ho rfl k
theorem g_lc_ne (X : Stand p l e R s m args below meth c T locs cells slots) (hx : p.tables.exec = Jvm.exec) {x y : Int64} {o : Int} (pcY pcN : Nat) (hd : decode c.code pc = .ok (.ifCond .ne o, 3)) (ho : 0 ≤ (pc : Int) + o) (hY : ((pc : Int) + o).toNat = pcY) (hN : pc + 3 = pcN) (gp : x = y → Go p e below s Q rc rs (T.setTop (mkF m pcN Ls st))) (gn : ¬ x = y → Go p e below s Q rc rs (T.setTop (mkF m pcY Ls st))) : Go p e below s Q rc rs (T.setTop (mkF m pc Ls (.int (lcmpW x y) :: st))) :=
  g_if0_ne X hx pcY pcN hd ho hY hN (fun q => gp ((lw_eq x y).1 q)) (fun q => gn fun r => q ((lw_eq x y).2 r))
theorem g_ifnull_no (X : Stand p l e R s m args below meth c T locs cells slots) (hx : p.tables.exec = Jvm.exec) {b : Addr} {o : Int} (pc' : Nat) (hd : decode c.code pc = .ok (.ifnull o, 3)) (hp : pc + 3 = pc') (g : Go p e below s Q rc rs (T.setTop (mkF m pc' Ls st))) : Go p e below s Q rc rs (T.setTop (mkF m pc Ls (.ref b :: st))) := by
  subst hp; exact g.by fun t k => XS.ifnullNo X.here hx rfl hd rfl k
theorem g_ifnonnull_yes (X : Stand p l e R s m args below meth c T locs cells slots) (hx : p.tables.exec = Jvm.exec) {b : Addr} {o : Int} (pc' : Nat) (hd : decode c.code pc = .ok (.ifnonnull o, 3)) (ho : 0 ≤ (pc : Int) + o) (hp : ((pc : Int) + o).toNat = pc') (g : Go p e below s Q rc rs (T.setTop (mkF m pc' Ls st))) : Go p e below s Q rc rs (T.setTop (mkF m pc Ls (.ref b :: st))) := by
  subst hp; exact g.by fun t k => XS.ifnonnullYes X.here hx rfl rfl hd rfl ho rfl k
theorem g_retI (X : Stand p l e R s m args below meth c T locs cells slots) (hx : p.tables.exec = Jvm.exec) (hret : meth.sig.returnType = some .int) (hlk : meth.locks = false) {z : Int32} (hd : decode c.code pc = .ok (.ireturn, 1)) (hc : cells ≤ rc) (hs : slots ≤ rs) (hQ : Q (some (.int z)) T.heap locs) : Go p e below s Q rc rs (T.setTop (mkF m pc Ls (.int z :: st))) := by
  obtain ⟨fs, hr, hrun, hended, hW, hsame⟩ := X.leave (v := some (.int z)) (fun q => by rw [hret] at q; cases q) hlk
  exact ⟨_, _, retI X hx hret hd hr, hrun, hended, _, _, rfl, hQ, ⟨_, rfl⟩, hW, hsame.mono hc hs⟩
theorem g_retN (X : Stand p l e R s m args below meth c T locs cells slots) (hx : p.tables.exec = Jvm.exec) {ty : FieldType} (hret : meth.sig.returnType = some ty) (ht : ty = .boolean ∨ ty = .byte ∨ ty = .char ∨ ty = .short) (hlk : meth.locks = false) {z : Int32} (hd : decode c.code pc = .ok (.ireturn, 1)) (hc : cells ≤ rc) (hs : slots ≤ rs) (hQ : Q (some (.int (nar ty z))) T.heap locs) : Go p e below s Q rc rs (T.setTop (mkF m pc Ls (.int z :: st))) := by
  obtain ⟨fs, hr, hrun, hended, hW, hsame⟩ := X.leave (v := some (.int (nar ty z))) (fun q => by rw [hret] at q; cases q) hlk
  exact ⟨_, _, retN X hx hret ht hd hr, hrun, hended, _, _, rfl, hQ, ⟨_, rfl⟩, hW, hsame.mono hc hs⟩
theorem g_retJ (X : Stand p l e R s m args below meth c T locs cells slots) (hx : p.tables.exec = Jvm.exec) (hret : meth.sig.returnType = some .long) (hlk : meth.locks = false) {z : Int64} (hd : decode c.code pc = .ok (.lreturn, 1)) (hc : cells ≤ rc) (hs : slots ≤ rs) (hQ : Q (some (.long z)) T.heap locs) : Go p e below s Q rc rs (T.setTop (mkF m pc Ls (.long z :: st))) := by
  obtain ⟨fs, hr, hrun, hended, hW, hsame⟩ := X.leave (v := some (.long z)) (fun q => by rw [hret] at q; cases q) hlk
  exact ⟨_, _, retOut X hx hret rfl (Or.inr (Or.inl ⟨rfl, rfl, z, rfl⟩)) hd hr, hrun, hended, _, _, rfl, hQ, ⟨_, rfl⟩, hW, hsame.mono hc hs⟩
theorem g_retA (X : Stand p l e R s m args below meth c T locs cells slots) (hx : p.tables.exec = Jvm.exec) {ty : FieldType} (hret : meth.sig.returnType = some ty) (ht : ty.isReference = true) (hlk : meth.locks = false) {b : Addr} (hd : decode c.code pc = .ok (.areturn, 1)) (hc : cells ≤ rc) (hs : slots ≤ rs) (hQ : Q (some (.ref b)) T.heap locs) : Go p e below s Q rc rs (T.setTop (mkF m pc Ls [.ref b])) := by
  obtain ⟨fs, hr, hrun, hended, hW, hsame⟩ := X.leave (v := some (.ref b)) (fun q => by rw [hret] at q; cases q) hlk
  exact ⟨_, _, X.areturnOut hx rfl hret ht hd hr, hrun, hended, _, _, rfl, hQ, ⟨_, rfl⟩, hW, hsame.mono hc hs⟩
theorem g_retV (X : Stand p l e R s m args below meth c T locs cells slots) (hx : p.tables.exec = Jvm.exec) (hret : meth.sig.returnType = none) (hlk : meth.locks = false) (hd : decode c.code pc = .ok (.return_, 1)) (hc : cells ≤ rc) (hs : slots ≤ rs) (hQ : Q none T.heap locs) : Go p e below s Q rc rs (T.setTop (mkF m pc Ls [])) := by
  obtain ⟨fs, hr, hrun, hended, hW, hsame⟩ := X.leave (v := none) (fun _ => rfl) hlk
  exact ⟨_, _, X.returnOut hx hret hd hr, hrun, hended, _, _, rfl, hQ, ⟨_, rfl⟩, hW, hsame.mono hc hs⟩
theorem g_body {y : MethodName} {bytes : ByteArray} {maxL : Nat} {ret : Option FieldType} {ws : List Jvm.Cond} {rm : Room} {as : Array Value} (hpn : plainFor y = true)
    (body : ∀ p e s m below meth c T, Stand p l e rm s m as below meth c T [] 0 0 → p.tables.exec = Jvm.exec → c.code = bytes → c.maxLocals = maxL → meth.sig.returnType = ret → meth.locks = false → s.vm.findClass y.cls = some m.cls → meth.name = y.name → Z.Warmed39 s.vm → T.heap = h → Go p e below s Q rc rs (T.setTop (entryFrame m as maxL))) :
    MetFree l y (head1 (Jvm.Cond.code y bytes maxL ret :: ws) rm) (fun a U => a = as ∧ Z.Warmed39 U.vm ∧ U.heap = h) (fun _ _ _ _ _ => True) (fun _ U o U' => ∃ v L, o = .returned v ∧ Q v U'.heap L ∧ FrameEnd U o U' L rc rs) := by
  refine MetFree.of_bodySF hpn hisR ?_
  intro p e s m args below meth c s₁ Bd hml hP hK
  obtain ⟨rfl, hZ, hh⟩ := hP
  exact body p e s m below meth c s₁ (Stand.of_body Bd) Bd.exec Bd.bytes hml Bd.returns Bd.notSynchronized (findClass_of_methodNamed Bd.named) (name_of_methodNamed Bd.named Bd.method).1 hZ (by rw [← hh, Bd.state]; rfl)
theorem g_callS (X : Stand p l e R s m args below meth c T locs cells slots) (hx : p.tables.exec = Jvm.exec) (hZ : Z.Warmed39 s.vm) {own : String} {i : Nat} {y : MethodName} {bytes : ByteArray} {maxL : Nat} {ret : Option FieldType} {rm : Room} {as : Array Value} {Q' : Option Value → Heap → List Loc → Prop} (hown : s.vm.findClass own = some m.cls) (w1 : (Jvm.Cond.methodLink own i y).before a0 Z = true) (w2 : (Jvm.Cond.static y).before a0 Z = true) (w3 : (Jvm.Cond.initialized y.cls).before a0 Z = true) (w4 : (Jvm.Cond.code y bytes maxL ret).before a0 Z = true) (hy : y.cls ≠ "java/lang/invoke/MethodHandle" ∧ y.cls ≠ "java/lang/invoke/VarHandle") (eT : T.heap = h) (hM : MetFree l y (head1 [Jvm.Cond.code y bytes maxL ret] rm) (fun a U => a = as ∧ Z.Warmed39 U.vm ∧ U.heap = h) (fun _ _ _ _ _ => True) (fun _ U o U' => ∃ v L, o = .returned v ∧ Q' v U'.heap L ∧ FrameEnd U o U' L rm.cells rm.slots)) (argsL rest : List Value) (W : Nat) (has : argsL.toArray = as) (hlen : ∀ sig, parseMethodDescriptor y.desc = some sig → argsL.length = sig.parameters.length) (hst : st = argsL.reverse ++ rest) (hW : (rest.map fun v => v.category).sum ≤ W) (hf : rm.frames + 1 ≤ R.frames) (hlo : W + (maxL + 11) + rm.locals ≤ R.locals) (hcl : cells + rm.cells ≤ R.cells) (hsl : slots + rm.slots ≤ R.slots) (hsz : Ls.size = c.maxLocals) (hd : decode c.code pc = .ok (.invokestatic i, 3)) (k : ∀ T' L v, Stand p l e R s m args below meth c T' (locs ++ L) (cells + rm.cells) (slots + rm.slots) → Q' v T'.heap L → Go p e below s Q rc rs (T'.setTop (mkF m (pc + 3) Ls (v.toList ++ rest)))) : Go p e below s Q rc rs (T.setTop (mkF m pc Ls st)) := by
  subst hst has
  obtain ⟨_, _, ⟨T', L', k', n'⟩, -, X', ⟨Lc, hQ, e1, e2, e3⟩, stp⟩ := Jvm.LawKit.callS X hx (y := y) hown (mvT hZ w1) (mvT hZ w2) (mvT hZ w3) (mvT hZ w4) hy (backOf (W := W) hM hZ w4 w3 hf hlo) (g := mkF m pc Ls (argsL.reverse ++ rest)) rfl hsz (argsL := argsL) (rest := rest) hlen rfl (by show 2 * 0 + _ ≤ _; omega) hd (fun _ _ => ⟨rfl, eT, hcl, hsl⟩)
  dsimp only [Pt.U, Pt.locs, Pt.cells, Pt.slots] at X' e1 e2 e3 stp hQ
  subst e1 e2 e3
  exact (k _ _ _ X' hQ).by stp
theorem g_callI (X : Stand p l e R s m args below meth c T locs cells slots) (hx : p.tables.exec = Jvm.exec) (hZ : Z.Warmed39 s.vm) {own : String} {i : Nat} {y : MethodName} {bytes : ByteArray} {maxL : Nat} {rm : Room} {as : Array Value} {Q' : Option Value → Heap → List Loc → Prop} (hy1 : y.name = "<init>") (hown : s.vm.findClass own = some m.cls) (w1 : (Jvm.Cond.methodLink own i y).before a0 Z = true) (w2 : (Jvm.Cond.instanceMethod y).before a0 Z = true) (w3 : (Jvm.Cond.initialized y.cls).before a0 Z = true) (w4 : (Jvm.Cond.code y bytes maxL none).before a0 Z = true) (hy : y.cls ≠ "java/lang/invoke/MethodHandle" ∧ y.cls ≠ "java/lang/invoke/VarHandle") (eT : T.heap = h) (hM : MetFree l y (head1 [Jvm.Cond.code y bytes maxL none] rm) (fun a U => a = as ∧ Z.Warmed39 U.vm ∧ U.heap = h) (fun _ _ _ _ _ => True) (fun _ U o U' => ∃ v L, o = .returned v ∧ Q' v U'.heap L ∧ FrameEnd U o U' L rm.cells rm.slots)) (b : Addr) (argsL rest : List Value) (W : Nat) (has : (.ref b :: argsL : List Value).toArray = as) (hlen : ∀ sig, parseMethodDescriptor y.desc = some sig → argsL.length = sig.parameters.length) (hst : st = argsL.reverse ++ .ref b :: rest) (hW : (rest.map fun v => v.category).sum ≤ W) (hf : rm.frames + 1 ≤ R.frames) (hlo : W + (maxL + 11) + rm.locals ≤ R.locals) (hcl : cells + rm.cells ≤ R.cells) (hsl : slots + rm.slots ≤ R.slots) (hsz : Ls.size = c.maxLocals) (hd : decode c.code pc = .ok (.invokespecial i, 3)) (k : ∀ T' L v, Stand p l e R s m args below meth c T' (locs ++ L) (cells + rm.cells) (slots + rm.slots) → Q' v T'.heap L → Go p e below s Q rc rs (T'.setTop (mkF m (pc + 3) Ls (v.toList ++ rest)))) : Go p e below s Q rc rs (T.setTop (mkF m pc Ls st)) := by
  subst hst has
  obtain ⟨_, _, ⟨T', L', k', n'⟩, -, X', ⟨Lc, hQ, e1, e2, e3⟩, stp⟩ := X.specialBack hx (y := y) hy1 hown (mvT hZ w1) (mvT hZ w2) (mvT hZ w4) hy (backOf (W := W) hM hZ w4 w3 hf hlo) (g := mkF m pc Ls (argsL.reverse ++ .ref b :: rest)) rfl hsz (Steps.refl _) (a := b) (argsL := argsL) (rest := rest) hlen rfl (by show 2 * 0 + _ ≤ _; omega) hd (fun _ _ => ⟨rfl, eT, hcl, hsl⟩)
  dsimp only [Pt.U, Pt.locs, Pt.cells, Pt.slots] at X' e1 e2 e3 stp hQ
  subst e1 e2 e3
  exact (k _ _ _ X' hQ).by fun t k => stp.trans k
theorem g_callV (X : Stand p l e R s m args below meth c T locs cells slots) (hx : p.tables.exec = Jvm.exec) (hZ : Z.Warmed39 s.vm) {own C : String} {i : Nat} {y : MethodName} {bytes : ByteArray} {maxL : Nat} {ret : Option FieldType} {rm : Room} {as : Array Value} {Q' : Option Value → Heap → List Loc → Prop} (hown : s.vm.findClass own = some m.cls) (w1 : (Jvm.Cond.methodLink own i y).before a0 Z = true) (w2 : (Jvm.Cond.declares y).before a0 Z = true) (w5 : (Jvm.Cond.selects C y y).before a0 Z = true) (w6 : (Jvm.Cond.instanceMethod y).before a0 Z = true) (w3 : (Jvm.Cond.initialized y.cls).before a0 Z = true) (w4 : (Jvm.Cond.code y bytes maxL ret).before a0 Z = true) (hy : y.cls ≠ "java/lang/invoke/MethodHandle" ∧ y.cls ≠ "java/lang/invoke/VarHandle") (eT : T.heap = h) (b : Addr) (E : Exa Z h b C) (hM : MetFree l y (head1 [Jvm.Cond.code y bytes maxL ret] rm) (fun a U => a = as ∧ Z.Warmed39 U.vm ∧ U.heap = h) (fun _ _ _ _ _ => True) (fun _ U o U' => ∃ v L, o = .returned v ∧ Q' v U'.heap L ∧ FrameEnd U o U' L rm.cells rm.slots)) (argsL rest : List Value) (W : Nat) (has : (.ref b :: argsL : List Value).toArray = as) (hlen : ∀ sig, parseMethodDescriptor y.desc = some sig → argsL.length = sig.parameters.length) (hst : st = argsL.reverse ++ .ref b :: rest) (hW : (rest.map fun v => v.category).sum ≤ W) (hf : rm.frames + 1 ≤ R.frames) (hlo : W + (maxL + 11) + rm.locals ≤ R.locals) (hcl : cells + rm.cells ≤ R.cells) (hsl : slots + rm.slots ≤ R.slots) (hsz : Ls.size = c.maxLocals) (hd : decode c.code pc = .ok (.invokevirtual i, 3)) (k : ∀ T' L v, Stand p l e R s m args below meth c T' (locs ++ L) (cells + rm.cells) (slots + rm.slots) → Q' v T'.heap L → Go p e below s Q rc rs (T'.setTop (mkF m (pc + 3) Ls (v.toList ++ rest)))) : Go p e below s Q rc rs (T.setTop (mkF m pc Ls st)) := by
  subst hst has
  obtain ⟨cq, kq, qa, qb, qc⟩ := isOf hZ eT E
  obtain ⟨_, _, ⟨T', L', k', n'⟩, -, X', ⟨Lc, hQ, e1, e2, e3⟩, stp⟩ := X.virtualBack hx (y := y) (z := y) hown (mvT hZ w1) (mvT hZ w2) (notFace_of_selects (args := #[]) (mvT hZ w5)) (mvT hZ w5) (mvT hZ w6) hy (backOf (W := W) hM hZ w4 w3 hf hlo) qa qc (g := mkF m pc Ls (argsL.reverse ++ .ref b :: rest)) rfl hsz (Steps.refl _) (argsL := argsL) (rest := rest) hlen rfl (by show 2 * 0 + _ ≤ _; omega) hd (fun _ _ => ⟨rfl, eT, hcl, hsl⟩)
  dsimp only [Pt.U, Pt.locs, Pt.cells, Pt.slots] at X' e1 e2 e3 stp hQ
  subst e1 e2 e3
  exact (k _ _ _ X' hQ).by fun t k => stp.trans k
theorem g_callP (X : Stand p l e R s m args below meth c T locs cells slots) (hx : p.tables.exec = Jvm.exec) (hZ : Z.Warmed39 s.vm) {own C : String} {i : Nat} {y : MethodName} {bytes : ByteArray} {maxL : Nat} {ret : Option FieldType} {rm : Room} {as : Array Value} {Q' : Option Value → Heap → List Loc → Prop} (hown : s.vm.findClass own = some m.cls) (w1 : (Jvm.Cond.methodLink own i y).before a0 Z = true) (w2 : (Jvm.Cond.instanceMethod y).before a0 Z = true) (w5 : (Jvm.Cond.selects y.cls y y).before a0 Z = true) (w6 : (Jvm.Cond.privateMethod y).before a0 Z = true) (w3 : (Jvm.Cond.initialized y.cls).before a0 Z = true) (w4 : (Jvm.Cond.code y bytes maxL ret).before a0 Z = true) (hy : y.cls ≠ "java/lang/invoke/MethodHandle" ∧ y.cls ≠ "java/lang/invoke/VarHandle") (eT : T.heap = h) (b : Addr) (E : Exa Z h b C) (hM : MetFree l y (head1 [Jvm.Cond.code y bytes maxL ret] rm) (fun a U => a = as ∧ Z.Warmed39 U.vm ∧ U.heap = h) (fun _ _ _ _ _ => True) (fun _ U o U' => ∃ v L, o = .returned v ∧ Q' v U'.heap L ∧ FrameEnd U o U' L rm.cells rm.slots)) (argsL rest : List Value) (W : Nat) (has : (.ref b :: argsL : List Value).toArray = as) (hlen : ∀ sig, parseMethodDescriptor y.desc = some sig → argsL.length = sig.parameters.length) (hst : st = argsL.reverse ++ .ref b :: rest) (hW : (rest.map fun v => v.category).sum ≤ W) (hf : rm.frames + 1 ≤ R.frames) (hlo : W + (maxL + 11) + rm.locals ≤ R.locals) (hcl : cells + rm.cells ≤ R.cells) (hsl : slots + rm.slots ≤ R.slots) (hsz : Ls.size = c.maxLocals) (hd : decode c.code pc = .ok (.invokevirtual i, 3)) (k : ∀ T' L v, Stand p l e R s m args below meth c T' (locs ++ L) (cells + rm.cells) (slots + rm.slots) → Q' v T'.heap L → Go p e below s Q rc rs (T'.setTop (mkF m (pc + 3) Ls (v.toList ++ rest)))) : Go p e below s Q rc rs (T.setTop (mkF m pc Ls st)) := by
  subst hst has
  obtain ⟨cq, q, q'⟩ := E.cell
  obtain ⟨_, _, ⟨T', L', k', n'⟩, -, X', ⟨Lc, hQ, e1, e2, e3⟩, stp⟩ := X.privateBack hx (y := y) hown (mvT hZ w1) (mvT hZ w2) (mvT hZ w5) (Cond.privateMethod_at (mvP hZ w6 (args := #[]))) (mvT hZ w4) hy (backOf (W := W) hM hZ w4 w3 hf hlo) (g := mkF m pc Ls (argsL.reverse ++ .ref b :: rest)) rfl hsz (Steps.refl _) (a := b) (by rw [eT]; exact q) q' (argsL := argsL) (rest := rest) hlen rfl (by show 2 * 0 + _ ≤ _; omega) hd (fun _ _ => ⟨rfl, eT, hcl, hsl⟩)
  dsimp only [Pt.U, Pt.locs, Pt.cells, Pt.slots] at X' e1 e2 e3 stp hQ
  subst e1 e2 e3
  exact (k _ _ _ X' hQ).by fun t k => stp.trans k
end OwnKit
theorem d1_0 : decode method_3_code 0 = .ok (.iload_n 0, 1) := by decide +kernel
theorem d1_1 : decode method_3_code 1 = .ok (.bipush 10, 2) := by decide +kernel
theorem d1_3 : decode method_3_code 3 = .ok (.if_icmp .ge 10, 3) := by decide +kernel
theorem d1_6 : decode method_3_code 6 = .ok (.bipush 48, 2) := by decide +kernel
theorem d1_8 : decode method_3_code 8 = .ok (.iload_n 0, 1) := by decide +kernel
theorem d1_9 : decode method_3_code 9 = .ok (.iadd, 1) := by decide +kernel
theorem d1_10 : decode method_3_code 10 = .ok (.goto 10, 3) := by decide +kernel
theorem d1_13 : decode method_3_code 13 = .ok (.bipush 97, 2) := by decide +kernel
theorem d1_15 : decode method_3_code 15 = .ok (.iload_n 0, 1) := by decide +kernel
theorem d1_16 : decode method_3_code 16 = .ok (.bipush 10, 2) := by decide +kernel
theorem d1_18 : decode method_3_code 18 = .ok (.isub, 1) := by decide +kernel
theorem d1_19 : decode method_3_code 19 = .ok (.iadd, 1) := by decide +kernel
theorem d1_20 : decode method_3_code 20 = .ok (.ireturn, 1) := by decide +kernel
theorem pn_1 : plainName "com/example/brisk_herald/briskherald/cli/JsonMembersHexDigitPinLaw" = true := by first | (simp [plainName, overriddenIn]; done) | decide +kernel
theorem ef_1 (m : MethodId) (x0 : Int32) : entryFrame m #[(.int x0)] 1 = mkF m 0 #[.val (.int x0)] [] := by first | (simp [entryFrame, mkF, argsToLocals, Value.category]; done) | rfl
def f1 (x0 : Int32) : Int32 := if x0 < (10 : Int32) then ((48 : Int32) + x0) else ((97 : Int32) + (x0 - (10 : Int32)))
def Q1 (x0 : Int32) (h0 : Heap) (v : Option Value) (h : Heap) (L : List Loc) : Prop := v = some (.int (f1 x0)) ∧ L = [] ∧ h = h0
set_option maxRecDepth 65536 in
set_option maxHeartbeats 40000000 in
theorem rm1 (l : Launch) (Z : State) (a0 : Array Value) (hw : ∀ d ∈ tables_1, d.before a0 Z = true) (ws : List Jvm.Cond) (x0 : Int32) (h0 : Heap) :
    MetFree l (⟨"com/example/brisk_herald/briskherald/cli/JsonMembersHexDigitPinLaw", "lowerChar", "(I)I"⟩ : MethodName) (head1 (Jvm.Cond.code (⟨"com/example/brisk_herald/briskherald/cli/JsonMembersHexDigitPinLaw", "lowerChar", "(I)I"⟩ : MethodName) method_3_code 1 (some .int) :: ws) ({ frames := 0, cells := 0, slots := 0, locals := 0 } : Room)) (fun a U => a = #[(.int x0)] ∧ Z.Warmed39 U.vm ∧ U.heap = h0) (fun _ _ _ _ _ => True) (fun _ U o U' => ∃ v L, o = .returned v ∧ Q1 x0 h0 v U'.heap L ∧ FrameEnd U o U' L ({ frames := 0, cells := 0, slots := 0, locals := 0 } : Room).cells ({ frames := 0, cells := 0, slots := 0, locals := 0 } : Room).slots) := by
  refine g_body (plainFor_of_name pn_1) ?_
  intro p e s m below meth c T0 X0 hx hby hml hret hlk hown hnm hZ e0
  rw [ef_1]
  show Go p e below s _ _ _ (T0.setTop (mkF m 0 #[.val (.int x0)] []))
  refine g_iloadN X0 hx 1 (hb hby d1_0) rfl rfl ?_
  show Go p e below s _ _ _ (T0.setTop (mkF m 1 #[.val (.int x0)] [(.int x0)]))
  refine g_bipush X0 hx (10 : Int32) 3 (hb hby d1_1) rfl rfl ?_
  show Go p e below s _ _ _ (T0.setTop (mkF m 3 #[.val (.int x0)] [(.int (10 : Int32)), (.int x0)]))
  refine g_icmp_ge X0 hx 13 6 (hb hby d1_3) (by decide) rfl rfl (fun h1 => ?_) (fun h1 => ?_)
  · show Go p e below s _ _ _ (T0.setTop (mkF m 6 #[.val (.int x0)] []))
    refine g_bipush X0 hx (48 : Int32) 8 (hb hby d1_6) rfl rfl ?_
    show Go p e below s _ _ _ (T0.setTop (mkF m 8 #[.val (.int x0)] [(.int (48 : Int32))]))
    refine g_iloadN X0 hx 9 (hb hby d1_8) rfl rfl ?_
    show Go p e below s _ _ _ (T0.setTop (mkF m 9 #[.val (.int x0)] [(.int x0), (.int (48 : Int32))]))
    refine g_iadd X0 hx 10 (hb hby d1_9) rfl ?_
    show Go p e below s _ _ _ (T0.setTop (mkF m 10 #[.val (.int x0)] [(.int ((48 : Int32) + x0))]))
    refine g_goto X0 hx 20 (hb hby d1_10) (by decide) rfl ?_
    show Go p e below s _ _ _ (T0.setTop (mkF m 20 #[.val (.int x0)] [(.int ((48 : Int32) + x0))]))
    exact g_retI X0 hx hret hlk (hb hby d1_20) (by decide) (by decide) ⟨congrArg (fun z => some (Value.int z)) (show ((48 : Int32) + x0) = (f1 x0) from by rw [f1, if_pos h1]), rfl, e0⟩
  · show Go p e below s _ _ _ (T0.setTop (mkF m 13 #[.val (.int x0)] []))
    refine g_bipush X0 hx (97 : Int32) 15 (hb hby d1_13) rfl rfl ?_
    show Go p e below s _ _ _ (T0.setTop (mkF m 15 #[.val (.int x0)] [(.int (97 : Int32))]))
    refine g_iloadN X0 hx 16 (hb hby d1_15) rfl rfl ?_
    show Go p e below s _ _ _ (T0.setTop (mkF m 16 #[.val (.int x0)] [(.int x0), (.int (97 : Int32))]))
    refine g_bipush X0 hx (10 : Int32) 18 (hb hby d1_16) rfl rfl ?_
    show Go p e below s _ _ _ (T0.setTop (mkF m 18 #[.val (.int x0)] [(.int (10 : Int32)), (.int x0), (.int (97 : Int32))]))
    refine g_isub X0 hx 19 (hb hby d1_18) rfl ?_
    show Go p e below s _ _ _ (T0.setTop (mkF m 19 #[.val (.int x0)] [(.int (x0 - (10 : Int32))), (.int (97 : Int32))]))
    refine g_iadd X0 hx 20 (hb hby d1_19) rfl ?_
    show Go p e below s _ _ _ (T0.setTop (mkF m 20 #[.val (.int x0)] [(.int ((97 : Int32) + (x0 - (10 : Int32))))]))
    exact g_retI X0 hx hret hlk (hb hby d1_20) (by decide) (by decide) ⟨congrArg (fun z => some (Value.int z)) (show ((97 : Int32) + (x0 - (10 : Int32))) = (f1 x0) from by rw [f1, if_neg h1]), rfl, e0⟩
theorem d2_0 : decode method_4_code 0 = .ok (.iload_n 0, 1) := by decide +kernel
theorem d2_1 : decode method_4_code 1 = .ok (.bipush 10, 2) := by decide +kernel
theorem d2_3 : decode method_4_code 3 = .ok (.if_icmp .ge 10, 3) := by decide +kernel
theorem d2_6 : decode method_4_code 6 = .ok (.bipush 48, 2) := by decide +kernel
theorem d2_8 : decode method_4_code 8 = .ok (.iload_n 0, 1) := by decide +kernel
theorem d2_9 : decode method_4_code 9 = .ok (.iadd, 1) := by decide +kernel
theorem d2_10 : decode method_4_code 10 = .ok (.goto 10, 3) := by decide +kernel
theorem d2_13 : decode method_4_code 13 = .ok (.bipush 65, 2) := by decide +kernel
theorem d2_15 : decode method_4_code 15 = .ok (.iload_n 0, 1) := by decide +kernel
theorem d2_16 : decode method_4_code 16 = .ok (.bipush 10, 2) := by decide +kernel
theorem d2_18 : decode method_4_code 18 = .ok (.isub, 1) := by decide +kernel
theorem d2_19 : decode method_4_code 19 = .ok (.iadd, 1) := by decide +kernel
theorem d2_20 : decode method_4_code 20 = .ok (.ireturn, 1) := by decide +kernel
theorem ef_2 (m : MethodId) (x0 : Int32) : entryFrame m #[(.int x0)] 1 = mkF m 0 #[.val (.int x0)] [] := by first | (simp [entryFrame, mkF, argsToLocals, Value.category]; done) | rfl
def f2 (x0 : Int32) : Int32 := if x0 < (10 : Int32) then ((48 : Int32) + x0) else ((65 : Int32) + (x0 - (10 : Int32)))
def Q2 (x0 : Int32) (h0 : Heap) (v : Option Value) (h : Heap) (L : List Loc) : Prop := v = some (.int (f2 x0)) ∧ L = [] ∧ h = h0
set_option maxRecDepth 65536 in
set_option maxHeartbeats 40000000 in
theorem rm2 (l : Launch) (Z : State) (a0 : Array Value) (hw : ∀ d ∈ tables_1, d.before a0 Z = true) (ws : List Jvm.Cond) (x0 : Int32) (h0 : Heap) :
    MetFree l (⟨"com/example/brisk_herald/briskherald/cli/JsonMembersHexDigitPinLaw", "upperChar", "(I)I"⟩ : MethodName) (head1 (Jvm.Cond.code (⟨"com/example/brisk_herald/briskherald/cli/JsonMembersHexDigitPinLaw", "upperChar", "(I)I"⟩ : MethodName) method_4_code 1 (some .int) :: ws) ({ frames := 0, cells := 0, slots := 0, locals := 0 } : Room)) (fun a U => a = #[(.int x0)] ∧ Z.Warmed39 U.vm ∧ U.heap = h0) (fun _ _ _ _ _ => True) (fun _ U o U' => ∃ v L, o = .returned v ∧ Q2 x0 h0 v U'.heap L ∧ FrameEnd U o U' L ({ frames := 0, cells := 0, slots := 0, locals := 0 } : Room).cells ({ frames := 0, cells := 0, slots := 0, locals := 0 } : Room).slots) := by
  refine g_body (plainFor_of_name pn_1) ?_
  intro p e s m below meth c T0 X0 hx hby hml hret hlk hown hnm hZ e0
  rw [ef_2]
  show Go p e below s _ _ _ (T0.setTop (mkF m 0 #[.val (.int x0)] []))
  refine g_iloadN X0 hx 1 (hb hby d2_0) rfl rfl ?_
  show Go p e below s _ _ _ (T0.setTop (mkF m 1 #[.val (.int x0)] [(.int x0)]))
  refine g_bipush X0 hx (10 : Int32) 3 (hb hby d2_1) rfl rfl ?_
  show Go p e below s _ _ _ (T0.setTop (mkF m 3 #[.val (.int x0)] [(.int (10 : Int32)), (.int x0)]))
  refine g_icmp_ge X0 hx 13 6 (hb hby d2_3) (by decide) rfl rfl (fun h1 => ?_) (fun h1 => ?_)
  · show Go p e below s _ _ _ (T0.setTop (mkF m 6 #[.val (.int x0)] []))
    refine g_bipush X0 hx (48 : Int32) 8 (hb hby d2_6) rfl rfl ?_
    show Go p e below s _ _ _ (T0.setTop (mkF m 8 #[.val (.int x0)] [(.int (48 : Int32))]))
    refine g_iloadN X0 hx 9 (hb hby d2_8) rfl rfl ?_
    show Go p e below s _ _ _ (T0.setTop (mkF m 9 #[.val (.int x0)] [(.int x0), (.int (48 : Int32))]))
    refine g_iadd X0 hx 10 (hb hby d2_9) rfl ?_
    show Go p e below s _ _ _ (T0.setTop (mkF m 10 #[.val (.int x0)] [(.int ((48 : Int32) + x0))]))
    refine g_goto X0 hx 20 (hb hby d2_10) (by decide) rfl ?_
    show Go p e below s _ _ _ (T0.setTop (mkF m 20 #[.val (.int x0)] [(.int ((48 : Int32) + x0))]))
    exact g_retI X0 hx hret hlk (hb hby d2_20) (by decide) (by decide) ⟨congrArg (fun z => some (Value.int z)) (show ((48 : Int32) + x0) = (f2 x0) from by rw [f2, if_pos h1]), rfl, e0⟩
  · show Go p e below s _ _ _ (T0.setTop (mkF m 13 #[.val (.int x0)] []))
    refine g_bipush X0 hx (65 : Int32) 15 (hb hby d2_13) rfl rfl ?_
    show Go p e below s _ _ _ (T0.setTop (mkF m 15 #[.val (.int x0)] [(.int (65 : Int32))]))
    refine g_iloadN X0 hx 16 (hb hby d2_15) rfl rfl ?_
    show Go p e below s _ _ _ (T0.setTop (mkF m 16 #[.val (.int x0)] [(.int x0), (.int (65 : Int32))]))
    refine g_bipush X0 hx (10 : Int32) 18 (hb hby d2_16) rfl rfl ?_
    show Go p e below s _ _ _ (T0.setTop (mkF m 18 #[.val (.int x0)] [(.int (10 : Int32)), (.int x0), (.int (65 : Int32))]))
    refine g_isub X0 hx 19 (hb hby d2_18) rfl ?_
    show Go p e below s _ _ _ (T0.setTop (mkF m 19 #[.val (.int x0)] [(.int (x0 - (10 : Int32))), (.int (65 : Int32))]))
    refine g_iadd X0 hx 20 (hb hby d2_19) rfl ?_
    show Go p e below s _ _ _ (T0.setTop (mkF m 20 #[.val (.int x0)] [(.int ((65 : Int32) + (x0 - (10 : Int32))))]))
    exact g_retI X0 hx hret hlk (hb hby d2_20) (by decide) (by decide) ⟨congrArg (fun z => some (Value.int z)) (show ((65 : Int32) + (x0 - (10 : Int32))) = (f2 x0) from by rw [f2, if_neg h1]), rfl, e0⟩
theorem d3_0 : decode prog_58_method_23_code 0 = .ok (.iload_n 0, 1) := by decide +kernel
theorem d3_1 : decode prog_58_method_23_code 1 = .ok (.bipush 48, 2) := by decide +kernel
theorem d3_3 : decode prog_58_method_23_code 3 = .ok (.if_icmp .lt 17, 3) := by decide +kernel
theorem d3_6 : decode prog_58_method_23_code 6 = .ok (.iload_n 0, 1) := by decide +kernel
theorem d3_7 : decode prog_58_method_23_code 7 = .ok (.bipush 57, 2) := by decide +kernel
theorem d3_9 : decode prog_58_method_23_code 9 = .ok (.if_icmp .gt 11, 3) := by decide +kernel
theorem d3_12 : decode prog_58_method_23_code 12 = .ok (.iload_n 0, 1) := by decide +kernel
theorem d3_13 : decode prog_58_method_23_code 13 = .ok (.bipush 48, 2) := by decide +kernel
theorem d3_15 : decode prog_58_method_23_code 15 = .ok (.isub, 1) := by decide +kernel
theorem d3_16 : decode prog_58_method_23_code 16 = .ok (.istore_n 1, 1) := by decide +kernel
theorem d3_17 : decode prog_58_method_23_code 17 = .ok (.goto 51, 3) := by decide +kernel
theorem d3_20 : decode prog_58_method_23_code 20 = .ok (.iload_n 0, 1) := by decide +kernel
theorem d3_21 : decode prog_58_method_23_code 21 = .ok (.bipush 97, 2) := by decide +kernel
theorem d3_23 : decode prog_58_method_23_code 23 = .ok (.if_icmp .lt 20, 3) := by decide +kernel
theorem d3_26 : decode prog_58_method_23_code 26 = .ok (.iload_n 0, 1) := by decide +kernel
theorem d3_27 : decode prog_58_method_23_code 27 = .ok (.bipush 102, 2) := by decide +kernel
theorem d3_29 : decode prog_58_method_23_code 29 = .ok (.if_icmp .gt 14, 3) := by decide +kernel
theorem d3_32 : decode prog_58_method_23_code 32 = .ok (.iload_n 0, 1) := by decide +kernel
theorem d3_33 : decode prog_58_method_23_code 33 = .ok (.bipush 97, 2) := by decide +kernel
theorem d3_35 : decode prog_58_method_23_code 35 = .ok (.isub, 1) := by decide +kernel
theorem d3_36 : decode prog_58_method_23_code 36 = .ok (.bipush 10, 2) := by decide +kernel
theorem d3_38 : decode prog_58_method_23_code 38 = .ok (.iadd, 1) := by decide +kernel
theorem d3_39 : decode prog_58_method_23_code 39 = .ok (.istore_n 1, 1) := by decide +kernel
theorem d3_40 : decode prog_58_method_23_code 40 = .ok (.goto 28, 3) := by decide +kernel
theorem d3_43 : decode prog_58_method_23_code 43 = .ok (.iload_n 0, 1) := by decide +kernel
theorem d3_44 : decode prog_58_method_23_code 44 = .ok (.bipush 65, 2) := by decide +kernel
theorem d3_46 : decode prog_58_method_23_code 46 = .ok (.if_icmp .lt 20, 3) := by decide +kernel
theorem d3_49 : decode prog_58_method_23_code 49 = .ok (.iload_n 0, 1) := by decide +kernel
theorem d3_50 : decode prog_58_method_23_code 50 = .ok (.bipush 70, 2) := by decide +kernel
theorem d3_52 : decode prog_58_method_23_code 52 = .ok (.if_icmp .gt 14, 3) := by decide +kernel
theorem d3_55 : decode prog_58_method_23_code 55 = .ok (.iload_n 0, 1) := by decide +kernel
theorem d3_56 : decode prog_58_method_23_code 56 = .ok (.bipush 65, 2) := by decide +kernel
theorem d3_58 : decode prog_58_method_23_code 58 = .ok (.isub, 1) := by decide +kernel
theorem d3_59 : decode prog_58_method_23_code 59 = .ok (.bipush 10, 2) := by decide +kernel
theorem d3_61 : decode prog_58_method_23_code 61 = .ok (.iadd, 1) := by decide +kernel
theorem d3_62 : decode prog_58_method_23_code 62 = .ok (.istore_n 1, 1) := by decide +kernel
theorem d3_63 : decode prog_58_method_23_code 63 = .ok (.goto 5, 3) := by decide +kernel
theorem d3_66 : decode prog_58_method_23_code 66 = .ok (.iconst (-1), 1) := by decide +kernel
theorem d3_67 : decode prog_58_method_23_code 67 = .ok (.istore_n 1, 1) := by decide +kernel
theorem d3_68 : decode prog_58_method_23_code 68 = .ok (.iload_n 1, 1) := by decide +kernel
theorem d3_69 : decode prog_58_method_23_code 69 = .ok (.ireturn, 1) := by decide +kernel
theorem pn_3 : plainName "com/example/brisk_herald/briskherald/cli/JsonMembers" = true := by first | (simp [plainName, overriddenIn]; done) | decide +kernel
theorem ef_3 (m : MethodId) (x0 : Int32) : entryFrame m #[(.int x0)] 2 = mkF m 0 #[.val (.int x0), .unset] [] := by first | (simp [entryFrame, mkF, argsToLocals, Value.category]; done) | rfl
def f3 (x0 : Int32) : Int32 := if x0 < (48 : Int32) then (if x0 < (97 : Int32) then (if x0 < (65 : Int32) then (-1 : Int32) else if (70 : Int32) < x0 then (-1 : Int32) else ((x0 - (65 : Int32)) + (10 : Int32))) else if (102 : Int32) < x0 then (if x0 < (65 : Int32) then (-1 : Int32) else if (70 : Int32) < x0 then (-1 : Int32) else ((x0 - (65 : Int32)) + (10 : Int32))) else ((x0 - (97 : Int32)) + (10 : Int32))) else if (57 : Int32) < x0 then (if x0 < (97 : Int32) then (if x0 < (65 : Int32) then (-1 : Int32) else if (70 : Int32) < x0 then (-1 : Int32) else ((x0 - (65 : Int32)) + (10 : Int32))) else if (102 : Int32) < x0 then (if x0 < (65 : Int32) then (-1 : Int32) else if (70 : Int32) < x0 then (-1 : Int32) else ((x0 - (65 : Int32)) + (10 : Int32))) else ((x0 - (97 : Int32)) + (10 : Int32))) else (x0 - (48 : Int32))
def Q3 (x0 : Int32) (h0 : Heap) (v : Option Value) (h : Heap) (L : List Loc) : Prop := v = some (.int (f3 x0)) ∧ L = [] ∧ h = h0
set_option maxRecDepth 65536 in
set_option maxHeartbeats 40000000 in
theorem rm3 (l : Launch) (Z : State) (a0 : Array Value) (hw : ∀ d ∈ tables_1, d.before a0 Z = true) (ws : List Jvm.Cond) (x0 : Int32) (h0 : Heap) :
    MetFree l (⟨"com/example/brisk_herald/briskherald/cli/JsonMembers", "hexDigit", "(I)I"⟩ : MethodName) (head1 (Jvm.Cond.code (⟨"com/example/brisk_herald/briskherald/cli/JsonMembers", "hexDigit", "(I)I"⟩ : MethodName) prog_58_method_23_code 2 (some .int) :: ws) ({ frames := 0, cells := 0, slots := 0, locals := 0 } : Room)) (fun a U => a = #[(.int x0)] ∧ Z.Warmed39 U.vm ∧ U.heap = h0) (fun _ _ _ _ _ => True) (fun _ U o U' => ∃ v L, o = .returned v ∧ Q3 x0 h0 v U'.heap L ∧ FrameEnd U o U' L ({ frames := 0, cells := 0, slots := 0, locals := 0 } : Room).cells ({ frames := 0, cells := 0, slots := 0, locals := 0 } : Room).slots) := by
  refine g_body (plainFor_of_name pn_3) ?_
  intro p e s m below meth c T0 X0 hx hby hml hret hlk hown hnm hZ e0
  rw [ef_3]
  show Go p e below s _ _ _ (T0.setTop (mkF m 0 #[.val (.int x0), .unset] []))
  refine g_iloadN X0 hx 1 (hb hby d3_0) rfl rfl ?_
  show Go p e below s _ _ _ (T0.setTop (mkF m 1 #[.val (.int x0), .unset] [(.int x0)]))
  refine g_bipush X0 hx (48 : Int32) 3 (hb hby d3_1) rfl rfl ?_
  show Go p e below s _ _ _ (T0.setTop (mkF m 3 #[.val (.int x0), .unset] [(.int (48 : Int32)), (.int x0)]))
  refine g_icmp_lt X0 hx 20 6 (hb hby d3_3) (by decide) rfl rfl (fun h1 => ?_) (fun h1 => ?_)
  · show Go p e below s _ _ _ (T0.setTop (mkF m 20 #[.val (.int x0), .unset] []))
    refine g_iloadN X0 hx 21 (hb hby d3_20) rfl rfl ?_
    show Go p e below s _ _ _ (T0.setTop (mkF m 21 #[.val (.int x0), .unset] [(.int x0)]))
    refine g_bipush X0 hx (97 : Int32) 23 (hb hby d3_21) rfl rfl ?_
    show Go p e below s _ _ _ (T0.setTop (mkF m 23 #[.val (.int x0), .unset] [(.int (97 : Int32)), (.int x0)]))
    refine g_icmp_lt X0 hx 43 26 (hb hby d3_23) (by decide) rfl rfl (fun h2 => ?_) (fun h2 => ?_)
    · show Go p e below s _ _ _ (T0.setTop (mkF m 43 #[.val (.int x0), .unset] []))
      refine g_iloadN X0 hx 44 (hb hby d3_43) rfl rfl ?_
      show Go p e below s _ _ _ (T0.setTop (mkF m 44 #[.val (.int x0), .unset] [(.int x0)]))
      refine g_bipush X0 hx (65 : Int32) 46 (hb hby d3_44) rfl rfl ?_
      show Go p e below s _ _ _ (T0.setTop (mkF m 46 #[.val (.int x0), .unset] [(.int (65 : Int32)), (.int x0)]))
      refine g_icmp_lt X0 hx 66 49 (hb hby d3_46) (by decide) rfl rfl (fun h3 => ?_) (fun h3 => ?_)
      · show Go p e below s _ _ _ (T0.setTop (mkF m 66 #[.val (.int x0), .unset] []))
        refine g_iconst X0 hx (-1 : Int32) 67 (hb hby d3_66) rfl rfl ?_
        show Go p e below s _ _ _ (T0.setTop (mkF m 67 #[.val (.int x0), .unset] [(.int (-1 : Int32))]))
        refine g_istoreN X0 hx #[.val (.int x0), .val (.int (-1 : Int32))] 68 (hb hby d3_67) rfl rfl ?_
        show Go p e below s _ _ _ (T0.setTop (mkF m 68 #[.val (.int x0), .val (.int (-1 : Int32))] []))
        refine g_iloadN X0 hx 69 (hb hby d3_68) rfl rfl ?_
        show Go p e below s _ _ _ (T0.setTop (mkF m 69 #[.val (.int x0), .val (.int (-1 : Int32))] [(.int (-1 : Int32))]))
        exact g_retI X0 hx hret hlk (hb hby d3_69) (by decide) (by decide) ⟨congrArg (fun z => some (Value.int z)) (show (-1 : Int32) = (f3 x0) from by rw [f3, if_pos h1, if_pos h2, if_pos h3]), rfl, e0⟩
      · show Go p e below s _ _ _ (T0.setTop (mkF m 49 #[.val (.int x0), .unset] []))
        refine g_iloadN X0 hx 50 (hb hby d3_49) rfl rfl ?_
        show Go p e below s _ _ _ (T0.setTop (mkF m 50 #[.val (.int x0), .unset] [(.int x0)]))
        refine g_bipush X0 hx (70 : Int32) 52 (hb hby d3_50) rfl rfl ?_
        show Go p e below s _ _ _ (T0.setTop (mkF m 52 #[.val (.int x0), .unset] [(.int (70 : Int32)), (.int x0)]))
        refine g_icmp_gt X0 hx 66 55 (hb hby d3_52) (by decide) rfl rfl (fun h4 => ?_) (fun h4 => ?_)
        · show Go p e below s _ _ _ (T0.setTop (mkF m 66 #[.val (.int x0), .unset] []))
          refine g_iconst X0 hx (-1 : Int32) 67 (hb hby d3_66) rfl rfl ?_
          show Go p e below s _ _ _ (T0.setTop (mkF m 67 #[.val (.int x0), .unset] [(.int (-1 : Int32))]))
          refine g_istoreN X0 hx #[.val (.int x0), .val (.int (-1 : Int32))] 68 (hb hby d3_67) rfl rfl ?_
          show Go p e below s _ _ _ (T0.setTop (mkF m 68 #[.val (.int x0), .val (.int (-1 : Int32))] []))
          refine g_iloadN X0 hx 69 (hb hby d3_68) rfl rfl ?_
          show Go p e below s _ _ _ (T0.setTop (mkF m 69 #[.val (.int x0), .val (.int (-1 : Int32))] [(.int (-1 : Int32))]))
          exact g_retI X0 hx hret hlk (hb hby d3_69) (by decide) (by decide) ⟨congrArg (fun z => some (Value.int z)) (show (-1 : Int32) = (f3 x0) from by rw [f3, if_pos h1, if_pos h2, if_neg h3, if_pos h4]), rfl, e0⟩
        · show Go p e below s _ _ _ (T0.setTop (mkF m 55 #[.val (.int x0), .unset] []))
          refine g_iloadN X0 hx 56 (hb hby d3_55) rfl rfl ?_
          show Go p e below s _ _ _ (T0.setTop (mkF m 56 #[.val (.int x0), .unset] [(.int x0)]))
          refine g_bipush X0 hx (65 : Int32) 58 (hb hby d3_56) rfl rfl ?_
          show Go p e below s _ _ _ (T0.setTop (mkF m 58 #[.val (.int x0), .unset] [(.int (65 : Int32)), (.int x0)]))
          refine g_isub X0 hx 59 (hb hby d3_58) rfl ?_
          show Go p e below s _ _ _ (T0.setTop (mkF m 59 #[.val (.int x0), .unset] [(.int (x0 - (65 : Int32)))]))
          refine g_bipush X0 hx (10 : Int32) 61 (hb hby d3_59) rfl rfl ?_
          show Go p e below s _ _ _ (T0.setTop (mkF m 61 #[.val (.int x0), .unset] [(.int (10 : Int32)), (.int (x0 - (65 : Int32)))]))
          refine g_iadd X0 hx 62 (hb hby d3_61) rfl ?_
          show Go p e below s _ _ _ (T0.setTop (mkF m 62 #[.val (.int x0), .unset] [(.int ((x0 - (65 : Int32)) + (10 : Int32)))]))
          refine g_istoreN X0 hx #[.val (.int x0), .val (.int ((x0 - (65 : Int32)) + (10 : Int32)))] 63 (hb hby d3_62) rfl rfl ?_
          show Go p e below s _ _ _ (T0.setTop (mkF m 63 #[.val (.int x0), .val (.int ((x0 - (65 : Int32)) + (10 : Int32)))] []))
          refine g_goto X0 hx 68 (hb hby d3_63) (by decide) rfl ?_
          show Go p e below s _ _ _ (T0.setTop (mkF m 68 #[.val (.int x0), .val (.int ((x0 - (65 : Int32)) + (10 : Int32)))] []))
          refine g_iloadN X0 hx 69 (hb hby d3_68) rfl rfl ?_
          show Go p e below s _ _ _ (T0.setTop (mkF m 69 #[.val (.int x0), .val (.int ((x0 - (65 : Int32)) + (10 : Int32)))] [(.int ((x0 - (65 : Int32)) + (10 : Int32)))]))
          exact g_retI X0 hx hret hlk (hb hby d3_69) (by decide) (by decide) ⟨congrArg (fun z => some (Value.int z)) (show ((x0 - (65 : Int32)) + (10 : Int32)) = (f3 x0) from by rw [f3, if_pos h1, if_pos h2, if_neg h3, if_neg h4]), rfl, e0⟩
    · show Go p e below s _ _ _ (T0.setTop (mkF m 26 #[.val (.int x0), .unset] []))
      refine g_iloadN X0 hx 27 (hb hby d3_26) rfl rfl ?_
      show Go p e below s _ _ _ (T0.setTop (mkF m 27 #[.val (.int x0), .unset] [(.int x0)]))
      refine g_bipush X0 hx (102 : Int32) 29 (hb hby d3_27) rfl rfl ?_
      show Go p e below s _ _ _ (T0.setTop (mkF m 29 #[.val (.int x0), .unset] [(.int (102 : Int32)), (.int x0)]))
      refine g_icmp_gt X0 hx 43 32 (hb hby d3_29) (by decide) rfl rfl (fun h5 => ?_) (fun h5 => ?_)
      · show Go p e below s _ _ _ (T0.setTop (mkF m 43 #[.val (.int x0), .unset] []))
        refine g_iloadN X0 hx 44 (hb hby d3_43) rfl rfl ?_
        show Go p e below s _ _ _ (T0.setTop (mkF m 44 #[.val (.int x0), .unset] [(.int x0)]))
        refine g_bipush X0 hx (65 : Int32) 46 (hb hby d3_44) rfl rfl ?_
        show Go p e below s _ _ _ (T0.setTop (mkF m 46 #[.val (.int x0), .unset] [(.int (65 : Int32)), (.int x0)]))
        refine g_icmp_lt X0 hx 66 49 (hb hby d3_46) (by decide) rfl rfl (fun h6 => ?_) (fun h6 => ?_)
        · show Go p e below s _ _ _ (T0.setTop (mkF m 66 #[.val (.int x0), .unset] []))
          refine g_iconst X0 hx (-1 : Int32) 67 (hb hby d3_66) rfl rfl ?_
          show Go p e below s _ _ _ (T0.setTop (mkF m 67 #[.val (.int x0), .unset] [(.int (-1 : Int32))]))
          refine g_istoreN X0 hx #[.val (.int x0), .val (.int (-1 : Int32))] 68 (hb hby d3_67) rfl rfl ?_
          show Go p e below s _ _ _ (T0.setTop (mkF m 68 #[.val (.int x0), .val (.int (-1 : Int32))] []))
          refine g_iloadN X0 hx 69 (hb hby d3_68) rfl rfl ?_
          show Go p e below s _ _ _ (T0.setTop (mkF m 69 #[.val (.int x0), .val (.int (-1 : Int32))] [(.int (-1 : Int32))]))
          exact g_retI X0 hx hret hlk (hb hby d3_69) (by decide) (by decide) ⟨congrArg (fun z => some (Value.int z)) (show (-1 : Int32) = (f3 x0) from by rw [f3, if_pos h1, if_neg h2, if_pos h5, if_pos h6]), rfl, e0⟩
        · show Go p e below s _ _ _ (T0.setTop (mkF m 49 #[.val (.int x0), .unset] []))
          refine g_iloadN X0 hx 50 (hb hby d3_49) rfl rfl ?_
          show Go p e below s _ _ _ (T0.setTop (mkF m 50 #[.val (.int x0), .unset] [(.int x0)]))
          refine g_bipush X0 hx (70 : Int32) 52 (hb hby d3_50) rfl rfl ?_
          show Go p e below s _ _ _ (T0.setTop (mkF m 52 #[.val (.int x0), .unset] [(.int (70 : Int32)), (.int x0)]))
          refine g_icmp_gt X0 hx 66 55 (hb hby d3_52) (by decide) rfl rfl (fun h7 => ?_) (fun h7 => ?_)
          · show Go p e below s _ _ _ (T0.setTop (mkF m 66 #[.val (.int x0), .unset] []))
            refine g_iconst X0 hx (-1 : Int32) 67 (hb hby d3_66) rfl rfl ?_
            show Go p e below s _ _ _ (T0.setTop (mkF m 67 #[.val (.int x0), .unset] [(.int (-1 : Int32))]))
            refine g_istoreN X0 hx #[.val (.int x0), .val (.int (-1 : Int32))] 68 (hb hby d3_67) rfl rfl ?_
            show Go p e below s _ _ _ (T0.setTop (mkF m 68 #[.val (.int x0), .val (.int (-1 : Int32))] []))
            refine g_iloadN X0 hx 69 (hb hby d3_68) rfl rfl ?_
            show Go p e below s _ _ _ (T0.setTop (mkF m 69 #[.val (.int x0), .val (.int (-1 : Int32))] [(.int (-1 : Int32))]))
            exact g_retI X0 hx hret hlk (hb hby d3_69) (by decide) (by decide) ⟨congrArg (fun z => some (Value.int z)) (show (-1 : Int32) = (f3 x0) from by rw [f3, if_pos h1, if_neg h2, if_pos h5, if_neg h6, if_pos h7]), rfl, e0⟩
          · show Go p e below s _ _ _ (T0.setTop (mkF m 55 #[.val (.int x0), .unset] []))
            refine g_iloadN X0 hx 56 (hb hby d3_55) rfl rfl ?_
            show Go p e below s _ _ _ (T0.setTop (mkF m 56 #[.val (.int x0), .unset] [(.int x0)]))
            refine g_bipush X0 hx (65 : Int32) 58 (hb hby d3_56) rfl rfl ?_
            show Go p e below s _ _ _ (T0.setTop (mkF m 58 #[.val (.int x0), .unset] [(.int (65 : Int32)), (.int x0)]))
            refine g_isub X0 hx 59 (hb hby d3_58) rfl ?_
            show Go p e below s _ _ _ (T0.setTop (mkF m 59 #[.val (.int x0), .unset] [(.int (x0 - (65 : Int32)))]))
            refine g_bipush X0 hx (10 : Int32) 61 (hb hby d3_59) rfl rfl ?_
            show Go p e below s _ _ _ (T0.setTop (mkF m 61 #[.val (.int x0), .unset] [(.int (10 : Int32)), (.int (x0 - (65 : Int32)))]))
            refine g_iadd X0 hx 62 (hb hby d3_61) rfl ?_
            show Go p e below s _ _ _ (T0.setTop (mkF m 62 #[.val (.int x0), .unset] [(.int ((x0 - (65 : Int32)) + (10 : Int32)))]))
            refine g_istoreN X0 hx #[.val (.int x0), .val (.int ((x0 - (65 : Int32)) + (10 : Int32)))] 63 (hb hby d3_62) rfl rfl ?_
            show Go p e below s _ _ _ (T0.setTop (mkF m 63 #[.val (.int x0), .val (.int ((x0 - (65 : Int32)) + (10 : Int32)))] []))
            refine g_goto X0 hx 68 (hb hby d3_63) (by decide) rfl ?_
            show Go p e below s _ _ _ (T0.setTop (mkF m 68 #[.val (.int x0), .val (.int ((x0 - (65 : Int32)) + (10 : Int32)))] []))
            refine g_iloadN X0 hx 69 (hb hby d3_68) rfl rfl ?_
            show Go p e below s _ _ _ (T0.setTop (mkF m 69 #[.val (.int x0), .val (.int ((x0 - (65 : Int32)) + (10 : Int32)))] [(.int ((x0 - (65 : Int32)) + (10 : Int32)))]))
            exact g_retI X0 hx hret hlk (hb hby d3_69) (by decide) (by decide) ⟨congrArg (fun z => some (Value.int z)) (show ((x0 - (65 : Int32)) + (10 : Int32)) = (f3 x0) from by rw [f3, if_pos h1, if_neg h2, if_pos h5, if_neg h6, if_neg h7]), rfl, e0⟩
      · show Go p e below s _ _ _ (T0.setTop (mkF m 32 #[.val (.int x0), .unset] []))
        refine g_iloadN X0 hx 33 (hb hby d3_32) rfl rfl ?_
        show Go p e below s _ _ _ (T0.setTop (mkF m 33 #[.val (.int x0), .unset] [(.int x0)]))
        refine g_bipush X0 hx (97 : Int32) 35 (hb hby d3_33) rfl rfl ?_
        show Go p e below s _ _ _ (T0.setTop (mkF m 35 #[.val (.int x0), .unset] [(.int (97 : Int32)), (.int x0)]))
        refine g_isub X0 hx 36 (hb hby d3_35) rfl ?_
        show Go p e below s _ _ _ (T0.setTop (mkF m 36 #[.val (.int x0), .unset] [(.int (x0 - (97 : Int32)))]))
        refine g_bipush X0 hx (10 : Int32) 38 (hb hby d3_36) rfl rfl ?_
        show Go p e below s _ _ _ (T0.setTop (mkF m 38 #[.val (.int x0), .unset] [(.int (10 : Int32)), (.int (x0 - (97 : Int32)))]))
        refine g_iadd X0 hx 39 (hb hby d3_38) rfl ?_
        show Go p e below s _ _ _ (T0.setTop (mkF m 39 #[.val (.int x0), .unset] [(.int ((x0 - (97 : Int32)) + (10 : Int32)))]))
        refine g_istoreN X0 hx #[.val (.int x0), .val (.int ((x0 - (97 : Int32)) + (10 : Int32)))] 40 (hb hby d3_39) rfl rfl ?_
        show Go p e below s _ _ _ (T0.setTop (mkF m 40 #[.val (.int x0), .val (.int ((x0 - (97 : Int32)) + (10 : Int32)))] []))
        refine g_goto X0 hx 68 (hb hby d3_40) (by decide) rfl ?_
        show Go p e below s _ _ _ (T0.setTop (mkF m 68 #[.val (.int x0), .val (.int ((x0 - (97 : Int32)) + (10 : Int32)))] []))
        refine g_iloadN X0 hx 69 (hb hby d3_68) rfl rfl ?_
        show Go p e below s _ _ _ (T0.setTop (mkF m 69 #[.val (.int x0), .val (.int ((x0 - (97 : Int32)) + (10 : Int32)))] [(.int ((x0 - (97 : Int32)) + (10 : Int32)))]))
        exact g_retI X0 hx hret hlk (hb hby d3_69) (by decide) (by decide) ⟨congrArg (fun z => some (Value.int z)) (show ((x0 - (97 : Int32)) + (10 : Int32)) = (f3 x0) from by rw [f3, if_pos h1, if_neg h2, if_neg h5]), rfl, e0⟩
  · show Go p e below s _ _ _ (T0.setTop (mkF m 6 #[.val (.int x0), .unset] []))
    refine g_iloadN X0 hx 7 (hb hby d3_6) rfl rfl ?_
    show Go p e below s _ _ _ (T0.setTop (mkF m 7 #[.val (.int x0), .unset] [(.int x0)]))
    refine g_bipush X0 hx (57 : Int32) 9 (hb hby d3_7) rfl rfl ?_
    show Go p e below s _ _ _ (T0.setTop (mkF m 9 #[.val (.int x0), .unset] [(.int (57 : Int32)), (.int x0)]))
    refine g_icmp_gt X0 hx 20 12 (hb hby d3_9) (by decide) rfl rfl (fun h8 => ?_) (fun h8 => ?_)
    · show Go p e below s _ _ _ (T0.setTop (mkF m 20 #[.val (.int x0), .unset] []))
      refine g_iloadN X0 hx 21 (hb hby d3_20) rfl rfl ?_
      show Go p e below s _ _ _ (T0.setTop (mkF m 21 #[.val (.int x0), .unset] [(.int x0)]))
      refine g_bipush X0 hx (97 : Int32) 23 (hb hby d3_21) rfl rfl ?_
      show Go p e below s _ _ _ (T0.setTop (mkF m 23 #[.val (.int x0), .unset] [(.int (97 : Int32)), (.int x0)]))
      refine g_icmp_lt X0 hx 43 26 (hb hby d3_23) (by decide) rfl rfl (fun h9 => ?_) (fun h9 => ?_)
      · show Go p e below s _ _ _ (T0.setTop (mkF m 43 #[.val (.int x0), .unset] []))
        refine g_iloadN X0 hx 44 (hb hby d3_43) rfl rfl ?_
        show Go p e below s _ _ _ (T0.setTop (mkF m 44 #[.val (.int x0), .unset] [(.int x0)]))
        refine g_bipush X0 hx (65 : Int32) 46 (hb hby d3_44) rfl rfl ?_
        show Go p e below s _ _ _ (T0.setTop (mkF m 46 #[.val (.int x0), .unset] [(.int (65 : Int32)), (.int x0)]))
        refine g_icmp_lt X0 hx 66 49 (hb hby d3_46) (by decide) rfl rfl (fun h10 => ?_) (fun h10 => ?_)
        · show Go p e below s _ _ _ (T0.setTop (mkF m 66 #[.val (.int x0), .unset] []))
          refine g_iconst X0 hx (-1 : Int32) 67 (hb hby d3_66) rfl rfl ?_
          show Go p e below s _ _ _ (T0.setTop (mkF m 67 #[.val (.int x0), .unset] [(.int (-1 : Int32))]))
          refine g_istoreN X0 hx #[.val (.int x0), .val (.int (-1 : Int32))] 68 (hb hby d3_67) rfl rfl ?_
          show Go p e below s _ _ _ (T0.setTop (mkF m 68 #[.val (.int x0), .val (.int (-1 : Int32))] []))
          refine g_iloadN X0 hx 69 (hb hby d3_68) rfl rfl ?_
          show Go p e below s _ _ _ (T0.setTop (mkF m 69 #[.val (.int x0), .val (.int (-1 : Int32))] [(.int (-1 : Int32))]))
          exact g_retI X0 hx hret hlk (hb hby d3_69) (by decide) (by decide) ⟨congrArg (fun z => some (Value.int z)) (show (-1 : Int32) = (f3 x0) from by rw [f3, if_neg h1, if_pos h8, if_pos h9, if_pos h10]), rfl, e0⟩
        · show Go p e below s _ _ _ (T0.setTop (mkF m 49 #[.val (.int x0), .unset] []))
          refine g_iloadN X0 hx 50 (hb hby d3_49) rfl rfl ?_
          show Go p e below s _ _ _ (T0.setTop (mkF m 50 #[.val (.int x0), .unset] [(.int x0)]))
          refine g_bipush X0 hx (70 : Int32) 52 (hb hby d3_50) rfl rfl ?_
          show Go p e below s _ _ _ (T0.setTop (mkF m 52 #[.val (.int x0), .unset] [(.int (70 : Int32)), (.int x0)]))
          refine g_icmp_gt X0 hx 66 55 (hb hby d3_52) (by decide) rfl rfl (fun h11 => ?_) (fun h11 => ?_)
          · show Go p e below s _ _ _ (T0.setTop (mkF m 66 #[.val (.int x0), .unset] []))
            refine g_iconst X0 hx (-1 : Int32) 67 (hb hby d3_66) rfl rfl ?_
            show Go p e below s _ _ _ (T0.setTop (mkF m 67 #[.val (.int x0), .unset] [(.int (-1 : Int32))]))
            refine g_istoreN X0 hx #[.val (.int x0), .val (.int (-1 : Int32))] 68 (hb hby d3_67) rfl rfl ?_
            show Go p e below s _ _ _ (T0.setTop (mkF m 68 #[.val (.int x0), .val (.int (-1 : Int32))] []))
            refine g_iloadN X0 hx 69 (hb hby d3_68) rfl rfl ?_
            show Go p e below s _ _ _ (T0.setTop (mkF m 69 #[.val (.int x0), .val (.int (-1 : Int32))] [(.int (-1 : Int32))]))
            exact g_retI X0 hx hret hlk (hb hby d3_69) (by decide) (by decide) ⟨congrArg (fun z => some (Value.int z)) (show (-1 : Int32) = (f3 x0) from by rw [f3, if_neg h1, if_pos h8, if_pos h9, if_neg h10, if_pos h11]), rfl, e0⟩
          · show Go p e below s _ _ _ (T0.setTop (mkF m 55 #[.val (.int x0), .unset] []))
            refine g_iloadN X0 hx 56 (hb hby d3_55) rfl rfl ?_
            show Go p e below s _ _ _ (T0.setTop (mkF m 56 #[.val (.int x0), .unset] [(.int x0)]))
            refine g_bipush X0 hx (65 : Int32) 58 (hb hby d3_56) rfl rfl ?_
            show Go p e below s _ _ _ (T0.setTop (mkF m 58 #[.val (.int x0), .unset] [(.int (65 : Int32)), (.int x0)]))
            refine g_isub X0 hx 59 (hb hby d3_58) rfl ?_
            show Go p e below s _ _ _ (T0.setTop (mkF m 59 #[.val (.int x0), .unset] [(.int (x0 - (65 : Int32)))]))
            refine g_bipush X0 hx (10 : Int32) 61 (hb hby d3_59) rfl rfl ?_
            show Go p e below s _ _ _ (T0.setTop (mkF m 61 #[.val (.int x0), .unset] [(.int (10 : Int32)), (.int (x0 - (65 : Int32)))]))
            refine g_iadd X0 hx 62 (hb hby d3_61) rfl ?_
            show Go p e below s _ _ _ (T0.setTop (mkF m 62 #[.val (.int x0), .unset] [(.int ((x0 - (65 : Int32)) + (10 : Int32)))]))
            refine g_istoreN X0 hx #[.val (.int x0), .val (.int ((x0 - (65 : Int32)) + (10 : Int32)))] 63 (hb hby d3_62) rfl rfl ?_
            show Go p e below s _ _ _ (T0.setTop (mkF m 63 #[.val (.int x0), .val (.int ((x0 - (65 : Int32)) + (10 : Int32)))] []))
            refine g_goto X0 hx 68 (hb hby d3_63) (by decide) rfl ?_
            show Go p e below s _ _ _ (T0.setTop (mkF m 68 #[.val (.int x0), .val (.int ((x0 - (65 : Int32)) + (10 : Int32)))] []))
            refine g_iloadN X0 hx 69 (hb hby d3_68) rfl rfl ?_
            show Go p e below s _ _ _ (T0.setTop (mkF m 69 #[.val (.int x0), .val (.int ((x0 - (65 : Int32)) + (10 : Int32)))] [(.int ((x0 - (65 : Int32)) + (10 : Int32)))]))
            exact g_retI X0 hx hret hlk (hb hby d3_69) (by decide) (by decide) ⟨congrArg (fun z => some (Value.int z)) (show ((x0 - (65 : Int32)) + (10 : Int32)) = (f3 x0) from by rw [f3, if_neg h1, if_pos h8, if_pos h9, if_neg h10, if_neg h11]), rfl, e0⟩
      · show Go p e below s _ _ _ (T0.setTop (mkF m 26 #[.val (.int x0), .unset] []))
        refine g_iloadN X0 hx 27 (hb hby d3_26) rfl rfl ?_
        show Go p e below s _ _ _ (T0.setTop (mkF m 27 #[.val (.int x0), .unset] [(.int x0)]))
        refine g_bipush X0 hx (102 : Int32) 29 (hb hby d3_27) rfl rfl ?_
        show Go p e below s _ _ _ (T0.setTop (mkF m 29 #[.val (.int x0), .unset] [(.int (102 : Int32)), (.int x0)]))
        refine g_icmp_gt X0 hx 43 32 (hb hby d3_29) (by decide) rfl rfl (fun h12 => ?_) (fun h12 => ?_)
        · show Go p e below s _ _ _ (T0.setTop (mkF m 43 #[.val (.int x0), .unset] []))
          refine g_iloadN X0 hx 44 (hb hby d3_43) rfl rfl ?_
          show Go p e below s _ _ _ (T0.setTop (mkF m 44 #[.val (.int x0), .unset] [(.int x0)]))
          refine g_bipush X0 hx (65 : Int32) 46 (hb hby d3_44) rfl rfl ?_
          show Go p e below s _ _ _ (T0.setTop (mkF m 46 #[.val (.int x0), .unset] [(.int (65 : Int32)), (.int x0)]))
          refine g_icmp_lt X0 hx 66 49 (hb hby d3_46) (by decide) rfl rfl (fun h13 => ?_) (fun h13 => ?_)
          · show Go p e below s _ _ _ (T0.setTop (mkF m 66 #[.val (.int x0), .unset] []))
            refine g_iconst X0 hx (-1 : Int32) 67 (hb hby d3_66) rfl rfl ?_
            show Go p e below s _ _ _ (T0.setTop (mkF m 67 #[.val (.int x0), .unset] [(.int (-1 : Int32))]))
            refine g_istoreN X0 hx #[.val (.int x0), .val (.int (-1 : Int32))] 68 (hb hby d3_67) rfl rfl ?_
            show Go p e below s _ _ _ (T0.setTop (mkF m 68 #[.val (.int x0), .val (.int (-1 : Int32))] []))
            refine g_iloadN X0 hx 69 (hb hby d3_68) rfl rfl ?_
            show Go p e below s _ _ _ (T0.setTop (mkF m 69 #[.val (.int x0), .val (.int (-1 : Int32))] [(.int (-1 : Int32))]))
            exact g_retI X0 hx hret hlk (hb hby d3_69) (by decide) (by decide) ⟨congrArg (fun z => some (Value.int z)) (show (-1 : Int32) = (f3 x0) from by rw [f3, if_neg h1, if_pos h8, if_neg h9, if_pos h12, if_pos h13]), rfl, e0⟩
          · show Go p e below s _ _ _ (T0.setTop (mkF m 49 #[.val (.int x0), .unset] []))
            refine g_iloadN X0 hx 50 (hb hby d3_49) rfl rfl ?_
            show Go p e below s _ _ _ (T0.setTop (mkF m 50 #[.val (.int x0), .unset] [(.int x0)]))
            refine g_bipush X0 hx (70 : Int32) 52 (hb hby d3_50) rfl rfl ?_
            show Go p e below s _ _ _ (T0.setTop (mkF m 52 #[.val (.int x0), .unset] [(.int (70 : Int32)), (.int x0)]))
            refine g_icmp_gt X0 hx 66 55 (hb hby d3_52) (by decide) rfl rfl (fun h14 => ?_) (fun h14 => ?_)
            · show Go p e below s _ _ _ (T0.setTop (mkF m 66 #[.val (.int x0), .unset] []))
              refine g_iconst X0 hx (-1 : Int32) 67 (hb hby d3_66) rfl rfl ?_
              show Go p e below s _ _ _ (T0.setTop (mkF m 67 #[.val (.int x0), .unset] [(.int (-1 : Int32))]))
              refine g_istoreN X0 hx #[.val (.int x0), .val (.int (-1 : Int32))] 68 (hb hby d3_67) rfl rfl ?_
              show Go p e below s _ _ _ (T0.setTop (mkF m 68 #[.val (.int x0), .val (.int (-1 : Int32))] []))
              refine g_iloadN X0 hx 69 (hb hby d3_68) rfl rfl ?_
              show Go p e below s _ _ _ (T0.setTop (mkF m 69 #[.val (.int x0), .val (.int (-1 : Int32))] [(.int (-1 : Int32))]))
              exact g_retI X0 hx hret hlk (hb hby d3_69) (by decide) (by decide) ⟨congrArg (fun z => some (Value.int z)) (show (-1 : Int32) = (f3 x0) from by rw [f3, if_neg h1, if_pos h8, if_neg h9, if_pos h12, if_neg h13, if_pos h14]), rfl, e0⟩
            · show Go p e below s _ _ _ (T0.setTop (mkF m 55 #[.val (.int x0), .unset] []))
              refine g_iloadN X0 hx 56 (hb hby d3_55) rfl rfl ?_
              show Go p e below s _ _ _ (T0.setTop (mkF m 56 #[.val (.int x0), .unset] [(.int x0)]))
              refine g_bipush X0 hx (65 : Int32) 58 (hb hby d3_56) rfl rfl ?_
              show Go p e below s _ _ _ (T0.setTop (mkF m 58 #[.val (.int x0), .unset] [(.int (65 : Int32)), (.int x0)]))
              refine g_isub X0 hx 59 (hb hby d3_58) rfl ?_
              show Go p e below s _ _ _ (T0.setTop (mkF m 59 #[.val (.int x0), .unset] [(.int (x0 - (65 : Int32)))]))
              refine g_bipush X0 hx (10 : Int32) 61 (hb hby d3_59) rfl rfl ?_
              show Go p e below s _ _ _ (T0.setTop (mkF m 61 #[.val (.int x0), .unset] [(.int (10 : Int32)), (.int (x0 - (65 : Int32)))]))
              refine g_iadd X0 hx 62 (hb hby d3_61) rfl ?_
              show Go p e below s _ _ _ (T0.setTop (mkF m 62 #[.val (.int x0), .unset] [(.int ((x0 - (65 : Int32)) + (10 : Int32)))]))
              refine g_istoreN X0 hx #[.val (.int x0), .val (.int ((x0 - (65 : Int32)) + (10 : Int32)))] 63 (hb hby d3_62) rfl rfl ?_
              show Go p e below s _ _ _ (T0.setTop (mkF m 63 #[.val (.int x0), .val (.int ((x0 - (65 : Int32)) + (10 : Int32)))] []))
              refine g_goto X0 hx 68 (hb hby d3_63) (by decide) rfl ?_
              show Go p e below s _ _ _ (T0.setTop (mkF m 68 #[.val (.int x0), .val (.int ((x0 - (65 : Int32)) + (10 : Int32)))] []))
              refine g_iloadN X0 hx 69 (hb hby d3_68) rfl rfl ?_
              show Go p e below s _ _ _ (T0.setTop (mkF m 69 #[.val (.int x0), .val (.int ((x0 - (65 : Int32)) + (10 : Int32)))] [(.int ((x0 - (65 : Int32)) + (10 : Int32)))]))
              exact g_retI X0 hx hret hlk (hb hby d3_69) (by decide) (by decide) ⟨congrArg (fun z => some (Value.int z)) (show ((x0 - (65 : Int32)) + (10 : Int32)) = (f3 x0) from by rw [f3, if_neg h1, if_pos h8, if_neg h9, if_pos h12, if_neg h13, if_neg h14]), rfl, e0⟩
        · show Go p e below s _ _ _ (T0.setTop (mkF m 32 #[.val (.int x0), .unset] []))
          refine g_iloadN X0 hx 33 (hb hby d3_32) rfl rfl ?_
          show Go p e below s _ _ _ (T0.setTop (mkF m 33 #[.val (.int x0), .unset] [(.int x0)]))
          refine g_bipush X0 hx (97 : Int32) 35 (hb hby d3_33) rfl rfl ?_
          show Go p e below s _ _ _ (T0.setTop (mkF m 35 #[.val (.int x0), .unset] [(.int (97 : Int32)), (.int x0)]))
          refine g_isub X0 hx 36 (hb hby d3_35) rfl ?_
          show Go p e below s _ _ _ (T0.setTop (mkF m 36 #[.val (.int x0), .unset] [(.int (x0 - (97 : Int32)))]))
          refine g_bipush X0 hx (10 : Int32) 38 (hb hby d3_36) rfl rfl ?_
          show Go p e below s _ _ _ (T0.setTop (mkF m 38 #[.val (.int x0), .unset] [(.int (10 : Int32)), (.int (x0 - (97 : Int32)))]))
          refine g_iadd X0 hx 39 (hb hby d3_38) rfl ?_
          show Go p e below s _ _ _ (T0.setTop (mkF m 39 #[.val (.int x0), .unset] [(.int ((x0 - (97 : Int32)) + (10 : Int32)))]))
          refine g_istoreN X0 hx #[.val (.int x0), .val (.int ((x0 - (97 : Int32)) + (10 : Int32)))] 40 (hb hby d3_39) rfl rfl ?_
          show Go p e below s _ _ _ (T0.setTop (mkF m 40 #[.val (.int x0), .val (.int ((x0 - (97 : Int32)) + (10 : Int32)))] []))
          refine g_goto X0 hx 68 (hb hby d3_40) (by decide) rfl ?_
          show Go p e below s _ _ _ (T0.setTop (mkF m 68 #[.val (.int x0), .val (.int ((x0 - (97 : Int32)) + (10 : Int32)))] []))
          refine g_iloadN X0 hx 69 (hb hby d3_68) rfl rfl ?_
          show Go p e below s _ _ _ (T0.setTop (mkF m 69 #[.val (.int x0), .val (.int ((x0 - (97 : Int32)) + (10 : Int32)))] [(.int ((x0 - (97 : Int32)) + (10 : Int32)))]))
          exact g_retI X0 hx hret hlk (hb hby d3_69) (by decide) (by decide) ⟨congrArg (fun z => some (Value.int z)) (show ((x0 - (97 : Int32)) + (10 : Int32)) = (f3 x0) from by rw [f3, if_neg h1, if_pos h8, if_neg h9, if_neg h12]), rfl, e0⟩
    · show Go p e below s _ _ _ (T0.setTop (mkF m 12 #[.val (.int x0), .unset] []))
      refine g_iloadN X0 hx 13 (hb hby d3_12) rfl rfl ?_
      show Go p e below s _ _ _ (T0.setTop (mkF m 13 #[.val (.int x0), .unset] [(.int x0)]))
      refine g_bipush X0 hx (48 : Int32) 15 (hb hby d3_13) rfl rfl ?_
      show Go p e below s _ _ _ (T0.setTop (mkF m 15 #[.val (.int x0), .unset] [(.int (48 : Int32)), (.int x0)]))
      refine g_isub X0 hx 16 (hb hby d3_15) rfl ?_
      show Go p e below s _ _ _ (T0.setTop (mkF m 16 #[.val (.int x0), .unset] [(.int (x0 - (48 : Int32)))]))
      refine g_istoreN X0 hx #[.val (.int x0), .val (.int (x0 - (48 : Int32)))] 17 (hb hby d3_16) rfl rfl ?_
      show Go p e below s _ _ _ (T0.setTop (mkF m 17 #[.val (.int x0), .val (.int (x0 - (48 : Int32)))] []))
      refine g_goto X0 hx 68 (hb hby d3_17) (by decide) rfl ?_
      show Go p e below s _ _ _ (T0.setTop (mkF m 68 #[.val (.int x0), .val (.int (x0 - (48 : Int32)))] []))
      refine g_iloadN X0 hx 69 (hb hby d3_68) rfl rfl ?_
      show Go p e below s _ _ _ (T0.setTop (mkF m 69 #[.val (.int x0), .val (.int (x0 - (48 : Int32)))] [(.int (x0 - (48 : Int32)))]))
      exact g_retI X0 hx hret hlk (hb hby d3_69) (by decide) (by decide) ⟨congrArg (fun z => some (Value.int z)) (show (x0 - (48 : Int32)) = (f3 x0) from by rw [f3, if_neg h1, if_neg h8]), rfl, e0⟩
theorem pd__28I_29I : parseMethodDescriptor "(I)I" = some ⟨[.int], some .int⟩ := by decide +kernel
theorem ef_0 (m : MethodId) (x0 : Int32) (x1 : Int32) : entryFrame m #[(.int x0), (.int x1)] maxLocals = mkF m 0 #[.val (.int x0), .val (.int x1), .unset, .unset, .unset, .unset] [] := by first | (simp [entryFrame, mkF, argsToLocals, Value.category, maxLocals]; done) | rfl
def f0 (x0 : Int32) (x1 : Int32) : Int32 := if (f3 (f1 (x1 &&& (15 : Int32)))) = (x1 &&& (15 : Int32)) then (if (f3 (f2 (x1 &&& (15 : Int32)))) = (x1 &&& (15 : Int32)) then (if (f3 x0) = (-1 : Int32) then (if x0 = (f1 (x1 &&& (15 : Int32))) then (0 : Int32) else if x0 = (f2 (x1 &&& (15 : Int32))) then (0 : Int32) else (1 : Int32)) else if (f3 x0) < (0 : Int32) then (0 : Int32) else if (15 : Int32) < (f3 x0) then (0 : Int32) else if x0 = (f1 (f3 x0)) then (1 : Int32) else if x0 = (f2 (f3 x0)) then (1 : Int32) else (0 : Int32)) else (0 : Int32)) else (0 : Int32)
def Q0 (x0 : Int32) (x1 : Int32) (h0 : Heap) (v : Option Value) (h : Heap) (L : List Loc) : Prop := v = some (.int (f0 x0 x1)) ∧ L = [] ∧ h = h0
set_option maxRecDepth 65536 in
set_option maxHeartbeats 40000000 in
theorem rm0 (l : Launch) (Z : State) (a0 : Array Value) (hw : ∀ d ∈ tables_1, d.before a0 Z = true) (ws : List Jvm.Cond) (x0 : Int32) (x1 : Int32) (h0 : Heap) :
    MetFree l x (head1 (Jvm.Cond.code x code maxLocals ret :: ws) room_1) (fun a U => a = #[(.int x0), (.int x1)] ∧ Z.Warmed39 U.vm ∧ U.heap = h0) (fun _ _ _ _ _ => True) (fun _ U o U' => ∃ v L, o = .returned v ∧ Q0 x0 x1 h0 v U'.heap L ∧ FrameEnd U o U' L room_1.cells room_1.slots) := by
  refine g_body (plainFor_of_name pn_1) ?_
  intro p e s m below meth c T0 X0 hx hby hml hret hlk hown hnm hZ e0
  rw [ef_0]
  show Go p e below s _ _ _ (T0.setTop (mkF m 0 #[.val (.int x0), .val (.int x1), .unset, .unset, .unset, .unset] []))
  refine g_iloadN X0 hx 1 (hb hby at_0) rfl rfl ?_
  show Go p e below s _ _ _ (T0.setTop (mkF m 1 #[.val (.int x0), .val (.int x1), .unset, .unset, .unset, .unset] [(.int x1)]))
  refine g_bipush X0 hx (15 : Int32) 3 (hb hby at_1) rfl rfl ?_
  show Go p e below s _ _ _ (T0.setTop (mkF m 3 #[.val (.int x0), .val (.int x1), .unset, .unset, .unset, .unset] [(.int (15 : Int32)), (.int x1)]))
  refine g_iand X0 hx 4 (hb hby at_3) rfl ?_
  show Go p e below s _ _ _ (T0.setTop (mkF m 4 #[.val (.int x0), .val (.int x1), .unset, .unset, .unset, .unset] [(.int (x1 &&& (15 : Int32)))]))
  refine g_istoreN X0 hx #[.val (.int x0), .val (.int x1), .val (.int (x1 &&& (15 : Int32))), .unset, .unset, .unset] 5 (hb hby at_4) rfl rfl ?_
  show Go p e below s _ _ _ (T0.setTop (mkF m 5 #[.val (.int x0), .val (.int x1), .val (.int (x1 &&& (15 : Int32))), .unset, .unset, .unset] []))
  refine g_iloadN X0 hx 6 (hb hby at_5) rfl rfl ?_
  show Go p e below s _ _ _ (T0.setTop (mkF m 6 #[.val (.int x0), .val (.int x1), .val (.int (x1 &&& (15 : Int32))), .unset, .unset, .unset] [(.int (x1 &&& (15 : Int32)))]))
  refine g_callS X0 hx hZ hown (hw _ (List.mem_of_getElem? (i := 0) rfl)) (hw _ (List.mem_of_getElem? (i := 1) rfl)) (hw _ (List.mem_of_getElem? (i := 2) rfl)) (hw _ (List.mem_of_getElem? (i := 3) rfl)) (by decide) e0 (rm1 l Z a0 hw [] (x1 &&& (15 : Int32)) h0) [(.int (x1 &&& (15 : Int32)))] [] 0 rfl (lenOf pd__28I_29I rfl) rfl (Nat.le_of_eq rfl) (by decide) (by decide) (by decide) (by decide) (by rw [hml]; rfl) (hb hby at_6) ?_
  intro T1 L1 v1 X1 q1
  obtain ⟨rfl, rfl, e1⟩ := q1
  show Go p e below s _ _ _ (T1.setTop (mkF m 9 #[.val (.int x0), .val (.int x1), .val (.int (x1 &&& (15 : Int32))), .unset, .unset, .unset] [(.int (f1 (x1 &&& (15 : Int32))))]))
  refine g_istoreN X1 hx #[.val (.int x0), .val (.int x1), .val (.int (x1 &&& (15 : Int32))), .val (.int (f1 (x1 &&& (15 : Int32)))), .unset, .unset] 10 (hb hby at_9) rfl rfl ?_
  show Go p e below s _ _ _ (T1.setTop (mkF m 10 #[.val (.int x0), .val (.int x1), .val (.int (x1 &&& (15 : Int32))), .val (.int (f1 (x1 &&& (15 : Int32)))), .unset, .unset] []))
  refine g_iloadN X1 hx 11 (hb hby at_10) rfl rfl ?_
  show Go p e below s _ _ _ (T1.setTop (mkF m 11 #[.val (.int x0), .val (.int x1), .val (.int (x1 &&& (15 : Int32))), .val (.int (f1 (x1 &&& (15 : Int32)))), .unset, .unset] [(.int (x1 &&& (15 : Int32)))]))
  refine g_callS X1 hx hZ hown (hw _ (List.mem_of_getElem? (i := 4) rfl)) (hw _ (List.mem_of_getElem? (i := 5) rfl)) (hw _ (List.mem_of_getElem? (i := 2) rfl)) (hw _ (List.mem_of_getElem? (i := 6) rfl)) (by decide) e1 (rm2 l Z a0 hw [] (x1 &&& (15 : Int32)) h0) [(.int (x1 &&& (15 : Int32)))] [] 0 rfl (lenOf pd__28I_29I rfl) rfl (Nat.le_of_eq rfl) (by decide) (by decide) (by decide) (by decide) (by rw [hml]; rfl) (hb hby at_11) ?_
  intro T2 L2 v2 X2 q2
  obtain ⟨rfl, rfl, e2⟩ := q2
  show Go p e below s _ _ _ (T2.setTop (mkF m 14 #[.val (.int x0), .val (.int x1), .val (.int (x1 &&& (15 : Int32))), .val (.int (f1 (x1 &&& (15 : Int32)))), .unset, .unset] [(.int (f2 (x1 &&& (15 : Int32))))]))
  refine g_istore X2 hx #[.val (.int x0), .val (.int x1), .val (.int (x1 &&& (15 : Int32))), .val (.int (f1 (x1 &&& (15 : Int32)))), .val (.int (f2 (x1 &&& (15 : Int32)))), .unset] 16 (hb hby at_14) rfl rfl ?_
  show Go p e below s _ _ _ (T2.setTop (mkF m 16 #[.val (.int x0), .val (.int x1), .val (.int (x1 &&& (15 : Int32))), .val (.int (f1 (x1 &&& (15 : Int32)))), .val (.int (f2 (x1 &&& (15 : Int32)))), .unset] []))
  refine g_iloadN X2 hx 17 (hb hby at_16) rfl rfl ?_
  show Go p e below s _ _ _ (T2.setTop (mkF m 17 #[.val (.int x0), .val (.int x1), .val (.int (x1 &&& (15 : Int32))), .val (.int (f1 (x1 &&& (15 : Int32)))), .val (.int (f2 (x1 &&& (15 : Int32)))), .unset] [(.int (f1 (x1 &&& (15 : Int32))))]))
  refine g_callS X2 hx hZ hown (hw _ (List.mem_of_getElem? (i := 7) rfl)) (hw _ (List.mem_of_getElem? (i := 8) rfl)) (hw _ (List.mem_of_getElem? (i := 9) rfl)) (hw _ (List.mem_of_getElem? (i := 10) rfl)) (by decide) e2 (rm3 l Z a0 hw [] (f1 (x1 &&& (15 : Int32))) h0) [(.int (f1 (x1 &&& (15 : Int32))))] [] 0 rfl (lenOf pd__28I_29I rfl) rfl (Nat.le_of_eq rfl) (by decide) (by decide) (by decide) (by decide) (by rw [hml]; rfl) (hb hby at_17) ?_
  intro T3 L3 v3 X3 q3
  obtain ⟨rfl, rfl, e3⟩ := q3
  show Go p e below s _ _ _ (T3.setTop (mkF m 20 #[.val (.int x0), .val (.int x1), .val (.int (x1 &&& (15 : Int32))), .val (.int (f1 (x1 &&& (15 : Int32)))), .val (.int (f2 (x1 &&& (15 : Int32)))), .unset] [(.int (f3 (f1 (x1 &&& (15 : Int32)))))]))
  refine g_iloadN X3 hx 21 (hb hby at_20) rfl rfl ?_
  show Go p e below s _ _ _ (T3.setTop (mkF m 21 #[.val (.int x0), .val (.int x1), .val (.int (x1 &&& (15 : Int32))), .val (.int (f1 (x1 &&& (15 : Int32)))), .val (.int (f2 (x1 &&& (15 : Int32)))), .unset] [(.int (x1 &&& (15 : Int32))), (.int (f3 (f1 (x1 &&& (15 : Int32)))))]))
  refine g_icmp_eq X3 hx 26 24 (hb hby at_21) (by decide) rfl rfl (fun h4 => ?_) (fun h4 => ?_)
  · show Go p e below s _ _ _ (T3.setTop (mkF m 26 #[.val (.int x0), .val (.int x1), .val (.int (x1 &&& (15 : Int32))), .val (.int (f1 (x1 &&& (15 : Int32)))), .val (.int (f2 (x1 &&& (15 : Int32)))), .unset] []))
    refine g_iload X3 hx 28 (hb hby at_26) rfl rfl ?_
    show Go p e below s _ _ _ (T3.setTop (mkF m 28 #[.val (.int x0), .val (.int x1), .val (.int (x1 &&& (15 : Int32))), .val (.int (f1 (x1 &&& (15 : Int32)))), .val (.int (f2 (x1 &&& (15 : Int32)))), .unset] [(.int (f2 (x1 &&& (15 : Int32))))]))
    refine g_callS X3 hx hZ hown (hw _ (List.mem_of_getElem? (i := 7) rfl)) (hw _ (List.mem_of_getElem? (i := 8) rfl)) (hw _ (List.mem_of_getElem? (i := 9) rfl)) (hw _ (List.mem_of_getElem? (i := 10) rfl)) (by decide) e3 (rm3 l Z a0 hw [] (f2 (x1 &&& (15 : Int32))) h0) [(.int (f2 (x1 &&& (15 : Int32))))] [] 0 rfl (lenOf pd__28I_29I rfl) rfl (Nat.le_of_eq rfl) (by decide) (by decide) (by decide) (by decide) (by rw [hml]; rfl) (hb hby at_28) ?_
    intro T5 L5 v5 X5 q5
    obtain ⟨rfl, rfl, e5⟩ := q5
    show Go p e below s _ _ _ (T5.setTop (mkF m 31 #[.val (.int x0), .val (.int x1), .val (.int (x1 &&& (15 : Int32))), .val (.int (f1 (x1 &&& (15 : Int32)))), .val (.int (f2 (x1 &&& (15 : Int32)))), .unset] [(.int (f3 (f2 (x1 &&& (15 : Int32)))))]))
    refine g_iloadN X5 hx 32 (hb hby at_31) rfl rfl ?_
    show Go p e below s _ _ _ (T5.setTop (mkF m 32 #[.val (.int x0), .val (.int x1), .val (.int (x1 &&& (15 : Int32))), .val (.int (f1 (x1 &&& (15 : Int32)))), .val (.int (f2 (x1 &&& (15 : Int32)))), .unset] [(.int (x1 &&& (15 : Int32))), (.int (f3 (f2 (x1 &&& (15 : Int32)))))]))
    refine g_icmp_eq X5 hx 37 35 (hb hby at_32) (by decide) rfl rfl (fun h6 => ?_) (fun h6 => ?_)
    · show Go p e below s _ _ _ (T5.setTop (mkF m 37 #[.val (.int x0), .val (.int x1), .val (.int (x1 &&& (15 : Int32))), .val (.int (f1 (x1 &&& (15 : Int32)))), .val (.int (f2 (x1 &&& (15 : Int32)))), .unset] []))
      refine g_iloadN X5 hx 38 (hb hby at_37) rfl rfl ?_
      show Go p e below s _ _ _ (T5.setTop (mkF m 38 #[.val (.int x0), .val (.int x1), .val (.int (x1 &&& (15 : Int32))), .val (.int (f1 (x1 &&& (15 : Int32)))), .val (.int (f2 (x1 &&& (15 : Int32)))), .unset] [(.int x0)]))
      refine g_callS X5 hx hZ hown (hw _ (List.mem_of_getElem? (i := 7) rfl)) (hw _ (List.mem_of_getElem? (i := 8) rfl)) (hw _ (List.mem_of_getElem? (i := 9) rfl)) (hw _ (List.mem_of_getElem? (i := 10) rfl)) (by decide) e5 (rm3 l Z a0 hw [] x0 h0) [(.int x0)] [] 0 rfl (lenOf pd__28I_29I rfl) rfl (Nat.le_of_eq rfl) (by decide) (by decide) (by decide) (by decide) (by rw [hml]; rfl) (hb hby at_38) ?_
      intro T7 L7 v7 X7 q7
      obtain ⟨rfl, rfl, e7⟩ := q7
      show Go p e below s _ _ _ (T7.setTop (mkF m 41 #[.val (.int x0), .val (.int x1), .val (.int (x1 &&& (15 : Int32))), .val (.int (f1 (x1 &&& (15 : Int32)))), .val (.int (f2 (x1 &&& (15 : Int32)))), .unset] [(.int (f3 x0))]))
      refine g_istore X7 hx #[.val (.int x0), .val (.int x1), .val (.int (x1 &&& (15 : Int32))), .val (.int (f1 (x1 &&& (15 : Int32)))), .val (.int (f2 (x1 &&& (15 : Int32)))), .val (.int (f3 x0))] 43 (hb hby at_41) rfl rfl ?_
      show Go p e below s _ _ _ (T7.setTop (mkF m 43 #[.val (.int x0), .val (.int x1), .val (.int (x1 &&& (15 : Int32))), .val (.int (f1 (x1 &&& (15 : Int32)))), .val (.int (f2 (x1 &&& (15 : Int32)))), .val (.int (f3 x0))] []))
      refine g_iload X7 hx 45 (hb hby at_43) rfl rfl ?_
      show Go p e below s _ _ _ (T7.setTop (mkF m 45 #[.val (.int x0), .val (.int x1), .val (.int (x1 &&& (15 : Int32))), .val (.int (f1 (x1 &&& (15 : Int32)))), .val (.int (f2 (x1 &&& (15 : Int32)))), .val (.int (f3 x0))] [(.int (f3 x0))]))
      refine g_iconst X7 hx (-1 : Int32) 46 (hb hby at_45) rfl rfl ?_
      show Go p e below s _ _ _ (T7.setTop (mkF m 46 #[.val (.int x0), .val (.int x1), .val (.int (x1 &&& (15 : Int32))), .val (.int (f1 (x1 &&& (15 : Int32)))), .val (.int (f2 (x1 &&& (15 : Int32)))), .val (.int (f3 x0))] [(.int (-1 : Int32)), (.int (f3 x0))]))
      refine g_icmp_ne X7 hx 66 49 (hb hby at_46) (by decide) rfl rfl (fun h8 => ?_) (fun h8 => ?_)
      · show Go p e below s _ _ _ (T7.setTop (mkF m 49 #[.val (.int x0), .val (.int x1), .val (.int (x1 &&& (15 : Int32))), .val (.int (f1 (x1 &&& (15 : Int32)))), .val (.int (f2 (x1 &&& (15 : Int32)))), .val (.int (f3 x0))] []))
        refine g_iloadN X7 hx 50 (hb hby at_49) rfl rfl ?_
        show Go p e below s _ _ _ (T7.setTop (mkF m 50 #[.val (.int x0), .val (.int x1), .val (.int (x1 &&& (15 : Int32))), .val (.int (f1 (x1 &&& (15 : Int32)))), .val (.int (f2 (x1 &&& (15 : Int32)))), .val (.int (f3 x0))] [(.int x0)]))
        refine g_iloadN X7 hx 51 (hb hby at_50) rfl rfl ?_
        show Go p e below s _ _ _ (T7.setTop (mkF m 51 #[.val (.int x0), .val (.int x1), .val (.int (x1 &&& (15 : Int32))), .val (.int (f1 (x1 &&& (15 : Int32)))), .val (.int (f2 (x1 &&& (15 : Int32)))), .val (.int (f3 x0))] [(.int (f1 (x1 &&& (15 : Int32)))), (.int x0)]))
        refine g_icmp_eq X7 hx 64 54 (hb hby at_51) (by decide) rfl rfl (fun h9 => ?_) (fun h9 => ?_)
        · show Go p e below s _ _ _ (T7.setTop (mkF m 64 #[.val (.int x0), .val (.int x1), .val (.int (x1 &&& (15 : Int32))), .val (.int (f1 (x1 &&& (15 : Int32)))), .val (.int (f2 (x1 &&& (15 : Int32)))), .val (.int (f3 x0))] []))
          refine g_iconst X7 hx (0 : Int32) 65 (hb hby at_64) rfl rfl ?_
          show Go p e below s _ _ _ (T7.setTop (mkF m 65 #[.val (.int x0), .val (.int x1), .val (.int (x1 &&& (15 : Int32))), .val (.int (f1 (x1 &&& (15 : Int32)))), .val (.int (f2 (x1 &&& (15 : Int32)))), .val (.int (f3 x0))] [(.int (0 : Int32))]))
          exact g_retN X7 hx hret (by simp) hlk (hb hby at_65) (by decide) (by decide) ⟨congrArg (fun z => some (Value.int z)) (show (0 : Int32) = (f0 x0 x1) from by rw [f0, if_pos h4, if_pos h6, if_pos h8, if_pos h9]), rfl, e7⟩
        · show Go p e below s _ _ _ (T7.setTop (mkF m 54 #[.val (.int x0), .val (.int x1), .val (.int (x1 &&& (15 : Int32))), .val (.int (f1 (x1 &&& (15 : Int32)))), .val (.int (f2 (x1 &&& (15 : Int32)))), .val (.int (f3 x0))] []))
          refine g_iloadN X7 hx 55 (hb hby at_54) rfl rfl ?_
          show Go p e below s _ _ _ (T7.setTop (mkF m 55 #[.val (.int x0), .val (.int x1), .val (.int (x1 &&& (15 : Int32))), .val (.int (f1 (x1 &&& (15 : Int32)))), .val (.int (f2 (x1 &&& (15 : Int32)))), .val (.int (f3 x0))] [(.int x0)]))
          refine g_iload X7 hx 57 (hb hby at_55) rfl rfl ?_
          show Go p e below s _ _ _ (T7.setTop (mkF m 57 #[.val (.int x0), .val (.int x1), .val (.int (x1 &&& (15 : Int32))), .val (.int (f1 (x1 &&& (15 : Int32)))), .val (.int (f2 (x1 &&& (15 : Int32)))), .val (.int (f3 x0))] [(.int (f2 (x1 &&& (15 : Int32)))), (.int x0)]))
          refine g_icmp_eq X7 hx 64 60 (hb hby at_57) (by decide) rfl rfl (fun h10 => ?_) (fun h10 => ?_)
          · show Go p e below s _ _ _ (T7.setTop (mkF m 64 #[.val (.int x0), .val (.int x1), .val (.int (x1 &&& (15 : Int32))), .val (.int (f1 (x1 &&& (15 : Int32)))), .val (.int (f2 (x1 &&& (15 : Int32)))), .val (.int (f3 x0))] []))
            refine g_iconst X7 hx (0 : Int32) 65 (hb hby at_64) rfl rfl ?_
            show Go p e below s _ _ _ (T7.setTop (mkF m 65 #[.val (.int x0), .val (.int x1), .val (.int (x1 &&& (15 : Int32))), .val (.int (f1 (x1 &&& (15 : Int32)))), .val (.int (f2 (x1 &&& (15 : Int32)))), .val (.int (f3 x0))] [(.int (0 : Int32))]))
            exact g_retN X7 hx hret (by simp) hlk (hb hby at_65) (by decide) (by decide) ⟨congrArg (fun z => some (Value.int z)) (show (0 : Int32) = (f0 x0 x1) from by rw [f0, if_pos h4, if_pos h6, if_pos h8, if_neg h9, if_pos h10]), rfl, e7⟩
          · show Go p e below s _ _ _ (T7.setTop (mkF m 60 #[.val (.int x0), .val (.int x1), .val (.int (x1 &&& (15 : Int32))), .val (.int (f1 (x1 &&& (15 : Int32)))), .val (.int (f2 (x1 &&& (15 : Int32)))), .val (.int (f3 x0))] []))
            refine g_iconst X7 hx (1 : Int32) 61 (hb hby at_60) rfl rfl ?_
            show Go p e below s _ _ _ (T7.setTop (mkF m 61 #[.val (.int x0), .val (.int x1), .val (.int (x1 &&& (15 : Int32))), .val (.int (f1 (x1 &&& (15 : Int32)))), .val (.int (f2 (x1 &&& (15 : Int32)))), .val (.int (f3 x0))] [(.int (1 : Int32))]))
            refine g_goto X7 hx 65 (hb hby at_61) (by decide) rfl ?_
            show Go p e below s _ _ _ (T7.setTop (mkF m 65 #[.val (.int x0), .val (.int x1), .val (.int (x1 &&& (15 : Int32))), .val (.int (f1 (x1 &&& (15 : Int32)))), .val (.int (f2 (x1 &&& (15 : Int32)))), .val (.int (f3 x0))] [(.int (1 : Int32))]))
            exact g_retN X7 hx hret (by simp) hlk (hb hby at_65) (by decide) (by decide) ⟨congrArg (fun z => some (Value.int z)) (show (1 : Int32) = (f0 x0 x1) from by rw [f0, if_pos h4, if_pos h6, if_pos h8, if_neg h9, if_neg h10]), rfl, e7⟩
      · show Go p e below s _ _ _ (T7.setTop (mkF m 66 #[.val (.int x0), .val (.int x1), .val (.int (x1 &&& (15 : Int32))), .val (.int (f1 (x1 &&& (15 : Int32)))), .val (.int (f2 (x1 &&& (15 : Int32)))), .val (.int (f3 x0))] []))
        refine g_iload X7 hx 68 (hb hby at_66) rfl rfl ?_
        show Go p e below s _ _ _ (T7.setTop (mkF m 68 #[.val (.int x0), .val (.int x1), .val (.int (x1 &&& (15 : Int32))), .val (.int (f1 (x1 &&& (15 : Int32)))), .val (.int (f2 (x1 &&& (15 : Int32)))), .val (.int (f3 x0))] [(.int (f3 x0))]))
        refine g_if0_lt X7 hx 78 71 (hb hby at_68) (by decide) rfl rfl (fun h11 => ?_) (fun h11 => ?_)
        · show Go p e below s _ _ _ (T7.setTop (mkF m 78 #[.val (.int x0), .val (.int x1), .val (.int (x1 &&& (15 : Int32))), .val (.int (f1 (x1 &&& (15 : Int32)))), .val (.int (f2 (x1 &&& (15 : Int32)))), .val (.int (f3 x0))] []))
          refine g_iconst X7 hx (0 : Int32) 79 (hb hby at_78) rfl rfl ?_
          show Go p e below s _ _ _ (T7.setTop (mkF m 79 #[.val (.int x0), .val (.int x1), .val (.int (x1 &&& (15 : Int32))), .val (.int (f1 (x1 &&& (15 : Int32)))), .val (.int (f2 (x1 &&& (15 : Int32)))), .val (.int (f3 x0))] [(.int (0 : Int32))]))
          exact g_retN X7 hx hret (by simp) hlk (hb hby at_79) (by decide) (by decide) ⟨congrArg (fun z => some (Value.int z)) (show (0 : Int32) = (f0 x0 x1) from by rw [f0, if_pos h4, if_pos h6, if_neg h8, if_pos h11]), rfl, e7⟩
        · show Go p e below s _ _ _ (T7.setTop (mkF m 71 #[.val (.int x0), .val (.int x1), .val (.int (x1 &&& (15 : Int32))), .val (.int (f1 (x1 &&& (15 : Int32)))), .val (.int (f2 (x1 &&& (15 : Int32)))), .val (.int (f3 x0))] []))
          refine g_iload X7 hx 73 (hb hby at_71) rfl rfl ?_
          show Go p e below s _ _ _ (T7.setTop (mkF m 73 #[.val (.int x0), .val (.int x1), .val (.int (x1 &&& (15 : Int32))), .val (.int (f1 (x1 &&& (15 : Int32)))), .val (.int (f2 (x1 &&& (15 : Int32)))), .val (.int (f3 x0))] [(.int (f3 x0))]))
          refine g_bipush X7 hx (15 : Int32) 75 (hb hby at_73) rfl rfl ?_
          show Go p e below s _ _ _ (T7.setTop (mkF m 75 #[.val (.int x0), .val (.int x1), .val (.int (x1 &&& (15 : Int32))), .val (.int (f1 (x1 &&& (15 : Int32)))), .val (.int (f2 (x1 &&& (15 : Int32)))), .val (.int (f3 x0))] [(.int (15 : Int32)), (.int (f3 x0))]))
          refine g_icmp_le X7 hx 80 78 (hb hby at_75) (by decide) rfl rfl (fun h12 => ?_) (fun h12 => ?_)
          · show Go p e below s _ _ _ (T7.setTop (mkF m 78 #[.val (.int x0), .val (.int x1), .val (.int (x1 &&& (15 : Int32))), .val (.int (f1 (x1 &&& (15 : Int32)))), .val (.int (f2 (x1 &&& (15 : Int32)))), .val (.int (f3 x0))] []))
            refine g_iconst X7 hx (0 : Int32) 79 (hb hby at_78) rfl rfl ?_
            show Go p e below s _ _ _ (T7.setTop (mkF m 79 #[.val (.int x0), .val (.int x1), .val (.int (x1 &&& (15 : Int32))), .val (.int (f1 (x1 &&& (15 : Int32)))), .val (.int (f2 (x1 &&& (15 : Int32)))), .val (.int (f3 x0))] [(.int (0 : Int32))]))
            exact g_retN X7 hx hret (by simp) hlk (hb hby at_79) (by decide) (by decide) ⟨congrArg (fun z => some (Value.int z)) (show (0 : Int32) = (f0 x0 x1) from by rw [f0, if_pos h4, if_pos h6, if_neg h8, if_neg h11, if_pos h12]), rfl, e7⟩
          · show Go p e below s _ _ _ (T7.setTop (mkF m 80 #[.val (.int x0), .val (.int x1), .val (.int (x1 &&& (15 : Int32))), .val (.int (f1 (x1 &&& (15 : Int32)))), .val (.int (f2 (x1 &&& (15 : Int32)))), .val (.int (f3 x0))] []))
            refine g_iloadN X7 hx 81 (hb hby at_80) rfl rfl ?_
            show Go p e below s _ _ _ (T7.setTop (mkF m 81 #[.val (.int x0), .val (.int x1), .val (.int (x1 &&& (15 : Int32))), .val (.int (f1 (x1 &&& (15 : Int32)))), .val (.int (f2 (x1 &&& (15 : Int32)))), .val (.int (f3 x0))] [(.int x0)]))
            refine g_iload X7 hx 83 (hb hby at_81) rfl rfl ?_
            show Go p e below s _ _ _ (T7.setTop (mkF m 83 #[.val (.int x0), .val (.int x1), .val (.int (x1 &&& (15 : Int32))), .val (.int (f1 (x1 &&& (15 : Int32)))), .val (.int (f2 (x1 &&& (15 : Int32)))), .val (.int (f3 x0))] [(.int (f3 x0)), (.int x0)]))
            refine g_callS X7 hx hZ hown (hw _ (List.mem_of_getElem? (i := 0) rfl)) (hw _ (List.mem_of_getElem? (i := 1) rfl)) (hw _ (List.mem_of_getElem? (i := 2) rfl)) (hw _ (List.mem_of_getElem? (i := 3) rfl)) (by decide) e7 (rm1 l Z a0 hw [] (f3 x0) h0) [(.int (f3 x0))] [(.int x0)] 1 rfl (lenOf pd__28I_29I rfl) rfl (Nat.le_of_eq rfl) (by decide) (by decide) (by decide) (by decide) (by rw [hml]; rfl) (hb hby at_83) ?_
            intro T13 L13 v13 X13 q13
            obtain ⟨rfl, rfl, e13⟩ := q13
            show Go p e below s _ _ _ (T13.setTop (mkF m 86 #[.val (.int x0), .val (.int x1), .val (.int (x1 &&& (15 : Int32))), .val (.int (f1 (x1 &&& (15 : Int32)))), .val (.int (f2 (x1 &&& (15 : Int32)))), .val (.int (f3 x0))] [(.int (f1 (f3 x0))), (.int x0)]))
            refine g_icmp_eq X13 hx 98 89 (hb hby at_86) (by decide) rfl rfl (fun h14 => ?_) (fun h14 => ?_)
            · show Go p e below s _ _ _ (T13.setTop (mkF m 98 #[.val (.int x0), .val (.int x1), .val (.int (x1 &&& (15 : Int32))), .val (.int (f1 (x1 &&& (15 : Int32)))), .val (.int (f2 (x1 &&& (15 : Int32)))), .val (.int (f3 x0))] []))
              refine g_iconst X13 hx (1 : Int32) 99 (hb hby at_98) rfl rfl ?_
              show Go p e below s _ _ _ (T13.setTop (mkF m 99 #[.val (.int x0), .val (.int x1), .val (.int (x1 &&& (15 : Int32))), .val (.int (f1 (x1 &&& (15 : Int32)))), .val (.int (f2 (x1 &&& (15 : Int32)))), .val (.int (f3 x0))] [(.int (1 : Int32))]))
              refine g_goto X13 hx 103 (hb hby at_99) (by decide) rfl ?_
              show Go p e below s _ _ _ (T13.setTop (mkF m 103 #[.val (.int x0), .val (.int x1), .val (.int (x1 &&& (15 : Int32))), .val (.int (f1 (x1 &&& (15 : Int32)))), .val (.int (f2 (x1 &&& (15 : Int32)))), .val (.int (f3 x0))] [(.int (1 : Int32))]))
              exact g_retN X13 hx hret (by simp) hlk (hb hby at_103) (by decide) (by decide) ⟨congrArg (fun z => some (Value.int z)) (show (1 : Int32) = (f0 x0 x1) from by rw [f0, if_pos h4, if_pos h6, if_neg h8, if_neg h11, if_neg h12, if_pos h14]), rfl, e13⟩
            · show Go p e below s _ _ _ (T13.setTop (mkF m 89 #[.val (.int x0), .val (.int x1), .val (.int (x1 &&& (15 : Int32))), .val (.int (f1 (x1 &&& (15 : Int32)))), .val (.int (f2 (x1 &&& (15 : Int32)))), .val (.int (f3 x0))] []))
              refine g_iloadN X13 hx 90 (hb hby at_89) rfl rfl ?_
              show Go p e below s _ _ _ (T13.setTop (mkF m 90 #[.val (.int x0), .val (.int x1), .val (.int (x1 &&& (15 : Int32))), .val (.int (f1 (x1 &&& (15 : Int32)))), .val (.int (f2 (x1 &&& (15 : Int32)))), .val (.int (f3 x0))] [(.int x0)]))
              refine g_iload X13 hx 92 (hb hby at_90) rfl rfl ?_
              show Go p e below s _ _ _ (T13.setTop (mkF m 92 #[.val (.int x0), .val (.int x1), .val (.int (x1 &&& (15 : Int32))), .val (.int (f1 (x1 &&& (15 : Int32)))), .val (.int (f2 (x1 &&& (15 : Int32)))), .val (.int (f3 x0))] [(.int (f3 x0)), (.int x0)]))
              refine g_callS X13 hx hZ hown (hw _ (List.mem_of_getElem? (i := 4) rfl)) (hw _ (List.mem_of_getElem? (i := 5) rfl)) (hw _ (List.mem_of_getElem? (i := 2) rfl)) (hw _ (List.mem_of_getElem? (i := 6) rfl)) (by decide) e13 (rm2 l Z a0 hw [] (f3 x0) h0) [(.int (f3 x0))] [(.int x0)] 1 rfl (lenOf pd__28I_29I rfl) rfl (Nat.le_of_eq rfl) (by decide) (by decide) (by decide) (by decide) (by rw [hml]; rfl) (hb hby at_92) ?_
              intro T15 L15 v15 X15 q15
              obtain ⟨rfl, rfl, e15⟩ := q15
              show Go p e below s _ _ _ (T15.setTop (mkF m 95 #[.val (.int x0), .val (.int x1), .val (.int (x1 &&& (15 : Int32))), .val (.int (f1 (x1 &&& (15 : Int32)))), .val (.int (f2 (x1 &&& (15 : Int32)))), .val (.int (f3 x0))] [(.int (f2 (f3 x0))), (.int x0)]))
              refine g_icmp_ne X15 hx 102 98 (hb hby at_95) (by decide) rfl rfl (fun h16 => ?_) (fun h16 => ?_)
              · show Go p e below s _ _ _ (T15.setTop (mkF m 98 #[.val (.int x0), .val (.int x1), .val (.int (x1 &&& (15 : Int32))), .val (.int (f1 (x1 &&& (15 : Int32)))), .val (.int (f2 (x1 &&& (15 : Int32)))), .val (.int (f3 x0))] []))
                refine g_iconst X15 hx (1 : Int32) 99 (hb hby at_98) rfl rfl ?_
                show Go p e below s _ _ _ (T15.setTop (mkF m 99 #[.val (.int x0), .val (.int x1), .val (.int (x1 &&& (15 : Int32))), .val (.int (f1 (x1 &&& (15 : Int32)))), .val (.int (f2 (x1 &&& (15 : Int32)))), .val (.int (f3 x0))] [(.int (1 : Int32))]))
                refine g_goto X15 hx 103 (hb hby at_99) (by decide) rfl ?_
                show Go p e below s _ _ _ (T15.setTop (mkF m 103 #[.val (.int x0), .val (.int x1), .val (.int (x1 &&& (15 : Int32))), .val (.int (f1 (x1 &&& (15 : Int32)))), .val (.int (f2 (x1 &&& (15 : Int32)))), .val (.int (f3 x0))] [(.int (1 : Int32))]))
                exact g_retN X15 hx hret (by simp) hlk (hb hby at_103) (by decide) (by decide) ⟨congrArg (fun z => some (Value.int z)) (show (1 : Int32) = (f0 x0 x1) from by rw [f0, if_pos h4, if_pos h6, if_neg h8, if_neg h11, if_neg h12, if_neg h14, if_pos h16]), rfl, e15⟩
              · show Go p e below s _ _ _ (T15.setTop (mkF m 102 #[.val (.int x0), .val (.int x1), .val (.int (x1 &&& (15 : Int32))), .val (.int (f1 (x1 &&& (15 : Int32)))), .val (.int (f2 (x1 &&& (15 : Int32)))), .val (.int (f3 x0))] []))
                refine g_iconst X15 hx (0 : Int32) 103 (hb hby at_102) rfl rfl ?_
                show Go p e below s _ _ _ (T15.setTop (mkF m 103 #[.val (.int x0), .val (.int x1), .val (.int (x1 &&& (15 : Int32))), .val (.int (f1 (x1 &&& (15 : Int32)))), .val (.int (f2 (x1 &&& (15 : Int32)))), .val (.int (f3 x0))] [(.int (0 : Int32))]))
                exact g_retN X15 hx hret (by simp) hlk (hb hby at_103) (by decide) (by decide) ⟨congrArg (fun z => some (Value.int z)) (show (0 : Int32) = (f0 x0 x1) from by rw [f0, if_pos h4, if_pos h6, if_neg h8, if_neg h11, if_neg h12, if_neg h14, if_neg h16]), rfl, e15⟩
    · show Go p e below s _ _ _ (T5.setTop (mkF m 35 #[.val (.int x0), .val (.int x1), .val (.int (x1 &&& (15 : Int32))), .val (.int (f1 (x1 &&& (15 : Int32)))), .val (.int (f2 (x1 &&& (15 : Int32)))), .unset] []))
      refine g_iconst X5 hx (0 : Int32) 36 (hb hby at_35) rfl rfl ?_
      show Go p e below s _ _ _ (T5.setTop (mkF m 36 #[.val (.int x0), .val (.int x1), .val (.int (x1 &&& (15 : Int32))), .val (.int (f1 (x1 &&& (15 : Int32)))), .val (.int (f2 (x1 &&& (15 : Int32)))), .unset] [(.int (0 : Int32))]))
      exact g_retN X5 hx hret (by simp) hlk (hb hby at_36) (by decide) (by decide) ⟨congrArg (fun z => some (Value.int z)) (show (0 : Int32) = (f0 x0 x1) from by rw [f0, if_pos h4, if_neg h6]), rfl, e5⟩
  · show Go p e below s _ _ _ (T3.setTop (mkF m 24 #[.val (.int x0), .val (.int x1), .val (.int (x1 &&& (15 : Int32))), .val (.int (f1 (x1 &&& (15 : Int32)))), .val (.int (f2 (x1 &&& (15 : Int32)))), .unset] []))
    refine g_iconst X3 hx (0 : Int32) 25 (hb hby at_24) rfl rfl ?_
    show Go p e below s _ _ _ (T3.setTop (mkF m 25 #[.val (.int x0), .val (.int x1), .val (.int (x1 &&& (15 : Int32))), .val (.int (f1 (x1 &&& (15 : Int32)))), .val (.int (f2 (x1 &&& (15 : Int32)))), .unset] [(.int (0 : Int32))]))
    exact g_retN X3 hx hret (by simp) hlk (hb hby at_25) (by decide) (by decide) ⟨congrArg (fun z => some (Value.int z)) (show (0 : Int32) = (f0 x0 x1) from by rw [f0, if_neg h4]), rfl, e3⟩
theorem own_d (d : Int32) (h0 : 0 ≤ d.toInt) (h1 : d.toInt < 16) : ∃ n : Fin 16, d = Int32.ofNat n.val := by
  refine ⟨⟨d.toInt.toNat, by omega⟩, ?_⟩
  apply Int32.toInt_inj.mp
  rw [Int32.toInt_ofNat_of_lt] <;> simp only [] <;> omega
theorem own_fin : ∀ n : Fin 16, f3 (f1 (Int32.ofNat n.val)) = Int32.ofNat n.val ∧ f3 (f2 (Int32.ofNat n.val)) = Int32.ofNat n.val ∧ ¬ Int32.ofNat n.val = -1 ∧ ¬ Int32.ofNat n.val < 0 ∧ ¬ 15 < Int32.ofNat n.val := by decide +kernel
/-- what hexDigit gives: -1, or a digit of which c is the sign -/
theorem own_f3 (c : Int32) : f3 c = -1 ∨ ∃ n : Fin 16, f3 c = Int32.ofNat n.val ∧ (c = f1 (Int32.ofNat n.val) ∨ c = f2 (Int32.ofNat n.val)) := by
  by_cases q : 0 ≤ c.toInt ∧ c.toInt < 128
  · obtain ⟨n, hn⟩ : ∃ n : Fin 128, c = Int32.ofNat n.val := by
      refine ⟨⟨c.toInt.toNat, by omega⟩, ?_⟩
      apply Int32.toInt_inj.mp
      rw [Int32.toInt_ofNat_of_lt] <;> simp only [] <;> omega
    rw [hn]
    clear hn q
    revert n
    decide +kernel
  · left
    unfold f3
    simp only [Int32.lt_iff_toInt_lt, show (48 : Int32).toInt = 48 from rfl, show (57 : Int32).toInt = 57 from rfl, show (97 : Int32).toInt = 97 from rfl, show (102 : Int32).toInt = 102 from rfl, show (65 : Int32).toInt = 65 from rfl, show (70 : Int32).toInt = 70 from rfl]
    by_cases z : c.toInt < 0
    · have a1 : c.toInt < 48 := by omega
      have a2 : c.toInt < 97 := by omega
      have a3 : c.toInt < 65 := by omega
      simp [a1, a2, a3]
    · have a1 : ¬ c.toInt < 48 := by omega
      have a2 : ¬ c.toInt < 97 := by omega
      have a3 : ¬ c.toInt < 65 := by omega
      have b1 : 57 < c.toInt := by omega
      have b2 : 102 < c.toInt := by omega
      have b3 : 70 < c.toInt := by omega
      simp [a1, a2, a3, b1, b2, b3]
theorem own_law (x y : Int32) : f0 x y = 1 := by
  have hm := c_mask y 15 4 (by decide) (by decide)
  obtain ⟨n, hn⟩ := own_d (y &&& 15) (by omega) (by omega)
  unfold f0
  rw [hn]
  obtain ⟨g1, g2, g3, g4, g5⟩ := own_fin n
  rw [if_pos g1, if_pos g2]
  rcases own_f3 x with h | ⟨k, h, hx⟩
  · rw [if_pos h]
    have k1 : ¬ x = f1 (Int32.ofNat n.val) := fun e => g3 (by rw [← h, e, g1])
    have k2 : ¬ x = f2 (Int32.ofNat n.val) := fun e => g3 (by rw [← h, e, g2])
    rw [if_neg k1, if_neg k2]
  · obtain ⟨-, -, k3, k4, k5⟩ := own_fin k
    rw [h, if_neg k3, if_neg k4, if_neg k5]
    rcases hx with e | e
    · rw [if_pos e]
    · by_cases z : x = f1 (Int32.ofNat k.val)
      · rw [if_pos z]
      · rw [if_neg z, if_pos e]

set_option maxRecDepth 65536 in
set_option maxHeartbeats 40000000 in
theorem comes_1 {Post : Tables → Env → Array Value → State → Outcome → State → Prop} (hpost : ∀ tb e args s v u, (limb_1_1.after args s (.returned v) u = true ∧ limb_1_2.after args s (.returned v) u = true ∧ True) → FrameEnd s (.returned v) u (Jvm.fieldLocs frame_1_writes args s ++ Jvm.arrayLocs frame_1_arrays args s ++ Jvm.staticLocs frame_1_statics s) 0 0 → Post tb e args s (.returned v) u) :
    ArmFor flags0 classFile x code maxLocals ret World_1 tables_1 room_1 Calls_1 rest_1 Pre_1 Post := by
  intro l hfl _ _ p e ha hc hk s m args below hf hA hF happ hP
  obtain ⟨hcalls, hrest, hpre⟩ := hP
  obtain ⟨-, -, -, hnamed, -, -, -, hat⟩ := (Spec.applies_iff hf).mp happ
  obtain ⟨hg, hn⟩ := and_e (Cond.before_iff.mp (show (Jvm.Cond.and given_1 narrow_1).before args s = true from hpre))
  obtain ⟨g1, g2⟩ := and_e hg
  obtain ⟨g3, g4⟩ := and_e g2
  obtain ⟨w0, w1, rfl⟩ : ∃ w0 w1 : Value, args = #[w0, w1] := by
    have hs : args.size = 2 := by simpa [Cond.value, given_1] using g1
    obtain ⟨L⟩ := args
    match L, hs with
    | [w0, w1], _ => exact ⟨w0, w1, rfl⟩
  have hw := fun d (hd : d ∈ tables_1) => atoms_spec (ws := Jvm.Cond.code x code maxLocals ret :: tables_1) hat d (List.mem_cons_of_mem _ hd)
  obtain ⟨i0, ei0⟩ := is_v g3
  obtain rfl : w0 = (.int i0) := Option.some.inj ei0
  obtain ⟨i1, ei1⟩ := is_v g4
  obtain rfl : w1 = (.int i1) := Option.some.inj ei1
  obtain ⟨n, o, h1, h2, h3, _, L, rfl, ⟨rfl, rfl, N⟩, hq⟩ := rm0 l s _ hw tables_1 i0 i1 s.heap p e ha hc hk s m _ below hf ((Spec.applies_iff_loose hf).mp happ).1 ⟨rfl, State.Warmed39.refl s, rfl⟩ trivial
  have hlaw : (f0 i0 i1) = 1 := own_law i0 i1
  rw [hlaw] at h3 hq
  refine ⟨n, _, h1, h2, h3, hpost _ _ _ _ _ _ ⟨Cond.after_iff.mpr rfl, Cond.after_iff.mpr (eq_i res_at (Term.int_eval (1)) rfl), trivial⟩ ⟨hq.1, hq.2.1, (hq.2.2.sift fun y hy => nomatch hy).mono (by decide) (by decide)⟩⟩
theorem main_1_1 : Claimed_1_1 := comes_1 fun _ _ _ _ _ _ h hF => ⟨h.1, hF⟩
theorem main_1_2 : Claimed_1_2 := comes_1 fun _ _ _ _ _ _ h hF => ⟨h.2.1, hF⟩
end Jvm.Pilot.@@N@@
namespace Jvm.Pilot.@@N@@
open Jvm Jvm.ClassFile Sem Op Lib Jvm.Free Jvm.Stand Jvm.Pilot.@@N@@.Jvm.D
/-! MADE BY PROGRAM (witnessworld.py) out of the Statement's table words and the real class files: 9 classes; the members and pool entries that the words name. The judged class is class 1, her method 1. -/
namespace start1
open Jvm.ClassFile
def u (s : String) : CpInfo := .utf8 (stringToUtf16 s)
/-- a pool by its gaps: so many unusable entries, then the entry; so many at the end -/
def gap : Nat → List CpInfo → List CpInfo
  | 0, r => r
  | n + 1, r => .unusable :: gap n r
def poolList (es : List (Nat × CpInfo)) (last : Nat) : List CpInfo := es.foldr (fun e r => gap e.1 (e.2 :: r)) (gap last [])
def pool (es : List (Nat × CpInfo)) (last : Nat) : Array CpInfo := ⟨poolList es last⟩
def fileOf (pool : Array CpInfo) (this : Nat) (attrs : Array Attribute := #[]) (ms : Array MethodInfo := #[]) (fl : Nat := 33) (sup : Nat := 0) (ifs : Array Nat := #[]) (fds : Array FieldInfo := #[]) : ClassFile where
  minorVersion := 0
  majorVersion := 65
  constantPool := pool
  accessFlags := fl
  thisClass := this
  superClass := sup
  interfaces := ifs
  fields := fds
  methods := ms
  attributes := attrs
def plain (name : String) (sup : Option ClassId) : Class where
  name := name
  kind := .ordinary
  loader := none
  accessFlags := 33
  super := sup
  interfaces := #[]
  cf := none
  fields := #[]
  methods := #[]
  instanceTypes := #[]
  staticTypes := #[]
  resolved := #[]
  callSites := []
  init := .initialized
  statics := none
  mirror := none

def pool0 : Array CpInfo := pool [(5, u "<init>"), (0, u "()V"), (1, .class_ 10), (1, u "java/lang/Object")] 113

def k0m0 : Method := { name := "<init>", desc := "()V", sig := { parameters := [], returnType := none }, accessFlags := 1, code := none }
/-- java/lang/Object -/
def k0 : Class := { plain "java/lang/Object" none with
  accessFlags := 33
  interfaces := #[]
  cf := some (fileOf pool0 8 #[] #[{ accessFlags := 1, nameIndex := 5, descriptorIndex := 6, attributes := #[] }] 33 0 #[] #[])
  fields := #[]
  methods := #[k0m0]
  instanceTypes := #[]
  staticTypes := #[]
  resolved := Array.replicate 124 none
  statics := none }

def pool1 : Array CpInfo := pool [(2, .class_ 4), (1, u "java/lang/Object"), (0, u "<init>"), (0, u "()V"), (0, .methodref 8 9), (0, .class_ 10), (0, .nameAndType 11 12), (0, u "com/example/brisk_herald/briskherald/cli/JsonMembersHexDigitPinLaw"), (0, u "lowerChar"), (0, u "(I)I"), (0, .methodref 8 14), (0, .nameAndType 15 12), (0, u "upperChar"), (0, .methodref 17 18), (0, .class_ 19), (0, .nameAndType 20 12), (0, u "com/example/brisk_herald/briskherald/cli/JsonMembers"), (0, u "hexDigit"), (2, u "law"), (0, u "(II)Z")] 3

def k1m0 : Method := { name := "<init>", desc := "()V", sig := { parameters := [], returnType := none }, accessFlags := 1, code := none }
def k1c1 : Code := { maxStack := 2, maxLocals := 6, code := code, exceptionTable := #[], attributes := #[] }
def k1m1 : Method := { name := "law", desc := "(II)Z", sig := { parameters := [.int, .int], returnType := some .boolean }, accessFlags := 9, code := some k1c1 }
def k1c2 : Code := { maxStack := 3, maxLocals := 1, code := method_3_code, exceptionTable := #[], attributes := #[] }
def k1m2 : Method := { name := "lowerChar", desc := "(I)I", sig := { parameters := [.int], returnType := some .int }, accessFlags := 10, code := some k1c2 }
def k1c3 : Code := { maxStack := 3, maxLocals := 1, code := method_4_code, exceptionTable := #[], attributes := #[] }
def k1m3 : Method := { name := "upperChar", desc := "(I)I", sig := { parameters := [.int], returnType := some .int }, accessFlags := 10, code := some k1c3 }
/-- com/example/brisk_herald/briskherald/cli/JsonMembersHexDigitPinLaw -/
def k1 : Class := { plain "com/example/brisk_herald/briskherald/cli/JsonMembersHexDigitPinLaw" (some 0) with
  accessFlags := 49
  interfaces := #[]
  cf := some (fileOf pool1 8 #[] #[{ accessFlags := 1, nameIndex := 5, descriptorIndex := 6, attributes := #[] }, { accessFlags := 9, nameIndex := 23, descriptorIndex := 24, attributes := #[] }, { accessFlags := 10, nameIndex := 11, descriptorIndex := 12, attributes := #[] }, { accessFlags := 10, nameIndex := 15, descriptorIndex := 12, attributes := #[] }] 49 2 #[] #[])
  fields := #[]
  methods := #[k1m0, k1m1, k1m2, k1m3]
  instanceTypes := #[]
  staticTypes := #[]
  resolved := Array.replicate 28 none
  statics := none }

def pool2 : Array CpInfo := pool [(2, .class_ 4), (1, u "java/lang/Object"), (6, .class_ 13), (1, u "com/example/brisk_herald/briskherald/cli/JsonMembers"), (0, u "strings"), (0, u "Ljava/util/Map;"), (5, u "others"), (0, u "Ljava/util/Set;"), (2, u "text"), (0, u "Ljava/lang/String;"), (2, u "shape"), (32, u "firstOther"), (4, u "firstOtherKind"), (21, u "depth"), (0, u "I"), (4, u "index"), (7, .class_ 105), (1, u "com/example/brisk_herald/briskherald/cli/JsonMembers$Element"), (96, u "hexDigit"), (0, u "(I)I"), (44, u "MAX_DEPTH"), (2, u "END")] 55

def k2c0 : Code := { maxStack := 2, maxLocals := 2, code := prog_58_method_23_code, exceptionTable := #[], attributes := #[] }
def k2m0 : Method := { name := "hexDigit", desc := "(I)I", sig := { parameters := [.int], returnType := some .int }, accessFlags := 8, code := some k2c0 }
/-- com/example/brisk_herald/briskherald/cli/JsonMembers -/
def k2 : Class := { plain "com/example/brisk_herald/briskherald/cli/JsonMembers" (some 0) with
  accessFlags := 32
  interfaces := #[]
  cf := some (fileOf pool2 11 #[.nestMembers #[103]] #[{ accessFlags := 8, nameIndex := 202, descriptorIndex := 203, attributes := #[] }] 32 2 #[] #[{ accessFlags := 26, nameIndex := 248, descriptorIndex := 90, attributes := #[] }, { accessFlags := 26, nameIndex := 251, descriptorIndex := 90, attributes := #[] }, { accessFlags := 18, nameIndex := 25, descriptorIndex := 26, attributes := #[] }, { accessFlags := 18, nameIndex := 29, descriptorIndex := 26, attributes := #[] }, { accessFlags := 18, nameIndex := 14, descriptorIndex := 15, attributes := #[] }, { accessFlags := 18, nameIndex := 21, descriptorIndex := 22, attributes := #[] }, { accessFlags := 2, nameIndex := 62, descriptorIndex := 26, attributes := #[] }, { accessFlags := 2, nameIndex := 67, descriptorIndex := 26, attributes := #[] }, { accessFlags := 2, nameIndex := 95, descriptorIndex := 90, attributes := #[] }, { accessFlags := 2, nameIndex := 89, descriptorIndex := 90, attributes := #[] }])
  fields := #[{ name := "MAX_DEPTH", type := .int, accessFlags := 26, slot := 0, constantValue := 0 }, { name := "END", type := .int, accessFlags := 26, slot := 1, constantValue := 0 }, { name := "text", type := (.object "java/lang/String"), accessFlags := 18, slot := 0, constantValue := 0 }, { name := "shape", type := (.object "java/lang/String"), accessFlags := 18, slot := 1, constantValue := 0 }, { name := "strings", type := (.object "java/util/Map"), accessFlags := 18, slot := 2, constantValue := 0 }, { name := "others", type := (.object "java/util/Set"), accessFlags := 18, slot := 3, constantValue := 0 }, { name := "firstOther", type := (.object "java/lang/String"), accessFlags := 2, slot := 4, constantValue := 0 }, { name := "firstOtherKind", type := (.object "java/lang/String"), accessFlags := 2, slot := 5, constantValue := 0 }, { name := "index", type := .int, accessFlags := 2, slot := 6, constantValue := 0 }, { name := "depth", type := .int, accessFlags := 2, slot := 7, constantValue := 0 }]
  methods := #[k2m0]
  instanceTypes := #[(.object "java/lang/String"), (.object "java/lang/String"), (.object "java/util/Map"), (.object "java/util/Set"), (.object "java/lang/String"), (.object "java/lang/String"), .int, .int]
  staticTypes := #[.int, .int]
  resolved := Array.replicate 307 none
  statics := none }

def pool3 : Array CpInfo := pool [(1, u "java/lang/Cloneable"), (0, .class_ 1), (0, u "java/lang/Object"), (0, .class_ 3)] 3

/-- java/lang/Cloneable -/
def k3 : Class := { plain "java/lang/Cloneable" (some 0) with
  accessFlags := 1537
  interfaces := #[]
  cf := some (fileOf pool3 2 #[] #[] 1537 4 #[] #[])
  fields := #[]
  methods := #[]
  instanceTypes := #[]
  staticTypes := #[]
  resolved := Array.replicate 8 none
  statics := none }

def pool4 : Array CpInfo := pool [(1, u "java/io/Serializable"), (0, .class_ 1), (0, u "java/lang/Object"), (0, .class_ 3)] 3

/-- java/io/Serializable -/
def k4 : Class := { plain "java/io/Serializable" (some 0) with
  accessFlags := 1537
  interfaces := #[]
  cf := some (fileOf pool4 2 #[] #[] 1537 4 #[] #[])
  fields := #[]
  methods := #[]
  instanceTypes := #[]
  staticTypes := #[]
  resolved := Array.replicate 8 none
  statics := none }

/-- the primitive byte -/
def k5 : Class := { plain "byte" none with kind := .primitive 'B', accessFlags := 0x411 }
/-- [B -/
def k6 : Class := { plain "[B" (some 0) with kind := .array 5 .byte, interfaces := #[3, 4], accessFlags := 1041 }

/-- the primitive int -/
def k7 : Class := { plain "int" none with kind := .primitive 'I', accessFlags := 0x411 }
/-- [I -/
def k8 : Class := { plain "[I" (some 0) with kind := .array 7 .int, interfaces := #[3, 4], accessFlags := 1041 }

def heap : Heap := #[]
def classes : Array Class := #[k0, k1, k2, k3, k4, k5, k6, k7, k8]
def interned : List (Array UInt16 × Addr) := []
def slotsUsed : Nat := 0
def theMethod : MethodId := ⟨1, 1⟩
def args0 : Array Value := #[.int 53, .int 7]
def aboutOver (below : List Frame) : State where
  vm := { classes := classes, interned := interned.toArray }
  heap := heap
  slotsUsed := slotsUsed
  threads := #[{ frames := .invoking theMethod args0 :: below }]
def below0 : List Frame := [.native { method := ⟨0, 0⟩, args := #[] }]
def about1 : State := aboutOver below0
def p0 : Program := .bare "" "" ""
def e0 : Env := launch0.env 0 0 0
theorem w_frames : about1.frames = Frame.invoking theMethod args0 :: below0 := rfl
set_option maxRecDepth 65536 in
theorem w_args : argsFit about1.vm theMethod args0 = true := by decide +kernel
set_option maxRecDepth 65536 in
theorem w_heap : heapFits about1 = true := by decide +kernel
set_option maxRecDepth 65536 in
theorem w_runnable : about1.curStatus? = some .runnable := by decide +kernel
set_option maxRecDepth 65536 in
theorem w_alone : about1.alone = true := by decide +kernel
set_option maxRecDepth 65536 in
theorem w_named : about1.methodNamed? x = some theMethod := by decide +kernel
set_option maxRecDepth 65536 in
theorem w_hears : about1.hears theMethod below0 = true := by decide +kernel
set_option maxRecDepth 65536 in
theorem w_ripe : about1.ripe theMethod args0 below0 = true := by decide +kernel
theorem w_running : about1.status = .running := rfl
set_option maxRecDepth 65536 in
theorem w_room : about1.hasRoom e0.platform room_1 = true :=
  launch0.hasRoom_least _ room_1 (by decide +kernel) (by decide +kernel) (by decide +kernel) (by decide +kernel) (by decide +kernel) (by decide +kernel)
theorem allAtoms_all (ts : List Jvm.Cond) (a : Array Jvm.Value) (st : Jvm.State) : (allAtoms ts).before a st = ts.all (fun c => c.before a st) := by
  induction ts with
  | nil => rfl
  | cons c t ih =>
    show (Jvm.Cond.and c (allAtoms t)).before a st = _
    rw [Jvm.Cond.before_and, ih, List.all_cons]
def words1 : List Jvm.Cond := Jvm.Cond.code x code maxLocals ret :: tables_1
/-- a 'code' word, met by the world's own term for the bytes: nothing is compared byte by byte -/
theorem code_word {y : MethodName} {bytes : ByteArray} {mx : Nat} {rt : Option FieldType} {a : Array Value} {s : State} {m : MethodId} {meth : Method} {c : Code} (h1 : s.methodNamed? y = some m) (h2 : s.vm.method? m = some meth) (h3 : meth.code = some c) (h4 : c.code = bytes)
    (h5 : (c.maxLocals == mx && c.exceptionTable.isEmpty && decide (c.maxStack ≤ mostOperands) && decide (meth.sig.returnType = rt) && !meth.locks && decide (parseMethodDescriptor y.desc = some meth.sig)) = true) : (Jvm.Cond.code y bytes mx rt).before a s = true := by
  simp only [Bool.and_eq_true, beq_iff_eq, Bool.not_eq_true', decide_eq_true_eq] at h5
  obtain ⟨⟨⟨⟨⟨g1, g2⟩, g3⟩, g4⟩, g5⟩, g6⟩ := h5
  simp [Cond.before, Cond.holds, Cond.value, h1, h2, h3, h4, g1, g2, g3, g4, g5, g6]
def isCode : Jvm.Cond → Bool
  | .code _ _ _ _ => true
  | _ => false
theorem all_split {L : List Jvm.Cond} {P : Jvm.Cond → Bool} (h1 : L.all (fun c => isCode c || P c) = true) (h2 : ∀ c ∈ L.filter isCode, P c = true) : L.all P = true := by
  refine List.all_eq_true.mpr fun c hc => ?_
  have h := List.all_eq_true.mp h1 c hc
  rcases Bool.eq_false_or_eq_true (isCode c) with hi | hi
  · exact h2 c (List.mem_filter.mpr ⟨hc, hi⟩)
  · simpa [hi] using h
set_option maxRecDepth 65536 in
theorem w_c0 : (Jvm.Cond.code x code maxLocals ret).before args0 about1 = true := code_word (m := ⟨1, 1⟩) (meth := k1m1) (c := k1c1) (by decide +kernel) rfl rfl rfl (by decide +kernel)
set_option maxRecDepth 65536 in
theorem w_c1 : (Jvm.Cond.code ({ cls := "com/example/brisk_herald/briskherald/cli/JsonMembersHexDigitPinLaw", name := "lowerChar", desc := "(I)I" } : Jvm.MethodName) method_3_code (1 : Nat) (Option.some Jvm.ClassFile.FieldType.int)).before args0 about1 = true := code_word (m := ⟨1, 2⟩) (meth := k1m2) (c := k1c2) (by decide +kernel) rfl rfl rfl (by decide +kernel)
set_option maxRecDepth 65536 in
theorem w_c2 : (Jvm.Cond.code ({ cls := "com/example/brisk_herald/briskherald/cli/JsonMembersHexDigitPinLaw", name := "upperChar", desc := "(I)I" } : Jvm.MethodName) method_4_code (1 : Nat) (Option.some Jvm.ClassFile.FieldType.int)).before args0 about1 = true := code_word (m := ⟨1, 3⟩) (meth := k1m3) (c := k1c3) (by decide +kernel) rfl rfl rfl (by decide +kernel)
set_option maxRecDepth 65536 in
theorem w_c3 : (Jvm.Cond.code ({ cls := "com/example/brisk_herald/briskherald/cli/JsonMembers", name := "hexDigit", desc := "(I)I" } : Jvm.MethodName) prog_58_method_23_code (2 : Nat) (Option.some Jvm.ClassFile.FieldType.int)).before args0 about1 = true := code_word (m := ⟨2, 0⟩) (meth := k2m0) (c := k2c0) (by decide +kernel) rfl rfl rfl (by decide +kernel)
def codes1 : List Jvm.Cond := [Jvm.Cond.code x code maxLocals ret, Jvm.Cond.code ({ cls := "com/example/brisk_herald/briskherald/cli/JsonMembersHexDigitPinLaw", name := "lowerChar", desc := "(I)I" } : Jvm.MethodName) method_3_code (1 : Nat) (Option.some Jvm.ClassFile.FieldType.int), Jvm.Cond.code ({ cls := "com/example/brisk_herald/briskherald/cli/JsonMembersHexDigitPinLaw", name := "upperChar", desc := "(I)I" } : Jvm.MethodName) method_4_code (1 : Nat) (Option.some Jvm.ClassFile.FieldType.int), Jvm.Cond.code ({ cls := "com/example/brisk_herald/briskherald/cli/JsonMembers", name := "hexDigit", desc := "(I)I" } : Jvm.MethodName) prog_58_method_23_code (2 : Nat) (Option.some Jvm.ClassFile.FieldType.int)]
set_option maxRecDepth 65536 in
theorem codes_eq : words1.filter isCode = codes1 := rfl
theorem w_codes : ∀ c ∈ words1.filter isCode, c.before args0 about1 = true := by
  rw [codes_eq]
  intro c hc
  simp only [codes1, List.mem_cons, List.not_mem_nil, or_false] at hc
  rcases hc with rfl | rfl | rfl | rfl
  · exact w_c0
  · exact w_c1
  · exact w_c2
  · exact w_c3
set_option maxRecDepth 65536 in
theorem w_t1 : words1.all (fun c => isCode c || c.before args0 about1) = true := by decide +kernel
theorem w_tables : (allAtoms (Jvm.Cond.code x code maxLocals ret :: tables_1)).before args0 about1 = true := by
  rw [allAtoms_all]
  show words1.all (fun c => c.before args0 about1) = true
  refine all_split ?_ w_codes
  rw [w_t1]
set_option maxRecDepth 65536 in
theorem w_case : (Jvm.Cond.and given_1 narrow_1).before args0 about1 = true := by decide +kernel
theorem w_applies : (headSpec (Jvm.Cond.code x code maxLocals ret :: tables_1) room_1).applies x e0.platform about1 = true :=
  (Spec.applies_iff w_frames).mpr ⟨w_running, w_runnable, w_alone, w_named, w_hears, w_ripe, w_room, w_tables⟩
theorem atStart : AtStart classFile x code maxLocals ret World_1 tables_1 room_1 Calls_1 rest_1 Pre_1 launch0 p0 e0 about1 theMethod args0 below0 :=
  ⟨lists_1, trivial, launch0.admits_env _ _ _, launch0.least_env, fairChoices_fair.cas, fairChoices_fair.clock, w_frames, w_args, w_heap, w_applies, trivial, trivial, w_case⟩
end start1
theorem witness_1 : WitnessClaimed_1 := ⟨start1.p0, start1.e0, start1.about1, start1.theMethod, start1.args0, start1.below0, start1.atStart⟩
end Jvm.Pilot.@@N@@
