import JvmDerived
import JvmDerived.Pilot.@@N@@Statement
import JvmDerived.Pilot.@@N@@Code
set_option linter.unusedVariables false
set_option linter.unusedSimpArgs false
namespace Jvm.RoadKit
open Sem ClassFile Op Lib Jvm.Stand Jvm.Free Jvm.LawKit
section New
variable {p : Program} {l : Launch} {e : Env} {R : Room} {s : State} {m : MethodId} {args : Array Value} {below : List Frame} {meth : Method} {c : Code} {T : State} {locs : List Loc} {cells slots : Nat}
theorem retI (X : Stand p l e R s m args below meth c T locs cells slots) (hx : p.tables.exec = Jvm.exec) {pc : Nat} {Ls : Array Slot} {z : Int32} {rest : List Value} (hret : meth.sig.returnType = some .int) (hd : decode c.code pc = .ok (.ireturn, 1)) {fs : List Frame}
    (hl : ∀ (f : JFrame) (acts : List Action), f.method = m → f.locked = none → f.entered = [] → (doReturn e (T.setTop f) acts (some (.int z))).1 = T.setFrames fs) : Steps p.tables e below (T.setTop (mkF m pc Ls (.int z :: rest))) (T.setFrames fs) := by
  have hm' : T.vm.method? m = some meth := X.method'
  have hn : narrow .int (.int z) = .int z := rfl
  show Steps p.tables e below (T.setTop { method := m, pc := pc, locals := Ls, stack := _ :: rest, locked := none }) _
  jvm_step X.here [X.here.top, hx, hd, hm', hret, hn]
  first | (intro acts; rw [hl _ acts rfl rfl rfl]) | rw [hl _ _ rfl rfl rfl]
  exact Steps.refl _
end New
end Jvm.RoadKit
namespace Jvm.Pilot.@@N@@
open Jvm Jvm.ClassFile Sem Op Lib Jvm.Free Jvm.Stand Jvm.LawKit Jvm.RoadKit Bundle Jvm.Pilot.@@N@@.Jvm.D
section OwnKit
variable {p : Program} {l : Launch} {e : Env} {R : Room} {s : State} {m : MethodId} {args : Array Value} {below : List Frame} {meth : Method} {c : Code} {T : State} {locs : List Loc} {cells slots : Nat} {Z : State} {a0 : Array Value} {h : Heap}
variable {Q : Option Value → Heap → List Loc → Prop} {rc rs pc : Nat} {Ls : Array Slot} {st : List Value}
def Go (p : Program) (e : Env) (below : List Frame) (s : State) (Q : Option Value → Heap → List Loc → Prop) (rc rs : Nat) (F : State) : Prop :=
  ∃ s₂ o, Steps p.tables e below F s₂ ∧ s₂.status = .running ∧ Ended s₂ below o ∧ ∃ v L, o = .returned v ∧ Q v s₂.heap L ∧ FrameEnd s o s₂ L rc rs
theorem Go.by {F F' : State} (g : Go p e below s Q rc rs F') (h : ∀ t, Steps p.tables e below F' t → Steps p.tables e below F t) : Go p e below s Q rc rs F := by
  obtain ⟨s2, o, h1, r⟩ := g
  exact ⟨s2, o, h _ h1, r⟩
def shlI (x y : Int32) : Int32 := x <<< (y &&& 31)
def shrI (x y : Int32) : Int32 := x >>> (y &&& 31)
def ushrI (x y : Int32) : Int32 := (x.toUInt32 >>> (y &&& 31).toUInt32).toInt32
def shlJ (x : Int64) (y : Int32) : Int64 := x <<< (y &&& 0x3f).toInt64
def shrJ (x : Int64) (y : Int32) : Int64 := x >>> (y &&& 0x3f).toInt64
def ushrJ (x : Int64) (y : Int32) : Int64 := (x.toUInt64 >>> (y &&& 0x3f).toInt64.toUInt64).toInt64
def i2bI (x : Int32) : Int32 := x.toInt8.toInt32
def i2cI (x : Int32) : Int32 := x.toUInt32.toUInt16.toUInt32.toInt32
def i2sI (x : Int32) : Int32 := x.toInt16.toInt32
theorem g_iload (X : Stand p l e R s m args below meth c T locs cells slots) (hx : p.tables.exec = Jvm.exec) {k : Nat} {v : Int32} (pc' : Nat) (hd : decode c.code pc = .ok (.iload k, 2)) (hl : Ls[k]? = some (.val (.int v))) (hp : pc + 2 = pc') (g : Go p e below s Q rc rs (T.setTop (mkF m pc' Ls (.int v :: st)))) : Go p e below s Q rc rs (T.setTop (mkF m pc Ls st)) := by
  subst hp; exact g.by fun t k => XS.iload X.here hx rfl hd hl k
theorem g_iloadN (X : Stand p l e R s m args below meth c T locs cells slots) (hx : p.tables.exec = Jvm.exec) {k : Fin 4} {v : Int32} (pc' : Nat) (hd : decode c.code pc = .ok (.iload_n k, 1)) (hl : Ls[k.val]? = some (.val (.int v))) (hp : pc + 1 = pc') (g : Go p e below s Q rc rs (T.setTop (mkF m pc' Ls (.int v :: st)))) : Go p e below s Q rc rs (T.setTop (mkF m pc Ls st)) := by
  subst hp; exact g.by fun t k => XS.iloadN X.here hx rfl hd hl k
theorem g_istore (X : Stand p l e R s m args below meth c T locs cells slots) (hx : p.tables.exec = Jvm.exec) {k : Nat} {v : Int32} (l' : Array Slot) (pc' : Nat) (hd : decode c.code pc = .ok (.istore k, 2)) (hl : storeLocals Ls k (.int v) = some l') (hp : pc + 2 = pc') (g : Go p e below s Q rc rs (T.setTop (mkF m pc' l' st))) : Go p e below s Q rc rs (T.setTop (mkF m pc Ls (.int v :: st))) := by
  subst hp; exact g.by fun t k => XS.istore X.here hx rfl hd rfl hl k
theorem g_istoreN (X : Stand p l e R s m args below meth c T locs cells slots) (hx : p.tables.exec = Jvm.exec) {k : Fin 4} {v : Int32} (l' : Array Slot) (pc' : Nat) (hd : decode c.code pc = .ok (.istore_n k, 1)) (hl : storeLocals Ls k.val (.int v) = some l') (hp : pc + 1 = pc') (g : Go p e below s Q rc rs (T.setTop (mkF m pc' l' st))) : Go p e below s Q rc rs (T.setTop (mkF m pc Ls (.int v :: st))) := by
  subst hp; exact g.by fun t k => XS.istoreN X.here hx rfl hd rfl hl k
theorem g_lload (X : Stand p l e R s m args below meth c T locs cells slots) (hx : p.tables.exec = Jvm.exec) {k : Nat} {v : Int64} (pc' : Nat) (hd : decode c.code pc = .ok (.lload k, 2)) (hl : Ls[k]? = some (.val (.long v))) (hp : pc + 2 = pc') (g : Go p e below s Q rc rs (T.setTop (mkF m pc' Ls (.long v :: st)))) : Go p e below s Q rc rs (T.setTop (mkF m pc Ls st)) := by
  subst hp; exact g.by fun t k => XS.lload X.here hx rfl hd hl k
theorem g_lloadN (X : Stand p l e R s m args below meth c T locs cells slots) (hx : p.tables.exec = Jvm.exec) {k : Fin 4} {v : Int64} (pc' : Nat) (hd : decode c.code pc = .ok (.lload_n k, 1)) (hl : Ls[k.val]? = some (.val (.long v))) (hp : pc + 1 = pc') (g : Go p e below s Q rc rs (T.setTop (mkF m pc' Ls (.long v :: st)))) : Go p e below s Q rc rs (T.setTop (mkF m pc Ls st)) := by
  subst hp; exact g.by fun t k => XS.lloadN X.here hx rfl hd hl k
theorem g_lstore (X : Stand p l e R s m args below meth c T locs cells slots) (hx : p.tables.exec = Jvm.exec) {k : Nat} {v : Int64} (l' : Array Slot) (pc' : Nat) (hd : decode c.code pc = .ok (.lstore k, 2)) (hl : storeLocals Ls k (.long v) = some l') (hp : pc + 2 = pc') (g : Go p e below s Q rc rs (T.setTop (mkF m pc' l' st))) : Go p e below s Q rc rs (T.setTop (mkF m pc Ls (.long v :: st))) := by
  subst hp; exact g.by fun t k => XS.lstore X.here hx rfl hd rfl hl k
theorem g_lstoreN (X : Stand p l e R s m args below meth c T locs cells slots) (hx : p.tables.exec = Jvm.exec) {k : Fin 4} {v : Int64} (l' : Array Slot) (pc' : Nat) (hd : decode c.code pc = .ok (.lstore_n k, 1)) (hl : storeLocals Ls k.val (.long v) = some l') (hp : pc + 1 = pc') (g : Go p e below s Q rc rs (T.setTop (mkF m pc' l' st))) : Go p e below s Q rc rs (T.setTop (mkF m pc Ls (.long v :: st))) := by
  subst hp; exact g.by fun t k => XS.lstoreN X.here hx rfl hd rfl hl k
theorem g_aload (X : Stand p l e R s m args below meth c T locs cells slots) (hx : p.tables.exec = Jvm.exec) {k : Nat} {v : Value} (pc' : Nat) (hd : decode c.code pc = .ok (.aload k, 2)) (hl : Ls[k]? = some (.val v)) (hv : v.isRef = true) (hp : pc + 2 = pc') (g : Go p e below s Q rc rs (T.setTop (mkF m pc' Ls (v :: st)))) : Go p e below s Q rc rs (T.setTop (mkF m pc Ls st)) := by
  subst hp; exact g.by fun t k => XS.aload X.here hx rfl hd hl hv k
theorem g_aloadN (X : Stand p l e R s m args below meth c T locs cells slots) (hx : p.tables.exec = Jvm.exec) {k : Fin 4} {v : Value} (pc' : Nat) (hd : decode c.code pc = .ok (.aload_n k, 1)) (hl : Ls[k.val]? = some (.val v)) (hv : v.isRef = true) (hp : pc + 1 = pc') (g : Go p e below s Q rc rs (T.setTop (mkF m pc' Ls (v :: st)))) : Go p e below s Q rc rs (T.setTop (mkF m pc Ls st)) := by
  subst hp; exact g.by fun t k => XS.aloadN X.here hx rfl hd hl hv k
theorem g_astore (X : Stand p l e R s m args below meth c T locs cells slots) (hx : p.tables.exec = Jvm.exec) {k : Nat} {v : Value} (l' : Array Slot) (pc' : Nat) (hd : decode c.code pc = .ok (.astore k, 2)) (hl : storeLocals Ls k v = some l') (hv : v.isRef = true) (hp : pc + 2 = pc') (g : Go p e below s Q rc rs (T.setTop (mkF m pc' l' st))) : Go p e below s Q rc rs (T.setTop (mkF m pc Ls (v :: st))) := by
  subst hp; exact g.by fun t k => XS.astore X.here hx rfl hd rfl hv hl k
theorem g_astoreN (X : Stand p l e R s m args below meth c T locs cells slots) (hx : p.tables.exec = Jvm.exec) {k : Fin 4} {v : Value} (l' : Array Slot) (pc' : Nat) (hd : decode c.code pc = .ok (.astore_n k, 1)) (hl : storeLocals Ls k.val v = some l') (hv : v.isRef = true) (hp : pc + 1 = pc') (g : Go p e below s Q rc rs (T.setTop (mkF m pc' l' st))) : Go p e below s Q rc rs (T.setTop (mkF m pc Ls (v :: st))) := by
  subst hp; exact g.by fun t k => XS.astoreN X.here hx rfl hd rfl hv hl k
theorem g_istoreS (X : Stand p l e R s m args below meth c T locs cells slots) (hx : p.tables.exec = Jvm.exec) {k : Nat} {v : Int32} {os : Slot} (l' : Array Slot) (pc' : Nat) (hd : decode c.code pc = .ok (.istore k, 2)) (hold : Ls[k]? = some os) (ho : One os) (hl : Ls.setIfInBounds k (.val (.int v)) = l') (hp : pc + 2 = pc') (g : Go p e below s Q rc rs (T.setTop (mkF m pc' l' st))) : Go p e below s Q rc rs (T.setTop (mkF m pc Ls ((.int v) :: st))) := by
  subst hp; exact g.by fun t k => XS.istore X.here hx rfl hd rfl (hl ▸ XS.store1 hold ho rfl) k
theorem g_istoreNS (X : Stand p l e R s m args below meth c T locs cells slots) (hx : p.tables.exec = Jvm.exec) {k : Fin 4} {v : Int32} {os : Slot} (l' : Array Slot) (pc' : Nat) (hd : decode c.code pc = .ok (.istore_n k, 1)) (hold : Ls[k.val]? = some os) (ho : One os) (hl : Ls.setIfInBounds k.val (.val (.int v)) = l') (hp : pc + 1 = pc') (g : Go p e below s Q rc rs (T.setTop (mkF m pc' l' st))) : Go p e below s Q rc rs (T.setTop (mkF m pc Ls ((.int v) :: st))) := by
  subst hp; exact g.by fun t k => XS.istoreN X.here hx rfl hd rfl (hl ▸ XS.store1 hold ho rfl) k
theorem g_astoreS (X : Stand p l e R s m args below meth c T locs cells slots) (hx : p.tables.exec = Jvm.exec) {k : Nat} {v : Value} {os : Slot} (l' : Array Slot) (pc' : Nat) (hd : decode c.code pc = .ok (.astore k, 2)) (hold : Ls[k]? = some os) (ho : One os) (hl : Ls.setIfInBounds k (.val v) = l') (hv : v.isRef = true) (hp : pc + 2 = pc') (g : Go p e below s Q rc rs (T.setTop (mkF m pc' l' st))) : Go p e below s Q rc rs (T.setTop (mkF m pc Ls (v :: st))) := by
  subst hp; exact g.by fun t k => XS.astore X.here hx rfl hd rfl hv (hl ▸ XS.store1 hold ho (by cases v <;> first | rfl | simp_all [Value.isRef])) k
theorem g_astoreNS (X : Stand p l e R s m args below meth c T locs cells slots) (hx : p.tables.exec = Jvm.exec) {k : Fin 4} {v : Value} {os : Slot} (l' : Array Slot) (pc' : Nat) (hd : decode c.code pc = .ok (.astore_n k, 1)) (hold : Ls[k.val]? = some os) (ho : One os) (hl : Ls.setIfInBounds k.val (.val v) = l') (hv : v.isRef = true) (hp : pc + 1 = pc') (g : Go p e below s Q rc rs (T.setTop (mkF m pc' l' st))) : Go p e below s Q rc rs (T.setTop (mkF m pc Ls (v :: st))) := by
  subst hp; exact g.by fun t k => XS.astoreN X.here hx rfl hd rfl hv (hl ▸ XS.store1 hold ho (by cases v <;> first | rfl | simp_all [Value.isRef])) k
theorem g_iconst (X : Stand p l e R s m args below meth c T locs cells slots) (hx : p.tables.exec = Jvm.exec) {i : Int} (v : Int32) (pc' : Nat) (hd : decode c.code pc = .ok (.iconst i, 1)) (hv : Int32.ofInt i = v) (hp : pc + 1 = pc') (g : Go p e below s Q rc rs (T.setTop (mkF m pc' Ls (.int v :: st)))) : Go p e below s Q rc rs (T.setTop (mkF m pc Ls st)) := by
  subst hp hv; exact g.by fun t k => XS.iconst X.here hx rfl hd k
theorem g_bipush (X : Stand p l e R s m args below meth c T locs cells slots) (hx : p.tables.exec = Jvm.exec) {i : Int} (v : Int32) (pc' : Nat) (hd : decode c.code pc = .ok (.bipush i, 2)) (hv : (Int8.ofInt i).toInt32 = v) (hp : pc + 2 = pc') (g : Go p e below s Q rc rs (T.setTop (mkF m pc' Ls (.int v :: st)))) : Go p e below s Q rc rs (T.setTop (mkF m pc Ls st)) := by
  subst hp hv; exact g.by fun t k => XS.bipush X.here hx rfl hd k
theorem g_sipush (X : Stand p l e R s m args below meth c T locs cells slots) (hx : p.tables.exec = Jvm.exec) {i : Int} (v : Int32) (pc' : Nat) (hd : decode c.code pc = .ok (.sipush i, 3)) (hv : (Int16.ofInt i).toInt32 = v) (hp : pc + 3 = pc') (g : Go p e below s Q rc rs (T.setTop (mkF m pc' Ls (.int v :: st)))) : Go p e below s Q rc rs (T.setTop (mkF m pc Ls st)) := by
  subst hp hv; exact g.by fun t k => XS.sipush X.here hx rfl hd k
theorem g_lconst (X : Stand p l e R s m args below meth c T locs cells slots) (hx : p.tables.exec = Jvm.exec) {i : Fin 2} (v : Int64) (pc' : Nat) (hd : decode c.code pc = .ok (.lconst i, 1)) (hv : Int64.ofNat i = v) (hp : pc + 1 = pc') (g : Go p e below s Q rc rs (T.setTop (mkF m pc' Ls (.long v :: st)))) : Go p e below s Q rc rs (T.setTop (mkF m pc Ls st)) := by
  subst hp hv; exact g.by fun t k => XS.lconst X.here hx rfl hd k
theorem g_aconst_null (X : Stand p l e R s m args below meth c T locs cells slots) (hx : p.tables.exec = Jvm.exec) (pc' : Nat) (hd : decode c.code pc = .ok (.aconst_null, 1)) (hp : pc + 1 = pc') (g : Go p e below s Q rc rs (T.setTop (mkF m pc' Ls (.null :: st)))) : Go p e below s Q rc rs (T.setTop (mkF m pc Ls st)) := by
  subst hp; exact g.by fun t k => XS.aconstNull X.here hx rfl hd k
theorem g_ldc (X : Stand p l e R s m args below meth c T locs cells slots) (hx : p.tables.exec = Jvm.exec) (hZ : Z.Warmed39 s.vm) {own : String} {i : Nat} {v : Int32} (hown : s.vm.findClass own = some m.cls) (w : (Cond.constant own i v).before a0 Z = true) (pc' : Nat) (hd : decode c.code pc = .ok (.ldc i, 2)) (hp : pc + 2 = pc') (g : Go p e below s Q rc rs (T.setTop (mkF m pc' Ls (.int v :: st)))) : Go p e below s Q rc rs (T.setTop (mkF m pc Ls st)) := by
  subst hp; exact g.by fun t k => X.ldcInt hx hown (mvT hZ w) (g := mkF m pc Ls st) rfl hd t k
theorem g_ldc_w (X : Stand p l e R s m args below meth c T locs cells slots) (hx : p.tables.exec = Jvm.exec) (hZ : Z.Warmed39 s.vm) {own : String} {i : Nat} {v : Int32} (hown : s.vm.findClass own = some m.cls) (w : (Cond.constant own i v).before a0 Z = true) (pc' : Nat) (hd : decode c.code pc = .ok (.ldc_w i, 3)) (hp : pc + 3 = pc') (g : Go p e below s Q rc rs (T.setTop (mkF m pc' Ls (.int v :: st)))) : Go p e below s Q rc rs (T.setTop (mkF m pc Ls st)) := by
  subst hp; exact g.by fun t k => X.ldcwInt hx hown (mvT hZ w) (g := mkF m pc Ls st) rfl hd t k
theorem g_ldc2_w (X : Stand p l e R s m args below meth c T locs cells slots) (hx : p.tables.exec = Jvm.exec) (hZ : Z.Warmed39 s.vm) {own : String} {i : Nat} {v : Int64} (hown : s.vm.findClass own = some m.cls) (w : (Cond.constantLong own i v).before a0 Z = true) (pc' : Nat) (hd : decode c.code pc = .ok (.ldc2_w i, 3)) (hp : pc + 3 = pc') (g : Go p e below s Q rc rs (T.setTop (mkF m pc' Ls (.long v :: st)))) : Go p e below s Q rc rs (T.setTop (mkF m pc Ls st)) := by
  subst hp; exact g.by fun t k => X.ldc2Long hx hown (mvT hZ w) (g := mkF m pc Ls st) rfl hd t k
theorem g_iadd (X : Stand p l e R s m args below meth c T locs cells slots) (hx : p.tables.exec = Jvm.exec) {x y : Int32} (pc' : Nat) (hd : decode c.code pc = .ok (.iadd, 1)) (hp : pc + 1 = pc') (g : Go p e below s Q rc rs (T.setTop (mkF m pc' Ls (.int (x + y) :: st)))) : Go p e below s Q rc rs (T.setTop (mkF m pc Ls (.int y :: .int x :: st))) := by
  subst hp; exact g.by fun t k => XS.iadd X.here hx rfl hd rfl k
theorem g_isub (X : Stand p l e R s m args below meth c T locs cells slots) (hx : p.tables.exec = Jvm.exec) {x y : Int32} (pc' : Nat) (hd : decode c.code pc = .ok (.isub, 1)) (hp : pc + 1 = pc') (g : Go p e below s Q rc rs (T.setTop (mkF m pc' Ls (.int (x - y) :: st)))) : Go p e below s Q rc rs (T.setTop (mkF m pc Ls (.int y :: .int x :: st))) := by
  subst hp; exact g.by fun t k => XS.isub X.here hx rfl hd rfl k
theorem g_imul (X : Stand p l e R s m args below meth c T locs cells slots) (hx : p.tables.exec = Jvm.exec) {x y : Int32} (pc' : Nat) (hd : decode c.code pc = .ok (.imul, 1)) (hp : pc + 1 = pc') (g : Go p e below s Q rc rs (T.setTop (mkF m pc' Ls (.int (x * y) :: st)))) : Go p e below s Q rc rs (T.setTop (mkF m pc Ls (.int y :: .int x :: st))) := by
  subst hp; exact g.by fun t k => XS.imul X.here hx rfl hd rfl k
theorem g_iand (X : Stand p l e R s m args below meth c T locs cells slots) (hx : p.tables.exec = Jvm.exec) {x y : Int32} (pc' : Nat) (hd : decode c.code pc = .ok (.iand, 1)) (hp : pc + 1 = pc') (g : Go p e below s Q rc rs (T.setTop (mkF m pc' Ls (.int (x &&& y) :: st)))) : Go p e below s Q rc rs (T.setTop (mkF m pc Ls (.int y :: .int x :: st))) := by
  subst hp; exact g.by fun t k => XS.iand X.here hx rfl hd rfl k
theorem g_ior (X : Stand p l e R s m args below meth c T locs cells slots) (hx : p.tables.exec = Jvm.exec) {x y : Int32} (pc' : Nat) (hd : decode c.code pc = .ok (.ior, 1)) (hp : pc + 1 = pc') (g : Go p e below s Q rc rs (T.setTop (mkF m pc' Ls (.int (x ||| y) :: st)))) : Go p e below s Q rc rs (T.setTop (mkF m pc Ls (.int y :: .int x :: st))) := by
  subst hp; exact g.by fun t k => XS.ior X.here hx rfl hd rfl k
theorem g_ixor (X : Stand p l e R s m args below meth c T locs cells slots) (hx : p.tables.exec = Jvm.exec) {x y : Int32} (pc' : Nat) (hd : decode c.code pc = .ok (.ixor, 1)) (hp : pc + 1 = pc') (g : Go p e below s Q rc rs (T.setTop (mkF m pc' Ls (.int (x ^^^ y) :: st)))) : Go p e below s Q rc rs (T.setTop (mkF m pc Ls (.int y :: .int x :: st))) := by
  subst hp; exact g.by fun t k => XS.ixor X.here hx rfl hd rfl k
theorem g_ineg (X : Stand p l e R s m args below meth c T locs cells slots) (hx : p.tables.exec = Jvm.exec) {x : Int32} (pc' : Nat) (hd : decode c.code pc = .ok (.ineg, 1)) (hp : pc + 1 = pc') (g : Go p e below s Q rc rs (T.setTop (mkF m pc' Ls (.int (-x) :: st)))) : Go p e below s Q rc rs (T.setTop (mkF m pc Ls (.int x :: st))) := by
  subst hp; exact g.by fun t k => XS.ineg X.here hx rfl hd rfl k
theorem g_idiv (X : Stand p l e R s m args below meth c T locs cells slots) (hx : p.tables.exec = Jvm.exec) {x y : Int32} (pc' : Nat) (hd : decode c.code pc = .ok (.idiv, 1)) (hy : y ≠ 0) (hp : pc + 1 = pc') (g : Go p e below s Q rc rs (T.setTop (mkF m pc' Ls (.int (x / y) :: st)))) : Go p e below s Q rc rs (T.setTop (mkF m pc Ls (.int y :: .int x :: st))) := by
  subst hp; exact g.by fun t k => XS.idiv X.here hx rfl hd rfl hy k
theorem g_ladd (X : Stand p l e R s m args below meth c T locs cells slots) (hx : p.tables.exec = Jvm.exec) {x y : Int64} (pc' : Nat) (hd : decode c.code pc = .ok (.ladd, 1)) (hp : pc + 1 = pc') (g : Go p e below s Q rc rs (T.setTop (mkF m pc' Ls (.long (x + y) :: st)))) : Go p e below s Q rc rs (T.setTop (mkF m pc Ls (.long y :: .long x :: st))) := by
  subst hp; exact g.by fun t k => XS.ladd X.here hx rfl hd rfl k
theorem g_lsub (X : Stand p l e R s m args below meth c T locs cells slots) (hx : p.tables.exec = Jvm.exec) {x y : Int64} (pc' : Nat) (hd : decode c.code pc = .ok (.lsub, 1)) (hp : pc + 1 = pc') (g : Go p e below s Q rc rs (T.setTop (mkF m pc' Ls (.long (x - y) :: st)))) : Go p e below s Q rc rs (T.setTop (mkF m pc Ls (.long y :: .long x :: st))) := by
  subst hp; exact g.by fun t k => XS.lsub X.here hx rfl hd rfl k
theorem g_lmul (X : Stand p l e R s m args below meth c T locs cells slots) (hx : p.tables.exec = Jvm.exec) {x y : Int64} (pc' : Nat) (hd : decode c.code pc = .ok (.lmul, 1)) (hp : pc + 1 = pc') (g : Go p e below s Q rc rs (T.setTop (mkF m pc' Ls (.long (x * y) :: st)))) : Go p e below s Q rc rs (T.setTop (mkF m pc Ls (.long y :: .long x :: st))) := by
  subst hp; exact g.by fun t k => XS.lmul X.here hx rfl hd rfl k
theorem g_land (X : Stand p l e R s m args below meth c T locs cells slots) (hx : p.tables.exec = Jvm.exec) {x y : Int64} (pc' : Nat) (hd : decode c.code pc = .ok (.land, 1)) (hp : pc + 1 = pc') (g : Go p e below s Q rc rs (T.setTop (mkF m pc' Ls (.long (x &&& y) :: st)))) : Go p e below s Q rc rs (T.setTop (mkF m pc Ls (.long y :: .long x :: st))) := by
  subst hp; exact g.by fun t k => XS.land X.here hx rfl hd rfl k
theorem g_lor (X : Stand p l e R s m args below meth c T locs cells slots) (hx : p.tables.exec = Jvm.exec) {x y : Int64} (pc' : Nat) (hd : decode c.code pc = .ok (.lor, 1)) (hp : pc + 1 = pc') (g : Go p e below s Q rc rs (T.setTop (mkF m pc' Ls (.long (x ||| y) :: st)))) : Go p e below s Q rc rs (T.setTop (mkF m pc Ls (.long y :: .long x :: st))) := by
  subst hp; exact g.by fun t k => XS.lor X.here hx rfl hd rfl k
theorem g_lxor (X : Stand p l e R s m args below meth c T locs cells slots) (hx : p.tables.exec = Jvm.exec) {x y : Int64} (pc' : Nat) (hd : decode c.code pc = .ok (.lxor, 1)) (hp : pc + 1 = pc') (g : Go p e below s Q rc rs (T.setTop (mkF m pc' Ls (.long (x ^^^ y) :: st)))) : Go p e below s Q rc rs (T.setTop (mkF m pc Ls (.long y :: .long x :: st))) := by
  subst hp; exact g.by fun t k => XS.lxor X.here hx rfl hd rfl k
theorem g_lneg (X : Stand p l e R s m args below meth c T locs cells slots) (hx : p.tables.exec = Jvm.exec) {x : Int64} (pc' : Nat) (hd : decode c.code pc = .ok (.lneg, 1)) (hp : pc + 1 = pc') (g : Go p e below s Q rc rs (T.setTop (mkF m pc' Ls (.long (-x) :: st)))) : Go p e below s Q rc rs (T.setTop (mkF m pc Ls (.long x :: st))) := by
  subst hp; exact g.by fun t k => XS.lneg X.here hx rfl hd rfl k
theorem g_ldiv (X : Stand p l e R s m args below meth c T locs cells slots) (hx : p.tables.exec = Jvm.exec) {x y : Int64} (pc' : Nat) (hd : decode c.code pc = .ok (.ldiv, 1)) (hy : y ≠ 0) (hp : pc + 1 = pc') (g : Go p e below s Q rc rs (T.setTop (mkF m pc' Ls (.long (x / y) :: st)))) : Go p e below s Q rc rs (T.setTop (mkF m pc Ls (.long y :: .long x :: st))) := by
  subst hp; exact g.by fun t k => XS.ldiv X.here hx rfl hd rfl hy k
theorem g_irem (X : Stand p l e R s m args below meth c T locs cells slots) (hx : p.tables.exec = Jvm.exec) {x y : Int32} (pc' : Nat) (hd : decode c.code pc = .ok (.irem, 1)) (hy : y ≠ 0) (hp : pc + 1 = pc') (g : Go p e below s Q rc rs (T.setTop (mkF m pc' Ls (.int (x % y) :: st)))) : Go p e below s Q rc rs (T.setTop (mkF m pc Ls (.int y :: .int x :: st))) := by
  subst hp; exact g.by fun t k => iremM X hx rfl hd rfl hy k
theorem g_lrem (X : Stand p l e R s m args below meth c T locs cells slots) (hx : p.tables.exec = Jvm.exec) {x y : Int64} (pc' : Nat) (hd : decode c.code pc = .ok (.lrem, 1)) (hy : y ≠ 0) (hp : pc + 1 = pc') (g : Go p e below s Q rc rs (T.setTop (mkF m pc' Ls (.long (x % y) :: st)))) : Go p e below s Q rc rs (T.setTop (mkF m pc Ls (.long y :: .long x :: st))) := by
  subst hp; exact g.by fun t k => XS.lrem X.here hx rfl hd rfl hy (by rw [lrem_mod]; exact k)
theorem g_ishl (X : Stand p l e R s m args below meth c T locs cells slots) (hx : p.tables.exec = Jvm.exec) {x : Int32} {y : Int32} (pc' : Nat) (hd : decode c.code pc = .ok (.ishl, 1)) (hp : pc + 1 = pc') (g : Go p e below s Q rc rs (T.setTop (mkF m pc' Ls (.int (shlI x y) :: st)))) : Go p e below s Q rc rs (T.setTop (mkF m pc Ls (.int y :: .int x :: st))) := by
  subst hp; exact g.by fun t k => XS.ishl X.here hx rfl hd rfl k
theorem g_ishr (X : Stand p l e R s m args below meth c T locs cells slots) (hx : p.tables.exec = Jvm.exec) {x : Int32} {y : Int32} (pc' : Nat) (hd : decode c.code pc = .ok (.ishr, 1)) (hp : pc + 1 = pc') (g : Go p e below s Q rc rs (T.setTop (mkF m pc' Ls (.int (shrI x y) :: st)))) : Go p e below s Q rc rs (T.setTop (mkF m pc Ls (.int y :: .int x :: st))) := by
  subst hp; exact g.by fun t k => XS.ishr X.here hx rfl hd rfl k
theorem g_iushr (X : Stand p l e R s m args below meth c T locs cells slots) (hx : p.tables.exec = Jvm.exec) {x : Int32} {y : Int32} (pc' : Nat) (hd : decode c.code pc = .ok (.iushr, 1)) (hp : pc + 1 = pc') (g : Go p e below s Q rc rs (T.setTop (mkF m pc' Ls (.int (ushrI x y) :: st)))) : Go p e below s Q rc rs (T.setTop (mkF m pc Ls (.int y :: .int x :: st))) := by
  subst hp; exact g.by fun t k => XS.iushr X.here hx rfl hd rfl k
theorem g_lshl (X : Stand p l e R s m args below meth c T locs cells slots) (hx : p.tables.exec = Jvm.exec) {x : Int64} {y : Int32} (pc' : Nat) (hd : decode c.code pc = .ok (.lshl, 1)) (hp : pc + 1 = pc') (g : Go p e below s Q rc rs (T.setTop (mkF m pc' Ls (.long (shlJ x y) :: st)))) : Go p e below s Q rc rs (T.setTop (mkF m pc Ls (.int y :: .long x :: st))) := by
  subst hp; exact g.by fun t k => XS.lshl X.here hx rfl hd rfl k
theorem g_lshr (X : Stand p l e R s m args below meth c T locs cells slots) (hx : p.tables.exec = Jvm.exec) {x : Int64} {y : Int32} (pc' : Nat) (hd : decode c.code pc = .ok (.lshr, 1)) (hp : pc + 1 = pc') (g : Go p e below s Q rc rs (T.setTop (mkF m pc' Ls (.long (shrJ x y) :: st)))) : Go p e below s Q rc rs (T.setTop (mkF m pc Ls (.int y :: .long x :: st))) := by
  subst hp; exact g.by fun t k => XS.lshr X.here hx rfl hd rfl k
theorem g_lushr (X : Stand p l e R s m args below meth c T locs cells slots) (hx : p.tables.exec = Jvm.exec) {x : Int64} {y : Int32} (pc' : Nat) (hd : decode c.code pc = .ok (.lushr, 1)) (hp : pc + 1 = pc') (g : Go p e below s Q rc rs (T.setTop (mkF m pc' Ls (.long (ushrJ x y) :: st)))) : Go p e below s Q rc rs (T.setTop (mkF m pc Ls (.int y :: .long x :: st))) := by
  subst hp; exact g.by fun t k => XS.lushr X.here hx rfl hd rfl k
theorem g_i2l (X : Stand p l e R s m args below meth c T locs cells slots) (hx : p.tables.exec = Jvm.exec) {x : Int32} (pc' : Nat) (hd : decode c.code pc = .ok (.i2l, 1)) (hp : pc + 1 = pc') (g : Go p e below s Q rc rs (T.setTop (mkF m pc' Ls (.long (x.toInt64) :: st)))) : Go p e below s Q rc rs (T.setTop (mkF m pc Ls (.int x :: st))) := by
  subst hp; exact g.by fun t k => XS.i2l X.here hx rfl hd rfl k
theorem g_l2i (X : Stand p l e R s m args below meth c T locs cells slots) (hx : p.tables.exec = Jvm.exec) {x : Int64} (pc' : Nat) (hd : decode c.code pc = .ok (.l2i, 1)) (hp : pc + 1 = pc') (g : Go p e below s Q rc rs (T.setTop (mkF m pc' Ls (.int (x.toInt32) :: st)))) : Go p e below s Q rc rs (T.setTop (mkF m pc Ls (.long x :: st))) := by
  subst hp; exact g.by fun t k => XS.l2i X.here hx rfl hd rfl k
theorem g_i2b (X : Stand p l e R s m args below meth c T locs cells slots) (hx : p.tables.exec = Jvm.exec) {x : Int32} (pc' : Nat) (hd : decode c.code pc = .ok (.i2b, 1)) (hp : pc + 1 = pc') (g : Go p e below s Q rc rs (T.setTop (mkF m pc' Ls (.int (i2bI x) :: st)))) : Go p e below s Q rc rs (T.setTop (mkF m pc Ls (.int x :: st))) := by
  subst hp; exact g.by fun t k => XS.i2b X.here hx rfl hd rfl k
theorem g_i2c (X : Stand p l e R s m args below meth c T locs cells slots) (hx : p.tables.exec = Jvm.exec) {x : Int32} (pc' : Nat) (hd : decode c.code pc = .ok (.i2c, 1)) (hp : pc + 1 = pc') (g : Go p e below s Q rc rs (T.setTop (mkF m pc' Ls (.int (i2cI x) :: st)))) : Go p e below s Q rc rs (T.setTop (mkF m pc Ls (.int x :: st))) := by
  subst hp; exact g.by fun t k => XS.i2c X.here hx rfl hd rfl k
theorem g_i2s (X : Stand p l e R s m args below meth c T locs cells slots) (hx : p.tables.exec = Jvm.exec) {x : Int32} (pc' : Nat) (hd : decode c.code pc = .ok (.i2s, 1)) (hp : pc + 1 = pc') (g : Go p e below s Q rc rs (T.setTop (mkF m pc' Ls (.int (i2sI x) :: st)))) : Go p e below s Q rc rs (T.setTop (mkF m pc Ls (.int x :: st))) := by
  subst hp; exact g.by fun t k => XS.i2s X.here hx rfl hd rfl k
theorem g_lcmp (X : Stand p l e R s m args below meth c T locs cells slots) (hx : p.tables.exec = Jvm.exec) {x y : Int64} (pc' : Nat) (hd : decode c.code pc = .ok (.lcmp, 1)) (hp : pc + 1 = pc') (g : Go p e below s Q rc rs (T.setTop (mkF m pc' Ls (.int (lcmpW x y) :: st)))) : Go p e below s Q rc rs (T.setTop (mkF m pc Ls (.long y :: .long x :: st))) := by
  subst hp; exact g.by fun t k => XS.lcmp X.here hx rfl hd rfl k
theorem g_iinc (X : Stand p l e R s m args below meth c T locs cells slots) (hx : p.tables.exec = Jvm.exec) {k : Nat} {i : Int} {x : Int32} (v : Int32) (l' : Array Slot) (pc' : Nat) (hd : decode c.code pc = .ok (.iinc k i, 3)) (hv : Int32.ofInt i = v) (hl : Ls[k]? = some (.val (.int x))) (hl' : storeLocals Ls k (.int (x + v)) = some l') (hp : pc + 3 = pc') (g : Go p e below s Q rc rs (T.setTop (mkF m pc' l' st))) : Go p e below s Q rc rs (T.setTop (mkF m pc Ls st)) := by
  subst hp hv; exact g.by fun t k => XS.iinc X.here hx rfl hd hl hl' k
theorem g_dup (X : Stand p l e R s m args below meth c T locs cells slots) (hx : p.tables.exec = Jvm.exec) {x : Value} (pc' : Nat) (hd : decode c.code pc = .ok (.dup, 1)) (hc : x.category = 1) (hp : pc + 1 = pc') (g : Go p e below s Q rc rs (T.setTop (mkF m pc' Ls (x :: x :: st)))) : Go p e below s Q rc rs (T.setTop (mkF m pc Ls (x :: st))) := by
  subst hp; exact g.by fun t k => XS.dup X.here hx rfl hd rfl hc k
theorem g_pop (X : Stand p l e R s m args below meth c T locs cells slots) (hx : p.tables.exec = Jvm.exec) {x : Value} (pc' : Nat) (hd : decode c.code pc = .ok (.pop, 1)) (hc : x.category = 1) (hp : pc + 1 = pc') (g : Go p e below s Q rc rs (T.setTop (mkF m pc' Ls st))) : Go p e below s Q rc rs (T.setTop (mkF m pc Ls (x :: st))) := by
  subst hp; exact g.by fun t k => XS.pop X.here hx rfl hd rfl hc k
theorem g_dup_x1 (X : Stand p l e R s m args below meth c T locs cells slots) (hx : p.tables.exec = Jvm.exec) {x y : Value} (pc' : Nat) (hd : decode c.code pc = .ok (.dup_x1, 1)) (hc : x.category = 1) (hc2 : y.category = 1) (hp : pc + 1 = pc') (g : Go p e below s Q rc rs (T.setTop (mkF m pc' Ls (x :: y :: x :: st)))) : Go p e below s Q rc rs (T.setTop (mkF m pc Ls (x :: y :: st))) := by
  subst hp; exact g.by fun t k => XS.dupX1 X.here hx rfl hd rfl hc hc2 k
theorem g_dup2 (X : Stand p l e R s m args below meth c T locs cells slots) (hx : p.tables.exec = Jvm.exec) {x y : Value} (pc' : Nat) (hd : decode c.code pc = .ok (.dup2, 1)) (hc : x.category = 1) (hc2 : y.category = 1) (hp : pc + 1 = pc') (g : Go p e below s Q rc rs (T.setTop (mkF m pc' Ls (x :: y :: x :: y :: st)))) : Go p e below s Q rc rs (T.setTop (mkF m pc Ls (x :: y :: st))) := by
  subst hp; exact g.by fun t k => XT.dup2 X.here hx rfl hd rfl hc hc2 k
theorem g_dup2L (X : Stand p l e R s m args below meth c T locs cells slots) (hx : p.tables.exec = Jvm.exec) {x : Int64} (pc' : Nat) (hd : decode c.code pc = .ok (.dup2, 1)) (hp : pc + 1 = pc') (g : Go p e below s Q rc rs (T.setTop (mkF m pc' Ls (.long x :: .long x :: st)))) : Go p e below s Q rc rs (T.setTop (mkF m pc Ls (.long x :: st))) := by
  subst hp; exact g.by fun t k => XT.dup2L X.here hx rfl hd rfl k
theorem g_pop2L (X : Stand p l e R s m args below meth c T locs cells slots) (hx : p.tables.exec = Jvm.exec) {x : Int64} (pc' : Nat) (hd : decode c.code pc = .ok (.pop2, 1)) (hp : pc + 1 = pc') (g : Go p e below s Q rc rs (T.setTop (mkF m pc' Ls st))) : Go p e below s Q rc rs (T.setTop (mkF m pc Ls (.long x :: st))) := by
  subst hp; refine g.by fun t k => ?_
  jvm_step X.here [X.here.top, hx, hd, Value.category]
  exact k
theorem g_goto (X : Stand p l e R s m args below meth c T locs cells slots) (hx : p.tables.exec = Jvm.exec) {o : Int} (pc' : Nat) (hd : decode c.code pc = .ok (.goto o, 3)) (ho : 0 ≤ (pc : Int) + o) (hp : ((pc : Int) + o).toNat = pc') (g : Go p e below s Q rc rs (T.setTop (mkF m pc' Ls st))) : Go p e below s Q rc rs (T.setTop (mkF m pc Ls st)) := by
  subst hp; exact g.by fun t k => XS.goto X.here hx rfl rfl hd ho rfl k
theorem g_icmp_lt (X : Stand p l e R s m args below meth c T locs cells slots) (hx : p.tables.exec = Jvm.exec) {x y : Int32} {o : Int} (pcY pcN : Nat) (hd : decode c.code pc = .ok (.if_icmp .lt o, 3)) (ho : 0 ≤ (pc : Int) + o) (hY : ((pc : Int) + o).toNat = pcY) (hN : pc + 3 = pcN) (gp : x < y → Go p e below s Q rc rs (T.setTop (mkF m pcY Ls st))) (gn : ¬ x < y → Go p e below s Q rc rs (T.setTop (mkF m pcN Ls st))) : Go p e below s Q rc rs (T.setTop (mkF m pc Ls (.int y :: .int x :: st))) := by
  subst hY hN
  by_cases q : x < y
  · exact (gp q).by fun t k => XS.icmpYes X.here hx rfl rfl hd rfl (tlt q).1 ho rfl k
  · exact (gn q).by fun t k => XS.icmpNo X.here hx rfl hd rfl (flt q).1 k
theorem g_if0_lt (X : Stand p l e R s m args below meth c T locs cells slots) (hx : p.tables.exec = Jvm.exec) {x : Int32} {o : Int} (pcY pcN : Nat) (hd : decode c.code pc = .ok (.ifCond .lt o, 3)) (ho : 0 ≤ (pc : Int) + o) (hY : ((pc : Int) + o).toNat = pcY) (hN : pc + 3 = pcN) (gp : x < 0 → Go p e below s Q rc rs (T.setTop (mkF m pcY Ls st))) (gn : ¬ x < 0 → Go p e below s Q rc rs (T.setTop (mkF m pcN Ls st))) : Go p e below s Q rc rs (T.setTop (mkF m pc Ls (.int x :: st))) := by
  subst hY hN
  by_cases q : x < 0
  · exact (gp q).by fun t k => XS.ifYes X.here hx rfl rfl hd rfl ((if0 _ _).trans (tlt q).1) ho rfl k
  · exact (gn q).by fun t k => XS.ifNo X.here hx rfl hd rfl ((if0 _ _).trans (flt q).1) k
theorem g_lc_lt (X : Stand p l e R s m args below meth c T locs cells slots) (hx : p.tables.exec = Jvm.exec) {x y : Int64} {o : Int} (pcY pcN : Nat) (hd : decode c.code pc = .ok (.ifCond .lt o, 3)) (ho : 0 ≤ (pc : Int) + o) (hY : ((pc : Int) + o).toNat = pcY) (hN : pc + 3 = pcN) (gp : x < y → Go p e below s Q rc rs (T.setTop (mkF m pcY Ls st))) (gn : ¬ x < y → Go p e below s Q rc rs (T.setTop (mkF m pcN Ls st))) : Go p e below s Q rc rs (T.setTop (mkF m pc Ls (.int (lcmpW x y) :: st))) :=
  g_if0_lt X hx pcY pcN hd ho hY hN (fun q => gp ((lw_lt x y).1 q)) (fun q => gn fun r => q ((lw_lt x y).2 r))
theorem g_icmp_ge (X : Stand p l e R s m args below meth c T locs cells slots) (hx : p.tables.exec = Jvm.exec) {x y : Int32} {o : Int} (pcY pcN : Nat) (hd : decode c.code pc = .ok (.if_icmp .ge o, 3)) (ho : 0 ≤ (pc : Int) + o) (hY : ((pc : Int) + o).toNat = pcY) (hN : pc + 3 = pcN) (gp : x < y → Go p e below s Q rc rs (T.setTop (mkF m pcN Ls st))) (gn : ¬ x < y → Go p e below s Q rc rs (T.setTop (mkF m pcY Ls st))) : Go p e below s Q rc rs (T.setTop (mkF m pc Ls (.int y :: .int x :: st))) := by
  subst hY hN
  by_cases q : x < y
  · exact (gp q).by fun t k => XS.icmpNo X.here hx rfl hd rfl (tlt q).2.1 k
  · exact (gn q).by fun t k => XS.icmpYes X.here hx rfl rfl hd rfl (flt q).2.1 ho rfl k
theorem g_if0_ge (X : Stand p l e R s m args below meth c T locs cells slots) (hx : p.tables.exec = Jvm.exec) {x : Int32} {o : Int} (pcY pcN : Nat) (hd : decode c.code pc = .ok (.ifCond .ge o, 3)) (ho : 0 ≤ (pc : Int) + o) (hY : ((pc : Int) + o).toNat = pcY) (hN : pc + 3 = pcN) (gp : x < 0 → Go p e below s Q rc rs (T.setTop (mkF m pcN Ls st))) (gn : ¬ x < 0 → Go p e below s Q rc rs (T.setTop (mkF m pcY Ls st))) : Go p e below s Q rc rs (T.setTop (mkF m pc Ls (.int x :: st))) := by
  subst hY hN
  by_cases q : x < 0
  · exact (gp q).by fun t k => XS.ifNo X.here hx rfl hd rfl ((if0 _ _).trans (tlt q).2.1) k
  · exact (gn q).by fun t k => XS.ifYes X.here hx rfl rfl hd rfl ((if0 _ _).trans (flt q).2.1) ho rfl k
theorem g_lc_ge (X : Stand p l e R s m args below meth c T locs cells slots) (hx : p.tables.exec = Jvm.exec) {x y : Int64} {o : Int} (pcY pcN : Nat) (hd : decode c.code pc = .ok (.ifCond .ge o, 3)) (ho : 0 ≤ (pc : Int) + o) (hY : ((pc : Int) + o).toNat = pcY) (hN : pc + 3 = pcN) (gp : x < y → Go p e below s Q rc rs (T.setTop (mkF m pcN Ls st))) (gn : ¬ x < y → Go p e below s Q rc rs (T.setTop (mkF m pcY Ls st))) : Go p e below s Q rc rs (T.setTop (mkF m pc Ls (.int (lcmpW x y) :: st))) :=
  g_if0_ge X hx pcY pcN hd ho hY hN (fun q => gp ((lw_lt x y).1 q)) (fun q => gn fun r => q ((lw_lt x y).2 r))
theorem g_icmp_gt (X : Stand p l e R s m args below meth c T locs cells slots) (hx : p.tables.exec = Jvm.exec) {x y : Int32} {o : Int} (pcY pcN : Nat) (hd : decode c.code pc = .ok (.if_icmp .gt o, 3)) (ho : 0 ≤ (pc : Int) + o) (hY : ((pc : Int) + o).toNat = pcY) (hN : pc + 3 = pcN) (gp : y < x → Go p e below s Q rc rs (T.setTop (mkF m pcY Ls st))) (gn : ¬ y < x → Go p e below s Q rc rs (T.setTop (mkF m pcN Ls st))) : Go p e below s Q rc rs (T.setTop (mkF m pc Ls (.int y :: .int x :: st))) := by
  subst hY hN
  by_cases q : y < x
  · exact (gp q).by fun t k => XS.icmpYes X.here hx rfl rfl hd rfl (tlt q).2.2.1 ho rfl k
  · exact (gn q).by fun t k => XS.icmpNo X.here hx rfl hd rfl (flt q).2.2.1 k
theorem g_if0_gt (X : Stand p l e R s m args below meth c T locs cells slots) (hx : p.tables.exec = Jvm.exec) {x : Int32} {o : Int} (pcY pcN : Nat) (hd : decode c.code pc = .ok (.ifCond .gt o, 3)) (ho : 0 ≤ (pc : Int) + o) (hY : ((pc : Int) + o).toNat = pcY) (hN : pc + 3 = pcN) (gp : 0 < x → Go p e below s Q rc rs (T.setTop (mkF m pcY Ls st))) (gn : ¬ 0 < x → Go p e below s Q rc rs (T.setTop (mkF m pcN Ls st))) : Go p e below s Q rc rs (T.setTop (mkF m pc Ls (.int x :: st))) := by
  subst hY hN
  by_cases q : 0 < x
  · exact (gp q).by fun t k => XS.ifYes X.here hx rfl rfl hd rfl ((if0 _ _).trans (tlt q).2.2.1) ho rfl k
  · exact (gn q).by fun t k => XS.ifNo X.here hx rfl hd rfl ((if0 _ _).trans (flt q).2.2.1) k
theorem g_lc_gt (X : Stand p l e R s m args below meth c T locs cells slots) (hx : p.tables.exec = Jvm.exec) {x y : Int64} {o : Int} (pcY pcN : Nat) (hd : decode c.code pc = .ok (.ifCond .gt o, 3)) (ho : 0 ≤ (pc : Int) + o) (hY : ((pc : Int) + o).toNat = pcY) (hN : pc + 3 = pcN) (gp : y < x → Go p e below s Q rc rs (T.setTop (mkF m pcY Ls st))) (gn : ¬ y < x → Go p e below s Q rc rs (T.setTop (mkF m pcN Ls st))) : Go p e below s Q rc rs (T.setTop (mkF m pc Ls (.int (lcmpW x y) :: st))) :=
  g_if0_gt X hx pcY pcN hd ho hY hN (fun q => gp ((lw_gt x y).1 q)) (fun q => gn fun r => q ((lw_gt x y).2 r))
theorem g_icmp_le (X : Stand p l e R s m args below meth c T locs cells slots) (hx : p.tables.exec = Jvm.exec) {x y : Int32} {o : Int} (pcY pcN : Nat) (hd : decode c.code pc = .ok (.if_icmp .le o, 3)) (ho : 0 ≤ (pc : Int) + o) (hY : ((pc : Int) + o).toNat = pcY) (hN : pc + 3 = pcN) (gp : y < x → Go p e below s Q rc rs (T.setTop (mkF m pcN Ls st))) (gn : ¬ y < x → Go p e below s Q rc rs (T.setTop (mkF m pcY Ls st))) : Go p e below s Q rc rs (T.setTop (mkF m pc Ls (.int y :: .int x :: st))) := by
  subst hY hN
  by_cases q : y < x
  · exact (gp q).by fun t k => XS.icmpNo X.here hx rfl hd rfl (tlt q).2.2.2 k
  · exact (gn q).by fun t k => XS.icmpYes X.here hx rfl rfl hd rfl (flt q).2.2.2 ho rfl k
theorem g_if0_le (X : Stand p l e R s m args below meth c T locs cells slots) (hx : p.tables.exec = Jvm.exec) {x : Int32} {o : Int} (pcY pcN : Nat) (hd : decode c.code pc = .ok (.ifCond .le o, 3)) (ho : 0 ≤ (pc : Int) + o) (hY : ((pc : Int) + o).toNat = pcY) (hN : pc + 3 = pcN) (gp : 0 < x → Go p e below s Q rc rs (T.setTop (mkF m pcN Ls st))) (gn : ¬ 0 < x → Go p e below s Q rc rs (T.setTop (mkF m pcY Ls st))) : Go p e below s Q rc rs (T.setTop (mkF m pc Ls (.int x :: st))) := by
  subst hY hN
  by_cases q : 0 < x
  · exact (gp q).by fun t k => XS.ifNo X.here hx rfl hd rfl ((if0 _ _).trans (tlt q).2.2.2) k
  · exact (gn q).by fun t k => XS.ifYes X.here hx rfl rfl hd rfl ((if0 _ _).trans (flt q).2.2.2) ho rfl k
theorem g_lc_le (X : Stand p l e R s m args below meth c T locs cells slots) (hx : p.tables.exec = Jvm.exec) {x y : Int64} {o : Int} (pcY pcN : Nat) (hd : decode c.code pc = .ok (.ifCond .le o, 3)) (ho : 0 ≤ (pc : Int) + o) (hY : ((pc : Int) + o).toNat = pcY) (hN : pc + 3 = pcN) (gp : y < x → Go p e below s Q rc rs (T.setTop (mkF m pcN Ls st))) (gn : ¬ y < x → Go p e below s Q rc rs (T.setTop (mkF m pcY Ls st))) : Go p e below s Q rc rs (T.setTop (mkF m pc Ls (.int (lcmpW x y) :: st))) :=
  g_if0_le X hx pcY pcN hd ho hY hN (fun q => gp ((lw_gt x y).1 q)) (fun q => gn fun r => q ((lw_gt x y).2 r))
theorem g_icmp_eq (X : Stand p l e R s m args below meth c T locs cells slots) (hx : p.tables.exec = Jvm.exec) {x y : Int32} {o : Int} (pcY pcN : Nat) (hd : decode c.code pc = .ok (.if_icmp .eq o, 3)) (ho : 0 ≤ (pc : Int) + o) (hY : ((pc : Int) + o).toNat = pcY) (hN : pc + 3 = pcN) (gp : x = y → Go p e below s Q rc rs (T.setTop (mkF m pcY Ls st))) (gn : ¬ x = y → Go p e below s Q rc rs (T.setTop (mkF m pcN Ls st))) : Go p e below s Q rc rs (T.setTop (mkF m pc Ls (.int y :: .int x :: st))) := by
  subst hY hN
  by_cases q : x = y
  · exact (gp q).by fun t k => XS.icmpYes X.here hx rfl rfl hd rfl (teq q).1 ho rfl k
  · exact (gn q).by fun t k => XS.icmpNo X.here hx rfl hd rfl (feq q).1 k
theorem g_if0_eq (X : Stand p l e R s m args below meth c T locs cells slots) (hx : p.tables.exec = Jvm.exec) {x : Int32} {o : Int} (pcY pcN : Nat) (hd : decode c.code pc = .ok (.ifCond .eq o, 3)) (ho : 0 ≤ (pc : Int) + o) (hY : ((pc : Int) + o).toNat = pcY) (hN : pc + 3 = pcN) (gp : x = 0 → Go p e below s Q rc rs (T.setTop (mkF m pcY Ls st))) (gn : ¬ x = 0 → Go p e below s Q rc rs (T.setTop (mkF m pcN Ls st))) : Go p e below s Q rc rs (T.setTop (mkF m pc Ls (.int x :: st))) := by
  subst hY hN
  by_cases q : x = 0
  · exact (gp q).by fun t k => XS.ifYes X.here hx rfl rfl hd rfl ((if0 _ _).trans (teq q).1) ho rfl k
  · exact (gn q).by fun t k => XS.ifNo X.here hx rfl hd rfl ((if0 _ _).trans (feq q).1) k
theorem g_lc_eq (X : Stand p l e R s m args below meth c T locs cells slots) (hx : p.tables.exec = Jvm.exec) {x y : Int64} {o : Int} (pcY pcN : Nat) (hd : decode c.code pc = .ok (.ifCond .eq o, 3)) (ho : 0 ≤ (pc : Int) + o) (hY : ((pc : Int) + o).toNat = pcY) (hN : pc + 3 = pcN) (gp : x = y → Go p e below s Q rc rs (T.setTop (mkF m pcY Ls st))) (gn : ¬ x = y → Go p e below s Q rc rs (T.setTop (mkF m pcN Ls st))) : Go p e below s Q rc rs (T.setTop (mkF m pc Ls (.int (lcmpW x y) :: st))) :=
  g_if0_eq X hx pcY pcN hd ho hY hN (fun q => gp ((lw_eq x y).1 q)) (fun q => gn fun r => q ((lw_eq x y).2 r))
theorem g_icmp_ne (X : Stand p l e R s m args below meth c T locs cells slots) (hx : p.tables.exec = Jvm.exec) {x y : Int32} {o : Int} (pcY pcN : Nat) (hd : decode c.code pc = .ok (.if_icmp .ne o, 3)) (ho : 0 ≤ (pc : Int) + o) (hY : ((pc : Int) + o).toNat = pcY) (hN : pc + 3 = pcN) (gp : x = y → Go p e below s Q rc rs (T.setTop (mkF m pcN Ls st))) (gn : ¬ x = y → Go p e below s Q rc rs (T.setTop (mkF m pcY Ls st))) : Go p e below s Q rc rs (T.setTop (mkF m pc Ls (.int y :: .int x :: st))) := by
  subst hY hN
  by_cases q : x = y
  · exact (gp q).by fun t k => XS.icmpNo X.here hx rfl hd rfl (teq q).2 k
  · exact (gn q).by fun t k => XS.icmpYes X.here hx rfl rfl hd rfl (feq q).2 ho rfl k
theorem g_if0_ne (X : Stand p l e R s m args below meth c T locs cells slots) (hx : p.tables.exec = Jvm.exec) {x : Int32} {o : Int} (pcY pcN : Nat) (hd : decode c.code pc = .ok (.ifCond .ne o, 3)) (ho : 0 ≤ (pc : Int) + o) (hY : ((pc : Int) + o).toNat = pcY) (hN : pc + 3 = pcN) (gp : x = 0 → Go p e below s Q rc rs (T.setTop (mkF m pcN Ls st))) (gn : ¬ x = 0 → Go p e below s Q rc rs (T.setTop (mkF m pcY Ls st))) : Go p e below s Q rc rs (T.setTop (mkF m pc Ls (.int x :: st))) := by
  subst hY hN
  by_cases q : x = 0
  · exact (gp q).by fun t k => XS.ifNo X.here hx rfl hd rfl ((if0 _ _).trans (teq q).2) k
  · exact (gn q).by fun t k => XS.ifYes X.here hx rfl rfl hd rfl ((if0 _ _).trans (feq q).2) ho rfl k
theorem g_lc_ne (X : Stand p l e R s m args below meth c T locs cells slots) (hx : p.tables.exec = Jvm.exec) {x y : Int64} {o : Int} (pcY pcN : Nat) (hd : decode c.code pc = .ok (.ifCond .ne o, 3)) (ho : 0 ≤ (pc : Int) + o) (hY : ((pc : Int) + o).toNat = pcY) (hN : pc + 3 = pcN) (gp : x = y → Go p e below s Q rc rs (T.setTop (mkF m pcN Ls st))) (gn : ¬ x = y → Go p e below s Q rc rs (T.setTop (mkF m pcY Ls st))) : Go p e below s Q rc rs (T.setTop (mkF m pc Ls (.int (lcmpW x y) :: st))) :=
  g_if0_ne X hx pcY pcN hd ho hY hN (fun q => gp ((lw_eq x y).1 q)) (fun q => gn fun r => q ((lw_eq x y).2 r))
theorem g_ifnull_no (X : Stand p l e R s m args below meth c T locs cells slots) (hx : p.tables.exec = Jvm.exec) {b : Addr} {o : Int} (pc' : Nat) (hd : decode c.code pc = .ok (.ifnull o, 3)) (hp : pc + 3 = pc') (g : Go p e below s Q rc rs (T.setTop (mkF m pc' Ls st))) : Go p e below s Q rc rs (T.setTop (mkF m pc Ls (.ref b :: st))) := by
  subst hp; exact g.by fun t k => XS.ifnullNo X.here hx rfl hd rfl k
theorem g_ifnonnull_yes (X : Stand p l e R s m args below meth c T locs cells slots) (hx : p.tables.exec = Jvm.exec) {b : Addr} {o : Int} (pc' : Nat) (hd : decode c.code pc = .ok (.ifnonnull o, 3)) (ho : 0 ≤ (pc : Int) + o) (hp : ((pc : Int) + o).toNat = pc') (g : Go p e below s Q rc rs (T.setTop (mkF m pc' Ls st))) : Go p e below s Q rc rs (T.setTop (mkF m pc Ls (.ref b :: st))) := by
  subst hp; exact g.by fun t k => XS.ifnonnullYes X.here hx rfl rfl hd rfl ho rfl k
theorem g_retI (X : Stand p l e R s m args below meth c T locs cells slots) (hx : p.tables.exec = Jvm.exec) (hret : meth.sig.returnType = some .int) (hlk : meth.locks = false) {z : Int32} (hd : decode c.code pc = .ok (.ireturn, 1)) (hc : cells ≤ rc) (hs : slots ≤ rs) (hQ : Q (some (.int z)) T.heap locs) : Go p e below s Q rc rs (T.setTop (mkF m pc Ls (.int z :: st))) := by
  obtain ⟨fs, hr, hrun, hended, hW, hsame⟩ := X.leave (v := some (.int z)) (fun q => by rw [hret] at q; cases q) hlk
  exact ⟨_, _, retI X hx hret hd hr, hrun, hended, _, _, rfl, hQ, ⟨_, rfl⟩, hW, hsame.mono hc hs⟩
theorem g_retN (X : Stand p l e R s m args below meth c T locs cells slots) (hx : p.tables.exec = Jvm.exec) {ty : FieldType} (hret : meth.sig.returnType = some ty) (ht : ty = .boolean ∨ ty = .byte ∨ ty = .char ∨ ty = .short) (hlk : meth.locks = false) {z : Int32} (hd : decode c.code pc = .ok (.ireturn, 1)) (hc : cells ≤ rc) (hs : slots ≤ rs) (hQ : Q (some (.int (nar ty z))) T.heap locs) : Go p e below s Q rc rs (T.setTop (mkF m pc Ls (.int z :: st))) := by
  obtain ⟨fs, hr, hrun, hended, hW, hsame⟩ := X.leave (v := some (.int (nar ty z))) (fun q => by rw [hret] at q; cases q) hlk
  exact ⟨_, _, retN X hx hret ht hd hr, hrun, hended, _, _, rfl, hQ, ⟨_, rfl⟩, hW, hsame.mono hc hs⟩
theorem g_retJ (X : Stand p l e R s m args below meth c T locs cells slots) (hx : p.tables.exec = Jvm.exec) (hret : meth.sig.returnType = some .long) (hlk : meth.locks = false) {z : Int64} (hd : decode c.code pc = .ok (.lreturn, 1)) (hc : cells ≤ rc) (hs : slots ≤ rs) (hQ : Q (some (.long z)) T.heap locs) : Go p e below s Q rc rs (T.setTop (mkF m pc Ls (.long z :: st))) := by
  obtain ⟨fs, hr, hrun, hended, hW, hsame⟩ := X.leave (v := some (.long z)) (fun q => by rw [hret] at q; cases q) hlk
  exact ⟨_, _, retOut X hx hret rfl (Or.inr (Or.inl ⟨rfl, rfl, z, rfl⟩)) hd hr, hrun, hended, _, _, rfl, hQ, ⟨_, rfl⟩, hW, hsame.mono hc hs⟩
theorem g_retA (X : Stand p l e R s m args below meth c T locs cells slots) (hx : p.tables.exec = Jvm.exec) {ty : FieldType} (hret : meth.sig.returnType = some ty) (ht : ty.isReference = true) (hlk : meth.locks = false) {b : Addr} (hd : decode c.code pc = .ok (.areturn, 1)) (hc : cells ≤ rc) (hs : slots ≤ rs) (hQ : Q (some (.ref b)) T.heap locs) : Go p e below s Q rc rs (T.setTop (mkF m pc Ls [.ref b])) := by
  obtain ⟨fs, hr, hrun, hended, hW, hsame⟩ := X.leave (v := some (.ref b)) (fun q => by rw [hret] at q; cases q) hlk
  exact ⟨_, _, X.areturnOut hx rfl hret ht hd hr, hrun, hended, _, _, rfl, hQ, ⟨_, rfl⟩, hW, hsame.mono hc hs⟩
theorem g_retV (X : Stand p l e R s m args below meth c T locs cells slots) (hx : p.tables.exec = Jvm.exec) (hret : meth.sig.returnType = none) (hlk : meth.locks = false) (hd : decode c.code pc = .ok (.return_, 1)) (hc : cells ≤ rc) (hs : slots ≤ rs) (hQ : Q none T.heap locs) : Go p e below s Q rc rs (T.setTop (mkF m pc Ls [])) := by
  obtain ⟨fs, hr, hrun, hended, hW, hsame⟩ := X.leave (v := none) (fun _ => rfl) hlk
  exact ⟨_, _, X.returnOut hx hret hd hr, hrun, hended, _, _, rfl, hQ, ⟨_, rfl⟩, hW, hsame.mono hc hs⟩
theorem g_body {y : MethodName} {bytes : ByteArray} {maxL : Nat} {ret : Option FieldType} {ws : List Jvm.Cond} {rm : Room} {as : Array Value} (hpn : plainFor y = true)
    (body : ∀ p e s m below meth c T, Stand p l e rm s m as below meth c T [] 0 0 → p.tables.exec = Jvm.exec → c.code = bytes → c.maxLocals = maxL → meth.sig.returnType = ret → meth.locks = false → s.vm.findClass y.cls = some m.cls → meth.name = y.name → Z.Warmed39 s.vm → T.heap = h → Go p e below s Q rc rs (T.setTop (entryFrame m as maxL))) :
    MetFree l y (head1 (Jvm.Cond.code y bytes maxL ret :: ws) rm) (fun a U => a = as ∧ Z.Warmed39 U.vm ∧ U.heap = h) (fun _ _ _ _ _ => True) (fun _ U o U' => ∃ v L, o = .returned v ∧ Q v U'.heap L ∧ FrameEnd U o U' L rc rs) := by
  refine MetFree.of_bodySF hpn hisR ?_
  intro p e s m args below meth c s₁ Bd hml hP hK
  obtain ⟨rfl, hZ, hh⟩ := hP
  exact body p e s m below meth c s₁ (Stand.of_body Bd) Bd.exec Bd.bytes hml Bd.returns Bd.notSynchronized (findClass_of_methodNamed Bd.named) (name_of_methodNamed Bd.named Bd.method).1 hZ (by rw [← hh, Bd.state]; rfl)
theorem g_callS (X : Stand p l e R s m args below meth c T locs cells slots) (hx : p.tables.exec = Jvm.exec) (hZ : Z.Warmed39 s.vm) {own : String} {i : Nat} {y : MethodName} {bytes : ByteArray} {maxL : Nat} {ret : Option FieldType} {rm : Room} {as : Array Value} {Q' : Option Value → Heap → List Loc → Prop} (hown : s.vm.findClass own = some m.cls) (w1 : (Jvm.Cond.methodLink own i y).before a0 Z = true) (w2 : (Jvm.Cond.static y).before a0 Z = true) (w3 : (Jvm.Cond.initialized y.cls).before a0 Z = true) (w4 : (Jvm.Cond.code y bytes maxL ret).before a0 Z = true) (hy : y.cls ≠ "java/lang/invoke/MethodHandle" ∧ y.cls ≠ "java/lang/invoke/VarHandle") (eT : T.heap = h) (hM : MetFree l y (head1 [Jvm.Cond.code y bytes maxL ret] rm) (fun a U => a = as ∧ Z.Warmed39 U.vm ∧ U.heap = h) (fun _ _ _ _ _ => True) (fun _ U o U' => ∃ v L, o = .returned v ∧ Q' v U'.heap L ∧ FrameEnd U o U' L rm.cells rm.slots)) (argsL rest : List Value) (W : Nat) (has : argsL.toArray = as) (hlen : ∀ sig, parseMethodDescriptor y.desc = some sig → argsL.length = sig.parameters.length) (hst : st = argsL.reverse ++ rest) (hW : (rest.map fun v => v.category).sum ≤ W) (hf : rm.frames + 1 ≤ R.frames) (hlo : W + (maxL + 11) + rm.locals ≤ R.locals) (hcl : cells + rm.cells ≤ R.cells) (hsl : slots + rm.slots ≤ R.slots) (hsz : Ls.size = c.maxLocals) (hd : decode c.code pc = .ok (.invokestatic i, 3)) (k : ∀ T' L v, Stand p l e R s m args below meth c T' (locs ++ L) (cells + rm.cells) (slots + rm.slots) → Q' v T'.heap L → Go p e below s Q rc rs (T'.setTop (mkF m (pc + 3) Ls (v.toList ++ rest)))) : Go p e below s Q rc rs (T.setTop (mkF m pc Ls st)) := by
  subst hst has
  obtain ⟨_, _, ⟨T', L', k', n'⟩, -, X', ⟨Lc, hQ, e1, e2, e3⟩, stp⟩ := Jvm.LawKit.callS X hx (y := y) hown (mvT hZ w1) (mvT hZ w2) (mvT hZ w3) (mvT hZ w4) hy (backOf (W := W) hM hZ w4 w3 hf hlo) (g := mkF m pc Ls (argsL.reverse ++ rest)) rfl hsz (argsL := argsL) (rest := rest) hlen rfl (by show 2 * 0 + _ ≤ _; omega) hd (fun _ _ => ⟨rfl, eT, hcl, hsl⟩)
  dsimp only [Pt.U, Pt.locs, Pt.cells, Pt.slots] at X' e1 e2 e3 stp hQ
  subst e1 e2 e3
  exact (k _ _ _ X' hQ).by stp
theorem g_callI (X : Stand p l e R s m args below meth c T locs cells slots) (hx : p.tables.exec = Jvm.exec) (hZ : Z.Warmed39 s.vm) {own : String} {i : Nat} {y : MethodName} {bytes : ByteArray} {maxL : Nat} {rm : Room} {as : Array Value} {Q' : Option Value → Heap → List Loc → Prop} (hy1 : y.name = "<init>") (hown : s.vm.findClass own = some m.cls) (w1 : (Jvm.Cond.methodLink own i y).before a0 Z = true) (w2 : (Jvm.Cond.instanceMethod y).before a0 Z = true) (w3 : (Jvm.Cond.initialized y.cls).before a0 Z = true) (w4 : (Jvm.Cond.code y bytes maxL none).before a0 Z = true) (hy : y.cls ≠ "java/lang/invoke/MethodHandle" ∧ y.cls ≠ "java/lang/invoke/VarHandle") (eT : T.heap = h) (hM : MetFree l y (head1 [Jvm.Cond.code y bytes maxL none] rm) (fun a U => a = as ∧ Z.Warmed39 U.vm ∧ U.heap = h) (fun _ _ _ _ _ => True) (fun _ U o U' => ∃ v L, o = .returned v ∧ Q' v U'.heap L ∧ FrameEnd U o U' L rm.cells rm.slots)) (b : Addr) (argsL rest : List Value) (W : Nat) (has : (.ref b :: argsL : List Value).toArray = as) (hlen : ∀ sig, parseMethodDescriptor y.desc = some sig → argsL.length = sig.parameters.length) (hst : st = argsL.reverse ++ .ref b :: rest) (hW : (rest.map fun v => v.category).sum ≤ W) (hf : rm.frames + 1 ≤ R.frames) (hlo : W + (maxL + 11) + rm.locals ≤ R.locals) (hcl : cells + rm.cells ≤ R.cells) (hsl : slots + rm.slots ≤ R.slots) (hsz : Ls.size = c.maxLocals) (hd : decode c.code pc = .ok (.invokespecial i, 3)) (k : ∀ T' L v, Stand p l e R s m args below meth c T' (locs ++ L) (cells + rm.cells) (slots + rm.slots) → Q' v T'.heap L → Go p e below s Q rc rs (T'.setTop (mkF m (pc + 3) Ls (v.toList ++ rest)))) : Go p e below s Q rc rs (T.setTop (mkF m pc Ls st)) := by
  subst hst has
  obtain ⟨_, _, ⟨T', L', k', n'⟩, -, X', ⟨Lc, hQ, e1, e2, e3⟩, stp⟩ := X.specialBack hx (y := y) hy1 hown (mvT hZ w1) (mvT hZ w2) (mvT hZ w4) hy (backOf (W := W) hM hZ w4 w3 hf hlo) (g := mkF m pc Ls (argsL.reverse ++ .ref b :: rest)) rfl hsz (Steps.refl _) (a := b) (argsL := argsL) (rest := rest) hlen rfl (by show 2 * 0 + _ ≤ _; omega) hd (fun _ _ => ⟨rfl, eT, hcl, hsl⟩)
  dsimp only [Pt.U, Pt.locs, Pt.cells, Pt.slots] at X' e1 e2 e3 stp hQ
  subst e1 e2 e3
  exact (k _ _ _ X' hQ).by fun t k => stp.trans k
theorem g_callV (X : Stand p l e R s m args below meth c T locs cells slots) (hx : p.tables.exec = Jvm.exec) (hZ : Z.Warmed39 s.vm) {own C : String} {i : Nat} {y : MethodName} {bytes : ByteArray} {maxL : Nat} {ret : Option FieldType} {rm : Room} {as : Array Value} {Q' : Option Value → Heap → List Loc → Prop} (hown : s.vm.findClass own = some m.cls) (w1 : (Jvm.Cond.methodLink own i y).before a0 Z = true) (w2 : (Jvm.Cond.declares y).before a0 Z = true) (w5 : (Jvm.Cond.selects C y y).before a0 Z = true) (w6 : (Jvm.Cond.instanceMethod y).before a0 Z = true) (w3 : (Jvm.Cond.initialized y.cls).before a0 Z = true) (w4 : (Jvm.Cond.code y bytes maxL ret).before a0 Z = true) (hy : y.cls ≠ "java/lang/invoke/MethodHandle" ∧ y.cls ≠ "java/lang/invoke/VarHandle") (eT : T.heap = h) (b : Addr) (E : Exa Z h b C) (hM : MetFree l y (head1 [Jvm.Cond.code y bytes maxL ret] rm) (fun a U => a = as ∧ Z.Warmed39 U.vm ∧ U.heap = h) (fun _ _ _ _ _ => True) (fun _ U o U' => ∃ v L, o = .returned v ∧ Q' v U'.heap L ∧ FrameEnd U o U' L rm.cells rm.slots)) (argsL rest : List Value) (W : Nat) (has : (.ref b :: argsL : List Value).toArray = as) (hlen : ∀ sig, parseMethodDescriptor y.desc = some sig → argsL.length = sig.parameters.length) (hst : st = argsL.reverse ++ .ref b :: rest) (hW : (rest.map fun v => v.category).sum ≤ W) (hf : rm.frames + 1 ≤ R.frames) (hlo : W + (maxL + 11) + rm.locals ≤ R.locals) (hcl : cells + rm.cells ≤ R.cells) (hsl : slots + rm.slots ≤ R.slots) (hsz : Ls.size = c.maxLocals) (hd : decode c.code pc = .ok (.invokevirtual i, 3)) (k : ∀ T' L v, Stand p l e R s m args below meth c T' (locs ++ L) (cells + rm.cells) (slots + rm.slots) → Q' v T'.heap L → Go p e below s Q rc rs (T'.setTop (mkF m (pc + 3) Ls (v.toList ++ rest)))) : Go p e below s Q rc rs (T.setTop (mkF m pc Ls st)) := by
  subst hst has
  obtain ⟨cq, kq, qa, qb, qc⟩ := isOf hZ eT E
  obtain ⟨_, _, ⟨T', L', k', n'⟩, -, X', ⟨Lc, hQ, e1, e2, e3⟩, stp⟩ := X.virtualBack hx (y := y) (z := y) hown (mvT hZ w1) (mvT hZ w2) (notFace_of_selects (args := #[]) (mvT hZ w5)) (mvT hZ w5) (mvT hZ w6) hy (backOf (W := W) hM hZ w4 w3 hf hlo) qa qc (g := mkF m pc Ls (argsL.reverse ++ .ref b :: rest)) rfl hsz (Steps.refl _) (argsL := argsL) (rest := rest) hlen rfl (by show 2 * 0 + _ ≤ _; omega) hd (fun _ _ => ⟨rfl, eT, hcl, hsl⟩)
  dsimp only [Pt.U, Pt.locs, Pt.cells, Pt.slots] at X' e1 e2 e3 stp hQ
  subst e1 e2 e3
  exact (k _ _ _ X' hQ).by fun t k => stp.trans k
theorem g_callP (X : Stand p l e R s m args below meth c T locs cells slots) (hx : p.tables.exec = Jvm.exec) (hZ : Z.Warmed39 s.vm) {own C : String} {i : Nat} {y : MethodName} {bytes : ByteArray} {maxL : Nat} {ret : Option FieldType} {rm : Room} {as : Array Value} {Q' : Option Value → Heap → List Loc → Prop} (hown : s.vm.findClass own = some m.cls) (w1 : (Jvm.Cond.methodLink own i y).before a0 Z = true) (w2 : (Jvm.Cond.instanceMethod y).before a0 Z = true) (w5 : (Jvm.Cond.selects y.cls y y).before a0 Z = true) (w6 : (Jvm.Cond.privateMethod y).before a0 Z = true) (w3 : (Jvm.Cond.initialized y.cls).before a0 Z = true) (w4 : (Jvm.Cond.code y bytes maxL ret).before a0 Z = true) (hy : y.cls ≠ "java/lang/invoke/MethodHandle" ∧ y.cls ≠ "java/lang/invoke/VarHandle") (eT : T.heap = h) (b : Addr) (E : Exa Z h b C) (hM : MetFree l y (head1 [Jvm.Cond.code y bytes maxL ret] rm) (fun a U => a = as ∧ Z.Warmed39 U.vm ∧ U.heap = h) (fun _ _ _ _ _ => True) (fun _ U o U' => ∃ v L, o = .returned v ∧ Q' v U'.heap L ∧ FrameEnd U o U' L rm.cells rm.slots)) (argsL rest : List Value) (W : Nat) (has : (.ref b :: argsL : List Value).toArray = as) (hlen : ∀ sig, parseMethodDescriptor y.desc = some sig → argsL.length = sig.parameters.length) (hst : st = argsL.reverse ++ .ref b :: rest) (hW : (rest.map fun v => v.category).sum ≤ W) (hf : rm.frames + 1 ≤ R.frames) (hlo : W + (maxL + 11) + rm.locals ≤ R.locals) (hcl : cells + rm.cells ≤ R.cells) (hsl : slots + rm.slots ≤ R.slots) (hsz : Ls.size = c.maxLocals) (hd : decode c.code pc = .ok (.invokevirtual i, 3)) (k : ∀ T' L v, Stand p l e R s m args below meth c T' (locs ++ L) (cells + rm.cells) (slots + rm.slots) → Q' v T'.heap L → Go p e below s Q rc rs (T'.setTop (mkF m (pc + 3) Ls (v.toList ++ rest)))) : Go p e below s Q rc rs (T.setTop (mkF m pc Ls st)) := by
  subst hst has
  obtain ⟨cq, q, q'⟩ := E.cell
  obtain ⟨_, _, ⟨T', L', k', n'⟩, -, X', ⟨Lc, hQ, e1, e2, e3⟩, stp⟩ := X.privateBack hx (y := y) hown (mvT hZ w1) (mvT hZ w2) (mvT hZ w5) (Cond.privateMethod_at (mvP hZ w6 (args := #[]))) (mvT hZ w4) hy (backOf (W := W) hM hZ w4 w3 hf hlo) (g := mkF m pc Ls (argsL.reverse ++ .ref b :: rest)) rfl hsz (Steps.refl _) (a := b) (by rw [eT]; exact q) q' (argsL := argsL) (rest := rest) hlen rfl (by show 2 * 0 + _ ≤ _; omega) hd (fun _ _ => ⟨rfl, eT, hcl, hsl⟩)
  dsimp only [Pt.U, Pt.locs, Pt.cells, Pt.slots] at X' e1 e2 e3 stp hQ
  subst e1 e2 e3
  exact (k _ _ _ X' hQ).by fun t k => stp.trans k
theorem g_initO (X : Stand p l e R s m args below meth c T locs cells slots) (hx : p.tables.exec = Jvm.exec) (hZ : Z.Warmed39 s.vm) {own : String} {i : Nat} (hown : s.vm.findClass own = some m.cls) (w1 : (Jvm.Cond.methodLink own i Lib.objectInit).before a0 Z = true) (w2 : (Jvm.Cond.instanceMethod Lib.objectInit).before a0 Z = true) (w3 : (Jvm.Cond.code Lib.objectInit ⟨#[0xb1]⟩ 1 none).before a0 Z = true) (eT : T.heap = h) {b : Addr} (pc' : Nat) (hsz : Ls.size = c.maxLocals) (hd : decode c.code pc = .ok (.invokespecial i, 3)) (hf : 1 ≤ R.frames) (W : Nat) (hW : (st.map fun v => v.category).sum ≤ W) (hlo : W + 12 ≤ R.locals) (hp : pc + 3 = pc') (k : ∀ T', Stand p l e R s m args below meth c T' locs cells slots → T'.heap = h → Go p e below s Q rc rs (T'.setTop (mkF m pc' Ls st))) : Go p e below s Q rc rs (T.setTop (mkF m pc Ls (.ref b :: st))) := by
  subst hp
  obtain ⟨T', X', e', stp⟩ := initO X hx hZ hown w1 w2 w3 eT (g := mkF m pc Ls (.ref b :: st)) rfl hsz rfl hd hf (W := W) (by show 2 * 0 + _ ≤ _; omega) hlo
  exact (k _ X' e').by stp
theorem g_getF (X : Stand p l e R s m args below meth c T locs cells slots) (hx : p.tables.exec = Jvm.exec) (hZ : Z.Warmed39 s.vm) {own R0 O n d : String} {i : Nat} (hown : s.vm.findClass own = some m.cls) (w : (Jvm.Cond.fieldLink own i R0 n d).before a0 Z = true) (via : Via Z R0 O n d) (eT : T.heap = h) {b : Addr} {v : Value} (F : Fld Z h b O n d v) (pc' : Nat) (hd : decode c.code pc = .ok (.getfield i, 3)) (hp : pc + 3 = pc') (k : ∀ T', Stand p l e R s m args below meth c T' locs cells slots → T'.heap = h → Go p e below s Q rc rs (T'.setTop (mkF m pc' Ls (v :: st)))) : Go p e below s Q rc rs (T.setTop (mkF m pc Ls (.ref b :: st))) := by
  subst hp
  obtain ⟨T', X', e', stp⟩ := getF X hx hZ hown (host := "") (Or.inl w) via eT F (g := mkF m pc Ls (.ref b :: st)) rfl rfl hd
  exact (k _ X' e').by stp
theorem g_putF (X : Stand p l e R s m args below meth c T locs cells slots) (hx : p.tables.exec = Jvm.exec) (hZ : Z.Warmed39 s.vm) {own R0 O n d C : String} {i kk : Nat} {ty : FieldType} (hown : s.vm.findClass own = some m.cls) (w : (Jvm.Cond.fieldLink own i R0 n d).before a0 Z = true) (via : Via Z R0 O n d) (eT : T.heap = h) {b : Addr} {v old : Value} (F : Fld Z h b O n d old) (E : Exa Z h b C) (L : (Jvm.Cond.lays C O n d).before a0 Z = true ∨ ((Jvm.Cond.laysFinal C O n d).before a0 Z = true ∧ own = O ∧ meth.name = "<init>")) (wi : (Jvm.Cond.instantiable C kk).before a0 Z = true) (hty : parseFieldDescriptor d = some ty) (hn : narrow ty v = v) (hf : fits ty v = true) (pc' : Nat) (hd : decode c.code pc = .ok (.putfield i, 3)) (hp : pc + 3 = pc') (k : ∀ T' h', Stand p l e R s m args below meth c T' (locs ++ [⟨b, Jvm.RoadKit.slotOf Z O n d⟩]) cells slots → T'.heap = h' → Wr h h' b (Jvm.RoadKit.slotOf Z O n d) v → Go p e below s Q rc rs (T'.setTop (mkF m pc' Ls st))) : Go p e below s Q rc rs (T.setTop (mkF m pc Ls (v :: .ref b :: st))) := by
  subst hp
  obtain ⟨T', h', X', e', W', stp⟩ := putF X hx hZ hown (host := "") (Or.inl w) via eT F E L wi hty hn hf (g := mkF m pc Ls (v :: .ref b :: st)) rfl rfl hd
  exact (k _ _ X' e' W').by stp
theorem g_new (X : Stand p l e R s m args below meth c T locs cells slots) (hx : p.tables.exec = Jvm.exec) (hZ : Z.Warmed39 s.vm) {own C : String} {i n : Nat} (hown : s.vm.findClass own = some m.cls) (w : (Jvm.Cond.classLink own i C).before a0 Z = true) (wi : (Jvm.Cond.instantiable C n).before a0 Z = true) (wz : (Jvm.Cond.initialized C).before a0 Z = true) (eT : T.heap = h) (pc' : Nat) (hd : decode c.code pc = .ok (.new i, 3)) (hcl : cells + 1 ≤ R.cells) (hsl : slots + n ≤ R.slots) (hp : pc + 3 = pc') (k : ∀ T' h' b, b = h.size → Stand p l e R s m args below meth c T' locs (cells + 1) (slots + n) → T'.heap = h' → Ext h h' → Exa Z h' b C → (∀ {O nm d : String} {ty : FieldType}, Laid Z a0 C O nm d → parseFieldDescriptor d = some ty → Fld Z h' b O nm d (defaultValue ty)) → Go p e below s Q rc rs (T'.setTop (mkF m pc' Ls (.ref b :: st)))) : Go p e below s Q rc rs (T.setTop (mkF m pc Ls st)) := by
  subst hp
  obtain ⟨T', h', X', e', E', A', D', -, stp⟩ := newO X hx hZ hown w wi wz eT (g := mkF m pc Ls st) rfl hd hcl hsl
  exact (k _ _ _ rfl X' e' E' A' D').by stp
/-- an array of n places whose j-th holds f j -/
def AV (Z : State) (h : Heap) (a : Addr) (ty : FieldType) (n : Nat) (f : Nat → Value) : Prop := ∃ c : Cell, Arr Z h a c ty ∧ c.slots.size = n ∧ n < 2 ^ 31 ∧ ∀ j, j < n → c.slots[j]? = some (f j)
theorem AV.ext {h' : Heap} {a : Addr} {ty : FieldType} {n : Nat} {f : Nat → Value} (F : AV Z h a ty n f) (E : Ext h h') : AV Z h' a ty n f := by obtain ⟨c, A, r⟩ := F; exact ⟨c, A.ext E, r⟩
theorem AV.other {h' : Heap} {a b : Addr} {ty : FieldType} {n sl : Nat} {f : Nat → Value} {v : Value} (F : AV Z h a ty n f) (W : Wr h h' b sl v) (q : a ≠ b) : AV Z h' a ty n f := by obtain ⟨c, A, r⟩ := F; exact ⟨c, A.other W q, r⟩
theorem AV.keep {h' : Heap} {a : Addr} {ws : List Addr} {ty : FieldType} {n : Nat} {f : Nat → Value} (F : AV Z h a ty n f) (K : Keep h h' ws) (q : a ∉ ws) : AV Z h' a ty n f := by obtain ⟨c, A, r⟩ := F; exact ⟨c, ⟨K.2.1 a c A.1 q, A.2⟩, r⟩
theorem AV.lt {a : Addr} {ty : FieldType} {n : Nat} {f : Nat → Value} (F : AV Z h a ty n f) : a < h.size := by obtain ⟨c, A, -⟩ := F; exact A.lt
theorem AV.small {a : Addr} {ty : FieldType} {n : Nat} {f : Nat → Value} (F : AV Z h a ty n f) : n < 2 ^ 31 := by obtain ⟨c, -, -, q, -⟩ := F; exact q
theorem AV.congr {a : Addr} {ty : FieldType} {n : Nat} {f g : Nat → Value} (F : AV Z h a ty n f) (q : ∀ j, j < n → f j = g j) : AV Z h a ty n g := by obtain ⟨c, A, r1, r2, r3⟩ := F; exact ⟨c, A, r1, r2, fun j hj => by rw [r3 j hj, q j hj]⟩
theorem own_idx {j : Int32} {i : Nat} (q : j.toInt = i) : ¬ j < 0 ∧ j.toNatClampNeg = i := by
  refine ⟨?_, ?_⟩
  · rw [Int32.lt_iff_toInt_lt, q]; simp
  · show j.toInt.toNat = i; omega
theorem own_in {j : Int32} {i : Nat} {cl : Cell} (q : j.toInt = i) (hi : i < cl.slots.size) : ¬ (j < 0 ∨ cl.slots.size ≤ j.toNatClampNeg) := by
  obtain ⟨q1, q2⟩ := own_idx q
  rintro (z | z)
  · exact q1 z
  · omega
def upd {α : Type} (g : Nat → α) (j : Nat) (x : α) : Nat → α := fun q => if q = j then x else g q
def AI (Z : State) (h : Heap) (a : Addr) (n : Nat) (g : Nat → Int32) : Prop := AV Z h a .int n (fun j => .int (g j))
def AJ (Z : State) (h : Heap) (a : Addr) (n : Nat) (g : Nat → Int64) : Prop := AV Z h a .long n (fun j => .long (g j))
def AB (Z : State) (h : Heap) (a : Addr) (n : Nat) (g : Nat → Int32) : Prop := AV Z h a .byte n (fun j => .int (g j))
theorem nm0 {a : Addr} : a ∉ ([] : List Addr) := nofun
theorem nm1 {a b : Addr} {ws : List Addr} (q : a ≠ b) (r : a ∉ ws) : a ∉ b :: ws := fun z => by
  rcases List.mem_cons.mp z with z | z
  · exact q z
  · exact r z
theorem AI.ext {h' : Heap} {a : Addr} {n : Nat} {g : Nat → Int32} (F : AI Z h a n g) (E : Ext h h') : AI Z h' a n g := AV.ext F E
theorem AI.other {h' : Heap} {a b : Addr} {n sl : Nat} {g : Nat → Int32} {v : Value} (F : AI Z h a n g) (W : Wr h h' b sl v) (q : a ≠ b) : AI Z h' a n g := AV.other F W q
theorem AI.keep {h' : Heap} {a : Addr} {ws : List Addr} {n : Nat} {g : Nat → Int32} (F : AI Z h a n g) (K : Keep h h' ws) (q : a ∉ ws) : AI Z h' a n g := AV.keep F K q
theorem AI.lt {a : Addr} {n : Nat} {g : Nat → Int32} (F : AI Z h a n g) : a < h.size := AV.lt F
theorem AI.small {a : Addr} {n : Nat} {g : Nat → Int32} (F : AI Z h a n g) : n < 2 ^ 31 := AV.small F
theorem AI.congr {a : Addr} {n : Nat} {g g' : Nat → Int32} (F : AI Z h a n g) (q : ∀ j, j < n → g j = g' j) : AI Z h a n g' := AV.congr F fun j hj => by rw [q j hj]
theorem AJ.ext {h' : Heap} {a : Addr} {n : Nat} {g : Nat → Int64} (F : AJ Z h a n g) (E : Ext h h') : AJ Z h' a n g := AV.ext F E
theorem AJ.other {h' : Heap} {a b : Addr} {n sl : Nat} {g : Nat → Int64} {v : Value} (F : AJ Z h a n g) (W : Wr h h' b sl v) (q : a ≠ b) : AJ Z h' a n g := AV.other F W q
theorem AJ.keep {h' : Heap} {a : Addr} {ws : List Addr} {n : Nat} {g : Nat → Int64} (F : AJ Z h a n g) (K : Keep h h' ws) (q : a ∉ ws) : AJ Z h' a n g := AV.keep F K q
theorem AJ.lt {a : Addr} {n : Nat} {g : Nat → Int64} (F : AJ Z h a n g) : a < h.size := AV.lt F
theorem AJ.small {a : Addr} {n : Nat} {g : Nat → Int64} (F : AJ Z h a n g) : n < 2 ^ 31 := AV.small F
theorem AJ.congr {a : Addr} {n : Nat} {g g' : Nat → Int64} (F : AJ Z h a n g) (q : ∀ j, j < n → g j = g' j) : AJ Z h a n g' := AV.congr F fun j hj => by rw [q j hj]
theorem AB.ext {h' : Heap} {a : Addr} {n : Nat} {g : Nat → Int32} (F : AB Z h a n g) (E : Ext h h') : AB Z h' a n g := AV.ext F E
theorem AB.other {h' : Heap} {a b : Addr} {n sl : Nat} {g : Nat → Int32} {v : Value} (F : AB Z h a n g) (W : Wr h h' b sl v) (q : a ≠ b) : AB Z h' a n g := AV.other F W q
theorem AB.keep {h' : Heap} {a : Addr} {ws : List Addr} {n : Nat} {g : Nat → Int32} (F : AB Z h a n g) (K : Keep h h' ws) (q : a ∉ ws) : AB Z h' a n g := AV.keep F K q
theorem AB.lt {a : Addr} {n : Nat} {g : Nat → Int32} (F : AB Z h a n g) : a < h.size := AV.lt F
theorem AB.small {a : Addr} {n : Nat} {g : Nat → Int32} (F : AB Z h a n g) : n < 2 ^ 31 := AV.small F
theorem AB.congr {a : Addr} {n : Nat} {g g' : Nat → Int32} (F : AB Z h a n g) (q : ∀ j, j < n → g j = g' j) : AB Z h a n g' := AV.congr F fun j hj => by rw [q j hj]
theorem g_iaload (X : Stand p l e R s m args below meth c T locs cells slots) (hx : p.tables.exec = Jvm.exec) (hZ : Z.Warmed39 s.vm) (eT : T.heap = h) {b : Addr} {n : Nat} {g : Nat → Int32} (A : AI Z h b n g) {j : Int32} (jn : Nat) (hj : j.toInt = jn) (hlt : jn < n) (pc' : Nat) (hd : decode c.code pc = .ok (.iaload, 1)) (hp : pc + 1 = pc') (k : Go p e below s Q rc rs (T.setTop (mkF m pc' Ls (.int (g jn) :: st)))) : Go p e below s Q rc rs (T.setTop (mkF m pc Ls (.int j :: .ref b :: st))) := by
  subst hp
  obtain ⟨cl, A1, A2, A3, A4⟩ := A
  exact k.by fun t k => X.iaload hx (j := j) (by rw [eT]; exact A1.1) (State.isArrayOf_alike hZ.alike A1.2.1) A1.2.2 (own_in hj (by omega)) (by rw [(own_idx hj).2]; exact A4 _ hlt) (g := mkF m pc Ls (.int j :: .ref b :: st)) rfl rfl hd t k
theorem g_laload (X : Stand p l e R s m args below meth c T locs cells slots) (hx : p.tables.exec = Jvm.exec) (hZ : Z.Warmed39 s.vm) (eT : T.heap = h) {b : Addr} {n : Nat} {g : Nat → Int64} (A : AJ Z h b n g) {j : Int32} (jn : Nat) (hj : j.toInt = jn) (hlt : jn < n) (pc' : Nat) (hd : decode c.code pc = .ok (.laload, 1)) (hp : pc + 1 = pc') (k : Go p e below s Q rc rs (T.setTop (mkF m pc' Ls (.long (g jn) :: st)))) : Go p e below s Q rc rs (T.setTop (mkF m pc Ls (.int j :: .ref b :: st))) := by
  subst hp
  obtain ⟨cl, A1, A2, A3, A4⟩ := A
  exact k.by fun t k => X.laload hx (j := j) (by rw [eT]; exact A1.1) (State.isArrayOf_alike hZ.alike A1.2.1) A1.2.2 (own_in hj (by omega)) (by rw [(own_idx hj).2]; exact A4 _ hlt) (g := mkF m pc Ls (.int j :: .ref b :: st)) rfl rfl hd t k
theorem g_baload (X : Stand p l e R s m args below meth c T locs cells slots) (hx : p.tables.exec = Jvm.exec) (hZ : Z.Warmed39 s.vm) (eT : T.heap = h) {b : Addr} {n : Nat} {g : Nat → Int32} (A : AB Z h b n g) {j : Int32} (jn : Nat) (hj : j.toInt = jn) (hlt : jn < n) (pc' : Nat) (hd : decode c.code pc = .ok (.baload, 1)) (hp : pc + 1 = pc') (k : Go p e below s Q rc rs (T.setTop (mkF m pc' Ls (.int (g jn) :: st)))) : Go p e below s Q rc rs (T.setTop (mkF m pc Ls (.int j :: .ref b :: st))) := by
  subst hp
  obtain ⟨cl, A1, A2, A3, A4⟩ := A
  exact k.by fun t k => X.baloadBytes hx (j := j) (by rw [eT]; exact A1.1) (State.isArrayOf_alike hZ.alike A1.2.1) A1.2.2 (own_in hj (by omega)) (by rw [(own_idx hj).2]; exact A4 _ hlt) (g := mkF m pc Ls (.int j :: .ref b :: st)) rfl rfl hd t k
theorem g_iastore (X : Stand p l e R s m args below meth c T locs cells slots) (hx : p.tables.exec = Jvm.exec) (hZ : Z.Warmed39 s.vm) (eT : T.heap = h) {b : Addr} {n : Nat} {g : Nat → Int32} (A : AI Z h b n g) {j : Int32} {x : Int32} (jn : Nat) (hj : j.toInt = jn) (hlt : jn < n) (pc' : Nat) (hd : decode c.code pc = .ok (.iastore, 1)) (hp : pc + 1 = pc') (k : ∀ T' h', Stand p l e R s m args below meth c T' (locs ++ [⟨b, jn⟩]) cells slots → T'.heap = h' → Wr h h' b jn (.int x) → AI Z h' b n (upd g jn x) → Go p e below s Q rc rs (T'.setTop (mkF m pc' Ls st))) : Go p e below s Q rc rs (T.setTop (mkF m pc Ls (.int x :: .int j :: .ref b :: st))) := by
  subst hp
  obtain ⟨cl, A1, A2, A3, A4⟩ := A
  obtain ⟨T', h', X', e', W', stp⟩ := stI X hx hZ eT A1 (j := j) (x := x) (own_in hj (by omega)) (g := mkF m pc Ls (.int x :: .int j :: .ref b :: st)) rfl rfl hd
  rw [(own_idx hj).2] at X' W'
  refine (k _ _ X' e' W' ⟨_, A1.same W', by rw [sz_set]; exact A2, A3, fun q hq => ?_⟩).by stp
  by_cases z : q = jn
  · subst z; simp [Cell.setSlot, A2, hq, upd]; try rfl
  · simp only [upd, z, if_false]; rw [← A4 q hq]; simp only [Cell.setSlot]; rw [Array.getElem?_setIfInBounds_ne (Ne.symm z)]
theorem g_lastore (X : Stand p l e R s m args below meth c T locs cells slots) (hx : p.tables.exec = Jvm.exec) (hZ : Z.Warmed39 s.vm) (eT : T.heap = h) {b : Addr} {n : Nat} {g : Nat → Int64} (A : AJ Z h b n g) {j : Int32} {x : Int64} (jn : Nat) (hj : j.toInt = jn) (hlt : jn < n) (pc' : Nat) (hd : decode c.code pc = .ok (.lastore, 1)) (hp : pc + 1 = pc') (k : ∀ T' h', Stand p l e R s m args below meth c T' (locs ++ [⟨b, jn⟩]) cells slots → T'.heap = h' → Wr h h' b jn (.long x) → AJ Z h' b n (upd g jn x) → Go p e below s Q rc rs (T'.setTop (mkF m pc' Ls st))) : Go p e below s Q rc rs (T.setTop (mkF m pc Ls (.long x :: .int j :: .ref b :: st))) := by
  subst hp
  obtain ⟨cl, A1, A2, A3, A4⟩ := A
  obtain ⟨T', h', X', e', W', stp⟩ := stJ X hx hZ eT A1 (j := j) (x := x) (own_in hj (by omega)) (g := mkF m pc Ls (.long x :: .int j :: .ref b :: st)) rfl rfl hd
  rw [(own_idx hj).2] at X' W'
  refine (k _ _ X' e' W' ⟨_, A1.same W', by rw [sz_set]; exact A2, A3, fun q hq => ?_⟩).by stp
  by_cases z : q = jn
  · subst z; simp [Cell.setSlot, A2, hq, upd]; try rfl
  · simp only [upd, z, if_false]; rw [← A4 q hq]; simp only [Cell.setSlot]; rw [Array.getElem?_setIfInBounds_ne (Ne.symm z)]
theorem g_bastore (X : Stand p l e R s m args below meth c T locs cells slots) (hx : p.tables.exec = Jvm.exec) (hZ : Z.Warmed39 s.vm) (eT : T.heap = h) {b : Addr} {n : Nat} {g : Nat → Int32} (A : AB Z h b n g) {j : Int32} {x : Int32} (jn : Nat) (hj : j.toInt = jn) (hlt : jn < n) (pc' : Nat) (hd : decode c.code pc = .ok (.bastore, 1)) (hp : pc + 1 = pc') (k : ∀ T' h', Stand p l e R s m args below meth c T' (locs ++ [⟨b, jn⟩]) cells slots → T'.heap = h' → Wr h h' b jn (.int (nar .byte x)) → AB Z h' b n (upd g jn (i2bI x)) → Go p e below s Q rc rs (T'.setTop (mkF m pc' Ls st))) : Go p e below s Q rc rs (T.setTop (mkF m pc Ls (.int x :: .int j :: .ref b :: st))) := by
  subst hp
  obtain ⟨cl, A1, A2, A3, A4⟩ := A
  obtain ⟨T', h', X', e', W', stp⟩ := stB X hx hZ eT A1 (j := j) (x := x) (own_in hj (by omega)) (g := mkF m pc Ls (.int x :: .int j :: .ref b :: st)) rfl rfl hd
  rw [(own_idx hj).2] at X' W'
  refine (k _ _ X' e' W' ⟨_, A1.same W', by rw [sz_set]; exact A2, A3, fun q hq => ?_⟩).by stp
  by_cases z : q = jn
  · subst z; simp [Cell.setSlot, A2, hq, upd]; try rfl
  · simp only [upd, z, if_false]; rw [← A4 q hq]; simp only [Cell.setSlot]; rw [Array.getElem?_setIfInBounds_ne (Ne.symm z)]
theorem g_arraylengthI (X : Stand p l e R s m args below meth c T locs cells slots) (hx : p.tables.exec = Jvm.exec) (hZ : Z.Warmed39 s.vm) (eT : T.heap = h) {b : Addr} {n : Nat} {g : Nat → Int32} (A : AI Z h b n g) (v : Int32) (hv : n.toInt32 = v) (pc' : Nat) (hd : decode c.code pc = .ok (.arraylength, 1)) (hp : pc + 1 = pc') (k : Go p e below s Q rc rs (T.setTop (mkF m pc' Ls (.int v :: st)))) : Go p e below s Q rc rs (T.setTop (mkF m pc Ls (.ref b :: st))) := by
  subst hp hv
  obtain ⟨cl, A1, A2, A3, A4⟩ := A
  subst A2
  exact k.by fun t k => X.arraylength hx (by rw [eT]; exact A1.1) (State.isArrayOf_alike hZ.alike A1.2.1) (g := mkF m pc Ls (.ref b :: st)) rfl rfl hd t k
theorem g_arraylengthJ (X : Stand p l e R s m args below meth c T locs cells slots) (hx : p.tables.exec = Jvm.exec) (hZ : Z.Warmed39 s.vm) (eT : T.heap = h) {b : Addr} {n : Nat} {g : Nat → Int64} (A : AJ Z h b n g) (v : Int32) (hv : n.toInt32 = v) (pc' : Nat) (hd : decode c.code pc = .ok (.arraylength, 1)) (hp : pc + 1 = pc') (k : Go p e below s Q rc rs (T.setTop (mkF m pc' Ls (.int v :: st)))) : Go p e below s Q rc rs (T.setTop (mkF m pc Ls (.ref b :: st))) := by
  subst hp hv
  obtain ⟨cl, A1, A2, A3, A4⟩ := A
  subst A2
  exact k.by fun t k => X.arraylength hx (by rw [eT]; exact A1.1) (State.isArrayOf_alike hZ.alike A1.2.1) (g := mkF m pc Ls (.ref b :: st)) rfl rfl hd t k
theorem g_arraylengthB (X : Stand p l e R s m args below meth c T locs cells slots) (hx : p.tables.exec = Jvm.exec) (hZ : Z.Warmed39 s.vm) (eT : T.heap = h) {b : Addr} {n : Nat} {g : Nat → Int32} (A : AB Z h b n g) (v : Int32) (hv : n.toInt32 = v) (pc' : Nat) (hd : decode c.code pc = .ok (.arraylength, 1)) (hp : pc + 1 = pc') (k : Go p e below s Q rc rs (T.setTop (mkF m pc' Ls (.int v :: st)))) : Go p e below s Q rc rs (T.setTop (mkF m pc Ls (.ref b :: st))) := by
  subst hp hv
  obtain ⟨cl, A1, A2, A3, A4⟩ := A
  subst A2
  exact k.by fun t k => X.arraylength hx (by rw [eT]; exact A1.1) (State.isArrayOf_alike hZ.alike A1.2.1) (g := mkF m pc Ls (.ref b :: st)) rfl rfl hd t k
theorem g_newarr (X : Stand p l e R s m args below meth c T locs cells slots) (hx : p.tables.exec = Jvm.exec) (hZ : Z.Warmed39 s.vm) {aty : ArrayType} (w : (Jvm.Cond.arrayClass (newarray.typeOf aty)).before a0 Z = true) (eT : T.heap = h) {n : Int32} (N cap : Nat) (hn : n.toInt = N) (hcap : N ≤ cap) (hb : cap * 8 ≤ 536870912) (pc' : Nat) (hd : decode c.code pc = .ok (.newarray aty, 2)) (hcl : cells + 1 ≤ R.cells) (hsl : slots + cap ≤ R.slots) (hp : pc + 2 = pc') (k : ∀ T' h' b, b = h.size → Stand p l e R s m args below meth c T' locs (cells + 1) (slots + cap) → T'.heap = h' → Ext h h' → AV Z h' b (newarray.typeOf aty) N (fun _ => defaultValue (newarray.typeOf aty)) → Go p e below s Q rc rs (T'.setTop (mkF m pc' Ls (.ref b :: st)))) : Go p e below s Q rc rs (T.setTop (mkF m pc Ls (.int n :: st))) := by
  subst hp
  obtain ⟨q1, q2⟩ := own_idx hn
  obtain ⟨T', h', kA, X', e', E', A', stp⟩ := newP X hx hZ w eT (g := mkF m pc Ls (.int n :: st)) rfl hd rfl q1 (cap := cap) (by rw [q2]; exact hcap) hb hcl hsl
  have hN : N < 2 ^ 31 := by have := n.toInt_lt; omega
  refine (k _ _ _ rfl X' e' E' ⟨_, A', by rw [sz_new, q2], hN, fun j hj => ?_⟩).by stp
  simp [newA, q2, hj]
theorem g_newarrayI (X : Stand p l e R s m args below meth c T locs cells slots) (hx : p.tables.exec = Jvm.exec) (hZ : Z.Warmed39 s.vm) (w : (Jvm.Cond.arrayClass .int).before a0 Z = true) (eT : T.heap = h) {n : Int32} (N cap : Nat) (hn : n.toInt = N) (hcap : N ≤ cap) (hb : cap * 8 ≤ 536870912) (pc' : Nat) (hd : decode c.code pc = .ok (.newarray .int, 2)) (hcl : cells + 1 ≤ R.cells) (hsl : slots + cap ≤ R.slots) (hp : pc + 2 = pc') (k : ∀ T' h' b, b = h.size → Stand p l e R s m args below meth c T' locs (cells + 1) (slots + cap) → T'.heap = h' → Ext h h' → AI Z h' b N (fun _ => (0 : Int32)) → Go p e below s Q rc rs (T'.setTop (mkF m pc' Ls (.ref b :: st)))) : Go p e below s Q rc rs (T.setTop (mkF m pc Ls (.int n :: st))) :=
  g_newarr X hx hZ (aty := .int) w eT N cap hn hcap hb pc' hd hcl hsl hp fun T' h' b q1 q2 q3 q4 q5 => k T' h' b q1 q2 q3 q4 q5
theorem g_newarrayJ (X : Stand p l e R s m args below meth c T locs cells slots) (hx : p.tables.exec = Jvm.exec) (hZ : Z.Warmed39 s.vm) (w : (Jvm.Cond.arrayClass .long).before a0 Z = true) (eT : T.heap = h) {n : Int32} (N cap : Nat) (hn : n.toInt = N) (hcap : N ≤ cap) (hb : cap * 8 ≤ 536870912) (pc' : Nat) (hd : decode c.code pc = .ok (.newarray .long, 2)) (hcl : cells + 1 ≤ R.cells) (hsl : slots + cap ≤ R.slots) (hp : pc + 2 = pc') (k : ∀ T' h' b, b = h.size → Stand p l e R s m args below meth c T' locs (cells + 1) (slots + cap) → T'.heap = h' → Ext h h' → AJ Z h' b N (fun _ => (0 : Int64)) → Go p e below s Q rc rs (T'.setTop (mkF m pc' Ls (.ref b :: st)))) : Go p e below s Q rc rs (T.setTop (mkF m pc Ls (.int n :: st))) :=
  g_newarr X hx hZ (aty := .long) w eT N cap hn hcap hb pc' hd hcl hsl hp fun T' h' b q1 q2 q3 q4 q5 => k T' h' b q1 q2 q3 q4 q5
theorem g_newarrayB (X : Stand p l e R s m args below meth c T locs cells slots) (hx : p.tables.exec = Jvm.exec) (hZ : Z.Warmed39 s.vm) (w : (Jvm.Cond.arrayClass .byte).before a0 Z = true) (eT : T.heap = h) {n : Int32} (N cap : Nat) (hn : n.toInt = N) (hcap : N ≤ cap) (hb : cap * 8 ≤ 536870912) (pc' : Nat) (hd : decode c.code pc = .ok (.newarray .byte, 2)) (hcl : cells + 1 ≤ R.cells) (hsl : slots + cap ≤ R.slots) (hp : pc + 2 = pc') (k : ∀ T' h' b, b = h.size → Stand p l e R s m args below meth c T' locs (cells + 1) (slots + cap) → T'.heap = h' → Ext h h' → AB Z h' b N (fun _ => (0 : Int32)) → Go p e below s Q rc rs (T'.setTop (mkF m pc' Ls (.ref b :: st)))) : Go p e below s Q rc rs (T.setTop (mkF m pc Ls (.int n :: st))) :=
  g_newarr X hx hZ (aty := .byte) w eT N cap hn hcap hb pc' hd hcl hsl hp fun T' h' b q1 q2 q3 q4 q5 => k T' h' b q1 q2 q3 q4 q5
end OwnKit
def own_or (O : Nat → Int64) : Nat → Nat → (Nat → Int64) → Nat → Int64
  | 0, _, W => W
  | k + 1, i, W => own_or O k (i + 1) (upd W i (W i ||| O i))
theorem own_ltlen {x : Int32} {i n : Nat} (h : x.toInt = i) (hn : n < 2 ^ 31) : x < n.toInt32 ↔ i < n := by
  rw [Int32.lt_iff_toInt_lt, h, len_toInt hn]; omega
theorem own_succ {x : Int32} {i : Nat} (h : x.toInt = i) (hb : i + 1 < 2 ^ 31) : (x + 1).toInt = ((i + 1 : Nat) : Int) := by
  rw [Int32.toInt_add, h]; exact Int.bmod_eq_of_le (by show -2147483648 ≤ (i : Int) + 1; omega) (by show (i : Int) + 1 < 2147483648; omega)
theorem d1_0 : decode prog_23_method_1_code 0 = .ok (.aload_n 0, 1) := by decide +kernel
theorem d1_1 : decode prog_23_method_1_code 1 = .ok (.invokespecial 1, 3) := by decide +kernel
theorem d1_4 : decode prog_23_method_1_code 4 = .ok (.aload_n 0, 1) := by decide +kernel
theorem d1_5 : decode prog_23_method_1_code 5 = .ok (.iload_n 1, 1) := by decide +kernel
theorem d1_6 : decode prog_23_method_1_code 6 = .ok (.putfield 7, 3) := by decide +kernel
theorem d1_9 : decode prog_23_method_1_code 9 = .ok (.aload_n 0, 1) := by decide +kernel
theorem d1_10 : decode prog_23_method_1_code 10 = .ok (.iload_n 1, 1) := by decide +kernel
theorem d1_11 : decode prog_23_method_1_code 11 = .ok (.bipush 64, 2) := by decide +kernel
theorem d1_13 : decode prog_23_method_1_code 13 = .ok (.iadd, 1) := by decide +kernel
theorem d1_14 : decode prog_23_method_1_code 14 = .ok (.iconst 1, 1) := by decide +kernel
theorem d1_15 : decode prog_23_method_1_code 15 = .ok (.isub, 1) := by decide +kernel
theorem d1_16 : decode prog_23_method_1_code 16 = .ok (.bipush 64, 2) := by decide +kernel
theorem d1_18 : decode prog_23_method_1_code 18 = .ok (.idiv, 1) := by decide +kernel
theorem d1_19 : decode prog_23_method_1_code 19 = .ok (.newarray .long, 2) := by decide +kernel
theorem d1_21 : decode prog_23_method_1_code 21 = .ok (.putfield 15, 3) := by decide +kernel
theorem d1_24 : decode prog_23_method_1_code 24 = .ok (.return_, 1) := by decide +kernel
theorem pn_1 : plainName "com/example/brisk_herald/briskherald/PositionSet" = true := by first | (simp [plainName, overriddenIn]; done) | decide +kernel
theorem ef_1 (m : MethodId) (x0 : Addr) (x1 : Int32) : entryFrame m #[(.ref x0), (.int x1)] 2 = mkF m 0 #[.val (.ref x0), .val (.int x1)] [] := by first | (simp [entryFrame, mkF, argsToLocals, Value.category]; done) | rfl
def Q1 (Z : State) (x0 : Addr) (x1 : Int32) (N : Nat) (h0 : Heap) (n0 : Nat) (v : Option Value) (h : Heap) (L : List Loc) : Prop := v = none ∧ Fr n0 L ∧ Keep h0 h [x0] ∧ ∃ b1 : Addr, h0.size ≤ b1 ∧ Fld Z h x0 "com/example/brisk_herald/briskherald/PositionSet" "bits" "[J" (.ref b1) ∧ AJ Z h b1 N (fun _ => (0 : Int64))
set_option maxRecDepth 65536 in
set_option maxHeartbeats 40000000 in
theorem rm1 (l : Launch) (Z : State) (a0 : Array Value) (hw : ∀ d ∈ tables_1, d.before a0 Z = true) (ws : List Jvm.Cond) (x0 : Addr) (x1 : Int32) (N : Nat) (h0 : Heap) (n0 : Nat) (Z0 : n0 ≤ h0.size) (P0 : Exa Z h0 x0 "com/example/brisk_herald/briskherald/PositionSet") (P1 : Fld Z h0 x0 "com/example/brisk_herald/briskherald/PositionSet" "size" "I" (.int (0 : Int32))) (P2 : Fld Z h0 x0 "com/example/brisk_herald/briskherald/PositionSet" "bits" "[J" .null) (P3 : n0 ≤ x0) (hN : (((x1 + (64 : Int32)) - (1 : Int32)) / (64 : Int32)).toInt = N) (hN4 : N ≤ 4) :
    MetFree l (⟨"com/example/brisk_herald/briskherald/PositionSet", "<init>", "(I)V"⟩ : MethodName) (head1 (Jvm.Cond.code (⟨"com/example/brisk_herald/briskherald/PositionSet", "<init>", "(I)V"⟩ : MethodName) prog_23_method_1_code 2 none :: ws) ({ frames := 1, cells := 1, slots := 4, locals := 12 } : Room)) (fun a U => a = #[(.ref x0), (.int x1)] ∧ Z.Warmed39 U.vm ∧ U.heap = h0) (fun _ _ _ _ _ => True) (fun _ U o U' => ∃ v L, o = .returned v ∧ Q1 Z x0 x1 N h0 n0 v U'.heap L ∧ FrameEnd U o U' L ({ frames := 1, cells := 1, slots := 4, locals := 12 } : Room).cells ({ frames := 1, cells := 1, slots := 4, locals := 12 } : Room).slots) := by
  refine g_body (plainFor_of_name pn_1) ?_
  intro p e s m below meth c T0 X0 hx hby hml hret hlk hown hnm hZ e0
  rw [ef_1]
  have N0 := Fr.nil n0
  show Go p e below s _ _ _ (T0.setTop (mkF m 0 #[.val (.ref x0), .val (.int x1)] []))
  refine g_aloadN X0 hx 1 (hb hby d1_0) rfl rfl rfl ?_
  show Go p e below s _ _ _ (T0.setTop (mkF m 1 #[.val (.ref x0), .val (.int x1)] [(.ref x0)]))
  refine g_initO X0 hx hZ hown (hw _ (List.mem_of_getElem? (i := 7) rfl)) (hw _ (List.mem_of_getElem? (i := 8) rfl)) (hw _ (List.mem_of_getElem? (i := 9) rfl)) e0 4 (by rw [hml]; rfl) (hb hby d1_1) (by decide) 0 (Nat.le_of_eq rfl) (by decide) rfl ?_
  intro T1 X1 e1
  show Go p e below s _ _ _ (T1.setTop (mkF m 4 #[.val (.ref x0), .val (.int x1)] []))
  refine g_aloadN X1 hx 5 (hb hby d1_4) rfl rfl rfl ?_
  show Go p e below s _ _ _ (T1.setTop (mkF m 5 #[.val (.ref x0), .val (.int x1)] [(.ref x0)]))
  refine g_iloadN X1 hx 6 (hb hby d1_5) rfl rfl ?_
  show Go p e below s _ _ _ (T1.setTop (mkF m 6 #[.val (.ref x0), .val (.int x1)] [(.int x1), (.ref x0)]))
  refine g_putF X1 hx hZ hown (hw _ (List.mem_of_getElem? (i := 10) rfl)) Via.refl e1 P1 P0 (Or.inr ⟨(hw _ (List.mem_of_getElem? (i := 11) rfl)), rfl, hnm⟩) (hw _ (List.mem_of_getElem? (i := 2) rfl)) (ty := .int) (by decide) rfl rfl 9 (hb hby d1_6) rfl ?_
  intro T2 h2 X2 e2 W2
  have K2 := (Keep.refl h0 [x0]).wr W2 (Or.inl (List.mem_of_getElem? (i := 0) rfl))
  have N2 := Fr.snoc X2 N0 P3
  have k2_0 := P0.wr W2
  have k2_2 := P2.other W2 (Or.inr (slot_ne (Or.inr (hw _ (List.mem_of_getElem? (i := 14) rfl))) (Or.inr (hw _ (List.mem_of_getElem? (i := 11) rfl))) (by decide) (t := (.array .long)) (t' := .int) (by decide) (by decide)))
  have Z2 : n0 ≤ h2.size := by rw [W2.size]; exact Z0
  have F2 := P1.same W2
  show Go p e below s _ _ _ (T2.setTop (mkF m 9 #[.val (.ref x0), .val (.int x1)] []))
  refine g_aloadN X2 hx 10 (hb hby d1_9) rfl rfl rfl ?_
  show Go p e below s _ _ _ (T2.setTop (mkF m 10 #[.val (.ref x0), .val (.int x1)] [(.ref x0)]))
  refine g_iloadN X2 hx 11 (hb hby d1_10) rfl rfl ?_
  show Go p e below s _ _ _ (T2.setTop (mkF m 11 #[.val (.ref x0), .val (.int x1)] [(.int x1), (.ref x0)]))
  refine g_bipush X2 hx (64 : Int32) 13 (hb hby d1_11) rfl rfl ?_
  show Go p e below s _ _ _ (T2.setTop (mkF m 13 #[.val (.ref x0), .val (.int x1)] [(.int (64 : Int32)), (.int x1), (.ref x0)]))
  refine g_iadd X2 hx 14 (hb hby d1_13) rfl ?_
  show Go p e below s _ _ _ (T2.setTop (mkF m 14 #[.val (.ref x0), .val (.int x1)] [(.int (x1 + (64 : Int32))), (.ref x0)]))
  refine g_iconst X2 hx (1 : Int32) 15 (hb hby d1_14) rfl rfl ?_
  show Go p e below s _ _ _ (T2.setTop (mkF m 15 #[.val (.ref x0), .val (.int x1)] [(.int (1 : Int32)), (.int (x1 + (64 : Int32))), (.ref x0)]))
  refine g_isub X2 hx 16 (hb hby d1_15) rfl ?_
  show Go p e below s _ _ _ (T2.setTop (mkF m 16 #[.val (.ref x0), .val (.int x1)] [(.int ((x1 + (64 : Int32)) - (1 : Int32))), (.ref x0)]))
  refine g_bipush X2 hx (64 : Int32) 18 (hb hby d1_16) rfl rfl ?_
  show Go p e below s _ _ _ (T2.setTop (mkF m 18 #[.val (.ref x0), .val (.int x1)] [(.int (64 : Int32)), (.int ((x1 + (64 : Int32)) - (1 : Int32))), (.ref x0)]))
  refine g_idiv X2 hx 19 (hb hby d1_18) (by decide) rfl ?_
  show Go p e below s _ _ _ (T2.setTop (mkF m 19 #[.val (.ref x0), .val (.int x1)] [(.int (((x1 + (64 : Int32)) - (1 : Int32)) / (64 : Int32))), (.ref x0)]))
  refine g_newarrayJ X2 hx hZ (hw _ (List.mem_of_getElem? (i := 12) rfl)) e2 N 4 hN hN4 (by decide) 21 (hb hby d1_19) (by decide) (by decide) rfl ?_
  intro T3 h3 b3 g3 X3 e3 E3 A3
  have N_b3 : n0 ≤ b3 := Nat.le_trans Z2 (Nat.le_of_eq g3.symm)
  have sz_b3 := Nat.le_trans K2.1 (Nat.le_of_eq g3.symm)
  have ne_x0_b3 : x0 ≠ b3 := Nat.ne_of_lt (Nat.lt_of_lt_of_le k2_0.lt (Nat.le_of_eq g3.symm))
  have k3_0 := k2_0.ext E3
  have k3_1 := k2_2.ext E3
  have k3_3 := F2.ext E3
  have Z3 : n0 ≤ h3.size := Nat.le_trans Z2 E3.1
  have K3 := K2.ext E3
  show Go p e below s _ _ _ (T3.setTop (mkF m 21 #[.val (.ref x0), .val (.int x1)] [(.ref b3), (.ref x0)]))
  refine g_putF X3 hx hZ hown (hw _ (List.mem_of_getElem? (i := 13) rfl)) Via.refl e3 k3_1 k3_0 (Or.inr ⟨(hw _ (List.mem_of_getElem? (i := 14) rfl)), rfl, hnm⟩) (hw _ (List.mem_of_getElem? (i := 2) rfl)) (ty := (.array .long)) (by decide) rfl rfl 24 (hb hby d1_21) rfl ?_
  intro T4 h4 X4 e4 W4
  have K4 := K3.wr W4 (Or.inl (List.mem_of_getElem? (i := 0) rfl))
  have N4 := Fr.snoc X4 N2 P3
  have k4_0 := k3_0.wr W4
  have k4_3 := k3_3.other W4 (Or.inr (slot_ne (Or.inr (hw _ (List.mem_of_getElem? (i := 11) rfl))) (Or.inr (hw _ (List.mem_of_getElem? (i := 14) rfl))) (by decide) (t := .int) (t' := (.array .long)) (by decide) (by decide)))
  have k4_6 := A3.other W4 (Ne.symm ne_x0_b3)
  have Z4 : n0 ≤ h4.size := by rw [W4.size]; exact Z3
  have F4 := k3_1.same W4
  show Go p e below s _ _ _ (T4.setTop (mkF m 24 #[.val (.ref x0), .val (.int x1)] []))
  exact g_retV X4 hx hret hlk (hb hby d1_24) (by decide) (by decide) (by rw [e4]; exact ⟨rfl, N4, K4, b3, sz_b3, F4, k4_6⟩)
theorem d3_0 : decode prog_23_method_2_code 0 = .ok (.aload_n 0, 1) := by decide +kernel
theorem d3_1 : decode prog_23_method_2_code 1 = .ok (.getfield 15, 3) := by decide +kernel
theorem d3_4 : decode prog_23_method_2_code 4 = .ok (.iload_n 1, 1) := by decide +kernel
theorem d3_5 : decode prog_23_method_2_code 5 = .ok (.bipush 6, 2) := by decide +kernel
theorem d3_7 : decode prog_23_method_2_code 7 = .ok (.iushr, 1) := by decide +kernel
theorem d3_8 : decode prog_23_method_2_code 8 = .ok (.dup2, 1) := by decide +kernel
theorem d3_9 : decode prog_23_method_2_code 9 = .ok (.laload, 1) := by decide +kernel
theorem d3_10 : decode prog_23_method_2_code 10 = .ok (.lconst 1, 1) := by decide +kernel
theorem d3_11 : decode prog_23_method_2_code 11 = .ok (.iload_n 1, 1) := by decide +kernel
theorem d3_12 : decode prog_23_method_2_code 12 = .ok (.lshl, 1) := by decide +kernel
theorem d3_13 : decode prog_23_method_2_code 13 = .ok (.lor, 1) := by decide +kernel
theorem d3_14 : decode prog_23_method_2_code 14 = .ok (.lastore, 1) := by decide +kernel
theorem d3_15 : decode prog_23_method_2_code 15 = .ok (.return_, 1) := by decide +kernel
theorem ef_3 (m : MethodId) (x0 : Addr) (x1 : Int32) : entryFrame m #[(.ref x0), (.int x1)] 2 = mkF m 0 #[.val (.ref x0), .val (.int x1)] [] := by first | (simp [entryFrame, mkF, argsToLocals, Value.category]; done) | rfl
def Q3 (Z : State) (x0 : Addr) (x1 : Int32) (a1 : Addr) (nn : Nat) (W : Nat → Int64) (pn : Nat) (h0 : Heap) (n0 : Nat) (v : Option Value) (h : Heap) (L : List Loc) : Prop := v = none ∧ Fr n0 L ∧ Keep h0 h [a1] ∧ AJ Z h a1 nn (upd W pn ((W pn) ||| (shlJ (1 : Int64) x1)))
set_option maxRecDepth 65536 in
set_option maxHeartbeats 40000000 in
theorem rm3 (l : Launch) (Z : State) (a0 : Array Value) (hw : ∀ d ∈ tables_1, d.before a0 Z = true) (ws : List Jvm.Cond) (x0 : Addr) (x1 : Int32) (a1 : Addr) (nn : Nat) (W : Nat → Int64) (pn : Nat) (h0 : Heap) (n0 : Nat) (Z0 : n0 ≤ h0.size) (P0 : Fld Z h0 x0 "com/example/brisk_herald/briskherald/PositionSet" "bits" "[J" (.ref a1)) (P1 : AJ Z h0 a1 nn W) (P2 : n0 ≤ a1) (P3 : x0 ≠ a1) (hp : (ushrI x1 (6 : Int32)).toInt = pn) (hl : pn < nn) :
    MetFree l (⟨"com/example/brisk_herald/briskherald/PositionSet", "add", "(I)V"⟩ : MethodName) (head1 (Jvm.Cond.code (⟨"com/example/brisk_herald/briskherald/PositionSet", "add", "(I)V"⟩ : MethodName) prog_23_method_2_code 2 none :: ws) ({ frames := 0, cells := 0, slots := 0, locals := 0 } : Room)) (fun a U => a = #[(.ref x0), (.int x1)] ∧ Z.Warmed39 U.vm ∧ U.heap = h0) (fun _ _ _ _ _ => True) (fun _ U o U' => ∃ v L, o = .returned v ∧ Q3 Z x0 x1 a1 nn W pn h0 n0 v U'.heap L ∧ FrameEnd U o U' L ({ frames := 0, cells := 0, slots := 0, locals := 0 } : Room).cells ({ frames := 0, cells := 0, slots := 0, locals := 0 } : Room).slots) := by
  refine g_body (plainFor_of_name pn_1) ?_
  intro p e s m below meth c T0 X0 hx hby hml hret hlk hown hnm hZ e0
  rw [ef_3]
  have N0 := Fr.nil n0
  show Go p e below s _ _ _ (T0.setTop (mkF m 0 #[.val (.ref x0), .val (.int x1)] []))
  refine g_aloadN X0 hx 1 (hb hby d3_0) rfl rfl rfl ?_
  show Go p e below s _ _ _ (T0.setTop (mkF m 1 #[.val (.ref x0), .val (.int x1)] [(.ref x0)]))
  refine g_getF X0 hx hZ hown (hw _ (List.mem_of_getElem? (i := 13) rfl)) Via.refl e0 P0 4 (hb hby d3_1) rfl ?_
  intro T1 X1 e1
  show Go p e below s _ _ _ (T1.setTop (mkF m 4 #[.val (.ref x0), .val (.int x1)] [(.ref a1)]))
  refine g_iloadN X1 hx 5 (hb hby d3_4) rfl rfl ?_
  show Go p e below s _ _ _ (T1.setTop (mkF m 5 #[.val (.ref x0), .val (.int x1)] [(.int x1), (.ref a1)]))
  refine g_bipush X1 hx (6 : Int32) 7 (hb hby d3_5) rfl rfl ?_
  show Go p e below s _ _ _ (T1.setTop (mkF m 7 #[.val (.ref x0), .val (.int x1)] [(.int (6 : Int32)), (.int x1), (.ref a1)]))
  refine g_iushr X1 hx 8 (hb hby d3_7) rfl ?_
  show Go p e below s _ _ _ (T1.setTop (mkF m 8 #[.val (.ref x0), .val (.int x1)] [(.int (ushrI x1 (6 : Int32))), (.ref a1)]))
  refine g_dup2 X1 hx 9 (hb hby d3_8) rfl rfl rfl ?_
  show Go p e below s _ _ _ (T1.setTop (mkF m 9 #[.val (.ref x0), .val (.int x1)] [(.int (ushrI x1 (6 : Int32))), (.ref a1), (.int (ushrI x1 (6 : Int32))), (.ref a1)]))
  refine g_laload X1 hx hZ e1 P1 pn hp hl 10 (hb hby d3_9) rfl ?_
  show Go p e below s _ _ _ (T1.setTop (mkF m 10 #[.val (.ref x0), .val (.int x1)] [(.long (W pn)), (.int (ushrI x1 (6 : Int32))), (.ref a1)]))
  refine g_lconst X1 hx (1 : Int64) 11 (hb hby d3_10) rfl rfl ?_
  show Go p e below s _ _ _ (T1.setTop (mkF m 11 #[.val (.ref x0), .val (.int x1)] [(.long (1 : Int64)), (.long (W pn)), (.int (ushrI x1 (6 : Int32))), (.ref a1)]))
  refine g_iloadN X1 hx 12 (hb hby d3_11) rfl rfl ?_
  show Go p e below s _ _ _ (T1.setTop (mkF m 12 #[.val (.ref x0), .val (.int x1)] [(.int x1), (.long (1 : Int64)), (.long (W pn)), (.int (ushrI x1 (6 : Int32))), (.ref a1)]))
  refine g_lshl X1 hx 13 (hb hby d3_12) rfl ?_
  show Go p e below s _ _ _ (T1.setTop (mkF m 13 #[.val (.ref x0), .val (.int x1)] [(.long (shlJ (1 : Int64) x1)), (.long (W pn)), (.int (ushrI x1 (6 : Int32))), (.ref a1)]))
  refine g_lor X1 hx 14 (hb hby d3_13) rfl ?_
  show Go p e below s _ _ _ (T1.setTop (mkF m 14 #[.val (.ref x0), .val (.int x1)] [(.long ((W pn) ||| (shlJ (1 : Int64) x1))), (.int (ushrI x1 (6 : Int32))), (.ref a1)]))
  refine g_lastore X1 hx hZ e1 P1 pn hp hl 15 (hb hby d3_14) rfl ?_
  intro T3 h3 X3 e3 W3 A3
  have K3 := (Keep.refl h0 [a1]).wr W3 (Or.inl (List.mem_of_getElem? (i := 0) rfl))
  have N3 := Fr.snoc X3 N0 P2
  have k3_0 := P0.other W3 (Or.inl P3)
  have Z3 : n0 ≤ h3.size := by rw [W3.size]; exact Z0
  show Go p e below s _ _ _ (T3.setTop (mkF m 15 #[.val (.ref x0), .val (.int x1)] []))
  exact g_retV X3 hx hret hlk (hb hby d3_15) (by decide) (by decide) (by rw [e3]; exact ⟨rfl, N3, K3, A3⟩)
theorem d5_0 : decode prog_23_method_3_code 0 = .ok (.aload_n 0, 1) := by decide +kernel
theorem d5_1 : decode prog_23_method_3_code 1 = .ok (.getfield 15, 3) := by decide +kernel
theorem d5_4 : decode prog_23_method_3_code 4 = .ok (.iload_n 1, 1) := by decide +kernel
theorem d5_5 : decode prog_23_method_3_code 5 = .ok (.bipush 6, 2) := by decide +kernel
theorem d5_7 : decode prog_23_method_3_code 7 = .ok (.iushr, 1) := by decide +kernel
theorem d5_8 : decode prog_23_method_3_code 8 = .ok (.laload, 1) := by decide +kernel
theorem d5_9 : decode prog_23_method_3_code 9 = .ok (.lconst 1, 1) := by decide +kernel
theorem d5_10 : decode prog_23_method_3_code 10 = .ok (.iload_n 1, 1) := by decide +kernel
theorem d5_11 : decode prog_23_method_3_code 11 = .ok (.lshl, 1) := by decide +kernel
theorem d5_12 : decode prog_23_method_3_code 12 = .ok (.land, 1) := by decide +kernel
theorem d5_13 : decode prog_23_method_3_code 13 = .ok (.lconst 0, 1) := by decide +kernel
theorem d5_14 : decode prog_23_method_3_code 14 = .ok (.lcmp, 1) := by decide +kernel
theorem d5_15 : decode prog_23_method_3_code 15 = .ok (.ifCond .eq 7, 3) := by decide +kernel
theorem d5_18 : decode prog_23_method_3_code 18 = .ok (.iconst 1, 1) := by decide +kernel
theorem d5_19 : decode prog_23_method_3_code 19 = .ok (.goto 4, 3) := by decide +kernel
theorem d5_22 : decode prog_23_method_3_code 22 = .ok (.iconst 0, 1) := by decide +kernel
theorem d5_23 : decode prog_23_method_3_code 23 = .ok (.ireturn, 1) := by decide +kernel
theorem ef_5 (m : MethodId) (x0 : Addr) (x1 : Int32) : entryFrame m #[(.ref x0), (.int x1)] 2 = mkF m 0 #[.val (.ref x0), .val (.int x1)] [] := by first | (simp [entryFrame, mkF, argsToLocals, Value.category]; done) | rfl
def f5 (x1 : Int32) (W : Nat → Int64) (pn : Nat) : Int32 := if ((W pn) &&& (shlJ (1 : Int64) x1)) = (0 : Int64) then (0 : Int32) else (1 : Int32)
def Q5 (Z : State) (x0 : Addr) (x1 : Int32) (a1 : Addr) (nn : Nat) (W : Nat → Int64) (pn : Nat) (h0 : Heap) (v : Option Value) (h : Heap) (L : List Loc) : Prop := v = some (.int (f5 x1 W pn)) ∧ L = [] ∧ h = h0
set_option maxRecDepth 65536 in
set_option maxHeartbeats 40000000 in
theorem rm5 (l : Launch) (Z : State) (a0 : Array Value) (hw : ∀ d ∈ tables_1, d.before a0 Z = true) (ws : List Jvm.Cond) (x0 : Addr) (x1 : Int32) (a1 : Addr) (nn : Nat) (W : Nat → Int64) (pn : Nat) (h0 : Heap) (P0 : Fld Z h0 x0 "com/example/brisk_herald/briskherald/PositionSet" "bits" "[J" (.ref a1)) (P1 : AJ Z h0 a1 nn W) (hp : (ushrI x1 (6 : Int32)).toInt = pn) (hl : pn < nn) :
    MetFree l (⟨"com/example/brisk_herald/briskherald/PositionSet", "contains", "(I)Z"⟩ : MethodName) (head1 (Jvm.Cond.code (⟨"com/example/brisk_herald/briskherald/PositionSet", "contains", "(I)Z"⟩ : MethodName) prog_23_method_3_code 2 (some .boolean) :: ws) ({ frames := 0, cells := 0, slots := 0, locals := 0 } : Room)) (fun a U => a = #[(.ref x0), (.int x1)] ∧ Z.Warmed39 U.vm ∧ U.heap = h0) (fun _ _ _ _ _ => True) (fun _ U o U' => ∃ v L, o = .returned v ∧ Q5 Z x0 x1 a1 nn W pn h0 v U'.heap L ∧ FrameEnd U o U' L ({ frames := 0, cells := 0, slots := 0, locals := 0 } : Room).cells ({ frames := 0, cells := 0, slots := 0, locals := 0 } : Room).slots) := by
  refine g_body (plainFor_of_name pn_1) ?_
  intro p e s m below meth c T0 X0 hx hby hml hret hlk hown hnm hZ e0
  rw [ef_5]
  show Go p e below s _ _ _ (T0.setTop (mkF m 0 #[.val (.ref x0), .val (.int x1)] []))
  refine g_aloadN X0 hx 1 (hb hby d5_0) rfl rfl rfl ?_
  show Go p e below s _ _ _ (T0.setTop (mkF m 1 #[.val (.ref x0), .val (.int x1)] [(.ref x0)]))
  refine g_getF X0 hx hZ hown (hw _ (List.mem_of_getElem? (i := 13) rfl)) Via.refl e0 P0 4 (hb hby d5_1) rfl ?_
  intro T1 X1 e1
  show Go p e below s _ _ _ (T1.setTop (mkF m 4 #[.val (.ref x0), .val (.int x1)] [(.ref a1)]))
  refine g_iloadN X1 hx 5 (hb hby d5_4) rfl rfl ?_
  show Go p e below s _ _ _ (T1.setTop (mkF m 5 #[.val (.ref x0), .val (.int x1)] [(.int x1), (.ref a1)]))
  refine g_bipush X1 hx (6 : Int32) 7 (hb hby d5_5) rfl rfl ?_
  show Go p e below s _ _ _ (T1.setTop (mkF m 7 #[.val (.ref x0), .val (.int x1)] [(.int (6 : Int32)), (.int x1), (.ref a1)]))
  refine g_iushr X1 hx 8 (hb hby d5_7) rfl ?_
  show Go p e below s _ _ _ (T1.setTop (mkF m 8 #[.val (.ref x0), .val (.int x1)] [(.int (ushrI x1 (6 : Int32))), (.ref a1)]))
  refine g_laload X1 hx hZ e1 P1 pn hp hl 9 (hb hby d5_8) rfl ?_
  show Go p e below s _ _ _ (T1.setTop (mkF m 9 #[.val (.ref x0), .val (.int x1)] [(.long (W pn))]))
  refine g_lconst X1 hx (1 : Int64) 10 (hb hby d5_9) rfl rfl ?_
  show Go p e below s _ _ _ (T1.setTop (mkF m 10 #[.val (.ref x0), .val (.int x1)] [(.long (1 : Int64)), (.long (W pn))]))
  refine g_iloadN X1 hx 11 (hb hby d5_10) rfl rfl ?_
  show Go p e below s _ _ _ (T1.setTop (mkF m 11 #[.val (.ref x0), .val (.int x1)] [(.int x1), (.long (1 : Int64)), (.long (W pn))]))
  refine g_lshl X1 hx 12 (hb hby d5_11) rfl ?_
  show Go p e below s _ _ _ (T1.setTop (mkF m 12 #[.val (.ref x0), .val (.int x1)] [(.long (shlJ (1 : Int64) x1)), (.long (W pn))]))
  refine g_land X1 hx 13 (hb hby d5_12) rfl ?_
  show Go p e below s _ _ _ (T1.setTop (mkF m 13 #[.val (.ref x0), .val (.int x1)] [(.long ((W pn) &&& (shlJ (1 : Int64) x1)))]))
  refine g_lconst X1 hx (0 : Int64) 14 (hb hby d5_13) rfl rfl ?_
  show Go p e below s _ _ _ (T1.setTop (mkF m 14 #[.val (.ref x0), .val (.int x1)] [(.long (0 : Int64)), (.long ((W pn) &&& (shlJ (1 : Int64) x1)))]))
  refine g_lcmp X1 hx 15 (hb hby d5_14) rfl ?_
  show Go p e below s _ _ _ (T1.setTop (mkF m 15 #[.val (.ref x0), .val (.int x1)] [(.int (lcmpW ((W pn) &&& (shlJ (1 : Int64) x1)) (0 : Int64)))]))
  refine g_lc_eq X1 hx 22 18 (hb hby d5_15) (by decide) rfl rfl (fun h3 => ?_) (fun h3 => ?_)
  · show Go p e below s _ _ _ (T1.setTop (mkF m 22 #[.val (.ref x0), .val (.int x1)] []))
    refine g_iconst X1 hx (0 : Int32) 23 (hb hby d5_22) rfl rfl ?_
    show Go p e below s _ _ _ (T1.setTop (mkF m 23 #[.val (.ref x0), .val (.int x1)] [(.int (0 : Int32))]))
    exact g_retN X1 hx hret (by simp) hlk (hb hby d5_23) (by decide) (by decide) ⟨congrArg (fun z => some (Value.int z)) (show (0 : Int32) = (f5 x1 W pn) from by rw [f5, if_pos h3]), rfl, e1⟩
  · show Go p e below s _ _ _ (T1.setTop (mkF m 18 #[.val (.ref x0), .val (.int x1)] []))
    refine g_iconst X1 hx (1 : Int32) 19 (hb hby d5_18) rfl rfl ?_
    show Go p e below s _ _ _ (T1.setTop (mkF m 19 #[.val (.ref x0), .val (.int x1)] [(.int (1 : Int32))]))
    refine g_goto X1 hx 23 (hb hby d5_19) (by decide) rfl ?_
    show Go p e below s _ _ _ (T1.setTop (mkF m 23 #[.val (.ref x0), .val (.int x1)] [(.int (1 : Int32))]))
    exact g_retN X1 hx hret (by simp) hlk (hb hby d5_23) (by decide) (by decide) ⟨congrArg (fun z => some (Value.int z)) (show (1 : Int32) = (f5 x1 W pn) from by rw [f5, if_neg h3]), rfl, e1⟩
theorem d6_0 : decode method_3_code 0 = .ok (.iload_n 0, 1) := by decide +kernel
theorem d6_1 : decode method_3_code 1 = .ok (.iload 4, 2) := by decide +kernel
theorem d6_3 : decode method_3_code 3 = .ok (.if_icmp .ne 5, 3) := by decide +kernel
theorem d6_6 : decode method_3_code 6 = .ok (.iconst 1, 1) := by decide +kernel
theorem d6_7 : decode method_3_code 7 = .ok (.ireturn, 1) := by decide +kernel
theorem d6_8 : decode method_3_code 8 = .ok (.iload_n 0, 1) := by decide +kernel
theorem d6_9 : decode method_3_code 9 = .ok (.iload_n 1, 1) := by decide +kernel
theorem d6_10 : decode method_3_code 10 = .ok (.if_icmp .lt 19, 3) := by decide +kernel
theorem d6_13 : decode method_3_code 13 = .ok (.iload_n 0, 1) := by decide +kernel
theorem d6_14 : decode method_3_code 14 = .ok (.iload_n 2, 1) := by decide +kernel
theorem d6_15 : decode method_3_code 15 = .ok (.if_icmp .eq 8, 3) := by decide +kernel
theorem d6_18 : decode method_3_code 18 = .ok (.iload_n 0, 1) := by decide +kernel
theorem d6_19 : decode method_3_code 19 = .ok (.iload_n 3, 1) := by decide +kernel
theorem d6_20 : decode method_3_code 20 = .ok (.if_icmp .ne 7, 3) := by decide +kernel
theorem d6_23 : decode method_3_code 23 = .ok (.iconst 1, 1) := by decide +kernel
theorem d6_24 : decode method_3_code 24 = .ok (.goto 4, 3) := by decide +kernel
theorem d6_27 : decode method_3_code 27 = .ok (.iconst 0, 1) := by decide +kernel
theorem d6_28 : decode method_3_code 28 = .ok (.ireturn, 1) := by decide +kernel
theorem d6_29 : decode method_3_code 29 = .ok (.iconst 0, 1) := by decide +kernel
theorem d6_30 : decode method_3_code 30 = .ok (.ireturn, 1) := by decide +kernel
theorem pn_6 : plainName "com/example/brisk_herald/briskherald/PositionSetAddFromPinLaw" = true := by first | (simp [plainName, overriddenIn]; done) | decide +kernel
theorem ef_6 (m : MethodId) (x0 : Int32) (x1 : Int32) (x2 : Int32) (x3 : Int32) (x4 : Int32) : entryFrame m #[(.int x0), (.int x1), (.int x2), (.int x3), (.int x4)] 5 = mkF m 0 #[.val (.int x0), .val (.int x1), .val (.int x2), .val (.int x3), .val (.int x4)] [] := by first | (simp [entryFrame, mkF, argsToLocals, Value.category]; done) | rfl
def f6 (x0 : Int32) (x1 : Int32) (x2 : Int32) (x3 : Int32) (x4 : Int32) : Int32 := if x0 = x4 then (1 : Int32) else if x0 < x1 then (0 : Int32) else if x0 = x2 then (1 : Int32) else if x0 = x3 then (1 : Int32) else (0 : Int32)
def Q6 (x0 : Int32) (x1 : Int32) (x2 : Int32) (x3 : Int32) (x4 : Int32) (h0 : Heap) (v : Option Value) (h : Heap) (L : List Loc) : Prop := v = some (.int (f6 x0 x1 x2 x3 x4)) ∧ L = [] ∧ h = h0
set_option maxRecDepth 65536 in
set_option maxHeartbeats 40000000 in
theorem rm6 (l : Launch) (Z : State) (a0 : Array Value) (hw : ∀ d ∈ tables_1, d.before a0 Z = true) (ws : List Jvm.Cond) (x0 : Int32) (x1 : Int32) (x2 : Int32) (x3 : Int32) (x4 : Int32) (h0 : Heap) :
    MetFree l (⟨"com/example/brisk_herald/briskherald/PositionSetAddFromPinLaw", "expected", "(IIIII)Z"⟩ : MethodName) (head1 (Jvm.Cond.code (⟨"com/example/brisk_herald/briskherald/PositionSetAddFromPinLaw", "expected", "(IIIII)Z"⟩ : MethodName) method_3_code 5 (some .boolean) :: ws) ({ frames := 0, cells := 0, slots := 0, locals := 0 } : Room)) (fun a U => a = #[(.int x0), (.int x1), (.int x2), (.int x3), (.int x4)] ∧ Z.Warmed39 U.vm ∧ U.heap = h0) (fun _ _ _ _ _ => True) (fun _ U o U' => ∃ v L, o = .returned v ∧ Q6 x0 x1 x2 x3 x4 h0 v U'.heap L ∧ FrameEnd U o U' L ({ frames := 0, cells := 0, slots := 0, locals := 0 } : Room).cells ({ frames := 0, cells := 0, slots := 0, locals := 0 } : Room).slots) := by
  refine g_body (plainFor_of_name pn_6) ?_
  intro p e s m below meth c T0 X0 hx hby hml hret hlk hown hnm hZ e0
  rw [ef_6]
  show Go p e below s _ _ _ (T0.setTop (mkF m 0 #[.val (.int x0), .val (.int x1), .val (.int x2), .val (.int x3), .val (.int x4)] []))
  refine g_iloadN X0 hx 1 (hb hby d6_0) rfl rfl ?_
  show Go p e below s _ _ _ (T0.setTop (mkF m 1 #[.val (.int x0), .val (.int x1), .val (.int x2), .val (.int x3), .val (.int x4)] [(.int x0)]))
  refine g_iload X0 hx 3 (hb hby d6_1) rfl rfl ?_
  show Go p e below s _ _ _ (T0.setTop (mkF m 3 #[.val (.int x0), .val (.int x1), .val (.int x2), .val (.int x3), .val (.int x4)] [(.int x4), (.int x0)]))
  refine g_icmp_ne X0 hx 8 6 (hb hby d6_3) (by decide) rfl rfl (fun h1 => ?_) (fun h1 => ?_)
  · show Go p e below s _ _ _ (T0.setTop (mkF m 6 #[.val (.int x0), .val (.int x1), .val (.int x2), .val (.int x3), .val (.int x4)] []))
    refine g_iconst X0 hx (1 : Int32) 7 (hb hby d6_6) rfl rfl ?_
    show Go p e below s _ _ _ (T0.setTop (mkF m 7 #[.val (.int x0), .val (.int x1), .val (.int x2), .val (.int x3), .val (.int x4)] [(.int (1 : Int32))]))
    exact g_retN X0 hx hret (by simp) hlk (hb hby d6_7) (by decide) (by decide) ⟨congrArg (fun z => some (Value.int z)) (show (1 : Int32) = (f6 x0 x1 x2 x3 x4) from by rw [f6, if_pos h1]), rfl, e0⟩
  · show Go p e below s _ _ _ (T0.setTop (mkF m 8 #[.val (.int x0), .val (.int x1), .val (.int x2), .val (.int x3), .val (.int x4)] []))
    refine g_iloadN X0 hx 9 (hb hby d6_8) rfl rfl ?_
    show Go p e below s _ _ _ (T0.setTop (mkF m 9 #[.val (.int x0), .val (.int x1), .val (.int x2), .val (.int x3), .val (.int x4)] [(.int x0)]))
    refine g_iloadN X0 hx 10 (hb hby d6_9) rfl rfl ?_
    show Go p e below s _ _ _ (T0.setTop (mkF m 10 #[.val (.int x0), .val (.int x1), .val (.int x2), .val (.int x3), .val (.int x4)] [(.int x1), (.int x0)]))
    refine g_icmp_lt X0 hx 29 13 (hb hby d6_10) (by decide) rfl rfl (fun h2 => ?_) (fun h2 => ?_)
    · show Go p e below s _ _ _ (T0.setTop (mkF m 29 #[.val (.int x0), .val (.int x1), .val (.int x2), .val (.int x3), .val (.int x4)] []))
      refine g_iconst X0 hx (0 : Int32) 30 (hb hby d6_29) rfl rfl ?_
      show Go p e below s _ _ _ (T0.setTop (mkF m 30 #[.val (.int x0), .val (.int x1), .val (.int x2), .val (.int x3), .val (.int x4)] [(.int (0 : Int32))]))
      exact g_retN X0 hx hret (by simp) hlk (hb hby d6_30) (by decide) (by decide) ⟨congrArg (fun z => some (Value.int z)) (show (0 : Int32) = (f6 x0 x1 x2 x3 x4) from by rw [f6, if_neg h1, if_pos h2]), rfl, e0⟩
    · show Go p e below s _ _ _ (T0.setTop (mkF m 13 #[.val (.int x0), .val (.int x1), .val (.int x2), .val (.int x3), .val (.int x4)] []))
      refine g_iloadN X0 hx 14 (hb hby d6_13) rfl rfl ?_
      show Go p e below s _ _ _ (T0.setTop (mkF m 14 #[.val (.int x0), .val (.int x1), .val (.int x2), .val (.int x3), .val (.int x4)] [(.int x0)]))
      refine g_iloadN X0 hx 15 (hb hby d6_14) rfl rfl ?_
      show Go p e below s _ _ _ (T0.setTop (mkF m 15 #[.val (.int x0), .val (.int x1), .val (.int x2), .val (.int x3), .val (.int x4)] [(.int x2), (.int x0)]))
      refine g_icmp_eq X0 hx 23 18 (hb hby d6_15) (by decide) rfl rfl (fun h3 => ?_) (fun h3 => ?_)
      · show Go p e below s _ _ _ (T0.setTop (mkF m 23 #[.val (.int x0), .val (.int x1), .val (.int x2), .val (.int x3), .val (.int x4)] []))
        refine g_iconst X0 hx (1 : Int32) 24 (hb hby d6_23) rfl rfl ?_
        show Go p e below s _ _ _ (T0.setTop (mkF m 24 #[.val (.int x0), .val (.int x1), .val (.int x2), .val (.int x3), .val (.int x4)] [(.int (1 : Int32))]))
        refine g_goto X0 hx 28 (hb hby d6_24) (by decide) rfl ?_
        show Go p e below s _ _ _ (T0.setTop (mkF m 28 #[.val (.int x0), .val (.int x1), .val (.int x2), .val (.int x3), .val (.int x4)] [(.int (1 : Int32))]))
        exact g_retN X0 hx hret (by simp) hlk (hb hby d6_28) (by decide) (by decide) ⟨congrArg (fun z => some (Value.int z)) (show (1 : Int32) = (f6 x0 x1 x2 x3 x4) from by rw [f6, if_neg h1, if_neg h2, if_pos h3]), rfl, e0⟩
      · show Go p e below s _ _ _ (T0.setTop (mkF m 18 #[.val (.int x0), .val (.int x1), .val (.int x2), .val (.int x3), .val (.int x4)] []))
        refine g_iloadN X0 hx 19 (hb hby d6_18) rfl rfl ?_
        show Go p e below s _ _ _ (T0.setTop (mkF m 19 #[.val (.int x0), .val (.int x1), .val (.int x2), .val (.int x3), .val (.int x4)] [(.int x0)]))
        refine g_iloadN X0 hx 20 (hb hby d6_19) rfl rfl ?_
        show Go p e below s _ _ _ (T0.setTop (mkF m 20 #[.val (.int x0), .val (.int x1), .val (.int x2), .val (.int x3), .val (.int x4)] [(.int x3), (.int x0)]))
        refine g_icmp_ne X0 hx 27 23 (hb hby d6_20) (by decide) rfl rfl (fun h4 => ?_) (fun h4 => ?_)
        · show Go p e below s _ _ _ (T0.setTop (mkF m 23 #[.val (.int x0), .val (.int x1), .val (.int x2), .val (.int x3), .val (.int x4)] []))
          refine g_iconst X0 hx (1 : Int32) 24 (hb hby d6_23) rfl rfl ?_
          show Go p e below s _ _ _ (T0.setTop (mkF m 24 #[.val (.int x0), .val (.int x1), .val (.int x2), .val (.int x3), .val (.int x4)] [(.int (1 : Int32))]))
          refine g_goto X0 hx 28 (hb hby d6_24) (by decide) rfl ?_
          show Go p e below s _ _ _ (T0.setTop (mkF m 28 #[.val (.int x0), .val (.int x1), .val (.int x2), .val (.int x3), .val (.int x4)] [(.int (1 : Int32))]))
          exact g_retN X0 hx hret (by simp) hlk (hb hby d6_28) (by decide) (by decide) ⟨congrArg (fun z => some (Value.int z)) (show (1 : Int32) = (f6 x0 x1 x2 x3 x4) from by rw [f6, if_neg h1, if_neg h2, if_neg h3, if_pos h4]), rfl, e0⟩
        · show Go p e below s _ _ _ (T0.setTop (mkF m 27 #[.val (.int x0), .val (.int x1), .val (.int x2), .val (.int x3), .val (.int x4)] []))
          refine g_iconst X0 hx (0 : Int32) 28 (hb hby d6_27) rfl rfl ?_
          show Go p e below s _ _ _ (T0.setTop (mkF m 28 #[.val (.int x0), .val (.int x1), .val (.int x2), .val (.int x3), .val (.int x4)] [(.int (0 : Int32))]))
          exact g_retN X0 hx hret (by simp) hlk (hb hby d6_28) (by decide) (by decide) ⟨congrArg (fun z => some (Value.int z)) (show (0 : Int32) = (f6 x0 x1 x2 x3 x4) from by rw [f6, if_neg h1, if_neg h2, if_neg h3, if_neg h4]), rfl, e0⟩
def Q4 (Z : State) (x0 : Addr) (x1 : Addr) (x2 : Int32) (a1 : Addr) (a2 : Addr) (nn : Nat) (W0 : Nat → Int64) (O : Nat → Int64) (fn : Nat) (h0 : Heap) (n0 : Nat) (v : Option Value) (h : Heap) (L : List Loc) : Prop := v = none ∧ Fr n0 L ∧ Keep h0 h [a1] ∧ AJ Z h a1 nn (own_or O (nn - (fn + 1)) (fn + 1) (upd W0 fn ((W0 fn) ||| ((O fn) &&& (shlJ (-1 : Int64) x2)))))
theorem d4_31 : decode prog_23_method_6_code 31 = .ok (.iload 4, 2) := by decide +kernel
theorem d4_33 : decode prog_23_method_6_code 33 = .ok (.aload_n 0, 1) := by decide +kernel
theorem d4_34 : decode prog_23_method_6_code 34 = .ok (.getfield 15, 3) := by decide +kernel
theorem d4_37 : decode prog_23_method_6_code 37 = .ok (.arraylength, 1) := by decide +kernel
theorem d4_38 : decode prog_23_method_6_code 38 = .ok (.if_icmp .ge 26, 3) := by decide +kernel
theorem d4_41 : decode prog_23_method_6_code 41 = .ok (.aload_n 0, 1) := by decide +kernel
theorem d4_42 : decode prog_23_method_6_code 42 = .ok (.getfield 15, 3) := by decide +kernel
theorem d4_45 : decode prog_23_method_6_code 45 = .ok (.iload 4, 2) := by decide +kernel
theorem d4_47 : decode prog_23_method_6_code 47 = .ok (.dup2, 1) := by decide +kernel
theorem d4_48 : decode prog_23_method_6_code 48 = .ok (.laload, 1) := by decide +kernel
theorem d4_49 : decode prog_23_method_6_code 49 = .ok (.aload_n 1, 1) := by decide +kernel
theorem d4_50 : decode prog_23_method_6_code 50 = .ok (.getfield 15, 3) := by decide +kernel
theorem d4_53 : decode prog_23_method_6_code 53 = .ok (.iload 4, 2) := by decide +kernel
theorem d4_55 : decode prog_23_method_6_code 55 = .ok (.laload, 1) := by decide +kernel
theorem d4_56 : decode prog_23_method_6_code 56 = .ok (.lor, 1) := by decide +kernel
theorem d4_57 : decode prog_23_method_6_code 57 = .ok (.lastore, 1) := by decide +kernel
theorem d4_58 : decode prog_23_method_6_code 58 = .ok (.iinc 4 1, 3) := by decide +kernel
theorem d4_61 : decode prog_23_method_6_code 61 = .ok (.goto (-30), 3) := by decide +kernel
theorem d4_64 : decode prog_23_method_6_code 64 = .ok (.return_, 1) := by decide +kernel
set_option maxRecDepth 65536 in
set_option maxHeartbeats 40000000 in
theorem sg4 (l : Launch) (Z : State) (a0 : Array Value) (hw : ∀ d ∈ tables_1, d.before a0 Z = true) {p : Program} {e : Env} {s : State} {m : MethodId} {args : Array Value} {below : List Frame} {meth : Method} {c : Code} (hx : p.tables.exec = Jvm.exec) (hby : c.code = prog_23_method_6_code) (hml : c.maxLocals = 5) (hret : meth.sig.returnType = none) (hlk : meth.locks = false) (hown : s.vm.findClass "com/example/brisk_herald/briskherald/PositionSet" = some m.cls) (hnm : meth.name = "addFrom") (hZ : Z.Warmed39 s.vm) (x0 : Addr) (x1 : Addr) (x2 : Int32) (a1 : Addr) (a2 : Addr) (nn : Nat) (W0 : Nat → Int64) (O : Nat → Int64) (fn : Nat) (h0 : Heap) (n0 : Nat) (hf : (ushrI x2 (6 : Int32)).toInt = fn) (hl : fn < nn) : ∀ (k : Nat) (iv : Int32) (i : Nat) (W : Nat → Int64) (T0 : State) (locs : List Loc) (hS : Heap), Stand p l e ({ frames := 0, cells := 0, slots := 0, locals := 0 } : Room) s m args below meth c T0 locs 0 0 → T0.heap = hS → n0 ≤ hS.size → Fr n0 locs → Keep h0 hS [a1] → Fld Z hS x0 "com/example/brisk_herald/briskherald/PositionSet" "bits" "[J" (.ref a1) → Fld Z hS x1 "com/example/brisk_herald/briskherald/PositionSet" "bits" "[J" (.ref a2) → AJ Z hS a1 nn W → AJ Z hS a2 nn O → n0 ≤ a1 → x0 ≠ a1 → x1 ≠ a1 → a2 ≠ a1 → (iv.toInt = i) → (i + k = nn) → (own_or O k i W = (own_or O (nn - (fn + 1)) (fn + 1) (upd W0 fn ((W0 fn) ||| ((O fn) &&& (shlJ (-1 : Int64) x2)))))) → Go p e below s (Q4 Z x0 x1 x2 a1 a2 nn W0 O fn h0 n0) ({ frames := 0, cells := 0, slots := 0, locals := 0 } : Room).cells ({ frames := 0, cells := 0, slots := 0, locals := 0 } : Room).slots (T0.setTop (mkF m 31 #[.val (.ref x0), .val (.ref x1), .val (.int x2), .val (.int (ushrI x2 (6 : Int32))), .val (.int iv)] [])) := by
  intro k
  induction k with
  | zero =>
    intro iv i W T0 locs hS X0 e0 Z0 N0 K0 P0 P1 P2 P3 P4 P5 P6 P7 hi he hW
    refine g_iload X0 hx 33 (hb hby d4_31) rfl rfl ?_
    show Go p e below s _ _ _ (T0.setTop (mkF m 33 #[.val (.ref x0), .val (.ref x1), .val (.int x2), .val (.int (ushrI x2 (6 : Int32))), .val (.int iv)] [(.int iv)]))
    refine g_aloadN X0 hx 34 (hb hby d4_33) rfl rfl rfl ?_
    show Go p e below s _ _ _ (T0.setTop (mkF m 34 #[.val (.ref x0), .val (.ref x1), .val (.int x2), .val (.int (ushrI x2 (6 : Int32))), .val (.int iv)] [(.ref x0), (.int iv)]))
    refine g_getF X0 hx hZ hown (hw _ (List.mem_of_getElem? (i := 13) rfl)) Via.refl e0 P0 37 (hb hby d4_34) rfl ?_
    intro T1 X1 e1
    show Go p e below s _ _ _ (T1.setTop (mkF m 37 #[.val (.ref x0), .val (.ref x1), .val (.int x2), .val (.int (ushrI x2 (6 : Int32))), .val (.int iv)] [(.ref a1), (.int iv)]))
    refine g_arraylengthJ X1 hx hZ e1 P2 (nn.toInt32) rfl 38 (hb hby d4_37) rfl ?_
    show Go p e below s _ _ _ (T1.setTop (mkF m 38 #[.val (.ref x0), .val (.ref x1), .val (.int x2), .val (.int (ushrI x2 (6 : Int32))), .val (.int iv)] [(.int (nn.toInt32)), (.int iv)]))
    have h3 : ¬ (iv < (nn.toInt32)) := fun q => absurd ((own_ltlen hi P2.small).1 q) (by omega)
    refine g_icmp_ge X1 hx 64 41 (hb hby d4_38) (by decide) rfl rfl (fun q => absurd q h3) (fun _ => ?_)
    show Go p e below s _ _ _ (T1.setTop (mkF m 64 #[.val (.ref x0), .val (.ref x1), .val (.int x2), .val (.int (ushrI x2 (6 : Int32))), .val (.int iv)] []))
    exact g_retV X1 hx hret hlk (hb hby d4_64) (by decide) (by decide) (by rw [e1]; exact ⟨rfl, N0, K0, (by rw [← hW]; exact P2)⟩)
  | succ k ih =>
    intro iv i W T0 locs hS X0 e0 Z0 N0 K0 P0 P1 P2 P3 P4 P5 P6 P7 hi he hW
    refine g_iload X0 hx 33 (hb hby d4_31) rfl rfl ?_
    show Go p e below s _ _ _ (T0.setTop (mkF m 33 #[.val (.ref x0), .val (.ref x1), .val (.int x2), .val (.int (ushrI x2 (6 : Int32))), .val (.int iv)] [(.int iv)]))
    refine g_aloadN X0 hx 34 (hb hby d4_33) rfl rfl rfl ?_
    show Go p e below s _ _ _ (T0.setTop (mkF m 34 #[.val (.ref x0), .val (.ref x1), .val (.int x2), .val (.int (ushrI x2 (6 : Int32))), .val (.int iv)] [(.ref x0), (.int iv)]))
    refine g_getF X0 hx hZ hown (hw _ (List.mem_of_getElem? (i := 13) rfl)) Via.refl e0 P0 37 (hb hby d4_34) rfl ?_
    intro T4 X4 e4
    show Go p e below s _ _ _ (T4.setTop (mkF m 37 #[.val (.ref x0), .val (.ref x1), .val (.int x2), .val (.int (ushrI x2 (6 : Int32))), .val (.int iv)] [(.ref a1), (.int iv)]))
    refine g_arraylengthJ X4 hx hZ e4 P2 (nn.toInt32) rfl 38 (hb hby d4_37) rfl ?_
    show Go p e below s _ _ _ (T4.setTop (mkF m 38 #[.val (.ref x0), .val (.ref x1), .val (.int x2), .val (.int (ushrI x2 (6 : Int32))), .val (.int iv)] [(.int (nn.toInt32)), (.int iv)]))
    have h6 : iv < (nn.toInt32) := (own_ltlen hi P2.small).2 (by omega)
    refine g_icmp_ge X4 hx 64 41 (hb hby d4_38) (by decide) rfl rfl (fun _ => ?_) (fun q => absurd h6 q)
    show Go p e below s _ _ _ (T4.setTop (mkF m 41 #[.val (.ref x0), .val (.ref x1), .val (.int x2), .val (.int (ushrI x2 (6 : Int32))), .val (.int iv)] []))
    refine g_aloadN X4 hx 42 (hb hby d4_41) rfl rfl rfl ?_
    show Go p e below s _ _ _ (T4.setTop (mkF m 42 #[.val (.ref x0), .val (.ref x1), .val (.int x2), .val (.int (ushrI x2 (6 : Int32))), .val (.int iv)] [(.ref x0)]))
    refine g_getF X4 hx hZ hown (hw _ (List.mem_of_getElem? (i := 13) rfl)) Via.refl e4 P0 45 (hb hby d4_42) rfl ?_
    intro T7 X7 e7
    show Go p e below s _ _ _ (T7.setTop (mkF m 45 #[.val (.ref x0), .val (.ref x1), .val (.int x2), .val (.int (ushrI x2 (6 : Int32))), .val (.int iv)] [(.ref a1)]))
    refine g_iload X7 hx 47 (hb hby d4_45) rfl rfl ?_
    show Go p e below s _ _ _ (T7.setTop (mkF m 47 #[.val (.ref x0), .val (.ref x1), .val (.int x2), .val (.int (ushrI x2 (6 : Int32))), .val (.int iv)] [(.int iv), (.ref a1)]))
    refine g_dup2 X7 hx 48 (hb hby d4_47) rfl rfl rfl ?_
    show Go p e below s _ _ _ (T7.setTop (mkF m 48 #[.val (.ref x0), .val (.ref x1), .val (.int x2), .val (.int (ushrI x2 (6 : Int32))), .val (.int iv)] [(.int iv), (.ref a1), (.int iv), (.ref a1)]))
    refine g_laload X7 hx hZ e7 P2 i hi (by omega) 49 (hb hby d4_48) rfl ?_
    show Go p e below s _ _ _ (T7.setTop (mkF m 49 #[.val (.ref x0), .val (.ref x1), .val (.int x2), .val (.int (ushrI x2 (6 : Int32))), .val (.int iv)] [(.long (W i)), (.int iv), (.ref a1)]))
    refine g_aloadN X7 hx 50 (hb hby d4_49) rfl rfl rfl ?_
    show Go p e below s _ _ _ (T7.setTop (mkF m 50 #[.val (.ref x0), .val (.ref x1), .val (.int x2), .val (.int (ushrI x2 (6 : Int32))), .val (.int iv)] [(.ref x1), (.long (W i)), (.int iv), (.ref a1)]))
    refine g_getF X7 hx hZ hown (hw _ (List.mem_of_getElem? (i := 13) rfl)) Via.refl e7 P1 53 (hb hby d4_50) rfl ?_
    intro T9 X9 e9
    show Go p e below s _ _ _ (T9.setTop (mkF m 53 #[.val (.ref x0), .val (.ref x1), .val (.int x2), .val (.int (ushrI x2 (6 : Int32))), .val (.int iv)] [(.ref a2), (.long (W i)), (.int iv), (.ref a1)]))
    refine g_iload X9 hx 55 (hb hby d4_53) rfl rfl ?_
    show Go p e below s _ _ _ (T9.setTop (mkF m 55 #[.val (.ref x0), .val (.ref x1), .val (.int x2), .val (.int (ushrI x2 (6 : Int32))), .val (.int iv)] [(.int iv), (.ref a2), (.long (W i)), (.int iv), (.ref a1)]))
    refine g_laload X9 hx hZ e9 P3 i hi (by omega) 56 (hb hby d4_55) rfl ?_
    show Go p e below s _ _ _ (T9.setTop (mkF m 56 #[.val (.ref x0), .val (.ref x1), .val (.int x2), .val (.int (ushrI x2 (6 : Int32))), .val (.int iv)] [(.long (O i)), (.long (W i)), (.int iv), (.ref a1)]))
    refine g_lor X9 hx 57 (hb hby d4_56) rfl ?_
    show Go p e below s _ _ _ (T9.setTop (mkF m 57 #[.val (.ref x0), .val (.ref x1), .val (.int x2), .val (.int (ushrI x2 (6 : Int32))), .val (.int iv)] [(.long ((W i) ||| (O i))), (.int iv), (.ref a1)]))
    refine g_lastore X9 hx hZ e9 P2 i hi (by omega) 58 (hb hby d4_57) rfl ?_
    intro T11 h11 X11 e11 W11 A11
    have K11 := K0.wr W11 (Or.inl (List.mem_of_getElem? (i := 0) rfl))
    have N11 := Fr.snoc X11 N0 P4
    have k11_0 := P0.other W11 (Or.inl P5)
    have k11_1 := P1.other W11 (Or.inl P6)
    have k11_3 := P3.other W11 P7
    have Z11 : n0 ≤ h11.size := by rw [W11.size]; exact Z0
    show Go p e below s _ _ _ (T11.setTop (mkF m 58 #[.val (.ref x0), .val (.ref x1), .val (.int x2), .val (.int (ushrI x2 (6 : Int32))), .val (.int iv)] []))
    refine g_iinc X11 hx (1 : Int32) #[.val (.ref x0), .val (.ref x1), .val (.int x2), .val (.int (ushrI x2 (6 : Int32))), .val (.int (iv + (1 : Int32)))] 61 (hb hby d4_58) rfl rfl rfl rfl ?_
    show Go p e below s _ _ _ (T11.setTop (mkF m 61 #[.val (.ref x0), .val (.ref x1), .val (.int x2), .val (.int (ushrI x2 (6 : Int32))), .val (.int (iv + (1 : Int32)))] []))
    refine g_goto X11 hx 31 (hb hby d4_61) (by decide) rfl ?_
    show Go p e below s _ _ _ (T11.setTop (mkF m 31 #[.val (.ref x0), .val (.ref x1), .val (.int x2), .val (.int (ushrI x2 (6 : Int32))), .val (.int (iv + (1 : Int32)))] []))
    exact ih (iv + (1 : Int32)) (i + 1) (upd W i ((W i) ||| (O i))) _ _ _ X11 e11 Z11 N11 K11 k11_0 k11_1 A11 k11_3 P4 P5 P6 P7 (own_succ hi (by have := P2.small; omega)) (by omega) hW
theorem d4_0 : decode prog_23_method_6_code 0 = .ok (.iload_n 2, 1) := by decide +kernel
theorem d4_1 : decode prog_23_method_6_code 1 = .ok (.bipush 6, 2) := by decide +kernel
theorem d4_3 : decode prog_23_method_6_code 3 = .ok (.iushr, 1) := by decide +kernel
theorem d4_4 : decode prog_23_method_6_code 4 = .ok (.istore_n 3, 1) := by decide +kernel
theorem d4_5 : decode prog_23_method_6_code 5 = .ok (.aload_n 0, 1) := by decide +kernel
theorem d4_6 : decode prog_23_method_6_code 6 = .ok (.getfield 15, 3) := by decide +kernel
theorem d4_9 : decode prog_23_method_6_code 9 = .ok (.iload_n 3, 1) := by decide +kernel
theorem d4_10 : decode prog_23_method_6_code 10 = .ok (.dup2, 1) := by decide +kernel
theorem d4_11 : decode prog_23_method_6_code 11 = .ok (.laload, 1) := by decide +kernel
theorem d4_12 : decode prog_23_method_6_code 12 = .ok (.aload_n 1, 1) := by decide +kernel
theorem d4_13 : decode prog_23_method_6_code 13 = .ok (.getfield 15, 3) := by decide +kernel
theorem d4_16 : decode prog_23_method_6_code 16 = .ok (.iload_n 3, 1) := by decide +kernel
theorem d4_17 : decode prog_23_method_6_code 17 = .ok (.laload, 1) := by decide +kernel
theorem d4_18 : decode prog_23_method_6_code 18 = .ok (.ldc2_w 19, 3) := by decide +kernel
theorem d4_21 : decode prog_23_method_6_code 21 = .ok (.iload_n 2, 1) := by decide +kernel
theorem d4_22 : decode prog_23_method_6_code 22 = .ok (.lshl, 1) := by decide +kernel
theorem d4_23 : decode prog_23_method_6_code 23 = .ok (.land, 1) := by decide +kernel
theorem d4_24 : decode prog_23_method_6_code 24 = .ok (.lor, 1) := by decide +kernel
theorem d4_25 : decode prog_23_method_6_code 25 = .ok (.lastore, 1) := by decide +kernel
theorem d4_26 : decode prog_23_method_6_code 26 = .ok (.iload_n 3, 1) := by decide +kernel
theorem d4_27 : decode prog_23_method_6_code 27 = .ok (.iconst 1, 1) := by decide +kernel
theorem d4_28 : decode prog_23_method_6_code 28 = .ok (.iadd, 1) := by decide +kernel
theorem d4_29 : decode prog_23_method_6_code 29 = .ok (.istore 4, 2) := by decide +kernel
theorem ef_4 (m : MethodId) (x0 : Addr) (x1 : Addr) (x2 : Int32) : entryFrame m #[(.ref x0), (.ref x1), (.int x2)] 5 = mkF m 0 #[.val (.ref x0), .val (.ref x1), .val (.int x2), .unset, .unset] [] := by first | (simp [entryFrame, mkF, argsToLocals, Value.category]; done) | rfl
set_option maxRecDepth 65536 in
set_option maxHeartbeats 40000000 in
theorem rm4 (l : Launch) (Z : State) (a0 : Array Value) (hw : ∀ d ∈ tables_1, d.before a0 Z = true) (ws : List Jvm.Cond) (x0 : Addr) (x1 : Addr) (x2 : Int32) (a1 : Addr) (a2 : Addr) (nn : Nat) (W0 : Nat → Int64) (O : Nat → Int64) (fn : Nat) (h0 : Heap) (n0 : Nat) (Z0 : n0 ≤ h0.size) (P0 : Fld Z h0 x0 "com/example/brisk_herald/briskherald/PositionSet" "bits" "[J" (.ref a1)) (P1 : Fld Z h0 x1 "com/example/brisk_herald/briskherald/PositionSet" "bits" "[J" (.ref a2)) (P2 : AJ Z h0 a1 nn W0) (P3 : AJ Z h0 a2 nn O) (P4 : n0 ≤ a1) (P5 : x0 ≠ a1) (P6 : x1 ≠ a1) (P7 : a2 ≠ a1) (hf : (ushrI x2 (6 : Int32)).toInt = fn) (hl : fn < nn) :
    MetFree l (⟨"com/example/brisk_herald/briskherald/PositionSet", "addFrom", "(Lcom/example/brisk_herald/briskherald/PositionSet;I)V"⟩ : MethodName) (head1 (Jvm.Cond.code (⟨"com/example/brisk_herald/briskherald/PositionSet", "addFrom", "(Lcom/example/brisk_herald/briskherald/PositionSet;I)V"⟩ : MethodName) prog_23_method_6_code 5 none :: ws) ({ frames := 0, cells := 0, slots := 0, locals := 0 } : Room)) (fun a U => a = #[(.ref x0), (.ref x1), (.int x2)] ∧ Z.Warmed39 U.vm ∧ U.heap = h0) (fun _ _ _ _ _ => True) (fun _ U o U' => ∃ v L, o = .returned v ∧ Q4 Z x0 x1 x2 a1 a2 nn W0 O fn h0 n0 v U'.heap L ∧ FrameEnd U o U' L ({ frames := 0, cells := 0, slots := 0, locals := 0 } : Room).cells ({ frames := 0, cells := 0, slots := 0, locals := 0 } : Room).slots) := by
  refine g_body (plainFor_of_name pn_1) ?_
  intro p e s m below meth c T0 X0 hx hby hml hret hlk hown hnm hZ e0
  rw [ef_4]
  have N0 := Fr.nil n0
  show Go p e below s _ _ _ (T0.setTop (mkF m 0 #[.val (.ref x0), .val (.ref x1), .val (.int x2), .unset, .unset] []))
  refine g_iloadN X0 hx 1 (hb hby d4_0) rfl rfl ?_
  show Go p e below s _ _ _ (T0.setTop (mkF m 1 #[.val (.ref x0), .val (.ref x1), .val (.int x2), .unset, .unset] [(.int x2)]))
  refine g_bipush X0 hx (6 : Int32) 3 (hb hby d4_1) rfl rfl ?_
  show Go p e below s _ _ _ (T0.setTop (mkF m 3 #[.val (.ref x0), .val (.ref x1), .val (.int x2), .unset, .unset] [(.int (6 : Int32)), (.int x2)]))
  refine g_iushr X0 hx 4 (hb hby d4_3) rfl ?_
  show Go p e below s _ _ _ (T0.setTop (mkF m 4 #[.val (.ref x0), .val (.ref x1), .val (.int x2), .unset, .unset] [(.int (ushrI x2 (6 : Int32)))]))
  refine g_istoreN X0 hx #[.val (.ref x0), .val (.ref x1), .val (.int x2), .val (.int (ushrI x2 (6 : Int32))), .unset] 5 (hb hby d4_4) rfl rfl ?_
  show Go p e below s _ _ _ (T0.setTop (mkF m 5 #[.val (.ref x0), .val (.ref x1), .val (.int x2), .val (.int (ushrI x2 (6 : Int32))), .unset] []))
  refine g_aloadN X0 hx 6 (hb hby d4_5) rfl rfl rfl ?_
  show Go p e below s _ _ _ (T0.setTop (mkF m 6 #[.val (.ref x0), .val (.ref x1), .val (.int x2), .val (.int (ushrI x2 (6 : Int32))), .unset] [(.ref x0)]))
  refine g_getF X0 hx hZ hown (hw _ (List.mem_of_getElem? (i := 13) rfl)) Via.refl e0 P0 9 (hb hby d4_6) rfl ?_
  intro T12 X12 e12
  show Go p e below s _ _ _ (T12.setTop (mkF m 9 #[.val (.ref x0), .val (.ref x1), .val (.int x2), .val (.int (ushrI x2 (6 : Int32))), .unset] [(.ref a1)]))
  refine g_iloadN X12 hx 10 (hb hby d4_9) rfl rfl ?_
  show Go p e below s _ _ _ (T12.setTop (mkF m 10 #[.val (.ref x0), .val (.ref x1), .val (.int x2), .val (.int (ushrI x2 (6 : Int32))), .unset] [(.int (ushrI x2 (6 : Int32))), (.ref a1)]))
  refine g_dup2 X12 hx 11 (hb hby d4_10) rfl rfl rfl ?_
  show Go p e below s _ _ _ (T12.setTop (mkF m 11 #[.val (.ref x0), .val (.ref x1), .val (.int x2), .val (.int (ushrI x2 (6 : Int32))), .unset] [(.int (ushrI x2 (6 : Int32))), (.ref a1), (.int (ushrI x2 (6 : Int32))), (.ref a1)]))
  refine g_laload X12 hx hZ e12 P2 fn hf hl 12 (hb hby d4_11) rfl ?_
  show Go p e below s _ _ _ (T12.setTop (mkF m 12 #[.val (.ref x0), .val (.ref x1), .val (.int x2), .val (.int (ushrI x2 (6 : Int32))), .unset] [(.long (W0 fn)), (.int (ushrI x2 (6 : Int32))), (.ref a1)]))
  refine g_aloadN X12 hx 13 (hb hby d4_12) rfl rfl rfl ?_
  show Go p e below s _ _ _ (T12.setTop (mkF m 13 #[.val (.ref x0), .val (.ref x1), .val (.int x2), .val (.int (ushrI x2 (6 : Int32))), .unset] [(.ref x1), (.long (W0 fn)), (.int (ushrI x2 (6 : Int32))), (.ref a1)]))
  refine g_getF X12 hx hZ hown (hw _ (List.mem_of_getElem? (i := 13) rfl)) Via.refl e12 P1 16 (hb hby d4_13) rfl ?_
  intro T14 X14 e14
  show Go p e below s _ _ _ (T14.setTop (mkF m 16 #[.val (.ref x0), .val (.ref x1), .val (.int x2), .val (.int (ushrI x2 (6 : Int32))), .unset] [(.ref a2), (.long (W0 fn)), (.int (ushrI x2 (6 : Int32))), (.ref a1)]))
  refine g_iloadN X14 hx 17 (hb hby d4_16) rfl rfl ?_
  show Go p e below s _ _ _ (T14.setTop (mkF m 17 #[.val (.ref x0), .val (.ref x1), .val (.int x2), .val (.int (ushrI x2 (6 : Int32))), .unset] [(.int (ushrI x2 (6 : Int32))), (.ref a2), (.long (W0 fn)), (.int (ushrI x2 (6 : Int32))), (.ref a1)]))
  refine g_laload X14 hx hZ e14 P3 fn hf hl 18 (hb hby d4_17) rfl ?_
  show Go p e below s _ _ _ (T14.setTop (mkF m 18 #[.val (.ref x0), .val (.ref x1), .val (.int x2), .val (.int (ushrI x2 (6 : Int32))), .unset] [(.long (O fn)), (.long (W0 fn)), (.int (ushrI x2 (6 : Int32))), (.ref a1)]))
  refine g_ldc2_w X14 hx hZ hown (hw _ (List.mem_of_getElem? (i := 25) rfl)) 21 (hb hby d4_18) rfl ?_
  show Go p e below s _ _ _ (T14.setTop (mkF m 21 #[.val (.ref x0), .val (.ref x1), .val (.int x2), .val (.int (ushrI x2 (6 : Int32))), .unset] [(.long (-1 : Int64)), (.long (O fn)), (.long (W0 fn)), (.int (ushrI x2 (6 : Int32))), (.ref a1)]))
  refine g_iloadN X14 hx 22 (hb hby d4_21) rfl rfl ?_
  show Go p e below s _ _ _ (T14.setTop (mkF m 22 #[.val (.ref x0), .val (.ref x1), .val (.int x2), .val (.int (ushrI x2 (6 : Int32))), .unset] [(.int x2), (.long (-1 : Int64)), (.long (O fn)), (.long (W0 fn)), (.int (ushrI x2 (6 : Int32))), (.ref a1)]))
  refine g_lshl X14 hx 23 (hb hby d4_22) rfl ?_
  show Go p e below s _ _ _ (T14.setTop (mkF m 23 #[.val (.ref x0), .val (.ref x1), .val (.int x2), .val (.int (ushrI x2 (6 : Int32))), .unset] [(.long (shlJ (-1 : Int64) x2)), (.long (O fn)), (.long (W0 fn)), (.int (ushrI x2 (6 : Int32))), (.ref a1)]))
  refine g_land X14 hx 24 (hb hby d4_23) rfl ?_
  show Go p e below s _ _ _ (T14.setTop (mkF m 24 #[.val (.ref x0), .val (.ref x1), .val (.int x2), .val (.int (ushrI x2 (6 : Int32))), .unset] [(.long ((O fn) &&& (shlJ (-1 : Int64) x2))), (.long (W0 fn)), (.int (ushrI x2 (6 : Int32))), (.ref a1)]))
  refine g_lor X14 hx 25 (hb hby d4_24) rfl ?_
  show Go p e below s _ _ _ (T14.setTop (mkF m 25 #[.val (.ref x0), .val (.ref x1), .val (.int x2), .val (.int (ushrI x2 (6 : Int32))), .unset] [(.long ((W0 fn) ||| ((O fn) &&& (shlJ (-1 : Int64) x2)))), (.int (ushrI x2 (6 : Int32))), (.ref a1)]))
  refine g_lastore X14 hx hZ e14 P2 fn hf hl 26 (hb hby d4_25) rfl ?_
  intro T16 h16 X16 e16 W16 A16
  have K16 := (Keep.refl h0 [a1]).wr W16 (Or.inl (List.mem_of_getElem? (i := 0) rfl))
  have N16 := Fr.snoc X16 N0 P4
  have k16_0 := P0.other W16 (Or.inl P5)
  have k16_1 := P1.other W16 (Or.inl P6)
  have k16_3 := P3.other W16 P7
  have Z16 : n0 ≤ h16.size := by rw [W16.size]; exact Z0
  show Go p e below s _ _ _ (T16.setTop (mkF m 26 #[.val (.ref x0), .val (.ref x1), .val (.int x2), .val (.int (ushrI x2 (6 : Int32))), .unset] []))
  refine g_iloadN X16 hx 27 (hb hby d4_26) rfl rfl ?_
  show Go p e below s _ _ _ (T16.setTop (mkF m 27 #[.val (.ref x0), .val (.ref x1), .val (.int x2), .val (.int (ushrI x2 (6 : Int32))), .unset] [(.int (ushrI x2 (6 : Int32)))]))
  refine g_iconst X16 hx (1 : Int32) 28 (hb hby d4_27) rfl rfl ?_
  show Go p e below s _ _ _ (T16.setTop (mkF m 28 #[.val (.ref x0), .val (.ref x1), .val (.int x2), .val (.int (ushrI x2 (6 : Int32))), .unset] [(.int (1 : Int32)), (.int (ushrI x2 (6 : Int32)))]))
  refine g_iadd X16 hx 29 (hb hby d4_28) rfl ?_
  show Go p e below s _ _ _ (T16.setTop (mkF m 29 #[.val (.ref x0), .val (.ref x1), .val (.int x2), .val (.int (ushrI x2 (6 : Int32))), .unset] [(.int ((ushrI x2 (6 : Int32)) + (1 : Int32)))]))
  refine g_istore X16 hx #[.val (.ref x0), .val (.ref x1), .val (.int x2), .val (.int (ushrI x2 (6 : Int32))), .val (.int ((ushrI x2 (6 : Int32)) + (1 : Int32)))] 31 (hb hby d4_29) rfl rfl ?_
  show Go p e below s _ _ _ (T16.setTop (mkF m 31 #[.val (.ref x0), .val (.ref x1), .val (.int x2), .val (.int (ushrI x2 (6 : Int32))), .val (.int ((ushrI x2 (6 : Int32)) + (1 : Int32)))] []))
  exact sg4 l Z a0 hw hx hby hml hret hlk hown hnm hZ x0 x1 x2 a1 a2 nn W0 O fn h0 n0 hf hl (nn - (fn + 1)) ((ushrI x2 (6 : Int32)) + (1 : Int32)) (fn + 1) (upd W0 fn ((W0 fn) ||| ((O fn) &&& (shlJ (-1 : Int64) x2)))) _ _ _ X16 e16 Z16 N16 K16 k16_0 k16_1 A16 k16_3 P4 P5 P6 P7 (own_succ hf (by have := P2.small; omega)) (by omega) rfl
def v0_sz (x0 : Int32) : Int32 := ((1 : Int32) + (x0 &&& (255 : Int32)))
theorem own_or_at (O : Nat → Int64) (q : Nat) : ∀ (k i : Nat) (W : Nat → Int64), own_or O k i W q = if i ≤ q ∧ q < i + k then W q ||| O q else W q
  | 0, i, W => by rw [if_neg (by omega)]; rfl
  | k + 1, i, W => by
    show own_or O k (i + 1) (upd W i (W i ||| O i)) q = _
    rw [own_or_at O q k (i + 1)]
    by_cases h : q = i
    · subst h
      rw [if_neg (by omega), if_pos (by omega)]; simp [upd]
    · by_cases h2 : i + 1 ≤ q ∧ q < i + 1 + k
      · rw [if_pos h2, if_pos (by omega)]; simp [upd, h]
      · rw [if_neg h2, if_neg (by omega)]; simp [upd, h]
/-- the j-th bit of a long -/
def own_B (w : Int64) (j : Nat) : Bool := w.toBitVec.getLsbD j
theorem own_Bor (a b : Int64) (j : Nat) : own_B (a ||| b) j = (own_B a j || own_B b j) := by simp [own_B]
theorem own_Band (a b : Int64) (j : Nat) : own_B (a &&& b) j = (own_B a j && own_B b j) := by simp [own_B]
theorem own_B0 (j : Nat) : own_B 0 j = false := by simp [own_B]
theorem own_shift (a : Int64) (x : Int32) (n : Nat) (hx : x.toInt = n) : (shlJ a x).toBitVec = a.toBitVec <<< (n % 64) := by
  have hk : x.toBitVec.toNat % 64 = n % 64 := by
    have h : x.toInt = x.toBitVec.toInt := rfl
    have h2 := BitVec.toInt_eq_toNat_cond x.toBitVec
    have h3 := x.toBitVec.isLt
    rw [h, h2] at hx
    split at hx <;> omega
  obtain ⟨e, -⟩ := sm64 x (n % 64) hk
  have hd : (shlJ a x).toBitVec = a.toBitVec <<< (((x &&& 0x3f).toInt64.toBitVec).smod 64) := rfl
  rw [hd, e]
  have s := smod64 (n % 64) (by omega)
  rw [BitVec.shiftLeft_eq', s]
theorem own_B1 (x : Int32) (n j : Nat) (hx : x.toInt = n) (hj : j < 64) : own_B (shlJ 1 x) j = decide (j = n % 64) := by
  unfold own_B; rw [own_shift 1 x n hx, BitVec.getLsbD_shiftLeft]
  have e : (1 : Int64).toBitVec = 1#64 := rfl
  rw [e, BitVec.getLsbD_one]
  by_cases h : j = n % 64
  · subst h; simp <;> omega
  · simp [h] <;> omega
theorem own_Bm (x : Int32) (n j : Nat) (hx : x.toInt = n) (hj : j < 64) : own_B (shlJ (-1) x) j = decide (n % 64 ≤ j) := by
  unfold own_B; rw [own_shift (-1) x n hx, BitVec.getLsbD_shiftLeft]
  have e : (-1 : Int64).toBitVec = BitVec.allOnes 64 := rfl
  rw [e, BitVec.getLsbD_allOnes]
  by_cases h : n % 64 ≤ j
  · simp [h] <;> omega
  · simp [h] <;> omega
theorem own_test (w : Int64) (x : Int32) (n : Nat) (hx : x.toInt = n) : (w &&& shlJ 1 x) = 0 ↔ own_B w (n % 64) = false := by
  have hl : n % 64 < 64 := Nat.mod_lt _ (by decide)
  constructor
  · intro h
    have := own_Band w (shlJ 1 x) (n % 64)
    rw [h, own_B0, own_B1 x n _ hx hl] at this
    simpa using this.symm
  · intro h
    apply Int64.toBitVec_inj.mp
    apply BitVec.eq_of_getLsbD_eq
    intro j hj
    show own_B (w &&& shlJ 1 x) j = own_B 0 j
    rw [own_Band, own_B1 x n j hx hj, own_B0]
    by_cases q : j = n % 64
    · subst q; simp [h]
    · simp [q]
/-- the set at the end: S with r, O with p and q taken over from 'from' on -/
def own_S (r : Int32) (rn : Nat) : Nat → Int64 := upd (fun _ => (0 : Int64)) rn ((0 : Int64) ||| shlJ 1 r)
def own_O (p q : Int32) (pn qn : Nat) : Nat → Int64 := upd (upd (fun _ => (0 : Int64)) pn ((0 : Int64) ||| shlJ 1 p)) qn ((upd (fun _ => (0 : Int64)) pn ((0 : Int64) ||| shlJ 1 p)) qn ||| shlJ 1 q)
def own_E (S O : Nat → Int64) (nn fn : Nat) (fr : Int32) : Nat → Int64 := own_or O (nn - (fn + 1)) (fn + 1) (upd S fn ((S fn) ||| ((O fn) &&& shlJ (-1) fr)))
theorem own_div (a b : Nat) : a / 64 = b / 64 ∧ a % 64 = b % 64 ↔ a = b := by omega
theorem own_Sb (r : Int32) (n : Nat) (hr : r.toInt = n) (x : Nat) : own_B (own_S r (n / 64) (x / 64)) (x % 64) = decide (x = n) := by
  unfold own_S upd
  have hl : x % 64 < 64 := Nat.mod_lt _ (by decide)
  by_cases h : x / 64 = n / 64
  · rw [if_pos h, own_Bor, own_B0, own_B1 r n _ hr hl, Bool.false_or]
    by_cases z : x = n
    · subst z; simp
    · have : ¬ x % 64 = n % 64 := by omega
      simp [this, z]
  · rw [if_neg h, own_B0]
    have : ¬ x = n := fun z => h (by rw [z])
    simp [this]
theorem own_Ob (p q : Int32) (pn qn : Nat) (hp : p.toInt = pn) (hq : q.toInt = qn) (x : Nat) : own_B (own_O p q (pn / 64) (qn / 64) (x / 64)) (x % 64) = (decide (x = pn) || decide (x = qn)) := by
  have hl : x % 64 < 64 := Nat.mod_lt _ (by decide)
  have h0 := own_Sb p pn hp
  have e : own_O p q (pn / 64) (qn / 64) = upd (own_S p (pn / 64)) (qn / 64) ((own_S p (pn / 64)) (qn / 64) ||| shlJ 1 q) := rfl
  rw [e]
  unfold upd
  by_cases h : x / 64 = qn / 64
  · rw [if_pos h, own_Bor, ← h, h0 x, own_B1 q qn _ hq hl]
    by_cases z : x = qn
    · subst z; simp
    · have : ¬ x % 64 = qn % 64 := by omega
      simp [this, z]
  · rw [if_neg h, h0 x]
    have : ¬ x = qn := fun z => h (by rw [z])
    simp [this]
theorem own_Eb (S O : Nat → Int64) (nn f : Nat) (fr : Int32) (hf : fr.toInt = f) (x : Nat) (hx : x / 64 < nn) : own_B (own_E S O nn (f / 64) fr (x / 64)) (x % 64) = (own_B (S (x / 64)) (x % 64) || (decide (f ≤ x) && own_B (O (x / 64)) (x % 64))) := by
  have hl : x % 64 < 64 := Nat.mod_lt _ (by decide)
  unfold own_E
  rw [own_or_at]
  by_cases h : x / 64 = f / 64
  · rw [if_neg (by omega), h]
    show own_B (upd S (f / 64) _ (f / 64)) _ = _
    simp only [upd, if_true]
    rw [own_Bor, own_Band, own_Bm fr f _ hf hl]
    have : decide (f % 64 ≤ x % 64) = decide (f ≤ x) := by
      by_cases z : f ≤ x
      · have : f % 64 ≤ x % 64 := by omega
        simp [z, this]
      · have : ¬ f % 64 ≤ x % 64 := by omega
        simp [z, this]
    rw [this, Bool.and_comm (decide _)]
  · by_cases z : f ≤ x
    · rw [if_pos (by omega)]
      simp only [upd, if_neg h]
      rw [own_Bor]; simp [z]
    · rw [if_neg (by omega)]
      simp only [upd, if_neg h]; simp [z]
/-- contains() is what expected() says -/
theorem own_same (x fr p q r : Int32) (xn f pn qn rn nn : Nat) (hx : x.toInt = xn) (hf : fr.toInt = f) (hp : p.toInt = pn) (hq : q.toInt = qn) (hr : r.toInt = rn) (hn : xn / 64 < nn) :
    f5 x (own_E (own_S r (rn / 64)) (own_O p q (pn / 64) (qn / 64)) nn (f / 64) fr) (xn / 64) = f6 x fr p q r := by
  have eqi : ∀ (a b : Int32) (m n : Nat), a.toInt = m → b.toInt = n → (a = b ↔ m = n) := fun a b m n h1 h2 => by
    rw [← Int32.toInt_inj, h1, h2]; omega
  have t := own_test (own_E (own_S r (rn / 64)) (own_O p q (pn / 64) (qn / 64)) nn (f / 64) fr (xn / 64)) x xn hx
  rw [own_Eb _ _ nn f fr hf xn hn, own_Sb r rn hr, own_Ob p q pn qn hp hq] at t
  unfold f5 f6
  have q1 := eqi x r xn rn hx hr
  have q2 := eqi x p xn pn hx hp
  have q3 := eqi x q xn qn hx hq
  have q4 : x < fr ↔ xn < f := by rw [Int32.lt_iff_toInt_lt, hx, hf]; omega
  by_cases z1 : xn = rn
  · rw [if_pos (q1.2 z1), if_neg]
    intro h; have := t.1 h; simp [z1] at this
  · rw [if_neg (fun h => z1 (q1.1 h))]
    by_cases z4 : xn < f
    · rw [if_pos (q4.2 z4), if_pos]
      exact t.2 (by have : ¬ f ≤ xn := by omega
                    simp [z1, this])
    · rw [if_neg (fun h => z4 (q4.1 h))]
      have z5 : f ≤ xn := by omega
      by_cases z2 : xn = pn
      · rw [if_pos (q2.2 z2), if_neg]
        intro h; have := t.1 h; simp [z2, z2 ▸ z5] at this
      · rw [if_neg (fun h => z2 (q2.1 h))]
        by_cases z3 : xn = qn
        · rw [if_pos (q3.2 z3), if_neg]
          intro h; have := t.1 h; simp [z3, z3 ▸ z5] at this
        · rw [if_neg (fun h => z3 (q3.1 h)), if_pos]
          exact t.2 (by simp [z1, z2, z3])
theorem own_sz (x : Int32) : 1 ≤ (v0_sz x).toInt ∧ (v0_sz x).toInt ≤ 256 := by
  unfold v0_sz
  have m : (x &&& 255).toInt = x.toInt % 256 := c_mask x 255 8 (by decide) (by decide)
  have a := c_iadd 1 (x &&& 255); have r := rng32 (1 + (x &&& 255)); have e1 : (1 : Int32).toInt = 1 := rfl
  omega
theorem own_szne (x : Int32) : ¬ v0_sz x = 0 := fun h => by have := own_sz x; rw [h] at this; have e : (0 : Int32).toInt = 0 := rfl; omega
def own_wn (x : Int32) : Nat := ((v0_sz x).toInt.toNat + 63) / 64
theorem own_wI (x : Int32) : ((((v0_sz x) + 64) - 1) / 64).toInt = own_wn x := by
  have s := own_sz x
  have e1 : (1 : Int32).toInt = 1 := rfl
  have e64 : (64 : Int32).toInt = 64 := rfl
  have a := c_iadd (v0_sz x) 64; have ra := rng32 (v0_sz x + 64)
  have b := c_isub (v0_sz x + 64) 1; have rb := rng32 (v0_sz x + 64 - 1)
  have d := (c_idiv (v0_sz x + 64 - 1) 64 64 rfl (by decide)).1 (by omega)
  unfold own_wn
  omega
theorem own_w4 (x : Int32) : own_wn x ≤ 4 := by have s := own_sz x; unfold own_wn; omega
def own_pos (y x : Int32) : Nat := ((y &&& 2147483647) % v0_sz x).toInt.toNat
theorem own_pos_lt (y x : Int32) : ((y &&& 2147483647) % v0_sz x).toInt = own_pos y x ∧ own_pos y x < (v0_sz x).toInt.toNat := by
  have s := own_sz x
  have m : (y &&& 2147483647).toInt = y.toInt % 2147483648 := c_mask y 2147483647 31 (by decide) (by decide)
  have r := (c_iremV (y &&& 2147483647) (v0_sz x)).1 (by omega) (by omega)
  unfold own_pos
  omega
theorem own_six (y : Int32) (n : Nat) (h : y.toInt = n) : (ushrI y 6).toInt = ((n / 64 : Nat) : Int) := by
  have u : (ushrI y 6).toInt = y.toInt % 4294967296 / (2 ^ 6 : Nat) := c_iushr y 6 6 (by decide) (by decide)
  have r := rng32 y
  rw [u, h, show ((2 ^ 6 : Nat) : Int) = 64 from rfl]; omega
theorem own_in_w (y x : Int32) : own_pos y x / 64 < own_wn x := by
  have := (own_pos_lt y x).2; have := own_sz x; unfold own_wn; omega

def v0_from (x0 : Int32) (x1 : Int32) : Int32 := ((x1 &&& (2147483647 : Int32)) % (v0_sz x0))
def v0_p (x0 : Int32) (x2 : Int32) : Int32 := ((x2 &&& (2147483647 : Int32)) % (v0_sz x0))
def v0_q (x0 : Int32) (x3 : Int32) : Int32 := ((x3 &&& (2147483647 : Int32)) % (v0_sz x0))
def v0_r (x0 : Int32) (x4 : Int32) : Int32 := ((x4 &&& (2147483647 : Int32)) % (v0_sz x0))
def v0_t (x0 : Int32) (x5 : Int32) : Int32 := ((x5 &&& (2147483647 : Int32)) % (v0_sz x0))
theorem pd__28I_29V : parseMethodDescriptor "(I)V" = some ⟨[.int], none⟩ := by decide +kernel
theorem pd__28Lcom_2fexample_2fbrisk_herald_2fbriskherald_2fPositionSet_3bI_29V : parseMethodDescriptor "(Lcom/example/brisk_herald/briskherald/PositionSet;I)V" = some ⟨[(.object "com/example/brisk_herald/briskherald/PositionSet"), .int], none⟩ := by decide +kernel
theorem pd__28I_29Z : parseMethodDescriptor "(I)Z" = some ⟨[.int], some .boolean⟩ := by decide +kernel
theorem pd__28IIIII_29Z : parseMethodDescriptor "(IIIII)Z" = some ⟨[.int, .int, .int, .int, .int], some .boolean⟩ := by decide +kernel
theorem ef_0 (m : MethodId) (x0 : Int32) (x1 : Int32) (x2 : Int32) (x3 : Int32) (x4 : Int32) (x5 : Int32) : entryFrame m #[(.int x0), (.int x1), (.int x2), (.int x3), (.int x4), (.int x5)] maxLocals = mkF m 0 #[.val (.int x0), .val (.int x1), .val (.int x2), .val (.int x3), .val (.int x4), .val (.int x5), .unset, .unset, .unset, .unset, .unset, .unset, .unset, .unset, .unset, .unset, .unset] [] := by first | (simp [entryFrame, mkF, argsToLocals, Value.category, maxLocals]; done) | rfl
def Q0 (Z : State) (x0 : Int32) (x1 : Int32) (x2 : Int32) (x3 : Int32) (x4 : Int32) (x5 : Int32) (h0 : Heap) (n0 : Nat) (v : Option Value) (h : Heap) (L : List Loc) : Prop := v = some (.int (1 : Int32)) ∧ Fr n0 L
set_option maxRecDepth 65536 in
set_option maxHeartbeats 40000000 in
theorem rm0 (l : Launch) (Z : State) (a0 : Array Value) (hw : ∀ d ∈ tables_1, d.before a0 Z = true) (ws : List Jvm.Cond) (x0 : Int32) (x1 : Int32) (x2 : Int32) (x3 : Int32) (x4 : Int32) (x5 : Int32) (h0 : Heap) (n0 : Nat) (Z0 : n0 ≤ h0.size) :
    MetFree l x (head1 (Jvm.Cond.code x code maxLocals ret :: ws) room_1) (fun a U => a = #[(.int x0), (.int x1), (.int x2), (.int x3), (.int x4), (.int x5)] ∧ Z.Warmed39 U.vm ∧ U.heap = h0) (fun _ _ _ _ _ => True) (fun _ U o U' => ∃ v L, o = .returned v ∧ Q0 Z x0 x1 x2 x3 x4 x5 h0 n0 v U'.heap L ∧ FrameEnd U o U' L room_1.cells room_1.slots) := by
  refine g_body (plainFor_of_name pn_6) ?_
  intro p e s m below meth c T0 X0 hx hby hml hret hlk hown hnm hZ e0
  rw [ef_0]
  have N0 := Fr.nil n0
  show Go p e below s _ _ _ (T0.setTop (mkF m 0 #[.val (.int x0), .val (.int x1), .val (.int x2), .val (.int x3), .val (.int x4), .val (.int x5), .unset, .unset, .unset, .unset, .unset, .unset, .unset, .unset, .unset, .unset, .unset] []))
  refine g_iconst X0 hx (1 : Int32) 1 (hb hby at_0) rfl rfl ?_
  show Go p e below s _ _ _ (T0.setTop (mkF m 1 #[.val (.int x0), .val (.int x1), .val (.int x2), .val (.int x3), .val (.int x4), .val (.int x5), .unset, .unset, .unset, .unset, .unset, .unset, .unset, .unset, .unset, .unset, .unset] [(.int (1 : Int32))]))
  refine g_iloadN X0 hx 2 (hb hby at_1) rfl rfl ?_
  show Go p e below s _ _ _ (T0.setTop (mkF m 2 #[.val (.int x0), .val (.int x1), .val (.int x2), .val (.int x3), .val (.int x4), .val (.int x5), .unset, .unset, .unset, .unset, .unset, .unset, .unset, .unset, .unset, .unset, .unset] [(.int x0), (.int (1 : Int32))]))
  refine g_sipush X0 hx (255 : Int32) 5 (hb hby at_2) rfl rfl ?_
  show Go p e below s _ _ _ (T0.setTop (mkF m 5 #[.val (.int x0), .val (.int x1), .val (.int x2), .val (.int x3), .val (.int x4), .val (.int x5), .unset, .unset, .unset, .unset, .unset, .unset, .unset, .unset, .unset, .unset, .unset] [(.int (255 : Int32)), (.int x0), (.int (1 : Int32))]))
  refine g_iand X0 hx 6 (hb hby at_5) rfl ?_
  show Go p e below s _ _ _ (T0.setTop (mkF m 6 #[.val (.int x0), .val (.int x1), .val (.int x2), .val (.int x3), .val (.int x4), .val (.int x5), .unset, .unset, .unset, .unset, .unset, .unset, .unset, .unset, .unset, .unset, .unset] [(.int (x0 &&& (255 : Int32))), (.int (1 : Int32))]))
  refine g_iadd X0 hx 7 (hb hby at_6) rfl ?_
  show Go p e below s _ _ _ (T0.setTop (mkF m 7 #[.val (.int x0), .val (.int x1), .val (.int x2), .val (.int x3), .val (.int x4), .val (.int x5), .unset, .unset, .unset, .unset, .unset, .unset, .unset, .unset, .unset, .unset, .unset] [(.int ((1 : Int32) + (x0 &&& (255 : Int32))))]))
  refine g_istore X0 hx #[.val (.int x0), .val (.int x1), .val (.int x2), .val (.int x3), .val (.int x4), .val (.int x5), .val (.int (v0_sz x0)), .unset, .unset, .unset, .unset, .unset, .unset, .unset, .unset, .unset, .unset] 9 (hb hby at_7) rfl rfl ?_
  show Go p e below s _ _ _ (T0.setTop (mkF m 9 #[.val (.int x0), .val (.int x1), .val (.int x2), .val (.int x3), .val (.int x4), .val (.int x5), .val (.int (v0_sz x0)), .unset, .unset, .unset, .unset, .unset, .unset, .unset, .unset, .unset, .unset] []))
  refine g_iloadN X0 hx 10 (hb hby at_9) rfl rfl ?_
  show Go p e below s _ _ _ (T0.setTop (mkF m 10 #[.val (.int x0), .val (.int x1), .val (.int x2), .val (.int x3), .val (.int x4), .val (.int x5), .val (.int (v0_sz x0)), .unset, .unset, .unset, .unset, .unset, .unset, .unset, .unset, .unset, .unset] [(.int x1)]))
  refine g_ldc X0 hx hZ hown (hw _ (List.mem_of_getElem? (i := 0) rfl)) 12 (hb hby at_10) rfl ?_
  show Go p e below s _ _ _ (T0.setTop (mkF m 12 #[.val (.int x0), .val (.int x1), .val (.int x2), .val (.int x3), .val (.int x4), .val (.int x5), .val (.int (v0_sz x0)), .unset, .unset, .unset, .unset, .unset, .unset, .unset, .unset, .unset, .unset] [(.int (2147483647 : Int32)), (.int x1)]))
  refine g_iand X0 hx 13 (hb hby at_12) rfl ?_
  show Go p e below s _ _ _ (T0.setTop (mkF m 13 #[.val (.int x0), .val (.int x1), .val (.int x2), .val (.int x3), .val (.int x4), .val (.int x5), .val (.int (v0_sz x0)), .unset, .unset, .unset, .unset, .unset, .unset, .unset, .unset, .unset, .unset] [(.int (x1 &&& (2147483647 : Int32)))]))
  refine g_iload X0 hx 15 (hb hby at_13) rfl rfl ?_
  show Go p e below s _ _ _ (T0.setTop (mkF m 15 #[.val (.int x0), .val (.int x1), .val (.int x2), .val (.int x3), .val (.int x4), .val (.int x5), .val (.int (v0_sz x0)), .unset, .unset, .unset, .unset, .unset, .unset, .unset, .unset, .unset, .unset] [(.int (v0_sz x0)), (.int (x1 &&& (2147483647 : Int32)))]))
  refine g_irem X0 hx 16 (hb hby at_15) (own_szne x0) rfl ?_
  show Go p e below s _ _ _ (T0.setTop (mkF m 16 #[.val (.int x0), .val (.int x1), .val (.int x2), .val (.int x3), .val (.int x4), .val (.int x5), .val (.int (v0_sz x0)), .unset, .unset, .unset, .unset, .unset, .unset, .unset, .unset, .unset, .unset] [(.int ((x1 &&& (2147483647 : Int32)) % (v0_sz x0)))]))
  refine g_istore X0 hx #[.val (.int x0), .val (.int x1), .val (.int x2), .val (.int x3), .val (.int x4), .val (.int x5), .val (.int (v0_sz x0)), .val (.int (v0_from x0 x1)), .unset, .unset, .unset, .unset, .unset, .unset, .unset, .unset, .unset] 18 (hb hby at_16) rfl rfl ?_
  show Go p e below s _ _ _ (T0.setTop (mkF m 18 #[.val (.int x0), .val (.int x1), .val (.int x2), .val (.int x3), .val (.int x4), .val (.int x5), .val (.int (v0_sz x0)), .val (.int (v0_from x0 x1)), .unset, .unset, .unset, .unset, .unset, .unset, .unset, .unset, .unset] []))
  refine g_iloadN X0 hx 19 (hb hby at_18) rfl rfl ?_
  show Go p e below s _ _ _ (T0.setTop (mkF m 19 #[.val (.int x0), .val (.int x1), .val (.int x2), .val (.int x3), .val (.int x4), .val (.int x5), .val (.int (v0_sz x0)), .val (.int (v0_from x0 x1)), .unset, .unset, .unset, .unset, .unset, .unset, .unset, .unset, .unset] [(.int x2)]))
  refine g_ldc X0 hx hZ hown (hw _ (List.mem_of_getElem? (i := 0) rfl)) 21 (hb hby at_19) rfl ?_
  show Go p e below s _ _ _ (T0.setTop (mkF m 21 #[.val (.int x0), .val (.int x1), .val (.int x2), .val (.int x3), .val (.int x4), .val (.int x5), .val (.int (v0_sz x0)), .val (.int (v0_from x0 x1)), .unset, .unset, .unset, .unset, .unset, .unset, .unset, .unset, .unset] [(.int (2147483647 : Int32)), (.int x2)]))
  refine g_iand X0 hx 22 (hb hby at_21) rfl ?_
  show Go p e below s _ _ _ (T0.setTop (mkF m 22 #[.val (.int x0), .val (.int x1), .val (.int x2), .val (.int x3), .val (.int x4), .val (.int x5), .val (.int (v0_sz x0)), .val (.int (v0_from x0 x1)), .unset, .unset, .unset, .unset, .unset, .unset, .unset, .unset, .unset] [(.int (x2 &&& (2147483647 : Int32)))]))
  refine g_iload X0 hx 24 (hb hby at_22) rfl rfl ?_
  show Go p e below s _ _ _ (T0.setTop (mkF m 24 #[.val (.int x0), .val (.int x1), .val (.int x2), .val (.int x3), .val (.int x4), .val (.int x5), .val (.int (v0_sz x0)), .val (.int (v0_from x0 x1)), .unset, .unset, .unset, .unset, .unset, .unset, .unset, .unset, .unset] [(.int (v0_sz x0)), (.int (x2 &&& (2147483647 : Int32)))]))
  refine g_irem X0 hx 25 (hb hby at_24) (own_szne x0) rfl ?_
  show Go p e below s _ _ _ (T0.setTop (mkF m 25 #[.val (.int x0), .val (.int x1), .val (.int x2), .val (.int x3), .val (.int x4), .val (.int x5), .val (.int (v0_sz x0)), .val (.int (v0_from x0 x1)), .unset, .unset, .unset, .unset, .unset, .unset, .unset, .unset, .unset] [(.int ((x2 &&& (2147483647 : Int32)) % (v0_sz x0)))]))
  refine g_istore X0 hx #[.val (.int x0), .val (.int x1), .val (.int x2), .val (.int x3), .val (.int x4), .val (.int x5), .val (.int (v0_sz x0)), .val (.int (v0_from x0 x1)), .val (.int (v0_p x0 x2)), .unset, .unset, .unset, .unset, .unset, .unset, .unset, .unset] 27 (hb hby at_25) rfl rfl ?_
  show Go p e below s _ _ _ (T0.setTop (mkF m 27 #[.val (.int x0), .val (.int x1), .val (.int x2), .val (.int x3), .val (.int x4), .val (.int x5), .val (.int (v0_sz x0)), .val (.int (v0_from x0 x1)), .val (.int (v0_p x0 x2)), .unset, .unset, .unset, .unset, .unset, .unset, .unset, .unset] []))
  refine g_iloadN X0 hx 28 (hb hby at_27) rfl rfl ?_
  show Go p e below s _ _ _ (T0.setTop (mkF m 28 #[.val (.int x0), .val (.int x1), .val (.int x2), .val (.int x3), .val (.int x4), .val (.int x5), .val (.int (v0_sz x0)), .val (.int (v0_from x0 x1)), .val (.int (v0_p x0 x2)), .unset, .unset, .unset, .unset, .unset, .unset, .unset, .unset] [(.int x3)]))
  refine g_ldc X0 hx hZ hown (hw _ (List.mem_of_getElem? (i := 0) rfl)) 30 (hb hby at_28) rfl ?_
  show Go p e below s _ _ _ (T0.setTop (mkF m 30 #[.val (.int x0), .val (.int x1), .val (.int x2), .val (.int x3), .val (.int x4), .val (.int x5), .val (.int (v0_sz x0)), .val (.int (v0_from x0 x1)), .val (.int (v0_p x0 x2)), .unset, .unset, .unset, .unset, .unset, .unset, .unset, .unset] [(.int (2147483647 : Int32)), (.int x3)]))
  refine g_iand X0 hx 31 (hb hby at_30) rfl ?_
  show Go p e below s _ _ _ (T0.setTop (mkF m 31 #[.val (.int x0), .val (.int x1), .val (.int x2), .val (.int x3), .val (.int x4), .val (.int x5), .val (.int (v0_sz x0)), .val (.int (v0_from x0 x1)), .val (.int (v0_p x0 x2)), .unset, .unset, .unset, .unset, .unset, .unset, .unset, .unset] [(.int (x3 &&& (2147483647 : Int32)))]))
  refine g_iload X0 hx 33 (hb hby at_31) rfl rfl ?_
  show Go p e below s _ _ _ (T0.setTop (mkF m 33 #[.val (.int x0), .val (.int x1), .val (.int x2), .val (.int x3), .val (.int x4), .val (.int x5), .val (.int (v0_sz x0)), .val (.int (v0_from x0 x1)), .val (.int (v0_p x0 x2)), .unset, .unset, .unset, .unset, .unset, .unset, .unset, .unset] [(.int (v0_sz x0)), (.int (x3 &&& (2147483647 : Int32)))]))
  refine g_irem X0 hx 34 (hb hby at_33) (own_szne x0) rfl ?_
  show Go p e below s _ _ _ (T0.setTop (mkF m 34 #[.val (.int x0), .val (.int x1), .val (.int x2), .val (.int x3), .val (.int x4), .val (.int x5), .val (.int (v0_sz x0)), .val (.int (v0_from x0 x1)), .val (.int (v0_p x0 x2)), .unset, .unset, .unset, .unset, .unset, .unset, .unset, .unset] [(.int ((x3 &&& (2147483647 : Int32)) % (v0_sz x0)))]))
  refine g_istore X0 hx #[.val (.int x0), .val (.int x1), .val (.int x2), .val (.int x3), .val (.int x4), .val (.int x5), .val (.int (v0_sz x0)), .val (.int (v0_from x0 x1)), .val (.int (v0_p x0 x2)), .val (.int (v0_q x0 x3)), .unset, .unset, .unset, .unset, .unset, .unset, .unset] 36 (hb hby at_34) rfl rfl ?_
  show Go p e below s _ _ _ (T0.setTop (mkF m 36 #[.val (.int x0), .val (.int x1), .val (.int x2), .val (.int x3), .val (.int x4), .val (.int x5), .val (.int (v0_sz x0)), .val (.int (v0_from x0 x1)), .val (.int (v0_p x0 x2)), .val (.int (v0_q x0 x3)), .unset, .unset, .unset, .unset, .unset, .unset, .unset] []))
  refine g_iload X0 hx 38 (hb hby at_36) rfl rfl ?_
  show Go p e below s _ _ _ (T0.setTop (mkF m 38 #[.val (.int x0), .val (.int x1), .val (.int x2), .val (.int x3), .val (.int x4), .val (.int x5), .val (.int (v0_sz x0)), .val (.int (v0_from x0 x1)), .val (.int (v0_p x0 x2)), .val (.int (v0_q x0 x3)), .unset, .unset, .unset, .unset, .unset, .unset, .unset] [(.int x4)]))
  refine g_ldc X0 hx hZ hown (hw _ (List.mem_of_getElem? (i := 0) rfl)) 40 (hb hby at_38) rfl ?_
  show Go p e below s _ _ _ (T0.setTop (mkF m 40 #[.val (.int x0), .val (.int x1), .val (.int x2), .val (.int x3), .val (.int x4), .val (.int x5), .val (.int (v0_sz x0)), .val (.int (v0_from x0 x1)), .val (.int (v0_p x0 x2)), .val (.int (v0_q x0 x3)), .unset, .unset, .unset, .unset, .unset, .unset, .unset] [(.int (2147483647 : Int32)), (.int x4)]))
  refine g_iand X0 hx 41 (hb hby at_40) rfl ?_
  show Go p e below s _ _ _ (T0.setTop (mkF m 41 #[.val (.int x0), .val (.int x1), .val (.int x2), .val (.int x3), .val (.int x4), .val (.int x5), .val (.int (v0_sz x0)), .val (.int (v0_from x0 x1)), .val (.int (v0_p x0 x2)), .val (.int (v0_q x0 x3)), .unset, .unset, .unset, .unset, .unset, .unset, .unset] [(.int (x4 &&& (2147483647 : Int32)))]))
  refine g_iload X0 hx 43 (hb hby at_41) rfl rfl ?_
  show Go p e below s _ _ _ (T0.setTop (mkF m 43 #[.val (.int x0), .val (.int x1), .val (.int x2), .val (.int x3), .val (.int x4), .val (.int x5), .val (.int (v0_sz x0)), .val (.int (v0_from x0 x1)), .val (.int (v0_p x0 x2)), .val (.int (v0_q x0 x3)), .unset, .unset, .unset, .unset, .unset, .unset, .unset] [(.int (v0_sz x0)), (.int (x4 &&& (2147483647 : Int32)))]))
  refine g_irem X0 hx 44 (hb hby at_43) (own_szne x0) rfl ?_
  show Go p e below s _ _ _ (T0.setTop (mkF m 44 #[.val (.int x0), .val (.int x1), .val (.int x2), .val (.int x3), .val (.int x4), .val (.int x5), .val (.int (v0_sz x0)), .val (.int (v0_from x0 x1)), .val (.int (v0_p x0 x2)), .val (.int (v0_q x0 x3)), .unset, .unset, .unset, .unset, .unset, .unset, .unset] [(.int ((x4 &&& (2147483647 : Int32)) % (v0_sz x0)))]))
  refine g_istore X0 hx #[.val (.int x0), .val (.int x1), .val (.int x2), .val (.int x3), .val (.int x4), .val (.int x5), .val (.int (v0_sz x0)), .val (.int (v0_from x0 x1)), .val (.int (v0_p x0 x2)), .val (.int (v0_q x0 x3)), .val (.int (v0_r x0 x4)), .unset, .unset, .unset, .unset, .unset, .unset] 46 (hb hby at_44) rfl rfl ?_
  show Go p e below s _ _ _ (T0.setTop (mkF m 46 #[.val (.int x0), .val (.int x1), .val (.int x2), .val (.int x3), .val (.int x4), .val (.int x5), .val (.int (v0_sz x0)), .val (.int (v0_from x0 x1)), .val (.int (v0_p x0 x2)), .val (.int (v0_q x0 x3)), .val (.int (v0_r x0 x4)), .unset, .unset, .unset, .unset, .unset, .unset] []))
  refine g_iload X0 hx 48 (hb hby at_46) rfl rfl ?_
  show Go p e below s _ _ _ (T0.setTop (mkF m 48 #[.val (.int x0), .val (.int x1), .val (.int x2), .val (.int x3), .val (.int x4), .val (.int x5), .val (.int (v0_sz x0)), .val (.int (v0_from x0 x1)), .val (.int (v0_p x0 x2)), .val (.int (v0_q x0 x3)), .val (.int (v0_r x0 x4)), .unset, .unset, .unset, .unset, .unset, .unset] [(.int x5)]))
  refine g_ldc X0 hx hZ hown (hw _ (List.mem_of_getElem? (i := 0) rfl)) 50 (hb hby at_48) rfl ?_
  show Go p e below s _ _ _ (T0.setTop (mkF m 50 #[.val (.int x0), .val (.int x1), .val (.int x2), .val (.int x3), .val (.int x4), .val (.int x5), .val (.int (v0_sz x0)), .val (.int (v0_from x0 x1)), .val (.int (v0_p x0 x2)), .val (.int (v0_q x0 x3)), .val (.int (v0_r x0 x4)), .unset, .unset, .unset, .unset, .unset, .unset] [(.int (2147483647 : Int32)), (.int x5)]))
  refine g_iand X0 hx 51 (hb hby at_50) rfl ?_
  show Go p e below s _ _ _ (T0.setTop (mkF m 51 #[.val (.int x0), .val (.int x1), .val (.int x2), .val (.int x3), .val (.int x4), .val (.int x5), .val (.int (v0_sz x0)), .val (.int (v0_from x0 x1)), .val (.int (v0_p x0 x2)), .val (.int (v0_q x0 x3)), .val (.int (v0_r x0 x4)), .unset, .unset, .unset, .unset, .unset, .unset] [(.int (x5 &&& (2147483647 : Int32)))]))
  refine g_iload X0 hx 53 (hb hby at_51) rfl rfl ?_
  show Go p e below s _ _ _ (T0.setTop (mkF m 53 #[.val (.int x0), .val (.int x1), .val (.int x2), .val (.int x3), .val (.int x4), .val (.int x5), .val (.int (v0_sz x0)), .val (.int (v0_from x0 x1)), .val (.int (v0_p x0 x2)), .val (.int (v0_q x0 x3)), .val (.int (v0_r x0 x4)), .unset, .unset, .unset, .unset, .unset, .unset] [(.int (v0_sz x0)), (.int (x5 &&& (2147483647 : Int32)))]))
  refine g_irem X0 hx 54 (hb hby at_53) (own_szne x0) rfl ?_
  show Go p e below s _ _ _ (T0.setTop (mkF m 54 #[.val (.int x0), .val (.int x1), .val (.int x2), .val (.int x3), .val (.int x4), .val (.int x5), .val (.int (v0_sz x0)), .val (.int (v0_from x0 x1)), .val (.int (v0_p x0 x2)), .val (.int (v0_q x0 x3)), .val (.int (v0_r x0 x4)), .unset, .unset, .unset, .unset, .unset, .unset] [(.int ((x5 &&& (2147483647 : Int32)) % (v0_sz x0)))]))
  refine g_istore X0 hx #[.val (.int x0), .val (.int x1), .val (.int x2), .val (.int x3), .val (.int x4), .val (.int x5), .val (.int (v0_sz x0)), .val (.int (v0_from x0 x1)), .val (.int (v0_p x0 x2)), .val (.int (v0_q x0 x3)), .val (.int (v0_r x0 x4)), .val (.int (v0_t x0 x5)), .unset, .unset, .unset, .unset, .unset] 56 (hb hby at_54) rfl rfl ?_
  show Go p e below s _ _ _ (T0.setTop (mkF m 56 #[.val (.int x0), .val (.int x1), .val (.int x2), .val (.int x3), .val (.int x4), .val (.int x5), .val (.int (v0_sz x0)), .val (.int (v0_from x0 x1)), .val (.int (v0_p x0 x2)), .val (.int (v0_q x0 x3)), .val (.int (v0_r x0 x4)), .val (.int (v0_t x0 x5)), .unset, .unset, .unset, .unset, .unset] []))
  refine g_new X0 hx hZ hown (hw _ (List.mem_of_getElem? (i := 1) rfl)) (hw _ (List.mem_of_getElem? (i := 2) rfl)) (hw _ (List.mem_of_getElem? (i := 3) rfl)) e0 59 (hb hby at_56) (by decide) (by decide) rfl ?_
  intro T1 h1 b1 g1 X1 e1 E1 A1 D1
  have N_b1 : n0 ≤ b1 := Nat.le_trans Z0 (Nat.le_of_eq g1.symm)
  have Z1 : n0 ≤ h1.size := Nat.le_trans Z0 E1.1
  have F1_size : Fld Z h1 b1 "com/example/brisk_herald/briskherald/PositionSet" "size" "I" (.int (0 : Int32)) := D1 (Or.inr (hw _ (List.mem_of_getElem? (i := 11) rfl))) (ty := .int) (by decide)
  have F1_bits : Fld Z h1 b1 "com/example/brisk_herald/briskherald/PositionSet" "bits" "[J" .null := D1 (Or.inr (hw _ (List.mem_of_getElem? (i := 14) rfl))) (ty := (.array .long)) (by decide)
  show Go p e below s _ _ _ (T1.setTop (mkF m 59 #[.val (.int x0), .val (.int x1), .val (.int x2), .val (.int x3), .val (.int x4), .val (.int x5), .val (.int (v0_sz x0)), .val (.int (v0_from x0 x1)), .val (.int (v0_p x0 x2)), .val (.int (v0_q x0 x3)), .val (.int (v0_r x0 x4)), .val (.int (v0_t x0 x5)), .unset, .unset, .unset, .unset, .unset] [(.ref b1)]))
  refine g_dup X1 hx 60 (hb hby at_59) rfl rfl ?_
  show Go p e below s _ _ _ (T1.setTop (mkF m 60 #[.val (.int x0), .val (.int x1), .val (.int x2), .val (.int x3), .val (.int x4), .val (.int x5), .val (.int (v0_sz x0)), .val (.int (v0_from x0 x1)), .val (.int (v0_p x0 x2)), .val (.int (v0_q x0 x3)), .val (.int (v0_r x0 x4)), .val (.int (v0_t x0 x5)), .unset, .unset, .unset, .unset, .unset] [(.ref b1), (.ref b1)]))
  refine g_iload X1 hx 62 (hb hby at_60) rfl rfl ?_
  show Go p e below s _ _ _ (T1.setTop (mkF m 62 #[.val (.int x0), .val (.int x1), .val (.int x2), .val (.int x3), .val (.int x4), .val (.int x5), .val (.int (v0_sz x0)), .val (.int (v0_from x0 x1)), .val (.int (v0_p x0 x2)), .val (.int (v0_q x0 x3)), .val (.int (v0_r x0 x4)), .val (.int (v0_t x0 x5)), .unset, .unset, .unset, .unset, .unset] [(.int (v0_sz x0)), (.ref b1), (.ref b1)]))
  refine g_callI X1 hx hZ rfl hown (hw _ (List.mem_of_getElem? (i := 4) rfl)) (hw _ (List.mem_of_getElem? (i := 5) rfl)) (hw _ (List.mem_of_getElem? (i := 3) rfl)) (hw _ (List.mem_of_getElem? (i := 6) rfl)) (by decide) e1 (rm1 l Z a0 hw [] b1 (v0_sz x0) (own_wn x0) h1 n0 Z1 A1 F1_size F1_bits N_b1 (own_wI x0 : ((((v0_sz x0) + (64 : Int32)) - (1 : Int32)) / (64 : Int32)).toInt = (own_wn x0)) (own_w4 x0 : (own_wn x0) ≤ 4)) b1 [(.int (v0_sz x0))] [(.ref b1)] 1 rfl (lenOf pd__28I_29V rfl) rfl (Nat.le_of_eq rfl) (by decide) (by decide) (by decide) (by decide) (by rw [hml]; rfl) (hb hby at_62) ?_
  intro T2 L2 v2 X2 q2
  obtain ⟨rfl, N2, K2, b2_0, sz2_0, p2_0, p2_1⟩ := q2
  have NN2 := Fr.app N0 N2
  have N_b2_0 : n0 ≤ b2_0 := Nat.le_trans Z1 sz2_0
  have ne_b1_b2_0 : b1 ≠ b2_0 := Nat.ne_of_lt (Nat.lt_of_lt_of_le A1.lt sz2_0)
  have k2_1 := A1.keep K2
  have Z2 : n0 ≤ T2.heap.size := Nat.le_trans Z1 K2.1
  show Go p e below s _ _ _ (T2.setTop (mkF m 65 #[.val (.int x0), .val (.int x1), .val (.int x2), .val (.int x3), .val (.int x4), .val (.int x5), .val (.int (v0_sz x0)), .val (.int (v0_from x0 x1)), .val (.int (v0_p x0 x2)), .val (.int (v0_q x0 x3)), .val (.int (v0_r x0 x4)), .val (.int (v0_t x0 x5)), .unset, .unset, .unset, .unset, .unset] [(.ref b1)]))
  refine g_astore X2 hx #[.val (.int x0), .val (.int x1), .val (.int x2), .val (.int x3), .val (.int x4), .val (.int x5), .val (.int (v0_sz x0)), .val (.int (v0_from x0 x1)), .val (.int (v0_p x0 x2)), .val (.int (v0_q x0 x3)), .val (.int (v0_r x0 x4)), .val (.int (v0_t x0 x5)), .val (.ref b1), .unset, .unset, .unset, .unset] 67 (hb hby at_65) rfl rfl rfl ?_
  show Go p e below s _ _ _ (T2.setTop (mkF m 67 #[.val (.int x0), .val (.int x1), .val (.int x2), .val (.int x3), .val (.int x4), .val (.int x5), .val (.int (v0_sz x0)), .val (.int (v0_from x0 x1)), .val (.int (v0_p x0 x2)), .val (.int (v0_q x0 x3)), .val (.int (v0_r x0 x4)), .val (.int (v0_t x0 x5)), .val (.ref b1), .unset, .unset, .unset, .unset] []))
  refine g_new X2 hx hZ hown (hw _ (List.mem_of_getElem? (i := 1) rfl)) (hw _ (List.mem_of_getElem? (i := 2) rfl)) (hw _ (List.mem_of_getElem? (i := 3) rfl)) rfl 70 (hb hby at_67) (by decide) (by decide) rfl ?_
  intro T3 h3 b3 g3 X3 e3 E3 A3 D3
  have N_b3 : n0 ≤ b3 := Nat.le_trans Z2 (Nat.le_of_eq g3.symm)
  have ne_b1_b3 : b1 ≠ b3 := Nat.ne_of_lt (Nat.lt_of_lt_of_le k2_1.lt (Nat.le_of_eq g3.symm))
  have ne_b2_0_b3 : b2_0 ≠ b3 := Nat.ne_of_lt (Nat.lt_of_lt_of_le p2_1.lt (Nat.le_of_eq g3.symm))
  have k3_1 := k2_1.ext E3
  have k3_4 := p2_0.ext E3
  have k3_5 := p2_1.ext E3
  have Z3 : n0 ≤ h3.size := Nat.le_trans Z2 E3.1
  have F3_size : Fld Z h3 b3 "com/example/brisk_herald/briskherald/PositionSet" "size" "I" (.int (0 : Int32)) := D3 (Or.inr (hw _ (List.mem_of_getElem? (i := 11) rfl))) (ty := .int) (by decide)
  have F3_bits : Fld Z h3 b3 "com/example/brisk_herald/briskherald/PositionSet" "bits" "[J" .null := D3 (Or.inr (hw _ (List.mem_of_getElem? (i := 14) rfl))) (ty := (.array .long)) (by decide)
  show Go p e below s _ _ _ (T3.setTop (mkF m 70 #[.val (.int x0), .val (.int x1), .val (.int x2), .val (.int x3), .val (.int x4), .val (.int x5), .val (.int (v0_sz x0)), .val (.int (v0_from x0 x1)), .val (.int (v0_p x0 x2)), .val (.int (v0_q x0 x3)), .val (.int (v0_r x0 x4)), .val (.int (v0_t x0 x5)), .val (.ref b1), .unset, .unset, .unset, .unset] [(.ref b3)]))
  refine g_dup X3 hx 71 (hb hby at_70) rfl rfl ?_
  show Go p e below s _ _ _ (T3.setTop (mkF m 71 #[.val (.int x0), .val (.int x1), .val (.int x2), .val (.int x3), .val (.int x4), .val (.int x5), .val (.int (v0_sz x0)), .val (.int (v0_from x0 x1)), .val (.int (v0_p x0 x2)), .val (.int (v0_q x0 x3)), .val (.int (v0_r x0 x4)), .val (.int (v0_t x0 x5)), .val (.ref b1), .unset, .unset, .unset, .unset] [(.ref b3), (.ref b3)]))
  refine g_iload X3 hx 73 (hb hby at_71) rfl rfl ?_
  show Go p e below s _ _ _ (T3.setTop (mkF m 73 #[.val (.int x0), .val (.int x1), .val (.int x2), .val (.int x3), .val (.int x4), .val (.int x5), .val (.int (v0_sz x0)), .val (.int (v0_from x0 x1)), .val (.int (v0_p x0 x2)), .val (.int (v0_q x0 x3)), .val (.int (v0_r x0 x4)), .val (.int (v0_t x0 x5)), .val (.ref b1), .unset, .unset, .unset, .unset] [(.int (v0_sz x0)), (.ref b3), (.ref b3)]))
  refine g_callI X3 hx hZ rfl hown (hw _ (List.mem_of_getElem? (i := 4) rfl)) (hw _ (List.mem_of_getElem? (i := 5) rfl)) (hw _ (List.mem_of_getElem? (i := 3) rfl)) (hw _ (List.mem_of_getElem? (i := 6) rfl)) (by decide) e3 (rm1 l Z a0 hw [] b3 (v0_sz x0) (own_wn x0) h3 n0 Z3 A3 F3_size F3_bits N_b3 (own_wI x0 : ((((v0_sz x0) + (64 : Int32)) - (1 : Int32)) / (64 : Int32)).toInt = (own_wn x0)) (own_w4 x0 : (own_wn x0) ≤ 4)) b3 [(.int (v0_sz x0))] [(.ref b3)] 1 rfl (lenOf pd__28I_29V rfl) rfl (Nat.le_of_eq rfl) (by decide) (by decide) (by decide) (by decide) (by rw [hml]; rfl) (hb hby at_73) ?_
  intro T4 L4 v4 X4 q4
  obtain ⟨rfl, N4, K4, b4_0, sz4_0, p4_0, p4_1⟩ := q4
  have NN4 := Fr.app NN2 N4
  have N_b4_0 : n0 ≤ b4_0 := Nat.le_trans Z3 sz4_0
  have ne_b1_b4_0 : b1 ≠ b4_0 := Nat.ne_of_lt (Nat.lt_of_lt_of_le k3_1.lt sz4_0)
  have ne_b2_0_b4_0 : b2_0 ≠ b4_0 := Nat.ne_of_lt (Nat.lt_of_lt_of_le k3_5.lt sz4_0)
  have ne_b3_b4_0 : b3 ≠ b4_0 := Nat.ne_of_lt (Nat.lt_of_lt_of_le A3.lt sz4_0)
  have k4_1 := k3_1.keep K4
  have k4_4 := k3_4.keep K4 (nm1 ne_b1_b3 nm0)
  have k4_5 := k3_5.keep K4 (nm1 ne_b2_0_b3 nm0)
  have k4_9 := A3.keep K4
  have Z4 : n0 ≤ T4.heap.size := Nat.le_trans Z3 K4.1
  show Go p e below s _ _ _ (T4.setTop (mkF m 76 #[.val (.int x0), .val (.int x1), .val (.int x2), .val (.int x3), .val (.int x4), .val (.int x5), .val (.int (v0_sz x0)), .val (.int (v0_from x0 x1)), .val (.int (v0_p x0 x2)), .val (.int (v0_q x0 x3)), .val (.int (v0_r x0 x4)), .val (.int (v0_t x0 x5)), .val (.ref b1), .unset, .unset, .unset, .unset] [(.ref b3)]))
  refine g_astore X4 hx #[.val (.int x0), .val (.int x1), .val (.int x2), .val (.int x3), .val (.int x4), .val (.int x5), .val (.int (v0_sz x0)), .val (.int (v0_from x0 x1)), .val (.int (v0_p x0 x2)), .val (.int (v0_q x0 x3)), .val (.int (v0_r x0 x4)), .val (.int (v0_t x0 x5)), .val (.ref b1), .val (.ref b3), .unset, .unset, .unset] 78 (hb hby at_76) rfl rfl rfl ?_
  show Go p e below s _ _ _ (T4.setTop (mkF m 78 #[.val (.int x0), .val (.int x1), .val (.int x2), .val (.int x3), .val (.int x4), .val (.int x5), .val (.int (v0_sz x0)), .val (.int (v0_from x0 x1)), .val (.int (v0_p x0 x2)), .val (.int (v0_q x0 x3)), .val (.int (v0_r x0 x4)), .val (.int (v0_t x0 x5)), .val (.ref b1), .val (.ref b3), .unset, .unset, .unset] []))
  refine g_aload X4 hx 80 (hb hby at_78) rfl rfl rfl ?_
  show Go p e below s _ _ _ (T4.setTop (mkF m 80 #[.val (.int x0), .val (.int x1), .val (.int x2), .val (.int x3), .val (.int x4), .val (.int x5), .val (.int (v0_sz x0)), .val (.int (v0_from x0 x1)), .val (.int (v0_p x0 x2)), .val (.int (v0_q x0 x3)), .val (.int (v0_r x0 x4)), .val (.int (v0_t x0 x5)), .val (.ref b1), .val (.ref b3), .unset, .unset, .unset] [(.ref b1)]))
  refine g_iload X4 hx 82 (hb hby at_80) rfl rfl ?_
  show Go p e below s _ _ _ (T4.setTop (mkF m 82 #[.val (.int x0), .val (.int x1), .val (.int x2), .val (.int x3), .val (.int x4), .val (.int x5), .val (.int (v0_sz x0)), .val (.int (v0_from x0 x1)), .val (.int (v0_p x0 x2)), .val (.int (v0_q x0 x3)), .val (.int (v0_r x0 x4)), .val (.int (v0_t x0 x5)), .val (.ref b1), .val (.ref b3), .unset, .unset, .unset] [(.int (v0_r x0 x4)), (.ref b1)]))
  refine g_callV X4 hx hZ hown (hw _ (List.mem_of_getElem? (i := 15) rfl)) (hw _ (List.mem_of_getElem? (i := 16) rfl)) (hw _ (List.mem_of_getElem? (i := 18) rfl)) (hw _ (List.mem_of_getElem? (i := 17) rfl)) (hw _ (List.mem_of_getElem? (i := 3) rfl)) (hw _ (List.mem_of_getElem? (i := 19) rfl)) (by decide) rfl b1 k4_1 (rm3 l Z a0 hw [] b1 (v0_r x0 x4) b2_0 (own_wn x0) (fun _ => (0 : Int64)) (own_pos x4 x0 / 64) T4.heap n0 Z4 k4_4 k4_5 N_b2_0 ne_b1_b2_0 (own_six _ _ (own_pos_lt x4 x0).1 : (ushrI (v0_r x0 x4) (6 : Int32)).toInt = (own_pos x4 x0 / 64)) (own_in_w x4 x0 : (own_pos x4 x0 / 64) < (own_wn x0))) [(.int (v0_r x0 x4))] [] 0 rfl (lenOf pd__28I_29V rfl) rfl (Nat.le_of_eq rfl) (by decide) (by decide) (by decide) (by decide) (by rw [hml]; rfl) (hb hby at_82) ?_
  intro T5 L5 v5 X5 q5
  obtain ⟨rfl, N5, K5, p5_0⟩ := q5
  have NN5 := Fr.app NN4 N5
  have k5_1 := k4_1.keep K5
  have k5_4 := k4_4.keep K5 (nm1 ne_b1_b2_0 nm0)
  have k5_9 := k4_9.keep K5
  have k5_14 := p4_0.keep K5 (nm1 (Ne.symm ne_b2_0_b3) nm0)
  have k5_15 := p4_1.keep K5 (nm1 (Ne.symm ne_b2_0_b4_0) nm0)
  have Z5 : n0 ≤ T5.heap.size := Nat.le_trans Z4 K5.1
  show Go p e below s _ _ _ (T5.setTop (mkF m 85 #[.val (.int x0), .val (.int x1), .val (.int x2), .val (.int x3), .val (.int x4), .val (.int x5), .val (.int (v0_sz x0)), .val (.int (v0_from x0 x1)), .val (.int (v0_p x0 x2)), .val (.int (v0_q x0 x3)), .val (.int (v0_r x0 x4)), .val (.int (v0_t x0 x5)), .val (.ref b1), .val (.ref b3), .unset, .unset, .unset] []))
  refine g_aload X5 hx 87 (hb hby at_85) rfl rfl rfl ?_
  show Go p e below s _ _ _ (T5.setTop (mkF m 87 #[.val (.int x0), .val (.int x1), .val (.int x2), .val (.int x3), .val (.int x4), .val (.int x5), .val (.int (v0_sz x0)), .val (.int (v0_from x0 x1)), .val (.int (v0_p x0 x2)), .val (.int (v0_q x0 x3)), .val (.int (v0_r x0 x4)), .val (.int (v0_t x0 x5)), .val (.ref b1), .val (.ref b3), .unset, .unset, .unset] [(.ref b3)]))
  refine g_iload X5 hx 89 (hb hby at_87) rfl rfl ?_
  show Go p e below s _ _ _ (T5.setTop (mkF m 89 #[.val (.int x0), .val (.int x1), .val (.int x2), .val (.int x3), .val (.int x4), .val (.int x5), .val (.int (v0_sz x0)), .val (.int (v0_from x0 x1)), .val (.int (v0_p x0 x2)), .val (.int (v0_q x0 x3)), .val (.int (v0_r x0 x4)), .val (.int (v0_t x0 x5)), .val (.ref b1), .val (.ref b3), .unset, .unset, .unset] [(.int (v0_p x0 x2)), (.ref b3)]))
  refine g_callV X5 hx hZ hown (hw _ (List.mem_of_getElem? (i := 15) rfl)) (hw _ (List.mem_of_getElem? (i := 16) rfl)) (hw _ (List.mem_of_getElem? (i := 18) rfl)) (hw _ (List.mem_of_getElem? (i := 17) rfl)) (hw _ (List.mem_of_getElem? (i := 3) rfl)) (hw _ (List.mem_of_getElem? (i := 19) rfl)) (by decide) rfl b3 k5_9 (rm3 l Z a0 hw [] b3 (v0_p x0 x2) b4_0 (own_wn x0) (fun _ => (0 : Int64)) (own_pos x2 x0 / 64) T5.heap n0 Z5 k5_14 k5_15 N_b4_0 ne_b3_b4_0 (own_six _ _ (own_pos_lt x2 x0).1 : (ushrI (v0_p x0 x2) (6 : Int32)).toInt = (own_pos x2 x0 / 64)) (own_in_w x2 x0 : (own_pos x2 x0 / 64) < (own_wn x0))) [(.int (v0_p x0 x2))] [] 0 rfl (lenOf pd__28I_29V rfl) rfl (Nat.le_of_eq rfl) (by decide) (by decide) (by decide) (by decide) (by rw [hml]; rfl) (hb hby at_89) ?_
  intro T6 L6 v6 X6 q6
  obtain ⟨rfl, N6, K6, p6_0⟩ := q6
  have NN6 := Fr.app NN5 N6
  have k6_1 := k5_1.keep K6
  have k6_4 := k5_4.keep K6 (nm1 ne_b1_b4_0 nm0)
  have k6_8 := k5_9.keep K6
  have k6_13 := k5_14.keep K6 (nm1 ne_b3_b4_0 nm0)
  have k6_15 := p5_0.keep K6 (nm1 ne_b2_0_b4_0 nm0)
  have Z6 : n0 ≤ T6.heap.size := Nat.le_trans Z5 K6.1
  show Go p e below s _ _ _ (T6.setTop (mkF m 92 #[.val (.int x0), .val (.int x1), .val (.int x2), .val (.int x3), .val (.int x4), .val (.int x5), .val (.int (v0_sz x0)), .val (.int (v0_from x0 x1)), .val (.int (v0_p x0 x2)), .val (.int (v0_q x0 x3)), .val (.int (v0_r x0 x4)), .val (.int (v0_t x0 x5)), .val (.ref b1), .val (.ref b3), .unset, .unset, .unset] []))
  refine g_aload X6 hx 94 (hb hby at_92) rfl rfl rfl ?_
  show Go p e below s _ _ _ (T6.setTop (mkF m 94 #[.val (.int x0), .val (.int x1), .val (.int x2), .val (.int x3), .val (.int x4), .val (.int x5), .val (.int (v0_sz x0)), .val (.int (v0_from x0 x1)), .val (.int (v0_p x0 x2)), .val (.int (v0_q x0 x3)), .val (.int (v0_r x0 x4)), .val (.int (v0_t x0 x5)), .val (.ref b1), .val (.ref b3), .unset, .unset, .unset] [(.ref b3)]))
  refine g_iload X6 hx 96 (hb hby at_94) rfl rfl ?_
  show Go p e below s _ _ _ (T6.setTop (mkF m 96 #[.val (.int x0), .val (.int x1), .val (.int x2), .val (.int x3), .val (.int x4), .val (.int x5), .val (.int (v0_sz x0)), .val (.int (v0_from x0 x1)), .val (.int (v0_p x0 x2)), .val (.int (v0_q x0 x3)), .val (.int (v0_r x0 x4)), .val (.int (v0_t x0 x5)), .val (.ref b1), .val (.ref b3), .unset, .unset, .unset] [(.int (v0_q x0 x3)), (.ref b3)]))
  refine g_callV X6 hx hZ hown (hw _ (List.mem_of_getElem? (i := 15) rfl)) (hw _ (List.mem_of_getElem? (i := 16) rfl)) (hw _ (List.mem_of_getElem? (i := 18) rfl)) (hw _ (List.mem_of_getElem? (i := 17) rfl)) (hw _ (List.mem_of_getElem? (i := 3) rfl)) (hw _ (List.mem_of_getElem? (i := 19) rfl)) (by decide) rfl b3 k6_8 (rm3 l Z a0 hw [] b3 (v0_q x0 x3) b4_0 (own_wn x0) (upd (fun _ => (0 : Int64)) (own_pos x2 x0 / 64) (((fun _ => (0 : Int64)) (own_pos x2 x0 / 64)) ||| (shlJ (1 : Int64) (v0_p x0 x2)))) (own_pos x3 x0 / 64) T6.heap n0 Z6 k6_13 p6_0 N_b4_0 ne_b3_b4_0 (own_six _ _ (own_pos_lt x3 x0).1 : (ushrI (v0_q x0 x3) (6 : Int32)).toInt = (own_pos x3 x0 / 64)) (own_in_w x3 x0 : (own_pos x3 x0 / 64) < (own_wn x0))) [(.int (v0_q x0 x3))] [] 0 rfl (lenOf pd__28I_29V rfl) rfl (Nat.le_of_eq rfl) (by decide) (by decide) (by decide) (by decide) (by rw [hml]; rfl) (hb hby at_96) ?_
  intro T7 L7 v7 X7 q7
  obtain ⟨rfl, N7, K7, p7_0⟩ := q7
  have NN7 := Fr.app NN6 N7
  have k7_1 := k6_1.keep K7
  have k7_4 := k6_4.keep K7 (nm1 ne_b1_b4_0 nm0)
  have k7_8 := k6_8.keep K7
  have k7_13 := k6_13.keep K7 (nm1 ne_b3_b4_0 nm0)
  have k7_14 := k6_15.keep K7 (nm1 ne_b2_0_b4_0 nm0)
  have Z7 : n0 ≤ T7.heap.size := Nat.le_trans Z6 K7.1
  show Go p e below s _ _ _ (T7.setTop (mkF m 99 #[.val (.int x0), .val (.int x1), .val (.int x2), .val (.int x3), .val (.int x4), .val (.int x5), .val (.int (v0_sz x0)), .val (.int (v0_from x0 x1)), .val (.int (v0_p x0 x2)), .val (.int (v0_q x0 x3)), .val (.int (v0_r x0 x4)), .val (.int (v0_t x0 x5)), .val (.ref b1), .val (.ref b3), .unset, .unset, .unset] []))
  refine g_aload X7 hx 101 (hb hby at_99) rfl rfl rfl ?_
  show Go p e below s _ _ _ (T7.setTop (mkF m 101 #[.val (.int x0), .val (.int x1), .val (.int x2), .val (.int x3), .val (.int x4), .val (.int x5), .val (.int (v0_sz x0)), .val (.int (v0_from x0 x1)), .val (.int (v0_p x0 x2)), .val (.int (v0_q x0 x3)), .val (.int (v0_r x0 x4)), .val (.int (v0_t x0 x5)), .val (.ref b1), .val (.ref b3), .unset, .unset, .unset] [(.ref b1)]))
  refine g_aload X7 hx 103 (hb hby at_101) rfl rfl rfl ?_
  show Go p e below s _ _ _ (T7.setTop (mkF m 103 #[.val (.int x0), .val (.int x1), .val (.int x2), .val (.int x3), .val (.int x4), .val (.int x5), .val (.int (v0_sz x0)), .val (.int (v0_from x0 x1)), .val (.int (v0_p x0 x2)), .val (.int (v0_q x0 x3)), .val (.int (v0_r x0 x4)), .val (.int (v0_t x0 x5)), .val (.ref b1), .val (.ref b3), .unset, .unset, .unset] [(.ref b3), (.ref b1)]))
  refine g_iload X7 hx 105 (hb hby at_103) rfl rfl ?_
  show Go p e below s _ _ _ (T7.setTop (mkF m 105 #[.val (.int x0), .val (.int x1), .val (.int x2), .val (.int x3), .val (.int x4), .val (.int x5), .val (.int (v0_sz x0)), .val (.int (v0_from x0 x1)), .val (.int (v0_p x0 x2)), .val (.int (v0_q x0 x3)), .val (.int (v0_r x0 x4)), .val (.int (v0_t x0 x5)), .val (.ref b1), .val (.ref b3), .unset, .unset, .unset] [(.int (v0_from x0 x1)), (.ref b3), (.ref b1)]))
  refine g_callV X7 hx hZ hown (hw _ (List.mem_of_getElem? (i := 20) rfl)) (hw _ (List.mem_of_getElem? (i := 21) rfl)) (hw _ (List.mem_of_getElem? (i := 23) rfl)) (hw _ (List.mem_of_getElem? (i := 22) rfl)) (hw _ (List.mem_of_getElem? (i := 3) rfl)) (hw _ (List.mem_of_getElem? (i := 24) rfl)) (by decide) rfl b1 k7_1 (rm4 l Z a0 hw [] b1 b3 (v0_from x0 x1) b2_0 b4_0 (own_wn x0) (upd (fun _ => (0 : Int64)) (own_pos x4 x0 / 64) (((fun _ => (0 : Int64)) (own_pos x4 x0 / 64)) ||| (shlJ (1 : Int64) (v0_r x0 x4)))) (upd (upd (fun _ => (0 : Int64)) (own_pos x2 x0 / 64) (((fun _ => (0 : Int64)) (own_pos x2 x0 / 64)) ||| (shlJ (1 : Int64) (v0_p x0 x2)))) (own_pos x3 x0 / 64) (((upd (fun _ => (0 : Int64)) (own_pos x2 x0 / 64) (((fun _ => (0 : Int64)) (own_pos x2 x0 / 64)) ||| (shlJ (1 : Int64) (v0_p x0 x2)))) (own_pos x3 x0 / 64)) ||| (shlJ (1 : Int64) (v0_q x0 x3)))) (own_pos x1 x0 / 64) T7.heap n0 Z7 k7_4 k7_13 k7_14 p7_0 N_b2_0 ne_b1_b2_0 (Ne.symm ne_b2_0_b3) (Ne.symm ne_b2_0_b4_0) (own_six _ _ (own_pos_lt x1 x0).1 : (ushrI (v0_from x0 x1) (6 : Int32)).toInt = (own_pos x1 x0 / 64)) (own_in_w x1 x0 : (own_pos x1 x0 / 64) < (own_wn x0))) [(.ref b3), (.int (v0_from x0 x1))] [] 0 rfl (lenOf pd__28Lcom_2fexample_2fbrisk_herald_2fbriskherald_2fPositionSet_3bI_29V rfl) rfl (Nat.le_of_eq rfl) (by decide) (by decide) (by decide) (by decide) (by rw [hml]; rfl) (hb hby at_105) ?_
  intro T8 L8 v8 X8 q8
  obtain ⟨rfl, N8, K8, p8_0⟩ := q8
  have NN8 := Fr.app NN7 N8
  have k8_1 := k7_1.keep K8
  have k8_4 := k7_4.keep K8 (nm1 ne_b1_b2_0 nm0)
  have k8_8 := k7_8.keep K8
  have k8_13 := k7_13.keep K8 (nm1 (Ne.symm ne_b2_0_b3) nm0)
  have k8_15 := p7_0.keep K8 (nm1 (Ne.symm ne_b2_0_b4_0) nm0)
  have Z8 : n0 ≤ T8.heap.size := Nat.le_trans Z7 K8.1
  show Go p e below s _ _ _ (T8.setTop (mkF m 108 #[.val (.int x0), .val (.int x1), .val (.int x2), .val (.int x3), .val (.int x4), .val (.int x5), .val (.int (v0_sz x0)), .val (.int (v0_from x0 x1)), .val (.int (v0_p x0 x2)), .val (.int (v0_q x0 x3)), .val (.int (v0_r x0 x4)), .val (.int (v0_t x0 x5)), .val (.ref b1), .val (.ref b3), .unset, .unset, .unset] []))
  refine g_aload X8 hx 110 (hb hby at_108) rfl rfl rfl ?_
  show Go p e below s _ _ _ (T8.setTop (mkF m 110 #[.val (.int x0), .val (.int x1), .val (.int x2), .val (.int x3), .val (.int x4), .val (.int x5), .val (.int (v0_sz x0)), .val (.int (v0_from x0 x1)), .val (.int (v0_p x0 x2)), .val (.int (v0_q x0 x3)), .val (.int (v0_r x0 x4)), .val (.int (v0_t x0 x5)), .val (.ref b1), .val (.ref b3), .unset, .unset, .unset] [(.ref b1)]))
  refine g_iload X8 hx 112 (hb hby at_110) rfl rfl ?_
  show Go p e below s _ _ _ (T8.setTop (mkF m 112 #[.val (.int x0), .val (.int x1), .val (.int x2), .val (.int x3), .val (.int x4), .val (.int x5), .val (.int (v0_sz x0)), .val (.int (v0_from x0 x1)), .val (.int (v0_p x0 x2)), .val (.int (v0_q x0 x3)), .val (.int (v0_r x0 x4)), .val (.int (v0_t x0 x5)), .val (.ref b1), .val (.ref b3), .unset, .unset, .unset] [(.int (v0_p x0 x2)), (.ref b1)]))
  refine g_callV X8 hx hZ hown (hw _ (List.mem_of_getElem? (i := 26) rfl)) (hw _ (List.mem_of_getElem? (i := 27) rfl)) (hw _ (List.mem_of_getElem? (i := 29) rfl)) (hw _ (List.mem_of_getElem? (i := 28) rfl)) (hw _ (List.mem_of_getElem? (i := 3) rfl)) (hw _ (List.mem_of_getElem? (i := 30) rfl)) (by decide) rfl b1 k8_1 (rm5 l Z a0 hw [] b1 (v0_p x0 x2) b2_0 (own_wn x0) (own_or (upd (upd (fun _ => (0 : Int64)) (own_pos x2 x0 / 64) (((fun _ => (0 : Int64)) (own_pos x2 x0 / 64)) ||| (shlJ (1 : Int64) (v0_p x0 x2)))) (own_pos x3 x0 / 64) (((upd (fun _ => (0 : Int64)) (own_pos x2 x0 / 64) (((fun _ => (0 : Int64)) (own_pos x2 x0 / 64)) ||| (shlJ (1 : Int64) (v0_p x0 x2)))) (own_pos x3 x0 / 64)) ||| (shlJ (1 : Int64) (v0_q x0 x3)))) ((own_wn x0) - ((own_pos x1 x0 / 64) + 1)) ((own_pos x1 x0 / 64) + 1) (upd (upd (fun _ => (0 : Int64)) (own_pos x4 x0 / 64) (((fun _ => (0 : Int64)) (own_pos x4 x0 / 64)) ||| (shlJ (1 : Int64) (v0_r x0 x4)))) (own_pos x1 x0 / 64) (((upd (fun _ => (0 : Int64)) (own_pos x4 x0 / 64) (((fun _ => (0 : Int64)) (own_pos x4 x0 / 64)) ||| (shlJ (1 : Int64) (v0_r x0 x4)))) (own_pos x1 x0 / 64)) ||| (((upd (upd (fun _ => (0 : Int64)) (own_pos x2 x0 / 64) (((fun _ => (0 : Int64)) (own_pos x2 x0 / 64)) ||| (shlJ (1 : Int64) (v0_p x0 x2)))) (own_pos x3 x0 / 64) (((upd (fun _ => (0 : Int64)) (own_pos x2 x0 / 64) (((fun _ => (0 : Int64)) (own_pos x2 x0 / 64)) ||| (shlJ (1 : Int64) (v0_p x0 x2)))) (own_pos x3 x0 / 64)) ||| (shlJ (1 : Int64) (v0_q x0 x3)))) (own_pos x1 x0 / 64)) &&& (shlJ (-1 : Int64) (v0_from x0 x1)))))) (own_pos x2 x0 / 64) T8.heap k8_4 p8_0 (own_six _ _ (own_pos_lt x2 x0).1 : (ushrI (v0_p x0 x2) (6 : Int32)).toInt = (own_pos x2 x0 / 64)) (own_in_w x2 x0 : (own_pos x2 x0 / 64) < (own_wn x0))) [(.int (v0_p x0 x2))] [] 0 rfl (lenOf pd__28I_29Z rfl) rfl (Nat.le_of_eq rfl) (by decide) (by decide) (by decide) (by decide) (by rw [hml]; rfl) (hb hby at_112) ?_
  intro T9 L9 v9 X9 q9
  obtain ⟨rfl, rfl, e9⟩ := q9
  have NS9 := Fr.app NN8 (Fr.nil n0)
  show Go p e below s _ _ _ (T9.setTop (mkF m 115 #[.val (.int x0), .val (.int x1), .val (.int x2), .val (.int x3), .val (.int x4), .val (.int x5), .val (.int (v0_sz x0)), .val (.int (v0_from x0 x1)), .val (.int (v0_p x0 x2)), .val (.int (v0_q x0 x3)), .val (.int (v0_r x0 x4)), .val (.int (v0_t x0 x5)), .val (.ref b1), .val (.ref b3), .unset, .unset, .unset] [(.int (f5 (v0_p x0 x2) (own_or (upd (upd (fun _ => (0 : Int64)) (own_pos x2 x0 / 64) (((fun _ => (0 : Int64)) (own_pos x2 x0 / 64)) ||| (shlJ (1 : Int64) (v0_p x0 x2)))) (own_pos x3 x0 / 64) (((upd (fun _ => (0 : Int64)) (own_pos x2 x0 / 64) (((fun _ => (0 : Int64)) (own_pos x2 x0 / 64)) ||| (shlJ (1 : Int64) (v0_p x0 x2)))) (own_pos x3 x0 / 64)) ||| (shlJ (1 : Int64) (v0_q x0 x3)))) ((own_wn x0) - ((own_pos x1 x0 / 64) + 1)) ((own_pos x1 x0 / 64) + 1) (upd (upd (fun _ => (0 : Int64)) (own_pos x4 x0 / 64) (((fun _ => (0 : Int64)) (own_pos x4 x0 / 64)) ||| (shlJ (1 : Int64) (v0_r x0 x4)))) (own_pos x1 x0 / 64) (((upd (fun _ => (0 : Int64)) (own_pos x4 x0 / 64) (((fun _ => (0 : Int64)) (own_pos x4 x0 / 64)) ||| (shlJ (1 : Int64) (v0_r x0 x4)))) (own_pos x1 x0 / 64)) ||| (((upd (upd (fun _ => (0 : Int64)) (own_pos x2 x0 / 64) (((fun _ => (0 : Int64)) (own_pos x2 x0 / 64)) ||| (shlJ (1 : Int64) (v0_p x0 x2)))) (own_pos x3 x0 / 64) (((upd (fun _ => (0 : Int64)) (own_pos x2 x0 / 64) (((fun _ => (0 : Int64)) (own_pos x2 x0 / 64)) ||| (shlJ (1 : Int64) (v0_p x0 x2)))) (own_pos x3 x0 / 64)) ||| (shlJ (1 : Int64) (v0_q x0 x3)))) (own_pos x1 x0 / 64)) &&& (shlJ (-1 : Int64) (v0_from x0 x1)))))) (own_pos x2 x0 / 64)))]))
  refine g_iload X9 hx 117 (hb hby at_115) rfl rfl ?_
  show Go p e below s _ _ _ (T9.setTop (mkF m 117 #[.val (.int x0), .val (.int x1), .val (.int x2), .val (.int x3), .val (.int x4), .val (.int x5), .val (.int (v0_sz x0)), .val (.int (v0_from x0 x1)), .val (.int (v0_p x0 x2)), .val (.int (v0_q x0 x3)), .val (.int (v0_r x0 x4)), .val (.int (v0_t x0 x5)), .val (.ref b1), .val (.ref b3), .unset, .unset, .unset] [(.int (v0_p x0 x2)), (.int (f5 (v0_p x0 x2) (own_or (upd (upd (fun _ => (0 : Int64)) (own_pos x2 x0 / 64) (((fun _ => (0 : Int64)) (own_pos x2 x0 / 64)) ||| (shlJ (1 : Int64) (v0_p x0 x2)))) (own_pos x3 x0 / 64) (((upd (fun _ => (0 : Int64)) (own_pos x2 x0 / 64) (((fun _ => (0 : Int64)) (own_pos x2 x0 / 64)) ||| (shlJ (1 : Int64) (v0_p x0 x2)))) (own_pos x3 x0 / 64)) ||| (shlJ (1 : Int64) (v0_q x0 x3)))) ((own_wn x0) - ((own_pos x1 x0 / 64) + 1)) ((own_pos x1 x0 / 64) + 1) (upd (upd (fun _ => (0 : Int64)) (own_pos x4 x0 / 64) (((fun _ => (0 : Int64)) (own_pos x4 x0 / 64)) ||| (shlJ (1 : Int64) (v0_r x0 x4)))) (own_pos x1 x0 / 64) (((upd (fun _ => (0 : Int64)) (own_pos x4 x0 / 64) (((fun _ => (0 : Int64)) (own_pos x4 x0 / 64)) ||| (shlJ (1 : Int64) (v0_r x0 x4)))) (own_pos x1 x0 / 64)) ||| (((upd (upd (fun _ => (0 : Int64)) (own_pos x2 x0 / 64) (((fun _ => (0 : Int64)) (own_pos x2 x0 / 64)) ||| (shlJ (1 : Int64) (v0_p x0 x2)))) (own_pos x3 x0 / 64) (((upd (fun _ => (0 : Int64)) (own_pos x2 x0 / 64) (((fun _ => (0 : Int64)) (own_pos x2 x0 / 64)) ||| (shlJ (1 : Int64) (v0_p x0 x2)))) (own_pos x3 x0 / 64)) ||| (shlJ (1 : Int64) (v0_q x0 x3)))) (own_pos x1 x0 / 64)) &&& (shlJ (-1 : Int64) (v0_from x0 x1)))))) (own_pos x2 x0 / 64)))]))
  refine g_iload X9 hx 119 (hb hby at_117) rfl rfl ?_
  show Go p e below s _ _ _ (T9.setTop (mkF m 119 #[.val (.int x0), .val (.int x1), .val (.int x2), .val (.int x3), .val (.int x4), .val (.int x5), .val (.int (v0_sz x0)), .val (.int (v0_from x0 x1)), .val (.int (v0_p x0 x2)), .val (.int (v0_q x0 x3)), .val (.int (v0_r x0 x4)), .val (.int (v0_t x0 x5)), .val (.ref b1), .val (.ref b3), .unset, .unset, .unset] [(.int (v0_from x0 x1)), (.int (v0_p x0 x2)), (.int (f5 (v0_p x0 x2) (own_or (upd (upd (fun _ => (0 : Int64)) (own_pos x2 x0 / 64) (((fun _ => (0 : Int64)) (own_pos x2 x0 / 64)) ||| (shlJ (1 : Int64) (v0_p x0 x2)))) (own_pos x3 x0 / 64) (((upd (fun _ => (0 : Int64)) (own_pos x2 x0 / 64) (((fun _ => (0 : Int64)) (own_pos x2 x0 / 64)) ||| (shlJ (1 : Int64) (v0_p x0 x2)))) (own_pos x3 x0 / 64)) ||| (shlJ (1 : Int64) (v0_q x0 x3)))) ((own_wn x0) - ((own_pos x1 x0 / 64) + 1)) ((own_pos x1 x0 / 64) + 1) (upd (upd (fun _ => (0 : Int64)) (own_pos x4 x0 / 64) (((fun _ => (0 : Int64)) (own_pos x4 x0 / 64)) ||| (shlJ (1 : Int64) (v0_r x0 x4)))) (own_pos x1 x0 / 64) (((upd (fun _ => (0 : Int64)) (own_pos x4 x0 / 64) (((fun _ => (0 : Int64)) (own_pos x4 x0 / 64)) ||| (shlJ (1 : Int64) (v0_r x0 x4)))) (own_pos x1 x0 / 64)) ||| (((upd (upd (fun _ => (0 : Int64)) (own_pos x2 x0 / 64) (((fun _ => (0 : Int64)) (own_pos x2 x0 / 64)) ||| (shlJ (1 : Int64) (v0_p x0 x2)))) (own_pos x3 x0 / 64) (((upd (fun _ => (0 : Int64)) (own_pos x2 x0 / 64) (((fun _ => (0 : Int64)) (own_pos x2 x0 / 64)) ||| (shlJ (1 : Int64) (v0_p x0 x2)))) (own_pos x3 x0 / 64)) ||| (shlJ (1 : Int64) (v0_q x0 x3)))) (own_pos x1 x0 / 64)) &&& (shlJ (-1 : Int64) (v0_from x0 x1)))))) (own_pos x2 x0 / 64)))]))
  refine g_iload X9 hx 121 (hb hby at_119) rfl rfl ?_
  show Go p e below s _ _ _ (T9.setTop (mkF m 121 #[.val (.int x0), .val (.int x1), .val (.int x2), .val (.int x3), .val (.int x4), .val (.int x5), .val (.int (v0_sz x0)), .val (.int (v0_from x0 x1)), .val (.int (v0_p x0 x2)), .val (.int (v0_q x0 x3)), .val (.int (v0_r x0 x4)), .val (.int (v0_t x0 x5)), .val (.ref b1), .val (.ref b3), .unset, .unset, .unset] [(.int (v0_p x0 x2)), (.int (v0_from x0 x1)), (.int (v0_p x0 x2)), (.int (f5 (v0_p x0 x2) (own_or (upd (upd (fun _ => (0 : Int64)) (own_pos x2 x0 / 64) (((fun _ => (0 : Int64)) (own_pos x2 x0 / 64)) ||| (shlJ (1 : Int64) (v0_p x0 x2)))) (own_pos x3 x0 / 64) (((upd (fun _ => (0 : Int64)) (own_pos x2 x0 / 64) (((fun _ => (0 : Int64)) (own_pos x2 x0 / 64)) ||| (shlJ (1 : Int64) (v0_p x0 x2)))) (own_pos x3 x0 / 64)) ||| (shlJ (1 : Int64) (v0_q x0 x3)))) ((own_wn x0) - ((own_pos x1 x0 / 64) + 1)) ((own_pos x1 x0 / 64) + 1) (upd (upd (fun _ => (0 : Int64)) (own_pos x4 x0 / 64) (((fun _ => (0 : Int64)) (own_pos x4 x0 / 64)) ||| (shlJ (1 : Int64) (v0_r x0 x4)))) (own_pos x1 x0 / 64) (((upd (fun _ => (0 : Int64)) (own_pos x4 x0 / 64) (((fun _ => (0 : Int64)) (own_pos x4 x0 / 64)) ||| (shlJ (1 : Int64) (v0_r x0 x4)))) (own_pos x1 x0 / 64)) ||| (((upd (upd (fun _ => (0 : Int64)) (own_pos x2 x0 / 64) (((fun _ => (0 : Int64)) (own_pos x2 x0 / 64)) ||| (shlJ (1 : Int64) (v0_p x0 x2)))) (own_pos x3 x0 / 64) (((upd (fun _ => (0 : Int64)) (own_pos x2 x0 / 64) (((fun _ => (0 : Int64)) (own_pos x2 x0 / 64)) ||| (shlJ (1 : Int64) (v0_p x0 x2)))) (own_pos x3 x0 / 64)) ||| (shlJ (1 : Int64) (v0_q x0 x3)))) (own_pos x1 x0 / 64)) &&& (shlJ (-1 : Int64) (v0_from x0 x1)))))) (own_pos x2 x0 / 64)))]))
  refine g_iload X9 hx 123 (hb hby at_121) rfl rfl ?_
  show Go p e below s _ _ _ (T9.setTop (mkF m 123 #[.val (.int x0), .val (.int x1), .val (.int x2), .val (.int x3), .val (.int x4), .val (.int x5), .val (.int (v0_sz x0)), .val (.int (v0_from x0 x1)), .val (.int (v0_p x0 x2)), .val (.int (v0_q x0 x3)), .val (.int (v0_r x0 x4)), .val (.int (v0_t x0 x5)), .val (.ref b1), .val (.ref b3), .unset, .unset, .unset] [(.int (v0_q x0 x3)), (.int (v0_p x0 x2)), (.int (v0_from x0 x1)), (.int (v0_p x0 x2)), (.int (f5 (v0_p x0 x2) (own_or (upd (upd (fun _ => (0 : Int64)) (own_pos x2 x0 / 64) (((fun _ => (0 : Int64)) (own_pos x2 x0 / 64)) ||| (shlJ (1 : Int64) (v0_p x0 x2)))) (own_pos x3 x0 / 64) (((upd (fun _ => (0 : Int64)) (own_pos x2 x0 / 64) (((fun _ => (0 : Int64)) (own_pos x2 x0 / 64)) ||| (shlJ (1 : Int64) (v0_p x0 x2)))) (own_pos x3 x0 / 64)) ||| (shlJ (1 : Int64) (v0_q x0 x3)))) ((own_wn x0) - ((own_pos x1 x0 / 64) + 1)) ((own_pos x1 x0 / 64) + 1) (upd (upd (fun _ => (0 : Int64)) (own_pos x4 x0 / 64) (((fun _ => (0 : Int64)) (own_pos x4 x0 / 64)) ||| (shlJ (1 : Int64) (v0_r x0 x4)))) (own_pos x1 x0 / 64) (((upd (fun _ => (0 : Int64)) (own_pos x4 x0 / 64) (((fun _ => (0 : Int64)) (own_pos x4 x0 / 64)) ||| (shlJ (1 : Int64) (v0_r x0 x4)))) (own_pos x1 x0 / 64)) ||| (((upd (upd (fun _ => (0 : Int64)) (own_pos x2 x0 / 64) (((fun _ => (0 : Int64)) (own_pos x2 x0 / 64)) ||| (shlJ (1 : Int64) (v0_p x0 x2)))) (own_pos x3 x0 / 64) (((upd (fun _ => (0 : Int64)) (own_pos x2 x0 / 64) (((fun _ => (0 : Int64)) (own_pos x2 x0 / 64)) ||| (shlJ (1 : Int64) (v0_p x0 x2)))) (own_pos x3 x0 / 64)) ||| (shlJ (1 : Int64) (v0_q x0 x3)))) (own_pos x1 x0 / 64)) &&& (shlJ (-1 : Int64) (v0_from x0 x1)))))) (own_pos x2 x0 / 64)))]))
  refine g_iload X9 hx 125 (hb hby at_123) rfl rfl ?_
  show Go p e below s _ _ _ (T9.setTop (mkF m 125 #[.val (.int x0), .val (.int x1), .val (.int x2), .val (.int x3), .val (.int x4), .val (.int x5), .val (.int (v0_sz x0)), .val (.int (v0_from x0 x1)), .val (.int (v0_p x0 x2)), .val (.int (v0_q x0 x3)), .val (.int (v0_r x0 x4)), .val (.int (v0_t x0 x5)), .val (.ref b1), .val (.ref b3), .unset, .unset, .unset] [(.int (v0_r x0 x4)), (.int (v0_q x0 x3)), (.int (v0_p x0 x2)), (.int (v0_from x0 x1)), (.int (v0_p x0 x2)), (.int (f5 (v0_p x0 x2) (own_or (upd (upd (fun _ => (0 : Int64)) (own_pos x2 x0 / 64) (((fun _ => (0 : Int64)) (own_pos x2 x0 / 64)) ||| (shlJ (1 : Int64) (v0_p x0 x2)))) (own_pos x3 x0 / 64) (((upd (fun _ => (0 : Int64)) (own_pos x2 x0 / 64) (((fun _ => (0 : Int64)) (own_pos x2 x0 / 64)) ||| (shlJ (1 : Int64) (v0_p x0 x2)))) (own_pos x3 x0 / 64)) ||| (shlJ (1 : Int64) (v0_q x0 x3)))) ((own_wn x0) - ((own_pos x1 x0 / 64) + 1)) ((own_pos x1 x0 / 64) + 1) (upd (upd (fun _ => (0 : Int64)) (own_pos x4 x0 / 64) (((fun _ => (0 : Int64)) (own_pos x4 x0 / 64)) ||| (shlJ (1 : Int64) (v0_r x0 x4)))) (own_pos x1 x0 / 64) (((upd (fun _ => (0 : Int64)) (own_pos x4 x0 / 64) (((fun _ => (0 : Int64)) (own_pos x4 x0 / 64)) ||| (shlJ (1 : Int64) (v0_r x0 x4)))) (own_pos x1 x0 / 64)) ||| (((upd (upd (fun _ => (0 : Int64)) (own_pos x2 x0 / 64) (((fun _ => (0 : Int64)) (own_pos x2 x0 / 64)) ||| (shlJ (1 : Int64) (v0_p x0 x2)))) (own_pos x3 x0 / 64) (((upd (fun _ => (0 : Int64)) (own_pos x2 x0 / 64) (((fun _ => (0 : Int64)) (own_pos x2 x0 / 64)) ||| (shlJ (1 : Int64) (v0_p x0 x2)))) (own_pos x3 x0 / 64)) ||| (shlJ (1 : Int64) (v0_q x0 x3)))) (own_pos x1 x0 / 64)) &&& (shlJ (-1 : Int64) (v0_from x0 x1)))))) (own_pos x2 x0 / 64)))]))
  refine g_callS X9 hx hZ hown (hw _ (List.mem_of_getElem? (i := 31) rfl)) (hw _ (List.mem_of_getElem? (i := 32) rfl)) (hw _ (List.mem_of_getElem? (i := 33) rfl)) (hw _ (List.mem_of_getElem? (i := 34) rfl)) (by decide) e9 (rm6 l Z a0 hw [] (v0_p x0 x2) (v0_from x0 x1) (v0_p x0 x2) (v0_q x0 x3) (v0_r x0 x4) T8.heap) [(.int (v0_p x0 x2)), (.int (v0_from x0 x1)), (.int (v0_p x0 x2)), (.int (v0_q x0 x3)), (.int (v0_r x0 x4))] [(.int (f5 (v0_p x0 x2) (own_or (upd (upd (fun _ => (0 : Int64)) (own_pos x2 x0 / 64) (((fun _ => (0 : Int64)) (own_pos x2 x0 / 64)) ||| (shlJ (1 : Int64) (v0_p x0 x2)))) (own_pos x3 x0 / 64) (((upd (fun _ => (0 : Int64)) (own_pos x2 x0 / 64) (((fun _ => (0 : Int64)) (own_pos x2 x0 / 64)) ||| (shlJ (1 : Int64) (v0_p x0 x2)))) (own_pos x3 x0 / 64)) ||| (shlJ (1 : Int64) (v0_q x0 x3)))) ((own_wn x0) - ((own_pos x1 x0 / 64) + 1)) ((own_pos x1 x0 / 64) + 1) (upd (upd (fun _ => (0 : Int64)) (own_pos x4 x0 / 64) (((fun _ => (0 : Int64)) (own_pos x4 x0 / 64)) ||| (shlJ (1 : Int64) (v0_r x0 x4)))) (own_pos x1 x0 / 64) (((upd (fun _ => (0 : Int64)) (own_pos x4 x0 / 64) (((fun _ => (0 : Int64)) (own_pos x4 x0 / 64)) ||| (shlJ (1 : Int64) (v0_r x0 x4)))) (own_pos x1 x0 / 64)) ||| (((upd (upd (fun _ => (0 : Int64)) (own_pos x2 x0 / 64) (((fun _ => (0 : Int64)) (own_pos x2 x0 / 64)) ||| (shlJ (1 : Int64) (v0_p x0 x2)))) (own_pos x3 x0 / 64) (((upd (fun _ => (0 : Int64)) (own_pos x2 x0 / 64) (((fun _ => (0 : Int64)) (own_pos x2 x0 / 64)) ||| (shlJ (1 : Int64) (v0_p x0 x2)))) (own_pos x3 x0 / 64)) ||| (shlJ (1 : Int64) (v0_q x0 x3)))) (own_pos x1 x0 / 64)) &&& (shlJ (-1 : Int64) (v0_from x0 x1)))))) (own_pos x2 x0 / 64)))] 1 rfl (lenOf pd__28IIIII_29Z rfl) rfl (Nat.le_of_eq rfl) (by decide) (by decide) (by decide) (by decide) (by rw [hml]; rfl) (hb hby at_125) ?_
  intro T10 L10 v10 X10 q10
  obtain ⟨rfl, rfl, e10⟩ := q10
  have NS10 := Fr.app NS9 (Fr.nil n0)
  show Go p e below s _ _ _ (T10.setTop (mkF m 128 #[.val (.int x0), .val (.int x1), .val (.int x2), .val (.int x3), .val (.int x4), .val (.int x5), .val (.int (v0_sz x0)), .val (.int (v0_from x0 x1)), .val (.int (v0_p x0 x2)), .val (.int (v0_q x0 x3)), .val (.int (v0_r x0 x4)), .val (.int (v0_t x0 x5)), .val (.ref b1), .val (.ref b3), .unset, .unset, .unset] [(.int (f6 (v0_p x0 x2) (v0_from x0 x1) (v0_p x0 x2) (v0_q x0 x3) (v0_r x0 x4))), (.int (f5 (v0_p x0 x2) (own_or (upd (upd (fun _ => (0 : Int64)) (own_pos x2 x0 / 64) (((fun _ => (0 : Int64)) (own_pos x2 x0 / 64)) ||| (shlJ (1 : Int64) (v0_p x0 x2)))) (own_pos x3 x0 / 64) (((upd (fun _ => (0 : Int64)) (own_pos x2 x0 / 64) (((fun _ => (0 : Int64)) (own_pos x2 x0 / 64)) ||| (shlJ (1 : Int64) (v0_p x0 x2)))) (own_pos x3 x0 / 64)) ||| (shlJ (1 : Int64) (v0_q x0 x3)))) ((own_wn x0) - ((own_pos x1 x0 / 64) + 1)) ((own_pos x1 x0 / 64) + 1) (upd (upd (fun _ => (0 : Int64)) (own_pos x4 x0 / 64) (((fun _ => (0 : Int64)) (own_pos x4 x0 / 64)) ||| (shlJ (1 : Int64) (v0_r x0 x4)))) (own_pos x1 x0 / 64) (((upd (fun _ => (0 : Int64)) (own_pos x4 x0 / 64) (((fun _ => (0 : Int64)) (own_pos x4 x0 / 64)) ||| (shlJ (1 : Int64) (v0_r x0 x4)))) (own_pos x1 x0 / 64)) ||| (((upd (upd (fun _ => (0 : Int64)) (own_pos x2 x0 / 64) (((fun _ => (0 : Int64)) (own_pos x2 x0 / 64)) ||| (shlJ (1 : Int64) (v0_p x0 x2)))) (own_pos x3 x0 / 64) (((upd (fun _ => (0 : Int64)) (own_pos x2 x0 / 64) (((fun _ => (0 : Int64)) (own_pos x2 x0 / 64)) ||| (shlJ (1 : Int64) (v0_p x0 x2)))) (own_pos x3 x0 / 64)) ||| (shlJ (1 : Int64) (v0_q x0 x3)))) (own_pos x1 x0 / 64)) &&& (shlJ (-1 : Int64) (v0_from x0 x1)))))) (own_pos x2 x0 / 64)))]))
  have h11 : (f5 (v0_p x0 x2) (own_or (upd (upd (fun _ => (0 : Int64)) (own_pos x2 x0 / 64) (((fun _ => (0 : Int64)) (own_pos x2 x0 / 64)) ||| (shlJ (1 : Int64) (v0_p x0 x2)))) (own_pos x3 x0 / 64) (((upd (fun _ => (0 : Int64)) (own_pos x2 x0 / 64) (((fun _ => (0 : Int64)) (own_pos x2 x0 / 64)) ||| (shlJ (1 : Int64) (v0_p x0 x2)))) (own_pos x3 x0 / 64)) ||| (shlJ (1 : Int64) (v0_q x0 x3)))) ((own_wn x0) - ((own_pos x1 x0 / 64) + 1)) ((own_pos x1 x0 / 64) + 1) (upd (upd (fun _ => (0 : Int64)) (own_pos x4 x0 / 64) (((fun _ => (0 : Int64)) (own_pos x4 x0 / 64)) ||| (shlJ (1 : Int64) (v0_r x0 x4)))) (own_pos x1 x0 / 64) (((upd (fun _ => (0 : Int64)) (own_pos x4 x0 / 64) (((fun _ => (0 : Int64)) (own_pos x4 x0 / 64)) ||| (shlJ (1 : Int64) (v0_r x0 x4)))) (own_pos x1 x0 / 64)) ||| (((upd (upd (fun _ => (0 : Int64)) (own_pos x2 x0 / 64) (((fun _ => (0 : Int64)) (own_pos x2 x0 / 64)) ||| (shlJ (1 : Int64) (v0_p x0 x2)))) (own_pos x3 x0 / 64) (((upd (fun _ => (0 : Int64)) (own_pos x2 x0 / 64) (((fun _ => (0 : Int64)) (own_pos x2 x0 / 64)) ||| (shlJ (1 : Int64) (v0_p x0 x2)))) (own_pos x3 x0 / 64)) ||| (shlJ (1 : Int64) (v0_q x0 x3)))) (own_pos x1 x0 / 64)) &&& (shlJ (-1 : Int64) (v0_from x0 x1)))))) (own_pos x2 x0 / 64)) = (f6 (v0_p x0 x2) (v0_from x0 x1) (v0_p x0 x2) (v0_q x0 x3) (v0_r x0 x4)) := own_same _ _ _ _ _ _ _ _ _ _ _ (own_pos_lt x2 x0).1 (own_pos_lt x1 x0).1 (own_pos_lt x2 x0).1 (own_pos_lt x3 x0).1 (own_pos_lt x4 x0).1 (own_in_w x2 x0)
  refine g_icmp_ne X10 hx 135 131 (hb hby at_128) (by decide) rfl rfl (fun _ => ?_) (fun q => absurd h11 q)
  show Go p e below s _ _ _ (T10.setTop (mkF m 131 #[.val (.int x0), .val (.int x1), .val (.int x2), .val (.int x3), .val (.int x4), .val (.int x5), .val (.int (v0_sz x0)), .val (.int (v0_from x0 x1)), .val (.int (v0_p x0 x2)), .val (.int (v0_q x0 x3)), .val (.int (v0_r x0 x4)), .val (.int (v0_t x0 x5)), .val (.ref b1), .val (.ref b3), .unset, .unset, .unset] []))
  refine g_iconst X10 hx (1 : Int32) 132 (hb hby at_131) rfl rfl ?_
  show Go p e below s _ _ _ (T10.setTop (mkF m 132 #[.val (.int x0), .val (.int x1), .val (.int x2), .val (.int x3), .val (.int x4), .val (.int x5), .val (.int (v0_sz x0)), .val (.int (v0_from x0 x1)), .val (.int (v0_p x0 x2)), .val (.int (v0_q x0 x3)), .val (.int (v0_r x0 x4)), .val (.int (v0_t x0 x5)), .val (.ref b1), .val (.ref b3), .unset, .unset, .unset] [(.int (1 : Int32))]))
  refine g_goto X10 hx 136 (hb hby at_132) (by decide) rfl ?_
  show Go p e below s _ _ _ (T10.setTop (mkF m 136 #[.val (.int x0), .val (.int x1), .val (.int x2), .val (.int x3), .val (.int x4), .val (.int x5), .val (.int (v0_sz x0)), .val (.int (v0_from x0 x1)), .val (.int (v0_p x0 x2)), .val (.int (v0_q x0 x3)), .val (.int (v0_r x0 x4)), .val (.int (v0_t x0 x5)), .val (.ref b1), .val (.ref b3), .unset, .unset, .unset] [(.int (1 : Int32))]))
  refine g_istore X10 hx #[.val (.int x0), .val (.int x1), .val (.int x2), .val (.int x3), .val (.int x4), .val (.int x5), .val (.int (v0_sz x0)), .val (.int (v0_from x0 x1)), .val (.int (v0_p x0 x2)), .val (.int (v0_q x0 x3)), .val (.int (v0_r x0 x4)), .val (.int (v0_t x0 x5)), .val (.ref b1), .val (.ref b3), .val (.int (1 : Int32)), .unset, .unset] 138 (hb hby at_136) rfl rfl ?_
  show Go p e below s _ _ _ (T10.setTop (mkF m 138 #[.val (.int x0), .val (.int x1), .val (.int x2), .val (.int x3), .val (.int x4), .val (.int x5), .val (.int (v0_sz x0)), .val (.int (v0_from x0 x1)), .val (.int (v0_p x0 x2)), .val (.int (v0_q x0 x3)), .val (.int (v0_r x0 x4)), .val (.int (v0_t x0 x5)), .val (.ref b1), .val (.ref b3), .val (.int (1 : Int32)), .unset, .unset] []))
  refine g_aload X10 hx 140 (hb hby at_138) rfl rfl rfl ?_
  show Go p e below s _ _ _ (T10.setTop (mkF m 140 #[.val (.int x0), .val (.int x1), .val (.int x2), .val (.int x3), .val (.int x4), .val (.int x5), .val (.int (v0_sz x0)), .val (.int (v0_from x0 x1)), .val (.int (v0_p x0 x2)), .val (.int (v0_q x0 x3)), .val (.int (v0_r x0 x4)), .val (.int (v0_t x0 x5)), .val (.ref b1), .val (.ref b3), .val (.int (1 : Int32)), .unset, .unset] [(.ref b1)]))
  refine g_iload X10 hx 142 (hb hby at_140) rfl rfl ?_
  show Go p e below s _ _ _ (T10.setTop (mkF m 142 #[.val (.int x0), .val (.int x1), .val (.int x2), .val (.int x3), .val (.int x4), .val (.int x5), .val (.int (v0_sz x0)), .val (.int (v0_from x0 x1)), .val (.int (v0_p x0 x2)), .val (.int (v0_q x0 x3)), .val (.int (v0_r x0 x4)), .val (.int (v0_t x0 x5)), .val (.ref b1), .val (.ref b3), .val (.int (1 : Int32)), .unset, .unset] [(.int (v0_q x0 x3)), (.ref b1)]))
  refine g_callV X10 hx hZ hown (hw _ (List.mem_of_getElem? (i := 26) rfl)) (hw _ (List.mem_of_getElem? (i := 27) rfl)) (hw _ (List.mem_of_getElem? (i := 29) rfl)) (hw _ (List.mem_of_getElem? (i := 28) rfl)) (hw _ (List.mem_of_getElem? (i := 3) rfl)) (hw _ (List.mem_of_getElem? (i := 30) rfl)) (by decide) e10 b1 k8_1 (rm5 l Z a0 hw [] b1 (v0_q x0 x3) b2_0 (own_wn x0) (own_or (upd (upd (fun _ => (0 : Int64)) (own_pos x2 x0 / 64) (((fun _ => (0 : Int64)) (own_pos x2 x0 / 64)) ||| (shlJ (1 : Int64) (v0_p x0 x2)))) (own_pos x3 x0 / 64) (((upd (fun _ => (0 : Int64)) (own_pos x2 x0 / 64) (((fun _ => (0 : Int64)) (own_pos x2 x0 / 64)) ||| (shlJ (1 : Int64) (v0_p x0 x2)))) (own_pos x3 x0 / 64)) ||| (shlJ (1 : Int64) (v0_q x0 x3)))) ((own_wn x0) - ((own_pos x1 x0 / 64) + 1)) ((own_pos x1 x0 / 64) + 1) (upd (upd (fun _ => (0 : Int64)) (own_pos x4 x0 / 64) (((fun _ => (0 : Int64)) (own_pos x4 x0 / 64)) ||| (shlJ (1 : Int64) (v0_r x0 x4)))) (own_pos x1 x0 / 64) (((upd (fun _ => (0 : Int64)) (own_pos x4 x0 / 64) (((fun _ => (0 : Int64)) (own_pos x4 x0 / 64)) ||| (shlJ (1 : Int64) (v0_r x0 x4)))) (own_pos x1 x0 / 64)) ||| (((upd (upd (fun _ => (0 : Int64)) (own_pos x2 x0 / 64) (((fun _ => (0 : Int64)) (own_pos x2 x0 / 64)) ||| (shlJ (1 : Int64) (v0_p x0 x2)))) (own_pos x3 x0 / 64) (((upd (fun _ => (0 : Int64)) (own_pos x2 x0 / 64) (((fun _ => (0 : Int64)) (own_pos x2 x0 / 64)) ||| (shlJ (1 : Int64) (v0_p x0 x2)))) (own_pos x3 x0 / 64)) ||| (shlJ (1 : Int64) (v0_q x0 x3)))) (own_pos x1 x0 / 64)) &&& (shlJ (-1 : Int64) (v0_from x0 x1)))))) (own_pos x3 x0 / 64) T8.heap k8_4 p8_0 (own_six _ _ (own_pos_lt x3 x0).1 : (ushrI (v0_q x0 x3) (6 : Int32)).toInt = (own_pos x3 x0 / 64)) (own_in_w x3 x0 : (own_pos x3 x0 / 64) < (own_wn x0))) [(.int (v0_q x0 x3))] [] 0 rfl (lenOf pd__28I_29Z rfl) rfl (Nat.le_of_eq rfl) (by decide) (by decide) (by decide) (by decide) (by rw [hml]; rfl) (hb hby at_142) ?_
  intro T12 L12 v12 X12 q12
  obtain ⟨rfl, rfl, e12⟩ := q12
  have NS12 := Fr.app NS10 (Fr.nil n0)
  show Go p e below s _ _ _ (T12.setTop (mkF m 145 #[.val (.int x0), .val (.int x1), .val (.int x2), .val (.int x3), .val (.int x4), .val (.int x5), .val (.int (v0_sz x0)), .val (.int (v0_from x0 x1)), .val (.int (v0_p x0 x2)), .val (.int (v0_q x0 x3)), .val (.int (v0_r x0 x4)), .val (.int (v0_t x0 x5)), .val (.ref b1), .val (.ref b3), .val (.int (1 : Int32)), .unset, .unset] [(.int (f5 (v0_q x0 x3) (own_or (upd (upd (fun _ => (0 : Int64)) (own_pos x2 x0 / 64) (((fun _ => (0 : Int64)) (own_pos x2 x0 / 64)) ||| (shlJ (1 : Int64) (v0_p x0 x2)))) (own_pos x3 x0 / 64) (((upd (fun _ => (0 : Int64)) (own_pos x2 x0 / 64) (((fun _ => (0 : Int64)) (own_pos x2 x0 / 64)) ||| (shlJ (1 : Int64) (v0_p x0 x2)))) (own_pos x3 x0 / 64)) ||| (shlJ (1 : Int64) (v0_q x0 x3)))) ((own_wn x0) - ((own_pos x1 x0 / 64) + 1)) ((own_pos x1 x0 / 64) + 1) (upd (upd (fun _ => (0 : Int64)) (own_pos x4 x0 / 64) (((fun _ => (0 : Int64)) (own_pos x4 x0 / 64)) ||| (shlJ (1 : Int64) (v0_r x0 x4)))) (own_pos x1 x0 / 64) (((upd (fun _ => (0 : Int64)) (own_pos x4 x0 / 64) (((fun _ => (0 : Int64)) (own_pos x4 x0 / 64)) ||| (shlJ (1 : Int64) (v0_r x0 x4)))) (own_pos x1 x0 / 64)) ||| (((upd (upd (fun _ => (0 : Int64)) (own_pos x2 x0 / 64) (((fun _ => (0 : Int64)) (own_pos x2 x0 / 64)) ||| (shlJ (1 : Int64) (v0_p x0 x2)))) (own_pos x3 x0 / 64) (((upd (fun _ => (0 : Int64)) (own_pos x2 x0 / 64) (((fun _ => (0 : Int64)) (own_pos x2 x0 / 64)) ||| (shlJ (1 : Int64) (v0_p x0 x2)))) (own_pos x3 x0 / 64)) ||| (shlJ (1 : Int64) (v0_q x0 x3)))) (own_pos x1 x0 / 64)) &&& (shlJ (-1 : Int64) (v0_from x0 x1)))))) (own_pos x3 x0 / 64)))]))
  refine g_iload X12 hx 147 (hb hby at_145) rfl rfl ?_
  show Go p e below s _ _ _ (T12.setTop (mkF m 147 #[.val (.int x0), .val (.int x1), .val (.int x2), .val (.int x3), .val (.int x4), .val (.int x5), .val (.int (v0_sz x0)), .val (.int (v0_from x0 x1)), .val (.int (v0_p x0 x2)), .val (.int (v0_q x0 x3)), .val (.int (v0_r x0 x4)), .val (.int (v0_t x0 x5)), .val (.ref b1), .val (.ref b3), .val (.int (1 : Int32)), .unset, .unset] [(.int (v0_q x0 x3)), (.int (f5 (v0_q x0 x3) (own_or (upd (upd (fun _ => (0 : Int64)) (own_pos x2 x0 / 64) (((fun _ => (0 : Int64)) (own_pos x2 x0 / 64)) ||| (shlJ (1 : Int64) (v0_p x0 x2)))) (own_pos x3 x0 / 64) (((upd (fun _ => (0 : Int64)) (own_pos x2 x0 / 64) (((fun _ => (0 : Int64)) (own_pos x2 x0 / 64)) ||| (shlJ (1 : Int64) (v0_p x0 x2)))) (own_pos x3 x0 / 64)) ||| (shlJ (1 : Int64) (v0_q x0 x3)))) ((own_wn x0) - ((own_pos x1 x0 / 64) + 1)) ((own_pos x1 x0 / 64) + 1) (upd (upd (fun _ => (0 : Int64)) (own_pos x4 x0 / 64) (((fun _ => (0 : Int64)) (own_pos x4 x0 / 64)) ||| (shlJ (1 : Int64) (v0_r x0 x4)))) (own_pos x1 x0 / 64) (((upd (fun _ => (0 : Int64)) (own_pos x4 x0 / 64) (((fun _ => (0 : Int64)) (own_pos x4 x0 / 64)) ||| (shlJ (1 : Int64) (v0_r x0 x4)))) (own_pos x1 x0 / 64)) ||| (((upd (upd (fun _ => (0 : Int64)) (own_pos x2 x0 / 64) (((fun _ => (0 : Int64)) (own_pos x2 x0 / 64)) ||| (shlJ (1 : Int64) (v0_p x0 x2)))) (own_pos x3 x0 / 64) (((upd (fun _ => (0 : Int64)) (own_pos x2 x0 / 64) (((fun _ => (0 : Int64)) (own_pos x2 x0 / 64)) ||| (shlJ (1 : Int64) (v0_p x0 x2)))) (own_pos x3 x0 / 64)) ||| (shlJ (1 : Int64) (v0_q x0 x3)))) (own_pos x1 x0 / 64)) &&& (shlJ (-1 : Int64) (v0_from x0 x1)))))) (own_pos x3 x0 / 64)))]))
  refine g_iload X12 hx 149 (hb hby at_147) rfl rfl ?_
  show Go p e below s _ _ _ (T12.setTop (mkF m 149 #[.val (.int x0), .val (.int x1), .val (.int x2), .val (.int x3), .val (.int x4), .val (.int x5), .val (.int (v0_sz x0)), .val (.int (v0_from x0 x1)), .val (.int (v0_p x0 x2)), .val (.int (v0_q x0 x3)), .val (.int (v0_r x0 x4)), .val (.int (v0_t x0 x5)), .val (.ref b1), .val (.ref b3), .val (.int (1 : Int32)), .unset, .unset] [(.int (v0_from x0 x1)), (.int (v0_q x0 x3)), (.int (f5 (v0_q x0 x3) (own_or (upd (upd (fun _ => (0 : Int64)) (own_pos x2 x0 / 64) (((fun _ => (0 : Int64)) (own_pos x2 x0 / 64)) ||| (shlJ (1 : Int64) (v0_p x0 x2)))) (own_pos x3 x0 / 64) (((upd (fun _ => (0 : Int64)) (own_pos x2 x0 / 64) (((fun _ => (0 : Int64)) (own_pos x2 x0 / 64)) ||| (shlJ (1 : Int64) (v0_p x0 x2)))) (own_pos x3 x0 / 64)) ||| (shlJ (1 : Int64) (v0_q x0 x3)))) ((own_wn x0) - ((own_pos x1 x0 / 64) + 1)) ((own_pos x1 x0 / 64) + 1) (upd (upd (fun _ => (0 : Int64)) (own_pos x4 x0 / 64) (((fun _ => (0 : Int64)) (own_pos x4 x0 / 64)) ||| (shlJ (1 : Int64) (v0_r x0 x4)))) (own_pos x1 x0 / 64) (((upd (fun _ => (0 : Int64)) (own_pos x4 x0 / 64) (((fun _ => (0 : Int64)) (own_pos x4 x0 / 64)) ||| (shlJ (1 : Int64) (v0_r x0 x4)))) (own_pos x1 x0 / 64)) ||| (((upd (upd (fun _ => (0 : Int64)) (own_pos x2 x0 / 64) (((fun _ => (0 : Int64)) (own_pos x2 x0 / 64)) ||| (shlJ (1 : Int64) (v0_p x0 x2)))) (own_pos x3 x0 / 64) (((upd (fun _ => (0 : Int64)) (own_pos x2 x0 / 64) (((fun _ => (0 : Int64)) (own_pos x2 x0 / 64)) ||| (shlJ (1 : Int64) (v0_p x0 x2)))) (own_pos x3 x0 / 64)) ||| (shlJ (1 : Int64) (v0_q x0 x3)))) (own_pos x1 x0 / 64)) &&& (shlJ (-1 : Int64) (v0_from x0 x1)))))) (own_pos x3 x0 / 64)))]))
  refine g_iload X12 hx 151 (hb hby at_149) rfl rfl ?_
  show Go p e below s _ _ _ (T12.setTop (mkF m 151 #[.val (.int x0), .val (.int x1), .val (.int x2), .val (.int x3), .val (.int x4), .val (.int x5), .val (.int (v0_sz x0)), .val (.int (v0_from x0 x1)), .val (.int (v0_p x0 x2)), .val (.int (v0_q x0 x3)), .val (.int (v0_r x0 x4)), .val (.int (v0_t x0 x5)), .val (.ref b1), .val (.ref b3), .val (.int (1 : Int32)), .unset, .unset] [(.int (v0_p x0 x2)), (.int (v0_from x0 x1)), (.int (v0_q x0 x3)), (.int (f5 (v0_q x0 x3) (own_or (upd (upd (fun _ => (0 : Int64)) (own_pos x2 x0 / 64) (((fun _ => (0 : Int64)) (own_pos x2 x0 / 64)) ||| (shlJ (1 : Int64) (v0_p x0 x2)))) (own_pos x3 x0 / 64) (((upd (fun _ => (0 : Int64)) (own_pos x2 x0 / 64) (((fun _ => (0 : Int64)) (own_pos x2 x0 / 64)) ||| (shlJ (1 : Int64) (v0_p x0 x2)))) (own_pos x3 x0 / 64)) ||| (shlJ (1 : Int64) (v0_q x0 x3)))) ((own_wn x0) - ((own_pos x1 x0 / 64) + 1)) ((own_pos x1 x0 / 64) + 1) (upd (upd (fun _ => (0 : Int64)) (own_pos x4 x0 / 64) (((fun _ => (0 : Int64)) (own_pos x4 x0 / 64)) ||| (shlJ (1 : Int64) (v0_r x0 x4)))) (own_pos x1 x0 / 64) (((upd (fun _ => (0 : Int64)) (own_pos x4 x0 / 64) (((fun _ => (0 : Int64)) (own_pos x4 x0 / 64)) ||| (shlJ (1 : Int64) (v0_r x0 x4)))) (own_pos x1 x0 / 64)) ||| (((upd (upd (fun _ => (0 : Int64)) (own_pos x2 x0 / 64) (((fun _ => (0 : Int64)) (own_pos x2 x0 / 64)) ||| (shlJ (1 : Int64) (v0_p x0 x2)))) (own_pos x3 x0 / 64) (((upd (fun _ => (0 : Int64)) (own_pos x2 x0 / 64) (((fun _ => (0 : Int64)) (own_pos x2 x0 / 64)) ||| (shlJ (1 : Int64) (v0_p x0 x2)))) (own_pos x3 x0 / 64)) ||| (shlJ (1 : Int64) (v0_q x0 x3)))) (own_pos x1 x0 / 64)) &&& (shlJ (-1 : Int64) (v0_from x0 x1)))))) (own_pos x3 x0 / 64)))]))
  refine g_iload X12 hx 153 (hb hby at_151) rfl rfl ?_
  show Go p e below s _ _ _ (T12.setTop (mkF m 153 #[.val (.int x0), .val (.int x1), .val (.int x2), .val (.int x3), .val (.int x4), .val (.int x5), .val (.int (v0_sz x0)), .val (.int (v0_from x0 x1)), .val (.int (v0_p x0 x2)), .val (.int (v0_q x0 x3)), .val (.int (v0_r x0 x4)), .val (.int (v0_t x0 x5)), .val (.ref b1), .val (.ref b3), .val (.int (1 : Int32)), .unset, .unset] [(.int (v0_q x0 x3)), (.int (v0_p x0 x2)), (.int (v0_from x0 x1)), (.int (v0_q x0 x3)), (.int (f5 (v0_q x0 x3) (own_or (upd (upd (fun _ => (0 : Int64)) (own_pos x2 x0 / 64) (((fun _ => (0 : Int64)) (own_pos x2 x0 / 64)) ||| (shlJ (1 : Int64) (v0_p x0 x2)))) (own_pos x3 x0 / 64) (((upd (fun _ => (0 : Int64)) (own_pos x2 x0 / 64) (((fun _ => (0 : Int64)) (own_pos x2 x0 / 64)) ||| (shlJ (1 : Int64) (v0_p x0 x2)))) (own_pos x3 x0 / 64)) ||| (shlJ (1 : Int64) (v0_q x0 x3)))) ((own_wn x0) - ((own_pos x1 x0 / 64) + 1)) ((own_pos x1 x0 / 64) + 1) (upd (upd (fun _ => (0 : Int64)) (own_pos x4 x0 / 64) (((fun _ => (0 : Int64)) (own_pos x4 x0 / 64)) ||| (shlJ (1 : Int64) (v0_r x0 x4)))) (own_pos x1 x0 / 64) (((upd (fun _ => (0 : Int64)) (own_pos x4 x0 / 64) (((fun _ => (0 : Int64)) (own_pos x4 x0 / 64)) ||| (shlJ (1 : Int64) (v0_r x0 x4)))) (own_pos x1 x0 / 64)) ||| (((upd (upd (fun _ => (0 : Int64)) (own_pos x2 x0 / 64) (((fun _ => (0 : Int64)) (own_pos x2 x0 / 64)) ||| (shlJ (1 : Int64) (v0_p x0 x2)))) (own_pos x3 x0 / 64) (((upd (fun _ => (0 : Int64)) (own_pos x2 x0 / 64) (((fun _ => (0 : Int64)) (own_pos x2 x0 / 64)) ||| (shlJ (1 : Int64) (v0_p x0 x2)))) (own_pos x3 x0 / 64)) ||| (shlJ (1 : Int64) (v0_q x0 x3)))) (own_pos x1 x0 / 64)) &&& (shlJ (-1 : Int64) (v0_from x0 x1)))))) (own_pos x3 x0 / 64)))]))
  refine g_iload X12 hx 155 (hb hby at_153) rfl rfl ?_
  show Go p e below s _ _ _ (T12.setTop (mkF m 155 #[.val (.int x0), .val (.int x1), .val (.int x2), .val (.int x3), .val (.int x4), .val (.int x5), .val (.int (v0_sz x0)), .val (.int (v0_from x0 x1)), .val (.int (v0_p x0 x2)), .val (.int (v0_q x0 x3)), .val (.int (v0_r x0 x4)), .val (.int (v0_t x0 x5)), .val (.ref b1), .val (.ref b3), .val (.int (1 : Int32)), .unset, .unset] [(.int (v0_r x0 x4)), (.int (v0_q x0 x3)), (.int (v0_p x0 x2)), (.int (v0_from x0 x1)), (.int (v0_q x0 x3)), (.int (f5 (v0_q x0 x3) (own_or (upd (upd (fun _ => (0 : Int64)) (own_pos x2 x0 / 64) (((fun _ => (0 : Int64)) (own_pos x2 x0 / 64)) ||| (shlJ (1 : Int64) (v0_p x0 x2)))) (own_pos x3 x0 / 64) (((upd (fun _ => (0 : Int64)) (own_pos x2 x0 / 64) (((fun _ => (0 : Int64)) (own_pos x2 x0 / 64)) ||| (shlJ (1 : Int64) (v0_p x0 x2)))) (own_pos x3 x0 / 64)) ||| (shlJ (1 : Int64) (v0_q x0 x3)))) ((own_wn x0) - ((own_pos x1 x0 / 64) + 1)) ((own_pos x1 x0 / 64) + 1) (upd (upd (fun _ => (0 : Int64)) (own_pos x4 x0 / 64) (((fun _ => (0 : Int64)) (own_pos x4 x0 / 64)) ||| (shlJ (1 : Int64) (v0_r x0 x4)))) (own_pos x1 x0 / 64) (((upd (fun _ => (0 : Int64)) (own_pos x4 x0 / 64) (((fun _ => (0 : Int64)) (own_pos x4 x0 / 64)) ||| (shlJ (1 : Int64) (v0_r x0 x4)))) (own_pos x1 x0 / 64)) ||| (((upd (upd (fun _ => (0 : Int64)) (own_pos x2 x0 / 64) (((fun _ => (0 : Int64)) (own_pos x2 x0 / 64)) ||| (shlJ (1 : Int64) (v0_p x0 x2)))) (own_pos x3 x0 / 64) (((upd (fun _ => (0 : Int64)) (own_pos x2 x0 / 64) (((fun _ => (0 : Int64)) (own_pos x2 x0 / 64)) ||| (shlJ (1 : Int64) (v0_p x0 x2)))) (own_pos x3 x0 / 64)) ||| (shlJ (1 : Int64) (v0_q x0 x3)))) (own_pos x1 x0 / 64)) &&& (shlJ (-1 : Int64) (v0_from x0 x1)))))) (own_pos x3 x0 / 64)))]))
  refine g_callS X12 hx hZ hown (hw _ (List.mem_of_getElem? (i := 31) rfl)) (hw _ (List.mem_of_getElem? (i := 32) rfl)) (hw _ (List.mem_of_getElem? (i := 33) rfl)) (hw _ (List.mem_of_getElem? (i := 34) rfl)) (by decide) e12 (rm6 l Z a0 hw [] (v0_q x0 x3) (v0_from x0 x1) (v0_p x0 x2) (v0_q x0 x3) (v0_r x0 x4) T8.heap) [(.int (v0_q x0 x3)), (.int (v0_from x0 x1)), (.int (v0_p x0 x2)), (.int (v0_q x0 x3)), (.int (v0_r x0 x4))] [(.int (f5 (v0_q x0 x3) (own_or (upd (upd (fun _ => (0 : Int64)) (own_pos x2 x0 / 64) (((fun _ => (0 : Int64)) (own_pos x2 x0 / 64)) ||| (shlJ (1 : Int64) (v0_p x0 x2)))) (own_pos x3 x0 / 64) (((upd (fun _ => (0 : Int64)) (own_pos x2 x0 / 64) (((fun _ => (0 : Int64)) (own_pos x2 x0 / 64)) ||| (shlJ (1 : Int64) (v0_p x0 x2)))) (own_pos x3 x0 / 64)) ||| (shlJ (1 : Int64) (v0_q x0 x3)))) ((own_wn x0) - ((own_pos x1 x0 / 64) + 1)) ((own_pos x1 x0 / 64) + 1) (upd (upd (fun _ => (0 : Int64)) (own_pos x4 x0 / 64) (((fun _ => (0 : Int64)) (own_pos x4 x0 / 64)) ||| (shlJ (1 : Int64) (v0_r x0 x4)))) (own_pos x1 x0 / 64) (((upd (fun _ => (0 : Int64)) (own_pos x4 x0 / 64) (((fun _ => (0 : Int64)) (own_pos x4 x0 / 64)) ||| (shlJ (1 : Int64) (v0_r x0 x4)))) (own_pos x1 x0 / 64)) ||| (((upd (upd (fun _ => (0 : Int64)) (own_pos x2 x0 / 64) (((fun _ => (0 : Int64)) (own_pos x2 x0 / 64)) ||| (shlJ (1 : Int64) (v0_p x0 x2)))) (own_pos x3 x0 / 64) (((upd (fun _ => (0 : Int64)) (own_pos x2 x0 / 64) (((fun _ => (0 : Int64)) (own_pos x2 x0 / 64)) ||| (shlJ (1 : Int64) (v0_p x0 x2)))) (own_pos x3 x0 / 64)) ||| (shlJ (1 : Int64) (v0_q x0 x3)))) (own_pos x1 x0 / 64)) &&& (shlJ (-1 : Int64) (v0_from x0 x1)))))) (own_pos x3 x0 / 64)))] 1 rfl (lenOf pd__28IIIII_29Z rfl) rfl (Nat.le_of_eq rfl) (by decide) (by decide) (by decide) (by decide) (by rw [hml]; rfl) (hb hby at_155) ?_
  intro T13 L13 v13 X13 q13
  obtain ⟨rfl, rfl, e13⟩ := q13
  have NS13 := Fr.app NS12 (Fr.nil n0)
  show Go p e below s _ _ _ (T13.setTop (mkF m 158 #[.val (.int x0), .val (.int x1), .val (.int x2), .val (.int x3), .val (.int x4), .val (.int x5), .val (.int (v0_sz x0)), .val (.int (v0_from x0 x1)), .val (.int (v0_p x0 x2)), .val (.int (v0_q x0 x3)), .val (.int (v0_r x0 x4)), .val (.int (v0_t x0 x5)), .val (.ref b1), .val (.ref b3), .val (.int (1 : Int32)), .unset, .unset] [(.int (f6 (v0_q x0 x3) (v0_from x0 x1) (v0_p x0 x2) (v0_q x0 x3) (v0_r x0 x4))), (.int (f5 (v0_q x0 x3) (own_or (upd (upd (fun _ => (0 : Int64)) (own_pos x2 x0 / 64) (((fun _ => (0 : Int64)) (own_pos x2 x0 / 64)) ||| (shlJ (1 : Int64) (v0_p x0 x2)))) (own_pos x3 x0 / 64) (((upd (fun _ => (0 : Int64)) (own_pos x2 x0 / 64) (((fun _ => (0 : Int64)) (own_pos x2 x0 / 64)) ||| (shlJ (1 : Int64) (v0_p x0 x2)))) (own_pos x3 x0 / 64)) ||| (shlJ (1 : Int64) (v0_q x0 x3)))) ((own_wn x0) - ((own_pos x1 x0 / 64) + 1)) ((own_pos x1 x0 / 64) + 1) (upd (upd (fun _ => (0 : Int64)) (own_pos x4 x0 / 64) (((fun _ => (0 : Int64)) (own_pos x4 x0 / 64)) ||| (shlJ (1 : Int64) (v0_r x0 x4)))) (own_pos x1 x0 / 64) (((upd (fun _ => (0 : Int64)) (own_pos x4 x0 / 64) (((fun _ => (0 : Int64)) (own_pos x4 x0 / 64)) ||| (shlJ (1 : Int64) (v0_r x0 x4)))) (own_pos x1 x0 / 64)) ||| (((upd (upd (fun _ => (0 : Int64)) (own_pos x2 x0 / 64) (((fun _ => (0 : Int64)) (own_pos x2 x0 / 64)) ||| (shlJ (1 : Int64) (v0_p x0 x2)))) (own_pos x3 x0 / 64) (((upd (fun _ => (0 : Int64)) (own_pos x2 x0 / 64) (((fun _ => (0 : Int64)) (own_pos x2 x0 / 64)) ||| (shlJ (1 : Int64) (v0_p x0 x2)))) (own_pos x3 x0 / 64)) ||| (shlJ (1 : Int64) (v0_q x0 x3)))) (own_pos x1 x0 / 64)) &&& (shlJ (-1 : Int64) (v0_from x0 x1)))))) (own_pos x3 x0 / 64)))]))
  have h14 : (f5 (v0_q x0 x3) (own_or (upd (upd (fun _ => (0 : Int64)) (own_pos x2 x0 / 64) (((fun _ => (0 : Int64)) (own_pos x2 x0 / 64)) ||| (shlJ (1 : Int64) (v0_p x0 x2)))) (own_pos x3 x0 / 64) (((upd (fun _ => (0 : Int64)) (own_pos x2 x0 / 64) (((fun _ => (0 : Int64)) (own_pos x2 x0 / 64)) ||| (shlJ (1 : Int64) (v0_p x0 x2)))) (own_pos x3 x0 / 64)) ||| (shlJ (1 : Int64) (v0_q x0 x3)))) ((own_wn x0) - ((own_pos x1 x0 / 64) + 1)) ((own_pos x1 x0 / 64) + 1) (upd (upd (fun _ => (0 : Int64)) (own_pos x4 x0 / 64) (((fun _ => (0 : Int64)) (own_pos x4 x0 / 64)) ||| (shlJ (1 : Int64) (v0_r x0 x4)))) (own_pos x1 x0 / 64) (((upd (fun _ => (0 : Int64)) (own_pos x4 x0 / 64) (((fun _ => (0 : Int64)) (own_pos x4 x0 / 64)) ||| (shlJ (1 : Int64) (v0_r x0 x4)))) (own_pos x1 x0 / 64)) ||| (((upd (upd (fun _ => (0 : Int64)) (own_pos x2 x0 / 64) (((fun _ => (0 : Int64)) (own_pos x2 x0 / 64)) ||| (shlJ (1 : Int64) (v0_p x0 x2)))) (own_pos x3 x0 / 64) (((upd (fun _ => (0 : Int64)) (own_pos x2 x0 / 64) (((fun _ => (0 : Int64)) (own_pos x2 x0 / 64)) ||| (shlJ (1 : Int64) (v0_p x0 x2)))) (own_pos x3 x0 / 64)) ||| (shlJ (1 : Int64) (v0_q x0 x3)))) (own_pos x1 x0 / 64)) &&& (shlJ (-1 : Int64) (v0_from x0 x1)))))) (own_pos x3 x0 / 64)) = (f6 (v0_q x0 x3) (v0_from x0 x1) (v0_p x0 x2) (v0_q x0 x3) (v0_r x0 x4)) := own_same _ _ _ _ _ _ _ _ _ _ _ (own_pos_lt x3 x0).1 (own_pos_lt x1 x0).1 (own_pos_lt x2 x0).1 (own_pos_lt x3 x0).1 (own_pos_lt x4 x0).1 (own_in_w x3 x0)
  refine g_icmp_ne X13 hx 165 161 (hb hby at_158) (by decide) rfl rfl (fun _ => ?_) (fun q => absurd h14 q)
  show Go p e below s _ _ _ (T13.setTop (mkF m 161 #[.val (.int x0), .val (.int x1), .val (.int x2), .val (.int x3), .val (.int x4), .val (.int x5), .val (.int (v0_sz x0)), .val (.int (v0_from x0 x1)), .val (.int (v0_p x0 x2)), .val (.int (v0_q x0 x3)), .val (.int (v0_r x0 x4)), .val (.int (v0_t x0 x5)), .val (.ref b1), .val (.ref b3), .val (.int (1 : Int32)), .unset, .unset] []))
  refine g_iconst X13 hx (1 : Int32) 162 (hb hby at_161) rfl rfl ?_
  show Go p e below s _ _ _ (T13.setTop (mkF m 162 #[.val (.int x0), .val (.int x1), .val (.int x2), .val (.int x3), .val (.int x4), .val (.int x5), .val (.int (v0_sz x0)), .val (.int (v0_from x0 x1)), .val (.int (v0_p x0 x2)), .val (.int (v0_q x0 x3)), .val (.int (v0_r x0 x4)), .val (.int (v0_t x0 x5)), .val (.ref b1), .val (.ref b3), .val (.int (1 : Int32)), .unset, .unset] [(.int (1 : Int32))]))
  refine g_goto X13 hx 166 (hb hby at_162) (by decide) rfl ?_
  show Go p e below s _ _ _ (T13.setTop (mkF m 166 #[.val (.int x0), .val (.int x1), .val (.int x2), .val (.int x3), .val (.int x4), .val (.int x5), .val (.int (v0_sz x0)), .val (.int (v0_from x0 x1)), .val (.int (v0_p x0 x2)), .val (.int (v0_q x0 x3)), .val (.int (v0_r x0 x4)), .val (.int (v0_t x0 x5)), .val (.ref b1), .val (.ref b3), .val (.int (1 : Int32)), .unset, .unset] [(.int (1 : Int32))]))
  refine g_istore X13 hx #[.val (.int x0), .val (.int x1), .val (.int x2), .val (.int x3), .val (.int x4), .val (.int x5), .val (.int (v0_sz x0)), .val (.int (v0_from x0 x1)), .val (.int (v0_p x0 x2)), .val (.int (v0_q x0 x3)), .val (.int (v0_r x0 x4)), .val (.int (v0_t x0 x5)), .val (.ref b1), .val (.ref b3), .val (.int (1 : Int32)), .val (.int (1 : Int32)), .unset] 168 (hb hby at_166) rfl rfl ?_
  show Go p e below s _ _ _ (T13.setTop (mkF m 168 #[.val (.int x0), .val (.int x1), .val (.int x2), .val (.int x3), .val (.int x4), .val (.int x5), .val (.int (v0_sz x0)), .val (.int (v0_from x0 x1)), .val (.int (v0_p x0 x2)), .val (.int (v0_q x0 x3)), .val (.int (v0_r x0 x4)), .val (.int (v0_t x0 x5)), .val (.ref b1), .val (.ref b3), .val (.int (1 : Int32)), .val (.int (1 : Int32)), .unset] []))
  refine g_aload X13 hx 170 (hb hby at_168) rfl rfl rfl ?_
  show Go p e below s _ _ _ (T13.setTop (mkF m 170 #[.val (.int x0), .val (.int x1), .val (.int x2), .val (.int x3), .val (.int x4), .val (.int x5), .val (.int (v0_sz x0)), .val (.int (v0_from x0 x1)), .val (.int (v0_p x0 x2)), .val (.int (v0_q x0 x3)), .val (.int (v0_r x0 x4)), .val (.int (v0_t x0 x5)), .val (.ref b1), .val (.ref b3), .val (.int (1 : Int32)), .val (.int (1 : Int32)), .unset] [(.ref b1)]))
  refine g_iload X13 hx 172 (hb hby at_170) rfl rfl ?_
  show Go p e below s _ _ _ (T13.setTop (mkF m 172 #[.val (.int x0), .val (.int x1), .val (.int x2), .val (.int x3), .val (.int x4), .val (.int x5), .val (.int (v0_sz x0)), .val (.int (v0_from x0 x1)), .val (.int (v0_p x0 x2)), .val (.int (v0_q x0 x3)), .val (.int (v0_r x0 x4)), .val (.int (v0_t x0 x5)), .val (.ref b1), .val (.ref b3), .val (.int (1 : Int32)), .val (.int (1 : Int32)), .unset] [(.int (v0_t x0 x5)), (.ref b1)]))
  refine g_callV X13 hx hZ hown (hw _ (List.mem_of_getElem? (i := 26) rfl)) (hw _ (List.mem_of_getElem? (i := 27) rfl)) (hw _ (List.mem_of_getElem? (i := 29) rfl)) (hw _ (List.mem_of_getElem? (i := 28) rfl)) (hw _ (List.mem_of_getElem? (i := 3) rfl)) (hw _ (List.mem_of_getElem? (i := 30) rfl)) (by decide) e13 b1 k8_1 (rm5 l Z a0 hw [] b1 (v0_t x0 x5) b2_0 (own_wn x0) (own_or (upd (upd (fun _ => (0 : Int64)) (own_pos x2 x0 / 64) (((fun _ => (0 : Int64)) (own_pos x2 x0 / 64)) ||| (shlJ (1 : Int64) (v0_p x0 x2)))) (own_pos x3 x0 / 64) (((upd (fun _ => (0 : Int64)) (own_pos x2 x0 / 64) (((fun _ => (0 : Int64)) (own_pos x2 x0 / 64)) ||| (shlJ (1 : Int64) (v0_p x0 x2)))) (own_pos x3 x0 / 64)) ||| (shlJ (1 : Int64) (v0_q x0 x3)))) ((own_wn x0) - ((own_pos x1 x0 / 64) + 1)) ((own_pos x1 x0 / 64) + 1) (upd (upd (fun _ => (0 : Int64)) (own_pos x4 x0 / 64) (((fun _ => (0 : Int64)) (own_pos x4 x0 / 64)) ||| (shlJ (1 : Int64) (v0_r x0 x4)))) (own_pos x1 x0 / 64) (((upd (fun _ => (0 : Int64)) (own_pos x4 x0 / 64) (((fun _ => (0 : Int64)) (own_pos x4 x0 / 64)) ||| (shlJ (1 : Int64) (v0_r x0 x4)))) (own_pos x1 x0 / 64)) ||| (((upd (upd (fun _ => (0 : Int64)) (own_pos x2 x0 / 64) (((fun _ => (0 : Int64)) (own_pos x2 x0 / 64)) ||| (shlJ (1 : Int64) (v0_p x0 x2)))) (own_pos x3 x0 / 64) (((upd (fun _ => (0 : Int64)) (own_pos x2 x0 / 64) (((fun _ => (0 : Int64)) (own_pos x2 x0 / 64)) ||| (shlJ (1 : Int64) (v0_p x0 x2)))) (own_pos x3 x0 / 64)) ||| (shlJ (1 : Int64) (v0_q x0 x3)))) (own_pos x1 x0 / 64)) &&& (shlJ (-1 : Int64) (v0_from x0 x1)))))) (own_pos x5 x0 / 64) T8.heap k8_4 p8_0 (own_six _ _ (own_pos_lt x5 x0).1 : (ushrI (v0_t x0 x5) (6 : Int32)).toInt = (own_pos x5 x0 / 64)) (own_in_w x5 x0 : (own_pos x5 x0 / 64) < (own_wn x0))) [(.int (v0_t x0 x5))] [] 0 rfl (lenOf pd__28I_29Z rfl) rfl (Nat.le_of_eq rfl) (by decide) (by decide) (by decide) (by decide) (by rw [hml]; rfl) (hb hby at_172) ?_
  intro T15 L15 v15 X15 q15
  obtain ⟨rfl, rfl, e15⟩ := q15
  have NS15 := Fr.app NS13 (Fr.nil n0)
  show Go p e below s _ _ _ (T15.setTop (mkF m 175 #[.val (.int x0), .val (.int x1), .val (.int x2), .val (.int x3), .val (.int x4), .val (.int x5), .val (.int (v0_sz x0)), .val (.int (v0_from x0 x1)), .val (.int (v0_p x0 x2)), .val (.int (v0_q x0 x3)), .val (.int (v0_r x0 x4)), .val (.int (v0_t x0 x5)), .val (.ref b1), .val (.ref b3), .val (.int (1 : Int32)), .val (.int (1 : Int32)), .unset] [(.int (f5 (v0_t x0 x5) (own_or (upd (upd (fun _ => (0 : Int64)) (own_pos x2 x0 / 64) (((fun _ => (0 : Int64)) (own_pos x2 x0 / 64)) ||| (shlJ (1 : Int64) (v0_p x0 x2)))) (own_pos x3 x0 / 64) (((upd (fun _ => (0 : Int64)) (own_pos x2 x0 / 64) (((fun _ => (0 : Int64)) (own_pos x2 x0 / 64)) ||| (shlJ (1 : Int64) (v0_p x0 x2)))) (own_pos x3 x0 / 64)) ||| (shlJ (1 : Int64) (v0_q x0 x3)))) ((own_wn x0) - ((own_pos x1 x0 / 64) + 1)) ((own_pos x1 x0 / 64) + 1) (upd (upd (fun _ => (0 : Int64)) (own_pos x4 x0 / 64) (((fun _ => (0 : Int64)) (own_pos x4 x0 / 64)) ||| (shlJ (1 : Int64) (v0_r x0 x4)))) (own_pos x1 x0 / 64) (((upd (fun _ => (0 : Int64)) (own_pos x4 x0 / 64) (((fun _ => (0 : Int64)) (own_pos x4 x0 / 64)) ||| (shlJ (1 : Int64) (v0_r x0 x4)))) (own_pos x1 x0 / 64)) ||| (((upd (upd (fun _ => (0 : Int64)) (own_pos x2 x0 / 64) (((fun _ => (0 : Int64)) (own_pos x2 x0 / 64)) ||| (shlJ (1 : Int64) (v0_p x0 x2)))) (own_pos x3 x0 / 64) (((upd (fun _ => (0 : Int64)) (own_pos x2 x0 / 64) (((fun _ => (0 : Int64)) (own_pos x2 x0 / 64)) ||| (shlJ (1 : Int64) (v0_p x0 x2)))) (own_pos x3 x0 / 64)) ||| (shlJ (1 : Int64) (v0_q x0 x3)))) (own_pos x1 x0 / 64)) &&& (shlJ (-1 : Int64) (v0_from x0 x1)))))) (own_pos x5 x0 / 64)))]))
  refine g_iload X15 hx 177 (hb hby at_175) rfl rfl ?_
  show Go p e below s _ _ _ (T15.setTop (mkF m 177 #[.val (.int x0), .val (.int x1), .val (.int x2), .val (.int x3), .val (.int x4), .val (.int x5), .val (.int (v0_sz x0)), .val (.int (v0_from x0 x1)), .val (.int (v0_p x0 x2)), .val (.int (v0_q x0 x3)), .val (.int (v0_r x0 x4)), .val (.int (v0_t x0 x5)), .val (.ref b1), .val (.ref b3), .val (.int (1 : Int32)), .val (.int (1 : Int32)), .unset] [(.int (v0_t x0 x5)), (.int (f5 (v0_t x0 x5) (own_or (upd (upd (fun _ => (0 : Int64)) (own_pos x2 x0 / 64) (((fun _ => (0 : Int64)) (own_pos x2 x0 / 64)) ||| (shlJ (1 : Int64) (v0_p x0 x2)))) (own_pos x3 x0 / 64) (((upd (fun _ => (0 : Int64)) (own_pos x2 x0 / 64) (((fun _ => (0 : Int64)) (own_pos x2 x0 / 64)) ||| (shlJ (1 : Int64) (v0_p x0 x2)))) (own_pos x3 x0 / 64)) ||| (shlJ (1 : Int64) (v0_q x0 x3)))) ((own_wn x0) - ((own_pos x1 x0 / 64) + 1)) ((own_pos x1 x0 / 64) + 1) (upd (upd (fun _ => (0 : Int64)) (own_pos x4 x0 / 64) (((fun _ => (0 : Int64)) (own_pos x4 x0 / 64)) ||| (shlJ (1 : Int64) (v0_r x0 x4)))) (own_pos x1 x0 / 64) (((upd (fun _ => (0 : Int64)) (own_pos x4 x0 / 64) (((fun _ => (0 : Int64)) (own_pos x4 x0 / 64)) ||| (shlJ (1 : Int64) (v0_r x0 x4)))) (own_pos x1 x0 / 64)) ||| (((upd (upd (fun _ => (0 : Int64)) (own_pos x2 x0 / 64) (((fun _ => (0 : Int64)) (own_pos x2 x0 / 64)) ||| (shlJ (1 : Int64) (v0_p x0 x2)))) (own_pos x3 x0 / 64) (((upd (fun _ => (0 : Int64)) (own_pos x2 x0 / 64) (((fun _ => (0 : Int64)) (own_pos x2 x0 / 64)) ||| (shlJ (1 : Int64) (v0_p x0 x2)))) (own_pos x3 x0 / 64)) ||| (shlJ (1 : Int64) (v0_q x0 x3)))) (own_pos x1 x0 / 64)) &&& (shlJ (-1 : Int64) (v0_from x0 x1)))))) (own_pos x5 x0 / 64)))]))
  refine g_iload X15 hx 179 (hb hby at_177) rfl rfl ?_
  show Go p e below s _ _ _ (T15.setTop (mkF m 179 #[.val (.int x0), .val (.int x1), .val (.int x2), .val (.int x3), .val (.int x4), .val (.int x5), .val (.int (v0_sz x0)), .val (.int (v0_from x0 x1)), .val (.int (v0_p x0 x2)), .val (.int (v0_q x0 x3)), .val (.int (v0_r x0 x4)), .val (.int (v0_t x0 x5)), .val (.ref b1), .val (.ref b3), .val (.int (1 : Int32)), .val (.int (1 : Int32)), .unset] [(.int (v0_from x0 x1)), (.int (v0_t x0 x5)), (.int (f5 (v0_t x0 x5) (own_or (upd (upd (fun _ => (0 : Int64)) (own_pos x2 x0 / 64) (((fun _ => (0 : Int64)) (own_pos x2 x0 / 64)) ||| (shlJ (1 : Int64) (v0_p x0 x2)))) (own_pos x3 x0 / 64) (((upd (fun _ => (0 : Int64)) (own_pos x2 x0 / 64) (((fun _ => (0 : Int64)) (own_pos x2 x0 / 64)) ||| (shlJ (1 : Int64) (v0_p x0 x2)))) (own_pos x3 x0 / 64)) ||| (shlJ (1 : Int64) (v0_q x0 x3)))) ((own_wn x0) - ((own_pos x1 x0 / 64) + 1)) ((own_pos x1 x0 / 64) + 1) (upd (upd (fun _ => (0 : Int64)) (own_pos x4 x0 / 64) (((fun _ => (0 : Int64)) (own_pos x4 x0 / 64)) ||| (shlJ (1 : Int64) (v0_r x0 x4)))) (own_pos x1 x0 / 64) (((upd (fun _ => (0 : Int64)) (own_pos x4 x0 / 64) (((fun _ => (0 : Int64)) (own_pos x4 x0 / 64)) ||| (shlJ (1 : Int64) (v0_r x0 x4)))) (own_pos x1 x0 / 64)) ||| (((upd (upd (fun _ => (0 : Int64)) (own_pos x2 x0 / 64) (((fun _ => (0 : Int64)) (own_pos x2 x0 / 64)) ||| (shlJ (1 : Int64) (v0_p x0 x2)))) (own_pos x3 x0 / 64) (((upd (fun _ => (0 : Int64)) (own_pos x2 x0 / 64) (((fun _ => (0 : Int64)) (own_pos x2 x0 / 64)) ||| (shlJ (1 : Int64) (v0_p x0 x2)))) (own_pos x3 x0 / 64)) ||| (shlJ (1 : Int64) (v0_q x0 x3)))) (own_pos x1 x0 / 64)) &&& (shlJ (-1 : Int64) (v0_from x0 x1)))))) (own_pos x5 x0 / 64)))]))
  refine g_iload X15 hx 181 (hb hby at_179) rfl rfl ?_
  show Go p e below s _ _ _ (T15.setTop (mkF m 181 #[.val (.int x0), .val (.int x1), .val (.int x2), .val (.int x3), .val (.int x4), .val (.int x5), .val (.int (v0_sz x0)), .val (.int (v0_from x0 x1)), .val (.int (v0_p x0 x2)), .val (.int (v0_q x0 x3)), .val (.int (v0_r x0 x4)), .val (.int (v0_t x0 x5)), .val (.ref b1), .val (.ref b3), .val (.int (1 : Int32)), .val (.int (1 : Int32)), .unset] [(.int (v0_p x0 x2)), (.int (v0_from x0 x1)), (.int (v0_t x0 x5)), (.int (f5 (v0_t x0 x5) (own_or (upd (upd (fun _ => (0 : Int64)) (own_pos x2 x0 / 64) (((fun _ => (0 : Int64)) (own_pos x2 x0 / 64)) ||| (shlJ (1 : Int64) (v0_p x0 x2)))) (own_pos x3 x0 / 64) (((upd (fun _ => (0 : Int64)) (own_pos x2 x0 / 64) (((fun _ => (0 : Int64)) (own_pos x2 x0 / 64)) ||| (shlJ (1 : Int64) (v0_p x0 x2)))) (own_pos x3 x0 / 64)) ||| (shlJ (1 : Int64) (v0_q x0 x3)))) ((own_wn x0) - ((own_pos x1 x0 / 64) + 1)) ((own_pos x1 x0 / 64) + 1) (upd (upd (fun _ => (0 : Int64)) (own_pos x4 x0 / 64) (((fun _ => (0 : Int64)) (own_pos x4 x0 / 64)) ||| (shlJ (1 : Int64) (v0_r x0 x4)))) (own_pos x1 x0 / 64) (((upd (fun _ => (0 : Int64)) (own_pos x4 x0 / 64) (((fun _ => (0 : Int64)) (own_pos x4 x0 / 64)) ||| (shlJ (1 : Int64) (v0_r x0 x4)))) (own_pos x1 x0 / 64)) ||| (((upd (upd (fun _ => (0 : Int64)) (own_pos x2 x0 / 64) (((fun _ => (0 : Int64)) (own_pos x2 x0 / 64)) ||| (shlJ (1 : Int64) (v0_p x0 x2)))) (own_pos x3 x0 / 64) (((upd (fun _ => (0 : Int64)) (own_pos x2 x0 / 64) (((fun _ => (0 : Int64)) (own_pos x2 x0 / 64)) ||| (shlJ (1 : Int64) (v0_p x0 x2)))) (own_pos x3 x0 / 64)) ||| (shlJ (1 : Int64) (v0_q x0 x3)))) (own_pos x1 x0 / 64)) &&& (shlJ (-1 : Int64) (v0_from x0 x1)))))) (own_pos x5 x0 / 64)))]))
  refine g_iload X15 hx 183 (hb hby at_181) rfl rfl ?_
  show Go p e below s _ _ _ (T15.setTop (mkF m 183 #[.val (.int x0), .val (.int x1), .val (.int x2), .val (.int x3), .val (.int x4), .val (.int x5), .val (.int (v0_sz x0)), .val (.int (v0_from x0 x1)), .val (.int (v0_p x0 x2)), .val (.int (v0_q x0 x3)), .val (.int (v0_r x0 x4)), .val (.int (v0_t x0 x5)), .val (.ref b1), .val (.ref b3), .val (.int (1 : Int32)), .val (.int (1 : Int32)), .unset] [(.int (v0_q x0 x3)), (.int (v0_p x0 x2)), (.int (v0_from x0 x1)), (.int (v0_t x0 x5)), (.int (f5 (v0_t x0 x5) (own_or (upd (upd (fun _ => (0 : Int64)) (own_pos x2 x0 / 64) (((fun _ => (0 : Int64)) (own_pos x2 x0 / 64)) ||| (shlJ (1 : Int64) (v0_p x0 x2)))) (own_pos x3 x0 / 64) (((upd (fun _ => (0 : Int64)) (own_pos x2 x0 / 64) (((fun _ => (0 : Int64)) (own_pos x2 x0 / 64)) ||| (shlJ (1 : Int64) (v0_p x0 x2)))) (own_pos x3 x0 / 64)) ||| (shlJ (1 : Int64) (v0_q x0 x3)))) ((own_wn x0) - ((own_pos x1 x0 / 64) + 1)) ((own_pos x1 x0 / 64) + 1) (upd (upd (fun _ => (0 : Int64)) (own_pos x4 x0 / 64) (((fun _ => (0 : Int64)) (own_pos x4 x0 / 64)) ||| (shlJ (1 : Int64) (v0_r x0 x4)))) (own_pos x1 x0 / 64) (((upd (fun _ => (0 : Int64)) (own_pos x4 x0 / 64) (((fun _ => (0 : Int64)) (own_pos x4 x0 / 64)) ||| (shlJ (1 : Int64) (v0_r x0 x4)))) (own_pos x1 x0 / 64)) ||| (((upd (upd (fun _ => (0 : Int64)) (own_pos x2 x0 / 64) (((fun _ => (0 : Int64)) (own_pos x2 x0 / 64)) ||| (shlJ (1 : Int64) (v0_p x0 x2)))) (own_pos x3 x0 / 64) (((upd (fun _ => (0 : Int64)) (own_pos x2 x0 / 64) (((fun _ => (0 : Int64)) (own_pos x2 x0 / 64)) ||| (shlJ (1 : Int64) (v0_p x0 x2)))) (own_pos x3 x0 / 64)) ||| (shlJ (1 : Int64) (v0_q x0 x3)))) (own_pos x1 x0 / 64)) &&& (shlJ (-1 : Int64) (v0_from x0 x1)))))) (own_pos x5 x0 / 64)))]))
  refine g_iload X15 hx 185 (hb hby at_183) rfl rfl ?_
  show Go p e below s _ _ _ (T15.setTop (mkF m 185 #[.val (.int x0), .val (.int x1), .val (.int x2), .val (.int x3), .val (.int x4), .val (.int x5), .val (.int (v0_sz x0)), .val (.int (v0_from x0 x1)), .val (.int (v0_p x0 x2)), .val (.int (v0_q x0 x3)), .val (.int (v0_r x0 x4)), .val (.int (v0_t x0 x5)), .val (.ref b1), .val (.ref b3), .val (.int (1 : Int32)), .val (.int (1 : Int32)), .unset] [(.int (v0_r x0 x4)), (.int (v0_q x0 x3)), (.int (v0_p x0 x2)), (.int (v0_from x0 x1)), (.int (v0_t x0 x5)), (.int (f5 (v0_t x0 x5) (own_or (upd (upd (fun _ => (0 : Int64)) (own_pos x2 x0 / 64) (((fun _ => (0 : Int64)) (own_pos x2 x0 / 64)) ||| (shlJ (1 : Int64) (v0_p x0 x2)))) (own_pos x3 x0 / 64) (((upd (fun _ => (0 : Int64)) (own_pos x2 x0 / 64) (((fun _ => (0 : Int64)) (own_pos x2 x0 / 64)) ||| (shlJ (1 : Int64) (v0_p x0 x2)))) (own_pos x3 x0 / 64)) ||| (shlJ (1 : Int64) (v0_q x0 x3)))) ((own_wn x0) - ((own_pos x1 x0 / 64) + 1)) ((own_pos x1 x0 / 64) + 1) (upd (upd (fun _ => (0 : Int64)) (own_pos x4 x0 / 64) (((fun _ => (0 : Int64)) (own_pos x4 x0 / 64)) ||| (shlJ (1 : Int64) (v0_r x0 x4)))) (own_pos x1 x0 / 64) (((upd (fun _ => (0 : Int64)) (own_pos x4 x0 / 64) (((fun _ => (0 : Int64)) (own_pos x4 x0 / 64)) ||| (shlJ (1 : Int64) (v0_r x0 x4)))) (own_pos x1 x0 / 64)) ||| (((upd (upd (fun _ => (0 : Int64)) (own_pos x2 x0 / 64) (((fun _ => (0 : Int64)) (own_pos x2 x0 / 64)) ||| (shlJ (1 : Int64) (v0_p x0 x2)))) (own_pos x3 x0 / 64) (((upd (fun _ => (0 : Int64)) (own_pos x2 x0 / 64) (((fun _ => (0 : Int64)) (own_pos x2 x0 / 64)) ||| (shlJ (1 : Int64) (v0_p x0 x2)))) (own_pos x3 x0 / 64)) ||| (shlJ (1 : Int64) (v0_q x0 x3)))) (own_pos x1 x0 / 64)) &&& (shlJ (-1 : Int64) (v0_from x0 x1)))))) (own_pos x5 x0 / 64)))]))
  refine g_callS X15 hx hZ hown (hw _ (List.mem_of_getElem? (i := 31) rfl)) (hw _ (List.mem_of_getElem? (i := 32) rfl)) (hw _ (List.mem_of_getElem? (i := 33) rfl)) (hw _ (List.mem_of_getElem? (i := 34) rfl)) (by decide) e15 (rm6 l Z a0 hw [] (v0_t x0 x5) (v0_from x0 x1) (v0_p x0 x2) (v0_q x0 x3) (v0_r x0 x4) T8.heap) [(.int (v0_t x0 x5)), (.int (v0_from x0 x1)), (.int (v0_p x0 x2)), (.int (v0_q x0 x3)), (.int (v0_r x0 x4))] [(.int (f5 (v0_t x0 x5) (own_or (upd (upd (fun _ => (0 : Int64)) (own_pos x2 x0 / 64) (((fun _ => (0 : Int64)) (own_pos x2 x0 / 64)) ||| (shlJ (1 : Int64) (v0_p x0 x2)))) (own_pos x3 x0 / 64) (((upd (fun _ => (0 : Int64)) (own_pos x2 x0 / 64) (((fun _ => (0 : Int64)) (own_pos x2 x0 / 64)) ||| (shlJ (1 : Int64) (v0_p x0 x2)))) (own_pos x3 x0 / 64)) ||| (shlJ (1 : Int64) (v0_q x0 x3)))) ((own_wn x0) - ((own_pos x1 x0 / 64) + 1)) ((own_pos x1 x0 / 64) + 1) (upd (upd (fun _ => (0 : Int64)) (own_pos x4 x0 / 64) (((fun _ => (0 : Int64)) (own_pos x4 x0 / 64)) ||| (shlJ (1 : Int64) (v0_r x0 x4)))) (own_pos x1 x0 / 64) (((upd (fun _ => (0 : Int64)) (own_pos x4 x0 / 64) (((fun _ => (0 : Int64)) (own_pos x4 x0 / 64)) ||| (shlJ (1 : Int64) (v0_r x0 x4)))) (own_pos x1 x0 / 64)) ||| (((upd (upd (fun _ => (0 : Int64)) (own_pos x2 x0 / 64) (((fun _ => (0 : Int64)) (own_pos x2 x0 / 64)) ||| (shlJ (1 : Int64) (v0_p x0 x2)))) (own_pos x3 x0 / 64) (((upd (fun _ => (0 : Int64)) (own_pos x2 x0 / 64) (((fun _ => (0 : Int64)) (own_pos x2 x0 / 64)) ||| (shlJ (1 : Int64) (v0_p x0 x2)))) (own_pos x3 x0 / 64)) ||| (shlJ (1 : Int64) (v0_q x0 x3)))) (own_pos x1 x0 / 64)) &&& (shlJ (-1 : Int64) (v0_from x0 x1)))))) (own_pos x5 x0 / 64)))] 1 rfl (lenOf pd__28IIIII_29Z rfl) rfl (Nat.le_of_eq rfl) (by decide) (by decide) (by decide) (by decide) (by rw [hml]; rfl) (hb hby at_185) ?_
  intro T16 L16 v16 X16 q16
  obtain ⟨rfl, rfl, e16⟩ := q16
  have NS16 := Fr.app NS15 (Fr.nil n0)
  show Go p e below s _ _ _ (T16.setTop (mkF m 188 #[.val (.int x0), .val (.int x1), .val (.int x2), .val (.int x3), .val (.int x4), .val (.int x5), .val (.int (v0_sz x0)), .val (.int (v0_from x0 x1)), .val (.int (v0_p x0 x2)), .val (.int (v0_q x0 x3)), .val (.int (v0_r x0 x4)), .val (.int (v0_t x0 x5)), .val (.ref b1), .val (.ref b3), .val (.int (1 : Int32)), .val (.int (1 : Int32)), .unset] [(.int (f6 (v0_t x0 x5) (v0_from x0 x1) (v0_p x0 x2) (v0_q x0 x3) (v0_r x0 x4))), (.int (f5 (v0_t x0 x5) (own_or (upd (upd (fun _ => (0 : Int64)) (own_pos x2 x0 / 64) (((fun _ => (0 : Int64)) (own_pos x2 x0 / 64)) ||| (shlJ (1 : Int64) (v0_p x0 x2)))) (own_pos x3 x0 / 64) (((upd (fun _ => (0 : Int64)) (own_pos x2 x0 / 64) (((fun _ => (0 : Int64)) (own_pos x2 x0 / 64)) ||| (shlJ (1 : Int64) (v0_p x0 x2)))) (own_pos x3 x0 / 64)) ||| (shlJ (1 : Int64) (v0_q x0 x3)))) ((own_wn x0) - ((own_pos x1 x0 / 64) + 1)) ((own_pos x1 x0 / 64) + 1) (upd (upd (fun _ => (0 : Int64)) (own_pos x4 x0 / 64) (((fun _ => (0 : Int64)) (own_pos x4 x0 / 64)) ||| (shlJ (1 : Int64) (v0_r x0 x4)))) (own_pos x1 x0 / 64) (((upd (fun _ => (0 : Int64)) (own_pos x4 x0 / 64) (((fun _ => (0 : Int64)) (own_pos x4 x0 / 64)) ||| (shlJ (1 : Int64) (v0_r x0 x4)))) (own_pos x1 x0 / 64)) ||| (((upd (upd (fun _ => (0 : Int64)) (own_pos x2 x0 / 64) (((fun _ => (0 : Int64)) (own_pos x2 x0 / 64)) ||| (shlJ (1 : Int64) (v0_p x0 x2)))) (own_pos x3 x0 / 64) (((upd (fun _ => (0 : Int64)) (own_pos x2 x0 / 64) (((fun _ => (0 : Int64)) (own_pos x2 x0 / 64)) ||| (shlJ (1 : Int64) (v0_p x0 x2)))) (own_pos x3 x0 / 64)) ||| (shlJ (1 : Int64) (v0_q x0 x3)))) (own_pos x1 x0 / 64)) &&& (shlJ (-1 : Int64) (v0_from x0 x1)))))) (own_pos x5 x0 / 64)))]))
  have h17 : (f5 (v0_t x0 x5) (own_or (upd (upd (fun _ => (0 : Int64)) (own_pos x2 x0 / 64) (((fun _ => (0 : Int64)) (own_pos x2 x0 / 64)) ||| (shlJ (1 : Int64) (v0_p x0 x2)))) (own_pos x3 x0 / 64) (((upd (fun _ => (0 : Int64)) (own_pos x2 x0 / 64) (((fun _ => (0 : Int64)) (own_pos x2 x0 / 64)) ||| (shlJ (1 : Int64) (v0_p x0 x2)))) (own_pos x3 x0 / 64)) ||| (shlJ (1 : Int64) (v0_q x0 x3)))) ((own_wn x0) - ((own_pos x1 x0 / 64) + 1)) ((own_pos x1 x0 / 64) + 1) (upd (upd (fun _ => (0 : Int64)) (own_pos x4 x0 / 64) (((fun _ => (0 : Int64)) (own_pos x4 x0 / 64)) ||| (shlJ (1 : Int64) (v0_r x0 x4)))) (own_pos x1 x0 / 64) (((upd (fun _ => (0 : Int64)) (own_pos x4 x0 / 64) (((fun _ => (0 : Int64)) (own_pos x4 x0 / 64)) ||| (shlJ (1 : Int64) (v0_r x0 x4)))) (own_pos x1 x0 / 64)) ||| (((upd (upd (fun _ => (0 : Int64)) (own_pos x2 x0 / 64) (((fun _ => (0 : Int64)) (own_pos x2 x0 / 64)) ||| (shlJ (1 : Int64) (v0_p x0 x2)))) (own_pos x3 x0 / 64) (((upd (fun _ => (0 : Int64)) (own_pos x2 x0 / 64) (((fun _ => (0 : Int64)) (own_pos x2 x0 / 64)) ||| (shlJ (1 : Int64) (v0_p x0 x2)))) (own_pos x3 x0 / 64)) ||| (shlJ (1 : Int64) (v0_q x0 x3)))) (own_pos x1 x0 / 64)) &&& (shlJ (-1 : Int64) (v0_from x0 x1)))))) (own_pos x5 x0 / 64)) = (f6 (v0_t x0 x5) (v0_from x0 x1) (v0_p x0 x2) (v0_q x0 x3) (v0_r x0 x4)) := own_same _ _ _ _ _ _ _ _ _ _ _ (own_pos_lt x5 x0).1 (own_pos_lt x1 x0).1 (own_pos_lt x2 x0).1 (own_pos_lt x3 x0).1 (own_pos_lt x4 x0).1 (own_in_w x5 x0)
  refine g_icmp_ne X16 hx 195 191 (hb hby at_188) (by decide) rfl rfl (fun _ => ?_) (fun q => absurd h17 q)
  show Go p e below s _ _ _ (T16.setTop (mkF m 191 #[.val (.int x0), .val (.int x1), .val (.int x2), .val (.int x3), .val (.int x4), .val (.int x5), .val (.int (v0_sz x0)), .val (.int (v0_from x0 x1)), .val (.int (v0_p x0 x2)), .val (.int (v0_q x0 x3)), .val (.int (v0_r x0 x4)), .val (.int (v0_t x0 x5)), .val (.ref b1), .val (.ref b3), .val (.int (1 : Int32)), .val (.int (1 : Int32)), .unset] []))
  refine g_iconst X16 hx (1 : Int32) 192 (hb hby at_191) rfl rfl ?_
  show Go p e below s _ _ _ (T16.setTop (mkF m 192 #[.val (.int x0), .val (.int x1), .val (.int x2), .val (.int x3), .val (.int x4), .val (.int x5), .val (.int (v0_sz x0)), .val (.int (v0_from x0 x1)), .val (.int (v0_p x0 x2)), .val (.int (v0_q x0 x3)), .val (.int (v0_r x0 x4)), .val (.int (v0_t x0 x5)), .val (.ref b1), .val (.ref b3), .val (.int (1 : Int32)), .val (.int (1 : Int32)), .unset] [(.int (1 : Int32))]))
  refine g_goto X16 hx 196 (hb hby at_192) (by decide) rfl ?_
  show Go p e below s _ _ _ (T16.setTop (mkF m 196 #[.val (.int x0), .val (.int x1), .val (.int x2), .val (.int x3), .val (.int x4), .val (.int x5), .val (.int (v0_sz x0)), .val (.int (v0_from x0 x1)), .val (.int (v0_p x0 x2)), .val (.int (v0_q x0 x3)), .val (.int (v0_r x0 x4)), .val (.int (v0_t x0 x5)), .val (.ref b1), .val (.ref b3), .val (.int (1 : Int32)), .val (.int (1 : Int32)), .unset] [(.int (1 : Int32))]))
  refine g_istore X16 hx #[.val (.int x0), .val (.int x1), .val (.int x2), .val (.int x3), .val (.int x4), .val (.int x5), .val (.int (v0_sz x0)), .val (.int (v0_from x0 x1)), .val (.int (v0_p x0 x2)), .val (.int (v0_q x0 x3)), .val (.int (v0_r x0 x4)), .val (.int (v0_t x0 x5)), .val (.ref b1), .val (.ref b3), .val (.int (1 : Int32)), .val (.int (1 : Int32)), .val (.int (1 : Int32))] 198 (hb hby at_196) rfl rfl ?_
  show Go p e below s _ _ _ (T16.setTop (mkF m 198 #[.val (.int x0), .val (.int x1), .val (.int x2), .val (.int x3), .val (.int x4), .val (.int x5), .val (.int (v0_sz x0)), .val (.int (v0_from x0 x1)), .val (.int (v0_p x0 x2)), .val (.int (v0_q x0 x3)), .val (.int (v0_r x0 x4)), .val (.int (v0_t x0 x5)), .val (.ref b1), .val (.ref b3), .val (.int (1 : Int32)), .val (.int (1 : Int32)), .val (.int (1 : Int32))] []))
  refine g_iload X16 hx 200 (hb hby at_198) rfl rfl ?_
  show Go p e below s _ _ _ (T16.setTop (mkF m 200 #[.val (.int x0), .val (.int x1), .val (.int x2), .val (.int x3), .val (.int x4), .val (.int x5), .val (.int (v0_sz x0)), .val (.int (v0_from x0 x1)), .val (.int (v0_p x0 x2)), .val (.int (v0_q x0 x3)), .val (.int (v0_r x0 x4)), .val (.int (v0_t x0 x5)), .val (.ref b1), .val (.ref b3), .val (.int (1 : Int32)), .val (.int (1 : Int32)), .val (.int (1 : Int32))] [(.int (1 : Int32))]))
  have h18 : ¬ ((1 : Int32) = (0 : Int32)) := by decide
  refine g_if0_eq X16 hx 217 203 (hb hby at_200) (by decide) rfl rfl (fun q => absurd q h18) (fun _ => ?_)
  show Go p e below s _ _ _ (T16.setTop (mkF m 203 #[.val (.int x0), .val (.int x1), .val (.int x2), .val (.int x3), .val (.int x4), .val (.int x5), .val (.int (v0_sz x0)), .val (.int (v0_from x0 x1)), .val (.int (v0_p x0 x2)), .val (.int (v0_q x0 x3)), .val (.int (v0_r x0 x4)), .val (.int (v0_t x0 x5)), .val (.ref b1), .val (.ref b3), .val (.int (1 : Int32)), .val (.int (1 : Int32)), .val (.int (1 : Int32))] []))
  refine g_iload X16 hx 205 (hb hby at_203) rfl rfl ?_
  show Go p e below s _ _ _ (T16.setTop (mkF m 205 #[.val (.int x0), .val (.int x1), .val (.int x2), .val (.int x3), .val (.int x4), .val (.int x5), .val (.int (v0_sz x0)), .val (.int (v0_from x0 x1)), .val (.int (v0_p x0 x2)), .val (.int (v0_q x0 x3)), .val (.int (v0_r x0 x4)), .val (.int (v0_t x0 x5)), .val (.ref b1), .val (.ref b3), .val (.int (1 : Int32)), .val (.int (1 : Int32)), .val (.int (1 : Int32))] [(.int (1 : Int32))]))
  have h19 : ¬ ((1 : Int32) = (0 : Int32)) := by decide
  refine g_if0_eq X16 hx 217 208 (hb hby at_205) (by decide) rfl rfl (fun q => absurd q h19) (fun _ => ?_)
  show Go p e below s _ _ _ (T16.setTop (mkF m 208 #[.val (.int x0), .val (.int x1), .val (.int x2), .val (.int x3), .val (.int x4), .val (.int x5), .val (.int (v0_sz x0)), .val (.int (v0_from x0 x1)), .val (.int (v0_p x0 x2)), .val (.int (v0_q x0 x3)), .val (.int (v0_r x0 x4)), .val (.int (v0_t x0 x5)), .val (.ref b1), .val (.ref b3), .val (.int (1 : Int32)), .val (.int (1 : Int32)), .val (.int (1 : Int32))] []))
  refine g_iload X16 hx 210 (hb hby at_208) rfl rfl ?_
  show Go p e below s _ _ _ (T16.setTop (mkF m 210 #[.val (.int x0), .val (.int x1), .val (.int x2), .val (.int x3), .val (.int x4), .val (.int x5), .val (.int (v0_sz x0)), .val (.int (v0_from x0 x1)), .val (.int (v0_p x0 x2)), .val (.int (v0_q x0 x3)), .val (.int (v0_r x0 x4)), .val (.int (v0_t x0 x5)), .val (.ref b1), .val (.ref b3), .val (.int (1 : Int32)), .val (.int (1 : Int32)), .val (.int (1 : Int32))] [(.int (1 : Int32))]))
  have h20 : ¬ ((1 : Int32) = (0 : Int32)) := by decide
  refine g_if0_eq X16 hx 217 213 (hb hby at_210) (by decide) rfl rfl (fun q => absurd q h20) (fun _ => ?_)
  show Go p e below s _ _ _ (T16.setTop (mkF m 213 #[.val (.int x0), .val (.int x1), .val (.int x2), .val (.int x3), .val (.int x4), .val (.int x5), .val (.int (v0_sz x0)), .val (.int (v0_from x0 x1)), .val (.int (v0_p x0 x2)), .val (.int (v0_q x0 x3)), .val (.int (v0_r x0 x4)), .val (.int (v0_t x0 x5)), .val (.ref b1), .val (.ref b3), .val (.int (1 : Int32)), .val (.int (1 : Int32)), .val (.int (1 : Int32))] []))
  refine g_iconst X16 hx (1 : Int32) 214 (hb hby at_213) rfl rfl ?_
  show Go p e below s _ _ _ (T16.setTop (mkF m 214 #[.val (.int x0), .val (.int x1), .val (.int x2), .val (.int x3), .val (.int x4), .val (.int x5), .val (.int (v0_sz x0)), .val (.int (v0_from x0 x1)), .val (.int (v0_p x0 x2)), .val (.int (v0_q x0 x3)), .val (.int (v0_r x0 x4)), .val (.int (v0_t x0 x5)), .val (.ref b1), .val (.ref b3), .val (.int (1 : Int32)), .val (.int (1 : Int32)), .val (.int (1 : Int32))] [(.int (1 : Int32))]))
  refine g_goto X16 hx 218 (hb hby at_214) (by decide) rfl ?_
  show Go p e below s _ _ _ (T16.setTop (mkF m 218 #[.val (.int x0), .val (.int x1), .val (.int x2), .val (.int x3), .val (.int x4), .val (.int x5), .val (.int (v0_sz x0)), .val (.int (v0_from x0 x1)), .val (.int (v0_p x0 x2)), .val (.int (v0_q x0 x3)), .val (.int (v0_r x0 x4)), .val (.int (v0_t x0 x5)), .val (.ref b1), .val (.ref b3), .val (.int (1 : Int32)), .val (.int (1 : Int32)), .val (.int (1 : Int32))] [(.int (1 : Int32))]))
  exact g_retN X16 hx hret (by simp) hlk (hb hby at_218) (by decide) (by decide) ⟨rfl, NS16⟩
set_option maxRecDepth 65536 in
set_option maxHeartbeats 40000000 in
theorem comes_1 {Post : Tables → Env → Array Value → State → Outcome → State → Prop} (hpost : ∀ tb e args s v u, (limb_1_1.after args s (.returned v) u = true ∧ limb_1_2.after args s (.returned v) u = true ∧ True) → FrameEnd s (.returned v) u (Jvm.fieldLocs frame_1_writes args s ++ Jvm.arrayLocs frame_1_arrays args s ++ Jvm.staticLocs frame_1_statics s) 16 128 → Post tb e args s (.returned v) u) :
    ArmFor flags0 classFile x code maxLocals ret World_1 tables_1 room_1 Calls_1 rest_1 Pre_1 Post := by
  intro l hfl _ _ p e ha hc hk s m args below hf hA hF happ hP
  obtain ⟨hcalls, hrest, hpre⟩ := hP
  obtain ⟨-, -, -, hnamed, -, -, -, hat⟩ := (Spec.applies_iff hf).mp happ
  obtain ⟨hg, hn⟩ := and_e (Cond.before_iff.mp (show (Jvm.Cond.and given_1 narrow_1).before args s = true from hpre))
  obtain ⟨g1, g2⟩ := and_e hg
  obtain ⟨g3, g4⟩ := and_e g2
  obtain ⟨g5, g6⟩ := and_e g4
  obtain ⟨g7, g8⟩ := and_e g6
  obtain ⟨g9, g10⟩ := and_e g8
  obtain ⟨g11, g12⟩ := and_e g10
  obtain ⟨w0, w1, w2, w3, w4, w5, rfl⟩ : ∃ w0 w1 w2 w3 w4 w5 : Value, args = #[w0, w1, w2, w3, w4, w5] := by
    have hs : args.size = 6 := by simpa [Cond.value, given_1] using g1
    obtain ⟨L⟩ := args
    match L, hs with
    | [w0, w1, w2, w3, w4, w5], _ => exact ⟨w0, w1, w2, w3, w4, w5, rfl⟩
  have hw := fun d (hd : d ∈ tables_1) => atoms_spec (ws := Jvm.Cond.code x code maxLocals ret :: tables_1) hat d (List.mem_cons_of_mem _ hd)
  obtain ⟨i0, ei0⟩ := is_v g3
  obtain rfl : w0 = (.int i0) := Option.some.inj ei0
  obtain ⟨i1, ei1⟩ := is_v g5
  obtain rfl : w1 = (.int i1) := Option.some.inj ei1
  obtain ⟨i2, ei2⟩ := is_v g7
  obtain rfl : w2 = (.int i2) := Option.some.inj ei2
  obtain ⟨i3, ei3⟩ := is_v g9
  obtain rfl : w3 = (.int i3) := Option.some.inj ei3
  obtain ⟨i4, ei4⟩ := is_v g11
  obtain rfl : w4 = (.int i4) := Option.some.inj ei4
  obtain ⟨i5, ei5⟩ := is_v g12
  obtain rfl : w5 = (.int i5) := Option.some.inj ei5
  obtain ⟨n, o, h1, h2, h3, _, L, rfl, ⟨rfl, N⟩, hq⟩ := rm0 l s _ hw tables_1 i0 i1 i2 i3 i4 i5 s.heap s.heap.size (Nat.le_refl _) p e ha hc hk s m _ below hf ((Spec.applies_iff_loose hf).mp happ).1 ⟨rfl, State.Warmed39.refl s, rfl⟩ trivial
  refine ⟨n, _, h1, h2, h3, hpost _ _ _ _ _ _ ⟨Cond.after_iff.mpr rfl, Cond.after_iff.mpr (eq_i res_at (Term.int_eval (1)) rfl), trivial⟩ ⟨hq.1, hq.2.1, (hq.2.2.sift fun y hy => Or.inr (N y hy)).mono (by decide) (by decide)⟩⟩
theorem main_1_1 : Claimed_1_1 := comes_1 fun _ _ _ _ _ _ h hF => ⟨h.1, hF⟩
theorem main_1_2 : Claimed_1_2 := comes_1 fun _ _ _ _ _ _ h hF => ⟨h.2.1, hF⟩
end Jvm.Pilot.@@N@@
namespace Jvm.Pilot.@@N@@
open Jvm Jvm.ClassFile Sem Op Lib Jvm.Free Jvm.Stand Jvm.Pilot.@@N@@.Jvm.D
/-! MADE BY PROGRAM (witnessworld.py) out of the Statement's table words and the real class files: 11 classes; the members and pool entries that the words name. The judged class is class 1, her method 1. -/
namespace start1
open Jvm.ClassFile
def u (s : String) : CpInfo := .utf8 (stringToUtf16 s)
/-- a pool by its gaps: so many unusable entries, then the entry; so many at the end -/
def gap : Nat → List CpInfo → List CpInfo
  | 0, r => r
  | n + 1, r => .unusable :: gap n r
def poolList (es : List (Nat × CpInfo)) (last : Nat) : List CpInfo := es.foldr (fun e r => gap e.1 (e.2 :: r)) (gap last [])
def pool (es : List (Nat × CpInfo)) (last : Nat) : Array CpInfo := ⟨poolList es last⟩
def fileOf (pool : Array CpInfo) (this : Nat) (attrs : Array Attribute := #[]) (ms : Array MethodInfo := #[]) (fl : Nat := 33) (sup : Nat := 0) (ifs : Array Nat := #[]) (fds : Array FieldInfo := #[]) : ClassFile where
  minorVersion := 0
  majorVersion := 65
  constantPool := pool
  accessFlags := fl
  thisClass := this
  superClass := sup
  interfaces := ifs
  fields := fds
  methods := ms
  attributes := attrs
def plain (name : String) (sup : Option ClassId) : Class where
  name := name
  kind := .ordinary
  loader := none
  accessFlags := 33
  super := sup
  interfaces := #[]
  cf := none
  fields := #[]
  methods := #[]
  instanceTypes := #[]
  staticTypes := #[]
  resolved := #[]
  callSites := []
  init := .initialized
  statics := none
  mirror := none

def pool0 : Array CpInfo := pool [(5, u "<init>"), (0, u "()V"), (1, .class_ 10), (1, u "java/lang/Object")] 113

def k0c0 : Code := { maxStack := 0, maxLocals := 1, code := object_method_1_code, exceptionTable := #[], attributes := #[] }
def k0m0 : Method := { name := "<init>", desc := "()V", sig := { parameters := [], returnType := none }, accessFlags := 1, code := some k0c0 }
/-- java/lang/Object -/
def k0 : Class := { plain "java/lang/Object" none with
  accessFlags := 33
  interfaces := #[]
  cf := some (fileOf pool0 8 #[] #[{ accessFlags := 1, nameIndex := 5, descriptorIndex := 6, attributes := #[] }] 33 0 #[] #[])
  fields := #[]
  methods := #[k0m0]
  instanceTypes := #[]
  staticTypes := #[]
  resolved := Array.replicate 124 none
  statics := none }

def pool1 : Array CpInfo := pool [(2, .class_ 4), (1, u "java/lang/Object"), (0, u "<init>"), (0, u "()V"), (0, .integer 2147483647), (0, .class_ 9), (0, u "com/example/brisk_herald/briskherald/PositionSet"), (0, .methodref 8 11), (0, .nameAndType 5 12), (0, u "(I)V"), (0, .methodref 8 14), (0, .nameAndType 15 12), (0, u "add"), (0, .methodref 8 17), (0, .nameAndType 18 19), (0, u "addFrom"), (0, u "(Lcom/example/brisk_herald/briskherald/PositionSet;I)V"), (0, .methodref 8 21), (0, .nameAndType 22 23), (0, u "contains"), (0, u "(I)Z"), (0, .methodref 25 26), (0, .class_ 27), (0, .nameAndType 28 29), (0, u "com/example/brisk_herald/briskherald/PositionSetAddFromPinLaw"), (0, u "expected"), (0, u "(IIIII)Z"), (2, u "law"), (0, u "(IIIIII)Z")] 3

def k1m0 : Method := { name := "<init>", desc := "()V", sig := { parameters := [], returnType := none }, accessFlags := 1, code := none }
def k1c1 : Code := { maxStack := 6, maxLocals := 17, code := code, exceptionTable := #[], attributes := #[] }
def k1m1 : Method := { name := "law", desc := "(IIIIII)Z", sig := { parameters := [.int, .int, .int, .int, .int, .int], returnType := some .boolean }, accessFlags := 9, code := some k1c1 }
def k1c2 : Code := { maxStack := 2, maxLocals := 5, code := method_3_code, exceptionTable := #[], attributes := #[] }
def k1m2 : Method := { name := "expected", desc := "(IIIII)Z", sig := { parameters := [.int, .int, .int, .int, .int], returnType := some .boolean }, accessFlags := 10, code := some k1c2 }
/-- com/example/brisk_herald/briskherald/PositionSetAddFromPinLaw -/
def k1 : Class := { plain "com/example/brisk_herald/briskherald/PositionSetAddFromPinLaw" (some 0) with
  accessFlags := 49
  interfaces := #[]
  cf := some (fileOf pool1 25 #[] #[{ accessFlags := 1, nameIndex := 5, descriptorIndex := 6, attributes := #[] }, { accessFlags := 9, nameIndex := 32, descriptorIndex := 33, attributes := #[] }, { accessFlags := 10, nameIndex := 28, descriptorIndex := 29, attributes := #[] }] 49 2 #[] #[])
  fields := #[]
  methods := #[k1m0, k1m1, k1m2]
  instanceTypes := #[]
  staticTypes := #[]
  resolved := Array.replicate 37 none
  statics := none }

def pool2 : Array CpInfo := pool [(1, .methodref 2 3), (0, .class_ 4), (0, .nameAndType 5 6), (0, u "java/lang/Object"), (0, u "<init>"), (0, u "()V"), (0, .fieldref 8 9), (0, .class_ 10), (0, .nameAndType 11 12), (0, u "com/example/brisk_herald/briskherald/PositionSet"), (0, u "size"), (0, u "I"), (2, .fieldref 8 16), (0, .nameAndType 17 18), (0, u "bits"), (0, u "[J"), (0, .long 18446744073709551615), (60, u "(I)V"), (2, u "add"), (0, u "contains"), (0, u "(I)Z"), (6, u "addFrom"), (0, u "(Lcom/example/brisk_herald/briskherald/PositionSet;I)V")] 6

def k2c0 : Code := { maxStack := 3, maxLocals := 2, code := prog_23_method_1_code, exceptionTable := #[], attributes := #[] }
def k2m0 : Method := { name := "<init>", desc := "(I)V", sig := { parameters := [.int], returnType := none }, accessFlags := 0, code := some k2c0 }
def k2c1 : Code := { maxStack := 7, maxLocals := 2, code := prog_23_method_2_code, exceptionTable := #[], attributes := #[] }
def k2m1 : Method := { name := "add", desc := "(I)V", sig := { parameters := [.int], returnType := none }, accessFlags := 0, code := some k2c1 }
def k2c2 : Code := { maxStack := 5, maxLocals := 2, code := prog_23_method_3_code, exceptionTable := #[], attributes := #[] }
def k2m2 : Method := { name := "contains", desc := "(I)Z", sig := { parameters := [.int], returnType := some .boolean }, accessFlags := 0, code := some k2c2 }
def k2c3 : Code := { maxStack := 9, maxLocals := 5, code := prog_23_method_6_code, exceptionTable := #[], attributes := #[] }
def k2m3 : Method := { name := "addFrom", desc := "(Lcom/example/brisk_herald/briskherald/PositionSet;I)V", sig := { parameters := [(.object "com/example/brisk_herald/briskherald/PositionSet"), .int], returnType := none }, accessFlags := 0, code := some k2c3 }
/-- com/example/brisk_herald/briskherald/PositionSet -/
def k2 : Class := { plain "com/example/brisk_herald/briskherald/PositionSet" (some 0) with
  accessFlags := 32
  interfaces := #[]
  cf := some (fileOf pool2 8 #[] #[{ accessFlags := 0, nameIndex := 5, descriptorIndex := 80, attributes := #[] }, { accessFlags := 0, nameIndex := 83, descriptorIndex := 80, attributes := #[] }, { accessFlags := 0, nameIndex := 84, descriptorIndex := 85, attributes := #[] }, { accessFlags := 0, nameIndex := 92, descriptorIndex := 93, attributes := #[] }] 32 2 #[] #[{ accessFlags := 18, nameIndex := 11, descriptorIndex := 12, attributes := #[] }, { accessFlags := 18, nameIndex := 17, descriptorIndex := 18, attributes := #[] }])
  fields := #[{ name := "size", type := .int, accessFlags := 18, slot := 0, constantValue := 0 }, { name := "bits", type := (.array .long), accessFlags := 18, slot := 1, constantValue := 0 }]
  methods := #[k2m0, k2m1, k2m2, k2m3]
  instanceTypes := #[.int, (.array .long)]
  staticTypes := #[]
  resolved := Array.replicate 100 none
  statics := none }

def pool3 : Array CpInfo := pool [(1, u "java/lang/Cloneable"), (0, .class_ 1), (0, u "java/lang/Object"), (0, .class_ 3)] 3

/-- java/lang/Cloneable -/
def k3 : Class := { plain "java/lang/Cloneable" (some 0) with
  accessFlags := 1537
  interfaces := #[]
  cf := some (fileOf pool3 2 #[] #[] 1537 4 #[] #[])
  fields := #[]
  methods := #[]
  instanceTypes := #[]
  staticTypes := #[]
  resolved := Array.replicate 8 none
  statics := none }

def pool4 : Array CpInfo := pool [(1, u "java/io/Serializable"), (0, .class_ 1), (0, u "java/lang/Object"), (0, .class_ 3)] 3

/-- java/io/Serializable -/
def k4 : Class := { plain "java/io/Serializable" (some 0) with
  accessFlags := 1537
  interfaces := #[]
  cf := some (fileOf pool4 2 #[] #[] 1537 4 #[] #[])
  fields := #[]
  methods := #[]
  instanceTypes := #[]
  staticTypes := #[]
  resolved := Array.replicate 8 none
  statics := none }

/-- the primitive byte -/
def k5 : Class := { plain "byte" none with kind := .primitive 'B', accessFlags := 0x411 }
/-- [B -/
def k6 : Class := { plain "[B" (some 0) with kind := .array 5 .byte, interfaces := #[3, 4], accessFlags := 1041 }

/-- the primitive int -/
def k7 : Class := { plain "int" none with kind := .primitive 'I', accessFlags := 0x411 }
/-- [I -/
def k8 : Class := { plain "[I" (some 0) with kind := .array 7 .int, interfaces := #[3, 4], accessFlags := 1041 }

/-- the primitive long -/
def k9 : Class := { plain "long" none with kind := .primitive 'J', accessFlags := 0x411 }
/-- [J -/
def k10 : Class := { plain "[J" (some 0) with kind := .array 9 .long, interfaces := #[3, 4], accessFlags := 1041 }

def heap : Heap := #[]
def classes : Array Class := #[k0, k1, k2, k3, k4, k5, k6, k7, k8, k9, k10]
def interned : List (Array UInt16 × Addr) := []
def slotsUsed : Nat := 0
def theMethod : MethodId := ⟨1, 1⟩
def args0 : Array Value := #[.int 2, .int 6, .int 7, .int 8, .int 9, .int 10]
def aboutOver (below : List Frame) : State where
  vm := { classes := classes, interned := interned.toArray }
  heap := heap
  slotsUsed := slotsUsed
  threads := #[{ frames := .invoking theMethod args0 :: below }]
def below0 : List Frame := [.native { method := ⟨0, 0⟩, args := #[] }]
def about1 : State := aboutOver below0
def p0 : Program := .bare "" "" ""
def e0 : Env := launch0.env 0 0 0
theorem w_frames : about1.frames = Frame.invoking theMethod args0 :: below0 := rfl
set_option maxRecDepth 65536 in
theorem w_args : argsFit about1.vm theMethod args0 = true := by decide +kernel
set_option maxRecDepth 65536 in
theorem w_heap : heapFits about1 = true := by decide +kernel
set_option maxRecDepth 65536 in
theorem w_runnable : about1.curStatus? = some .runnable := by decide +kernel
set_option maxRecDepth 65536 in
theorem w_alone : about1.alone = true := by decide +kernel
set_option maxRecDepth 65536 in
theorem w_named : about1.methodNamed? x = some theMethod := by decide +kernel
set_option maxRecDepth 65536 in
theorem w_hears : about1.hears theMethod below0 = true := by decide +kernel
set_option maxRecDepth 65536 in
theorem w_ripe : about1.ripe theMethod args0 below0 = true := by decide +kernel
theorem w_running : about1.status = .running := rfl
set_option maxRecDepth 65536 in
theorem w_room : about1.hasRoom e0.platform room_1 = true :=
  launch0.hasRoom_least _ room_1 (by decide +kernel) (by decide +kernel) (by decide +kernel) (by decide +kernel) (by decide +kernel) (by decide +kernel)
theorem allAtoms_all (ts : List Jvm.Cond) (a : Array Jvm.Value) (st : Jvm.State) : (allAtoms ts).before a st = ts.all (fun c => c.before a st) := by
  induction ts with
  | nil => rfl
  | cons c t ih =>
    show (Jvm.Cond.and c (allAtoms t)).before a st = _
    rw [Jvm.Cond.before_and, ih, List.all_cons]
def words1 : List Jvm.Cond := Jvm.Cond.code x code maxLocals ret :: tables_1
/-- a 'code' word, met by the world's own term for the bytes: nothing is compared byte by byte -/
theorem code_word {y : MethodName} {bytes : ByteArray} {mx : Nat} {rt : Option FieldType} {a : Array Value} {s : State} {m : MethodId} {meth : Method} {c : Code} (h1 : s.methodNamed? y = some m) (h2 : s.vm.method? m = some meth) (h3 : meth.code = some c) (h4 : c.code = bytes)
    (h5 : (c.maxLocals == mx && c.exceptionTable.isEmpty && decide (c.maxStack ≤ mostOperands) && decide (meth.sig.returnType = rt) && !meth.locks && decide (parseMethodDescriptor y.desc = some meth.sig)) = true) : (Jvm.Cond.code y bytes mx rt).before a s = true := by
  simp only [Bool.and_eq_true, beq_iff_eq, Bool.not_eq_true', decide_eq_true_eq] at h5
  obtain ⟨⟨⟨⟨⟨g1, g2⟩, g3⟩, g4⟩, g5⟩, g6⟩ := h5
  simp [Cond.before, Cond.holds, Cond.value, h1, h2, h3, h4, g1, g2, g3, g4, g5, g6]
def isCode : Jvm.Cond → Bool
  | .code _ _ _ _ => true
  | _ => false
theorem all_split {L : List Jvm.Cond} {P : Jvm.Cond → Bool} (h1 : L.all (fun c => isCode c || P c) = true) (h2 : ∀ c ∈ L.filter isCode, P c = true) : L.all P = true := by
  refine List.all_eq_true.mpr fun c hc => ?_
  have h := List.all_eq_true.mp h1 c hc
  rcases Bool.eq_false_or_eq_true (isCode c) with hi | hi
  · exact h2 c (List.mem_filter.mpr ⟨hc, hi⟩)
  · simpa [hi] using h
set_option maxRecDepth 65536 in
theorem w_c0 : (Jvm.Cond.code x code maxLocals ret).before args0 about1 = true := code_word (m := ⟨1, 1⟩) (meth := k1m1) (c := k1c1) (by decide +kernel) rfl rfl rfl (by decide +kernel)
set_option maxRecDepth 65536 in
theorem w_c1 : (Jvm.Cond.code ({ cls := "com/example/brisk_herald/briskherald/PositionSet", name := "<init>", desc := "(I)V" } : Jvm.MethodName) prog_23_method_1_code (2 : Nat) (Option.none : Option Jvm.ClassFile.FieldType)).before args0 about1 = true := code_word (m := ⟨2, 0⟩) (meth := k2m0) (c := k2c0) (by decide +kernel) rfl rfl rfl (by decide +kernel)
set_option maxRecDepth 65536 in
theorem w_c2 : (Jvm.Cond.code ({ cls := "java/lang/Object", name := "<init>", desc := "()V" } : Jvm.MethodName) object_method_1_code (1 : Nat) (Option.none : Option Jvm.ClassFile.FieldType)).before args0 about1 = true := code_word (m := ⟨0, 0⟩) (meth := k0m0) (c := k0c0) (by decide +kernel) rfl rfl rfl (by decide +kernel)
set_option maxRecDepth 65536 in
theorem w_c3 : (Jvm.Cond.code ({ cls := "com/example/brisk_herald/briskherald/PositionSet", name := "add", desc := "(I)V" } : Jvm.MethodName) prog_23_method_2_code (2 : Nat) (Option.none : Option Jvm.ClassFile.FieldType)).before args0 about1 = true := code_word (m := ⟨2, 1⟩) (meth := k2m1) (c := k2c1) (by decide +kernel) rfl rfl rfl (by decide +kernel)
set_option maxRecDepth 65536 in
theorem w_c4 : (Jvm.Cond.code ({ cls := "com/example/brisk_herald/briskherald/PositionSet", name := "addFrom", desc := "(Lcom/example/brisk_herald/briskherald/PositionSet;I)V" } : Jvm.MethodName) prog_23_method_6_code (5 : Nat) (Option.none : Option Jvm.ClassFile.FieldType)).before args0 about1 = true := code_word (m := ⟨2, 3⟩) (meth := k2m3) (c := k2c3) (by decide +kernel) rfl rfl rfl (by decide +kernel)
set_option maxRecDepth 65536 in
theorem w_c5 : (Jvm.Cond.code ({ cls := "com/example/brisk_herald/briskherald/PositionSet", name := "contains", desc := "(I)Z" } : Jvm.MethodName) prog_23_method_3_code (2 : Nat) (Option.some Jvm.ClassFile.FieldType.boolean)).before args0 about1 = true := code_word (m := ⟨2, 2⟩) (meth := k2m2) (c := k2c2) (by decide +kernel) rfl rfl rfl (by decide +kernel)
set_option maxRecDepth 65536 in
theorem w_c6 : (Jvm.Cond.code ({ cls := "com/example/brisk_herald/briskherald/PositionSetAddFromPinLaw", name := "expected", desc := "(IIIII)Z" } : Jvm.MethodName) method_3_code (5 : Nat) (Option.some Jvm.ClassFile.FieldType.boolean)).before args0 about1 = true := code_word (m := ⟨1, 2⟩) (meth := k1m2) (c := k1c2) (by decide +kernel) rfl rfl rfl (by decide +kernel)
def codes1 : List Jvm.Cond := [Jvm.Cond.code x code maxLocals ret, Jvm.Cond.code ({ cls := "com/example/brisk_herald/briskherald/PositionSet", name := "<init>", desc := "(I)V" } : Jvm.MethodName) prog_23_method_1_code (2 : Nat) (Option.none : Option Jvm.ClassFile.FieldType), Jvm.Cond.code ({ cls := "java/lang/Object", name := "<init>", desc := "()V" } : Jvm.MethodName) object_method_1_code (1 : Nat) (Option.none : Option Jvm.ClassFile.FieldType), Jvm.Cond.code ({ cls := "com/example/brisk_herald/briskherald/PositionSet", name := "add", desc := "(I)V" } : Jvm.MethodName) prog_23_method_2_code (2 : Nat) (Option.none : Option Jvm.ClassFile.FieldType), Jvm.Cond.code ({ cls := "com/example/brisk_herald/briskherald/PositionSet", name := "addFrom", desc := "(Lcom/example/brisk_herald/briskherald/PositionSet;I)V" } : Jvm.MethodName) prog_23_method_6_code (5 : Nat) (Option.none : Option Jvm.ClassFile.FieldType), Jvm.Cond.code ({ cls := "com/example/brisk_herald/briskherald/PositionSet", name := "contains", desc := "(I)Z" } : Jvm.MethodName) prog_23_method_3_code (2 : Nat) (Option.some Jvm.ClassFile.FieldType.boolean), Jvm.Cond.code ({ cls := "com/example/brisk_herald/briskherald/PositionSetAddFromPinLaw", name := "expected", desc := "(IIIII)Z" } : Jvm.MethodName) method_3_code (5 : Nat) (Option.some Jvm.ClassFile.FieldType.boolean)]
set_option maxRecDepth 65536 in
theorem codes_eq : words1.filter isCode = codes1 := rfl
theorem w_codes : ∀ c ∈ words1.filter isCode, c.before args0 about1 = true := by
  rw [codes_eq]
  intro c hc
  simp only [codes1, List.mem_cons, List.not_mem_nil, or_false] at hc
  rcases hc with rfl | rfl | rfl | rfl | rfl | rfl | rfl
  · exact w_c0
  · exact w_c1
  · exact w_c2
  · exact w_c3
  · exact w_c4
  · exact w_c5
  · exact w_c6
set_option maxRecDepth 65536 in
theorem w_t1 : (words1.take 24).all (fun c => isCode c || c.before args0 about1) = true := by decide +kernel
set_option maxRecDepth 65536 in
theorem w_t2 : (words1.drop 24).all (fun c => isCode c || c.before args0 about1) = true := by decide +kernel
theorem w_tables : (allAtoms (Jvm.Cond.code x code maxLocals ret :: tables_1)).before args0 about1 = true := by
  rw [allAtoms_all]
  show words1.all (fun c => c.before args0 about1) = true
  refine all_split ?_ w_codes
  rw [← List.take_append_drop 24 words1, List.all_append, w_t1, w_t2]
  rfl
set_option maxRecDepth 65536 in
theorem w_case : (Jvm.Cond.and given_1 narrow_1).before args0 about1 = true := by decide +kernel
theorem w_applies : (headSpec (Jvm.Cond.code x code maxLocals ret :: tables_1) room_1).applies x e0.platform about1 = true :=
  (Spec.applies_iff w_frames).mpr ⟨w_running, w_runnable, w_alone, w_named, w_hears, w_ripe, w_room, w_tables⟩
theorem atStart : AtStart classFile x code maxLocals ret World_1 tables_1 room_1 Calls_1 rest_1 Pre_1 launch0 p0 e0 about1 theMethod args0 below0 :=
  ⟨lists_1, trivial, launch0.admits_env _ _ _, launch0.least_env, fairChoices_fair.cas, fairChoices_fair.clock, w_frames, w_args, w_heap, w_applies, trivial, trivial, w_case⟩
end start1
theorem witness_1 : WitnessClaimed_1 := ⟨start1.p0, start1.e0, start1.about1, start1.theMethod, start1.args0, start1.below0, start1.atStart⟩
end Jvm.Pilot.@@N@@
