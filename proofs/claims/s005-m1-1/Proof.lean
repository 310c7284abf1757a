import JvmDerived
import JvmDerived.Pilot.@@N@@Statement
import JvmDerived.Pilot.@@N@@Code
set_option linter.unusedVariables false
set_option linter.unusedSimpArgs false
namespace Jvm.Wk
open Sem ClassFile Op Lib Jvm.Stand Jvm.Free Jvm.LawKit Jvm.RoadKit
section W
variable {p : Program} {l : Launch} {e : Env} {R : Room} {s : State} {m : MethodId} {args : Array Value} {below : List Frame} {meth : Method} {c : Code} {T T' : State} {locs : List Loc} {cells slots : Nat} {Q : Option Value → Heap → List Loc → Prop} {K N pc n t : Nat} {Ls l' : Array Slot} {st rest : List Value} {Z : State} {a0 : Array Value} {h : Heap}
/-- the walk stands at the frame g over T and comes to an end that Q allows -/
def Go (p : Program) (e : Env) (below : List Frame) (s : State) (Q : Option Value → Heap → List Loc → Prop) (K N : Nat) (T : State) (g : JFrame) : Prop :=
  ∃ s₂ o, Steps p.tables e below (T.setTop g) s₂ ∧ s₂.status = .running ∧ Ended s₂ below o ∧ ∃ v L, o = .returned v ∧ Q v s₂.heap L ∧ FrameEnd s o s₂ L K N
theorem cut {A B : Prop} (h1 : A → B) (h2 : A) : B := h1 h2
theorem go {g g' : JFrame} (h : ∀ target, Steps p.tables e below (T'.setTop g') target → Steps p.tables e below (T.setTop g) target) (F : Go p e below s Q K N T' g') : Go p e below s Q K N T g := by
  obtain ⟨s₂, o, h1, r⟩ := F
  exact ⟨s₂, o, h _ h1, r⟩
/-- a boolean as an int -/
def b (P : Prop) [Decidable P] : Int32 := if P then 1 else 0
theorem b_t {P : Prop} [Decidable P] (h : P) : b P = 1 := if_pos h
theorem b_f {P : Prop} [Decidable P] (h : ¬ P) : b P = 0 := if_neg h
theorem b_iff {P P' : Prop} [Decidable P] [Decidable P'] (h : P ↔ P') : b P = b P' := by
  by_cases q : P
  · rw [b_t q, b_t (h.mp q)]
  · rw [b_f q, b_f (fun z => q (h.mpr z))]
theorem b_inj {P P' : Prop} [Decidable P] [Decidable P'] (h : b P = b P') : P ↔ P' := by
  by_cases q : P <;> by_cases q' : P' <;> simp_all [b]
/-- a mask with one more bit, or as it is -/
def ob (P : Prop) [Decidable P] (k x : Int32) : Int32 := if P then x ||| k else x
theorem ob_t {P : Prop} [Decidable P] {k x : Int32} (h : P) : ob P k x = x ||| k := if_pos h
theorem ob_f {P : Prop} [Decidable P] {k x : Int32} (h : ¬ P) : ob P k x = x := if_neg h
theorem goB1 {P : Prop} [Decidable P] (H : Go p e below s Q K N T (mkF m pc Ls (.int (b P) :: st))) (hP : P) : Go p e below s Q K N T (mkF m pc Ls (.int 1 :: st)) := by rw [b_t hP] at H; exact H
theorem goB0 {P : Prop} [Decidable P] (H : Go p e below s Q K N T (mkF m pc Ls (.int (b P) :: st))) (hP : ¬ P) : Go p e below s Q K N T (mkF m pc Ls (.int 0 :: st)) := by rw [b_f hP] at H; exact H

theorem iloadN (X : Stand p l e R s m args below meth c T locs cells slots) (hx : p.tables.exec = Jvm.exec) {k : Fin 4} {v : Int32} (hd : decode c.code pc = .ok (.iload_n k, 1)) (hl : Ls[k.val]? = some (.val (.int v))) (hn : pc + 1 = n) (F : Go p e below s Q K N T (mkF m n Ls (.int v :: st))) : Go p e below s Q K N T (mkF m pc Ls st) := by
  subst hn
  exact go (fun _ h => XS.iloadN X.here hx rfl hd hl h) F
theorem iload (X : Stand p l e R s m args below meth c T locs cells slots) (hx : p.tables.exec = Jvm.exec) {k : Nat} {v : Int32} (hd : decode c.code pc = .ok (.iload k, 2)) (hl : Ls[k]? = some (.val (.int v))) (hn : pc + 2 = n) (F : Go p e below s Q K N T (mkF m n Ls (.int v :: st))) : Go p e below s Q K N T (mkF m pc Ls st) := by
  subst hn
  exact go (fun _ h => XS.iload X.here hx rfl hd hl h) F
theorem aloadN (X : Stand p l e R s m args below meth c T locs cells slots) (hx : p.tables.exec = Jvm.exec) {k : Fin 4} {v : Value} (hd : decode c.code pc = .ok (.aload_n k, 1)) (hl : Ls[k.val]? = some (.val v)) (hv : v.isRef = true) (hn : pc + 1 = n) (F : Go p e below s Q K N T (mkF m n Ls (v :: st))) : Go p e below s Q K N T (mkF m pc Ls st) := by
  subst hn
  exact go (fun _ h => XS.aloadN X.here hx rfl hd hl hv h) F
theorem aload (X : Stand p l e R s m args below meth c T locs cells slots) (hx : p.tables.exec = Jvm.exec) {k : Nat} {v : Value} (hd : decode c.code pc = .ok (.aload k, 2)) (hl : Ls[k]? = some (.val v)) (hv : v.isRef = true) (hn : pc + 2 = n) (F : Go p e below s Q K N T (mkF m n Ls (v :: st))) : Go p e below s Q K N T (mkF m pc Ls st) := by
  subst hn
  exact go (fun _ h => XS.aload X.here hx rfl hd hl hv h) F
theorem lloadN (X : Stand p l e R s m args below meth c T locs cells slots) (hx : p.tables.exec = Jvm.exec) {k : Fin 4} {v : Int64} (hd : decode c.code pc = .ok (.lload_n k, 1)) (hl : Ls[k.val]? = some (.val (.long v))) (hn : pc + 1 = n) (F : Go p e below s Q K N T (mkF m n Ls (.long v :: st))) : Go p e below s Q K N T (mkF m pc Ls st) := by
  subst hn
  exact go (fun _ h => XT.lloadN X.here hx rfl hd hl h) F
theorem lload (X : Stand p l e R s m args below meth c T locs cells slots) (hx : p.tables.exec = Jvm.exec) {k : Nat} {v : Int64} (hd : decode c.code pc = .ok (.lload k, 2)) (hl : Ls[k]? = some (.val (.long v))) (hn : pc + 2 = n) (F : Go p e below s Q K N T (mkF m n Ls (.long v :: st))) : Go p e below s Q K N T (mkF m pc Ls st) := by
  subst hn
  exact go (fun _ h => XT.lload X.here hx rfl hd hl h) F
theorem istoreN (X : Stand p l e R s m args below meth c T locs cells slots) (hx : p.tables.exec = Jvm.exec) {k : Fin 4} {x : Int32} (hd : decode c.code pc = .ok (.istore_n k, 1)) (hl : storeLocals Ls k.val (.int x) = some l') (hn : pc + 1 = n) (F : Go p e below s Q K N T (mkF m n l' st)) : Go p e below s Q K N T (mkF m pc Ls (.int x :: st)) := by
  subst hn
  exact go (fun _ h => XS.istoreN X.here hx rfl hd rfl hl h) F
theorem istore (X : Stand p l e R s m args below meth c T locs cells slots) (hx : p.tables.exec = Jvm.exec) {k : Nat} {x : Int32} (hd : decode c.code pc = .ok (.istore k, 2)) (hl : storeLocals Ls k (.int x) = some l') (hn : pc + 2 = n) (F : Go p e below s Q K N T (mkF m n l' st)) : Go p e below s Q K N T (mkF m pc Ls (.int x :: st)) := by
  subst hn
  exact go (fun _ h => XS.istore X.here hx rfl hd rfl hl h) F
theorem astoreN (X : Stand p l e R s m args below meth c T locs cells slots) (hx : p.tables.exec = Jvm.exec) {k : Fin 4} {x : Value} (hd : decode c.code pc = .ok (.astore_n k, 1)) (hv : x.isRef = true) (hl : storeLocals Ls k.val x = some l') (hn : pc + 1 = n) (F : Go p e below s Q K N T (mkF m n l' st)) : Go p e below s Q K N T (mkF m pc Ls (x :: st)) := by
  subst hn
  exact go (fun _ h => XS.astoreN X.here hx rfl hd rfl hv hl h) F
theorem astore (X : Stand p l e R s m args below meth c T locs cells slots) (hx : p.tables.exec = Jvm.exec) {k : Nat} {x : Value} (hd : decode c.code pc = .ok (.astore k, 2)) (hv : x.isRef = true) (hl : storeLocals Ls k x = some l') (hn : pc + 2 = n) (F : Go p e below s Q K N T (mkF m n l' st)) : Go p e below s Q K N T (mkF m pc Ls (x :: st)) := by
  subst hn
  exact go (fun _ h => XS.astore X.here hx rfl hd rfl hv hl h) F
theorem lstoreN (X : Stand p l e R s m args below meth c T locs cells slots) (hx : p.tables.exec = Jvm.exec) {k : Fin 4} {x : Int64} (hd : decode c.code pc = .ok (.lstore_n k, 1)) (hl : storeLocals Ls k.val (.long x) = some l') (hn : pc + 1 = n) (F : Go p e below s Q K N T (mkF m n l' st)) : Go p e below s Q K N T (mkF m pc Ls (.long x :: st)) := by
  subst hn
  exact go (fun _ h => XT.lstoreN X.here hx rfl hd rfl hl h) F
theorem lstore (X : Stand p l e R s m args below meth c T locs cells slots) (hx : p.tables.exec = Jvm.exec) {k : Nat} {x : Int64} (hd : decode c.code pc = .ok (.lstore k, 2)) (hl : storeLocals Ls k (.long x) = some l') (hn : pc + 2 = n) (F : Go p e below s Q K N T (mkF m n l' st)) : Go p e below s Q K N T (mkF m pc Ls (.long x :: st)) := by
  subst hn
  exact go (fun _ h => XT.lstore X.here hx rfl hd rfl hl h) F
theorem iinc (X : Stand p l e R s m args below meth c T locs cells slots) (hx : p.tables.exec = Jvm.exec) {k : Nat} {cst : Int} {x : Int32} (v : Int32) (hd : decode c.code pc = .ok (.iinc k cst, 3)) (hv : Int32.ofInt cst = v) (hl : Ls[k]? = some (.val (.int x))) (hl' : storeLocals Ls k (.int (x + v)) = some l') (hn : pc + 3 = n) (F : Go p e below s Q K N T (mkF m n l' st)) : Go p e below s Q K N T (mkF m pc Ls st) := by
  subst hn
  exact go (fun _ h => XT.iincV X.here hx rfl v hd hv hl hl' h) F
theorem iconst (X : Stand p l e R s m args below meth c T locs cells slots) (hx : p.tables.exec = Jvm.exec) {i : Int} (v : Int32) (hd : decode c.code pc = .ok (.iconst i, 1)) (hv : Int32.ofInt i = v) (hn : pc + 1 = n) (F : Go p e below s Q K N T (mkF m n Ls (.int v :: st))) : Go p e below s Q K N T (mkF m pc Ls st) := by
  subst hn
  exact go (fun _ h => XT.iconstV X.here hx rfl v hd hv h) F
theorem bipush (X : Stand p l e R s m args below meth c T locs cells slots) (hx : p.tables.exec = Jvm.exec) {i : Int} (v : Int32) (hd : decode c.code pc = .ok (.bipush i, 2)) (hv : (Int8.ofInt i).toInt32 = v) (hn : pc + 2 = n) (F : Go p e below s Q K N T (mkF m n Ls (.int v :: st))) : Go p e below s Q K N T (mkF m pc Ls st) := by
  subst hn
  exact go (fun _ h => XT.bipushV X.here hx rfl v hd hv h) F
theorem sipush (X : Stand p l e R s m args below meth c T locs cells slots) (hx : p.tables.exec = Jvm.exec) {i : Int} (v : Int32) (hd : decode c.code pc = .ok (.sipush i, 3)) (hv : (Int16.ofInt i).toInt32 = v) (hn : pc + 3 = n) (F : Go p e below s Q K N T (mkF m n Ls (.int v :: st))) : Go p e below s Q K N T (mkF m pc Ls st) := by
  subst hn
  exact go (fun _ h => XT.sipushV X.here hx rfl v hd hv h) F
theorem lconst (X : Stand p l e R s m args below meth c T locs cells slots) (hx : p.tables.exec = Jvm.exec) {k : Fin 2} (v : Int64) (hd : decode c.code pc = .ok (.lconst k, 1)) (hv : Int64.ofNat k = v) (hn : pc + 1 = n) (F : Go p e below s Q K N T (mkF m n Ls (.long v :: st))) : Go p e below s Q K N T (mkF m pc Ls st) := by
  subst hn
  exact go (fun _ h => XT.lconstV X.here hx rfl v hd hv h) F
theorem anull (X : Stand p l e R s m args below meth c T locs cells slots) (hx : p.tables.exec = Jvm.exec)  (hd : decode c.code pc = .ok (.aconst_null, 1)) (hn : pc + 1 = n) (F : Go p e below s Q K N T (mkF m n Ls (.null :: st))) : Go p e below s Q K N T (mkF m pc Ls st) := by
  subst hn
  exact go (fun _ h => XS.aconstNull X.here hx rfl hd h) F
theorem ldcI (X : Stand p l e R s m args below meth c T locs cells slots) (hx : p.tables.exec = Jvm.exec) {own : String} {index : Nat} {v : Int32} (hZ : Z.Warmed39 s.vm) (hown : s.vm.findClass own = some m.cls) (wd : (Cond.constant own index v).before a0 Z = true) (hd : decode c.code pc = .ok (.ldc index, 2)) (hn : pc + 2 = n) (F : Go p e below s Q K N T (mkF m n Ls (.int v :: st))) : Go p e below s Q K N T (mkF m pc Ls st) := by
  subst hn
  exact go (fun _ h => X.ldcInt hx hown (mvT hZ wd) (g := mkF m pc Ls st) rfl hd _ h) F
theorem ldcW (X : Stand p l e R s m args below meth c T locs cells slots) (hx : p.tables.exec = Jvm.exec) {own : String} {index : Nat} {v : Int32} (hZ : Z.Warmed39 s.vm) (hown : s.vm.findClass own = some m.cls) (wd : (Cond.constant own index v).before a0 Z = true) (hd : decode c.code pc = .ok (.ldc_w index, 3)) (hn : pc + 3 = n) (F : Go p e below s Q K N T (mkF m n Ls (.int v :: st))) : Go p e below s Q K N T (mkF m pc Ls st) := by
  subst hn
  exact go (fun _ h => X.ldcwInt hx hown (mvT hZ wd) (g := mkF m pc Ls st) rfl hd _ h) F
theorem ldcJ (X : Stand p l e R s m args below meth c T locs cells slots) (hx : p.tables.exec = Jvm.exec) {own : String} {index : Nat} {v : Int64} (hZ : Z.Warmed39 s.vm) (hown : s.vm.findClass own = some m.cls) (wd : (Cond.constantLong own index v).before a0 Z = true) (hd : decode c.code pc = .ok (.ldc2_w index, 3)) (hn : pc + 3 = n) (F : Go p e below s Q K N T (mkF m n Ls (.long v :: st))) : Go p e below s Q K N T (mkF m pc Ls st) := by
  subst hn
  exact go (fun _ h => X.ldc2Long hx hown (mvT hZ wd) (g := mkF m pc Ls st) rfl hd _ h) F
theorem iadd (X : Stand p l e R s m args below meth c T locs cells slots) (hx : p.tables.exec = Jvm.exec) {x y : Int32} (hd : decode c.code pc = .ok (.iadd, 1)) (hn : pc + 1 = n) (F : Go p e below s Q K N T (mkF m n Ls (.int (x + y) :: st))) : Go p e below s Q K N T (mkF m pc Ls (.int y :: .int x :: st)) := by
  subst hn
  exact go (fun _ h => XS.iadd X.here hx rfl hd rfl h) F
theorem isub (X : Stand p l e R s m args below meth c T locs cells slots) (hx : p.tables.exec = Jvm.exec) {x y : Int32} (hd : decode c.code pc = .ok (.isub, 1)) (hn : pc + 1 = n) (F : Go p e below s Q K N T (mkF m n Ls (.int (x - y) :: st))) : Go p e below s Q K N T (mkF m pc Ls (.int y :: .int x :: st)) := by
  subst hn
  exact go (fun _ h => XS.isub X.here hx rfl hd rfl h) F
theorem iand (X : Stand p l e R s m args below meth c T locs cells slots) (hx : p.tables.exec = Jvm.exec) {x y : Int32} (hd : decode c.code pc = .ok (.iand, 1)) (hn : pc + 1 = n) (F : Go p e below s Q K N T (mkF m n Ls (.int (x &&& y) :: st))) : Go p e below s Q K N T (mkF m pc Ls (.int y :: .int x :: st)) := by
  subst hn
  exact go (fun _ h => XS.iand X.here hx rfl hd rfl h) F
theorem imul (X : Stand p l e R s m args below meth c T locs cells slots) (hx : p.tables.exec = Jvm.exec) {x y : Int32} (hd : decode c.code pc = .ok (.imul, 1)) (hn : pc + 1 = n) (F : Go p e below s Q K N T (mkF m n Ls (.int (x * y) :: st))) : Go p e below s Q K N T (mkF m pc Ls (.int y :: .int x :: st)) := by
  subst hn
  exact go (fun _ h => XS.imul X.here hx rfl hd rfl h) F
theorem ixor (X : Stand p l e R s m args below meth c T locs cells slots) (hx : p.tables.exec = Jvm.exec) {x y : Int32} (hd : decode c.code pc = .ok (.ixor, 1)) (hn : pc + 1 = n) (F : Go p e below s Q K N T (mkF m n Ls (.int (x ^^^ y) :: st))) : Go p e below s Q K N T (mkF m pc Ls (.int y :: .int x :: st)) := by
  subst hn
  exact go (fun _ h => XT.ixor X.here hx rfl hd rfl h) F
theorem ior (X : Stand p l e R s m args below meth c T locs cells slots) (hx : p.tables.exec = Jvm.exec) {x y : Int32} (hd : decode c.code pc = .ok (.ior, 1)) (hn : pc + 1 = n) (F : Go p e below s Q K N T (mkF m n Ls (.int (x ||| y) :: st))) : Go p e below s Q K N T (mkF m pc Ls (.int y :: .int x :: st)) := by
  subst hn
  exact go (fun _ h => XT.ior X.here hx rfl hd rfl h) F
theorem i2c (X : Stand p l e R s m args below meth c T locs cells slots) (hx : p.tables.exec = Jvm.exec) {x : Int32} (hd : decode c.code pc = .ok (.i2c, 1)) (hn : pc + 1 = n) (F : Go p e below s Q K N T (mkF m n Ls (.int x.toUInt32.toUInt16.toUInt32.toInt32 :: st))) : Go p e below s Q K N T (mkF m pc Ls (.int x :: st)) := by
  subst hn
  exact go (fun _ h => XT.i2c X.here hx rfl hd rfl h) F
theorem i2b (X : Stand p l e R s m args below meth c T locs cells slots) (hx : p.tables.exec = Jvm.exec) {x : Int32} (hd : decode c.code pc = .ok (.i2b, 1)) (hn : pc + 1 = n) (F : Go p e below s Q K N T (mkF m n Ls (.int x.toInt8.toInt32 :: st))) : Go p e below s Q K N T (mkF m pc Ls (.int x :: st)) := by
  subst hn
  exact go (fun _ h => XT.i2b X.here hx rfl hd rfl h) F
theorem i2l (X : Stand p l e R s m args below meth c T locs cells slots) (hx : p.tables.exec = Jvm.exec) {x : Int32} (hd : decode c.code pc = .ok (.i2l, 1)) (hn : pc + 1 = n) (F : Go p e below s Q K N T (mkF m n Ls (.long x.toInt64 :: st))) : Go p e below s Q K N T (mkF m pc Ls (.int x :: st)) := by
  subst hn
  exact go (fun _ h => XT.i2l X.here hx rfl hd rfl h) F
theorem l2i (X : Stand p l e R s m args below meth c T locs cells slots) (hx : p.tables.exec = Jvm.exec) {x : Int64} (hd : decode c.code pc = .ok (.l2i, 1)) (hn : pc + 1 = n) (F : Go p e below s Q K N T (mkF m n Ls (.int x.toInt32 :: st))) : Go p e below s Q K N T (mkF m pc Ls (.long x :: st)) := by
  subst hn
  exact go (fun _ h => XT.l2i X.here hx rfl hd rfl h) F
theorem ladd (X : Stand p l e R s m args below meth c T locs cells slots) (hx : p.tables.exec = Jvm.exec) {x y : Int64} (hd : decode c.code pc = .ok (.ladd, 1)) (hn : pc + 1 = n) (F : Go p e below s Q K N T (mkF m n Ls (.long (x + y) :: st))) : Go p e below s Q K N T (mkF m pc Ls (.long y :: .long x :: st)) := by
  subst hn
  exact go (fun _ h => XT.ladd X.here hx rfl hd rfl h) F
theorem lsub (X : Stand p l e R s m args below meth c T locs cells slots) (hx : p.tables.exec = Jvm.exec) {x y : Int64} (hd : decode c.code pc = .ok (.lsub, 1)) (hn : pc + 1 = n) (F : Go p e below s Q K N T (mkF m n Ls (.long (x - y) :: st))) : Go p e below s Q K N T (mkF m pc Ls (.long y :: .long x :: st)) := by
  subst hn
  exact go (fun _ h => XT.lsub X.here hx rfl hd rfl h) F
theorem lmul (X : Stand p l e R s m args below meth c T locs cells slots) (hx : p.tables.exec = Jvm.exec) {x y : Int64} (hd : decode c.code pc = .ok (.lmul, 1)) (hn : pc + 1 = n) (F : Go p e below s Q K N T (mkF m n Ls (.long (x * y) :: st))) : Go p e below s Q K N T (mkF m pc Ls (.long y :: .long x :: st)) := by
  subst hn
  exact go (fun _ h => XT.lmul X.here hx rfl hd rfl h) F
theorem land (X : Stand p l e R s m args below meth c T locs cells slots) (hx : p.tables.exec = Jvm.exec) {x y : Int64} (hd : decode c.code pc = .ok (.land, 1)) (hn : pc + 1 = n) (F : Go p e below s Q K N T (mkF m n Ls (.long (x &&& y) :: st))) : Go p e below s Q K N T (mkF m pc Ls (.long y :: .long x :: st)) := by
  subst hn
  exact go (fun _ h => XT.land X.here hx rfl hd rfl h) F
theorem lor (X : Stand p l e R s m args below meth c T locs cells slots) (hx : p.tables.exec = Jvm.exec) {x y : Int64} (hd : decode c.code pc = .ok (.lor, 1)) (hn : pc + 1 = n) (F : Go p e below s Q K N T (mkF m n Ls (.long (x ||| y) :: st))) : Go p e below s Q K N T (mkF m pc Ls (.long y :: .long x :: st)) := by
  subst hn
  exact go (fun _ h => XT.lor X.here hx rfl hd rfl h) F
theorem lxor (X : Stand p l e R s m args below meth c T locs cells slots) (hx : p.tables.exec = Jvm.exec) {x y : Int64} (hd : decode c.code pc = .ok (.lxor, 1)) (hn : pc + 1 = n) (F : Go p e below s Q K N T (mkF m n Ls (.long (x ^^^ y) :: st))) : Go p e below s Q K N T (mkF m pc Ls (.long y :: .long x :: st)) := by
  subst hn
  exact go (fun _ h => XT.lxor X.here hx rfl hd rfl h) F
theorem irem (X : Stand p l e R s m args below meth c T locs cells slots) (hx : p.tables.exec = Jvm.exec) {x y : Int32} (hd : decode c.code pc = .ok (.irem, 1)) (hy : y ≠ 0) (hn : pc + 1 = n) (F : Go p e below s Q K N T (mkF m n Ls (.int (x % y) :: st))) : Go p e below s Q K N T (mkF m pc Ls (.int y :: .int x :: st)) := by
  subst hn
  exact go (fun _ h => iremM X hx rfl hd rfl hy h) F
theorem idiv (X : Stand p l e R s m args below meth c T locs cells slots) (hx : p.tables.exec = Jvm.exec) {x y : Int32} (hd : decode c.code pc = .ok (.idiv, 1)) (hy : y ≠ 0) (hn : pc + 1 = n) (F : Go p e below s Q K N T (mkF m n Ls (.int (x / y) :: st))) : Go p e below s Q K N T (mkF m pc Ls (.int y :: .int x :: st)) := by
  subst hn
  exact go (fun _ h => XS.idiv X.here hx rfl hd rfl hy h) F
theorem dup (X : Stand p l e R s m args below meth c T locs cells slots) (hx : p.tables.exec = Jvm.exec) {x : Value} (hd : decode c.code pc = .ok (.dup, 1)) (hc : x.category = 1) (hn : pc + 1 = n) (F : Go p e below s Q K N T (mkF m n Ls (x :: x :: st))) : Go p e below s Q K N T (mkF m pc Ls (x :: st)) := by
  subst hn
  exact go (fun _ h => XS.dup X.here hx rfl hd rfl hc h) F
theorem pop (X : Stand p l e R s m args below meth c T locs cells slots) (hx : p.tables.exec = Jvm.exec) {x : Value} (hd : decode c.code pc = .ok (.pop, 1)) (hc : x.category = 1) (hn : pc + 1 = n) (F : Go p e below s Q K N T (mkF m n Ls st)) : Go p e below s Q K N T (mkF m pc Ls (x :: st)) := by
  subst hn
  exact go (fun _ h => XT.pop X.here hx rfl hd rfl hc h) F
theorem pop2L (X : Stand p l e R s m args below meth c T locs cells slots) (hx : p.tables.exec = Jvm.exec) {x : Int64} (hd : decode c.code pc = .ok (.pop2, 1)) (hn : pc + 1 = n) (F : Go p e below s Q K N T (mkF m n Ls st)) : Go p e below s Q K N T (mkF m pc Ls (.long x :: st)) := by
  subst hn
  refine go (fun _ h => ?_) F
  have ht := X.here
  jvm_step ht [ht.top, hx, hd, Value.category]
  exact h
theorem lshl (X : Stand p l e R s m args below meth c T locs cells slots) (hx : p.tables.exec = Jvm.exec) {x : Int64} {y : Int32} (hd : decode c.code pc = .ok (.lshl, 1)) (hn : pc + 1 = n) (F : Go p e below s Q K N T (mkF m n Ls (.long (x <<< (y.toInt64 &&& 63)) :: st))) : Go p e below s Q K N T (mkF m pc Ls (.int y :: .long x :: st)) := by
  subst hn
  exact go (fun _ h => XT.lshl X.here hx rfl hd rfl h) F
theorem lushr (X : Stand p l e R s m args below meth c T locs cells slots) (hx : p.tables.exec = Jvm.exec) {x : Int64} {y : Int32} (hd : decode c.code pc = .ok (.lushr, 1)) (hn : pc + 1 = n) (F : Go p e below s Q K N T (mkF m n Ls (.long (XT.ushrL x y) :: st))) : Go p e below s Q K N T (mkF m pc Ls (.int y :: .long x :: st)) := by
  subst hn
  exact go (fun _ h => XT.lushr X.here hx rfl hd rfl h) F
theorem iushr (X : Stand p l e R s m args below meth c T locs cells slots) (hx : p.tables.exec = Jvm.exec) {x y : Int32} (hd : decode c.code pc = .ok (.iushr, 1)) (hn : pc + 1 = n) (F : Go p e below s Q K N T (mkF m n Ls (.int (XT.ushr x y) :: st))) : Go p e below s Q K N T (mkF m pc Ls (.int y :: .int x :: st)) := by
  subst hn
  exact go (fun _ h => XT.iushr X.here hx rfl hd rfl h) F
theorem ishr (X : Stand p l e R s m args below meth c T locs cells slots) (hx : p.tables.exec = Jvm.exec) {x y : Int32} (hd : decode c.code pc = .ok (.ishr, 1)) (hn : pc + 1 = n) (F : Go p e below s Q K N T (mkF m n Ls (.int (x >>> (y &&& 31)) :: st))) : Go p e below s Q K N T (mkF m pc Ls (.int y :: .int x :: st)) := by
  subst hn
  exact go (fun _ h => XT.ishr X.here hx rfl hd rfl h) F
theorem ishl (X : Stand p l e R s m args below meth c T locs cells slots) (hx : p.tables.exec = Jvm.exec) {x y : Int32} (hd : decode c.code pc = .ok (.ishl, 1)) (hn : pc + 1 = n) (F : Go p e below s Q K N T (mkF m n Ls (.int (x <<< (y &&& 31)) :: st))) : Go p e below s Q K N T (mkF m pc Ls (.int y :: .int x :: st)) := by
  subst hn
  exact go (fun _ h => XT.ishl X.here hx rfl hd rfl h) F
theorem i2s (X : Stand p l e R s m args below meth c T locs cells slots) (hx : p.tables.exec = Jvm.exec) {x : Int32} (hd : decode c.code pc = .ok (.i2s, 1)) (hn : pc + 1 = n) (F : Go p e below s Q K N T (mkF m n Ls (.int x.toInt16.toInt32 :: st))) : Go p e below s Q K N T (mkF m pc Ls (.int x :: st)) := by
  subst hn
  exact go (fun _ h => XT.i2s X.here hx rfl hd rfl h) F
theorem goto (X : Stand p l e R s m args below meth c T locs cells slots) (hx : p.tables.exec = Jvm.exec) {o : Int} (t : Nat) (hd : decode c.code pc = .ok (.goto o, 3)) (ht : (pc : Int) + o = t) (F : Go p e below s Q K N T (mkF m t Ls st)) : Go p e below s Q K N T (mkF m pc Ls st) := go (fun _ h => XS.goto X.here hx rfl (pc0 := pc) (pc' := t) rfl hd (by rw [ht]; exact Int.natCast_nonneg _) (by rw [ht]; rfl) h) F
theorem holds_t {cd : ClassFile.Cond} {x y : Int32} : if_icmp.holds cd x y = true ↔ match cd with | .eq => x.toInt = y.toInt | .ne => ¬ x.toInt = y.toInt | .lt => x.toInt < y.toInt | .ge => y.toInt ≤ x.toInt | .gt => y.toInt < x.toInt | .le => x.toInt ≤ y.toInt := by
  cases cd <;> simp [if_icmp.holds, Int32.lt_iff_toInt_lt, Int32.le_iff_toInt_le, Int32.toInt_inj]
theorem icmp (X : Stand p l e R s m args below meth c T locs cells slots) (hx : p.tables.exec = Jvm.exec) {cd : ClassFile.Cond} {x y : Int32} {o : Int} (hd : decode c.code pc = .ok (.if_icmp cd o, 3)) (ht : (pc : Int) + o = t) (hn : pc + 3 = n) (FT : if_icmp.holds cd x y = true → Go p e below s Q K N T (mkF m t Ls rest)) (FF : ¬ if_icmp.holds cd x y = true → Go p e below s Q K N T (mkF m n Ls rest)) : Go p e below s Q K N T (mkF m pc Ls (.int y :: .int x :: rest)) := by
  subst hn
  by_cases q : if_icmp.holds cd x y = true
  · exact go (fun _ h => XS.icmpYes X.here hx rfl (pc0 := pc) (pc' := t) rfl hd rfl q (by rw [ht]; exact Int.natCast_nonneg _) (by rw [ht]; rfl) h) (FT q)
  · exact go (fun _ h => XS.icmpNo X.here hx rfl hd rfl (by simpa using q) h) (FF q)
theorem ifc (X : Stand p l e R s m args below meth c T locs cells slots) (hx : p.tables.exec = Jvm.exec) {cd : ClassFile.Cond} {x : Int32} {o : Int} (hd : decode c.code pc = .ok (.ifCond cd o, 3)) (ht : (pc : Int) + o = t) (hn : pc + 3 = n) (FT : if_icmp.holds cd x 0 = true → Go p e below s Q K N T (mkF m t Ls rest)) (FF : ¬ if_icmp.holds cd x 0 = true → Go p e below s Q K N T (mkF m n Ls rest)) : Go p e below s Q K N T (mkF m pc Ls (.int x :: rest)) := by
  subst hn
  by_cases q : if_icmp.holds cd x 0 = true
  · exact go (fun _ h => XS.ifYes X.here hx rfl (pc0 := pc) (pc' := t) rfl hd rfl ((if0 _ _).trans q) (by rw [ht]; exact Int.natCast_nonneg _) (by rw [ht]; rfl) h) (FT q)
  · exact go (fun _ h => XS.ifNo X.here hx rfl hd rfl ((if0 _ _).trans (by simpa using q)) h) (FF q)
theorem icmp_eq (X : Stand p l e R s m args below meth c T locs cells slots) (hx : p.tables.exec = Jvm.exec) {x y : Int32} {o : Int} (t n : Nat) (hd : decode c.code pc = .ok (.if_icmp .eq o, 3)) (ht : (pc : Int) + o = t) (hn : pc + 3 = n) {a b' : Int} (ha : x.toInt = a) (hb : y.toInt = b') (FT : a = b' → Go p e below s Q K N T (mkF m t Ls rest)) (FF : ¬ a = b' → Go p e below s Q K N T (mkF m n Ls rest)) : Go p e below s Q K N T (mkF m pc Ls (.int y :: .int x :: rest)) := by
  subst ha hb
  exact icmp X hx hd ht hn (fun q => FT (holds_t.mp q)) (fun q => FF (by have := mt holds_t.mpr q; first | exact this | exact Int.not_lt.mp this | exact Int.not_le.mp this | exact Classical.not_not.mp this))
theorem if_eq (X : Stand p l e R s m args below meth c T locs cells slots) (hx : p.tables.exec = Jvm.exec) {x : Int32} {o : Int} (t n : Nat) (hd : decode c.code pc = .ok (.ifCond .eq o, 3)) (ht : (pc : Int) + o = t) (hn : pc + 3 = n) {a : Int} (ha : x.toInt = a) (FT : a = 0 → Go p e below s Q K N T (mkF m t Ls rest)) (FF : ¬ a = 0 → Go p e below s Q K N T (mkF m n Ls rest)) : Go p e below s Q K N T (mkF m pc Ls (.int x :: rest)) := by
  subst ha
  exact ifc X hx hd ht hn (fun q => FT (holds_t.mp q)) (fun q => FF (by have := mt holds_t.mpr q; first | exact this | exact Int.not_lt.mp this | exact Int.not_le.mp this | exact Classical.not_not.mp this))
theorem icmp_ne (X : Stand p l e R s m args below meth c T locs cells slots) (hx : p.tables.exec = Jvm.exec) {x y : Int32} {o : Int} (t n : Nat) (hd : decode c.code pc = .ok (.if_icmp .ne o, 3)) (ht : (pc : Int) + o = t) (hn : pc + 3 = n) {a b' : Int} (ha : x.toInt = a) (hb : y.toInt = b') (FT : ¬ a = b' → Go p e below s Q K N T (mkF m t Ls rest)) (FF : a = b' → Go p e below s Q K N T (mkF m n Ls rest)) : Go p e below s Q K N T (mkF m pc Ls (.int y :: .int x :: rest)) := by
  subst ha hb
  exact icmp X hx hd ht hn (fun q => FT (holds_t.mp q)) (fun q => FF (by have := mt holds_t.mpr q; first | exact this | exact Int.not_lt.mp this | exact Int.not_le.mp this | exact Classical.not_not.mp this))
theorem if_ne (X : Stand p l e R s m args below meth c T locs cells slots) (hx : p.tables.exec = Jvm.exec) {x : Int32} {o : Int} (t n : Nat) (hd : decode c.code pc = .ok (.ifCond .ne o, 3)) (ht : (pc : Int) + o = t) (hn : pc + 3 = n) {a : Int} (ha : x.toInt = a) (FT : ¬ a = 0 → Go p e below s Q K N T (mkF m t Ls rest)) (FF : a = 0 → Go p e below s Q K N T (mkF m n Ls rest)) : Go p e below s Q K N T (mkF m pc Ls (.int x :: rest)) := by
  subst ha
  exact ifc X hx hd ht hn (fun q => FT (holds_t.mp q)) (fun q => FF (by have := mt holds_t.mpr q; first | exact this | exact Int.not_lt.mp this | exact Int.not_le.mp this | exact Classical.not_not.mp this))
theorem icmp_lt (X : Stand p l e R s m args below meth c T locs cells slots) (hx : p.tables.exec = Jvm.exec) {x y : Int32} {o : Int} (t n : Nat) (hd : decode c.code pc = .ok (.if_icmp .lt o, 3)) (ht : (pc : Int) + o = t) (hn : pc + 3 = n) {a b' : Int} (ha : x.toInt = a) (hb : y.toInt = b') (FT : a < b' → Go p e below s Q K N T (mkF m t Ls rest)) (FF : b' ≤ a → Go p e below s Q K N T (mkF m n Ls rest)) : Go p e below s Q K N T (mkF m pc Ls (.int y :: .int x :: rest)) := by
  subst ha hb
  exact icmp X hx hd ht hn (fun q => FT (holds_t.mp q)) (fun q => FF (by have := mt holds_t.mpr q; first | exact this | exact Int.not_lt.mp this | exact Int.not_le.mp this | exact Classical.not_not.mp this))
theorem if_lt (X : Stand p l e R s m args below meth c T locs cells slots) (hx : p.tables.exec = Jvm.exec) {x : Int32} {o : Int} (t n : Nat) (hd : decode c.code pc = .ok (.ifCond .lt o, 3)) (ht : (pc : Int) + o = t) (hn : pc + 3 = n) {a : Int} (ha : x.toInt = a) (FT : a < 0 → Go p e below s Q K N T (mkF m t Ls rest)) (FF : 0 ≤ a → Go p e below s Q K N T (mkF m n Ls rest)) : Go p e below s Q K N T (mkF m pc Ls (.int x :: rest)) := by
  subst ha
  exact ifc X hx hd ht hn (fun q => FT (holds_t.mp q)) (fun q => FF (by have := mt holds_t.mpr q; first | exact this | exact Int.not_lt.mp this | exact Int.not_le.mp this | exact Classical.not_not.mp this))
theorem icmp_ge (X : Stand p l e R s m args below meth c T locs cells slots) (hx : p.tables.exec = Jvm.exec) {x y : Int32} {o : Int} (t n : Nat) (hd : decode c.code pc = .ok (.if_icmp .ge o, 3)) (ht : (pc : Int) + o = t) (hn : pc + 3 = n) {a b' : Int} (ha : x.toInt = a) (hb : y.toInt = b') (FT : b' ≤ a → Go p e below s Q K N T (mkF m t Ls rest)) (FF : a < b' → Go p e below s Q K N T (mkF m n Ls rest)) : Go p e below s Q K N T (mkF m pc Ls (.int y :: .int x :: rest)) := by
  subst ha hb
  exact icmp X hx hd ht hn (fun q => FT (holds_t.mp q)) (fun q => FF (by have := mt holds_t.mpr q; first | exact this | exact Int.not_lt.mp this | exact Int.not_le.mp this | exact Classical.not_not.mp this))
theorem if_ge (X : Stand p l e R s m args below meth c T locs cells slots) (hx : p.tables.exec = Jvm.exec) {x : Int32} {o : Int} (t n : Nat) (hd : decode c.code pc = .ok (.ifCond .ge o, 3)) (ht : (pc : Int) + o = t) (hn : pc + 3 = n) {a : Int} (ha : x.toInt = a) (FT : 0 ≤ a → Go p e below s Q K N T (mkF m t Ls rest)) (FF : a < 0 → Go p e below s Q K N T (mkF m n Ls rest)) : Go p e below s Q K N T (mkF m pc Ls (.int x :: rest)) := by
  subst ha
  exact ifc X hx hd ht hn (fun q => FT (holds_t.mp q)) (fun q => FF (by have := mt holds_t.mpr q; first | exact this | exact Int.not_lt.mp this | exact Int.not_le.mp this | exact Classical.not_not.mp this))
theorem icmp_gt (X : Stand p l e R s m args below meth c T locs cells slots) (hx : p.tables.exec = Jvm.exec) {x y : Int32} {o : Int} (t n : Nat) (hd : decode c.code pc = .ok (.if_icmp .gt o, 3)) (ht : (pc : Int) + o = t) (hn : pc + 3 = n) {a b' : Int} (ha : x.toInt = a) (hb : y.toInt = b') (FT : b' < a → Go p e below s Q K N T (mkF m t Ls rest)) (FF : a ≤ b' → Go p e below s Q K N T (mkF m n Ls rest)) : Go p e below s Q K N T (mkF m pc Ls (.int y :: .int x :: rest)) := by
  subst ha hb
  exact icmp X hx hd ht hn (fun q => FT (holds_t.mp q)) (fun q => FF (by have := mt holds_t.mpr q; first | exact this | exact Int.not_lt.mp this | exact Int.not_le.mp this | exact Classical.not_not.mp this))
theorem if_gt (X : Stand p l e R s m args below meth c T locs cells slots) (hx : p.tables.exec = Jvm.exec) {x : Int32} {o : Int} (t n : Nat) (hd : decode c.code pc = .ok (.ifCond .gt o, 3)) (ht : (pc : Int) + o = t) (hn : pc + 3 = n) {a : Int} (ha : x.toInt = a) (FT : 0 < a → Go p e below s Q K N T (mkF m t Ls rest)) (FF : a ≤ 0 → Go p e below s Q K N T (mkF m n Ls rest)) : Go p e below s Q K N T (mkF m pc Ls (.int x :: rest)) := by
  subst ha
  exact ifc X hx hd ht hn (fun q => FT (holds_t.mp q)) (fun q => FF (by have := mt holds_t.mpr q; first | exact this | exact Int.not_lt.mp this | exact Int.not_le.mp this | exact Classical.not_not.mp this))
theorem icmp_le (X : Stand p l e R s m args below meth c T locs cells slots) (hx : p.tables.exec = Jvm.exec) {x y : Int32} {o : Int} (t n : Nat) (hd : decode c.code pc = .ok (.if_icmp .le o, 3)) (ht : (pc : Int) + o = t) (hn : pc + 3 = n) {a b' : Int} (ha : x.toInt = a) (hb : y.toInt = b') (FT : a ≤ b' → Go p e below s Q K N T (mkF m t Ls rest)) (FF : b' < a → Go p e below s Q K N T (mkF m n Ls rest)) : Go p e below s Q K N T (mkF m pc Ls (.int y :: .int x :: rest)) := by
  subst ha hb
  exact icmp X hx hd ht hn (fun q => FT (holds_t.mp q)) (fun q => FF (by have := mt holds_t.mpr q; first | exact this | exact Int.not_lt.mp this | exact Int.not_le.mp this | exact Classical.not_not.mp this))
theorem if_le (X : Stand p l e R s m args below meth c T locs cells slots) (hx : p.tables.exec = Jvm.exec) {x : Int32} {o : Int} (t n : Nat) (hd : decode c.code pc = .ok (.ifCond .le o, 3)) (ht : (pc : Int) + o = t) (hn : pc + 3 = n) {a : Int} (ha : x.toInt = a) (FT : a ≤ 0 → Go p e below s Q K N T (mkF m t Ls rest)) (FF : 0 < a → Go p e below s Q K N T (mkF m n Ls rest)) : Go p e below s Q K N T (mkF m pc Ls (.int x :: rest)) := by
  subst ha
  exact ifc X hx hd ht hn (fun q => FT (holds_t.mp q)) (fun q => FF (by have := mt holds_t.mpr q; first | exact this | exact Int.not_lt.mp this | exact Int.not_le.mp this | exact Classical.not_not.mp this))
theorem if_neB (X : Stand p l e R s m args below meth c T locs cells slots) (hx : p.tables.exec = Jvm.exec) {P : Prop} [Decidable P] {o : Int} (t n : Nat) (hd : decode c.code pc = .ok (.ifCond .ne o, 3)) (ht : (pc : Int) + o = t) (hn : pc + 3 = n) (FT : P → Go p e below s Q K N T (mkF m t Ls rest)) (FF : ¬ P → Go p e below s Q K N T (mkF m n Ls rest)) : Go p e below s Q K N T (mkF m pc Ls (.int (b P) :: rest)) := by
  refine ifc X hx hd ht hn (fun q => FT ?_) (fun q => FF ?_)
  · by_cases z : P
    · exact z
    · rw [b_f z] at q; exact absurd q (by decide)
  · intro z; rw [b_t z] at q; exact q (by decide)
theorem if_eqB (X : Stand p l e R s m args below meth c T locs cells slots) (hx : p.tables.exec = Jvm.exec) {P : Prop} [Decidable P] {o : Int} (t n : Nat) (hd : decode c.code pc = .ok (.ifCond .eq o, 3)) (ht : (pc : Int) + o = t) (hn : pc + 3 = n) (FT : ¬ P → Go p e below s Q K N T (mkF m t Ls rest)) (FF : P → Go p e below s Q K N T (mkF m n Ls rest)) : Go p e below s Q K N T (mkF m pc Ls (.int (b P) :: rest)) := by
  refine ifc X hx hd ht hn (fun q => FT ?_) (fun q => FF ?_)
  · intro z; rw [b_t z] at q; exact absurd q (by decide)
  · by_cases z : P
    · exact z
    · rw [b_f z] at q; exact absurd (by decide) q
theorem icmp_neB (X : Stand p l e R s m args below meth c T locs cells slots) (hx : p.tables.exec = Jvm.exec) {P P' : Prop} [Decidable P] [Decidable P'] {o : Int} (t n : Nat) (hd : decode c.code pc = .ok (.if_icmp .ne o, 3)) (ht : (pc : Int) + o = t) (hn : pc + 3 = n) (FT : ¬ (P ↔ P') → Go p e below s Q K N T (mkF m t Ls rest)) (FF : (P ↔ P') → Go p e below s Q K N T (mkF m n Ls rest)) : Go p e below s Q K N T (mkF m pc Ls (.int (b P') :: .int (b P) :: rest)) :=
  icmp_ne X hx t n hd ht hn rfl rfl (fun q => FT fun z => q (by rw [b_iff z])) (fun q => FF (b_inj (Int32.toInt_inj.mp q)))
theorem lcmp (X : Stand p l e R s m args below meth c T locs cells slots) (hx : p.tables.exec = Jvm.exec) {x y : Int64} (hd : decode c.code pc = .ok (.lcmp, 1)) (hn : pc + 1 = n) (F : Go p e below s Q K N T (mkF m n Ls (.int (lcmpW x y) :: st))) : Go p e below s Q K N T (mkF m pc Ls (.long y :: .long x :: st)) := by
  subst hn
  exact go (fun _ h => XT.lcmp X.here hx rfl hd rfl h) F
theorem lc_t {cd : ClassFile.Cond} {x y : Int64} : if_icmp.holds cd (lcmpW x y) 0 = true ↔ match cd with | .eq => x.toInt = y.toInt | .ne => ¬ x.toInt = y.toInt | .lt => x.toInt < y.toInt | .ge => y.toInt ≤ x.toInt | .gt => y.toInt < x.toInt | .le => x.toInt ≤ y.toInt := by
  have hgt : (x > y) ↔ y.toInt < x.toInt := Int64.lt_iff_toInt_lt
  have heq : (x = y) ↔ x.toInt = y.toInt := Int64.toInt_inj.symm
  by_cases q : x > y
  · have := hgt.mp q
    cases cd <;> simp [if_icmp.holds, lcmpW, q] <;> omega
  · have q1 := mt hgt.mpr q
    by_cases r : x = y
    · have := heq.mp r
      cases cd <;> simp [if_icmp.holds, lcmpW, r] 
    · have r1 := mt heq.mpr r
      cases cd <;> simp [if_icmp.holds, lcmpW, q, r] <;> omega
theorem lif_eq (X : Stand p l e R s m args below meth c T locs cells slots) (hx : p.tables.exec = Jvm.exec) {x y : Int64} {o : Int} (t n : Nat) (hd : decode c.code pc = .ok (.ifCond .eq o, 3)) (ht : (pc : Int) + o = t) (hn : pc + 3 = n) {a b' : Int} (ha : x.toInt = a) (hb : y.toInt = b') (FT : a = b' → Go p e below s Q K N T (mkF m t Ls rest)) (FF : ¬ a = b' → Go p e below s Q K N T (mkF m n Ls rest)) : Go p e below s Q K N T (mkF m pc Ls (.int (lcmpW x y) :: rest)) := by
  subst ha hb
  exact ifc X hx hd ht hn (fun q => FT (lc_t.mp q)) (fun q => FF (by have := mt lc_t.mpr q; first | exact this | exact Int.not_lt.mp this | exact Int.not_le.mp this | exact Classical.not_not.mp this))
theorem lif_ne (X : Stand p l e R s m args below meth c T locs cells slots) (hx : p.tables.exec = Jvm.exec) {x y : Int64} {o : Int} (t n : Nat) (hd : decode c.code pc = .ok (.ifCond .ne o, 3)) (ht : (pc : Int) + o = t) (hn : pc + 3 = n) {a b' : Int} (ha : x.toInt = a) (hb : y.toInt = b') (FT : ¬ a = b' → Go p e below s Q K N T (mkF m t Ls rest)) (FF : a = b' → Go p e below s Q K N T (mkF m n Ls rest)) : Go p e below s Q K N T (mkF m pc Ls (.int (lcmpW x y) :: rest)) := by
  subst ha hb
  exact ifc X hx hd ht hn (fun q => FT (lc_t.mp q)) (fun q => FF (by have := mt lc_t.mpr q; first | exact this | exact Int.not_lt.mp this | exact Int.not_le.mp this | exact Classical.not_not.mp this))
theorem lif_lt (X : Stand p l e R s m args below meth c T locs cells slots) (hx : p.tables.exec = Jvm.exec) {x y : Int64} {o : Int} (t n : Nat) (hd : decode c.code pc = .ok (.ifCond .lt o, 3)) (ht : (pc : Int) + o = t) (hn : pc + 3 = n) {a b' : Int} (ha : x.toInt = a) (hb : y.toInt = b') (FT : a < b' → Go p e below s Q K N T (mkF m t Ls rest)) (FF : b' ≤ a → Go p e below s Q K N T (mkF m n Ls rest)) : Go p e below s Q K N T (mkF m pc Ls (.int (lcmpW x y) :: rest)) := by
  subst ha hb
  exact ifc X hx hd ht hn (fun q => FT (lc_t.mp q)) (fun q => FF (by have := mt lc_t.mpr q; first | exact this | exact Int.not_lt.mp this | exact Int.not_le.mp this | exact Classical.not_not.mp this))
theorem lif_ge (X : Stand p l e R s m args below meth c T locs cells slots) (hx : p.tables.exec = Jvm.exec) {x y : Int64} {o : Int} (t n : Nat) (hd : decode c.code pc = .ok (.ifCond .ge o, 3)) (ht : (pc : Int) + o = t) (hn : pc + 3 = n) {a b' : Int} (ha : x.toInt = a) (hb : y.toInt = b') (FT : b' ≤ a → Go p e below s Q K N T (mkF m t Ls rest)) (FF : a < b' → Go p e below s Q K N T (mkF m n Ls rest)) : Go p e below s Q K N T (mkF m pc Ls (.int (lcmpW x y) :: rest)) := by
  subst ha hb
  exact ifc X hx hd ht hn (fun q => FT (lc_t.mp q)) (fun q => FF (by have := mt lc_t.mpr q; first | exact this | exact Int.not_lt.mp this | exact Int.not_le.mp this | exact Classical.not_not.mp this))
theorem lif_gt (X : Stand p l e R s m args below meth c T locs cells slots) (hx : p.tables.exec = Jvm.exec) {x y : Int64} {o : Int} (t n : Nat) (hd : decode c.code pc = .ok (.ifCond .gt o, 3)) (ht : (pc : Int) + o = t) (hn : pc + 3 = n) {a b' : Int} (ha : x.toInt = a) (hb : y.toInt = b') (FT : b' < a → Go p e below s Q K N T (mkF m t Ls rest)) (FF : a ≤ b' → Go p e below s Q K N T (mkF m n Ls rest)) : Go p e below s Q K N T (mkF m pc Ls (.int (lcmpW x y) :: rest)) := by
  subst ha hb
  exact ifc X hx hd ht hn (fun q => FT (lc_t.mp q)) (fun q => FF (by have := mt lc_t.mpr q; first | exact this | exact Int.not_lt.mp this | exact Int.not_le.mp this | exact Classical.not_not.mp this))
theorem lif_le (X : Stand p l e R s m args below meth c T locs cells slots) (hx : p.tables.exec = Jvm.exec) {x y : Int64} {o : Int} (t n : Nat) (hd : decode c.code pc = .ok (.ifCond .le o, 3)) (ht : (pc : Int) + o = t) (hn : pc + 3 = n) {a b' : Int} (ha : x.toInt = a) (hb : y.toInt = b') (FT : a ≤ b' → Go p e below s Q K N T (mkF m t Ls rest)) (FF : b' < a → Go p e below s Q K N T (mkF m n Ls rest)) : Go p e below s Q K N T (mkF m pc Ls (.int (lcmpW x y) :: rest)) := by
  subst ha hb
  exact ifc X hx hd ht hn (fun q => FT (lc_t.mp q)) (fun q => FF (by have := mt lc_t.mpr q; first | exact this | exact Int.not_lt.mp this | exact Int.not_le.mp this | exact Classical.not_not.mp this))
theorem acmp_ne (X : Stand p l e R s m args below meth c T locs cells slots) (hx : p.tables.exec = Jvm.exec) {x y : Value} {o : Int} (t n : Nat) (hd : decode c.code pc = .ok (.if_acmp .ne o, 3)) (ht : (pc : Int) + o = t) (hn : pc + 3 = n) (h1 : x.isRef = true) (h2 : y.isRef = true) (FT : ¬ x = y → Go p e below s Q K N T (mkF m t Ls rest)) (FF : x = y → Go p e below s Q K N T (mkF m n Ls rest)) : Go p e below s Q K N T (mkF m pc Ls (y :: x :: rest)) := by
  subst hn
  by_cases q : x = y
  · exact go (fun _ h => XT.acmpNo X.here hx rfl hd rfl h1 h2 (XT.aa_ne_f q) h) (FF q)
  · exact go (fun _ h => XT.acmpYes X.here hx rfl (pc0 := pc) (pc' := t) rfl hd rfl h1 h2 (XT.aa_ne_t q) (by rw [ht]; exact Int.natCast_nonneg _) (by rw [ht]; rfl) h) (FT q)
theorem acmp_eq (X : Stand p l e R s m args below meth c T locs cells slots) (hx : p.tables.exec = Jvm.exec) {x y : Value} {o : Int} (t n : Nat) (hd : decode c.code pc = .ok (.if_acmp .eq o, 3)) (ht : (pc : Int) + o = t) (hn : pc + 3 = n) (h1 : x.isRef = true) (h2 : y.isRef = true) (FT : x = y → Go p e below s Q K N T (mkF m t Ls rest)) (FF : ¬ x = y → Go p e below s Q K N T (mkF m n Ls rest)) : Go p e below s Q K N T (mkF m pc Ls (y :: x :: rest)) := by
  subst hn
  by_cases q : x = y
  · exact go (fun _ h => XT.acmpYes X.here hx rfl (pc0 := pc) (pc' := t) rfl hd rfl h1 h2 (XT.aa_eq_t q) (by rw [ht]; exact Int.natCast_nonneg _) (by rw [ht]; rfl) h) (FT q)
  · exact go (fun _ h => XT.acmpNo X.here hx rfl hd rfl h1 h2 (XT.aa_eq_f q) h) (FF q)
theorem nonnullR (X : Stand p l e R s m args below meth c T locs cells slots) (hx : p.tables.exec = Jvm.exec) {a : Addr} {o : Int} (t : Nat) (hd : decode c.code pc = .ok (.ifnonnull o, 3)) (ht : (pc : Int) + o = t) (F : Go p e below s Q K N T (mkF m t Ls rest)) : Go p e below s Q K N T (mkF m pc Ls (.ref a :: rest)) :=
  go (fun _ h => XT.ifnonnullYes X.here hx rfl (pc0 := pc) (pc' := t) rfl hd rfl (by rw [ht]; exact Int.natCast_nonneg _) (by rw [ht]; rfl) h) F
theorem nonnullN (X : Stand p l e R s m args below meth c T locs cells slots) (hx : p.tables.exec = Jvm.exec) {o : Int} (hd : decode c.code pc = .ok (.ifnonnull o, 3)) (hn : pc + 3 = n) (F : Go p e below s Q K N T (mkF m n Ls rest)) : Go p e below s Q K N T (mkF m pc Ls (.null :: rest)) := by
  subst hn
  exact go (fun _ h => XT.ifnonnullNo X.here hx rfl hd rfl h) F
theorem nullR (X : Stand p l e R s m args below meth c T locs cells slots) (hx : p.tables.exec = Jvm.exec) {a : Addr} {o : Int} (hd : decode c.code pc = .ok (.ifnull o, 3)) (hn : pc + 3 = n) (F : Go p e below s Q K N T (mkF m n Ls rest)) : Go p e below s Q K N T (mkF m pc Ls (.ref a :: rest)) := by
  subst hn
  exact go (fun _ h => XT.nullNo X.here hx rfl hd rfl rfl (by simp) h) F
theorem nullN (X : Stand p l e R s m args below meth c T locs cells slots) (hx : p.tables.exec = Jvm.exec) {o : Int} (t : Nat) (hd : decode c.code pc = .ok (.ifnull o, 3)) (ht : (pc : Int) + o = t) (F : Go p e below s Q K N T (mkF m t Ls rest)) : Go p e below s Q K N T (mkF m pc Ls (.null :: rest)) :=
  go (fun _ h => XT.nullYes X.here hx rfl (pc0 := pc) (pc' := t) rfl hd rfl rfl (by rw [ht]; exact Int.natCast_nonneg _) (by rw [ht]; rfl) h) F
theorem getS (X : Stand p l e R s m args below meth c T locs cells slots) (hx : p.tables.exec = Jvm.exec) (hZ : Z.Warmed39 s.vm) {own O f d host : String} {index : Nat} (hown : s.vm.findClass own = some m.cls) (w : (Cond.fieldLink own index O f d).before a0 Z = true ∨ (Cond.fieldLinkNest own index O f d host).before a0 Z = true) (eT : T.heap = h) {v : Value} (S : Sta Z h O f d v) (hd : decode c.code pc = .ok (.getstatic index, 3)) (hn : pc + 3 = n)
    (F : ∀ T', Stand p l e R s m args below meth c T' locs cells slots → T'.heap = h → Go p e below s Q K N T' (mkF m n Ls (v :: st))) : Go p e below s Q K N T (mkF m pc Ls st) := by
  subst hn
  obtain ⟨T', X', e', st'⟩ := getS2 X hx hZ hown (host := host) w Via.refl eT S (g := mkF m pc Ls st) rfl hd
  exact go (fun _ h => st' _ h) (F T' X' e')
theorem getF (X : Stand p l e R s m args below meth c T locs cells slots) (hx : p.tables.exec = Jvm.exec) (hZ : Z.Warmed39 s.vm) {own O f d host : String} {index : Nat} (hown : s.vm.findClass own = some m.cls) (w : (Cond.fieldLink own index O f d).before a0 Z = true ∨ (Cond.fieldLinkNest own index O f d host).before a0 Z = true) (eT : T.heap = h) {a : Addr} {v : Value} (S : Fld Z h a O f d v) (hd : decode c.code pc = .ok (.getfield index, 3)) (hn : pc + 3 = n)
    (F : ∀ T', Stand p l e R s m args below meth c T' locs cells slots → T'.heap = h → Go p e below s Q K N T' (mkF m n Ls (v :: st))) : Go p e below s Q K N T (mkF m pc Ls (.ref a :: st)) := by
  subst hn
  obtain ⟨T', X', e', st'⟩ := RoadKit.getF X hx hZ hown (host := host) w Via.refl eT S (g := mkF m pc Ls (.ref a :: st)) rfl rfl hd
  exact go (fun _ h => st' _ h) (F T' X' e')
theorem in_of {cl : Cell} {z j : Int32} (S : cl.slots.size = z.toNatClampNeg) (N : ¬ z < 0) (h1 : 0 ≤ j.toInt) (h2 : j.toInt < z.toInt) : ¬ (j < 0 ∨ cl.slots.size ≤ j.toNatClampNeg) := by
  rw [S, Int32.lt_iff_toInt_lt]
  rw [Int32.lt_iff_toInt_lt] at N
  have e0 : (0 : Int32).toInt = 0 := rfl
  have q1 : z.toNatClampNeg = z.toInt.toNat := rfl
  have q2 : j.toNatClampNeg = j.toInt.toNat := rfl
  omega
theorem alen (X : Stand p l e R s m args below meth c T locs cells slots) (hx : p.tables.exec = Jvm.exec) (hZ : Z.Warmed39 s.vm) {a : Addr} {k : ClassId} {ty : FieldType} {z : Int32} {vs : List Value} {d : Value} (eT : T.heap = h) (A : Arv Z h a k ty z vs d) (hd : decode c.code pc = .ok (.arraylength, 1)) (hn : pc + 1 = n) (F : Go p e below s Q K N T (mkF m n Ls (.int z :: st))) : Go p e below s Q K N T (mkF m pc Ls (.ref a :: st)) := by
  subst hn
  obtain ⟨cl, Ar, -, S, N, -, -⟩ := A
  refine go (fun _ h => X.arraylength hx (by rw [eT]; exact Ar.1) (State.isArrayOf_alike hZ.alike Ar.2.1) (g := mkF m pc Ls (.ref a :: st)) rfl rfl hd _ h) ?_
  rw [len_of S N]
  exact F
theorem iaload (X : Stand p l e R s m args below meth c T locs cells slots) (hx : p.tables.exec = Jvm.exec) (hZ : Z.Warmed39 s.vm) {a : Addr} {k : ClassId} {z j : Int32} {vs : List Value} {d v : Value} (eT : T.heap = h) (A : Arv Z h a k .int z vs d) (h1 : 0 ≤ j.toInt) (h2 : j.toInt < z.toInt) (hv : vs.getD j.toNatClampNeg d = v) (hd : decode c.code pc = .ok (.iaload, 1)) (hn : pc + 1 = n) (F : Go p e below s Q K N T (mkF m n Ls (v :: st))) : Go p e below s Q K N T (mkF m pc Ls (.int j :: .ref a :: st)) := by
  subst hn
  obtain ⟨cl, Ar, -, S, N, H, -⟩ := A
  have hin := in_of S N h1 h2
  exact go (fun _ h => X.iaload hx (j := j) (v := v) (by rw [eT]; exact Ar.1) (State.isArrayOf_alike hZ.alike Ar.2.1) Ar.2.2 hin (H.at hin hv) (g := mkF m pc Ls (.int j :: .ref a :: st)) rfl rfl hd _ h) F
theorem caload (X : Stand p l e R s m args below meth c T locs cells slots) (hx : p.tables.exec = Jvm.exec) (hZ : Z.Warmed39 s.vm) {a : Addr} {k : ClassId} {z j : Int32} {vs : List Value} {d v : Value} (eT : T.heap = h) (A : Arv Z h a k .char z vs d) (h1 : 0 ≤ j.toInt) (h2 : j.toInt < z.toInt) (hv : vs.getD j.toNatClampNeg d = v) (hd : decode c.code pc = .ok (.caload, 1)) (hn : pc + 1 = n) (F : Go p e below s Q K N T (mkF m n Ls (v :: st))) : Go p e below s Q K N T (mkF m pc Ls (.int j :: .ref a :: st)) := by
  subst hn
  obtain ⟨cl, Ar, -, S, N, H, -⟩ := A
  have hin := in_of S N h1 h2
  exact go (fun _ h => X.caload hx (j := j) (v := v) (by rw [eT]; exact Ar.1) (State.isArrayOf_alike hZ.alike Ar.2.1) Ar.2.2 hin (H.at hin hv) (g := mkF m pc Ls (.int j :: .ref a :: st)) rfl rfl hd _ h) F
theorem laload (X : Stand p l e R s m args below meth c T locs cells slots) (hx : p.tables.exec = Jvm.exec) (hZ : Z.Warmed39 s.vm) {a : Addr} {k : ClassId} {z j : Int32} {vs : List Value} {d v : Value} (eT : T.heap = h) (A : Arv Z h a k .long z vs d) (h1 : 0 ≤ j.toInt) (h2 : j.toInt < z.toInt) (hv : vs.getD j.toNatClampNeg d = v) (hd : decode c.code pc = .ok (.laload, 1)) (hn : pc + 1 = n) (F : Go p e below s Q K N T (mkF m n Ls (v :: st))) : Go p e below s Q K N T (mkF m pc Ls (.int j :: .ref a :: st)) := by
  subst hn
  obtain ⟨cl, Ar, -, S, N, H, -⟩ := A
  have hin := in_of S N h1 h2
  exact go (fun _ h => X.laload hx (j := j) (v := v) (by rw [eT]; exact Ar.1) (State.isArrayOf_alike hZ.alike Ar.2.1) Ar.2.2 hin (H.at hin hv) (g := mkF m pc Ls (.int j :: .ref a :: st)) rfl rfl hd _ h) F
theorem baload (X : Stand p l e R s m args below meth c T locs cells slots) (hx : p.tables.exec = Jvm.exec) (hZ : Z.Warmed39 s.vm) {a : Addr} {k : ClassId} {z j : Int32} {vs : List Value} {d v : Value} (eT : T.heap = h) (A : Arv Z h a k .byte z vs d) (h1 : 0 ≤ j.toInt) (h2 : j.toInt < z.toInt) (hv : vs.getD j.toNatClampNeg d = v) (hd : decode c.code pc = .ok (.baload, 1)) (hn : pc + 1 = n) (F : Go p e below s Q K N T (mkF m n Ls (v :: st))) : Go p e below s Q K N T (mkF m pc Ls (.int j :: .ref a :: st)) := by
  subst hn
  obtain ⟨cl, Ar, -, S, N, H, -⟩ := A
  have hin := in_of S N h1 h2
  exact go (fun _ h => X.baloadBytes hx (j := j) (v := v) (by rw [eT]; exact Ar.1) (State.isArrayOf_alike hZ.alike Ar.2.1) Ar.2.2 hin (H.at hin hv) (g := mkF m pc Ls (.int j :: .ref a :: st)) rfl rfl hd _ h) F
theorem aaload (X : Stand p l e R s m args below meth c T locs cells slots) (hx : p.tables.exec = Jvm.exec) (hZ : Z.Warmed39 s.vm) {a : Addr} {k : ClassId} {ty : FieldType} {z j : Int32} {vs : List Value} {d v : Value} (eT : T.heap = h) (A : Arv Z h a k ty z vs d) (hty : ty.isReference = true) (h1 : 0 ≤ j.toInt) (h2 : j.toInt < z.toInt) (hv : vs.getD j.toNatClampNeg d = v) (hd : decode c.code pc = .ok (.aaload, 1)) (hn : pc + 1 = n) (F : Go p e below s Q K N T (mkF m n Ls (v :: st))) : Go p e below s Q K N T (mkF m pc Ls (.int j :: .ref a :: st)) := by
  subst hn
  obtain ⟨cl, Ar, -, S, N, H, -⟩ := A
  have hin := in_of S N h1 h2
  exact go (fun _ h => X.aaload hx (j := j) (v := v) (by rw [eT]; exact Ar.1) (State.isArrayOf_alike hZ.alike Ar.2.1) hty Ar.2.2 hin (H.at hin hv) (g := mkF m pc Ls (.int j :: .ref a :: st)) rfl rfl hd _ h) F
theorem fin {w : Option Value} {g : JFrame} (X : Stand p l e R s m args below meth c T locs cells slots) (hlk : meth.locks = false) (hv : meth.sig.returnType = none → w = none) (hc : cells ≤ K) (hs : slots ≤ N) (hQ : Q w T.heap locs) (step : ∀ fs, (∀ (f : JFrame) (acts : List Action), f.method = m → f.locked = none → f.entered = [] → (doReturn e (T.setTop f) acts w).1 = T.setFrames fs) → Steps p.tables e below (T.setTop g) (T.setFrames fs)) : Go p e below s Q K N T g := by
  obtain ⟨fs, hr, hrun, hended, hW, hsame⟩ := X.leave (v := w) hv hlk
  exact ⟨_, _, step fs hr, hrun, hended, _, _, rfl, hQ, ⟨_, rfl⟩, hW, hsame.mono hc hs⟩
theorem retI (X : Stand p l e R s m args below meth c T locs cells slots) (hx : p.tables.exec = Jvm.exec) (hlk : meth.locks = false) (hret : meth.sig.returnType = some .int) {z : Int32} (hd : decode c.code pc = .ok (.ireturn, 1)) (hc : cells ≤ K) (hs : slots ≤ N) (hQ : Q (some (.int z)) T.heap locs) : Go p e below s Q K N T (mkF m pc Ls (.int z :: rest)) :=
  fin X hlk (fun h => by rw [hret] at h; cases h) hc hs hQ (fun _ hr => retOut X hx hret rfl (Or.inl ⟨rfl, Or.inl rfl, _, rfl⟩) hd hr)
theorem retZ (X : Stand p l e R s m args below meth c T locs cells slots) (hx : p.tables.exec = Jvm.exec) (hlk : meth.locks = false) (hret : meth.sig.returnType = some .boolean) {z : Int32} (hd : decode c.code pc = .ok (.ireturn, 1)) (hz : z = 0 ∨ z = 1) (hc : cells ≤ K) (hs : slots ≤ N) (hQ : Q (some (.int z)) T.heap locs) : Go p e below s Q K N T (mkF m pc Ls (.int z :: rest)) :=
  fin X hlk (fun h => by rw [hret] at h; cases h) hc hs hQ (fun _ hr => retOut X hx hret (by rcases hz with rfl | rfl <;> rfl) (Or.inl ⟨rfl, Or.inr (Or.inl rfl), _, rfl⟩) hd hr)
theorem b01 {P : Prop} [Decidable P] : b P = 0 ∨ b P = 1 := by by_cases q : P <;> simp [b, q]
theorem retC (X : Stand p l e R s m args below meth c T locs cells slots) (hx : p.tables.exec = Jvm.exec) (hlk : meth.locks = false) (hret : meth.sig.returnType = some .char) {z : Int32} (hd : decode c.code pc = .ok (.ireturn, 1)) (hz : narrow .char (.int z) = .int z) (hc : cells ≤ K) (hs : slots ≤ N) (hQ : Q (some (.int z)) T.heap locs) : Go p e below s Q K N T (mkF m pc Ls (.int z :: rest)) :=
  fin X hlk (fun h => by rw [hret] at h; cases h) hc hs hQ (fun _ hr => retOut X hx hret hz (Or.inl ⟨rfl, Or.inr (Or.inr (Or.inr (Or.inl rfl))), _, rfl⟩) hd hr)
theorem retB (X : Stand p l e R s m args below meth c T locs cells slots) (hx : p.tables.exec = Jvm.exec) (hlk : meth.locks = false) (hret : meth.sig.returnType = some .byte) {z : Int32} (hd : decode c.code pc = .ok (.ireturn, 1)) (hz : narrow .byte (.int z) = .int z) (hc : cells ≤ K) (hs : slots ≤ N) (hQ : Q (some (.int z)) T.heap locs) : Go p e below s Q K N T (mkF m pc Ls (.int z :: rest)) :=
  fin X hlk (fun h => by rw [hret] at h; cases h) hc hs hQ (fun _ hr => retOut X hx hret hz (Or.inl ⟨rfl, Or.inr (Or.inr (Or.inl rfl)), _, rfl⟩) hd hr)
theorem retL (X : Stand p l e R s m args below meth c T locs cells slots) (hx : p.tables.exec = Jvm.exec) (hlk : meth.locks = false) (hret : meth.sig.returnType = some .long) {z : Int64} (hd : decode c.code pc = .ok (.lreturn, 1)) (hc : cells ≤ K) (hs : slots ≤ N) (hQ : Q (some (.long z)) T.heap locs) : Go p e below s Q K N T (mkF m pc Ls (.long z :: rest)) :=
  fin X hlk (fun h => by rw [hret] at h; cases h) hc hs hQ (fun _ hr => retOut X hx hret rfl (Or.inr (Or.inl ⟨rfl, rfl, _, rfl⟩)) hd hr)
theorem retA (X : Stand p l e R s m args below meth c T locs cells slots) (hx : p.tables.exec = Jvm.exec) (hlk : meth.locks = false) {ty : FieldType} (hret : meth.sig.returnType = some ty) (hty : ty.isReference = true) {v : Value} (hv : v.isRef = true) (hd : decode c.code pc = .ok (.areturn, 1)) (hc : cells ≤ K) (hs : slots ≤ N) (hQ : Q (some v) T.heap locs) : Go p e below s Q K N T (mkF m pc Ls (v :: rest)) :=
  fin X hlk (fun h => by rw [hret] at h; cases h) hc hs hQ (fun _ hr => retOut X hx hret (by cases ty <;> cases v <;> first | rfl | simp [Value.isRef] at hv | simp [FieldType.isReference] at hty) (Or.inr (Or.inr (Or.inr (Or.inr ⟨rfl, hty, hv⟩)))) hd hr)
theorem retV (X : Stand p l e R s m args below meth c T locs cells slots) (hx : p.tables.exec = Jvm.exec) (hlk : meth.locks = false) (hret : meth.sig.returnType = none) (hd : decode c.code pc = .ok (.return_, 1)) (hc : cells ≤ K) (hs : slots ≤ N) (hQ : Q none T.heap locs) : Go p e below s Q K N T (mkF m pc Ls []) :=
  fin X hlk (fun _ => rfl) hc hs hQ (fun _ hr => X.returnOut hx hret hd hr)
/-- a method's contract: with the arguments as', over the heap h0, it comes back and Q holds -/
def Met (l : Launch) (Z : State) (y : MethodName) (bytes : ByteArray) (maxL : Nat) (ret : Option FieldType) (ws : List Cond) (rm : Room) (as' : Array Value) (h0 : Heap) (Q : Option Value → Heap → List Loc → Prop) : Prop :=
  MetFree l y (head1 (Cond.code y bytes maxL ret :: ws) rm) (fun a U => a = as' ∧ Z.Warmed39 U.vm ∧ U.heap = h0) (fun _ _ _ _ _ => True) (fun _ U o U' => ∃ v L, o = .returned v ∧ Q v U'.heap L ∧ FrameEnd U o U' L rm.cells rm.slots)
/-- nothing written, nothing made: it returns w -/
def Pu (w : Value) (h0 : Heap) (v : Option Value) (h : Heap) (L : List Loc) : Prop := v = some w ∧ L = [] ∧ h = h0
theorem start {y : MethodName} {bytes : ByteArray} {maxL : Nat} {ret : Option FieldType} {ws : List Cond} {rm : Room} {as' : Array Value} {h0 : Heap} (pn : plainName y.cls = true)
    (body : ∀ (p : Program) (e : Env) (s : State) (m : MethodId) (below : List Frame) (meth : Method) (c : Code) (s₁ : State), Stand p l e rm s m as' below meth c s₁ [] 0 0 → p.tables.exec = Jvm.exec → c.code = bytes → c.maxLocals = maxL → s.vm.findClass y.cls = some m.cls → meth.name = y.name → meth.sig.returnType = ret → meth.locks = false → Z.Warmed39 s.vm → s₁.heap = h0 → Go p e below s Q rm.cells rm.slots s₁ (entryFrame m as' maxL)) : Met l Z y bytes maxL ret ws rm as' h0 Q := by
  refine MetFree.of_bodySF (plainFor_of_name pn) hisR ?_
  intro p e s m args below meth c s₁ Bd hml0 hP hK
  obtain ⟨rfl, hZ, hh⟩ := hP
  exact body p e s m below meth c s₁ (Stand.of_body Bd) Bd.exec Bd.bytes hml0 (findClass_of_methodNamed Bd.named) (name_of_methodNamed Bd.named Bd.method).1 Bd.returns Bd.notSynchronized hZ (by rw [← hh, Bd.state]; rfl)
theorem enter {g g' : JFrame} (q : g = g') (F : Go p e below s Q K N T g') : Go p e below s Q K N T g := q ▸ F
theorem callS (X : Stand p l e R s m args below meth c T locs cells slots) (hx : p.tables.exec = Jvm.exec) (hZ : Z.Warmed39 s.vm) {own : String} {index : Nat} {y : MethodName} {bytes : ByteArray} {maxL W : Nat} {ret : Option FieldType} {rm : Room} {Qc : Option Value → Heap → List Loc → Prop} {argsL : List Value} (hown : s.vm.findClass own = some m.cls)
    (wl : (Cond.methodLink own index y).before a0 Z = true) (ws : (Cond.static y).before a0 Z = true) (wi : (Cond.initialized y.cls).before a0 Z = true) (wc : (Cond.code y bytes maxL ret).before a0 Z = true) (hy : y.cls ≠ "java/lang/invoke/MethodHandle" ∧ y.cls ≠ "java/lang/invoke/VarHandle")
    (hM : Met l Z y bytes maxL ret [] rm argsL.toArray h Qc) (eT : T.heap = h) (hf : rm.frames + 1 ≤ R.frames) (hl : W + (maxL + 11) + rm.locals ≤ R.locals) (hck : cells + rm.cells ≤ R.cells) (hsk : slots + rm.slots ≤ R.slots) (hsz : Ls.size = c.maxLocals)
    (hlen : ∀ sig, parseMethodDescriptor y.desc = some sig → argsL.length = sig.parameters.length) (hst : st = argsL.reverse ++ rest) (hW : (rest.map fun v => v.category).sum ≤ W) (hd : decode c.code pc = .ok (.invokestatic index, 3)) (hn : pc + 3 = n)
    (F : ∀ T' v L, Stand p l e R s m args below meth c T' (locs ++ L) (cells + rm.cells) (slots + rm.slots) → Qc v T'.heap L → Go p e below s Q K N T' (mkF m n Ls (v.toList ++ rest))) : Go p e below s Q K N T (mkF m pc Ls st) := by
  subst hn
  obtain ⟨v, _, ⟨T18, L18, k18, n18⟩, -, X18, ⟨Lc18, hQ18, l18, y18, z18⟩, st18⟩ := Jvm.LawKit.callS X hx (y := y) hown (mvT hZ wl) (mvT hZ ws) (mvT hZ wi) (mvT hZ wc) hy (backOf (W := W) hM hZ wc wi hf hl) (g := mkF m pc Ls st) rfl hsz (argsL := argsL) (rest := rest) hlen hst (by show 2 * 0 + _ ≤ _; omega) hd (fun _ _ => ⟨rfl, eT, hck, hsk⟩)
  dsimp only [Pt.U, Pt.locs, Pt.cells, Pt.slots] at X18 l18 y18 z18 st18 hQ18
  subst l18 y18 z18
  exact go (fun _ h => st18 _ h) (F T18 v Lc18 X18 hQ18)
theorem callP (X : Stand p l e R s m args below meth c T locs cells slots) (hx : p.tables.exec = Jvm.exec) (hZ : Z.Warmed39 s.vm) {own : String} {index : Nat} {y : MethodName} {bytes : ByteArray} {maxL W : Nat} {ret : Option FieldType} {fr lo : Nat} {w : Value} {argsL : List Value} (hown : s.vm.findClass own = some m.cls)
    (wl : (Cond.methodLink own index y).before a0 Z = true) (ws : (Cond.static y).before a0 Z = true) (wi : (Cond.initialized y.cls).before a0 Z = true) (wc : (Cond.code y bytes maxL ret).before a0 Z = true) (hy : y.cls ≠ "java/lang/invoke/MethodHandle" ∧ y.cls ≠ "java/lang/invoke/VarHandle")
    (hM : Met l Z y bytes maxL ret [] { frames := fr, cells := 0, slots := 0, locals := lo } argsL.toArray h (Pu w h)) (eT : T.heap = h) (hf : fr + 1 ≤ R.frames) (hl : W + (maxL + 11) + lo ≤ R.locals) (hck : cells ≤ R.cells) (hsk : slots ≤ R.slots) (hsz : Ls.size = c.maxLocals)
    (hlen : ∀ sig, parseMethodDescriptor y.desc = some sig → argsL.length = sig.parameters.length) (hst : st = argsL.reverse ++ rest) (hW : (rest.map fun v => v.category).sum ≤ W) (hd : decode c.code pc = .ok (.invokestatic index, 3)) (hn : pc + 3 = n)
    (F : ∀ T', Stand p l e R s m args below meth c T' locs cells slots → T'.heap = h → Go p e below s Q K N T' (mkF m n Ls (w :: rest))) : Go p e below s Q K N T (mkF m pc Ls st) := by
  refine callS X hx hZ hown wl ws wi wc hy hM eT hf hl hck hsk hsz hlen hst hW hd hn ?_
  rintro T' v L X' ⟨rfl, rfl, hh⟩
  rw [List.append_nil] at X'
  exact F T' X' hh
theorem callV (X : Stand p l e R s m args below meth c T locs cells slots) (hx : p.tables.exec = Jvm.exec) (hZ : Z.Warmed39 s.vm) {own C : String} {index : Nat} {y z : MethodName} {bytes : ByteArray} {maxL W : Nat} {ret : Option FieldType} {rm : Room} {Qc : Option Value → Heap → List Loc → Prop} {argsL : List Value} {a : Addr} (hown : s.vm.findClass own = some m.cls)
    (wl : (Cond.methodLink own index y).before a0 Z = true) (wd : (Cond.declares y).before a0 Z = true) (wsel : (Cond.selects C y z).before a0 Z = true) (wm : (Cond.instanceMethod z).before a0 Z = true) (wi : (Cond.initialized z.cls).before a0 Z = true) (wc : (Cond.code z bytes maxL ret).before a0 Z = true) (hnf : NotFace s y) (hy : y.cls ≠ "java/lang/invoke/MethodHandle" ∧ y.cls ≠ "java/lang/invoke/VarHandle")
    (hM : Met l Z z bytes maxL ret [] rm (Value.ref a :: argsL).toArray h Qc) (eT : T.heap = h) (E : Exa Z h a C) (hf : rm.frames + 1 ≤ R.frames) (hl : W + (maxL + 11) + rm.locals ≤ R.locals) (hck : cells + rm.cells ≤ R.cells) (hsk : slots + rm.slots ≤ R.slots) (hsz : Ls.size = c.maxLocals)
    (hlen : ∀ sig, parseMethodDescriptor y.desc = some sig → argsL.length = sig.parameters.length) (hst : st = argsL.reverse ++ .ref a :: rest) (hW : (rest.map fun v => v.category).sum ≤ W) (hd : decode c.code pc = .ok (.invokevirtual index, 3)) (hn : pc + 3 = n)
    (F : ∀ T' v L, Stand p l e R s m args below meth c T' (locs ++ L) (cells + rm.cells) (slots + rm.slots) → Qc v T'.heap L → Go p e below s Q K N T' (mkF m n Ls (v.toList ++ rest))) : Go p e below s Q K N T (mkF m pc Ls st) := by
  subst hn
  obtain ⟨cq, kq, qa, qb, qc⟩ := isOf hZ eT E
  obtain ⟨v, _, ⟨T18, L18, k18, n18⟩, -, X18, ⟨Lc18, hQ18, l18, y18, z18⟩, st18⟩ := X.virtualBack hx (y := y) (z := z) hown (mvT hZ wl) (mvT hZ wd) hnf (mvT hZ wsel) (mvT hZ wm) hy (backOf (W := W) hM hZ wc wi hf hl) qa qc (g := mkF m pc Ls st) rfl hsz (Steps.refl _) (argsL := argsL) (rest := rest) hlen hst (by show 2 * 0 + _ ≤ _; omega) hd (fun _ _ => ⟨rfl, eT, hck, hsk⟩)
  dsimp only [Pt.U, Pt.locs, Pt.cells, Pt.slots] at X18 l18 y18 z18 st18 hQ18
  subst l18 y18 z18
  exact go (fun _ h => st18.trans h) (F T18 v Lc18 X18 hQ18)
theorem callVP (X : Stand p l e R s m args below meth c T locs cells slots) (hx : p.tables.exec = Jvm.exec) (hZ : Z.Warmed39 s.vm) {own C : String} {index : Nat} {y z : MethodName} {bytes : ByteArray} {maxL W : Nat} {ret : Option FieldType} {fr lo : Nat} {w : Value} {argsL : List Value} {a : Addr} (hown : s.vm.findClass own = some m.cls)
    (wl : (Cond.methodLink own index y).before a0 Z = true) (wd : (Cond.declares y).before a0 Z = true) (wsel : (Cond.selects C y z).before a0 Z = true) (wm : (Cond.instanceMethod z).before a0 Z = true) (wi : (Cond.initialized z.cls).before a0 Z = true) (wc : (Cond.code z bytes maxL ret).before a0 Z = true) (hnf : NotFace s y) (hy : y.cls ≠ "java/lang/invoke/MethodHandle" ∧ y.cls ≠ "java/lang/invoke/VarHandle")
    (hM : Met l Z z bytes maxL ret [] { frames := fr, cells := 0, slots := 0, locals := lo } (Value.ref a :: argsL).toArray h (Pu w h)) (eT : T.heap = h) (E : Exa Z h a C) (hf : fr + 1 ≤ R.frames) (hl : W + (maxL + 11) + lo ≤ R.locals) (hck : cells ≤ R.cells) (hsk : slots ≤ R.slots) (hsz : Ls.size = c.maxLocals)
    (hlen : ∀ sig, parseMethodDescriptor y.desc = some sig → argsL.length = sig.parameters.length) (hst : st = argsL.reverse ++ .ref a :: rest) (hW : (rest.map fun v => v.category).sum ≤ W) (hd : decode c.code pc = .ok (.invokevirtual index, 3)) (hn : pc + 3 = n)
    (F : ∀ T', Stand p l e R s m args below meth c T' locs cells slots → T'.heap = h → Go p e below s Q K N T' (mkF m n Ls (w :: rest))) : Go p e below s Q K N T (mkF m pc Ls st) := by
  refine callV X hx hZ hown wl wd wsel wm wi wc hnf hy hM eT E hf hl hck hsk hsz hlen hst hW hd hn ?_
  rintro T' v L X' ⟨rfl, rfl, hh⟩
  rw [List.append_nil] at X'
  exact F T' X' hh
theorem icmp_eqB (X : Stand p l e R s m args below meth c T locs cells slots) (hx : p.tables.exec = Jvm.exec) {P P' : Prop} [Decidable P] [Decidable P'] {o : Int} (t n : Nat) (hd : decode c.code pc = .ok (.if_icmp .eq o, 3)) (ht : (pc : Int) + o = t) (hn : pc + 3 = n) (FT : (P ↔ P') → Go p e below s Q K N T (mkF m t Ls rest)) (FF : ¬ (P ↔ P') → Go p e below s Q K N T (mkF m n Ls rest)) : Go p e below s Q K N T (mkF m pc Ls (.int (b P') :: .int (b P) :: rest)) :=
  icmp_eq X hx t n hd ht hn rfl rfl (fun q => FT (b_inj (Int32.toInt_inj.mp q))) (fun q => FF fun z => q (by rw [b_iff z]))
theorem tsw (X : Stand p l e R s m args below meth c T locs cells slots) (hx : p.tables.exec = Jvm.exec) {dflt low high : Int} {offs : Array Int} {len : Nat} {o : Int} {i : Int32} (t : Nat) (hd : decode c.code pc = .ok (.tableswitch dflt low high offs, len)) (hin : ¬ (i.toInt < low ∨ i.toInt > high)) (hoff : offs[(i.toInt - low).toNat]? = some o) (ht : (pc : Int) + o = t) (F : Go p e below s Q K N T (mkF m t Ls rest)) : Go p e below s Q K N T (mkF m pc Ls (.int i :: rest)) :=
  go (fun _ h => XS.tswIn X.here hx rfl (pc0 := pc) (pc' := t) rfl hd rfl hin hoff (by rw [ht]; exact Int.natCast_nonneg _) (by rw [ht]; rfl) h) F
theorem callVU (X : Stand p l e R s m args below meth c T locs cells slots) (hx : p.tables.exec = Jvm.exec) (hZ : Z.Warmed39 s.vm) {own C owner : String} {index : Nat} {y z : MethodName} {bytes : ByteArray} {maxL W : Nat} {ret : Option FieldType} {rm : Room} {Qc : Option Value → Heap → List Loc → Prop} {argsL : List Value} {a : Addr} (hown : s.vm.findClass own = some m.cls)
    (wl : (Cond.methodLink own index y).before a0 Z = true) (wsm : (Cond.sameMethod y.cls owner y.name y.desc).before a0 Z = true) (wd : (Cond.declares ⟨owner, y.name, y.desc⟩).before a0 Z = true) (wsel : (Cond.selects C y z).before a0 Z = true) (wm : (Cond.instanceMethod z).before a0 Z = true) (wi : (Cond.initialized z.cls).before a0 Z = true) (wc : (Cond.code z bytes maxL ret).before a0 Z = true) (hy : owner ≠ "java/lang/invoke/MethodHandle" ∧ owner ≠ "java/lang/invoke/VarHandle")
    (hM : Met l Z z bytes maxL ret [] rm (Value.ref a :: argsL).toArray h Qc) (eT : T.heap = h) (E : Exa Z h a C) (hf : rm.frames + 1 ≤ R.frames) (hl : W + (maxL + 11) + rm.locals ≤ R.locals) (hck : cells + rm.cells ≤ R.cells) (hsk : slots + rm.slots ≤ R.slots) (hsz : Ls.size = c.maxLocals)
    (hlen : ∀ sig, parseMethodDescriptor y.desc = some sig → argsL.length = sig.parameters.length) (hst : st = argsL.reverse ++ .ref a :: rest) (hW : (rest.map fun v => v.category).sum ≤ W) (hd : decode c.code pc = .ok (.invokevirtual index, 3)) (hn : pc + 3 = n)
    (F : ∀ T' v L, Stand p l e R s m args below meth c T' (locs ++ L) (cells + rm.cells) (slots + rm.slots) → Qc v T'.heap L → Go p e below s Q K N T' (mkF m n Ls (v.toList ++ rest))) : Go p e below s Q K N T (mkF m pc Ls st) := by
  subst hn
  obtain ⟨cq, kq, qa, qb, qc⟩ := isOf hZ eT E
  obtain ⟨v, _, ⟨T18, L18, k18, n18⟩, -, X18, ⟨Lc18, hQ18, l18, y18, z18⟩, st18⟩ := X.virtualBackUp hx (x := y) (y := z) hown (mvT hZ wl) (mvT hZ wsm) (mvT hZ wd) hy (mvT hZ wsel) (mvT hZ wm) (backOf (W := W) hM hZ wc wi hf hl) qa qc (g := mkF m pc Ls st) rfl hsz (Steps.refl _) (argsL := argsL) (rest := rest) hlen hst (by show 2 * 0 + _ ≤ _; omega) hd (fun _ _ => ⟨rfl, eT, hck, hsk⟩)
  dsimp only [Pt.U, Pt.locs, Pt.cells, Pt.slots] at X18 l18 y18 z18 st18 hQ18
  subst l18 y18 z18
  exact go (fun _ h => st18.trans h) (F T18 v Lc18 X18 hQ18)
theorem callVUP (X : Stand p l e R s m args below meth c T locs cells slots) (hx : p.tables.exec = Jvm.exec) (hZ : Z.Warmed39 s.vm) {own C owner : String} {index : Nat} {y z : MethodName} {bytes : ByteArray} {maxL W : Nat} {ret : Option FieldType} {fr lo : Nat} {w : Value} {argsL : List Value} {a : Addr} (hown : s.vm.findClass own = some m.cls)
    (wl : (Cond.methodLink own index y).before a0 Z = true) (wsm : (Cond.sameMethod y.cls owner y.name y.desc).before a0 Z = true) (wd : (Cond.declares ⟨owner, y.name, y.desc⟩).before a0 Z = true) (wsel : (Cond.selects C y z).before a0 Z = true) (wm : (Cond.instanceMethod z).before a0 Z = true) (wi : (Cond.initialized z.cls).before a0 Z = true) (wc : (Cond.code z bytes maxL ret).before a0 Z = true) (hy : owner ≠ "java/lang/invoke/MethodHandle" ∧ owner ≠ "java/lang/invoke/VarHandle")
    (hM : Met l Z z bytes maxL ret [] { frames := fr, cells := 0, slots := 0, locals := lo } (Value.ref a :: argsL).toArray h (Pu w h)) (eT : T.heap = h) (E : Exa Z h a C) (hf : fr + 1 ≤ R.frames) (hl : W + (maxL + 11) + lo ≤ R.locals) (hck : cells ≤ R.cells) (hsk : slots ≤ R.slots) (hsz : Ls.size = c.maxLocals)
    (hlen : ∀ sig, parseMethodDescriptor y.desc = some sig → argsL.length = sig.parameters.length) (hst : st = argsL.reverse ++ .ref a :: rest) (hW : (rest.map fun v => v.category).sum ≤ W) (hd : decode c.code pc = .ok (.invokevirtual index, 3)) (hn : pc + 3 = n)
    (F : ∀ T', Stand p l e R s m args below meth c T' locs cells slots → T'.heap = h → Go p e below s Q K N T' (mkF m n Ls (w :: rest))) : Go p e below s Q K N T (mkF m pc Ls st) := by
  refine callVU X hx hZ hown wl wsm wd wsel wm wi wc hy hM eT E hf hl hck hsk hsz hlen hst hW hd hn ?_
  rintro T' v L X' ⟨rfl, rfl, hh⟩
  rw [List.append_nil] at X'
  exact F T' X' hh
theorem cutF (g' : JFrame) {g : JFrame} (h1 : Go p e below s Q K N T g' → Go p e below s Q K N T g) (h2 : Go p e below s Q K N T g') : Go p e below s Q K N T g := h1 h2
theorem cutJ (g' : Int32 → JFrame) {g : JFrame} (h1 : (∀ j, Go p e below s Q K N T (g' j)) → Go p e below s Q K N T g) (h2 : ∀ j, Go p e below s Q K N T (g' j)) : Go p e below s Q K N T g := h1 h2
theorem cutX (X : Stand p l e R s m args below meth c T locs cells slots) (eT : T.heap = h) (g' : JFrame) {g : JFrame} (h1 : (∀ T', Stand p l e R s m args below meth c T' locs cells slots → T'.heap = h → Go p e below s Q K N T' g') → Go p e below s Q K N T g) (h2 : ∀ T', Stand p l e R s m args below meth c T' locs cells slots → T'.heap = h → Go p e below s Q K N T' g') : Go p e below s Q K N T g := h1 h2
theorem pu {w : Value} {h' : Heap} (e : h' = h) : Pu w h (some w) h' [] := ⟨rfl, rfl, e⟩
theorem puE {w w' : Value} {h' : Heap} (q : w' = w) (e : h' = h) : Pu w h (some w') h' [] := ⟨by rw [q], rfl, e⟩
theorem puB1 {P : Prop} [Decidable P] {h' : Heap} (hP : P) (e : h' = h) : Pu (.int (b P)) h (some (.int 1)) h' [] := ⟨by rw [b_t hP], rfl, e⟩
theorem puB0 {P : Prop} [Decidable P] {h' : Heap} (hP : ¬ P) (e : h' = h) : Pu (.int (b P)) h (some (.int 0)) h' [] := ⟨by rw [b_f hP], rfl, e⟩
end W
section A
theorem t_add {x y : Int32} {a b' : Int} (ha : x.toInt = a) (hb : y.toInt = b') (h1 : -2147483648 ≤ a + b') (h2 : a + b' < 2147483648) : (x + y).toInt = a + b' := by
  subst ha hb; rw [Int32.toInt_add]; exact Int.bmod_eq_of_le (by omega) (by omega)
theorem t_sub {x y : Int32} {a b' : Int} (ha : x.toInt = a) (hb : y.toInt = b') (h1 : -2147483648 ≤ a - b') (h2 : a - b' < 2147483648) : (x - y).toInt = a - b' := by
  subst ha hb; rw [Int32.toInt_sub]; exact Int.bmod_eq_of_le (by omega) (by omega)
theorem t_mul {x y : Int32} {a b' : Int} (ha : x.toInt = a) (hb : y.toInt = b') (h1 : -2147483648 ≤ a * b') (h2 : a * b' < 2147483648) : (x * y).toInt = a * b' := by
  subst ha hb; rw [Int32.toInt_mul]; exact Int.bmod_eq_of_le (by omega) (by omega)
theorem t_div {x y : Int32} {a d : Int} (ha : x.toInt = a) (hb : y.toInt = d) (h0 : 0 ≤ a) (hd : 0 < d) : (x / y).toInt = a / d := by
  subst ha hb
  have hy : y ≠ -1 := fun q => by rw [q] at hd; exact absurd hd (by decide)
  exact (c_idiv x y _ rfl hy).1 h0
theorem t_rem {x y : Int32} {a d : Int} (ha : x.toInt = a) (hb : y.toInt = d) (h0 : 0 ≤ a) : (x % y).toInt = a % d := by
  subst ha hb; exact (c_irem x y _ rfl).1 h0
theorem s_add {x y : Int64} {a b' : Int} (ha : x.toInt = a) (hb : y.toInt = b') (h1 : -9223372036854775808 ≤ a + b') (h2 : a + b' < 9223372036854775808) : (x + y).toInt = a + b' := by
  subst ha hb; rw [Int64.toInt_add]; exact Int.bmod_eq_of_le (by omega) (by omega)
theorem s_sub {x y : Int64} {a b' : Int} (ha : x.toInt = a) (hb : y.toInt = b') (h1 : -9223372036854775808 ≤ a - b') (h2 : a - b' < 9223372036854775808) : (x - y).toInt = a - b' := by
  subst ha hb; rw [Int64.toInt_sub]; exact Int.bmod_eq_of_le (by omega) (by omega)
theorem t_i2l {x : Int32} {a : Int} (ha : x.toInt = a) : x.toInt64.toInt = a := by rw [Int32.toInt_toInt64]; exact ha
theorem s_l2i {x : Int64} {a : Int} (ha : x.toInt = a) (h1 : -2147483648 ≤ a) (h2 : a < 2147483648) : x.toInt32.toInt = a := by
  have := c_l2i x; have h3 := x.toInt32.toInt_lt; have h4 := x.toInt32.le_toInt; omega
theorem t_i2s {x : Int32} {a : Int} (ha : x.toInt = a) (h1 : -32768 ≤ a) (h2 : a < 32768) : x.toInt16.toInt32.toInt = a := by
  have := c_i2s x; omega
end A
section V
variable {args : Array Value} {first s : State} {o : Option Outcome} {idx : List Nat} {t : Term}
theorem eqI_v {k : Int32} (h : (Cond.eq t (.int k)).value args first o s idx = some true) : t.eval args first o idx s = some (.int k) := by
  simp only [Cond.value, Term.eval] at h
  cases ht : t.eval args first o idx s with
  | none => simp [ht] at h
  | some x => cases x <;> simp [ht] at h ⊢; exact h
theorem eqJ_v {k : Int64} (h : (Cond.eq t (.long k)).value args first o s idx = some true) : t.eval args first o idx s = some (.long k) := by
  simp only [Cond.value, Term.eval] at h
  cases ht : t.eval args first o idx s with
  | none => simp [ht] at h
  | some x => cases x <;> simp [ht] at h ⊢; exact h
theorem foldl_all {f : Nat → Option Bool} : ∀ (L : List Nat) (acc : Option Bool), L.foldl (fun acc i => match acc with | some true => f i | x => x) acc = some true → acc = some true ∧ ∀ i ∈ L, f i = some true
  | [], acc, h => ⟨h, fun _ q => nomatch q⟩
  | i :: L, acc, h => by
    obtain ⟨h1, h2⟩ := foldl_all L _ h
    match acc, h1 with
    | some true, h1 => exact ⟨rfl, fun j q => (List.mem_cons.mp q).elim (fun z => z ▸ h1) (h2 j)⟩
theorem all_v {c : Cond} {a : Addr} {cell : Cell} (h : (Cond.all t c).value args first o s idx = some true) (ht : t.eval args first o idx s = some (.ref a)) (hc : s.arrayAt? a = some cell) : ∀ i, i < cell.slots.size → c.value args first o s (i :: idx) = some true := by
  simp only [Cond.value, ht, hc] at h
  exact fun i hi => (foldl_all _ _ h).2 i (List.mem_range.mpr hi)
theorem elI {x : Addr} {j k : Int32} {cl : Cell} {i : Nat} (h : (Cond.eq (.elem t (.int j)) (.int k)).value args first o s idx = some true) (ht : t.eval args first o idx s = some (.ref x)) (hc : s.heap[x]? = some cl) (hi : j.toNatClampNeg = i) : cl.slots[i]? = some (.int k) := by
  subst hi; exact (elem_in (eqI_v h) ht rfl hc).2
theorem elN {x : Addr} {j : Int32} {cl : Cell} {i : Nat} (h : (Cond.eq (.elem t (.int j)) .null).value args first o s idx = some true) (ht : t.eval args first o idx s = some (.ref x)) (hc : s.heap[x]? = some cl) (hi : j.toNatClampNeg = i) : cl.slots[i]? = some .null := by
  subst hi; exact (elem_in (null_v h) ht rfl hc).2
theorem eqR_v {t' : Term} {v : Value} (hv : v.isRef = true) (h : (Cond.eq t t').value args first o s idx = some true) (ht : t'.eval args first o idx s = some v) : t.eval args first o idx s = some v := by
  obtain ⟨x, y, e1, e2, k1, k2⟩ := cmp_v (Or.inl h)
  cases ht.symm.trans e2
  have hx : x.isRef = true := by rcases ref_cases hv with rfl | ⟨z, rfl⟩ <;> exact k2.2
  rw [e1, gotT (eq_R e1 e2 hx hv) h]
theorem elR {x y : Addr} {j : Int32} {cl : Cell} {i : Nat} {t' : Term} (h : (Cond.eq (.elem t (.int j)) t').value args first o s idx = some true) (hy : t'.eval args first o idx s = some (.ref y)) (ht : t.eval args first o idx s = some (.ref x)) (hc : s.heap[x]? = some cl) (hi : j.toNatClampNeg = i) : cl.slots[i]? = some (.ref y) := by
  subst hi; exact (elem_in (eqR_v rfl h hy) ht rfl hc).2
theorem or_f {c d : Cond} (h : (Cond.or c d).value args first o s idx = some true) (hc : c.value args first o s idx = some false) : d.value args first o s idx = some true := by
  simpa only [Cond.value, hc] using h
theorem len_fit {x : Addr} {cl : Cell} {ty : FieldType} {k : Int32} {Z : State} (h : (Cond.eq (.length t) (.int k)).value args Z none Z [] = some true) (ht : t.eval args Z none [] Z = some (.ref x)) (A : Arr Z Z.heap x cl ty) : cl.slots.size < 2 ^ 31 ∧ cl.slots.size.toInt32 = k := by
  have h1 := eqI_v h
  have h2 : Z.arrayAt? x = some cl := A.fin (Vm.Alike.refl _)
  simp only [Term.eval, ht, h2, Option.bind_eq_bind, Option.bind_some] at h1
  by_cases q : cl.slots.size < 2 ^ 31
  · simp [q] at h1; exact ⟨q, h1⟩
  · simp [q] at h1
theorem fldI {Z : State} {a : Addr} {C n d : String} {k : Int32} (ev : t.eval args Z none [] Z = some (.ref a)) (h : (Cond.eq (.field t C n d) (.int k)).value args Z none Z [] = some true) : Fld Z Z.heap a C n d (.int k) := Fld.start ((fld_at ev).symm.trans (eqI_v h))
theorem fldJ {Z : State} {a : Addr} {C n d : String} {k : Int64} (ev : t.eval args Z none [] Z = some (.ref a)) (h : (Cond.eq (.field t C n d) (.long k)).value args Z none Z [] = some true) : Fld Z Z.heap a C n d (.long k) := Fld.start ((fld_at ev).symm.trans (eqJ_v h))
end V

section H
variable {p : Program} {l : Launch} {e : Env} {R : Room} {s : State} {m : MethodId} {args : Array Value} {below : List Frame} {meth : Method} {c : Code} {T T' : State} {locs : List Loc} {cells slots : Nat} {Q : Option Value → Heap → List Loc → Prop} {K N pc n t : Nat} {Ls l' : Array Slot} {st rest : List Value} {Z : State} {a0 : Array Value} {h : Heap}
/-- a law that writes only what it made -/
def Fq (w : Value) (n0 : Nat) (v : Option Value) (h : Heap) (L : List Loc) : Prop := v = some w ∧ Fr n0 L
theorem newO (X : Stand p l e R s m args below meth c T locs cells slots) (hx : p.tables.exec = Jvm.exec) (hZ : Z.Warmed39 s.vm) {own C : String} {index k : Nat} (hown : s.vm.findClass own = some m.cls) (w : (Cond.classLink own index C).before a0 Z = true) (wi : (Cond.instantiable C k).before a0 Z = true) (wz : (Cond.initialized C).before a0 Z = true) (eT : T.heap = h) (hd : decode c.code pc = .ok (.new index, 3)) (hc : cells + 1 ≤ R.cells) (hl : slots + k ≤ R.slots) (hn : pc + 3 = n)
    (F : ∀ T' h', Stand p l e R s m args below meth c T' locs (cells + 1) (slots + k) → T'.heap = h' → Ext h h' → Exa Z h' h.size C → (∀ {O nm d : String} {ty : FieldType}, Laid Z a0 C O nm d → parseFieldDescriptor d = some ty → Fld Z h' h.size O nm d (defaultValue ty)) → Go p e below s Q K N T' (mkF m n Ls (.ref h.size :: st))) : Go p e below s Q K N T (mkF m pc Ls st) := by
  subst hn
  obtain ⟨T2, h2, X2, e2, E2, A2, D2, -, st2⟩ := RoadKit.newO X hx hZ hown w wi wz eT (g := mkF m pc Ls st) rfl hd hc hl
  exact go (fun _ h => st2 _ h) (F T2 h2 X2 e2 E2 A2 D2)
theorem putF (X : Stand p l e R s m args below meth c T locs cells slots) (hx : p.tables.exec = Jvm.exec) (hZ : Z.Warmed39 s.vm) {own O f d host C : String} {index kk : Nat} {ty : FieldType} (hown : s.vm.findClass own = some m.cls) (w : (Cond.fieldLink own index O f d).before a0 Z = true ∨ (Cond.fieldLinkNest own index O f d host).before a0 Z = true) (eT : T.heap = h) {a : Addr} {v old : Value} (S : Fld Z h a O f d old) (E : Exa Z h a C)
    (L : (Cond.lays C O f d).before a0 Z = true ∨ ((Cond.laysFinal C O f d).before a0 Z = true ∧ own = O ∧ meth.name = "<init>")) (wi : (Cond.instantiable C kk).before a0 Z = true) (hty : parseFieldDescriptor d = some ty) (hnr : narrow ty v = v) (hf : fits ty v = true) (hd : decode c.code pc = .ok (.putfield index, 3)) (hn : pc + 3 = n)
    (F : ∀ T' h', Stand p l e R s m args below meth c T' (locs ++ [⟨a, RoadKit.slotOf Z O f d⟩]) cells slots → T'.heap = h' → Wr h h' a (RoadKit.slotOf Z O f d) v → Go p e below s Q K N T' (mkF m n Ls st)) : Go p e below s Q K N T (mkF m pc Ls (v :: .ref a :: st)) := by
  subst hn
  obtain ⟨T2, h2, X2, e2, W2, st2⟩ := RoadKit.putF X hx hZ hown (host := host) w Via.refl eT S E L wi hty hnr hf (g := mkF m pc Ls (v :: .ref a :: st)) rfl rfl hd
  exact go (fun _ h => st2 _ h) (F T2 h2 X2 e2 W2)
theorem initO (X : Stand p l e R s m args below meth c T locs cells slots) (hx : p.tables.exec = Jvm.exec) (hZ : Z.Warmed39 s.vm) {own : String} {idx W : Nat} (hown : s.vm.findClass own = some m.cls) (w1 : (Cond.methodLink own idx Lib.objectInit).before a0 Z = true) (w2 : (Cond.instanceMethod Lib.objectInit).before a0 Z = true) (w3 : (Cond.code Lib.objectInit ⟨#[0xb1]⟩ 1 none).before a0 Z = true) (eT : T.heap = h) {a : Addr} (hsz : Ls.size = c.maxLocals) (hf : 1 ≤ R.frames) (hW : (st.map fun v => v.category).sum ≤ W) (hl : W + 12 ≤ R.locals) (hd : decode c.code pc = .ok (.invokespecial idx, 3)) (hn : pc + 3 = n)
    (F : ∀ T', Stand p l e R s m args below meth c T' locs cells slots → T'.heap = h → Go p e below s Q K N T' (mkF m n Ls st)) : Go p e below s Q K N T (mkF m pc Ls (.ref a :: st)) := by
  subst hn
  obtain ⟨T2, X2, e2, st2⟩ := RoadKit.initO X hx hZ hown w1 w2 w3 eT (g := mkF m pc Ls (.ref a :: st)) rfl hsz rfl hd hf (W := W) (by show 2 * 0 + _ ≤ _; omega) hl
  exact go (fun _ h => st2 _ h) (F T2 X2 e2)
theorem callI (X : Stand p l e R s m args below meth c T locs cells slots) (hx : p.tables.exec = Jvm.exec) (hZ : Z.Warmed39 s.vm) {own : String} {index : Nat} {y : MethodName} {bytes : ByteArray} {maxL W : Nat} {rm : Room} {Qc : Option Value → Heap → List Loc → Prop} {argsL : List Value} {a : Addr} (hy1 : y.name = "<init>") (hown : s.vm.findClass own = some m.cls)
    (wl : (Cond.methodLink own index y).before a0 Z = true) (wm : (Cond.instanceMethod y).before a0 Z = true) (wi : (Cond.initialized y.cls).before a0 Z = true) (wc : (Cond.code y bytes maxL none).before a0 Z = true) (hy : y.cls ≠ "java/lang/invoke/MethodHandle" ∧ y.cls ≠ "java/lang/invoke/VarHandle")
    (hM : Met l Z y bytes maxL none [] rm (Value.ref a :: argsL).toArray h Qc) (eT : T.heap = h) (hf : rm.frames + 1 ≤ R.frames) (hl : W + (maxL + 11) + rm.locals ≤ R.locals) (hck : cells + rm.cells ≤ R.cells) (hsk : slots + rm.slots ≤ R.slots) (hsz : Ls.size = c.maxLocals)
    (hlen : ∀ sig, parseMethodDescriptor y.desc = some sig → argsL.length = sig.parameters.length) (hst : st = argsL.reverse ++ .ref a :: rest) (hW : (rest.map fun v => v.category).sum ≤ W) (hd : decode c.code pc = .ok (.invokespecial index, 3)) (hn : pc + 3 = n)
    (F : ∀ T' v L, Stand p l e R s m args below meth c T' (locs ++ L) (cells + rm.cells) (slots + rm.slots) → Qc v T'.heap L → Go p e below s Q K N T' (mkF m n Ls (v.toList ++ rest))) : Go p e below s Q K N T (mkF m pc Ls st) := by
  subst hn
  obtain ⟨v, _, ⟨T18, L18, k18, n18⟩, -, X18, ⟨Lc18, hQ18, l18, y18, z18⟩, st18⟩ := X.specialBack hx (y := y) hy1 hown (mvT hZ wl) (mvT hZ wm) (mvT hZ wc) hy (backOf (W := W) hM hZ wc wi hf hl) (g := mkF m pc Ls st) rfl hsz (Steps.refl _) (a := a) (argsL := argsL) (rest := rest) hlen hst (by show 2 * 0 + _ ≤ _; omega) hd (fun _ _ => ⟨rfl, eT, hck, hsk⟩)
  dsimp only [Pt.U, Pt.locs, Pt.cells, Pt.slots] at X18 l18 y18 z18 st18 hQ18
  subst l18 y18 z18
  exact go (fun _ h => st18.trans h) (F T18 v Lc18 X18 hQ18)
theorem instY (X : Stand p l e R s m args below meth c T locs cells slots) (hx : p.tables.exec = Jvm.exec) (hZ : Z.Warmed39 s.vm) {own C : String} {index : Nat} (hown : s.vm.findClass own = some m.cls) (w : (Cond.classLink own index C).before a0 Z = true) (eT : T.heap = h) {a : Addr} (E : Exa Z h a C) (hd : decode c.code pc = .ok (.instanceof index, 3)) (hn : pc + 3 = n)
    (F : ∀ T', Stand p l e R s m args below meth c T' locs cells slots → T'.heap = h → Go p e below s Q K N T' (mkF m n Ls (.int 1 :: st))) : Go p e below s Q K N T (mkF m pc Ls (.ref a :: st)) := by
  subst hn
  obtain ⟨T2, X2, e2, st2⟩ := RoadKit.instY X hx hZ hown w eT (Ins.self E) (g := mkF m pc Ls (.ref a :: st)) rfl rfl hd
  exact go (fun _ h => st2 _ h) (F T2 X2 e2)
theorem castY (X : Stand p l e R s m args below meth c T locs cells slots) (hx : p.tables.exec = Jvm.exec) (hZ : Z.Warmed39 s.vm) {own C : String} {index : Nat} (hown : s.vm.findClass own = some m.cls) (w : (Cond.classLink own index C).before a0 Z = true) (eT : T.heap = h) {a : Addr} (E : Exa Z h a C) (hd : decode c.code pc = .ok (.checkcast index, 3)) (hn : pc + 3 = n)
    (F : ∀ T', Stand p l e R s m args below meth c T' locs cells slots → T'.heap = h → Go p e below s Q K N T' (mkF m n Ls (.ref a :: st))) : Go p e below s Q K N T (mkF m pc Ls (.ref a :: st)) := by
  subst hn
  obtain ⟨T2, X2, e2, st2⟩ := RoadKit.castY X hx hZ hown w eT (Ins.self E) (g := mkF m pc Ls (.ref a :: st)) rfl rfl hd
  exact go (fun _ h => st2 _ h) (F T2 X2 e2)
theorem newP (X : Stand p l e R s m args below meth c T locs cells slots) (hx : p.tables.exec = Jvm.exec) (hZ : Z.Warmed39 s.vm) {aty : ArrayType} {ty : FieldType} (hty : newarray.typeOf aty = ty) (w : (Cond.arrayClass ty).before a0 Z = true) (eT : T.heap = h) {z : Int32} (hz : ¬ z < 0) (cap : Nat) (hcap : z.toNatClampNeg = cap) (hb : cap * 8 ≤ 536870912) (hc : cells + 1 ≤ R.cells) (hl : slots + cap ≤ R.slots) (hd : decode c.code pc = .ok (.newarray aty, 2)) (hn : pc + 2 = n)
    (F : ∀ T' h' cA, Stand p l e R s m args below meth c T' locs (cells + 1) (slots + cap) → T'.heap = h' → Ext h h' → Arv Z h' h.size cA ty z (List.replicate cap (defaultValue ty)) (defaultValue ty) → Go p e below s Q K N T' (mkF m n Ls (.ref h.size :: st))) : Go p e below s Q K N T (mkF m pc Ls (.int z :: st)) := by
  subst hn hty
  obtain ⟨T2, h2, cA, X2, e2, E2, A2, st2⟩ := RoadKit.newP X hx hZ w eT (g := mkF m pc Ls (.int z :: st)) rfl hd rfl hz (cap := cap) (Nat.le_of_eq hcap) hb hc hl
  exact go (fun _ h => st2 _ h) (F T2 h2 cA X2 e2 E2 ((Arv.new A2 hz).pad (pad_rep [] _ cap)))

theorem bastore (X : Stand p l e R s m args below meth c T locs cells slots) (hx : p.tables.exec = Jvm.exec) (hZ : Z.Warmed39 s.vm) {a : Addr} {k : ClassId} {z j x : Int32} {vs : List Value} {d : Value} (eT : T.heap = h) (A : Arv Z h a k .byte z vs d) (h1 : 0 ≤ j.toInt) (h2 : j.toInt < z.toInt) (i : Nat) (hj : j.toNatClampNeg = i) (hi : i < vs.length) (hd : decode c.code pc = .ok (.bastore, 1)) (hn : pc + 1 = n)
    (F : ∀ T' h', Stand p l e R s m args below meth c T' (locs ++ [⟨a, j.toNatClampNeg⟩]) cells slots → T'.heap = h' → Wr h h' a j.toNatClampNeg (.int (nar .byte x)) → Arv Z h' a k .byte z (vs.set i (.int (nar .byte x))) d → Go p e below s Q K N T' (mkF m n Ls st)) : Go p e below s Q K N T (mkF m pc Ls (.int x :: .int j :: .ref a :: st)) := by
  subst hn
  obtain ⟨cl, Ar, q1, S, q3, H, G'⟩ := A
  obtain ⟨T2, h2', X2, e2, W2, st2⟩ := RoadKit.stB X hx hZ eT Ar (in_of S q3 h1 h2) (g := mkF m pc Ls (.int x :: .int j :: .ref a :: st)) rfl rfl hd
  exact go (fun _ h => st2 _ h) (F T2 h2' X2 e2 W2 (Arv.set Ar q1 S q3 H G' (fits_nar_byte x) W2 i hj hi))
theorem castore (X : Stand p l e R s m args below meth c T locs cells slots) (hx : p.tables.exec = Jvm.exec) (hZ : Z.Warmed39 s.vm) {a : Addr} {k : ClassId} {z j x : Int32} {vs : List Value} {d : Value} (eT : T.heap = h) (A : Arv Z h a k .char z vs d) (h1 : 0 ≤ j.toInt) (h2 : j.toInt < z.toInt) (i : Nat) (hj : j.toNatClampNeg = i) (hi : i < vs.length) (hd : decode c.code pc = .ok (.castore, 1)) (hn : pc + 1 = n)
    (F : ∀ T' h', Stand p l e R s m args below meth c T' (locs ++ [⟨a, j.toNatClampNeg⟩]) cells slots → T'.heap = h' → Wr h h' a j.toNatClampNeg (.int (nar .char x)) → Arv Z h' a k .char z (vs.set i (.int (nar .char x))) d → Go p e below s Q K N T' (mkF m n Ls st)) : Go p e below s Q K N T (mkF m pc Ls (.int x :: .int j :: .ref a :: st)) := by
  subst hn
  obtain ⟨cl, Ar, q1, S, q3, H, G'⟩ := A
  obtain ⟨T2, h2', X2, e2, W2, st2⟩ := RoadKit.stC X hx hZ eT Ar (in_of S q3 h1 h2) (g := mkF m pc Ls (.int x :: .int j :: .ref a :: st)) rfl rfl hd
  exact go (fun _ h => st2 _ h) (F T2 h2' X2 e2 W2 (Arv.set Ar q1 S q3 H G' (fits_nar_char x) W2 i hj hi))
theorem iastore (X : Stand p l e R s m args below meth c T locs cells slots) (hx : p.tables.exec = Jvm.exec) (hZ : Z.Warmed39 s.vm) {a : Addr} {k : ClassId} {z j x : Int32} {vs : List Value} {d : Value} (eT : T.heap = h) (A : Arv Z h a k .int z vs d) (h1 : 0 ≤ j.toInt) (h2 : j.toInt < z.toInt) (i : Nat) (hj : j.toNatClampNeg = i) (hi : i < vs.length) (hd : decode c.code pc = .ok (.iastore, 1)) (hn : pc + 1 = n)
    (F : ∀ T' h', Stand p l e R s m args below meth c T' (locs ++ [⟨a, j.toNatClampNeg⟩]) cells slots → T'.heap = h' → Wr h h' a j.toNatClampNeg (.int (x)) → Arv Z h' a k .int z (vs.set i (.int (x))) d → Go p e below s Q K N T' (mkF m n Ls st)) : Go p e below s Q K N T (mkF m pc Ls (.int x :: .int j :: .ref a :: st)) := by
  subst hn
  obtain ⟨cl, Ar, q1, S, q3, H, G'⟩ := A
  obtain ⟨T2, h2', X2, e2, W2, st2⟩ := RoadKit.stI X hx hZ eT Ar (in_of S q3 h1 h2) (g := mkF m pc Ls (.int x :: .int j :: .ref a :: st)) rfl rfl hd
  exact go (fun _ h => st2 _ h) (F T2 h2' X2 e2 W2 (Arv.set Ar q1 S q3 H G' (rfl) W2 i hj hi))
def FldE (Z : State) (h : Heap) (a : Addr) (C n d : String) : Prop := ∃ v, Fld Z h a C n d v
theorem FldE.of {Z : State} {h : Heap} {a : Addr} {C n d : String} {v : Value} (F : Fld Z h a C n d v) : FldE Z h a C n d := ⟨v, F⟩
theorem FldE.ext {Z : State} {h h' : Heap} {a : Addr} {C n d : String} (F : FldE Z h a C n d) (E : Ext h h') : FldE Z h' a C n d := by obtain ⟨v, F⟩ := F; exact ⟨v, F.ext E⟩
theorem FldE.keep {Z : State} {h h' : Heap} {ws : List Addr} {a : Addr} {C n d : String} (F : FldE Z h a C n d) (K : Keep h h' ws) : FldE Z h' a C n d := by
  obtain ⟨v, cell, cf, k, i, f, h1, h2, h3, h4, h5, h6, h7⟩ := F
  obtain ⟨c', q, r1, r2, r3⟩ := K.2.2 a cell h1
  have hlt := (Array.getElem?_eq_some_iff.mp h7).1
  exact ⟨_, c', cf, k, i, f, q, h2, h3, r2 ▸ h4, r2 ▸ h5, r1 ▸ h6, Array.getElem?_eq_getElem (r3 ▸ hlt)⟩
theorem FldE.wr {Z : State} {h h' : Heap} {a b' : Addr} {C n d : String} {sl : Nat} {v : Value} (F : FldE Z h b' C n d) (W : Wr h h' a sl v) : FldE Z h' b' C n d := F.keep (Keep.of_wr W)
theorem nfOf {args : Array Value} {s : State} {C : String} {y y' z' : MethodName} (hsel : (Cond.selects C y' z').before args s = true) (hc : z'.cls = y.cls) : NotFace s y := fun r0 h0 => by
  obtain ⟨c2, r2, m2, q1, q2, q3, q4, kP, hkP, hkPi⟩ := Cond.selects_spec hsel
  have h1 := findClass_of_methodNamed q3
  have h2 := findClass_of_methodNamed h0
  rw [hc] at h1
  have e : m2.cls = r0.cls := Option.some.inj (h1.symm.trans h2)
  exact ⟨kP, e ▸ hkP, hkPi⟩
theorem acopy (X : Stand p l e R s m args below meth c T locs cells slots) (hx : p.tables.exec = Jvm.exec) (hZ : Z.Warmed39 s.vm) {own : String} {index : Nat} (hown : s.vm.findClass own = some m.cls) (wl : (Cond.methodLink own index Stand.acN).before a0 Z = true) (wn : (Cond.native Stand.acN).before a0 Z = true) (ws : (Cond.static Stand.acN).before a0 Z = true) (wi : (Cond.initialized "java/lang/System").before a0 Z = true) (eT : T.heap = h)
    {src dst : Addr} {k1 k2 : ClassId} {z1 z2 p1 p2 q : Int32} {vs1 vs2 : List Value} {d1 d2 : Value} (A1 : Arv Z h src k1 .int z1 vs1 d1) (A2 : Arv Z h dst k2 .int z2 vs2 d2) (h1 : 0 ≤ p1.toInt) (h2 : 0 ≤ p2.toInt) (h3 : 0 ≤ q.toInt) (h4 : p1.toInt + q.toInt ≤ z1.toInt) (h5 : p2.toInt + q.toInt ≤ z2.toInt)
    {W : Nat} (hsz : Ls.size = c.maxLocals) (hf : 1 ≤ R.frames) (hW : (st.map fun v => v.category).sum ≤ W) (hl : W + (nativeFrameWords "java/lang/System" "arraycopy" 5 + 11) ≤ R.locals) (hd : decode c.code pc = .ok (.invokestatic index, 3)) (hn : pc + 3 = n)
    (F : ∀ T' h', Stand p l e R s m args below meth c T' (locs ++ Stand.copyLocs dst p2.toNatClampNeg q.toNatClampNeg) cells slots → T'.heap = h' → Keep h h' [dst] → Go p e below s Q K N T' (mkF m n Ls st)) : Go p e below s Q K N T (mkF m pc Ls (.int q :: .int p2 :: .ref dst :: .int p1 :: .ref src :: st)) := by
  subst hn
  subst eT
  obtain ⟨cs, As, -, Ss, Ns, Hs, Gs⟩ := A1
  obtain ⟨cd, Ad, -, Sd, Nd, Hd, Gd⟩ := A2
  have isA := State.isArrayOf_alike hZ.alike As.2.1
  have idA := State.isArrayOf_alike hZ.alike Ad.2.1
  obtain ⟨-, ks, hks, sC, hsk⟩ := isA
  obtain ⟨-, kd, hkd, dC, hdk⟩ := idA
  have en : ∀ x : Int32, 0 ≤ x.toInt → ¬ x < 0 := fun x hx0 => by rw [Int32.lt_iff_toInt_lt]; have e0 : (0 : Int32).toInt = 0 := rfl; omega
  have ez : ∀ x : Int32, ¬ x < 0 → (x.toNatClampNeg : Int) = x.toInt := fun x hx0 => by
    rw [Int32.lt_iff_toInt_lt] at hx0; have e0 : (0 : Int32).toInt = 0 := rfl; have e1 : x.toNatClampNeg = x.toInt.toNat := rfl; omega
  have e1 := ez z1 Ns; have e2 := ez z2 Nd; have e3 := ez p1 (en p1 h1); have e4 := ez q (en q h3); have e5 := ez p2 (en p2 h2)
  obtain ⟨vm₁, -, X', st'⟩ := X.arraycopyK hx hown (mvT hZ wl) (mvT hZ wn) (mvT hZ ws) (mvT hZ wi) (src := src) (dst := dst) (srcPos := p1) (destPos := p2) (n := q) (cs := cs) (cd := cd) As.1 Ad.1
    (fun z e => by have := As.plain; rw [e] at this; cases this) (fun z e => by have := Ad.plain; rw [e] at this; cases this) As.2.2 Ad.2.2 hks hkd hsk hdk rfl (en p1 h1) (en p2 h2) (en q h3) (by rw [Ss]; omega) (by rw [Sd]; omega)
    (fun vm' _ i hi => by
      have hlt : p1.toNatClampNeg + i < cs.slots.size := by rw [Ss]; omega
      have hh := Hs _ hlt
      have hg := Gs _ hlt
      have hgd : cs.slots.getD (p1.toNatClampNeg + i) .null = vs1.getD (p1.toNatClampNeg + i) d1 := by rw [Array.getD_eq_getD_getElem?, hh]; rfl
      rw [hgd]
      refine ⟨hg, ?_⟩
      obtain ⟨x, hx'⟩ := fit_I hg (Or.inl rfl)
      rw [hx']; trivial)
    (g := mkF m pc Ls (.int q :: .int p2 :: .ref dst :: .int p1 :: .ref src :: st)) rfl hsz rfl hd hf (by show 2 * 0 + _ + _ ≤ _; omega)
  refine go (fun _ h => st' _ h) (F _ _ X' rfl ?_)
  have cf := SB.copied_facts cs cd p1 p2 q
  have hb : dst < T.heap.size := (Array.getElem?_eq_some_iff.mp Ad.1).1
  refine ⟨by show T.heap.size ≤ (T.heap.setIfInBounds dst _).size; simp, fun x c hc hx' => ?_, fun x c hc => ?_⟩
  · show (T.heap.setIfInBounds dst _)[x]? = _
    have hne : dst ≠ x := fun z => hx' (by simp [z])
    rw [Array.getElem?_setIfInBounds_ne hne]; exact hc
  · show ∃ c', (T.heap.setIfInBounds dst _)[x]? = some c' ∧ _
    by_cases z : dst = x
    · subst z; cases Ad.1.symm.trans hc
      exact ⟨_, Array.getElem?_setIfInBounds_self_of_lt hb, cf⟩
    · exact ⟨c, by rw [Array.getElem?_setIfInBounds_ne z]; exact hc, rfl, rfl, rfl⟩
theorem ext_of_keep {h h' : Heap} (K : Keep h h' []) : Ext h h' := ⟨K.1, fun a c q => K.2.1 a c q nin0⟩
theorem keep_of_ext {h h' : Heap} (E : Ext h h') : Keep h h' [] := (Keep.refl _ _).ext E
theorem ext_refl (h : Heap) : Ext h h := ⟨Nat.le_refl _, fun _ _ q => q⟩
theorem ext_trans {h h' h'' : Heap} (E : Ext h h') (E' : Ext h' h'') : Ext h h'' := ⟨Nat.le_trans E.1 E'.1, fun a c q => E'.2 a c (E.2 a c q)⟩
end H
end Jvm.Wk
namespace Jvm.Pilot.@@N@@
open Jvm Jvm.ClassFile Sem Op Lib Jvm.Free Jvm.Stand Jvm.LawKit Jvm.RoadKit Bundle Jvm.Pilot.@@N@@.Jvm.D
theorem d1_0 : decode prog_21_method_1_code 0 = .ok (.aload_n 0, 1) := by decide +kernel
theorem d1_1 : decode prog_21_method_1_code 1 = .ok (.sipush 128, 3) := by decide +kernel
theorem d1_4 : decode prog_21_method_1_code 4 = .ok (.iconst 1, 1) := by decide +kernel
theorem d1_5 : decode prog_21_method_1_code 5 = .ok (.bipush 10, 2) := by decide +kernel
theorem d1_7 : decode prog_21_method_1_code 7 = .ok (.invokespecial 5, 3) := by decide +kernel
theorem d1_10 : decode prog_21_method_1_code 10 = .ok (.aload_n 0, 1) := by decide +kernel
theorem d1_11 : decode prog_21_method_1_code 11 = .ok (.bipush 8, 2) := by decide +kernel
theorem d1_13 : decode prog_21_method_1_code 13 = .ok (.newarray .int, 2) := by decide +kernel
theorem d1_15 : decode prog_21_method_1_code 15 = .ok (.putfield 11, 3) := by decide +kernel
theorem d1_18 : decode prog_21_method_1_code 18 = .ok (.aload_n 0, 1) := by decide +kernel
theorem d1_19 : decode prog_21_method_1_code 19 = .ok (.bipush 8, 2) := by decide +kernel
theorem d1_21 : decode prog_21_method_1_code 21 = .ok (.newarray .int, 2) := by decide +kernel
theorem d1_23 : decode prog_21_method_1_code 23 = .ok (.putfield 15, 3) := by decide +kernel
theorem d1_26 : decode prog_21_method_1_code 26 = .ok (.aload_n 0, 1) := by decide +kernel
theorem d1_27 : decode prog_21_method_1_code 27 = .ok (.bipush 32, 2) := by decide +kernel
theorem d1_29 : decode prog_21_method_1_code 29 = .ok (.newarray .int, 2) := by decide +kernel
theorem d1_31 : decode prog_21_method_1_code 31 = .ok (.putfield 18, 3) := by decide +kernel
theorem d1_34 : decode prog_21_method_1_code 34 = .ok (.aload_n 0, 1) := by decide +kernel
theorem d1_35 : decode prog_21_method_1_code 35 = .ok (.invokevirtual 21, 3) := by decide +kernel
theorem d1_38 : decode prog_21_method_1_code 38 = .ok (.return_, 1) := by decide +kernel
theorem pd1 : parseMethodDescriptor "()V" = some ⟨[], none⟩ := by decide +kernel
theorem pn1 : plainName "com/example/bonded_fonds/bondedfonds/fixity/Haval" = true := by first | (simp [plainName, overriddenIn]; done) | decide +kernel
theorem d2_0 : decode prog_16_method_1_code 0 = .ok (.aload_n 0, 1) := by decide +kernel
theorem d2_1 : decode prog_16_method_1_code 1 = .ok (.invokespecial 1, 3) := by decide +kernel
theorem d2_4 : decode prog_16_method_1_code 4 = .ok (.aload_n 0, 1) := by decide +kernel
theorem d2_5 : decode prog_16_method_1_code 5 = .ok (.iload_n 1, 1) := by decide +kernel
theorem d2_6 : decode prog_16_method_1_code 6 = .ok (.newarray .byte, 2) := by decide +kernel
theorem d2_8 : decode prog_16_method_1_code 8 = .ok (.putfield 7, 3) := by decide +kernel
theorem d2_11 : decode prog_16_method_1_code 11 = .ok (.aload_n 0, 1) := by decide +kernel
theorem d2_12 : decode prog_16_method_1_code 12 = .ok (.iload_n 2, 1) := by decide +kernel
theorem d2_13 : decode prog_16_method_1_code 13 = .ok (.putfield 13, 3) := by decide +kernel
theorem d2_16 : decode prog_16_method_1_code 16 = .ok (.aload_n 0, 1) := by decide +kernel
theorem d2_17 : decode prog_16_method_1_code 17 = .ok (.iload_n 3, 1) := by decide +kernel
theorem d2_18 : decode prog_16_method_1_code 18 = .ok (.putfield 17, 3) := by decide +kernel
theorem d2_21 : decode prog_16_method_1_code 21 = .ok (.return_, 1) := by decide +kernel
theorem pd2 : parseMethodDescriptor "(IBI)V" = some ⟨[.int, .byte, .int], none⟩ := by decide +kernel
theorem pn2 : plainName "com/example/bonded_fonds/bondedfonds/fixity/BlockDigest" = true := by first | (simp [plainName, overriddenIn]; done) | decide +kernel
theorem d4_0 : decode prog_16_method_6_code 0 = .ok (.aload_n 0, 1) := by decide +kernel
theorem d4_1 : decode prog_16_method_6_code 1 = .ok (.iconst 0, 1) := by decide +kernel
theorem d4_2 : decode prog_16_method_6_code 2 = .ok (.putfield 21, 3) := by decide +kernel
theorem d4_5 : decode prog_16_method_6_code 5 = .ok (.aload_n 0, 1) := by decide +kernel
theorem d4_6 : decode prog_16_method_6_code 6 = .ok (.lconst 0, 1) := by decide +kernel
theorem d4_7 : decode prog_16_method_6_code 7 = .ok (.putfield 24, 3) := by decide +kernel
theorem d4_10 : decode prog_16_method_6_code 10 = .ok (.aload_n 0, 1) := by decide +kernel
theorem d4_11 : decode prog_16_method_6_code 11 = .ok (.invokevirtual 28, 3) := by decide +kernel
theorem d4_14 : decode prog_16_method_6_code 14 = .ok (.return_, 1) := by decide +kernel
theorem pd4 : parseMethodDescriptor "()V" = some ⟨[], none⟩ := by decide +kernel
theorem pn4 : plainName "com/example/bonded_fonds/bondedfonds/fixity/BlockDigest" = true := by first | (simp [plainName, overriddenIn]; done) | decide +kernel
theorem d5_0 : decode prog_21_method_2_code 0 = .ok (.getstatic 25, 3) := by decide +kernel
theorem d5_3 : decode prog_21_method_2_code 3 = .ok (.iconst 0, 1) := by decide +kernel
theorem d5_4 : decode prog_21_method_2_code 4 = .ok (.aload_n 0, 1) := by decide +kernel
theorem d5_5 : decode prog_21_method_2_code 5 = .ok (.getfield 11, 3) := by decide +kernel
theorem d5_8 : decode prog_21_method_2_code 8 = .ok (.iconst 0, 1) := by decide +kernel
theorem d5_9 : decode prog_21_method_2_code 9 = .ok (.bipush 8, 2) := by decide +kernel
theorem d5_11 : decode prog_21_method_2_code 11 = .ok (.invokestatic 28, 3) := by decide +kernel
theorem d5_14 : decode prog_21_method_2_code 14 = .ok (.return_, 1) := by decide +kernel
theorem pd5 : parseMethodDescriptor "()V" = some ⟨[], none⟩ := by decide +kernel
theorem pn5 : plainName "com/example/bonded_fonds/bondedfonds/fixity/Haval" = true := by first | (simp [plainName, overriddenIn]; done) | decide +kernel
theorem d6_0 : decode prog_21_method_4_code 0 = .ok (.aload_n 1, 1) := by decide +kernel
theorem d6_1 : decode prog_21_method_4_code 1 = .ok (.iload_n 2, 1) := by decide +kernel
theorem d6_2 : decode prog_21_method_4_code 2 = .ok (.bipush 25, 2) := by decide +kernel
theorem d6_4 : decode prog_21_method_4_code 4 = .ok (.bastore, 1) := by decide +kernel
theorem d6_5 : decode prog_21_method_4_code 5 = .ok (.aload_n 1, 1) := by decide +kernel
theorem d6_6 : decode prog_21_method_4_code 6 = .ok (.iload_n 2, 1) := by decide +kernel
theorem d6_7 : decode prog_21_method_4_code 7 = .ok (.iconst 1, 1) := by decide +kernel
theorem d6_8 : decode prog_21_method_4_code 8 = .ok (.iadd, 1) := by decide +kernel
theorem d6_9 : decode prog_21_method_4_code 9 = .ok (.bipush 32, 2) := by decide +kernel
theorem d6_11 : decode prog_21_method_4_code 11 = .ok (.bastore, 1) := by decide +kernel
theorem d6_12 : decode prog_21_method_4_code 12 = .ok (.iconst 0, 1) := by decide +kernel
theorem d6_13 : decode prog_21_method_4_code 13 = .ok (.istore 5, 2) := by decide +kernel
theorem d6_15 : decode prog_21_method_4_code 15 = .ok (.iload 5, 2) := by decide +kernel
theorem d6_17 : decode prog_21_method_4_code 17 = .ok (.bipush 8, 2) := by decide +kernel
theorem d6_19 : decode prog_21_method_4_code 19 = .ok (.if_icmp .ge 28, 3) := by decide +kernel
theorem d6_22 : decode prog_21_method_4_code 22 = .ok (.aload_n 1, 1) := by decide +kernel
theorem d6_23 : decode prog_21_method_4_code 23 = .ok (.iload_n 2, 1) := by decide +kernel
theorem d6_24 : decode prog_21_method_4_code 24 = .ok (.iconst 2, 1) := by decide +kernel
theorem d6_25 : decode prog_21_method_4_code 25 = .ok (.iadd, 1) := by decide +kernel
theorem d6_26 : decode prog_21_method_4_code 26 = .ok (.iload 5, 2) := by decide +kernel
theorem d6_28 : decode prog_21_method_4_code 28 = .ok (.iadd, 1) := by decide +kernel
theorem d6_29 : decode prog_21_method_4_code 29 = .ok (.lload_n 3, 1) := by decide +kernel
theorem d6_30 : decode prog_21_method_4_code 30 = .ok (.iconst 3, 1) := by decide +kernel
theorem d6_31 : decode prog_21_method_4_code 31 = .ok (.lshl, 1) := by decide +kernel
theorem d6_32 : decode prog_21_method_4_code 32 = .ok (.bipush 8, 2) := by decide +kernel
theorem d6_34 : decode prog_21_method_4_code 34 = .ok (.iload 5, 2) := by decide +kernel
theorem d6_36 : decode prog_21_method_4_code 36 = .ok (.imul, 1) := by decide +kernel
theorem d6_37 : decode prog_21_method_4_code 37 = .ok (.lushr, 1) := by decide +kernel
theorem d6_38 : decode prog_21_method_4_code 38 = .ok (.l2i, 1) := by decide +kernel
theorem d6_39 : decode prog_21_method_4_code 39 = .ok (.i2b, 1) := by decide +kernel
theorem d6_40 : decode prog_21_method_4_code 40 = .ok (.bastore, 1) := by decide +kernel
theorem d6_41 : decode prog_21_method_4_code 41 = .ok (.iinc 5 1, 3) := by decide +kernel
theorem d6_44 : decode prog_21_method_4_code 44 = .ok (.goto (-29), 3) := by decide +kernel
theorem d6_47 : decode prog_21_method_4_code 47 = .ok (.return_, 1) := by decide +kernel
theorem pd6 : parseMethodDescriptor "([BIJ)V" = some ⟨[(.array .byte), .int, .long], none⟩ := by decide +kernel
theorem pn6 : plainName "com/example/bonded_fonds/bondedfonds/fixity/Haval" = true := by first | (simp [plainName, overriddenIn]; done) | decide +kernel
theorem pnL : plainName "com/example/bonded_fonds/bondedfonds/fixity/HavalWriteTrailerPinLaw" = true := by first | (simp [plainName, overriddenIn]; done) | decide +kernel
def Qk (h0 : Heap) (ws : List Addr) (n0 : Nat) (v : Option Value) (h : Heap) (L : List Loc) : Prop := v = none ∧ Fr n0 L ∧ Keep h0 h ws
set_option maxRecDepth 65536 in
set_option maxHeartbeats 40000000 in
theorem mbin (l : Launch) (Z : State) (a0 : Array Value) (hw : ∀ d ∈ tables_1, d.before a0 Z = true) (a : Addr) (n0 : Nat) (hna : n0 ≤ a) (h0 : Heap) (E : Exa Z h0 a "com/example/bonded_fonds/bondedfonds/fixity/Haval") (B1 : Wk.FldE Z h0 a "com/example/bonded_fonds/bondedfonds/fixity/BlockDigest" "block" "[B") (B2 : Wk.FldE Z h0 a "com/example/bonded_fonds/bondedfonds/fixity/BlockDigest" "marker" "B") (B3 : Wk.FldE Z h0 a "com/example/bonded_fonds/bondedfonds/fixity/BlockDigest" "trailerLength" "I") : Wk.Met l Z (⟨"com/example/bonded_fonds/bondedfonds/fixity/BlockDigest", "<init>", "(IBI)V"⟩ : MethodName) prog_16_method_1_code 4 none [] { frames := 1, cells := 1, slots := 128, locals := 13 } #[(.ref a), (.int (128 : Int32)), (.int (1 : Int32)), (.int (10 : Int32))] h0 (Qk h0 [a] n0) := by
  refine Wk.start pn2 ?_
  intro p e s m below meth c s₁ X0 hx hby hml hown0 hnm hret hlk hZ e0
  have hown : s.vm.findClass "com/example/bonded_fonds/bondedfonds/fixity/BlockDigest" = some m.cls := hown0
  refine Wk.enter (g' := (mkF m 0 #[.val (.ref a), .val (.int (128 : Int32)), .val (.int (1 : Int32)), .val (.int (10 : Int32))] [])) (by first | rfl | (simp [entryFrame, mkF, argsToLocals, Value.category, maxLocals]; done)) ?_
  refine Wk.aloadN X0 hx (hb hby d2_0) rfl rfl rfl ?_
  refine Wk.initO (W := 0) X0 hx hZ hown (hw _ (List.mem_of_getElem? (i := 12) rfl)) (hw _ (List.mem_of_getElem? (i := 13) rfl)) (hw _ (List.mem_of_getElem? (i := 14) rfl)) e0 (by rw [hml]; rfl) (by decide) (Nat.le_of_eq rfl) (by decide) (hb hby d2_1) rfl (fun T1 X1 e1 => ?_)
  refine Wk.aloadN X1 hx (hb hby d2_4) rfl rfl rfl ?_
  refine Wk.iloadN X1 hx (hb hby d2_5) rfl rfl ?_
  refine Wk.newP (z := (128 : Int32)) X1 hx hZ rfl (hw _ (List.mem_of_getElem? (i := 0) rfl)) e1 (by decide) 128 (by decide) (by decide) (by decide) (by decide) (hb hby d2_6) rfl (fun T2 h2 c2 X2 e2 Ex2 Av2 => ?_)
  have lt2 : a < h0.size := E.lt
  obtain ⟨old3, Fo3⟩ := (B1.ext Ex2)
  refine Wk.putF (host := "") (ty := (.array .byte)) X2 hx hZ hown (Or.inl (hw _ (List.mem_of_getElem? (i := 15) rfl))) e2 Fo3 (E.ext Ex2) (Or.inr ⟨(hw _ (List.mem_of_getElem? (i := 16) rfl)), rfl, hnm⟩) (hw _ (List.mem_of_getElem? (i := 2) rfl)) (by decide) rfl rfl (hb hby d2_8) rfl (fun T3 h3 X3 e3 W3 => ?_)
  have N3 := Fr.snoc X3 (Fr.nil n0) hna
  refine Wk.aloadN X3 hx (hb hby d2_11) rfl rfl rfl ?_
  refine Wk.iloadN X3 hx (hb hby d2_12) rfl rfl ?_
  obtain ⟨old4, Fo4⟩ := ((B2.ext Ex2).wr W3)
  refine Wk.putF (host := "") (ty := .byte) X3 hx hZ hown (Or.inl (hw _ (List.mem_of_getElem? (i := 17) rfl))) e3 Fo4 ((E.ext Ex2).wr W3) (Or.inr ⟨(hw _ (List.mem_of_getElem? (i := 18) rfl)), rfl, hnm⟩) (hw _ (List.mem_of_getElem? (i := 2) rfl)) (by decide) rfl rfl (hb hby d2_13) rfl (fun T4 h4 X4 e4 W4 => ?_)
  have N4 := Fr.snoc X4 N3 hna
  refine Wk.aloadN X4 hx (hb hby d2_16) rfl rfl rfl ?_
  refine Wk.iloadN X4 hx (hb hby d2_17) rfl rfl ?_
  obtain ⟨old5, Fo5⟩ := (((B3.ext Ex2).wr W3).wr W4)
  refine Wk.putF (host := "") (ty := .int) X4 hx hZ hown (Or.inl (hw _ (List.mem_of_getElem? (i := 19) rfl))) e4 Fo5 (((E.ext Ex2).wr W3).wr W4) (Or.inr ⟨(hw _ (List.mem_of_getElem? (i := 20) rfl)), rfl, hnm⟩) (hw _ (List.mem_of_getElem? (i := 2) rfl)) (by decide) rfl rfl (hb hby d2_18) rfl (fun T5 h5 X5 e5 W5 => ?_)
  have N5 := Fr.snoc X5 N4 hna
  exact Wk.retV X5 hx hlk hret (hb hby d2_21) (by decide) (by decide) (by rw [e5]; exact ⟨rfl, N5, (((((Keep.refl h0 [a]).ext Ex2).wr W3 (Or.inl (List.mem_singleton.mpr rfl))).wr W4 (Or.inl (List.mem_singleton.mpr rfl))).wr W5 (Or.inl (List.mem_singleton.mpr rfl)))⟩)
set_option maxRecDepth 65536 in
set_option maxHeartbeats 40000000 in
theorem mss (l : Launch) (Z : State) (a0 : Array Value) (hw : ∀ d ∈ tables_1, d.before a0 Z = true) (a st rP : Addr) (kP kS : ClassId) (vP vS : List Value) (dP dS : Value) (n0 : Nat) (hns : n0 ≤ st) (h0 : Heap) (SP : Sta Z h0 "com/example/bonded_fonds/bondedfonds/fixity/Haval" "PI" "[I" (.ref rP)) (AP : Arv Z h0 rP kP .int 72 vP dP) (Fs : Fld Z h0 a "com/example/bonded_fonds/bondedfonds/fixity/Haval" "state" "[I" (.ref st)) (AS : Arv Z h0 st kS .int 8 vS dS) : Wk.Met l Z (⟨"com/example/bonded_fonds/bondedfonds/fixity/Haval", "startState", "()V"⟩ : MethodName) prog_21_method_2_code 1 none [] { frames := 1, cells := 0, slots := 0, locals := 30 } #[(.ref a)] h0 (Qk h0 [st] n0) := by
  refine Wk.start pn5 ?_
  intro p e s m below meth c s₁ X0 hx hby hml hown0 hnm hret hlk hZ e0
  have hown : s.vm.findClass "com/example/bonded_fonds/bondedfonds/fixity/Haval" = some m.cls := hown0
  refine Wk.enter (g' := (mkF m 0 #[.val (.ref a)] [])) (by first | rfl | (simp [entryFrame, mkF, argsToLocals, Value.category, maxLocals]; done)) ?_
  refine Wk.getS (host := "") X0 hx hZ hown (Or.inl (hw _ (List.mem_of_getElem? (i := 43) rfl))) e0 SP (hb hby d5_0) rfl (fun T1 X1 e1 => ?_)
  refine Wk.iconst X1 hx (0 : Int32) (hb hby d5_3) rfl rfl ?_
  refine Wk.aloadN X1 hx (hb hby d5_4) rfl rfl rfl ?_
  refine Wk.getF (host := "") X1 hx hZ hown (Or.inl (hw _ (List.mem_of_getElem? (i := 22) rfl))) e1 Fs (hb hby d5_5) rfl (fun T2 X2 e2 => ?_)
  refine Wk.iconst X2 hx (0 : Int32) (hb hby d5_8) rfl rfl ?_
  refine Wk.bipush X2 hx (8 : Int32) (hb hby d5_9) rfl rfl ?_
  refine Wk.acopy (W := 0) X2 hx hZ hown (hw _ (List.mem_of_getElem? (i := 45) rfl)) (hw _ (List.mem_of_getElem? (i := 48) rfl)) (hw _ (List.mem_of_getElem? (i := 46) rfl)) (hw _ (List.mem_of_getElem? (i := 47) rfl)) e2 AP AS (by decide) (by decide) (by decide) (by decide) (by decide) (by rw [hml]; rfl) (by decide) (Nat.le_of_eq rfl) (by decide) (hb hby d5_11) rfl (fun T9 h9 X9 e9 K9 => ?_)
  exact Wk.retV X9 hx hlk hret (hb hby d5_14) (by decide) (by decide) (by rw [e9]; exact ⟨rfl, Fr.app (Fr.nil n0) (fun y hy => by obtain ⟨i, -, rfl⟩ := List.mem_map.mp hy; exact hns), K9⟩)
set_option maxRecDepth 65536 in
set_option maxHeartbeats 40000000 in
theorem mrst (l : Launch) (Z : State) (a0 : Array Value) (hw : ∀ d ∈ tables_1, d.before a0 Z = true) (a st rP : Addr) (kP kS : ClassId) (vP vS : List Value) (dP dS : Value) (n0 : Nat) (hns : n0 ≤ st) (hna : n0 ≤ a) (hsa : st ≠ a) (hPa : rP ≠ a) (h0 : Heap) (E : Exa Z h0 a "com/example/bonded_fonds/bondedfonds/fixity/Haval") (G1 : Wk.FldE Z h0 a "com/example/bonded_fonds/bondedfonds/fixity/BlockDigest" "gathered" "I") (G2 : Wk.FldE Z h0 a "com/example/bonded_fonds/bondedfonds/fixity/BlockDigest" "length" "J") (SP : Sta Z h0 "com/example/bonded_fonds/bondedfonds/fixity/Haval" "PI" "[I" (.ref rP)) (AP : Arv Z h0 rP kP .int 72 vP dP) (Fs : Fld Z h0 a "com/example/bonded_fonds/bondedfonds/fixity/Haval" "state" "[I" (.ref st)) (AS : Arv Z h0 st kS .int 8 vS dS) : Wk.Met l Z (⟨"com/example/bonded_fonds/bondedfonds/fixity/BlockDigest", "reset", "()V"⟩ : MethodName) prog_16_method_6_code 1 none [] { frames := 2, cells := 0, slots := 0, locals := 42 } #[(.ref a)] h0 (Qk h0 [a, st] n0) := by
  refine Wk.start pn4 ?_
  intro p e s m below meth c s₁ X0 hx hby hml hown0 hnm hret hlk hZ e0
  have hown : s.vm.findClass "com/example/bonded_fonds/bondedfonds/fixity/BlockDigest" = some m.cls := hown0
  refine Wk.enter (g' := (mkF m 0 #[.val (.ref a)] [])) (by first | rfl | (simp [entryFrame, mkF, argsToLocals, Value.category, maxLocals]; done)) ?_
  refine Wk.aloadN X0 hx (hb hby d4_0) rfl rfl rfl ?_
  refine Wk.iconst X0 hx (0 : Int32) (hb hby d4_1) rfl rfl ?_
  obtain ⟨old2, Fo2⟩ := G1
  refine Wk.putF (host := "") (ty := .int) X0 hx hZ hown (Or.inl (hw _ (List.mem_of_getElem? (i := 34) rfl))) e0 Fo2 E (Or.inl (hw _ (List.mem_of_getElem? (i := 35) rfl))) (hw _ (List.mem_of_getElem? (i := 2) rfl)) (by decide) rfl rfl (hb hby d4_2) rfl (fun T2 h2 X2 e2 W2 => ?_)
  have N2 := Fr.snoc X2 (Fr.nil n0) hna
  refine Wk.aloadN X2 hx (hb hby d4_5) rfl rfl rfl ?_
  refine Wk.lconst X2 hx (0 : Int64) (hb hby d4_6) rfl rfl ?_
  obtain ⟨old3, Fo3⟩ := (G2.wr W2)
  refine Wk.putF (host := "") (ty := .long) X2 hx hZ hown (Or.inl (hw _ (List.mem_of_getElem? (i := 36) rfl))) e2 Fo3 (E.wr W2) (Or.inl (hw _ (List.mem_of_getElem? (i := 37) rfl))) (hw _ (List.mem_of_getElem? (i := 2) rfl)) (by decide) rfl rfl (hb hby d4_7) rfl (fun T3 h3 X3 e3 W3 => ?_)
  have N3 := Fr.snoc X3 N2 hna
  refine Wk.aloadN X3 hx (hb hby d4_10) rfl rfl rfl ?_
  refine Wk.callV (W := 0) X3 hx hZ (argsL := []) (rest := []) hown (hw _ (List.mem_of_getElem? (i := 38) rfl)) (hw _ (List.mem_of_getElem? (i := 39) rfl)) (hw _ (List.mem_of_getElem? (i := 40) rfl)) (hw _ (List.mem_of_getElem? (i := 41) rfl)) (hw _ (List.mem_of_getElem? (i := 3) rfl)) (hw _ (List.mem_of_getElem? (i := 42) rfl)) (Wk.nfOf (args := #[]) (mvT hZ (hw _ (List.mem_of_getElem? (i := 32) rfl))) rfl) (by decide) (mss l Z a0 hw a st rP kP kS vP vS dP dS n0 hns h3 ((SP.wr W2).wr W3) ((AP.other W2 hPa).other W3 hPa) ((Fs.other W2 (Or.inr (slot_ne (t := (.array .int)) (t' := .int) (Or.inr (hw _ (List.mem_of_getElem? (i := 23) rfl))) (Or.inl (hw _ (List.mem_of_getElem? (i := 35) rfl))) (by decide) (by decide) (by decide)))).other W3 (Or.inr (slot_ne (t := (.array .int)) (t' := .long) (Or.inr (hw _ (List.mem_of_getElem? (i := 23) rfl))) (Or.inl (hw _ (List.mem_of_getElem? (i := 37) rfl))) (by decide) (by decide) (by decide)))) ((AS.other W2 hsa).other W3 hsa)) e3 ((E.wr W2).wr W3) (by decide) (by decide) (by decide) (by decide) (by rw [hml]; rfl) (lenOf pd5 rfl) rfl (Nat.le_of_eq rfl) (hb hby d4_11) rfl (fun T9 v9 L9 X9 hq9 => ?_)
  obtain ⟨rfl, N9, K9⟩ := hq9
  show Wk.Go p e below s _ _ _ T9 (mkF m 14 #[.val (.ref a)] [])
  exact Wk.retV X9 hx hlk hret (hb hby d4_14) (by decide) (by decide) ⟨rfl, Fr.app N3 N9, Keep.trans (ws := [a, st]) (((Keep.refl h0 [a, st]).wr W2 (Or.inl (by simp))).wr W3 (Or.inl (by simp))) K9 (allS (Or.inl (by simp)) all0)⟩
theorem sta_keep {Z : State} {h h' : Heap} {a : Addr} {C n d : String} {v : Value} (S : Sta Z h C n d v) (K : Keep h h' [a]) (pl : ∀ cell, h[a]? = some cell → cell.vm.isStatics = false) : Sta Z h' C n d v := by
  obtain ⟨cf, i, k, f, st, cell, h1, h2, h3, h4, h5, h6, h7⟩ := S
  have ne : st ∉ [a] := fun q => by
    cases List.mem_singleton.mp q
    rw [pl _ h5] at h6; cases h6
  exact ⟨cf, i, k, f, st, cell, h1, h2, h3, h4, K.2.1 _ _ h5 ne, h6, h7⟩
theorem exa_plain {Z : State} {h : Heap} {a : Addr} {C : String} (E : Exa Z h a C) : ∀ cell, h[a]? = some cell → cell.vm.isStatics = false := fun cell hc => by
  obtain ⟨c, k, h1, -, -, h4, -⟩ := E
  cases h1.symm.trans hc; exact h4
set_option maxRecDepth 65536 in
set_option maxHeartbeats 40000000 in
theorem mhin (l : Launch) (Z : State) (a0 : Array Value) (hw : ∀ d ∈ tables_1, d.before a0 Z = true) (a rP : Addr) (kP : ClassId) (vP : List Value) (dP : Value) (n0 : Nat) (hna : n0 ≤ a) (hPa : rP ≠ a) (h0 : Heap) (hn0 : n0 ≤ h0.size) (E : Exa Z h0 a "com/example/bonded_fonds/bondedfonds/fixity/Haval") (Bbblock : Wk.FldE Z h0 a "com/example/bonded_fonds/bondedfonds/fixity/BlockDigest" "block" "[B") (Bmarker : Wk.FldE Z h0 a "com/example/bonded_fonds/bondedfonds/fixity/BlockDigest" "marker" "B") (BtrailerLength : Wk.FldE Z h0 a "com/example/bonded_fonds/bondedfonds/fixity/BlockDigest" "trailerLength" "I") (Bgathered : Wk.FldE Z h0 a "com/example/bonded_fonds/bondedfonds/fixity/BlockDigest" "gathered" "I") (Blength : Wk.FldE Z h0 a "com/example/bonded_fonds/bondedfonds/fixity/BlockDigest" "length" "J") (Bstate : Wk.FldE Z h0 a "com/example/bonded_fonds/bondedfonds/fixity/Haval" "state" "[I") (Bworking : Wk.FldE Z h0 a "com/example/bonded_fonds/bondedfonds/fixity/Haval" "working" "[I") (Bblock : Wk.FldE Z h0 a "com/example/bonded_fonds/bondedfonds/fixity/Haval" "block" "[I") (SP : Sta Z h0 "com/example/bonded_fonds/bondedfonds/fixity/Haval" "PI" "[I" (.ref rP)) (AP : Arv Z h0 rP kP .int 72 vP dP) : Wk.Met l Z (⟨"com/example/bonded_fonds/bondedfonds/fixity/Haval", "<init>", "()V"⟩ : MethodName) prog_21_method_1_code 1 none [] { frames := 3, cells := 4, slots := 176, locals := 54 } #[(.ref a)] h0 (Qk h0 [a] n0) := by
  refine Wk.start pn1 ?_
  intro p e s m below meth c s₁ X0 hx hby hml hown0 hnm hret hlk hZ e0
  have hown : s.vm.findClass "com/example/bonded_fonds/bondedfonds/fixity/Haval" = some m.cls := hown0
  refine Wk.enter (g' := (mkF m 0 #[.val (.ref a)] [])) (by first | rfl | (simp [entryFrame, mkF, argsToLocals, Value.category, maxLocals]; done)) ?_
  refine Wk.aloadN X0 hx (hb hby d1_0) rfl rfl rfl ?_
  refine Wk.sipush X0 hx (128 : Int32) (hb hby d1_1) rfl rfl ?_
  refine Wk.iconst X0 hx (1 : Int32) (hb hby d1_4) rfl rfl ?_
  refine Wk.bipush X0 hx (10 : Int32) (hb hby d1_5) rfl rfl ?_
  refine Wk.callI (W := 0) X0 hx hZ (argsL := [(.int (128 : Int32)), (.int (1 : Int32)), (.int (10 : Int32))]) (rest := []) rfl hown (hw _ (List.mem_of_getElem? (i := 7) rfl)) (hw _ (List.mem_of_getElem? (i := 8) rfl)) (hw _ (List.mem_of_getElem? (i := 10) rfl)) (hw _ (List.mem_of_getElem? (i := 11) rfl)) (by decide) (mbin l Z a0 hw a n0 hna h0 E Bbblock Bmarker BtrailerLength) e0 (by decide) (by decide) (by decide) (by decide) (by rw [hml]; rfl) (lenOf pd2 rfl) rfl (Nat.le_of_eq rfl) (hb hby d1_7) rfl (fun T1 v1 L1 X1 hq1 => ?_)
  obtain ⟨rfl, N1, K1⟩ := hq1
  have SP1 := sta_keep SP K1 (exa_plain E)
  show Wk.Go p e below s _ _ _ T1 (mkF m 10 #[.val (.ref a)] [])
  refine Wk.aloadN X1 hx (hb hby d1_10) rfl rfl rfl ?_
  refine Wk.bipush X1 hx (8 : Int32) (hb hby d1_11) rfl rfl ?_
  refine Wk.newP (z := (8 : Int32)) X1 hx hZ rfl (hw _ (List.mem_of_getElem? (i := 21) rfl)) rfl (by decide) 8 (by decide) (by decide) (by decide) (by decide) (hb hby d1_13) rfl (fun T2 h2 c2 X2 e2 Ex2 Av2 => ?_)
  have lt2 : a < T1.heap.size := (E.keep K1).lt
  obtain ⟨old3, Fo3⟩ := ((Bstate.keep K1).ext Ex2)
  refine Wk.putF (host := "") (ty := (.array .int)) X2 hx hZ hown (Or.inl (hw _ (List.mem_of_getElem? (i := 22) rfl))) e2 Fo3 ((E.keep K1).ext Ex2) (Or.inr ⟨(hw _ (List.mem_of_getElem? (i := 23) rfl)), rfl, hnm⟩) (hw _ (List.mem_of_getElem? (i := 2) rfl)) (by decide) rfl rfl (hb hby d1_15) rfl (fun T3 h3 X3 e3 W3 => ?_)
  have Fs3 := Fo3.same W3
  have N3 := Fr.snoc X3 (Fr.app (Fr.nil n0) N1) hna
  refine Wk.aloadN X3 hx (hb hby d1_18) rfl rfl rfl ?_
  refine Wk.bipush X3 hx (8 : Int32) (hb hby d1_19) rfl rfl ?_
  refine Wk.newP (z := (8 : Int32)) X3 hx hZ rfl (hw _ (List.mem_of_getElem? (i := 21) rfl)) e3 (by decide) 8 (by decide) (by decide) (by decide) (by decide) (hb hby d1_21) rfl (fun T4 h4 c4 X4 e4 Ex4 Av4 => ?_)
  have lt4 : a < h3.size := (((E.keep K1).ext Ex2).wr W3).lt
  obtain ⟨old5, Fo5⟩ := ((((Bworking.keep K1).ext Ex2).wr W3).ext Ex4)
  refine Wk.putF (host := "") (ty := (.array .int)) X4 hx hZ hown (Or.inl (hw _ (List.mem_of_getElem? (i := 24) rfl))) e4 Fo5 ((((E.keep K1).ext Ex2).wr W3).ext Ex4) (Or.inr ⟨(hw _ (List.mem_of_getElem? (i := 25) rfl)), rfl, hnm⟩) (hw _ (List.mem_of_getElem? (i := 2) rfl)) (by decide) rfl rfl (hb hby d1_23) rfl (fun T5 h5 X5 e5 W5 => ?_)
  have N5 := Fr.snoc X5 N3 hna
  refine Wk.aloadN X5 hx (hb hby d1_26) rfl rfl rfl ?_
  refine Wk.bipush X5 hx (32 : Int32) (hb hby d1_27) rfl rfl ?_
  refine Wk.newP (z := (32 : Int32)) X5 hx hZ rfl (hw _ (List.mem_of_getElem? (i := 21) rfl)) e5 (by decide) 32 (by decide) (by decide) (by decide) (by decide) (hb hby d1_29) rfl (fun T6 h6 c6 X6 e6 Ex6 Av6 => ?_)
  have lt6 : a < h5.size := (((((E.keep K1).ext Ex2).wr W3).ext Ex4).wr W5).lt
  obtain ⟨old7, Fo7⟩ := ((((((Bblock.keep K1).ext Ex2).wr W3).ext Ex4).wr W5).ext Ex6)
  refine Wk.putF (host := "") (ty := (.array .int)) X6 hx hZ hown (Or.inl (hw _ (List.mem_of_getElem? (i := 26) rfl))) e6 Fo7 ((((((E.keep K1).ext Ex2).wr W3).ext Ex4).wr W5).ext Ex6) (Or.inr ⟨(hw _ (List.mem_of_getElem? (i := 27) rfl)), rfl, hnm⟩) (hw _ (List.mem_of_getElem? (i := 2) rfl)) (by decide) rfl rfl (hb hby d1_31) rfl (fun T7 h7 X7 e7 W7 => ?_)
  have N7 := Fr.snoc X7 N5 hna
  refine Wk.aloadN X7 hx (hb hby d1_34) rfl rfl rfl ?_
  have hns : n0 ≤ T1.heap.size := Nat.le_trans (Nat.le_trans hn0 K1.1) (Nat.le_refl _)
  refine Wk.callVU (W := 0) X7 hx hZ (argsL := []) (rest := []) hown (hw _ (List.mem_of_getElem? (i := 28) rfl)) (hw _ (List.mem_of_getElem? (i := 29) rfl)) (hw _ (List.mem_of_getElem? (i := 30) rfl)) (hw _ (List.mem_of_getElem? (i := 32) rfl)) (hw _ (List.mem_of_getElem? (i := 31) rfl)) (hw _ (List.mem_of_getElem? (i := 10) rfl)) (hw _ (List.mem_of_getElem? (i := 33) rfl)) (by decide) (mrst l Z a0 hw a (T1.heap.size) rP kP _ vP _ dP _ n0 hns hna (Nat.ne_of_gt lt2) hPa h7 (((((((E.keep K1).ext Ex2).wr W3).ext Ex4).wr W5).ext Ex6).wr W7) (((((((Bgathered.keep K1).ext Ex2).wr W3).ext Ex4).wr W5).ext Ex6).wr W7) (((((((Blength.keep K1).ext Ex2).wr W3).ext Ex4).wr W5).ext Ex6).wr W7) ((((((SP1.ext Ex2).wr W3).ext Ex4).wr W5).ext Ex6).wr W7) (((((((AP.keep K1 (ninS hPa nin0)).ext Ex2).other W3 hPa).ext Ex4).other W5 hPa).ext Ex6).other W7 hPa) ((((Fs3.ext Ex4).other W5 (Or.inr (slot_ne (t := (.array .int)) (t' := (.array .int)) (Or.inr (hw _ (List.mem_of_getElem? (i := 23) rfl))) (Or.inr (hw _ (List.mem_of_getElem? (i := 25) rfl))) (by decide) (by decide) (by decide)))).ext Ex6).other W7 (Or.inr (slot_ne (t := (.array .int)) (t' := (.array .int)) (Or.inr (hw _ (List.mem_of_getElem? (i := 23) rfl))) (Or.inr (hw _ (List.mem_of_getElem? (i := 27) rfl))) (by decide) (by decide) (by decide)))) (((((Av2.other W3 (Nat.ne_of_gt lt2)).ext Ex4).other W5 (Nat.ne_of_gt lt2)).ext Ex6).other W7 (Nat.ne_of_gt lt2))) e7 (((((((E.keep K1).ext Ex2).wr W3).ext Ex4).wr W5).ext Ex6).wr W7) (by decide) (by decide) (by decide) (by decide) (by rw [hml]; rfl) (lenOf pd4 rfl) rfl (Nat.le_of_eq rfl) (hb hby d1_35) rfl (fun T9 v9 L9 X9 hq9 => ?_)
  obtain ⟨rfl, N9, K9⟩ := hq9
  show Wk.Go p e below s _ _ _ T9 (mkF m 38 #[.val (.ref a)] [])
  exact Wk.retV X9 hx hlk hret (hb hby d1_38) (by decide) (by decide) ⟨rfl, Fr.app N7 N9, Keep.trans ((((((K1.ext Ex2).wr W3 (Or.inl (List.mem_singleton.mpr rfl))).ext Ex4).wr W5 (Or.inl (List.mem_singleton.mpr rfl))).ext Ex6).wr W7 (Or.inl (List.mem_singleton.mpr rfl))) K9 (allS (Or.inl (by simp)) (allS (Or.inr K1.1) all0))⟩
theorem c_lushr0 (x : Int64) : XT.ushrL x 0 = x := by
  apply Int64.toBitVec_inj.mp
  simp [XT.ushrL]
theorem ush (x : Int64) (y : Int32) (k : Nat) (hk : y.toBitVec.toNat % 64 = k) (h0 : 0 < k) (hy : y.toInt64.toUInt64 &&& Int64.toUInt64 63 = (y &&& 0x3f).toInt64.toUInt64) : (XT.ushrL x y).toInt = (x.toInt % 18446744073709551616) / (2 ^ k : Nat) := by
  have := c_lushr x y k hk h0
  unfold XT.ushrL
  rw [hy]; exact this
def Qw (Z : State) (la : Addr) (kb : ClassId) (sv : Int32) (len : Int64) (o : Nat) (n0 : Nat) (h0 : Heap) (v : Option Value) (h : Heap) (L : List Loc) : Prop := v = none ∧ Fr n0 L ∧ Keep h0 h [la] ∧ ∃ w0 w1 w2 w3 w4 w5 w6 w7 : Int32, Arv Z h la kb .byte 14 (List.replicate o (.int sv) ++ [.int 25, .int 32, .int w0, .int w1, .int w2, .int w3, .int w4, .int w5, .int w6, .int w7] ++ List.replicate (4 - o) (.int sv)) (.int 0) ∧ w0.toInt % 256 = (len.toInt * 8) % 18446744073709551616 / 1 % 256 ∧ w1.toInt % 256 = (len.toInt * 8) % 18446744073709551616 / 256 % 256 ∧ w2.toInt % 256 = (len.toInt * 8) % 18446744073709551616 / 65536 % 256 ∧ w3.toInt % 256 = (len.toInt * 8) % 18446744073709551616 / 16777216 % 256 ∧ w4.toInt % 256 = (len.toInt * 8) % 18446744073709551616 / 4294967296 % 256 ∧ w5.toInt % 256 = (len.toInt * 8) % 18446744073709551616 / 1099511627776 % 256 ∧ w6.toInt % 256 = (len.toInt * 8) % 18446744073709551616 / 281474976710656 % 256 ∧ w7.toInt % 256 = (len.toInt * 8) % 18446744073709551616 / 72057594037927936 % 256
set_option maxRecDepth 65536 in
set_option maxHeartbeats 40000000 in
theorem mwt0 (l : Launch) (Z : State) (a0 : Array Value) (hw : ∀ d ∈ tables_1, d.before a0 Z = true) (a la : Addr) (kb : ClassId) (sv : Int32) (len : Int64) (n0 : Nat) (hla : n0 ≤ la) (h0 : Heap) (A : Arv Z h0 la kb .byte 14 [.int sv, .int sv, .int sv, .int sv, .int sv, .int sv, .int sv, .int sv, .int sv, .int sv, .int sv, .int sv, .int sv, .int sv] (.int 0)) : Wk.Met l Z (⟨"com/example/bonded_fonds/bondedfonds/fixity/Haval", "writeTrailer", "([BIJ)V"⟩ : MethodName) prog_21_method_4_code 6 none [] { frames := 0, cells := 0, slots := 0, locals := 0 } #[(.ref a), (.ref la), (.int (0 : Int32)), (.long len)] h0 (Qw Z la kb sv len 0 n0 h0) := by
  refine Wk.start pn6 ?_
  intro p e s m below meth c s₁ X0 hx hby hml hown0 hnm hret hlk hZ e0
  have hown : s.vm.findClass "com/example/bonded_fonds/bondedfonds/fixity/Haval" = some m.cls := hown0
  have hlen : (len <<< ((3 : Int32).toInt64 &&& 63)).toInt % 18446744073709551616 = (len.toInt * 8) % 18446744073709551616 := by
    have := c_lshl len (3 : Int32) 3 (by decide)
    rw [show ((3 : Int32) &&& 0x3f).toInt64 = (3 : Int32).toInt64 &&& 63 from by decide] at this
    omega
  refine Wk.enter (g' := (mkF m 0 #[.val (.ref a), .val (.ref la), .val (.int (0 : Int32)), .val (.long len), .second, .unset] [])) (by first | rfl | (simp [entryFrame, mkF, argsToLocals, Value.category, maxLocals]; done)) ?_
  refine Wk.aloadN X0 hx (hb hby d6_0) rfl rfl rfl ?_
  refine Wk.iloadN X0 hx (hb hby d6_1) rfl rfl ?_
  refine Wk.bipush X0 hx (25 : Int32) (hb hby d6_2) rfl rfl ?_
  refine Wk.bastore X0 hx hZ e0 A (by decide) (by decide) 0 (by decide) (Nat.le_of_ble_eq_true rfl) (hb hby d6_4) rfl (fun T100 h100 X100 e100 W100 A100 => ?_)
  have B100 : Arv Z h100 la kb .byte 14 [.int 25, .int sv, .int sv, .int sv, .int sv, .int sv, .int sv, .int sv, .int sv, .int sv, .int sv, .int sv, .int sv, .int sv] (.int 0) := A100
  have N100 := Fr.snoc X100 (Fr.nil n0) hla
  refine Wk.aloadN X100 hx (hb hby d6_5) rfl rfl rfl ?_
  refine Wk.iloadN X100 hx (hb hby d6_6) rfl rfl ?_
  refine Wk.iconst X100 hx (1 : Int32) (hb hby d6_7) rfl rfl ?_
  refine Wk.iadd X100 hx (hb hby d6_8) rfl ?_
  rw [show ((0 : Int32) + (1 : Int32)) = (1 : Int32) from by decide]
  refine Wk.bipush X100 hx (32 : Int32) (hb hby d6_9) rfl rfl ?_
  refine Wk.bastore X100 hx hZ e100 B100 (by decide) (by decide) 1 (by decide) (Nat.le_of_ble_eq_true rfl) (hb hby d6_11) rfl (fun T101 h101 X101 e101 W101 A101 => ?_)
  have B101 : Arv Z h101 la kb .byte 14 [.int 25, .int 32, .int sv, .int sv, .int sv, .int sv, .int sv, .int sv, .int sv, .int sv, .int sv, .int sv, .int sv, .int sv] (.int 0) := A101
  have N101 := Fr.snoc X101 N100 hla
  refine Wk.iconst X101 hx (0 : Int32) (hb hby d6_12) rfl rfl ?_
  refine Wk.istore (l' := #[.val (.ref a), .val (.ref la), .val (.int (0 : Int32)), .val (.long len), .second, .val (.int (0 : Int32))]) X101 hx (hb hby d6_13) rfl rfl ?_
  refine Wk.iload X101 hx (hb hby d6_15) rfl rfl ?_
  refine Wk.bipush X101 hx (8 : Int32) (hb hby d6_17) rfl rfl ?_
  refine Wk.icmp_ge X101 hx 47 22 (hb hby d6_19) rfl rfl (show ((0 : Int32) : Int32).toInt = 0 from (by decide)) (show ((8 : Int32) : Int32).toInt = 8 from (by decide)) (fun h1 => absurd h1 (by omega)) (fun h1 => ?_)
  refine Wk.aloadN X101 hx (hb hby d6_22) rfl rfl rfl ?_
  refine Wk.iloadN X101 hx (hb hby d6_23) rfl rfl ?_
  refine Wk.iconst X101 hx (2 : Int32) (hb hby d6_24) rfl rfl ?_
  refine Wk.iadd X101 hx (hb hby d6_25) rfl ?_
  rw [show ((0 : Int32) + (2 : Int32)) = (2 : Int32) from by decide]
  refine Wk.iload X101 hx (hb hby d6_26) rfl rfl ?_
  refine Wk.iadd X101 hx (hb hby d6_28) rfl ?_
  rw [show ((2 : Int32) + (0 : Int32)) = (2 : Int32) from by decide]
  refine Wk.lloadN X101 hx (hb hby d6_29) rfl rfl ?_
  refine Wk.iconst X101 hx (3 : Int32) (hb hby d6_30) rfl rfl ?_
  refine Wk.lshl X101 hx (hb hby d6_31) rfl ?_
  refine Wk.bipush X101 hx (8 : Int32) (hb hby d6_32) rfl rfl ?_
  refine Wk.iload X101 hx (hb hby d6_34) rfl rfl ?_
  refine Wk.imul X101 hx (hb hby d6_36) rfl ?_
  rw [show ((8 : Int32) * (0 : Int32)) = (0 : Int32) from by decide]
  refine Wk.lushr X101 hx (hb hby d6_37) rfl ?_
  have t102 : (XT.ushrL (len <<< ((3 : Int32).toInt64 &&& 63)) (0 : Int32)).toInt % 18446744073709551616 = (len.toInt * 8) % 18446744073709551616 := by rw [c_lushr0]; exact hlen
  generalize XT.ushrL (len <<< ((3 : Int32).toInt64 &&& 63)) (0 : Int32) = u102 at t102 ⊢
  refine Wk.l2i X101 hx (hb hby d6_38) rfl ?_
  have r102 := c_l2i u102
  generalize u102.toInt32 = x102 at r102 ⊢
  refine Wk.i2b X101 hx (hb hby d6_39) rfl ?_
  have q102 := c_i2b x102
  generalize x102.toInt8.toInt32 = y102 at q102 ⊢
  refine Wk.bastore X101 hx hZ e101 B101 (by decide) (by decide) 2 (by decide) (Nat.le_of_ble_eq_true rfl) (hb hby d6_40) rfl (fun T103 h103 X103 e103 W103 A103 => ?_)
  have g103 := c_i2b y102
  have f103 : (nar .byte y102).toInt % 256 = (len.toInt * 8) % 18446744073709551616 / 1 % 256 := by show (y102.toInt8.toInt32).toInt % 256 = _; omega
  have B103 : Arv Z h103 la kb .byte 14 [.int 25, .int 32, .int (nar .byte y102), .int sv, .int sv, .int sv, .int sv, .int sv, .int sv, .int sv, .int sv, .int sv, .int sv, .int sv] (.int 0) := A103
  have N103 := Fr.snoc X103 N101 hla
  refine Wk.iinc (l' := #[.val (.ref a), .val (.ref la), .val (.int (0 : Int32)), .val (.long len), .second, .val (.int ((0 : Int32) + (1 : Int32)))]) X103 hx (1 : Int32) (hb hby d6_41) rfl rfl rfl rfl ?_
  rw [show ((0 : Int32) + (1 : Int32)) = (1 : Int32) from by decide]
  refine Wk.goto X103 hx 15 (hb hby d6_44) rfl ?_
  refine Wk.iload X103 hx (hb hby d6_15) rfl rfl ?_
  refine Wk.bipush X103 hx (8 : Int32) (hb hby d6_17) rfl rfl ?_
  refine Wk.icmp_ge X103 hx 47 22 (hb hby d6_19) rfl rfl (show ((1 : Int32) : Int32).toInt = 1 from (by decide)) (show ((8 : Int32) : Int32).toInt = 8 from (by decide)) (fun h2 => absurd h2 (by omega)) (fun h2 => ?_)
  refine Wk.aloadN X103 hx (hb hby d6_22) rfl rfl rfl ?_
  refine Wk.iloadN X103 hx (hb hby d6_23) rfl rfl ?_
  refine Wk.iconst X103 hx (2 : Int32) (hb hby d6_24) rfl rfl ?_
  refine Wk.iadd X103 hx (hb hby d6_25) rfl ?_
  rw [show ((0 : Int32) + (2 : Int32)) = (2 : Int32) from by decide]
  refine Wk.iload X103 hx (hb hby d6_26) rfl rfl ?_
  refine Wk.iadd X103 hx (hb hby d6_28) rfl ?_
  rw [show ((2 : Int32) + (1 : Int32)) = (3 : Int32) from by decide]
  refine Wk.lloadN X103 hx (hb hby d6_29) rfl rfl ?_
  refine Wk.iconst X103 hx (3 : Int32) (hb hby d6_30) rfl rfl ?_
  refine Wk.lshl X103 hx (hb hby d6_31) rfl ?_
  refine Wk.bipush X103 hx (8 : Int32) (hb hby d6_32) rfl rfl ?_
  refine Wk.iload X103 hx (hb hby d6_34) rfl rfl ?_
  refine Wk.imul X103 hx (hb hby d6_36) rfl ?_
  rw [show ((8 : Int32) * (1 : Int32)) = (8 : Int32) from by decide]
  refine Wk.lushr X103 hx (hb hby d6_37) rfl ?_
  have t104 : (XT.ushrL (len <<< ((3 : Int32).toInt64 &&& 63)) (8 : Int32)).toInt = (len.toInt * 8) % 18446744073709551616 / 256 := by rw [ush _ (8 : Int32) 8 (by decide) (by decide) (by decide), hlen]; rfl
  generalize XT.ushrL (len <<< ((3 : Int32).toInt64 &&& 63)) (8 : Int32) = u104 at t104 ⊢
  refine Wk.l2i X103 hx (hb hby d6_38) rfl ?_
  have r104 := c_l2i u104
  generalize u104.toInt32 = x104 at r104 ⊢
  refine Wk.i2b X103 hx (hb hby d6_39) rfl ?_
  have q104 := c_i2b x104
  generalize x104.toInt8.toInt32 = y104 at q104 ⊢
  refine Wk.bastore X103 hx hZ e103 B103 (by decide) (by decide) 3 (by decide) (Nat.le_of_ble_eq_true rfl) (hb hby d6_40) rfl (fun T105 h105 X105 e105 W105 A105 => ?_)
  have g105 := c_i2b y104
  have f105 : (nar .byte y104).toInt % 256 = (len.toInt * 8) % 18446744073709551616 / 256 % 256 := by show (y104.toInt8.toInt32).toInt % 256 = _; omega
  have B105 : Arv Z h105 la kb .byte 14 [.int 25, .int 32, .int (nar .byte y102), .int (nar .byte y104), .int sv, .int sv, .int sv, .int sv, .int sv, .int sv, .int sv, .int sv, .int sv, .int sv] (.int 0) := A105
  have N105 := Fr.snoc X105 N103 hla
  refine Wk.iinc (l' := #[.val (.ref a), .val (.ref la), .val (.int (0 : Int32)), .val (.long len), .second, .val (.int ((1 : Int32) + (1 : Int32)))]) X105 hx (1 : Int32) (hb hby d6_41) rfl rfl rfl rfl ?_
  rw [show ((1 : Int32) + (1 : Int32)) = (2 : Int32) from by decide]
  refine Wk.goto X105 hx 15 (hb hby d6_44) rfl ?_
  refine Wk.iload X105 hx (hb hby d6_15) rfl rfl ?_
  refine Wk.bipush X105 hx (8 : Int32) (hb hby d6_17) rfl rfl ?_
  refine Wk.icmp_ge X105 hx 47 22 (hb hby d6_19) rfl rfl (show ((2 : Int32) : Int32).toInt = 2 from (by decide)) (show ((8 : Int32) : Int32).toInt = 8 from (by decide)) (fun h3 => absurd h3 (by omega)) (fun h3 => ?_)
  refine Wk.aloadN X105 hx (hb hby d6_22) rfl rfl rfl ?_
  refine Wk.iloadN X105 hx (hb hby d6_23) rfl rfl ?_
  refine Wk.iconst X105 hx (2 : Int32) (hb hby d6_24) rfl rfl ?_
  refine Wk.iadd X105 hx (hb hby d6_25) rfl ?_
  rw [show ((0 : Int32) + (2 : Int32)) = (2 : Int32) from by decide]
  refine Wk.iload X105 hx (hb hby d6_26) rfl rfl ?_
  refine Wk.iadd X105 hx (hb hby d6_28) rfl ?_
  rw [show ((2 : Int32) + (2 : Int32)) = (4 : Int32) from by decide]
  refine Wk.lloadN X105 hx (hb hby d6_29) rfl rfl ?_
  refine Wk.iconst X105 hx (3 : Int32) (hb hby d6_30) rfl rfl ?_
  refine Wk.lshl X105 hx (hb hby d6_31) rfl ?_
  refine Wk.bipush X105 hx (8 : Int32) (hb hby d6_32) rfl rfl ?_
  refine Wk.iload X105 hx (hb hby d6_34) rfl rfl ?_
  refine Wk.imul X105 hx (hb hby d6_36) rfl ?_
  rw [show ((8 : Int32) * (2 : Int32)) = (16 : Int32) from by decide]
  refine Wk.lushr X105 hx (hb hby d6_37) rfl ?_
  have t106 : (XT.ushrL (len <<< ((3 : Int32).toInt64 &&& 63)) (16 : Int32)).toInt = (len.toInt * 8) % 18446744073709551616 / 65536 := by rw [ush _ (16 : Int32) 16 (by decide) (by decide) (by decide), hlen]; rfl
  generalize XT.ushrL (len <<< ((3 : Int32).toInt64 &&& 63)) (16 : Int32) = u106 at t106 ⊢
  refine Wk.l2i X105 hx (hb hby d6_38) rfl ?_
  have r106 := c_l2i u106
  generalize u106.toInt32 = x106 at r106 ⊢
  refine Wk.i2b X105 hx (hb hby d6_39) rfl ?_
  have q106 := c_i2b x106
  generalize x106.toInt8.toInt32 = y106 at q106 ⊢
  refine Wk.bastore X105 hx hZ e105 B105 (by decide) (by decide) 4 (by decide) (Nat.le_of_ble_eq_true rfl) (hb hby d6_40) rfl (fun T107 h107 X107 e107 W107 A107 => ?_)
  have g107 := c_i2b y106
  have f107 : (nar .byte y106).toInt % 256 = (len.toInt * 8) % 18446744073709551616 / 65536 % 256 := by show (y106.toInt8.toInt32).toInt % 256 = _; omega
  have B107 : Arv Z h107 la kb .byte 14 [.int 25, .int 32, .int (nar .byte y102), .int (nar .byte y104), .int (nar .byte y106), .int sv, .int sv, .int sv, .int sv, .int sv, .int sv, .int sv, .int sv, .int sv] (.int 0) := A107
  have N107 := Fr.snoc X107 N105 hla
  refine Wk.iinc (l' := #[.val (.ref a), .val (.ref la), .val (.int (0 : Int32)), .val (.long len), .second, .val (.int ((2 : Int32) + (1 : Int32)))]) X107 hx (1 : Int32) (hb hby d6_41) rfl rfl rfl rfl ?_
  rw [show ((2 : Int32) + (1 : Int32)) = (3 : Int32) from by decide]
  refine Wk.goto X107 hx 15 (hb hby d6_44) rfl ?_
  refine Wk.iload X107 hx (hb hby d6_15) rfl rfl ?_
  refine Wk.bipush X107 hx (8 : Int32) (hb hby d6_17) rfl rfl ?_
  refine Wk.icmp_ge X107 hx 47 22 (hb hby d6_19) rfl rfl (show ((3 : Int32) : Int32).toInt = 3 from (by decide)) (show ((8 : Int32) : Int32).toInt = 8 from (by decide)) (fun h4 => absurd h4 (by omega)) (fun h4 => ?_)
  refine Wk.aloadN X107 hx (hb hby d6_22) rfl rfl rfl ?_
  refine Wk.iloadN X107 hx (hb hby d6_23) rfl rfl ?_
  refine Wk.iconst X107 hx (2 : Int32) (hb hby d6_24) rfl rfl ?_
  refine Wk.iadd X107 hx (hb hby d6_25) rfl ?_
  rw [show ((0 : Int32) + (2 : Int32)) = (2 : Int32) from by decide]
  refine Wk.iload X107 hx (hb hby d6_26) rfl rfl ?_
  refine Wk.iadd X107 hx (hb hby d6_28) rfl ?_
  rw [show ((2 : Int32) + (3 : Int32)) = (5 : Int32) from by decide]
  refine Wk.lloadN X107 hx (hb hby d6_29) rfl rfl ?_
  refine Wk.iconst X107 hx (3 : Int32) (hb hby d6_30) rfl rfl ?_
  refine Wk.lshl X107 hx (hb hby d6_31) rfl ?_
  refine Wk.bipush X107 hx (8 : Int32) (hb hby d6_32) rfl rfl ?_
  refine Wk.iload X107 hx (hb hby d6_34) rfl rfl ?_
  refine Wk.imul X107 hx (hb hby d6_36) rfl ?_
  rw [show ((8 : Int32) * (3 : Int32)) = (24 : Int32) from by decide]
  refine Wk.lushr X107 hx (hb hby d6_37) rfl ?_
  have t108 : (XT.ushrL (len <<< ((3 : Int32).toInt64 &&& 63)) (24 : Int32)).toInt = (len.toInt * 8) % 18446744073709551616 / 16777216 := by rw [ush _ (24 : Int32) 24 (by decide) (by decide) (by decide), hlen]; rfl
  generalize XT.ushrL (len <<< ((3 : Int32).toInt64 &&& 63)) (24 : Int32) = u108 at t108 ⊢
  refine Wk.l2i X107 hx (hb hby d6_38) rfl ?_
  have r108 := c_l2i u108
  generalize u108.toInt32 = x108 at r108 ⊢
  refine Wk.i2b X107 hx (hb hby d6_39) rfl ?_
  have q108 := c_i2b x108
  generalize x108.toInt8.toInt32 = y108 at q108 ⊢
  refine Wk.bastore X107 hx hZ e107 B107 (by decide) (by decide) 5 (by decide) (Nat.le_of_ble_eq_true rfl) (hb hby d6_40) rfl (fun T109 h109 X109 e109 W109 A109 => ?_)
  have g109 := c_i2b y108
  have f109 : (nar .byte y108).toInt % 256 = (len.toInt * 8) % 18446744073709551616 / 16777216 % 256 := by show (y108.toInt8.toInt32).toInt % 256 = _; omega
  have B109 : Arv Z h109 la kb .byte 14 [.int 25, .int 32, .int (nar .byte y102), .int (nar .byte y104), .int (nar .byte y106), .int (nar .byte y108), .int sv, .int sv, .int sv, .int sv, .int sv, .int sv, .int sv, .int sv] (.int 0) := A109
  have N109 := Fr.snoc X109 N107 hla
  refine Wk.iinc (l' := #[.val (.ref a), .val (.ref la), .val (.int (0 : Int32)), .val (.long len), .second, .val (.int ((3 : Int32) + (1 : Int32)))]) X109 hx (1 : Int32) (hb hby d6_41) rfl rfl rfl rfl ?_
  rw [show ((3 : Int32) + (1 : Int32)) = (4 : Int32) from by decide]
  refine Wk.goto X109 hx 15 (hb hby d6_44) rfl ?_
  refine Wk.iload X109 hx (hb hby d6_15) rfl rfl ?_
  refine Wk.bipush X109 hx (8 : Int32) (hb hby d6_17) rfl rfl ?_
  refine Wk.icmp_ge X109 hx 47 22 (hb hby d6_19) rfl rfl (show ((4 : Int32) : Int32).toInt = 4 from (by decide)) (show ((8 : Int32) : Int32).toInt = 8 from (by decide)) (fun h5 => absurd h5 (by omega)) (fun h5 => ?_)
  refine Wk.aloadN X109 hx (hb hby d6_22) rfl rfl rfl ?_
  refine Wk.iloadN X109 hx (hb hby d6_23) rfl rfl ?_
  refine Wk.iconst X109 hx (2 : Int32) (hb hby d6_24) rfl rfl ?_
  refine Wk.iadd X109 hx (hb hby d6_25) rfl ?_
  rw [show ((0 : Int32) + (2 : Int32)) = (2 : Int32) from by decide]
  refine Wk.iload X109 hx (hb hby d6_26) rfl rfl ?_
  refine Wk.iadd X109 hx (hb hby d6_28) rfl ?_
  rw [show ((2 : Int32) + (4 : Int32)) = (6 : Int32) from by decide]
  refine Wk.lloadN X109 hx (hb hby d6_29) rfl rfl ?_
  refine Wk.iconst X109 hx (3 : Int32) (hb hby d6_30) rfl rfl ?_
  refine Wk.lshl X109 hx (hb hby d6_31) rfl ?_
  refine Wk.bipush X109 hx (8 : Int32) (hb hby d6_32) rfl rfl ?_
  refine Wk.iload X109 hx (hb hby d6_34) rfl rfl ?_
  refine Wk.imul X109 hx (hb hby d6_36) rfl ?_
  rw [show ((8 : Int32) * (4 : Int32)) = (32 : Int32) from by decide]
  refine Wk.lushr X109 hx (hb hby d6_37) rfl ?_
  have t110 : (XT.ushrL (len <<< ((3 : Int32).toInt64 &&& 63)) (32 : Int32)).toInt = (len.toInt * 8) % 18446744073709551616 / 4294967296 := by rw [ush _ (32 : Int32) 32 (by decide) (by decide) (by decide), hlen]; rfl
  generalize XT.ushrL (len <<< ((3 : Int32).toInt64 &&& 63)) (32 : Int32) = u110 at t110 ⊢
  refine Wk.l2i X109 hx (hb hby d6_38) rfl ?_
  have r110 := c_l2i u110
  generalize u110.toInt32 = x110 at r110 ⊢
  refine Wk.i2b X109 hx (hb hby d6_39) rfl ?_
  have q110 := c_i2b x110
  generalize x110.toInt8.toInt32 = y110 at q110 ⊢
  refine Wk.bastore X109 hx hZ e109 B109 (by decide) (by decide) 6 (by decide) (Nat.le_of_ble_eq_true rfl) (hb hby d6_40) rfl (fun T111 h111 X111 e111 W111 A111 => ?_)
  have g111 := c_i2b y110
  have f111 : (nar .byte y110).toInt % 256 = (len.toInt * 8) % 18446744073709551616 / 4294967296 % 256 := by show (y110.toInt8.toInt32).toInt % 256 = _; omega
  have B111 : Arv Z h111 la kb .byte 14 [.int 25, .int 32, .int (nar .byte y102), .int (nar .byte y104), .int (nar .byte y106), .int (nar .byte y108), .int (nar .byte y110), .int sv, .int sv, .int sv, .int sv, .int sv, .int sv, .int sv] (.int 0) := A111
  have N111 := Fr.snoc X111 N109 hla
  refine Wk.iinc (l' := #[.val (.ref a), .val (.ref la), .val (.int (0 : Int32)), .val (.long len), .second, .val (.int ((4 : Int32) + (1 : Int32)))]) X111 hx (1 : Int32) (hb hby d6_41) rfl rfl rfl rfl ?_
  rw [show ((4 : Int32) + (1 : Int32)) = (5 : Int32) from by decide]
  refine Wk.goto X111 hx 15 (hb hby d6_44) rfl ?_
  refine Wk.iload X111 hx (hb hby d6_15) rfl rfl ?_
  refine Wk.bipush X111 hx (8 : Int32) (hb hby d6_17) rfl rfl ?_
  refine Wk.icmp_ge X111 hx 47 22 (hb hby d6_19) rfl rfl (show ((5 : Int32) : Int32).toInt = 5 from (by decide)) (show ((8 : Int32) : Int32).toInt = 8 from (by decide)) (fun h6 => absurd h6 (by omega)) (fun h6 => ?_)
  refine Wk.aloadN X111 hx (hb hby d6_22) rfl rfl rfl ?_
  refine Wk.iloadN X111 hx (hb hby d6_23) rfl rfl ?_
  refine Wk.iconst X111 hx (2 : Int32) (hb hby d6_24) rfl rfl ?_
  refine Wk.iadd X111 hx (hb hby d6_25) rfl ?_
  rw [show ((0 : Int32) + (2 : Int32)) = (2 : Int32) from by decide]
  refine Wk.iload X111 hx (hb hby d6_26) rfl rfl ?_
  refine Wk.iadd X111 hx (hb hby d6_28) rfl ?_
  rw [show ((2 : Int32) + (5 : Int32)) = (7 : Int32) from by decide]
  refine Wk.lloadN X111 hx (hb hby d6_29) rfl rfl ?_
  refine Wk.iconst X111 hx (3 : Int32) (hb hby d6_30) rfl rfl ?_
  refine Wk.lshl X111 hx (hb hby d6_31) rfl ?_
  refine Wk.bipush X111 hx (8 : Int32) (hb hby d6_32) rfl rfl ?_
  refine Wk.iload X111 hx (hb hby d6_34) rfl rfl ?_
  refine Wk.imul X111 hx (hb hby d6_36) rfl ?_
  rw [show ((8 : Int32) * (5 : Int32)) = (40 : Int32) from by decide]
  refine Wk.lushr X111 hx (hb hby d6_37) rfl ?_
  have t112 : (XT.ushrL (len <<< ((3 : Int32).toInt64 &&& 63)) (40 : Int32)).toInt = (len.toInt * 8) % 18446744073709551616 / 1099511627776 := by rw [ush _ (40 : Int32) 40 (by decide) (by decide) (by decide), hlen]; rfl
  generalize XT.ushrL (len <<< ((3 : Int32).toInt64 &&& 63)) (40 : Int32) = u112 at t112 ⊢
  refine Wk.l2i X111 hx (hb hby d6_38) rfl ?_
  have r112 := c_l2i u112
  generalize u112.toInt32 = x112 at r112 ⊢
  refine Wk.i2b X111 hx (hb hby d6_39) rfl ?_
  have q112 := c_i2b x112
  generalize x112.toInt8.toInt32 = y112 at q112 ⊢
  refine Wk.bastore X111 hx hZ e111 B111 (by decide) (by decide) 7 (by decide) (Nat.le_of_ble_eq_true rfl) (hb hby d6_40) rfl (fun T113 h113 X113 e113 W113 A113 => ?_)
  have g113 := c_i2b y112
  have f113 : (nar .byte y112).toInt % 256 = (len.toInt * 8) % 18446744073709551616 / 1099511627776 % 256 := by show (y112.toInt8.toInt32).toInt % 256 = _; omega
  have B113 : Arv Z h113 la kb .byte 14 [.int 25, .int 32, .int (nar .byte y102), .int (nar .byte y104), .int (nar .byte y106), .int (nar .byte y108), .int (nar .byte y110), .int (nar .byte y112), .int sv, .int sv, .int sv, .int sv, .int sv, .int sv] (.int 0) := A113
  have N113 := Fr.snoc X113 N111 hla
  refine Wk.iinc (l' := #[.val (.ref a), .val (.ref la), .val (.int (0 : Int32)), .val (.long len), .second, .val (.int ((5 : Int32) + (1 : Int32)))]) X113 hx (1 : Int32) (hb hby d6_41) rfl rfl rfl rfl ?_
  rw [show ((5 : Int32) + (1 : Int32)) = (6 : Int32) from by decide]
  refine Wk.goto X113 hx 15 (hb hby d6_44) rfl ?_
  refine Wk.iload X113 hx (hb hby d6_15) rfl rfl ?_
  refine Wk.bipush X113 hx (8 : Int32) (hb hby d6_17) rfl rfl ?_
  refine Wk.icmp_ge X113 hx 47 22 (hb hby d6_19) rfl rfl (show ((6 : Int32) : Int32).toInt = 6 from (by decide)) (show ((8 : Int32) : Int32).toInt = 8 from (by decide)) (fun h7 => absurd h7 (by omega)) (fun h7 => ?_)
  refine Wk.aloadN X113 hx (hb hby d6_22) rfl rfl rfl ?_
  refine Wk.iloadN X113 hx (hb hby d6_23) rfl rfl ?_
  refine Wk.iconst X113 hx (2 : Int32) (hb hby d6_24) rfl rfl ?_
  refine Wk.iadd X113 hx (hb hby d6_25) rfl ?_
  rw [show ((0 : Int32) + (2 : Int32)) = (2 : Int32) from by decide]
  refine Wk.iload X113 hx (hb hby d6_26) rfl rfl ?_
  refine Wk.iadd X113 hx (hb hby d6_28) rfl ?_
  rw [show ((2 : Int32) + (6 : Int32)) = (8 : Int32) from by decide]
  refine Wk.lloadN X113 hx (hb hby d6_29) rfl rfl ?_
  refine Wk.iconst X113 hx (3 : Int32) (hb hby d6_30) rfl rfl ?_
  refine Wk.lshl X113 hx (hb hby d6_31) rfl ?_
  refine Wk.bipush X113 hx (8 : Int32) (hb hby d6_32) rfl rfl ?_
  refine Wk.iload X113 hx (hb hby d6_34) rfl rfl ?_
  refine Wk.imul X113 hx (hb hby d6_36) rfl ?_
  rw [show ((8 : Int32) * (6 : Int32)) = (48 : Int32) from by decide]
  refine Wk.lushr X113 hx (hb hby d6_37) rfl ?_
  have t114 : (XT.ushrL (len <<< ((3 : Int32).toInt64 &&& 63)) (48 : Int32)).toInt = (len.toInt * 8) % 18446744073709551616 / 281474976710656 := by rw [ush _ (48 : Int32) 48 (by decide) (by decide) (by decide), hlen]; rfl
  generalize XT.ushrL (len <<< ((3 : Int32).toInt64 &&& 63)) (48 : Int32) = u114 at t114 ⊢
  refine Wk.l2i X113 hx (hb hby d6_38) rfl ?_
  have r114 := c_l2i u114
  generalize u114.toInt32 = x114 at r114 ⊢
  refine Wk.i2b X113 hx (hb hby d6_39) rfl ?_
  have q114 := c_i2b x114
  generalize x114.toInt8.toInt32 = y114 at q114 ⊢
  refine Wk.bastore X113 hx hZ e113 B113 (by decide) (by decide) 8 (by decide) (Nat.le_of_ble_eq_true rfl) (hb hby d6_40) rfl (fun T115 h115 X115 e115 W115 A115 => ?_)
  have g115 := c_i2b y114
  have f115 : (nar .byte y114).toInt % 256 = (len.toInt * 8) % 18446744073709551616 / 281474976710656 % 256 := by show (y114.toInt8.toInt32).toInt % 256 = _; omega
  have B115 : Arv Z h115 la kb .byte 14 [.int 25, .int 32, .int (nar .byte y102), .int (nar .byte y104), .int (nar .byte y106), .int (nar .byte y108), .int (nar .byte y110), .int (nar .byte y112), .int (nar .byte y114), .int sv, .int sv, .int sv, .int sv, .int sv] (.int 0) := A115
  have N115 := Fr.snoc X115 N113 hla
  refine Wk.iinc (l' := #[.val (.ref a), .val (.ref la), .val (.int (0 : Int32)), .val (.long len), .second, .val (.int ((6 : Int32) + (1 : Int32)))]) X115 hx (1 : Int32) (hb hby d6_41) rfl rfl rfl rfl ?_
  rw [show ((6 : Int32) + (1 : Int32)) = (7 : Int32) from by decide]
  refine Wk.goto X115 hx 15 (hb hby d6_44) rfl ?_
  refine Wk.iload X115 hx (hb hby d6_15) rfl rfl ?_
  refine Wk.bipush X115 hx (8 : Int32) (hb hby d6_17) rfl rfl ?_
  refine Wk.icmp_ge X115 hx 47 22 (hb hby d6_19) rfl rfl (show ((7 : Int32) : Int32).toInt = 7 from (by decide)) (show ((8 : Int32) : Int32).toInt = 8 from (by decide)) (fun h8 => absurd h8 (by omega)) (fun h8 => ?_)
  refine Wk.aloadN X115 hx (hb hby d6_22) rfl rfl rfl ?_
  refine Wk.iloadN X115 hx (hb hby d6_23) rfl rfl ?_
  refine Wk.iconst X115 hx (2 : Int32) (hb hby d6_24) rfl rfl ?_
  refine Wk.iadd X115 hx (hb hby d6_25) rfl ?_
  rw [show ((0 : Int32) + (2 : Int32)) = (2 : Int32) from by decide]
  refine Wk.iload X115 hx (hb hby d6_26) rfl rfl ?_
  refine Wk.iadd X115 hx (hb hby d6_28) rfl ?_
  rw [show ((2 : Int32) + (7 : Int32)) = (9 : Int32) from by decide]
  refine Wk.lloadN X115 hx (hb hby d6_29) rfl rfl ?_
  refine Wk.iconst X115 hx (3 : Int32) (hb hby d6_30) rfl rfl ?_
  refine Wk.lshl X115 hx (hb hby d6_31) rfl ?_
  refine Wk.bipush X115 hx (8 : Int32) (hb hby d6_32) rfl rfl ?_
  refine Wk.iload X115 hx (hb hby d6_34) rfl rfl ?_
  refine Wk.imul X115 hx (hb hby d6_36) rfl ?_
  rw [show ((8 : Int32) * (7 : Int32)) = (56 : Int32) from by decide]
  refine Wk.lushr X115 hx (hb hby d6_37) rfl ?_
  have t116 : (XT.ushrL (len <<< ((3 : Int32).toInt64 &&& 63)) (56 : Int32)).toInt = (len.toInt * 8) % 18446744073709551616 / 72057594037927936 := by rw [ush _ (56 : Int32) 56 (by decide) (by decide) (by decide), hlen]; rfl
  generalize XT.ushrL (len <<< ((3 : Int32).toInt64 &&& 63)) (56 : Int32) = u116 at t116 ⊢
  refine Wk.l2i X115 hx (hb hby d6_38) rfl ?_
  have r116 := c_l2i u116
  generalize u116.toInt32 = x116 at r116 ⊢
  refine Wk.i2b X115 hx (hb hby d6_39) rfl ?_
  have q116 := c_i2b x116
  generalize x116.toInt8.toInt32 = y116 at q116 ⊢
  refine Wk.bastore X115 hx hZ e115 B115 (by decide) (by decide) 9 (by decide) (Nat.le_of_ble_eq_true rfl) (hb hby d6_40) rfl (fun T117 h117 X117 e117 W117 A117 => ?_)
  have g117 := c_i2b y116
  have f117 : (nar .byte y116).toInt % 256 = (len.toInt * 8) % 18446744073709551616 / 72057594037927936 % 256 := by show (y116.toInt8.toInt32).toInt % 256 = _; omega
  have B117 : Arv Z h117 la kb .byte 14 [.int 25, .int 32, .int (nar .byte y102), .int (nar .byte y104), .int (nar .byte y106), .int (nar .byte y108), .int (nar .byte y110), .int (nar .byte y112), .int (nar .byte y114), .int (nar .byte y116), .int sv, .int sv, .int sv, .int sv] (.int 0) := A117
  have N117 := Fr.snoc X117 N115 hla
  refine Wk.iinc (l' := #[.val (.ref a), .val (.ref la), .val (.int (0 : Int32)), .val (.long len), .second, .val (.int ((7 : Int32) + (1 : Int32)))]) X117 hx (1 : Int32) (hb hby d6_41) rfl rfl rfl rfl ?_
  rw [show ((7 : Int32) + (1 : Int32)) = (8 : Int32) from by decide]
  refine Wk.goto X117 hx 15 (hb hby d6_44) rfl ?_
  refine Wk.iload X117 hx (hb hby d6_15) rfl rfl ?_
  refine Wk.bipush X117 hx (8 : Int32) (hb hby d6_17) rfl rfl ?_
  refine Wk.icmp_ge X117 hx 47 22 (hb hby d6_19) rfl rfl (show ((8 : Int32) : Int32).toInt = 8 from (by decide)) (show ((8 : Int32) : Int32).toInt = 8 from (by decide)) (fun h9 => ?_) (fun h9 => absurd h9 (by omega))
  exact Wk.retV X117 hx hlk hret (hb hby d6_47) (by decide) (by decide) (by rw [e117]; exact ⟨rfl, N117, (((((((((((Keep.refl h0 [la]).wr W100 (Or.inl (List.mem_singleton.mpr rfl))).wr W101 (Or.inl (List.mem_singleton.mpr rfl))).wr W103 (Or.inl (List.mem_singleton.mpr rfl))).wr W105 (Or.inl (List.mem_singleton.mpr rfl))).wr W107 (Or.inl (List.mem_singleton.mpr rfl))).wr W109 (Or.inl (List.mem_singleton.mpr rfl))).wr W111 (Or.inl (List.mem_singleton.mpr rfl))).wr W113 (Or.inl (List.mem_singleton.mpr rfl))).wr W115 (Or.inl (List.mem_singleton.mpr rfl))).wr W117 (Or.inl (List.mem_singleton.mpr rfl))), (nar .byte y102), (nar .byte y104), (nar .byte y106), (nar .byte y108), (nar .byte y110), (nar .byte y112), (nar .byte y114), (nar .byte y116), B117, f103, f105, f107, f109, f111, f113, f115, f117⟩)
set_option maxRecDepth 65536 in
set_option maxHeartbeats 40000000 in
theorem mwt1 (l : Launch) (Z : State) (a0 : Array Value) (hw : ∀ d ∈ tables_1, d.before a0 Z = true) (a la : Addr) (kb : ClassId) (sv : Int32) (len : Int64) (n0 : Nat) (hla : n0 ≤ la) (h0 : Heap) (A : Arv Z h0 la kb .byte 14 [.int sv, .int sv, .int sv, .int sv, .int sv, .int sv, .int sv, .int sv, .int sv, .int sv, .int sv, .int sv, .int sv, .int sv] (.int 0)) : Wk.Met l Z (⟨"com/example/bonded_fonds/bondedfonds/fixity/Haval", "writeTrailer", "([BIJ)V"⟩ : MethodName) prog_21_method_4_code 6 none [] { frames := 0, cells := 0, slots := 0, locals := 0 } #[(.ref a), (.ref la), (.int (1 : Int32)), (.long len)] h0 (Qw Z la kb sv len 1 n0 h0) := by
  refine Wk.start pn6 ?_
  intro p e s m below meth c s₁ X0 hx hby hml hown0 hnm hret hlk hZ e0
  have hown : s.vm.findClass "com/example/bonded_fonds/bondedfonds/fixity/Haval" = some m.cls := hown0
  have hlen : (len <<< ((3 : Int32).toInt64 &&& 63)).toInt % 18446744073709551616 = (len.toInt * 8) % 18446744073709551616 := by
    have := c_lshl len (3 : Int32) 3 (by decide)
    rw [show ((3 : Int32) &&& 0x3f).toInt64 = (3 : Int32).toInt64 &&& 63 from by decide] at this
    omega
  refine Wk.enter (g' := (mkF m 0 #[.val (.ref a), .val (.ref la), .val (.int (1 : Int32)), .val (.long len), .second, .unset] [])) (by first | rfl | (simp [entryFrame, mkF, argsToLocals, Value.category, maxLocals]; done)) ?_
  refine Wk.aloadN X0 hx (hb hby d6_0) rfl rfl rfl ?_
  refine Wk.iloadN X0 hx (hb hby d6_1) rfl rfl ?_
  refine Wk.bipush X0 hx (25 : Int32) (hb hby d6_2) rfl rfl ?_
  refine Wk.bastore X0 hx hZ e0 A (by decide) (by decide) 1 (by decide) (Nat.le_of_ble_eq_true rfl) (hb hby d6_4) rfl (fun T100 h100 X100 e100 W100 A100 => ?_)
  have B100 : Arv Z h100 la kb .byte 14 [.int sv, .int 25, .int sv, .int sv, .int sv, .int sv, .int sv, .int sv, .int sv, .int sv, .int sv, .int sv, .int sv, .int sv] (.int 0) := A100
  have N100 := Fr.snoc X100 (Fr.nil n0) hla
  refine Wk.aloadN X100 hx (hb hby d6_5) rfl rfl rfl ?_
  refine Wk.iloadN X100 hx (hb hby d6_6) rfl rfl ?_
  refine Wk.iconst X100 hx (1 : Int32) (hb hby d6_7) rfl rfl ?_
  refine Wk.iadd X100 hx (hb hby d6_8) rfl ?_
  rw [show ((1 : Int32) + (1 : Int32)) = (2 : Int32) from by decide]
  refine Wk.bipush X100 hx (32 : Int32) (hb hby d6_9) rfl rfl ?_
  refine Wk.bastore X100 hx hZ e100 B100 (by decide) (by decide) 2 (by decide) (Nat.le_of_ble_eq_true rfl) (hb hby d6_11) rfl (fun T101 h101 X101 e101 W101 A101 => ?_)
  have B101 : Arv Z h101 la kb .byte 14 [.int sv, .int 25, .int 32, .int sv, .int sv, .int sv, .int sv, .int sv, .int sv, .int sv, .int sv, .int sv, .int sv, .int sv] (.int 0) := A101
  have N101 := Fr.snoc X101 N100 hla
  refine Wk.iconst X101 hx (0 : Int32) (hb hby d6_12) rfl rfl ?_
  refine Wk.istore (l' := #[.val (.ref a), .val (.ref la), .val (.int (1 : Int32)), .val (.long len), .second, .val (.int (0 : Int32))]) X101 hx (hb hby d6_13) rfl rfl ?_
  refine Wk.iload X101 hx (hb hby d6_15) rfl rfl ?_
  refine Wk.bipush X101 hx (8 : Int32) (hb hby d6_17) rfl rfl ?_
  refine Wk.icmp_ge X101 hx 47 22 (hb hby d6_19) rfl rfl (show ((0 : Int32) : Int32).toInt = 0 from (by decide)) (show ((8 : Int32) : Int32).toInt = 8 from (by decide)) (fun h1 => absurd h1 (by omega)) (fun h1 => ?_)
  refine Wk.aloadN X101 hx (hb hby d6_22) rfl rfl rfl ?_
  refine Wk.iloadN X101 hx (hb hby d6_23) rfl rfl ?_
  refine Wk.iconst X101 hx (2 : Int32) (hb hby d6_24) rfl rfl ?_
  refine Wk.iadd X101 hx (hb hby d6_25) rfl ?_
  rw [show ((1 : Int32) + (2 : Int32)) = (3 : Int32) from by decide]
  refine Wk.iload X101 hx (hb hby d6_26) rfl rfl ?_
  refine Wk.iadd X101 hx (hb hby d6_28) rfl ?_
  rw [show ((3 : Int32) + (0 : Int32)) = (3 : Int32) from by decide]
  refine Wk.lloadN X101 hx (hb hby d6_29) rfl rfl ?_
  refine Wk.iconst X101 hx (3 : Int32) (hb hby d6_30) rfl rfl ?_
  refine Wk.lshl X101 hx (hb hby d6_31) rfl ?_
  refine Wk.bipush X101 hx (8 : Int32) (hb hby d6_32) rfl rfl ?_
  refine Wk.iload X101 hx (hb hby d6_34) rfl rfl ?_
  refine Wk.imul X101 hx (hb hby d6_36) rfl ?_
  rw [show ((8 : Int32) * (0 : Int32)) = (0 : Int32) from by decide]
  refine Wk.lushr X101 hx (hb hby d6_37) rfl ?_
  have t102 : (XT.ushrL (len <<< ((3 : Int32).toInt64 &&& 63)) (0 : Int32)).toInt % 18446744073709551616 = (len.toInt * 8) % 18446744073709551616 := by rw [c_lushr0]; exact hlen
  generalize XT.ushrL (len <<< ((3 : Int32).toInt64 &&& 63)) (0 : Int32) = u102 at t102 ⊢
  refine Wk.l2i X101 hx (hb hby d6_38) rfl ?_
  have r102 := c_l2i u102
  generalize u102.toInt32 = x102 at r102 ⊢
  refine Wk.i2b X101 hx (hb hby d6_39) rfl ?_
  have q102 := c_i2b x102
  generalize x102.toInt8.toInt32 = y102 at q102 ⊢
  refine Wk.bastore X101 hx hZ e101 B101 (by decide) (by decide) 3 (by decide) (Nat.le_of_ble_eq_true rfl) (hb hby d6_40) rfl (fun T103 h103 X103 e103 W103 A103 => ?_)
  have g103 := c_i2b y102
  have f103 : (nar .byte y102).toInt % 256 = (len.toInt * 8) % 18446744073709551616 / 1 % 256 := by show (y102.toInt8.toInt32).toInt % 256 = _; omega
  have B103 : Arv Z h103 la kb .byte 14 [.int sv, .int 25, .int 32, .int (nar .byte y102), .int sv, .int sv, .int sv, .int sv, .int sv, .int sv, .int sv, .int sv, .int sv, .int sv] (.int 0) := A103
  have N103 := Fr.snoc X103 N101 hla
  refine Wk.iinc (l' := #[.val (.ref a), .val (.ref la), .val (.int (1 : Int32)), .val (.long len), .second, .val (.int ((0 : Int32) + (1 : Int32)))]) X103 hx (1 : Int32) (hb hby d6_41) rfl rfl rfl rfl ?_
  rw [show ((0 : Int32) + (1 : Int32)) = (1 : Int32) from by decide]
  refine Wk.goto X103 hx 15 (hb hby d6_44) rfl ?_
  refine Wk.iload X103 hx (hb hby d6_15) rfl rfl ?_
  refine Wk.bipush X103 hx (8 : Int32) (hb hby d6_17) rfl rfl ?_
  refine Wk.icmp_ge X103 hx 47 22 (hb hby d6_19) rfl rfl (show ((1 : Int32) : Int32).toInt = 1 from (by decide)) (show ((8 : Int32) : Int32).toInt = 8 from (by decide)) (fun h2 => absurd h2 (by omega)) (fun h2 => ?_)
  refine Wk.aloadN X103 hx (hb hby d6_22) rfl rfl rfl ?_
  refine Wk.iloadN X103 hx (hb hby d6_23) rfl rfl ?_
  refine Wk.iconst X103 hx (2 : Int32) (hb hby d6_24) rfl rfl ?_
  refine Wk.iadd X103 hx (hb hby d6_25) rfl ?_
  rw [show ((1 : Int32) + (2 : Int32)) = (3 : Int32) from by decide]
  refine Wk.iload X103 hx (hb hby d6_26) rfl rfl ?_
  refine Wk.iadd X103 hx (hb hby d6_28) rfl ?_
  rw [show ((3 : Int32) + (1 : Int32)) = (4 : Int32) from by decide]
  refine Wk.lloadN X103 hx (hb hby d6_29) rfl rfl ?_
  refine Wk.iconst X103 hx (3 : Int32) (hb hby d6_30) rfl rfl ?_
  refine Wk.lshl X103 hx (hb hby d6_31) rfl ?_
  refine Wk.bipush X103 hx (8 : Int32) (hb hby d6_32) rfl rfl ?_
  refine Wk.iload X103 hx (hb hby d6_34) rfl rfl ?_
  refine Wk.imul X103 hx (hb hby d6_36) rfl ?_
  rw [show ((8 : Int32) * (1 : Int32)) = (8 : Int32) from by decide]
  refine Wk.lushr X103 hx (hb hby d6_37) rfl ?_
  have t104 : (XT.ushrL (len <<< ((3 : Int32).toInt64 &&& 63)) (8 : Int32)).toInt = (len.toInt * 8) % 18446744073709551616 / 256 := by rw [ush _ (8 : Int32) 8 (by decide) (by decide) (by decide), hlen]; rfl
  generalize XT.ushrL (len <<< ((3 : Int32).toInt64 &&& 63)) (8 : Int32) = u104 at t104 ⊢
  refine Wk.l2i X103 hx (hb hby d6_38) rfl ?_
  have r104 := c_l2i u104
  generalize u104.toInt32 = x104 at r104 ⊢
  refine Wk.i2b X103 hx (hb hby d6_39) rfl ?_
  have q104 := c_i2b x104
  generalize x104.toInt8.toInt32 = y104 at q104 ⊢
  refine Wk.bastore X103 hx hZ e103 B103 (by decide) (by decide) 4 (by decide) (Nat.le_of_ble_eq_true rfl) (hb hby d6_40) rfl (fun T105 h105 X105 e105 W105 A105 => ?_)
  have g105 := c_i2b y104
  have f105 : (nar .byte y104).toInt % 256 = (len.toInt * 8) % 18446744073709551616 / 256 % 256 := by show (y104.toInt8.toInt32).toInt % 256 = _; omega
  have B105 : Arv Z h105 la kb .byte 14 [.int sv, .int 25, .int 32, .int (nar .byte y102), .int (nar .byte y104), .int sv, .int sv, .int sv, .int sv, .int sv, .int sv, .int sv, .int sv, .int sv] (.int 0) := A105
  have N105 := Fr.snoc X105 N103 hla
  refine Wk.iinc (l' := #[.val (.ref a), .val (.ref la), .val (.int (1 : Int32)), .val (.long len), .second, .val (.int ((1 : Int32) + (1 : Int32)))]) X105 hx (1 : Int32) (hb hby d6_41) rfl rfl rfl rfl ?_
  rw [show ((1 : Int32) + (1 : Int32)) = (2 : Int32) from by decide]
  refine Wk.goto X105 hx 15 (hb hby d6_44) rfl ?_
  refine Wk.iload X105 hx (hb hby d6_15) rfl rfl ?_
  refine Wk.bipush X105 hx (8 : Int32) (hb hby d6_17) rfl rfl ?_
  refine Wk.icmp_ge X105 hx 47 22 (hb hby d6_19) rfl rfl (show ((2 : Int32) : Int32).toInt = 2 from (by decide)) (show ((8 : Int32) : Int32).toInt = 8 from (by decide)) (fun h3 => absurd h3 (by omega)) (fun h3 => ?_)
  refine Wk.aloadN X105 hx (hb hby d6_22) rfl rfl rfl ?_
  refine Wk.iloadN X105 hx (hb hby d6_23) rfl rfl ?_
  refine Wk.iconst X105 hx (2 : Int32) (hb hby d6_24) rfl rfl ?_
  refine Wk.iadd X105 hx (hb hby d6_25) rfl ?_
  rw [show ((1 : Int32) + (2 : Int32)) = (3 : Int32) from by decide]
  refine Wk.iload X105 hx (hb hby d6_26) rfl rfl ?_
  refine Wk.iadd X105 hx (hb hby d6_28) rfl ?_
  rw [show ((3 : Int32) + (2 : Int32)) = (5 : Int32) from by decide]
  refine Wk.lloadN X105 hx (hb hby d6_29) rfl rfl ?_
  refine Wk.iconst X105 hx (3 : Int32) (hb hby d6_30) rfl rfl ?_
  refine Wk.lshl X105 hx (hb hby d6_31) rfl ?_
  refine Wk.bipush X105 hx (8 : Int32) (hb hby d6_32) rfl rfl ?_
  refine Wk.iload X105 hx (hb hby d6_34) rfl rfl ?_
  refine Wk.imul X105 hx (hb hby d6_36) rfl ?_
  rw [show ((8 : Int32) * (2 : Int32)) = (16 : Int32) from by decide]
  refine Wk.lushr X105 hx (hb hby d6_37) rfl ?_
  have t106 : (XT.ushrL (len <<< ((3 : Int32).toInt64 &&& 63)) (16 : Int32)).toInt = (len.toInt * 8) % 18446744073709551616 / 65536 := by rw [ush _ (16 : Int32) 16 (by decide) (by decide) (by decide), hlen]; rfl
  generalize XT.ushrL (len <<< ((3 : Int32).toInt64 &&& 63)) (16 : Int32) = u106 at t106 ⊢
  refine Wk.l2i X105 hx (hb hby d6_38) rfl ?_
  have r106 := c_l2i u106
  generalize u106.toInt32 = x106 at r106 ⊢
  refine Wk.i2b X105 hx (hb hby d6_39) rfl ?_
  have q106 := c_i2b x106
  generalize x106.toInt8.toInt32 = y106 at q106 ⊢
  refine Wk.bastore X105 hx hZ e105 B105 (by decide) (by decide) 5 (by decide) (Nat.le_of_ble_eq_true rfl) (hb hby d6_40) rfl (fun T107 h107 X107 e107 W107 A107 => ?_)
  have g107 := c_i2b y106
  have f107 : (nar .byte y106).toInt % 256 = (len.toInt * 8) % 18446744073709551616 / 65536 % 256 := by show (y106.toInt8.toInt32).toInt % 256 = _; omega
  have B107 : Arv Z h107 la kb .byte 14 [.int sv, .int 25, .int 32, .int (nar .byte y102), .int (nar .byte y104), .int (nar .byte y106), .int sv, .int sv, .int sv, .int sv, .int sv, .int sv, .int sv, .int sv] (.int 0) := A107
  have N107 := Fr.snoc X107 N105 hla
  refine Wk.iinc (l' := #[.val (.ref a), .val (.ref la), .val (.int (1 : Int32)), .val (.long len), .second, .val (.int ((2 : Int32) + (1 : Int32)))]) X107 hx (1 : Int32) (hb hby d6_41) rfl rfl rfl rfl ?_
  rw [show ((2 : Int32) + (1 : Int32)) = (3 : Int32) from by decide]
  refine Wk.goto X107 hx 15 (hb hby d6_44) rfl ?_
  refine Wk.iload X107 hx (hb hby d6_15) rfl rfl ?_
  refine Wk.bipush X107 hx (8 : Int32) (hb hby d6_17) rfl rfl ?_
  refine Wk.icmp_ge X107 hx 47 22 (hb hby d6_19) rfl rfl (show ((3 : Int32) : Int32).toInt = 3 from (by decide)) (show ((8 : Int32) : Int32).toInt = 8 from (by decide)) (fun h4 => absurd h4 (by omega)) (fun h4 => ?_)
  refine Wk.aloadN X107 hx (hb hby d6_22) rfl rfl rfl ?_
  refine Wk.iloadN X107 hx (hb hby d6_23) rfl rfl ?_
  refine Wk.iconst X107 hx (2 : Int32) (hb hby d6_24) rfl rfl ?_
  refine Wk.iadd X107 hx (hb hby d6_25) rfl ?_
  rw [show ((1 : Int32) + (2 : Int32)) = (3 : Int32) from by decide]
  refine Wk.iload X107 hx (hb hby d6_26) rfl rfl ?_
  refine Wk.iadd X107 hx (hb hby d6_28) rfl ?_
  rw [show ((3 : Int32) + (3 : Int32)) = (6 : Int32) from by decide]
  refine Wk.lloadN X107 hx (hb hby d6_29) rfl rfl ?_
  refine Wk.iconst X107 hx (3 : Int32) (hb hby d6_30) rfl rfl ?_
  refine Wk.lshl X107 hx (hb hby d6_31) rfl ?_
  refine Wk.bipush X107 hx (8 : Int32) (hb hby d6_32) rfl rfl ?_
  refine Wk.iload X107 hx (hb hby d6_34) rfl rfl ?_
  refine Wk.imul X107 hx (hb hby d6_36) rfl ?_
  rw [show ((8 : Int32) * (3 : Int32)) = (24 : Int32) from by decide]
  refine Wk.lushr X107 hx (hb hby d6_37) rfl ?_
  have t108 : (XT.ushrL (len <<< ((3 : Int32).toInt64 &&& 63)) (24 : Int32)).toInt = (len.toInt * 8) % 18446744073709551616 / 16777216 := by rw [ush _ (24 : Int32) 24 (by decide) (by decide) (by decide), hlen]; rfl
  generalize XT.ushrL (len <<< ((3 : Int32).toInt64 &&& 63)) (24 : Int32) = u108 at t108 ⊢
  refine Wk.l2i X107 hx (hb hby d6_38) rfl ?_
  have r108 := c_l2i u108
  generalize u108.toInt32 = x108 at r108 ⊢
  refine Wk.i2b X107 hx (hb hby d6_39) rfl ?_
  have q108 := c_i2b x108
  generalize x108.toInt8.toInt32 = y108 at q108 ⊢
  refine Wk.bastore X107 hx hZ e107 B107 (by decide) (by decide) 6 (by decide) (Nat.le_of_ble_eq_true rfl) (hb hby d6_40) rfl (fun T109 h109 X109 e109 W109 A109 => ?_)
  have g109 := c_i2b y108
  have f109 : (nar .byte y108).toInt % 256 = (len.toInt * 8) % 18446744073709551616 / 16777216 % 256 := by show (y108.toInt8.toInt32).toInt % 256 = _; omega
  have B109 : Arv Z h109 la kb .byte 14 [.int sv, .int 25, .int 32, .int (nar .byte y102), .int (nar .byte y104), .int (nar .byte y106), .int (nar .byte y108), .int sv, .int sv, .int sv, .int sv, .int sv, .int sv, .int sv] (.int 0) := A109
  have N109 := Fr.snoc X109 N107 hla
  refine Wk.iinc (l' := #[.val (.ref a), .val (.ref la), .val (.int (1 : Int32)), .val (.long len), .second, .val (.int ((3 : Int32) + (1 : Int32)))]) X109 hx (1 : Int32) (hb hby d6_41) rfl rfl rfl rfl ?_
  rw [show ((3 : Int32) + (1 : Int32)) = (4 : Int32) from by decide]
  refine Wk.goto X109 hx 15 (hb hby d6_44) rfl ?_
  refine Wk.iload X109 hx (hb hby d6_15) rfl rfl ?_
  refine Wk.bipush X109 hx (8 : Int32) (hb hby d6_17) rfl rfl ?_
  refine Wk.icmp_ge X109 hx 47 22 (hb hby d6_19) rfl rfl (show ((4 : Int32) : Int32).toInt = 4 from (by decide)) (show ((8 : Int32) : Int32).toInt = 8 from (by decide)) (fun h5 => absurd h5 (by omega)) (fun h5 => ?_)
  refine Wk.aloadN X109 hx (hb hby d6_22) rfl rfl rfl ?_
  refine Wk.iloadN X109 hx (hb hby d6_23) rfl rfl ?_
  refine Wk.iconst X109 hx (2 : Int32) (hb hby d6_24) rfl rfl ?_
  refine Wk.iadd X109 hx (hb hby d6_25) rfl ?_
  rw [show ((1 : Int32) + (2 : Int32)) = (3 : Int32) from by decide]
  refine Wk.iload X109 hx (hb hby d6_26) rfl rfl ?_
  refine Wk.iadd X109 hx (hb hby d6_28) rfl ?_
  rw [show ((3 : Int32) + (4 : Int32)) = (7 : Int32) from by decide]
  refine Wk.lloadN X109 hx (hb hby d6_29) rfl rfl ?_
  refine Wk.iconst X109 hx (3 : Int32) (hb hby d6_30) rfl rfl ?_
  refine Wk.lshl X109 hx (hb hby d6_31) rfl ?_
  refine Wk.bipush X109 hx (8 : Int32) (hb hby d6_32) rfl rfl ?_
  refine Wk.iload X109 hx (hb hby d6_34) rfl rfl ?_
  refine Wk.imul X109 hx (hb hby d6_36) rfl ?_
  rw [show ((8 : Int32) * (4 : Int32)) = (32 : Int32) from by decide]
  refine Wk.lushr X109 hx (hb hby d6_37) rfl ?_
  have t110 : (XT.ushrL (len <<< ((3 : Int32).toInt64 &&& 63)) (32 : Int32)).toInt = (len.toInt * 8) % 18446744073709551616 / 4294967296 := by rw [ush _ (32 : Int32) 32 (by decide) (by decide) (by decide), hlen]; rfl
  generalize XT.ushrL (len <<< ((3 : Int32).toInt64 &&& 63)) (32 : Int32) = u110 at t110 ⊢
  refine Wk.l2i X109 hx (hb hby d6_38) rfl ?_
  have r110 := c_l2i u110
  generalize u110.toInt32 = x110 at r110 ⊢
  refine Wk.i2b X109 hx (hb hby d6_39) rfl ?_
  have q110 := c_i2b x110
  generalize x110.toInt8.toInt32 = y110 at q110 ⊢
  refine Wk.bastore X109 hx hZ e109 B109 (by decide) (by decide) 7 (by decide) (Nat.le_of_ble_eq_true rfl) (hb hby d6_40) rfl (fun T111 h111 X111 e111 W111 A111 => ?_)
  have g111 := c_i2b y110
  have f111 : (nar .byte y110).toInt % 256 = (len.toInt * 8) % 18446744073709551616 / 4294967296 % 256 := by show (y110.toInt8.toInt32).toInt % 256 = _; omega
  have B111 : Arv Z h111 la kb .byte 14 [.int sv, .int 25, .int 32, .int (nar .byte y102), .int (nar .byte y104), .int (nar .byte y106), .int (nar .byte y108), .int (nar .byte y110), .int sv, .int sv, .int sv, .int sv, .int sv, .int sv] (.int 0) := A111
  have N111 := Fr.snoc X111 N109 hla
  refine Wk.iinc (l' := #[.val (.ref a), .val (.ref la), .val (.int (1 : Int32)), .val (.long len), .second, .val (.int ((4 : Int32) + (1 : Int32)))]) X111 hx (1 : Int32) (hb hby d6_41) rfl rfl rfl rfl ?_
  rw [show ((4 : Int32) + (1 : Int32)) = (5 : Int32) from by decide]
  refine Wk.goto X111 hx 15 (hb hby d6_44) rfl ?_
  refine Wk.iload X111 hx (hb hby d6_15) rfl rfl ?_
  refine Wk.bipush X111 hx (8 : Int32) (hb hby d6_17) rfl rfl ?_
  refine Wk.icmp_ge X111 hx 47 22 (hb hby d6_19) rfl rfl (show ((5 : Int32) : Int32).toInt = 5 from (by decide)) (show ((8 : Int32) : Int32).toInt = 8 from (by decide)) (fun h6 => absurd h6 (by omega)) (fun h6 => ?_)
  refine Wk.aloadN X111 hx (hb hby d6_22) rfl rfl rfl ?_
  refine Wk.iloadN X111 hx (hb hby d6_23) rfl rfl ?_
  refine Wk.iconst X111 hx (2 : Int32) (hb hby d6_24) rfl rfl ?_
  refine Wk.iadd X111 hx (hb hby d6_25) rfl ?_
  rw [show ((1 : Int32) + (2 : Int32)) = (3 : Int32) from by decide]
  refine Wk.iload X111 hx (hb hby d6_26) rfl rfl ?_
  refine Wk.iadd X111 hx (hb hby d6_28) rfl ?_
  rw [show ((3 : Int32) + (5 : Int32)) = (8 : Int32) from by decide]
  refine Wk.lloadN X111 hx (hb hby d6_29) rfl rfl ?_
  refine Wk.iconst X111 hx (3 : Int32) (hb hby d6_30) rfl rfl ?_
  refine Wk.lshl X111 hx (hb hby d6_31) rfl ?_
  refine Wk.bipush X111 hx (8 : Int32) (hb hby d6_32) rfl rfl ?_
  refine Wk.iload X111 hx (hb hby d6_34) rfl rfl ?_
  refine Wk.imul X111 hx (hb hby d6_36) rfl ?_
  rw [show ((8 : Int32) * (5 : Int32)) = (40 : Int32) from by decide]
  refine Wk.lushr X111 hx (hb hby d6_37) rfl ?_
  have t112 : (XT.ushrL (len <<< ((3 : Int32).toInt64 &&& 63)) (40 : Int32)).toInt = (len.toInt * 8) % 18446744073709551616 / 1099511627776 := by rw [ush _ (40 : Int32) 40 (by decide) (by decide) (by decide), hlen]; rfl
  generalize XT.ushrL (len <<< ((3 : Int32).toInt64 &&& 63)) (40 : Int32) = u112 at t112 ⊢
  refine Wk.l2i X111 hx (hb hby d6_38) rfl ?_
  have r112 := c_l2i u112
  generalize u112.toInt32 = x112 at r112 ⊢
  refine Wk.i2b X111 hx (hb hby d6_39) rfl ?_
  have q112 := c_i2b x112
  generalize x112.toInt8.toInt32 = y112 at q112 ⊢
  refine Wk.bastore X111 hx hZ e111 B111 (by decide) (by decide) 8 (by decide) (Nat.le_of_ble_eq_true rfl) (hb hby d6_40) rfl (fun T113 h113 X113 e113 W113 A113 => ?_)
  have g113 := c_i2b y112
  have f113 : (nar .byte y112).toInt % 256 = (len.toInt * 8) % 18446744073709551616 / 1099511627776 % 256 := by show (y112.toInt8.toInt32).toInt % 256 = _; omega
  have B113 : Arv Z h113 la kb .byte 14 [.int sv, .int 25, .int 32, .int (nar .byte y102), .int (nar .byte y104), .int (nar .byte y106), .int (nar .byte y108), .int (nar .byte y110), .int (nar .byte y112), .int sv, .int sv, .int sv, .int sv, .int sv] (.int 0) := A113
  have N113 := Fr.snoc X113 N111 hla
  refine Wk.iinc (l' := #[.val (.ref a), .val (.ref la), .val (.int (1 : Int32)), .val (.long len), .second, .val (.int ((5 : Int32) + (1 : Int32)))]) X113 hx (1 : Int32) (hb hby d6_41) rfl rfl rfl rfl ?_
  rw [show ((5 : Int32) + (1 : Int32)) = (6 : Int32) from by decide]
  refine Wk.goto X113 hx 15 (hb hby d6_44) rfl ?_
  refine Wk.iload X113 hx (hb hby d6_15) rfl rfl ?_
  refine Wk.bipush X113 hx (8 : Int32) (hb hby d6_17) rfl rfl ?_
  refine Wk.icmp_ge X113 hx 47 22 (hb hby d6_19) rfl rfl (show ((6 : Int32) : Int32).toInt = 6 from (by decide)) (show ((8 : Int32) : Int32).toInt = 8 from (by decide)) (fun h7 => absurd h7 (by omega)) (fun h7 => ?_)
  refine Wk.aloadN X113 hx (hb hby d6_22) rfl rfl rfl ?_
  refine Wk.iloadN X113 hx (hb hby d6_23) rfl rfl ?_
  refine Wk.iconst X113 hx (2 : Int32) (hb hby d6_24) rfl rfl ?_
  refine Wk.iadd X113 hx (hb hby d6_25) rfl ?_
  rw [show ((1 : Int32) + (2 : Int32)) = (3 : Int32) from by decide]
  refine Wk.iload X113 hx (hb hby d6_26) rfl rfl ?_
  refine Wk.iadd X113 hx (hb hby d6_28) rfl ?_
  rw [show ((3 : Int32) + (6 : Int32)) = (9 : Int32) from by decide]
  refine Wk.lloadN X113 hx (hb hby d6_29) rfl rfl ?_
  refine Wk.iconst X113 hx (3 : Int32) (hb hby d6_30) rfl rfl ?_
  refine Wk.lshl X113 hx (hb hby d6_31) rfl ?_
  refine Wk.bipush X113 hx (8 : Int32) (hb hby d6_32) rfl rfl ?_
  refine Wk.iload X113 hx (hb hby d6_34) rfl rfl ?_
  refine Wk.imul X113 hx (hb hby d6_36) rfl ?_
  rw [show ((8 : Int32) * (6 : Int32)) = (48 : Int32) from by decide]
  refine Wk.lushr X113 hx (hb hby d6_37) rfl ?_
  have t114 : (XT.ushrL (len <<< ((3 : Int32).toInt64 &&& 63)) (48 : Int32)).toInt = (len.toInt * 8) % 18446744073709551616 / 281474976710656 := by rw [ush _ (48 : Int32) 48 (by decide) (by decide) (by decide), hlen]; rfl
  generalize XT.ushrL (len <<< ((3 : Int32).toInt64 &&& 63)) (48 : Int32) = u114 at t114 ⊢
  refine Wk.l2i X113 hx (hb hby d6_38) rfl ?_
  have r114 := c_l2i u114
  generalize u114.toInt32 = x114 at r114 ⊢
  refine Wk.i2b X113 hx (hb hby d6_39) rfl ?_
  have q114 := c_i2b x114
  generalize x114.toInt8.toInt32 = y114 at q114 ⊢
  refine Wk.bastore X113 hx hZ e113 B113 (by decide) (by decide) 9 (by decide) (Nat.le_of_ble_eq_true rfl) (hb hby d6_40) rfl (fun T115 h115 X115 e115 W115 A115 => ?_)
  have g115 := c_i2b y114
  have f115 : (nar .byte y114).toInt % 256 = (len.toInt * 8) % 18446744073709551616 / 281474976710656 % 256 := by show (y114.toInt8.toInt32).toInt % 256 = _; omega
  have B115 : Arv Z h115 la kb .byte 14 [.int sv, .int 25, .int 32, .int (nar .byte y102), .int (nar .byte y104), .int (nar .byte y106), .int (nar .byte y108), .int (nar .byte y110), .int (nar .byte y112), .int (nar .byte y114), .int sv, .int sv, .int sv, .int sv] (.int 0) := A115
  have N115 := Fr.snoc X115 N113 hla
  refine Wk.iinc (l' := #[.val (.ref a), .val (.ref la), .val (.int (1 : Int32)), .val (.long len), .second, .val (.int ((6 : Int32) + (1 : Int32)))]) X115 hx (1 : Int32) (hb hby d6_41) rfl rfl rfl rfl ?_
  rw [show ((6 : Int32) + (1 : Int32)) = (7 : Int32) from by decide]
  refine Wk.goto X115 hx 15 (hb hby d6_44) rfl ?_
  refine Wk.iload X115 hx (hb hby d6_15) rfl rfl ?_
  refine Wk.bipush X115 hx (8 : Int32) (hb hby d6_17) rfl rfl ?_
  refine Wk.icmp_ge X115 hx 47 22 (hb hby d6_19) rfl rfl (show ((7 : Int32) : Int32).toInt = 7 from (by decide)) (show ((8 : Int32) : Int32).toInt = 8 from (by decide)) (fun h8 => absurd h8 (by omega)) (fun h8 => ?_)
  refine Wk.aloadN X115 hx (hb hby d6_22) rfl rfl rfl ?_
  refine Wk.iloadN X115 hx (hb hby d6_23) rfl rfl ?_
  refine Wk.iconst X115 hx (2 : Int32) (hb hby d6_24) rfl rfl ?_
  refine Wk.iadd X115 hx (hb hby d6_25) rfl ?_
  rw [show ((1 : Int32) + (2 : Int32)) = (3 : Int32) from by decide]
  refine Wk.iload X115 hx (hb hby d6_26) rfl rfl ?_
  refine Wk.iadd X115 hx (hb hby d6_28) rfl ?_
  rw [show ((3 : Int32) + (7 : Int32)) = (10 : Int32) from by decide]
  refine Wk.lloadN X115 hx (hb hby d6_29) rfl rfl ?_
  refine Wk.iconst X115 hx (3 : Int32) (hb hby d6_30) rfl rfl ?_
  refine Wk.lshl X115 hx (hb hby d6_31) rfl ?_
  refine Wk.bipush X115 hx (8 : Int32) (hb hby d6_32) rfl rfl ?_
  refine Wk.iload X115 hx (hb hby d6_34) rfl rfl ?_
  refine Wk.imul X115 hx (hb hby d6_36) rfl ?_
  rw [show ((8 : Int32) * (7 : Int32)) = (56 : Int32) from by decide]
  refine Wk.lushr X115 hx (hb hby d6_37) rfl ?_
  have t116 : (XT.ushrL (len <<< ((3 : Int32).toInt64 &&& 63)) (56 : Int32)).toInt = (len.toInt * 8) % 18446744073709551616 / 72057594037927936 := by rw [ush _ (56 : Int32) 56 (by decide) (by decide) (by decide), hlen]; rfl
  generalize XT.ushrL (len <<< ((3 : Int32).toInt64 &&& 63)) (56 : Int32) = u116 at t116 ⊢
  refine Wk.l2i X115 hx (hb hby d6_38) rfl ?_
  have r116 := c_l2i u116
  generalize u116.toInt32 = x116 at r116 ⊢
  refine Wk.i2b X115 hx (hb hby d6_39) rfl ?_
  have q116 := c_i2b x116
  generalize x116.toInt8.toInt32 = y116 at q116 ⊢
  refine Wk.bastore X115 hx hZ e115 B115 (by decide) (by decide) 10 (by decide) (Nat.le_of_ble_eq_true rfl) (hb hby d6_40) rfl (fun T117 h117 X117 e117 W117 A117 => ?_)
  have g117 := c_i2b y116
  have f117 : (nar .byte y116).toInt % 256 = (len.toInt * 8) % 18446744073709551616 / 72057594037927936 % 256 := by show (y116.toInt8.toInt32).toInt % 256 = _; omega
  have B117 : Arv Z h117 la kb .byte 14 [.int sv, .int 25, .int 32, .int (nar .byte y102), .int (nar .byte y104), .int (nar .byte y106), .int (nar .byte y108), .int (nar .byte y110), .int (nar .byte y112), .int (nar .byte y114), .int (nar .byte y116), .int sv, .int sv, .int sv] (.int 0) := A117
  have N117 := Fr.snoc X117 N115 hla
  refine Wk.iinc (l' := #[.val (.ref a), .val (.ref la), .val (.int (1 : Int32)), .val (.long len), .second, .val (.int ((7 : Int32) + (1 : Int32)))]) X117 hx (1 : Int32) (hb hby d6_41) rfl rfl rfl rfl ?_
  rw [show ((7 : Int32) + (1 : Int32)) = (8 : Int32) from by decide]
  refine Wk.goto X117 hx 15 (hb hby d6_44) rfl ?_
  refine Wk.iload X117 hx (hb hby d6_15) rfl rfl ?_
  refine Wk.bipush X117 hx (8 : Int32) (hb hby d6_17) rfl rfl ?_
  refine Wk.icmp_ge X117 hx 47 22 (hb hby d6_19) rfl rfl (show ((8 : Int32) : Int32).toInt = 8 from (by decide)) (show ((8 : Int32) : Int32).toInt = 8 from (by decide)) (fun h9 => ?_) (fun h9 => absurd h9 (by omega))
  exact Wk.retV X117 hx hlk hret (hb hby d6_47) (by decide) (by decide) (by rw [e117]; exact ⟨rfl, N117, (((((((((((Keep.refl h0 [la]).wr W100 (Or.inl (List.mem_singleton.mpr rfl))).wr W101 (Or.inl (List.mem_singleton.mpr rfl))).wr W103 (Or.inl (List.mem_singleton.mpr rfl))).wr W105 (Or.inl (List.mem_singleton.mpr rfl))).wr W107 (Or.inl (List.mem_singleton.mpr rfl))).wr W109 (Or.inl (List.mem_singleton.mpr rfl))).wr W111 (Or.inl (List.mem_singleton.mpr rfl))).wr W113 (Or.inl (List.mem_singleton.mpr rfl))).wr W115 (Or.inl (List.mem_singleton.mpr rfl))).wr W117 (Or.inl (List.mem_singleton.mpr rfl))), (nar .byte y102), (nar .byte y104), (nar .byte y106), (nar .byte y108), (nar .byte y110), (nar .byte y112), (nar .byte y114), (nar .byte y116), B117, f103, f105, f107, f109, f111, f113, f115, f117⟩)
set_option maxRecDepth 65536 in
set_option maxHeartbeats 40000000 in
theorem mwt2 (l : Launch) (Z : State) (a0 : Array Value) (hw : ∀ d ∈ tables_1, d.before a0 Z = true) (a la : Addr) (kb : ClassId) (sv : Int32) (len : Int64) (n0 : Nat) (hla : n0 ≤ la) (h0 : Heap) (A : Arv Z h0 la kb .byte 14 [.int sv, .int sv, .int sv, .int sv, .int sv, .int sv, .int sv, .int sv, .int sv, .int sv, .int sv, .int sv, .int sv, .int sv] (.int 0)) : Wk.Met l Z (⟨"com/example/bonded_fonds/bondedfonds/fixity/Haval", "writeTrailer", "([BIJ)V"⟩ : MethodName) prog_21_method_4_code 6 none [] { frames := 0, cells := 0, slots := 0, locals := 0 } #[(.ref a), (.ref la), (.int (2 : Int32)), (.long len)] h0 (Qw Z la kb sv len 2 n0 h0) := by
  refine Wk.start pn6 ?_
  intro p e s m below meth c s₁ X0 hx hby hml hown0 hnm hret hlk hZ e0
  have hown : s.vm.findClass "com/example/bonded_fonds/bondedfonds/fixity/Haval" = some m.cls := hown0
  have hlen : (len <<< ((3 : Int32).toInt64 &&& 63)).toInt % 18446744073709551616 = (len.toInt * 8) % 18446744073709551616 := by
    have := c_lshl len (3 : Int32) 3 (by decide)
    rw [show ((3 : Int32) &&& 0x3f).toInt64 = (3 : Int32).toInt64 &&& 63 from by decide] at this
    omega
  refine Wk.enter (g' := (mkF m 0 #[.val (.ref a), .val (.ref la), .val (.int (2 : Int32)), .val (.long len), .second, .unset] [])) (by first | rfl | (simp [entryFrame, mkF, argsToLocals, Value.category, maxLocals]; done)) ?_
  refine Wk.aloadN X0 hx (hb hby d6_0) rfl rfl rfl ?_
  refine Wk.iloadN X0 hx (hb hby d6_1) rfl rfl ?_
  refine Wk.bipush X0 hx (25 : Int32) (hb hby d6_2) rfl rfl ?_
  refine Wk.bastore X0 hx hZ e0 A (by decide) (by decide) 2 (by decide) (Nat.le_of_ble_eq_true rfl) (hb hby d6_4) rfl (fun T100 h100 X100 e100 W100 A100 => ?_)
  have B100 : Arv Z h100 la kb .byte 14 [.int sv, .int sv, .int 25, .int sv, .int sv, .int sv, .int sv, .int sv, .int sv, .int sv, .int sv, .int sv, .int sv, .int sv] (.int 0) := A100
  have N100 := Fr.snoc X100 (Fr.nil n0) hla
  refine Wk.aloadN X100 hx (hb hby d6_5) rfl rfl rfl ?_
  refine Wk.iloadN X100 hx (hb hby d6_6) rfl rfl ?_
  refine Wk.iconst X100 hx (1 : Int32) (hb hby d6_7) rfl rfl ?_
  refine Wk.iadd X100 hx (hb hby d6_8) rfl ?_
  rw [show ((2 : Int32) + (1 : Int32)) = (3 : Int32) from by decide]
  refine Wk.bipush X100 hx (32 : Int32) (hb hby d6_9) rfl rfl ?_
  refine Wk.bastore X100 hx hZ e100 B100 (by decide) (by decide) 3 (by decide) (Nat.le_of_ble_eq_true rfl) (hb hby d6_11) rfl (fun T101 h101 X101 e101 W101 A101 => ?_)
  have B101 : Arv Z h101 la kb .byte 14 [.int sv, .int sv, .int 25, .int 32, .int sv, .int sv, .int sv, .int sv, .int sv, .int sv, .int sv, .int sv, .int sv, .int sv] (.int 0) := A101
  have N101 := Fr.snoc X101 N100 hla
  refine Wk.iconst X101 hx (0 : Int32) (hb hby d6_12) rfl rfl ?_
  refine Wk.istore (l' := #[.val (.ref a), .val (.ref la), .val (.int (2 : Int32)), .val (.long len), .second, .val (.int (0 : Int32))]) X101 hx (hb hby d6_13) rfl rfl ?_
  refine Wk.iload X101 hx (hb hby d6_15) rfl rfl ?_
  refine Wk.bipush X101 hx (8 : Int32) (hb hby d6_17) rfl rfl ?_
  refine Wk.icmp_ge X101 hx 47 22 (hb hby d6_19) rfl rfl (show ((0 : Int32) : Int32).toInt = 0 from (by decide)) (show ((8 : Int32) : Int32).toInt = 8 from (by decide)) (fun h1 => absurd h1 (by omega)) (fun h1 => ?_)
  refine Wk.aloadN X101 hx (hb hby d6_22) rfl rfl rfl ?_
  refine Wk.iloadN X101 hx (hb hby d6_23) rfl rfl ?_
  refine Wk.iconst X101 hx (2 : Int32) (hb hby d6_24) rfl rfl ?_
  refine Wk.iadd X101 hx (hb hby d6_25) rfl ?_
  rw [show ((2 : Int32) + (2 : Int32)) = (4 : Int32) from by decide]
  refine Wk.iload X101 hx (hb hby d6_26) rfl rfl ?_
  refine Wk.iadd X101 hx (hb hby d6_28) rfl ?_
  rw [show ((4 : Int32) + (0 : Int32)) = (4 : Int32) from by decide]
  refine Wk.lloadN X101 hx (hb hby d6_29) rfl rfl ?_
  refine Wk.iconst X101 hx (3 : Int32) (hb hby d6_30) rfl rfl ?_
  refine Wk.lshl X101 hx (hb hby d6_31) rfl ?_
  refine Wk.bipush X101 hx (8 : Int32) (hb hby d6_32) rfl rfl ?_
  refine Wk.iload X101 hx (hb hby d6_34) rfl rfl ?_
  refine Wk.imul X101 hx (hb hby d6_36) rfl ?_
  rw [show ((8 : Int32) * (0 : Int32)) = (0 : Int32) from by decide]
  refine Wk.lushr X101 hx (hb hby d6_37) rfl ?_
  have t102 : (XT.ushrL (len <<< ((3 : Int32).toInt64 &&& 63)) (0 : Int32)).toInt % 18446744073709551616 = (len.toInt * 8) % 18446744073709551616 := by rw [c_lushr0]; exact hlen
  generalize XT.ushrL (len <<< ((3 : Int32).toInt64 &&& 63)) (0 : Int32) = u102 at t102 ⊢
  refine Wk.l2i X101 hx (hb hby d6_38) rfl ?_
  have r102 := c_l2i u102
  generalize u102.toInt32 = x102 at r102 ⊢
  refine Wk.i2b X101 hx (hb hby d6_39) rfl ?_
  have q102 := c_i2b x102
  generalize x102.toInt8.toInt32 = y102 at q102 ⊢
  refine Wk.bastore X101 hx hZ e101 B101 (by decide) (by decide) 4 (by decide) (Nat.le_of_ble_eq_true rfl) (hb hby d6_40) rfl (fun T103 h103 X103 e103 W103 A103 => ?_)
  have g103 := c_i2b y102
  have f103 : (nar .byte y102).toInt % 256 = (len.toInt * 8) % 18446744073709551616 / 1 % 256 := by show (y102.toInt8.toInt32).toInt % 256 = _; omega
  have B103 : Arv Z h103 la kb .byte 14 [.int sv, .int sv, .int 25, .int 32, .int (nar .byte y102), .int sv, .int sv, .int sv, .int sv, .int sv, .int sv, .int sv, .int sv, .int sv] (.int 0) := A103
  have N103 := Fr.snoc X103 N101 hla
  refine Wk.iinc (l' := #[.val (.ref a), .val (.ref la), .val (.int (2 : Int32)), .val (.long len), .second, .val (.int ((0 : Int32) + (1 : Int32)))]) X103 hx (1 : Int32) (hb hby d6_41) rfl rfl rfl rfl ?_
  rw [show ((0 : Int32) + (1 : Int32)) = (1 : Int32) from by decide]
  refine Wk.goto X103 hx 15 (hb hby d6_44) rfl ?_
  refine Wk.iload X103 hx (hb hby d6_15) rfl rfl ?_
  refine Wk.bipush X103 hx (8 : Int32) (hb hby d6_17) rfl rfl ?_
  refine Wk.icmp_ge X103 hx 47 22 (hb hby d6_19) rfl rfl (show ((1 : Int32) : Int32).toInt = 1 from (by decide)) (show ((8 : Int32) : Int32).toInt = 8 from (by decide)) (fun h2 => absurd h2 (by omega)) (fun h2 => ?_)
  refine Wk.aloadN X103 hx (hb hby d6_22) rfl rfl rfl ?_
  refine Wk.iloadN X103 hx (hb hby d6_23) rfl rfl ?_
  refine Wk.iconst X103 hx (2 : Int32) (hb hby d6_24) rfl rfl ?_
  refine Wk.iadd X103 hx (hb hby d6_25) rfl ?_
  rw [show ((2 : Int32) + (2 : Int32)) = (4 : Int32) from by decide]
  refine Wk.iload X103 hx (hb hby d6_26) rfl rfl ?_
  refine Wk.iadd X103 hx (hb hby d6_28) rfl ?_
  rw [show ((4 : Int32) + (1 : Int32)) = (5 : Int32) from by decide]
  refine Wk.lloadN X103 hx (hb hby d6_29) rfl rfl ?_
  refine Wk.iconst X103 hx (3 : Int32) (hb hby d6_30) rfl rfl ?_
  refine Wk.lshl X103 hx (hb hby d6_31) rfl ?_
  refine Wk.bipush X103 hx (8 : Int32) (hb hby d6_32) rfl rfl ?_
  refine Wk.iload X103 hx (hb hby d6_34) rfl rfl ?_
  refine Wk.imul X103 hx (hb hby d6_36) rfl ?_
  rw [show ((8 : Int32) * (1 : Int32)) = (8 : Int32) from by decide]
  refine Wk.lushr X103 hx (hb hby d6_37) rfl ?_
  have t104 : (XT.ushrL (len <<< ((3 : Int32).toInt64 &&& 63)) (8 : Int32)).toInt = (len.toInt * 8) % 18446744073709551616 / 256 := by rw [ush _ (8 : Int32) 8 (by decide) (by decide) (by decide), hlen]; rfl
  generalize XT.ushrL (len <<< ((3 : Int32).toInt64 &&& 63)) (8 : Int32) = u104 at t104 ⊢
  refine Wk.l2i X103 hx (hb hby d6_38) rfl ?_
  have r104 := c_l2i u104
  generalize u104.toInt32 = x104 at r104 ⊢
  refine Wk.i2b X103 hx (hb hby d6_39) rfl ?_
  have q104 := c_i2b x104
  generalize x104.toInt8.toInt32 = y104 at q104 ⊢
  refine Wk.bastore X103 hx hZ e103 B103 (by decide) (by decide) 5 (by decide) (Nat.le_of_ble_eq_true rfl) (hb hby d6_40) rfl (fun T105 h105 X105 e105 W105 A105 => ?_)
  have g105 := c_i2b y104
  have f105 : (nar .byte y104).toInt % 256 = (len.toInt * 8) % 18446744073709551616 / 256 % 256 := by show (y104.toInt8.toInt32).toInt % 256 = _; omega
  have B105 : Arv Z h105 la kb .byte 14 [.int sv, .int sv, .int 25, .int 32, .int (nar .byte y102), .int (nar .byte y104), .int sv, .int sv, .int sv, .int sv, .int sv, .int sv, .int sv, .int sv] (.int 0) := A105
  have N105 := Fr.snoc X105 N103 hla
  refine Wk.iinc (l' := #[.val (.ref a), .val (.ref la), .val (.int (2 : Int32)), .val (.long len), .second, .val (.int ((1 : Int32) + (1 : Int32)))]) X105 hx (1 : Int32) (hb hby d6_41) rfl rfl rfl rfl ?_
  rw [show ((1 : Int32) + (1 : Int32)) = (2 : Int32) from by decide]
  refine Wk.goto X105 hx 15 (hb hby d6_44) rfl ?_
  refine Wk.iload X105 hx (hb hby d6_15) rfl rfl ?_
  refine Wk.bipush X105 hx (8 : Int32) (hb hby d6_17) rfl rfl ?_
  refine Wk.icmp_ge X105 hx 47 22 (hb hby d6_19) rfl rfl (show ((2 : Int32) : Int32).toInt = 2 from (by decide)) (show ((8 : Int32) : Int32).toInt = 8 from (by decide)) (fun h3 => absurd h3 (by omega)) (fun h3 => ?_)
  refine Wk.aloadN X105 hx (hb hby d6_22) rfl rfl rfl ?_
  refine Wk.iloadN X105 hx (hb hby d6_23) rfl rfl ?_
  refine Wk.iconst X105 hx (2 : Int32) (hb hby d6_24) rfl rfl ?_
  refine Wk.iadd X105 hx (hb hby d6_25) rfl ?_
  rw [show ((2 : Int32) + (2 : Int32)) = (4 : Int32) from by decide]
  refine Wk.iload X105 hx (hb hby d6_26) rfl rfl ?_
  refine Wk.iadd X105 hx (hb hby d6_28) rfl ?_
  rw [show ((4 : Int32) + (2 : Int32)) = (6 : Int32) from by decide]
  refine Wk.lloadN X105 hx (hb hby d6_29) rfl rfl ?_
  refine Wk.iconst X105 hx (3 : Int32) (hb hby d6_30) rfl rfl ?_
  refine Wk.lshl X105 hx (hb hby d6_31) rfl ?_
  refine Wk.bipush X105 hx (8 : Int32) (hb hby d6_32) rfl rfl ?_
  refine Wk.iload X105 hx (hb hby d6_34) rfl rfl ?_
  refine Wk.imul X105 hx (hb hby d6_36) rfl ?_
  rw [show ((8 : Int32) * (2 : Int32)) = (16 : Int32) from by decide]
  refine Wk.lushr X105 hx (hb hby d6_37) rfl ?_
  have t106 : (XT.ushrL (len <<< ((3 : Int32).toInt64 &&& 63)) (16 : Int32)).toInt = (len.toInt * 8) % 18446744073709551616 / 65536 := by rw [ush _ (16 : Int32) 16 (by decide) (by decide) (by decide), hlen]; rfl
  generalize XT.ushrL (len <<< ((3 : Int32).toInt64 &&& 63)) (16 : Int32) = u106 at t106 ⊢
  refine Wk.l2i X105 hx (hb hby d6_38) rfl ?_
  have r106 := c_l2i u106
  generalize u106.toInt32 = x106 at r106 ⊢
  refine Wk.i2b X105 hx (hb hby d6_39) rfl ?_
  have q106 := c_i2b x106
  generalize x106.toInt8.toInt32 = y106 at q106 ⊢
  refine Wk.bastore X105 hx hZ e105 B105 (by decide) (by decide) 6 (by decide) (Nat.le_of_ble_eq_true rfl) (hb hby d6_40) rfl (fun T107 h107 X107 e107 W107 A107 => ?_)
  have g107 := c_i2b y106
  have f107 : (nar .byte y106).toInt % 256 = (len.toInt * 8) % 18446744073709551616 / 65536 % 256 := by show (y106.toInt8.toInt32).toInt % 256 = _; omega
  have B107 : Arv Z h107 la kb .byte 14 [.int sv, .int sv, .int 25, .int 32, .int (nar .byte y102), .int (nar .byte y104), .int (nar .byte y106), .int sv, .int sv, .int sv, .int sv, .int sv, .int sv, .int sv] (.int 0) := A107
  have N107 := Fr.snoc X107 N105 hla
  refine Wk.iinc (l' := #[.val (.ref a), .val (.ref la), .val (.int (2 : Int32)), .val (.long len), .second, .val (.int ((2 : Int32) + (1 : Int32)))]) X107 hx (1 : Int32) (hb hby d6_41) rfl rfl rfl rfl ?_
  rw [show ((2 : Int32) + (1 : Int32)) = (3 : Int32) from by decide]
  refine Wk.goto X107 hx 15 (hb hby d6_44) rfl ?_
  refine Wk.iload X107 hx (hb hby d6_15) rfl rfl ?_
  refine Wk.bipush X107 hx (8 : Int32) (hb hby d6_17) rfl rfl ?_
  refine Wk.icmp_ge X107 hx 47 22 (hb hby d6_19) rfl rfl (show ((3 : Int32) : Int32).toInt = 3 from (by decide)) (show ((8 : Int32) : Int32).toInt = 8 from (by decide)) (fun h4 => absurd h4 (by omega)) (fun h4 => ?_)
  refine Wk.aloadN X107 hx (hb hby d6_22) rfl rfl rfl ?_
  refine Wk.iloadN X107 hx (hb hby d6_23) rfl rfl ?_
  refine Wk.iconst X107 hx (2 : Int32) (hb hby d6_24) rfl rfl ?_
  refine Wk.iadd X107 hx (hb hby d6_25) rfl ?_
  rw [show ((2 : Int32) + (2 : Int32)) = (4 : Int32) from by decide]
  refine Wk.iload X107 hx (hb hby d6_26) rfl rfl ?_
  refine Wk.iadd X107 hx (hb hby d6_28) rfl ?_
  rw [show ((4 : Int32) + (3 : Int32)) = (7 : Int32) from by decide]
  refine Wk.lloadN X107 hx (hb hby d6_29) rfl rfl ?_
  refine Wk.iconst X107 hx (3 : Int32) (hb hby d6_30) rfl rfl ?_
  refine Wk.lshl X107 hx (hb hby d6_31) rfl ?_
  refine Wk.bipush X107 hx (8 : Int32) (hb hby d6_32) rfl rfl ?_
  refine Wk.iload X107 hx (hb hby d6_34) rfl rfl ?_
  refine Wk.imul X107 hx (hb hby d6_36) rfl ?_
  rw [show ((8 : Int32) * (3 : Int32)) = (24 : Int32) from by decide]
  refine Wk.lushr X107 hx (hb hby d6_37) rfl ?_
  have t108 : (XT.ushrL (len <<< ((3 : Int32).toInt64 &&& 63)) (24 : Int32)).toInt = (len.toInt * 8) % 18446744073709551616 / 16777216 := by rw [ush _ (24 : Int32) 24 (by decide) (by decide) (by decide), hlen]; rfl
  generalize XT.ushrL (len <<< ((3 : Int32).toInt64 &&& 63)) (24 : Int32) = u108 at t108 ⊢
  refine Wk.l2i X107 hx (hb hby d6_38) rfl ?_
  have r108 := c_l2i u108
  generalize u108.toInt32 = x108 at r108 ⊢
  refine Wk.i2b X107 hx (hb hby d6_39) rfl ?_
  have q108 := c_i2b x108
  generalize x108.toInt8.toInt32 = y108 at q108 ⊢
  refine Wk.bastore X107 hx hZ e107 B107 (by decide) (by decide) 7 (by decide) (Nat.le_of_ble_eq_true rfl) (hb hby d6_40) rfl (fun T109 h109 X109 e109 W109 A109 => ?_)
  have g109 := c_i2b y108
  have f109 : (nar .byte y108).toInt % 256 = (len.toInt * 8) % 18446744073709551616 / 16777216 % 256 := by show (y108.toInt8.toInt32).toInt % 256 = _; omega
  have B109 : Arv Z h109 la kb .byte 14 [.int sv, .int sv, .int 25, .int 32, .int (nar .byte y102), .int (nar .byte y104), .int (nar .byte y106), .int (nar .byte y108), .int sv, .int sv, .int sv, .int sv, .int sv, .int sv] (.int 0) := A109
  have N109 := Fr.snoc X109 N107 hla
  refine Wk.iinc (l' := #[.val (.ref a), .val (.ref la), .val (.int (2 : Int32)), .val (.long len), .second, .val (.int ((3 : Int32) + (1 : Int32)))]) X109 hx (1 : Int32) (hb hby d6_41) rfl rfl rfl rfl ?_
  rw [show ((3 : Int32) + (1 : Int32)) = (4 : Int32) from by decide]
  refine Wk.goto X109 hx 15 (hb hby d6_44) rfl ?_
  refine Wk.iload X109 hx (hb hby d6_15) rfl rfl ?_
  refine Wk.bipush X109 hx (8 : Int32) (hb hby d6_17) rfl rfl ?_
  refine Wk.icmp_ge X109 hx 47 22 (hb hby d6_19) rfl rfl (show ((4 : Int32) : Int32).toInt = 4 from (by decide)) (show ((8 : Int32) : Int32).toInt = 8 from (by decide)) (fun h5 => absurd h5 (by omega)) (fun h5 => ?_)
  refine Wk.aloadN X109 hx (hb hby d6_22) rfl rfl rfl ?_
  refine Wk.iloadN X109 hx (hb hby d6_23) rfl rfl ?_
  refine Wk.iconst X109 hx (2 : Int32) (hb hby d6_24) rfl rfl ?_
  refine Wk.iadd X109 hx (hb hby d6_25) rfl ?_
  rw [show ((2 : Int32) + (2 : Int32)) = (4 : Int32) from by decide]
  refine Wk.iload X109 hx (hb hby d6_26) rfl rfl ?_
  refine Wk.iadd X109 hx (hb hby d6_28) rfl ?_
  rw [show ((4 : Int32) + (4 : Int32)) = (8 : Int32) from by decide]
  refine Wk.lloadN X109 hx (hb hby d6_29) rfl rfl ?_
  refine Wk.iconst X109 hx (3 : Int32) (hb hby d6_30) rfl rfl ?_
  refine Wk.lshl X109 hx (hb hby d6_31) rfl ?_
  refine Wk.bipush X109 hx (8 : Int32) (hb hby d6_32) rfl rfl ?_
  refine Wk.iload X109 hx (hb hby d6_34) rfl rfl ?_
  refine Wk.imul X109 hx (hb hby d6_36) rfl ?_
  rw [show ((8 : Int32) * (4 : Int32)) = (32 : Int32) from by decide]
  refine Wk.lushr X109 hx (hb hby d6_37) rfl ?_
  have t110 : (XT.ushrL (len <<< ((3 : Int32).toInt64 &&& 63)) (32 : Int32)).toInt = (len.toInt * 8) % 18446744073709551616 / 4294967296 := by rw [ush _ (32 : Int32) 32 (by decide) (by decide) (by decide), hlen]; rfl
  generalize XT.ushrL (len <<< ((3 : Int32).toInt64 &&& 63)) (32 : Int32) = u110 at t110 ⊢
  refine Wk.l2i X109 hx (hb hby d6_38) rfl ?_
  have r110 := c_l2i u110
  generalize u110.toInt32 = x110 at r110 ⊢
  refine Wk.i2b X109 hx (hb hby d6_39) rfl ?_
  have q110 := c_i2b x110
  generalize x110.toInt8.toInt32 = y110 at q110 ⊢
  refine Wk.bastore X109 hx hZ e109 B109 (by decide) (by decide) 8 (by decide) (Nat.le_of_ble_eq_true rfl) (hb hby d6_40) rfl (fun T111 h111 X111 e111 W111 A111 => ?_)
  have g111 := c_i2b y110
  have f111 : (nar .byte y110).toInt % 256 = (len.toInt * 8) % 18446744073709551616 / 4294967296 % 256 := by show (y110.toInt8.toInt32).toInt % 256 = _; omega
  have B111 : Arv Z h111 la kb .byte 14 [.int sv, .int sv, .int 25, .int 32, .int (nar .byte y102), .int (nar .byte y104), .int (nar .byte y106), .int (nar .byte y108), .int (nar .byte y110), .int sv, .int sv, .int sv, .int sv, .int sv] (.int 0) := A111
  have N111 := Fr.snoc X111 N109 hla
  refine Wk.iinc (l' := #[.val (.ref a), .val (.ref la), .val (.int (2 : Int32)), .val (.long len), .second, .val (.int ((4 : Int32) + (1 : Int32)))]) X111 hx (1 : Int32) (hb hby d6_41) rfl rfl rfl rfl ?_
  rw [show ((4 : Int32) + (1 : Int32)) = (5 : Int32) from by decide]
  refine Wk.goto X111 hx 15 (hb hby d6_44) rfl ?_
  refine Wk.iload X111 hx (hb hby d6_15) rfl rfl ?_
  refine Wk.bipush X111 hx (8 : Int32) (hb hby d6_17) rfl rfl ?_
  refine Wk.icmp_ge X111 hx 47 22 (hb hby d6_19) rfl rfl (show ((5 : Int32) : Int32).toInt = 5 from (by decide)) (show ((8 : Int32) : Int32).toInt = 8 from (by decide)) (fun h6 => absurd h6 (by omega)) (fun h6 => ?_)
  refine Wk.aloadN X111 hx (hb hby d6_22) rfl rfl rfl ?_
  refine Wk.iloadN X111 hx (hb hby d6_23) rfl rfl ?_
  refine Wk.iconst X111 hx (2 : Int32) (hb hby d6_24) rfl rfl ?_
  refine Wk.iadd X111 hx (hb hby d6_25) rfl ?_
  rw [show ((2 : Int32) + (2 : Int32)) = (4 : Int32) from by decide]
  refine Wk.iload X111 hx (hb hby d6_26) rfl rfl ?_
  refine Wk.iadd X111 hx (hb hby d6_28) rfl ?_
  rw [show ((4 : Int32) + (5 : Int32)) = (9 : Int32) from by decide]
  refine Wk.lloadN X111 hx (hb hby d6_29) rfl rfl ?_
  refine Wk.iconst X111 hx (3 : Int32) (hb hby d6_30) rfl rfl ?_
  refine Wk.lshl X111 hx (hb hby d6_31) rfl ?_
  refine Wk.bipush X111 hx (8 : Int32) (hb hby d6_32) rfl rfl ?_
  refine Wk.iload X111 hx (hb hby d6_34) rfl rfl ?_
  refine Wk.imul X111 hx (hb hby d6_36) rfl ?_
  rw [show ((8 : Int32) * (5 : Int32)) = (40 : Int32) from by decide]
  refine Wk.lushr X111 hx (hb hby d6_37) rfl ?_
  have t112 : (XT.ushrL (len <<< ((3 : Int32).toInt64 &&& 63)) (40 : Int32)).toInt = (len.toInt * 8) % 18446744073709551616 / 1099511627776 := by rw [ush _ (40 : Int32) 40 (by decide) (by decide) (by decide), hlen]; rfl
  generalize XT.ushrL (len <<< ((3 : Int32).toInt64 &&& 63)) (40 : Int32) = u112 at t112 ⊢
  refine Wk.l2i X111 hx (hb hby d6_38) rfl ?_
  have r112 := c_l2i u112
  generalize u112.toInt32 = x112 at r112 ⊢
  refine Wk.i2b X111 hx (hb hby d6_39) rfl ?_
  have q112 := c_i2b x112
  generalize x112.toInt8.toInt32 = y112 at q112 ⊢
  refine Wk.bastore X111 hx hZ e111 B111 (by decide) (by decide) 9 (by decide) (Nat.le_of_ble_eq_true rfl) (hb hby d6_40) rfl (fun T113 h113 X113 e113 W113 A113 => ?_)
  have g113 := c_i2b y112
  have f113 : (nar .byte y112).toInt % 256 = (len.toInt * 8) % 18446744073709551616 / 1099511627776 % 256 := by show (y112.toInt8.toInt32).toInt % 256 = _; omega
  have B113 : Arv Z h113 la kb .byte 14 [.int sv, .int sv, .int 25, .int 32, .int (nar .byte y102), .int (nar .byte y104), .int (nar .byte y106), .int (nar .byte y108), .int (nar .byte y110), .int (nar .byte y112), .int sv, .int sv, .int sv, .int sv] (.int 0) := A113
  have N113 := Fr.snoc X113 N111 hla
  refine Wk.iinc (l' := #[.val (.ref a), .val (.ref la), .val (.int (2 : Int32)), .val (.long len), .second, .val (.int ((5 : Int32) + (1 : Int32)))]) X113 hx (1 : Int32) (hb hby d6_41) rfl rfl rfl rfl ?_
  rw [show ((5 : Int32) + (1 : Int32)) = (6 : Int32) from by decide]
  refine Wk.goto X113 hx 15 (hb hby d6_44) rfl ?_
  refine Wk.iload X113 hx (hb hby d6_15) rfl rfl ?_
  refine Wk.bipush X113 hx (8 : Int32) (hb hby d6_17) rfl rfl ?_
  refine Wk.icmp_ge X113 hx 47 22 (hb hby d6_19) rfl rfl (show ((6 : Int32) : Int32).toInt = 6 from (by decide)) (show ((8 : Int32) : Int32).toInt = 8 from (by decide)) (fun h7 => absurd h7 (by omega)) (fun h7 => ?_)
  refine Wk.aloadN X113 hx (hb hby d6_22) rfl rfl rfl ?_
  refine Wk.iloadN X113 hx (hb hby d6_23) rfl rfl ?_
  refine Wk.iconst X113 hx (2 : Int32) (hb hby d6_24) rfl rfl ?_
  refine Wk.iadd X113 hx (hb hby d6_25) rfl ?_
  rw [show ((2 : Int32) + (2 : Int32)) = (4 : Int32) from by decide]
  refine Wk.iload X113 hx (hb hby d6_26) rfl rfl ?_
  refine Wk.iadd X113 hx (hb hby d6_28) rfl ?_
  rw [show ((4 : Int32) + (6 : Int32)) = (10 : Int32) from by decide]
  refine Wk.lloadN X113 hx (hb hby d6_29) rfl rfl ?_
  refine Wk.iconst X113 hx (3 : Int32) (hb hby d6_30) rfl rfl ?_
  refine Wk.lshl X113 hx (hb hby d6_31) rfl ?_
  refine Wk.bipush X113 hx (8 : Int32) (hb hby d6_32) rfl rfl ?_
  refine Wk.iload X113 hx (hb hby d6_34) rfl rfl ?_
  refine Wk.imul X113 hx (hb hby d6_36) rfl ?_
  rw [show ((8 : Int32) * (6 : Int32)) = (48 : Int32) from by decide]
  refine Wk.lushr X113 hx (hb hby d6_37) rfl ?_
  have t114 : (XT.ushrL (len <<< ((3 : Int32).toInt64 &&& 63)) (48 : Int32)).toInt = (len.toInt * 8) % 18446744073709551616 / 281474976710656 := by rw [ush _ (48 : Int32) 48 (by decide) (by decide) (by decide), hlen]; rfl
  generalize XT.ushrL (len <<< ((3 : Int32).toInt64 &&& 63)) (48 : Int32) = u114 at t114 ⊢
  refine Wk.l2i X113 hx (hb hby d6_38) rfl ?_
  have r114 := c_l2i u114
  generalize u114.toInt32 = x114 at r114 ⊢
  refine Wk.i2b X113 hx (hb hby d6_39) rfl ?_
  have q114 := c_i2b x114
  generalize x114.toInt8.toInt32 = y114 at q114 ⊢
  refine Wk.bastore X113 hx hZ e113 B113 (by decide) (by decide) 10 (by decide) (Nat.le_of_ble_eq_true rfl) (hb hby d6_40) rfl (fun T115 h115 X115 e115 W115 A115 => ?_)
  have g115 := c_i2b y114
  have f115 : (nar .byte y114).toInt % 256 = (len.toInt * 8) % 18446744073709551616 / 281474976710656 % 256 := by show (y114.toInt8.toInt32).toInt % 256 = _; omega
  have B115 : Arv Z h115 la kb .byte 14 [.int sv, .int sv, .int 25, .int 32, .int (nar .byte y102), .int (nar .byte y104), .int (nar .byte y106), .int (nar .byte y108), .int (nar .byte y110), .int (nar .byte y112), .int (nar .byte y114), .int sv, .int sv, .int sv] (.int 0) := A115
  have N115 := Fr.snoc X115 N113 hla
  refine Wk.iinc (l' := #[.val (.ref a), .val (.ref la), .val (.int (2 : Int32)), .val (.long len), .second, .val (.int ((6 : Int32) + (1 : Int32)))]) X115 hx (1 : Int32) (hb hby d6_41) rfl rfl rfl rfl ?_
  rw [show ((6 : Int32) + (1 : Int32)) = (7 : Int32) from by decide]
  refine Wk.goto X115 hx 15 (hb hby d6_44) rfl ?_
  refine Wk.iload X115 hx (hb hby d6_15) rfl rfl ?_
  refine Wk.bipush X115 hx (8 : Int32) (hb hby d6_17) rfl rfl ?_
  refine Wk.icmp_ge X115 hx 47 22 (hb hby d6_19) rfl rfl (show ((7 : Int32) : Int32).toInt = 7 from (by decide)) (show ((8 : Int32) : Int32).toInt = 8 from (by decide)) (fun h8 => absurd h8 (by omega)) (fun h8 => ?_)
  refine Wk.aloadN X115 hx (hb hby d6_22) rfl rfl rfl ?_
  refine Wk.iloadN X115 hx (hb hby d6_23) rfl rfl ?_
  refine Wk.iconst X115 hx (2 : Int32) (hb hby d6_24) rfl rfl ?_
  refine Wk.iadd X115 hx (hb hby d6_25) rfl ?_
  rw [show ((2 : Int32) + (2 : Int32)) = (4 : Int32) from by decide]
  refine Wk.iload X115 hx (hb hby d6_26) rfl rfl ?_
  refine Wk.iadd X115 hx (hb hby d6_28) rfl ?_
  rw [show ((4 : Int32) + (7 : Int32)) = (11 : Int32) from by decide]
  refine Wk.lloadN X115 hx (hb hby d6_29) rfl rfl ?_
  refine Wk.iconst X115 hx (3 : Int32) (hb hby d6_30) rfl rfl ?_
  refine Wk.lshl X115 hx (hb hby d6_31) rfl ?_
  refine Wk.bipush X115 hx (8 : Int32) (hb hby d6_32) rfl rfl ?_
  refine Wk.iload X115 hx (hb hby d6_34) rfl rfl ?_
  refine Wk.imul X115 hx (hb hby d6_36) rfl ?_
  rw [show ((8 : Int32) * (7 : Int32)) = (56 : Int32) from by decide]
  refine Wk.lushr X115 hx (hb hby d6_37) rfl ?_
  have t116 : (XT.ushrL (len <<< ((3 : Int32).toInt64 &&& 63)) (56 : Int32)).toInt = (len.toInt * 8) % 18446744073709551616 / 72057594037927936 := by rw [ush _ (56 : Int32) 56 (by decide) (by decide) (by decide), hlen]; rfl
  generalize XT.ushrL (len <<< ((3 : Int32).toInt64 &&& 63)) (56 : Int32) = u116 at t116 ⊢
  refine Wk.l2i X115 hx (hb hby d6_38) rfl ?_
  have r116 := c_l2i u116
  generalize u116.toInt32 = x116 at r116 ⊢
  refine Wk.i2b X115 hx (hb hby d6_39) rfl ?_
  have q116 := c_i2b x116
  generalize x116.toInt8.toInt32 = y116 at q116 ⊢
  refine Wk.bastore X115 hx hZ e115 B115 (by decide) (by decide) 11 (by decide) (Nat.le_of_ble_eq_true rfl) (hb hby d6_40) rfl (fun T117 h117 X117 e117 W117 A117 => ?_)
  have g117 := c_i2b y116
  have f117 : (nar .byte y116).toInt % 256 = (len.toInt * 8) % 18446744073709551616 / 72057594037927936 % 256 := by show (y116.toInt8.toInt32).toInt % 256 = _; omega
  have B117 : Arv Z h117 la kb .byte 14 [.int sv, .int sv, .int 25, .int 32, .int (nar .byte y102), .int (nar .byte y104), .int (nar .byte y106), .int (nar .byte y108), .int (nar .byte y110), .int (nar .byte y112), .int (nar .byte y114), .int (nar .byte y116), .int sv, .int sv] (.int 0) := A117
  have N117 := Fr.snoc X117 N115 hla
  refine Wk.iinc (l' := #[.val (.ref a), .val (.ref la), .val (.int (2 : Int32)), .val (.long len), .second, .val (.int ((7 : Int32) + (1 : Int32)))]) X117 hx (1 : Int32) (hb hby d6_41) rfl rfl rfl rfl ?_
  rw [show ((7 : Int32) + (1 : Int32)) = (8 : Int32) from by decide]
  refine Wk.goto X117 hx 15 (hb hby d6_44) rfl ?_
  refine Wk.iload X117 hx (hb hby d6_15) rfl rfl ?_
  refine Wk.bipush X117 hx (8 : Int32) (hb hby d6_17) rfl rfl ?_
  refine Wk.icmp_ge X117 hx 47 22 (hb hby d6_19) rfl rfl (show ((8 : Int32) : Int32).toInt = 8 from (by decide)) (show ((8 : Int32) : Int32).toInt = 8 from (by decide)) (fun h9 => ?_) (fun h9 => absurd h9 (by omega))
  exact Wk.retV X117 hx hlk hret (hb hby d6_47) (by decide) (by decide) (by rw [e117]; exact ⟨rfl, N117, (((((((((((Keep.refl h0 [la]).wr W100 (Or.inl (List.mem_singleton.mpr rfl))).wr W101 (Or.inl (List.mem_singleton.mpr rfl))).wr W103 (Or.inl (List.mem_singleton.mpr rfl))).wr W105 (Or.inl (List.mem_singleton.mpr rfl))).wr W107 (Or.inl (List.mem_singleton.mpr rfl))).wr W109 (Or.inl (List.mem_singleton.mpr rfl))).wr W111 (Or.inl (List.mem_singleton.mpr rfl))).wr W113 (Or.inl (List.mem_singleton.mpr rfl))).wr W115 (Or.inl (List.mem_singleton.mpr rfl))).wr W117 (Or.inl (List.mem_singleton.mpr rfl))), (nar .byte y102), (nar .byte y104), (nar .byte y106), (nar .byte y108), (nar .byte y110), (nar .byte y112), (nar .byte y114), (nar .byte y116), B117, f103, f105, f107, f109, f111, f113, f115, f117⟩)
set_option maxRecDepth 65536 in
set_option maxHeartbeats 40000000 in
theorem mwt3 (l : Launch) (Z : State) (a0 : Array Value) (hw : ∀ d ∈ tables_1, d.before a0 Z = true) (a la : Addr) (kb : ClassId) (sv : Int32) (len : Int64) (n0 : Nat) (hla : n0 ≤ la) (h0 : Heap) (A : Arv Z h0 la kb .byte 14 [.int sv, .int sv, .int sv, .int sv, .int sv, .int sv, .int sv, .int sv, .int sv, .int sv, .int sv, .int sv, .int sv, .int sv] (.int 0)) : Wk.Met l Z (⟨"com/example/bonded_fonds/bondedfonds/fixity/Haval", "writeTrailer", "([BIJ)V"⟩ : MethodName) prog_21_method_4_code 6 none [] { frames := 0, cells := 0, slots := 0, locals := 0 } #[(.ref a), (.ref la), (.int (3 : Int32)), (.long len)] h0 (Qw Z la kb sv len 3 n0 h0) := by
  refine Wk.start pn6 ?_
  intro p e s m below meth c s₁ X0 hx hby hml hown0 hnm hret hlk hZ e0
  have hown : s.vm.findClass "com/example/bonded_fonds/bondedfonds/fixity/Haval" = some m.cls := hown0
  have hlen : (len <<< ((3 : Int32).toInt64 &&& 63)).toInt % 18446744073709551616 = (len.toInt * 8) % 18446744073709551616 := by
    have := c_lshl len (3 : Int32) 3 (by decide)
    rw [show ((3 : Int32) &&& 0x3f).toInt64 = (3 : Int32).toInt64 &&& 63 from by decide] at this
    omega
  refine Wk.enter (g' := (mkF m 0 #[.val (.ref a), .val (.ref la), .val (.int (3 : Int32)), .val (.long len), .second, .unset] [])) (by first | rfl | (simp [entryFrame, mkF, argsToLocals, Value.category, maxLocals]; done)) ?_
  refine Wk.aloadN X0 hx (hb hby d6_0) rfl rfl rfl ?_
  refine Wk.iloadN X0 hx (hb hby d6_1) rfl rfl ?_
  refine Wk.bipush X0 hx (25 : Int32) (hb hby d6_2) rfl rfl ?_
  refine Wk.bastore X0 hx hZ e0 A (by decide) (by decide) 3 (by decide) (Nat.le_of_ble_eq_true rfl) (hb hby d6_4) rfl (fun T100 h100 X100 e100 W100 A100 => ?_)
  have B100 : Arv Z h100 la kb .byte 14 [.int sv, .int sv, .int sv, .int 25, .int sv, .int sv, .int sv, .int sv, .int sv, .int sv, .int sv, .int sv, .int sv, .int sv] (.int 0) := A100
  have N100 := Fr.snoc X100 (Fr.nil n0) hla
  refine Wk.aloadN X100 hx (hb hby d6_5) rfl rfl rfl ?_
  refine Wk.iloadN X100 hx (hb hby d6_6) rfl rfl ?_
  refine Wk.iconst X100 hx (1 : Int32) (hb hby d6_7) rfl rfl ?_
  refine Wk.iadd X100 hx (hb hby d6_8) rfl ?_
  rw [show ((3 : Int32) + (1 : Int32)) = (4 : Int32) from by decide]
  refine Wk.bipush X100 hx (32 : Int32) (hb hby d6_9) rfl rfl ?_
  refine Wk.bastore X100 hx hZ e100 B100 (by decide) (by decide) 4 (by decide) (Nat.le_of_ble_eq_true rfl) (hb hby d6_11) rfl (fun T101 h101 X101 e101 W101 A101 => ?_)
  have B101 : Arv Z h101 la kb .byte 14 [.int sv, .int sv, .int sv, .int 25, .int 32, .int sv, .int sv, .int sv, .int sv, .int sv, .int sv, .int sv, .int sv, .int sv] (.int 0) := A101
  have N101 := Fr.snoc X101 N100 hla
  refine Wk.iconst X101 hx (0 : Int32) (hb hby d6_12) rfl rfl ?_
  refine Wk.istore (l' := #[.val (.ref a), .val (.ref la), .val (.int (3 : Int32)), .val (.long len), .second, .val (.int (0 : Int32))]) X101 hx (hb hby d6_13) rfl rfl ?_
  refine Wk.iload X101 hx (hb hby d6_15) rfl rfl ?_
  refine Wk.bipush X101 hx (8 : Int32) (hb hby d6_17) rfl rfl ?_
  refine Wk.icmp_ge X101 hx 47 22 (hb hby d6_19) rfl rfl (show ((0 : Int32) : Int32).toInt = 0 from (by decide)) (show ((8 : Int32) : Int32).toInt = 8 from (by decide)) (fun h1 => absurd h1 (by omega)) (fun h1 => ?_)
  refine Wk.aloadN X101 hx (hb hby d6_22) rfl rfl rfl ?_
  refine Wk.iloadN X101 hx (hb hby d6_23) rfl rfl ?_
  refine Wk.iconst X101 hx (2 : Int32) (hb hby d6_24) rfl rfl ?_
  refine Wk.iadd X101 hx (hb hby d6_25) rfl ?_
  rw [show ((3 : Int32) + (2 : Int32)) = (5 : Int32) from by decide]
  refine Wk.iload X101 hx (hb hby d6_26) rfl rfl ?_
  refine Wk.iadd X101 hx (hb hby d6_28) rfl ?_
  rw [show ((5 : Int32) + (0 : Int32)) = (5 : Int32) from by decide]
  refine Wk.lloadN X101 hx (hb hby d6_29) rfl rfl ?_
  refine Wk.iconst X101 hx (3 : Int32) (hb hby d6_30) rfl rfl ?_
  refine Wk.lshl X101 hx (hb hby d6_31) rfl ?_
  refine Wk.bipush X101 hx (8 : Int32) (hb hby d6_32) rfl rfl ?_
  refine Wk.iload X101 hx (hb hby d6_34) rfl rfl ?_
  refine Wk.imul X101 hx (hb hby d6_36) rfl ?_
  rw [show ((8 : Int32) * (0 : Int32)) = (0 : Int32) from by decide]
  refine Wk.lushr X101 hx (hb hby d6_37) rfl ?_
  have t102 : (XT.ushrL (len <<< ((3 : Int32).toInt64 &&& 63)) (0 : Int32)).toInt % 18446744073709551616 = (len.toInt * 8) % 18446744073709551616 := by rw [c_lushr0]; exact hlen
  generalize XT.ushrL (len <<< ((3 : Int32).toInt64 &&& 63)) (0 : Int32) = u102 at t102 ⊢
  refine Wk.l2i X101 hx (hb hby d6_38) rfl ?_
  have r102 := c_l2i u102
  generalize u102.toInt32 = x102 at r102 ⊢
  refine Wk.i2b X101 hx (hb hby d6_39) rfl ?_
  have q102 := c_i2b x102
  generalize x102.toInt8.toInt32 = y102 at q102 ⊢
  refine Wk.bastore X101 hx hZ e101 B101 (by decide) (by decide) 5 (by decide) (Nat.le_of_ble_eq_true rfl) (hb hby d6_40) rfl (fun T103 h103 X103 e103 W103 A103 => ?_)
  have g103 := c_i2b y102
  have f103 : (nar .byte y102).toInt % 256 = (len.toInt * 8) % 18446744073709551616 / 1 % 256 := by show (y102.toInt8.toInt32).toInt % 256 = _; omega
  have B103 : Arv Z h103 la kb .byte 14 [.int sv, .int sv, .int sv, .int 25, .int 32, .int (nar .byte y102), .int sv, .int sv, .int sv, .int sv, .int sv, .int sv, .int sv, .int sv] (.int 0) := A103
  have N103 := Fr.snoc X103 N101 hla
  refine Wk.iinc (l' := #[.val (.ref a), .val (.ref la), .val (.int (3 : Int32)), .val (.long len), .second, .val (.int ((0 : Int32) + (1 : Int32)))]) X103 hx (1 : Int32) (hb hby d6_41) rfl rfl rfl rfl ?_
  rw [show ((0 : Int32) + (1 : Int32)) = (1 : Int32) from by decide]
  refine Wk.goto X103 hx 15 (hb hby d6_44) rfl ?_
  refine Wk.iload X103 hx (hb hby d6_15) rfl rfl ?_
  refine Wk.bipush X103 hx (8 : Int32) (hb hby d6_17) rfl rfl ?_
  refine Wk.icmp_ge X103 hx 47 22 (hb hby d6_19) rfl rfl (show ((1 : Int32) : Int32).toInt = 1 from (by decide)) (show ((8 : Int32) : Int32).toInt = 8 from (by decide)) (fun h2 => absurd h2 (by omega)) (fun h2 => ?_)
  refine Wk.aloadN X103 hx (hb hby d6_22) rfl rfl rfl ?_
  refine Wk.iloadN X103 hx (hb hby d6_23) rfl rfl ?_
  refine Wk.iconst X103 hx (2 : Int32) (hb hby d6_24) rfl rfl ?_
  refine Wk.iadd X103 hx (hb hby d6_25) rfl ?_
  rw [show ((3 : Int32) + (2 : Int32)) = (5 : Int32) from by decide]
  refine Wk.iload X103 hx (hb hby d6_26) rfl rfl ?_
  refine Wk.iadd X103 hx (hb hby d6_28) rfl ?_
  rw [show ((5 : Int32) + (1 : Int32)) = (6 : Int32) from by decide]
  refine Wk.lloadN X103 hx (hb hby d6_29) rfl rfl ?_
  refine Wk.iconst X103 hx (3 : Int32) (hb hby d6_30) rfl rfl ?_
  refine Wk.lshl X103 hx (hb hby d6_31) rfl ?_
  refine Wk.bipush X103 hx (8 : Int32) (hb hby d6_32) rfl rfl ?_
  refine Wk.iload X103 hx (hb hby d6_34) rfl rfl ?_
  refine Wk.imul X103 hx (hb hby d6_36) rfl ?_
  rw [show ((8 : Int32) * (1 : Int32)) = (8 : Int32) from by decide]
  refine Wk.lushr X103 hx (hb hby d6_37) rfl ?_
  have t104 : (XT.ushrL (len <<< ((3 : Int32).toInt64 &&& 63)) (8 : Int32)).toInt = (len.toInt * 8) % 18446744073709551616 / 256 := by rw [ush _ (8 : Int32) 8 (by decide) (by decide) (by decide), hlen]; rfl
  generalize XT.ushrL (len <<< ((3 : Int32).toInt64 &&& 63)) (8 : Int32) = u104 at t104 ⊢
  refine Wk.l2i X103 hx (hb hby d6_38) rfl ?_
  have r104 := c_l2i u104
  generalize u104.toInt32 = x104 at r104 ⊢
  refine Wk.i2b X103 hx (hb hby d6_39) rfl ?_
  have q104 := c_i2b x104
  generalize x104.toInt8.toInt32 = y104 at q104 ⊢
  refine Wk.bastore X103 hx hZ e103 B103 (by decide) (by decide) 6 (by decide) (Nat.le_of_ble_eq_true rfl) (hb hby d6_40) rfl (fun T105 h105 X105 e105 W105 A105 => ?_)
  have g105 := c_i2b y104
  have f105 : (nar .byte y104).toInt % 256 = (len.toInt * 8) % 18446744073709551616 / 256 % 256 := by show (y104.toInt8.toInt32).toInt % 256 = _; omega
  have B105 : Arv Z h105 la kb .byte 14 [.int sv, .int sv, .int sv, .int 25, .int 32, .int (nar .byte y102), .int (nar .byte y104), .int sv, .int sv, .int sv, .int sv, .int sv, .int sv, .int sv] (.int 0) := A105
  have N105 := Fr.snoc X105 N103 hla
  refine Wk.iinc (l' := #[.val (.ref a), .val (.ref la), .val (.int (3 : Int32)), .val (.long len), .second, .val (.int ((1 : Int32) + (1 : Int32)))]) X105 hx (1 : Int32) (hb hby d6_41) rfl rfl rfl rfl ?_
  rw [show ((1 : Int32) + (1 : Int32)) = (2 : Int32) from by decide]
  refine Wk.goto X105 hx 15 (hb hby d6_44) rfl ?_
  refine Wk.iload X105 hx (hb hby d6_15) rfl rfl ?_
  refine Wk.bipush X105 hx (8 : Int32) (hb hby d6_17) rfl rfl ?_
  refine Wk.icmp_ge X105 hx 47 22 (hb hby d6_19) rfl rfl (show ((2 : Int32) : Int32).toInt = 2 from (by decide)) (show ((8 : Int32) : Int32).toInt = 8 from (by decide)) (fun h3 => absurd h3 (by omega)) (fun h3 => ?_)
  refine Wk.aloadN X105 hx (hb hby d6_22) rfl rfl rfl ?_
  refine Wk.iloadN X105 hx (hb hby d6_23) rfl rfl ?_
  refine Wk.iconst X105 hx (2 : Int32) (hb hby d6_24) rfl rfl ?_
  refine Wk.iadd X105 hx (hb hby d6_25) rfl ?_
  rw [show ((3 : Int32) + (2 : Int32)) = (5 : Int32) from by decide]
  refine Wk.iload X105 hx (hb hby d6_26) rfl rfl ?_
  refine Wk.iadd X105 hx (hb hby d6_28) rfl ?_
  rw [show ((5 : Int32) + (2 : Int32)) = (7 : Int32) from by decide]
  refine Wk.lloadN X105 hx (hb hby d6_29) rfl rfl ?_
  refine Wk.iconst X105 hx (3 : Int32) (hb hby d6_30) rfl rfl ?_
  refine Wk.lshl X105 hx (hb hby d6_31) rfl ?_
  refine Wk.bipush X105 hx (8 : Int32) (hb hby d6_32) rfl rfl ?_
  refine Wk.iload X105 hx (hb hby d6_34) rfl rfl ?_
  refine Wk.imul X105 hx (hb hby d6_36) rfl ?_
  rw [show ((8 : Int32) * (2 : Int32)) = (16 : Int32) from by decide]
  refine Wk.lushr X105 hx (hb hby d6_37) rfl ?_
  have t106 : (XT.ushrL (len <<< ((3 : Int32).toInt64 &&& 63)) (16 : Int32)).toInt = (len.toInt * 8) % 18446744073709551616 / 65536 := by rw [ush _ (16 : Int32) 16 (by decide) (by decide) (by decide), hlen]; rfl
  generalize XT.ushrL (len <<< ((3 : Int32).toInt64 &&& 63)) (16 : Int32) = u106 at t106 ⊢
  refine Wk.l2i X105 hx (hb hby d6_38) rfl ?_
  have r106 := c_l2i u106
  generalize u106.toInt32 = x106 at r106 ⊢
  refine Wk.i2b X105 hx (hb hby d6_39) rfl ?_
  have q106 := c_i2b x106
  generalize x106.toInt8.toInt32 = y106 at q106 ⊢
  refine Wk.bastore X105 hx hZ e105 B105 (by decide) (by decide) 7 (by decide) (Nat.le_of_ble_eq_true rfl) (hb hby d6_40) rfl (fun T107 h107 X107 e107 W107 A107 => ?_)
  have g107 := c_i2b y106
  have f107 : (nar .byte y106).toInt % 256 = (len.toInt * 8) % 18446744073709551616 / 65536 % 256 := by show (y106.toInt8.toInt32).toInt % 256 = _; omega
  have B107 : Arv Z h107 la kb .byte 14 [.int sv, .int sv, .int sv, .int 25, .int 32, .int (nar .byte y102), .int (nar .byte y104), .int (nar .byte y106), .int sv, .int sv, .int sv, .int sv, .int sv, .int sv] (.int 0) := A107
  have N107 := Fr.snoc X107 N105 hla
  refine Wk.iinc (l' := #[.val (.ref a), .val (.ref la), .val (.int (3 : Int32)), .val (.long len), .second, .val (.int ((2 : Int32) + (1 : Int32)))]) X107 hx (1 : Int32) (hb hby d6_41) rfl rfl rfl rfl ?_
  rw [show ((2 : Int32) + (1 : Int32)) = (3 : Int32) from by decide]
  refine Wk.goto X107 hx 15 (hb hby d6_44) rfl ?_
  refine Wk.iload X107 hx (hb hby d6_15) rfl rfl ?_
  refine Wk.bipush X107 hx (8 : Int32) (hb hby d6_17) rfl rfl ?_
  refine Wk.icmp_ge X107 hx 47 22 (hb hby d6_19) rfl rfl (show ((3 : Int32) : Int32).toInt = 3 from (by decide)) (show ((8 : Int32) : Int32).toInt = 8 from (by decide)) (fun h4 => absurd h4 (by omega)) (fun h4 => ?_)
  refine Wk.aloadN X107 hx (hb hby d6_22) rfl rfl rfl ?_
  refine Wk.iloadN X107 hx (hb hby d6_23) rfl rfl ?_
  refine Wk.iconst X107 hx (2 : Int32) (hb hby d6_24) rfl rfl ?_
  refine Wk.iadd X107 hx (hb hby d6_25) rfl ?_
  rw [show ((3 : Int32) + (2 : Int32)) = (5 : Int32) from by decide]
  refine Wk.iload X107 hx (hb hby d6_26) rfl rfl ?_
  refine Wk.iadd X107 hx (hb hby d6_28) rfl ?_
  rw [show ((5 : Int32) + (3 : Int32)) = (8 : Int32) from by decide]
  refine Wk.lloadN X107 hx (hb hby d6_29) rfl rfl ?_
  refine Wk.iconst X107 hx (3 : Int32) (hb hby d6_30) rfl rfl ?_
  refine Wk.lshl X107 hx (hb hby d6_31) rfl ?_
  refine Wk.bipush X107 hx (8 : Int32) (hb hby d6_32) rfl rfl ?_
  refine Wk.iload X107 hx (hb hby d6_34) rfl rfl ?_
  refine Wk.imul X107 hx (hb hby d6_36) rfl ?_
  rw [show ((8 : Int32) * (3 : Int32)) = (24 : Int32) from by decide]
  refine Wk.lushr X107 hx (hb hby d6_37) rfl ?_
  have t108 : (XT.ushrL (len <<< ((3 : Int32).toInt64 &&& 63)) (24 : Int32)).toInt = (len.toInt * 8) % 18446744073709551616 / 16777216 := by rw [ush _ (24 : Int32) 24 (by decide) (by decide) (by decide), hlen]; rfl
  generalize XT.ushrL (len <<< ((3 : Int32).toInt64 &&& 63)) (24 : Int32) = u108 at t108 ⊢
  refine Wk.l2i X107 hx (hb hby d6_38) rfl ?_
  have r108 := c_l2i u108
  generalize u108.toInt32 = x108 at r108 ⊢
  refine Wk.i2b X107 hx (hb hby d6_39) rfl ?_
  have q108 := c_i2b x108
  generalize x108.toInt8.toInt32 = y108 at q108 ⊢
  refine Wk.bastore X107 hx hZ e107 B107 (by decide) (by decide) 8 (by decide) (Nat.le_of_ble_eq_true rfl) (hb hby d6_40) rfl (fun T109 h109 X109 e109 W109 A109 => ?_)
  have g109 := c_i2b y108
  have f109 : (nar .byte y108).toInt % 256 = (len.toInt * 8) % 18446744073709551616 / 16777216 % 256 := by show (y108.toInt8.toInt32).toInt % 256 = _; omega
  have B109 : Arv Z h109 la kb .byte 14 [.int sv, .int sv, .int sv, .int 25, .int 32, .int (nar .byte y102), .int (nar .byte y104), .int (nar .byte y106), .int (nar .byte y108), .int sv, .int sv, .int sv, .int sv, .int sv] (.int 0) := A109
  have N109 := Fr.snoc X109 N107 hla
  refine Wk.iinc (l' := #[.val (.ref a), .val (.ref la), .val (.int (3 : Int32)), .val (.long len), .second, .val (.int ((3 : Int32) + (1 : Int32)))]) X109 hx (1 : Int32) (hb hby d6_41) rfl rfl rfl rfl ?_
  rw [show ((3 : Int32) + (1 : Int32)) = (4 : Int32) from by decide]
  refine Wk.goto X109 hx 15 (hb hby d6_44) rfl ?_
  refine Wk.iload X109 hx (hb hby d6_15) rfl rfl ?_
  refine Wk.bipush X109 hx (8 : Int32) (hb hby d6_17) rfl rfl ?_
  refine Wk.icmp_ge X109 hx 47 22 (hb hby d6_19) rfl rfl (show ((4 : Int32) : Int32).toInt = 4 from (by decide)) (show ((8 : Int32) : Int32).toInt = 8 from (by decide)) (fun h5 => absurd h5 (by omega)) (fun h5 => ?_)
  refine Wk.aloadN X109 hx (hb hby d6_22) rfl rfl rfl ?_
  refine Wk.iloadN X109 hx (hb hby d6_23) rfl rfl ?_
  refine Wk.iconst X109 hx (2 : Int32) (hb hby d6_24) rfl rfl ?_
  refine Wk.iadd X109 hx (hb hby d6_25) rfl ?_
  rw [show ((3 : Int32) + (2 : Int32)) = (5 : Int32) from by decide]
  refine Wk.iload X109 hx (hb hby d6_26) rfl rfl ?_
  refine Wk.iadd X109 hx (hb hby d6_28) rfl ?_
  rw [show ((5 : Int32) + (4 : Int32)) = (9 : Int32) from by decide]
  refine Wk.lloadN X109 hx (hb hby d6_29) rfl rfl ?_
  refine Wk.iconst X109 hx (3 : Int32) (hb hby d6_30) rfl rfl ?_
  refine Wk.lshl X109 hx (hb hby d6_31) rfl ?_
  refine Wk.bipush X109 hx (8 : Int32) (hb hby d6_32) rfl rfl ?_
  refine Wk.iload X109 hx (hb hby d6_34) rfl rfl ?_
  refine Wk.imul X109 hx (hb hby d6_36) rfl ?_
  rw [show ((8 : Int32) * (4 : Int32)) = (32 : Int32) from by decide]
  refine Wk.lushr X109 hx (hb hby d6_37) rfl ?_
  have t110 : (XT.ushrL (len <<< ((3 : Int32).toInt64 &&& 63)) (32 : Int32)).toInt = (len.toInt * 8) % 18446744073709551616 / 4294967296 := by rw [ush _ (32 : Int32) 32 (by decide) (by decide) (by decide), hlen]; rfl
  generalize XT.ushrL (len <<< ((3 : Int32).toInt64 &&& 63)) (32 : Int32) = u110 at t110 ⊢
  refine Wk.l2i X109 hx (hb hby d6_38) rfl ?_
  have r110 := c_l2i u110
  generalize u110.toInt32 = x110 at r110 ⊢
  refine Wk.i2b X109 hx (hb hby d6_39) rfl ?_
  have q110 := c_i2b x110
  generalize x110.toInt8.toInt32 = y110 at q110 ⊢
  refine Wk.bastore X109 hx hZ e109 B109 (by decide) (by decide) 9 (by decide) (Nat.le_of_ble_eq_true rfl) (hb hby d6_40) rfl (fun T111 h111 X111 e111 W111 A111 => ?_)
  have g111 := c_i2b y110
  have f111 : (nar .byte y110).toInt % 256 = (len.toInt * 8) % 18446744073709551616 / 4294967296 % 256 := by show (y110.toInt8.toInt32).toInt % 256 = _; omega
  have B111 : Arv Z h111 la kb .byte 14 [.int sv, .int sv, .int sv, .int 25, .int 32, .int (nar .byte y102), .int (nar .byte y104), .int (nar .byte y106), .int (nar .byte y108), .int (nar .byte y110), .int sv, .int sv, .int sv, .int sv] (.int 0) := A111
  have N111 := Fr.snoc X111 N109 hla
  refine Wk.iinc (l' := #[.val (.ref a), .val (.ref la), .val (.int (3 : Int32)), .val (.long len), .second, .val (.int ((4 : Int32) + (1 : Int32)))]) X111 hx (1 : Int32) (hb hby d6_41) rfl rfl rfl rfl ?_
  rw [show ((4 : Int32) + (1 : Int32)) = (5 : Int32) from by decide]
  refine Wk.goto X111 hx 15 (hb hby d6_44) rfl ?_
  refine Wk.iload X111 hx (hb hby d6_15) rfl rfl ?_
  refine Wk.bipush X111 hx (8 : Int32) (hb hby d6_17) rfl rfl ?_
  refine Wk.icmp_ge X111 hx 47 22 (hb hby d6_19) rfl rfl (show ((5 : Int32) : Int32).toInt = 5 from (by decide)) (show ((8 : Int32) : Int32).toInt = 8 from (by decide)) (fun h6 => absurd h6 (by omega)) (fun h6 => ?_)
  refine Wk.aloadN X111 hx (hb hby d6_22) rfl rfl rfl ?_
  refine Wk.iloadN X111 hx (hb hby d6_23) rfl rfl ?_
  refine Wk.iconst X111 hx (2 : Int32) (hb hby d6_24) rfl rfl ?_
  refine Wk.iadd X111 hx (hb hby d6_25) rfl ?_
  rw [show ((3 : Int32) + (2 : Int32)) = (5 : Int32) from by decide]
  refine Wk.iload X111 hx (hb hby d6_26) rfl rfl ?_
  refine Wk.iadd X111 hx (hb hby d6_28) rfl ?_
  rw [show ((5 : Int32) + (5 : Int32)) = (10 : Int32) from by decide]
  refine Wk.lloadN X111 hx (hb hby d6_29) rfl rfl ?_
  refine Wk.iconst X111 hx (3 : Int32) (hb hby d6_30) rfl rfl ?_
  refine Wk.lshl X111 hx (hb hby d6_31) rfl ?_
  refine Wk.bipush X111 hx (8 : Int32) (hb hby d6_32) rfl rfl ?_
  refine Wk.iload X111 hx (hb hby d6_34) rfl rfl ?_
  refine Wk.imul X111 hx (hb hby d6_36) rfl ?_
  rw [show ((8 : Int32) * (5 : Int32)) = (40 : Int32) from by decide]
  refine Wk.lushr X111 hx (hb hby d6_37) rfl ?_
  have t112 : (XT.ushrL (len <<< ((3 : Int32).toInt64 &&& 63)) (40 : Int32)).toInt = (len.toInt * 8) % 18446744073709551616 / 1099511627776 := by rw [ush _ (40 : Int32) 40 (by decide) (by decide) (by decide), hlen]; rfl
  generalize XT.ushrL (len <<< ((3 : Int32).toInt64 &&& 63)) (40 : Int32) = u112 at t112 ⊢
  refine Wk.l2i X111 hx (hb hby d6_38) rfl ?_
  have r112 := c_l2i u112
  generalize u112.toInt32 = x112 at r112 ⊢
  refine Wk.i2b X111 hx (hb hby d6_39) rfl ?_
  have q112 := c_i2b x112
  generalize x112.toInt8.toInt32 = y112 at q112 ⊢
  refine Wk.bastore X111 hx hZ e111 B111 (by decide) (by decide) 10 (by decide) (Nat.le_of_ble_eq_true rfl) (hb hby d6_40) rfl (fun T113 h113 X113 e113 W113 A113 => ?_)
  have g113 := c_i2b y112
  have f113 : (nar .byte y112).toInt % 256 = (len.toInt * 8) % 18446744073709551616 / 1099511627776 % 256 := by show (y112.toInt8.toInt32).toInt % 256 = _; omega
  have B113 : Arv Z h113 la kb .byte 14 [.int sv, .int sv, .int sv, .int 25, .int 32, .int (nar .byte y102), .int (nar .byte y104), .int (nar .byte y106), .int (nar .byte y108), .int (nar .byte y110), .int (nar .byte y112), .int sv, .int sv, .int sv] (.int 0) := A113
  have N113 := Fr.snoc X113 N111 hla
  refine Wk.iinc (l' := #[.val (.ref a), .val (.ref la), .val (.int (3 : Int32)), .val (.long len), .second, .val (.int ((5 : Int32) + (1 : Int32)))]) X113 hx (1 : Int32) (hb hby d6_41) rfl rfl rfl rfl ?_
  rw [show ((5 : Int32) + (1 : Int32)) = (6 : Int32) from by decide]
  refine Wk.goto X113 hx 15 (hb hby d6_44) rfl ?_
  refine Wk.iload X113 hx (hb hby d6_15) rfl rfl ?_
  refine Wk.bipush X113 hx (8 : Int32) (hb hby d6_17) rfl rfl ?_
  refine Wk.icmp_ge X113 hx 47 22 (hb hby d6_19) rfl rfl (show ((6 : Int32) : Int32).toInt = 6 from (by decide)) (show ((8 : Int32) : Int32).toInt = 8 from (by decide)) (fun h7 => absurd h7 (by omega)) (fun h7 => ?_)
  refine Wk.aloadN X113 hx (hb hby d6_22) rfl rfl rfl ?_
  refine Wk.iloadN X113 hx (hb hby d6_23) rfl rfl ?_
  refine Wk.iconst X113 hx (2 : Int32) (hb hby d6_24) rfl rfl ?_
  refine Wk.iadd X113 hx (hb hby d6_25) rfl ?_
  rw [show ((3 : Int32) + (2 : Int32)) = (5 : Int32) from by decide]
  refine Wk.iload X113 hx (hb hby d6_26) rfl rfl ?_
  refine Wk.iadd X113 hx (hb hby d6_28) rfl ?_
  rw [show ((5 : Int32) + (6 : Int32)) = (11 : Int32) from by decide]
  refine Wk.lloadN X113 hx (hb hby d6_29) rfl rfl ?_
  refine Wk.iconst X113 hx (3 : Int32) (hb hby d6_30) rfl rfl ?_
  refine Wk.lshl X113 hx (hb hby d6_31) rfl ?_
  refine Wk.bipush X113 hx (8 : Int32) (hb hby d6_32) rfl rfl ?_
  refine Wk.iload X113 hx (hb hby d6_34) rfl rfl ?_
  refine Wk.imul X113 hx (hb hby d6_36) rfl ?_
  rw [show ((8 : Int32) * (6 : Int32)) = (48 : Int32) from by decide]
  refine Wk.lushr X113 hx (hb hby d6_37) rfl ?_
  have t114 : (XT.ushrL (len <<< ((3 : Int32).toInt64 &&& 63)) (48 : Int32)).toInt = (len.toInt * 8) % 18446744073709551616 / 281474976710656 := by rw [ush _ (48 : Int32) 48 (by decide) (by decide) (by decide), hlen]; rfl
  generalize XT.ushrL (len <<< ((3 : Int32).toInt64 &&& 63)) (48 : Int32) = u114 at t114 ⊢
  refine Wk.l2i X113 hx (hb hby d6_38) rfl ?_
  have r114 := c_l2i u114
  generalize u114.toInt32 = x114 at r114 ⊢
  refine Wk.i2b X113 hx (hb hby d6_39) rfl ?_
  have q114 := c_i2b x114
  generalize x114.toInt8.toInt32 = y114 at q114 ⊢
  refine Wk.bastore X113 hx hZ e113 B113 (by decide) (by decide) 11 (by decide) (Nat.le_of_ble_eq_true rfl) (hb hby d6_40) rfl (fun T115 h115 X115 e115 W115 A115 => ?_)
  have g115 := c_i2b y114
  have f115 : (nar .byte y114).toInt % 256 = (len.toInt * 8) % 18446744073709551616 / 281474976710656 % 256 := by show (y114.toInt8.toInt32).toInt % 256 = _; omega
  have B115 : Arv Z h115 la kb .byte 14 [.int sv, .int sv, .int sv, .int 25, .int 32, .int (nar .byte y102), .int (nar .byte y104), .int (nar .byte y106), .int (nar .byte y108), .int (nar .byte y110), .int (nar .byte y112), .int (nar .byte y114), .int sv, .int sv] (.int 0) := A115
  have N115 := Fr.snoc X115 N113 hla
  refine Wk.iinc (l' := #[.val (.ref a), .val (.ref la), .val (.int (3 : Int32)), .val (.long len), .second, .val (.int ((6 : Int32) + (1 : Int32)))]) X115 hx (1 : Int32) (hb hby d6_41) rfl rfl rfl rfl ?_
  rw [show ((6 : Int32) + (1 : Int32)) = (7 : Int32) from by decide]
  refine Wk.goto X115 hx 15 (hb hby d6_44) rfl ?_
  refine Wk.iload X115 hx (hb hby d6_15) rfl rfl ?_
  refine Wk.bipush X115 hx (8 : Int32) (hb hby d6_17) rfl rfl ?_
  refine Wk.icmp_ge X115 hx 47 22 (hb hby d6_19) rfl rfl (show ((7 : Int32) : Int32).toInt = 7 from (by decide)) (show ((8 : Int32) : Int32).toInt = 8 from (by decide)) (fun h8 => absurd h8 (by omega)) (fun h8 => ?_)
  refine Wk.aloadN X115 hx (hb hby d6_22) rfl rfl rfl ?_
  refine Wk.iloadN X115 hx (hb hby d6_23) rfl rfl ?_
  refine Wk.iconst X115 hx (2 : Int32) (hb hby d6_24) rfl rfl ?_
  refine Wk.iadd X115 hx (hb hby d6_25) rfl ?_
  rw [show ((3 : Int32) + (2 : Int32)) = (5 : Int32) from by decide]
  refine Wk.iload X115 hx (hb hby d6_26) rfl rfl ?_
  refine Wk.iadd X115 hx (hb hby d6_28) rfl ?_
  rw [show ((5 : Int32) + (7 : Int32)) = (12 : Int32) from by decide]
  refine Wk.lloadN X115 hx (hb hby d6_29) rfl rfl ?_
  refine Wk.iconst X115 hx (3 : Int32) (hb hby d6_30) rfl rfl ?_
  refine Wk.lshl X115 hx (hb hby d6_31) rfl ?_
  refine Wk.bipush X115 hx (8 : Int32) (hb hby d6_32) rfl rfl ?_
  refine Wk.iload X115 hx (hb hby d6_34) rfl rfl ?_
  refine Wk.imul X115 hx (hb hby d6_36) rfl ?_
  rw [show ((8 : Int32) * (7 : Int32)) = (56 : Int32) from by decide]
  refine Wk.lushr X115 hx (hb hby d6_37) rfl ?_
  have t116 : (XT.ushrL (len <<< ((3 : Int32).toInt64 &&& 63)) (56 : Int32)).toInt = (len.toInt * 8) % 18446744073709551616 / 72057594037927936 := by rw [ush _ (56 : Int32) 56 (by decide) (by decide) (by decide), hlen]; rfl
  generalize XT.ushrL (len <<< ((3 : Int32).toInt64 &&& 63)) (56 : Int32) = u116 at t116 ⊢
  refine Wk.l2i X115 hx (hb hby d6_38) rfl ?_
  have r116 := c_l2i u116
  generalize u116.toInt32 = x116 at r116 ⊢
  refine Wk.i2b X115 hx (hb hby d6_39) rfl ?_
  have q116 := c_i2b x116
  generalize x116.toInt8.toInt32 = y116 at q116 ⊢
  refine Wk.bastore X115 hx hZ e115 B115 (by decide) (by decide) 12 (by decide) (Nat.le_of_ble_eq_true rfl) (hb hby d6_40) rfl (fun T117 h117 X117 e117 W117 A117 => ?_)
  have g117 := c_i2b y116
  have f117 : (nar .byte y116).toInt % 256 = (len.toInt * 8) % 18446744073709551616 / 72057594037927936 % 256 := by show (y116.toInt8.toInt32).toInt % 256 = _; omega
  have B117 : Arv Z h117 la kb .byte 14 [.int sv, .int sv, .int sv, .int 25, .int 32, .int (nar .byte y102), .int (nar .byte y104), .int (nar .byte y106), .int (nar .byte y108), .int (nar .byte y110), .int (nar .byte y112), .int (nar .byte y114), .int (nar .byte y116), .int sv] (.int 0) := A117
  have N117 := Fr.snoc X117 N115 hla
  refine Wk.iinc (l' := #[.val (.ref a), .val (.ref la), .val (.int (3 : Int32)), .val (.long len), .second, .val (.int ((7 : Int32) + (1 : Int32)))]) X117 hx (1 : Int32) (hb hby d6_41) rfl rfl rfl rfl ?_
  rw [show ((7 : Int32) + (1 : Int32)) = (8 : Int32) from by decide]
  refine Wk.goto X117 hx 15 (hb hby d6_44) rfl ?_
  refine Wk.iload X117 hx (hb hby d6_15) rfl rfl ?_
  refine Wk.bipush X117 hx (8 : Int32) (hb hby d6_17) rfl rfl ?_
  refine Wk.icmp_ge X117 hx 47 22 (hb hby d6_19) rfl rfl (show ((8 : Int32) : Int32).toInt = 8 from (by decide)) (show ((8 : Int32) : Int32).toInt = 8 from (by decide)) (fun h9 => ?_) (fun h9 => absurd h9 (by omega))
  exact Wk.retV X117 hx hlk hret (hb hby d6_47) (by decide) (by decide) (by rw [e117]; exact ⟨rfl, N117, (((((((((((Keep.refl h0 [la]).wr W100 (Or.inl (List.mem_singleton.mpr rfl))).wr W101 (Or.inl (List.mem_singleton.mpr rfl))).wr W103 (Or.inl (List.mem_singleton.mpr rfl))).wr W105 (Or.inl (List.mem_singleton.mpr rfl))).wr W107 (Or.inl (List.mem_singleton.mpr rfl))).wr W109 (Or.inl (List.mem_singleton.mpr rfl))).wr W111 (Or.inl (List.mem_singleton.mpr rfl))).wr W113 (Or.inl (List.mem_singleton.mpr rfl))).wr W115 (Or.inl (List.mem_singleton.mpr rfl))).wr W117 (Or.inl (List.mem_singleton.mpr rfl))), (nar .byte y102), (nar .byte y104), (nar .byte y106), (nar .byte y108), (nar .byte y110), (nar .byte y112), (nar .byte y114), (nar .byte y116), B117, f103, f105, f107, f109, f111, f113, f115, f117⟩)
theorem sumB (v : Int) (h0 : 0 ≤ v) (h1 : v < 18446744073709551616) : v / 1 % 256 * 1 + v / 256 % 256 * 256 + v / 65536 % 256 * 65536 + v / 16777216 % 256 * 16777216 + v / 4294967296 % 256 * 4294967296 + v / 1099511627776 % 256 * 1099511627776 + v / 281474976710656 % 256 * 281474976710656 + v / 72057594037927936 % 256 * 72057594037927936 = v := by omega
theorem nar_b (x : Int32) : nar .byte x.toInt8.toInt32 = x.toInt8.toInt32 := by simp [nar]
set_option maxRecDepth 65536 in
set_option maxHeartbeats 40000000 in
theorem rmL (l : Launch) (Z : State) (a0 : Array Value) (hw : ∀ d ∈ tables_1, d.before a0 Z = true) (i0 : Int32) (i1 : Int64) (i2 : Int32) (rP : Addr) (kP : ClassId) (vP : List Value) (dP : Value) (n0 : Nat) (h0 : Heap) (hn0 : n0 ≤ h0.size) (SP : Sta Z h0 "com/example/bonded_fonds/bondedfonds/fixity/Haval" "PI" "[I" (.ref rP)) (AP : Arv Z h0 rP kP .int 72 vP dP) : Wk.Met l Z x code maxLocals ret tables_1 room_1 #[(.int i0), (.long i1), (.int i2)] h0 (Wk.Fq (.int 1) n0) := by
  refine Wk.start pnL ?_
  intro p e s m below meth c s₁ X0 hx hby hml hown0 hnm hret hlk hZ e0
  have hown : s.vm.findClass "com/example/bonded_fonds/bondedfonds/fixity/HavalWriteTrailerPinLaw" = some m.cls := hown0
  refine Wk.enter (g' := (mkF m 0 #[.val (.int i0), .val (.long i1), .second, .val (.int i2), .unset, .unset, .unset, .unset, .unset, .unset, .unset, .unset, .unset, .unset] [])) (by first | rfl | (simp [entryFrame, mkF, argsToLocals, Value.category, maxLocals]; done)) ?_
  refine Wk.iloadN X0 hx (hb hby at_0) rfl rfl ?_
  refine Wk.iconst X0 hx (3 : Int32) (hb hby at_1) rfl rfl ?_
  refine Wk.iand X0 hx (hb hby at_2) rfl ?_
  refine Wk.istore (l' := #[.val (.int i0), .val (.long i1), .second, .val (.int i2), .val (.int (i0 &&& (3 : Int32))), .unset, .unset, .unset, .unset, .unset, .unset, .unset, .unset, .unset]) X0 hx (hb hby at_3) rfl rfl ?_
  refine Wk.iloadN X0 hx (hb hby at_5) rfl rfl ?_
  refine Wk.i2b X0 hx (hb hby at_6) rfl ?_
  have hs := nar_b i2
  generalize i2.toInt8.toInt32 = s' at hs ⊢
  refine Wk.istore (l' := #[.val (.int i0), .val (.long i1), .second, .val (.int i2), .val (.int (i0 &&& (3 : Int32))), .val (.int s'), .unset, .unset, .unset, .unset, .unset, .unset, .unset, .unset]) X0 hx (hb hby at_7) rfl rfl ?_
  refine Wk.bipush X0 hx (14 : Int32) (hb hby at_9) rfl rfl ?_
  refine Wk.newP (z := (14 : Int32)) X0 hx hZ rfl (hw _ (List.mem_of_getElem? (i := 0) rfl)) e0 (by decide) 14 (by decide) (by decide) (by decide) (by decide) (hb hby at_11) rfl (fun T10 h10 kb X10 e10 Ex10 Av10 => ?_)
  have B10 : Arv Z h10 h0.size kb .byte 14 [.int 0, .int 0, .int 0, .int 0, .int 0, .int 0, .int 0, .int 0, .int 0, .int 0, .int 0, .int 0, .int 0, .int 0] (.int 0) := Av10
  have rPlt : rP < h0.size := AP.lt
  obtain ⟨la, gla⟩ : ∃ z, z = h0.size := ⟨_, rfl⟩
  rw [← gla] at B10 rPlt ⊢
  have hla : n0 ≤ la := by rw [gla]; exact hn0
  have hPl : rP ≠ la := Nat.ne_of_lt rPlt
  have SP10 := SP.ext Ex10
  have AP10 := AP.ext Ex10
  refine Wk.astore (l' := #[.val (.int i0), .val (.long i1), .second, .val (.int i2), .val (.int (i0 &&& (3 : Int32))), .val (.int s'), .val (.ref la), .unset, .unset, .unset, .unset, .unset, .unset, .unset]) X10 hx (hb hby at_13) rfl rfl rfl ?_
  refine Wk.aload X10 hx (hb hby at_15) rfl rfl rfl ?_
  refine Wk.iconst X10 hx (0 : Int32) (hb hby at_17) rfl rfl ?_
  refine Wk.iload X10 hx (hb hby at_18) rfl rfl ?_
  refine Wk.bastore X10 hx hZ e10 B10 (by decide) (by decide) 0 (by decide) (Nat.le_of_ble_eq_true rfl) (hb hby at_20) rfl (fun T20 h20 X20 e20 W20 A20 => ?_)
  rw [hs] at A20
  have B20 : Arv Z h20 la kb .byte 14 [.int s', .int 0, .int 0, .int 0, .int 0, .int 0, .int 0, .int 0, .int 0, .int 0, .int 0, .int 0, .int 0, .int 0] (.int 0) := A20
  have SP20 := SP10.wr W20
  have AP20 := AP10.other W20 hPl
  have N20 := Fr.snoc X20 (Fr.nil n0) hla
  refine Wk.aload X20 hx (hb hby at_21) rfl rfl rfl ?_
  refine Wk.iconst X20 hx (1 : Int32) (hb hby at_23) rfl rfl ?_
  refine Wk.iload X20 hx (hb hby at_24) rfl rfl ?_
  refine Wk.bastore X20 hx hZ e20 B20 (by decide) (by decide) 1 (by decide) (Nat.le_of_ble_eq_true rfl) (hb hby at_26) rfl (fun T21 h21 X21 e21 W21 A21 => ?_)
  rw [hs] at A21
  have B21 : Arv Z h21 la kb .byte 14 [.int s', .int s', .int 0, .int 0, .int 0, .int 0, .int 0, .int 0, .int 0, .int 0, .int 0, .int 0, .int 0, .int 0] (.int 0) := A21
  have SP21 := SP20.wr W21
  have AP21 := AP20.other W21 hPl
  have N21 := Fr.snoc X21 N20 hla
  refine Wk.aload X21 hx (hb hby at_27) rfl rfl rfl ?_
  refine Wk.iconst X21 hx (2 : Int32) (hb hby at_29) rfl rfl ?_
  refine Wk.iload X21 hx (hb hby at_30) rfl rfl ?_
  refine Wk.bastore X21 hx hZ e21 B21 (by decide) (by decide) 2 (by decide) (Nat.le_of_ble_eq_true rfl) (hb hby at_32) rfl (fun T22 h22 X22 e22 W22 A22 => ?_)
  rw [hs] at A22
  have B22 : Arv Z h22 la kb .byte 14 [.int s', .int s', .int s', .int 0, .int 0, .int 0, .int 0, .int 0, .int 0, .int 0, .int 0, .int 0, .int 0, .int 0] (.int 0) := A22
  have SP22 := SP21.wr W22
  have AP22 := AP21.other W22 hPl
  have N22 := Fr.snoc X22 N21 hla
  refine Wk.aload X22 hx (hb hby at_33) rfl rfl rfl ?_
  refine Wk.iconst X22 hx (3 : Int32) (hb hby at_35) rfl rfl ?_
  refine Wk.iload X22 hx (hb hby at_36) rfl rfl ?_
  refine Wk.bastore X22 hx hZ e22 B22 (by decide) (by decide) 3 (by decide) (Nat.le_of_ble_eq_true rfl) (hb hby at_38) rfl (fun T23 h23 X23 e23 W23 A23 => ?_)
  rw [hs] at A23
  have B23 : Arv Z h23 la kb .byte 14 [.int s', .int s', .int s', .int s', .int 0, .int 0, .int 0, .int 0, .int 0, .int 0, .int 0, .int 0, .int 0, .int 0] (.int 0) := A23
  have SP23 := SP22.wr W23
  have AP23 := AP22.other W23 hPl
  have N23 := Fr.snoc X23 N22 hla
  refine Wk.aload X23 hx (hb hby at_39) rfl rfl rfl ?_
  refine Wk.iconst X23 hx (4 : Int32) (hb hby at_41) rfl rfl ?_
  refine Wk.iload X23 hx (hb hby at_42) rfl rfl ?_
  refine Wk.bastore X23 hx hZ e23 B23 (by decide) (by decide) 4 (by decide) (Nat.le_of_ble_eq_true rfl) (hb hby at_44) rfl (fun T24 h24 X24 e24 W24 A24 => ?_)
  rw [hs] at A24
  have B24 : Arv Z h24 la kb .byte 14 [.int s', .int s', .int s', .int s', .int s', .int 0, .int 0, .int 0, .int 0, .int 0, .int 0, .int 0, .int 0, .int 0] (.int 0) := A24
  have SP24 := SP23.wr W24
  have AP24 := AP23.other W24 hPl
  have N24 := Fr.snoc X24 N23 hla
  refine Wk.aload X24 hx (hb hby at_45) rfl rfl rfl ?_
  refine Wk.iconst X24 hx (5 : Int32) (hb hby at_47) rfl rfl ?_
  refine Wk.iload X24 hx (hb hby at_48) rfl rfl ?_
  refine Wk.bastore X24 hx hZ e24 B24 (by decide) (by decide) 5 (by decide) (Nat.le_of_ble_eq_true rfl) (hb hby at_50) rfl (fun T25 h25 X25 e25 W25 A25 => ?_)
  rw [hs] at A25
  have B25 : Arv Z h25 la kb .byte 14 [.int s', .int s', .int s', .int s', .int s', .int s', .int 0, .int 0, .int 0, .int 0, .int 0, .int 0, .int 0, .int 0] (.int 0) := A25
  have SP25 := SP24.wr W25
  have AP25 := AP24.other W25 hPl
  have N25 := Fr.snoc X25 N24 hla
  refine Wk.aload X25 hx (hb hby at_51) rfl rfl rfl ?_
  refine Wk.bipush X25 hx (6 : Int32) (hb hby at_53) rfl rfl ?_
  refine Wk.iload X25 hx (hb hby at_55) rfl rfl ?_
  refine Wk.bastore X25 hx hZ e25 B25 (by decide) (by decide) 6 (by decide) (Nat.le_of_ble_eq_true rfl) (hb hby at_57) rfl (fun T26 h26 X26 e26 W26 A26 => ?_)
  rw [hs] at A26
  have B26 : Arv Z h26 la kb .byte 14 [.int s', .int s', .int s', .int s', .int s', .int s', .int s', .int 0, .int 0, .int 0, .int 0, .int 0, .int 0, .int 0] (.int 0) := A26
  have SP26 := SP25.wr W26
  have AP26 := AP25.other W26 hPl
  have N26 := Fr.snoc X26 N25 hla
  refine Wk.aload X26 hx (hb hby at_58) rfl rfl rfl ?_
  refine Wk.bipush X26 hx (7 : Int32) (hb hby at_60) rfl rfl ?_
  refine Wk.iload X26 hx (hb hby at_62) rfl rfl ?_
  refine Wk.bastore X26 hx hZ e26 B26 (by decide) (by decide) 7 (by decide) (Nat.le_of_ble_eq_true rfl) (hb hby at_64) rfl (fun T27 h27 X27 e27 W27 A27 => ?_)
  rw [hs] at A27
  have B27 : Arv Z h27 la kb .byte 14 [.int s', .int s', .int s', .int s', .int s', .int s', .int s', .int s', .int 0, .int 0, .int 0, .int 0, .int 0, .int 0] (.int 0) := A27
  have SP27 := SP26.wr W27
  have AP27 := AP26.other W27 hPl
  have N27 := Fr.snoc X27 N26 hla
  refine Wk.aload X27 hx (hb hby at_65) rfl rfl rfl ?_
  refine Wk.bipush X27 hx (8 : Int32) (hb hby at_67) rfl rfl ?_
  refine Wk.iload X27 hx (hb hby at_69) rfl rfl ?_
  refine Wk.bastore X27 hx hZ e27 B27 (by decide) (by decide) 8 (by decide) (Nat.le_of_ble_eq_true rfl) (hb hby at_71) rfl (fun T28 h28 X28 e28 W28 A28 => ?_)
  rw [hs] at A28
  have B28 : Arv Z h28 la kb .byte 14 [.int s', .int s', .int s', .int s', .int s', .int s', .int s', .int s', .int s', .int 0, .int 0, .int 0, .int 0, .int 0] (.int 0) := A28
  have SP28 := SP27.wr W28
  have AP28 := AP27.other W28 hPl
  have N28 := Fr.snoc X28 N27 hla
  refine Wk.aload X28 hx (hb hby at_72) rfl rfl rfl ?_
  refine Wk.bipush X28 hx (9 : Int32) (hb hby at_74) rfl rfl ?_
  refine Wk.iload X28 hx (hb hby at_76) rfl rfl ?_
  refine Wk.bastore X28 hx hZ e28 B28 (by decide) (by decide) 9 (by decide) (Nat.le_of_ble_eq_true rfl) (hb hby at_78) rfl (fun T29 h29 X29 e29 W29 A29 => ?_)
  rw [hs] at A29
  have B29 : Arv Z h29 la kb .byte 14 [.int s', .int s', .int s', .int s', .int s', .int s', .int s', .int s', .int s', .int s', .int 0, .int 0, .int 0, .int 0] (.int 0) := A29
  have SP29 := SP28.wr W29
  have AP29 := AP28.other W29 hPl
  have N29 := Fr.snoc X29 N28 hla
  refine Wk.aload X29 hx (hb hby at_79) rfl rfl rfl ?_
  refine Wk.bipush X29 hx (10 : Int32) (hb hby at_81) rfl rfl ?_
  refine Wk.iload X29 hx (hb hby at_83) rfl rfl ?_
  refine Wk.bastore X29 hx hZ e29 B29 (by decide) (by decide) 10 (by decide) (Nat.le_of_ble_eq_true rfl) (hb hby at_85) rfl (fun T30 h30 X30 e30 W30 A30 => ?_)
  rw [hs] at A30
  have B30 : Arv Z h30 la kb .byte 14 [.int s', .int s', .int s', .int s', .int s', .int s', .int s', .int s', .int s', .int s', .int s', .int 0, .int 0, .int 0] (.int 0) := A30
  have SP30 := SP29.wr W30
  have AP30 := AP29.other W30 hPl
  have N30 := Fr.snoc X30 N29 hla
  refine Wk.aload X30 hx (hb hby at_86) rfl rfl rfl ?_
  refine Wk.bipush X30 hx (11 : Int32) (hb hby at_88) rfl rfl ?_
  refine Wk.iload X30 hx (hb hby at_90) rfl rfl ?_
  refine Wk.bastore X30 hx hZ e30 B30 (by decide) (by decide) 11 (by decide) (Nat.le_of_ble_eq_true rfl) (hb hby at_92) rfl (fun T31 h31 X31 e31 W31 A31 => ?_)
  rw [hs] at A31
  have B31 : Arv Z h31 la kb .byte 14 [.int s', .int s', .int s', .int s', .int s', .int s', .int s', .int s', .int s', .int s', .int s', .int s', .int 0, .int 0] (.int 0) := A31
  have SP31 := SP30.wr W31
  have AP31 := AP30.other W31 hPl
  have N31 := Fr.snoc X31 N30 hla
  refine Wk.aload X31 hx (hb hby at_93) rfl rfl rfl ?_
  refine Wk.bipush X31 hx (12 : Int32) (hb hby at_95) rfl rfl ?_
  refine Wk.iload X31 hx (hb hby at_97) rfl rfl ?_
  refine Wk.bastore X31 hx hZ e31 B31 (by decide) (by decide) 12 (by decide) (Nat.le_of_ble_eq_true rfl) (hb hby at_99) rfl (fun T32 h32 X32 e32 W32 A32 => ?_)
  rw [hs] at A32
  have B32 : Arv Z h32 la kb .byte 14 [.int s', .int s', .int s', .int s', .int s', .int s', .int s', .int s', .int s', .int s', .int s', .int s', .int s', .int 0] (.int 0) := A32
  have SP32 := SP31.wr W32
  have AP32 := AP31.other W32 hPl
  have N32 := Fr.snoc X32 N31 hla
  refine Wk.aload X32 hx (hb hby at_100) rfl rfl rfl ?_
  refine Wk.bipush X32 hx (13 : Int32) (hb hby at_102) rfl rfl ?_
  refine Wk.iload X32 hx (hb hby at_104) rfl rfl ?_
  refine Wk.bastore X32 hx hZ e32 B32 (by decide) (by decide) 13 (by decide) (Nat.le_of_ble_eq_true rfl) (hb hby at_106) rfl (fun T33 h33 X33 e33 W33 A33 => ?_)
  rw [hs] at A33
  have B33 : Arv Z h33 la kb .byte 14 [.int s', .int s', .int s', .int s', .int s', .int s', .int s', .int s', .int s', .int s', .int s', .int s', .int s', .int s'] (.int 0) := A33
  have SP33 := SP32.wr W33
  have AP33 := AP32.other W33 hPl
  have N33 := Fr.snoc X33 N32 hla
  have ltP : rP < h33.size := AP33.lt
  have ltl : la < h33.size := B33.lt
  have hn1 : n0 ≤ h33.size := Nat.le_of_lt (Nat.lt_of_le_of_lt hla ltl)
  refine Wk.newO X33 hx hZ hown (hw _ (List.mem_of_getElem? (i := 1) rfl)) (hw _ (List.mem_of_getElem? (i := 2) rfl)) (hw _ (List.mem_of_getElem? (i := 3) rfl)) e33 (hb hby at_107) (by decide) (by decide) rfl (fun T50 h50 X50 e50 Ex50 A50 D50 => ?_)
  have hn2 : n0 ≤ h50.size := Nat.le_trans hn1 Ex50.1
  have SP50 := SP33.ext Ex50
  have AP50 := AP33.ext Ex50
  have B50 := B33.ext Ex50
  have Fbblock := Wk.FldE.of (D50 (Or.inr (hw _ (List.mem_of_getElem? (i := 16) rfl))) (ty := (.array .byte)) (by decide))
  have Fmarker := Wk.FldE.of (D50 (Or.inr (hw _ (List.mem_of_getElem? (i := 18) rfl))) (ty := .byte) (by decide))
  have FtrailerLength := Wk.FldE.of (D50 (Or.inr (hw _ (List.mem_of_getElem? (i := 20) rfl))) (ty := .int) (by decide))
  have Fgathered := Wk.FldE.of (D50 (Or.inl (hw _ (List.mem_of_getElem? (i := 35) rfl))) (ty := .int) (by decide))
  have Flength := Wk.FldE.of (D50 (Or.inl (hw _ (List.mem_of_getElem? (i := 37) rfl))) (ty := .long) (by decide))
  have Fstate := Wk.FldE.of (D50 (Or.inr (hw _ (List.mem_of_getElem? (i := 23) rfl))) (ty := (.array .int)) (by decide))
  have Fworking := Wk.FldE.of (D50 (Or.inr (hw _ (List.mem_of_getElem? (i := 25) rfl))) (ty := (.array .int)) (by decide))
  have Fblock := Wk.FldE.of (D50 (Or.inr (hw _ (List.mem_of_getElem? (i := 27) rfl))) (ty := (.array .int)) (by decide))
  obtain ⟨ha, gha⟩ : ∃ z, z = h33.size := ⟨_, rfl⟩
  rw [← gha] at ltP ltl hn1 A50 Fbblock Fmarker FtrailerLength Fgathered Flength Fstate Fworking Fblock ⊢
  refine Wk.dup X50 hx (hb hby at_110) rfl rfl ?_
  refine Wk.callI (W := 1) X50 hx hZ (argsL := []) (rest := [(.ref ha)]) rfl hown (hw _ (List.mem_of_getElem? (i := 4) rfl)) (hw _ (List.mem_of_getElem? (i := 5) rfl)) (hw _ (List.mem_of_getElem? (i := 3) rfl)) (hw _ (List.mem_of_getElem? (i := 6) rfl)) (by decide) (mhin l Z a0 hw ha rP kP vP dP n0 hn1 (Nat.ne_of_lt ltP) h50 hn2 A50 Fbblock Fmarker FtrailerLength Fgathered Flength Fstate Fworking Fblock SP50 AP50) e50 (by decide) (by decide) (by decide) (by decide) (by rw [hml]; rfl) (lenOf pd1 rfl) rfl (Nat.le_of_eq rfl) (hb hby at_111) rfl (fun T51 v51 L51 X51 hq51 => ?_)
  obtain ⟨rfl, N51, K51⟩ := hq51
  have B51 := B50.keep K51 (ninS (Nat.ne_of_lt ltl) nin0)
  have E51 := A50.keep K51
  have N52 := Fr.app N33 N51
  show Wk.Go p e below s _ _ _ T51 (mkF m 114 #[.val (.int i0), .val (.long i1), .second, .val (.int i2), .val (.int (i0 &&& (3 : Int32))), .val (.int s'), .val (.ref la), .unset, .unset, .unset, .unset, .unset, .unset, .unset] [(.ref ha)])
  refine Wk.astore (l' := #[.val (.int i0), .val (.long i1), .second, .val (.int i2), .val (.int (i0 &&& (3 : Int32))), .val (.int s'), .val (.ref la), .val (.ref ha), .unset, .unset, .unset, .unset, .unset, .unset]) X51 hx (hb hby at_114) rfl rfl rfl ?_
  have ho : i0 &&& (3 : Int32) = (0 : Int32) ∨ i0 &&& (3 : Int32) = (1 : Int32) ∨ i0 &&& (3 : Int32) = (2 : Int32) ∨ i0 &&& (3 : Int32) = (3 : Int32) := by
    have := c_mask i0 (3 : Int32) 2 (by decide) (by decide)
    have hh : (i0 &&& (3 : Int32)).toInt = 0 ∨ (i0 &&& (3 : Int32)).toInt = 1 ∨ (i0 &&& (3 : Int32)).toInt = 2 ∨ (i0 &&& (3 : Int32)).toInt = 3 := by omega
    rcases hh with q | q | q | q
    · exact (Or.inl (Int32.toInt_inj.mp (q.trans (by decide))))
    · exact (Or.inr (Or.inl (Int32.toInt_inj.mp (q.trans (by decide)))))
    · exact (Or.inr (Or.inr (Or.inl (Int32.toInt_inj.mp (q.trans (by decide))))))
    · exact (Or.inr (Or.inr (Or.inr (Int32.toInt_inj.mp (q.trans (by decide))))))
  rcases ho with ho | ho | ho | ho
  · rw [ho]
    refine Wk.aload X51 hx (hb hby at_116) rfl rfl rfl ?_
    refine Wk.aload X51 hx (hb hby at_118) rfl rfl rfl ?_
    refine Wk.iload X51 hx (hb hby at_120) rfl rfl ?_
    refine Wk.lloadN X51 hx (hb hby at_122) rfl rfl ?_
    refine Wk.callV (W := 0) X51 hx hZ (argsL := [(.ref la), (.int (0 : Int32)), (.long i1)]) (rest := []) hown (hw _ (List.mem_of_getElem? (i := 49) rfl)) (hw _ (List.mem_of_getElem? (i := 50) rfl)) (hw _ (List.mem_of_getElem? (i := 52) rfl)) (hw _ (List.mem_of_getElem? (i := 51) rfl)) (hw _ (List.mem_of_getElem? (i := 3) rfl)) (hw _ (List.mem_of_getElem? (i := 53) rfl)) (notFace_of_selects (args := #[]) (mvT hZ (hw _ (List.mem_of_getElem? (i := 52) rfl)))) (by decide) (mwt0 l Z a0 hw ha la kb s' i1 n0 hla T51.heap B51) rfl E51 (by decide) (by decide) (by decide) (by decide) (by rw [hml]; rfl) (lenOf pd6 rfl) rfl (Nat.le_of_eq rfl) (hb hby at_123) rfl (fun T60 v60 L60 X60 hq60 => ?_)
    obtain ⟨rfl, N60, K60, w0, w1, w2, w3, w4, w5, w6, w7, Aw, f0, f1, f2, f3, f4, f5, f6, f7⟩ := hq60
    have B60 : Arv Z T60.heap la kb .byte 14 [.int 25, .int 32, .int w0, .int w1, .int w2, .int w3, .int w4, .int w5, .int w6, .int w7, .int s', .int s', .int s', .int s'] (.int 0) := Aw
    show Wk.Go p e below s _ _ _ T60 (mkF m 126 #[.val (.int i0), .val (.long i1), .second, .val (.int i2), .val (.int (0 : Int32)), .val (.int s'), .val (.ref la), .val (.ref ha), .unset, .unset, .unset, .unset, .unset, .unset] [])
    refine Wk.aload X60 hx (hb hby at_126) rfl rfl rfl ?_
    refine Wk.iload X60 hx (hb hby at_128) rfl rfl ?_
    refine Wk.baload X60 hx hZ rfl B60 (by decide) (by decide) rfl (hb hby at_130) rfl ?_
    refine Wk.bipush X60 hx (25 : Int32) (hb hby at_131) rfl rfl ?_
    refine Wk.icmp_ne X60 hx 152 136 (hb hby at_133) rfl rfl (show ((25 : Int32) : Int32).toInt = 25 from (by decide)) (show ((25 : Int32) : Int32).toInt = 25 from (by decide)) (fun h1 => absurd h1 (by omega)) (fun h1 => ?_)
    refine Wk.aload X60 hx (hb hby at_136) rfl rfl rfl ?_
    refine Wk.iload X60 hx (hb hby at_138) rfl rfl ?_
    refine Wk.iconst X60 hx (1 : Int32) (hb hby at_140) rfl rfl ?_
    refine Wk.iadd X60 hx (hb hby at_141) rfl ?_
    rw [show ((0 : Int32) + (1 : Int32)) = (1 : Int32) from by decide]
    refine Wk.baload X60 hx hZ rfl B60 (by decide) (by decide) rfl (hb hby at_142) rfl ?_
    refine Wk.bipush X60 hx (32 : Int32) (hb hby at_143) rfl rfl ?_
    refine Wk.icmp_ne X60 hx 152 148 (hb hby at_145) rfl rfl (show ((32 : Int32) : Int32).toInt = 32 from (by decide)) (show ((32 : Int32) : Int32).toInt = 32 from (by decide)) (fun h2 => absurd h2 (by omega)) (fun h2 => ?_)
    refine Wk.iconst X60 hx (1 : Int32) (hb hby at_148) rfl rfl ?_
    refine Wk.goto X60 hx 153 (hb hby at_149) rfl ?_
    refine Wk.istore (l' := #[.val (.int i0), .val (.long i1), .second, .val (.int i2), .val (.int (0 : Int32)), .val (.int s'), .val (.ref la), .val (.ref ha), .val (.int (1 : Int32)), .unset, .unset, .unset, .unset, .unset]) X60 hx (hb hby at_153) rfl rfl ?_
    refine Wk.aload X60 hx (hb hby at_155) rfl rfl rfl ?_
    refine Wk.iload X60 hx (hb hby at_157) rfl rfl ?_
    refine Wk.iconst X60 hx (2 : Int32) (hb hby at_159) rfl rfl ?_
    refine Wk.iadd X60 hx (hb hby at_160) rfl ?_
    rw [show ((0 : Int32) + (2 : Int32)) = (2 : Int32) from by decide]
    refine Wk.baload X60 hx hZ rfl B60 (by decide) (by decide) rfl (hb hby at_161) rfl ?_
    refine Wk.i2l X60 hx (hb hby at_162) rfl ?_
    refine Wk.ldcJ X60 hx hZ hown (hw _ (List.mem_of_getElem? (i := 54) rfl)) (hb hby at_163) rfl ?_
    refine Wk.land X60 hx (hb hby at_166) rfl ?_
    have m0 : (w0.toInt64 &&& (255 : Int64)).toInt = w0.toInt % 256 := by rw [c_maskL _ (255 : Int64) 8 (by decide) (by decide), Int32.toInt_toInt64]; rfl
    generalize w0.toInt64 &&& (255 : Int64) = g0 at m0 ⊢
    refine Wk.aload X60 hx (hb hby at_167) rfl rfl rfl ?_
    refine Wk.iload X60 hx (hb hby at_169) rfl rfl ?_
    refine Wk.iconst X60 hx (3 : Int32) (hb hby at_171) rfl rfl ?_
    refine Wk.iadd X60 hx (hb hby at_172) rfl ?_
    rw [show ((0 : Int32) + (3 : Int32)) = (3 : Int32) from by decide]
    refine Wk.baload X60 hx hZ rfl B60 (by decide) (by decide) rfl (hb hby at_173) rfl ?_
    refine Wk.i2l X60 hx (hb hby at_174) rfl ?_
    refine Wk.ldcJ X60 hx hZ hown (hw _ (List.mem_of_getElem? (i := 54) rfl)) (hb hby at_175) rfl ?_
    refine Wk.land X60 hx (hb hby at_178) rfl ?_
    have m1 : (w1.toInt64 &&& (255 : Int64)).toInt = w1.toInt % 256 := by rw [c_maskL _ (255 : Int64) 8 (by decide) (by decide), Int32.toInt_toInt64]; rfl
    generalize w1.toInt64 &&& (255 : Int64) = g1 at m1 ⊢
    refine Wk.bipush X60 hx (8 : Int32) (hb hby at_179) rfl rfl ?_
    refine Wk.lshl X60 hx (hb hby at_181) rfl ?_
    have s1 : ((g1 <<< ((8 : Int32).toInt64 &&& 63)).toInt - g1.toInt * 256) % 18446744073709551616 = 0 := by have := c_lshl g1 (8 : Int32) 8 (by decide); rw [show ((8 : Int32) &&& 0x3f).toInt64 = (8 : Int32).toInt64 &&& 63 from by decide] at this; exact this
    generalize g1 <<< ((8 : Int32).toInt64 &&& 63) = z1 at s1 ⊢
    refine Wk.lor X60 hx (hb hby at_182) rfl ?_
    have o1 : ((g0 ||| z1).toInt - (z1.toInt + g0.toInt)) % 18446744073709551616 = 0 := c_orL' g0 z1 8 (by decide) 256 (by decide) (by omega) (by omega) (by omega)
    have rg1 := (g0 ||| z1).toInt_lt; have rh1 := (g0 ||| z1).le_toInt
    generalize g0 ||| z1 = r1 at o1 rg1 rh1 ⊢
    have a1 : r1.toInt = g0.toInt * 1 + g1.toInt * 256 := by omega
    clear o1 s1 rg1 rh1
    refine Wk.aload X60 hx (hb hby at_183) rfl rfl rfl ?_
    refine Wk.iload X60 hx (hb hby at_185) rfl rfl ?_
    refine Wk.iconst X60 hx (4 : Int32) (hb hby at_187) rfl rfl ?_
    refine Wk.iadd X60 hx (hb hby at_188) rfl ?_
    rw [show ((0 : Int32) + (4 : Int32)) = (4 : Int32) from by decide]
    refine Wk.baload X60 hx hZ rfl B60 (by decide) (by decide) rfl (hb hby at_189) rfl ?_
    refine Wk.i2l X60 hx (hb hby at_190) rfl ?_
    refine Wk.ldcJ X60 hx hZ hown (hw _ (List.mem_of_getElem? (i := 54) rfl)) (hb hby at_191) rfl ?_
    refine Wk.land X60 hx (hb hby at_194) rfl ?_
    have m2 : (w2.toInt64 &&& (255 : Int64)).toInt = w2.toInt % 256 := by rw [c_maskL _ (255 : Int64) 8 (by decide) (by decide), Int32.toInt_toInt64]; rfl
    generalize w2.toInt64 &&& (255 : Int64) = g2 at m2 ⊢
    refine Wk.bipush X60 hx (16 : Int32) (hb hby at_195) rfl rfl ?_
    refine Wk.lshl X60 hx (hb hby at_197) rfl ?_
    have s2 : ((g2 <<< ((16 : Int32).toInt64 &&& 63)).toInt - g2.toInt * 65536) % 18446744073709551616 = 0 := by have := c_lshl g2 (16 : Int32) 16 (by decide); rw [show ((16 : Int32) &&& 0x3f).toInt64 = (16 : Int32).toInt64 &&& 63 from by decide] at this; exact this
    generalize g2 <<< ((16 : Int32).toInt64 &&& 63) = z2 at s2 ⊢
    refine Wk.lor X60 hx (hb hby at_198) rfl ?_
    have o2 : ((r1 ||| z2).toInt - (z2.toInt + r1.toInt)) % 18446744073709551616 = 0 := c_orL' r1 z2 16 (by decide) 65536 (by decide) (by omega) (by omega) (by omega)
    have rg2 := (r1 ||| z2).toInt_lt; have rh2 := (r1 ||| z2).le_toInt
    generalize r1 ||| z2 = r2 at o2 rg2 rh2 ⊢
    have a2 : r2.toInt = g0.toInt * 1 + g1.toInt * 256 + g2.toInt * 65536 := by omega
    clear o2 s2 rg2 rh2
    refine Wk.aload X60 hx (hb hby at_199) rfl rfl rfl ?_
    refine Wk.iload X60 hx (hb hby at_201) rfl rfl ?_
    refine Wk.iconst X60 hx (5 : Int32) (hb hby at_203) rfl rfl ?_
    refine Wk.iadd X60 hx (hb hby at_204) rfl ?_
    rw [show ((0 : Int32) + (5 : Int32)) = (5 : Int32) from by decide]
    refine Wk.baload X60 hx hZ rfl B60 (by decide) (by decide) rfl (hb hby at_205) rfl ?_
    refine Wk.i2l X60 hx (hb hby at_206) rfl ?_
    refine Wk.ldcJ X60 hx hZ hown (hw _ (List.mem_of_getElem? (i := 54) rfl)) (hb hby at_207) rfl ?_
    refine Wk.land X60 hx (hb hby at_210) rfl ?_
    have m3 : (w3.toInt64 &&& (255 : Int64)).toInt = w3.toInt % 256 := by rw [c_maskL _ (255 : Int64) 8 (by decide) (by decide), Int32.toInt_toInt64]; rfl
    generalize w3.toInt64 &&& (255 : Int64) = g3 at m3 ⊢
    refine Wk.bipush X60 hx (24 : Int32) (hb hby at_211) rfl rfl ?_
    refine Wk.lshl X60 hx (hb hby at_213) rfl ?_
    have s3 : ((g3 <<< ((24 : Int32).toInt64 &&& 63)).toInt - g3.toInt * 16777216) % 18446744073709551616 = 0 := by have := c_lshl g3 (24 : Int32) 24 (by decide); rw [show ((24 : Int32) &&& 0x3f).toInt64 = (24 : Int32).toInt64 &&& 63 from by decide] at this; exact this
    generalize g3 <<< ((24 : Int32).toInt64 &&& 63) = z3 at s3 ⊢
    refine Wk.lor X60 hx (hb hby at_214) rfl ?_
    have o3 : ((r2 ||| z3).toInt - (z3.toInt + r2.toInt)) % 18446744073709551616 = 0 := c_orL' r2 z3 24 (by decide) 16777216 (by decide) (by omega) (by omega) (by omega)
    have rg3 := (r2 ||| z3).toInt_lt; have rh3 := (r2 ||| z3).le_toInt
    generalize r2 ||| z3 = r3 at o3 rg3 rh3 ⊢
    have a3 : r3.toInt = g0.toInt * 1 + g1.toInt * 256 + g2.toInt * 65536 + g3.toInt * 16777216 := by omega
    clear o3 s3 rg3 rh3
    refine Wk.aload X60 hx (hb hby at_215) rfl rfl rfl ?_
    refine Wk.iload X60 hx (hb hby at_217) rfl rfl ?_
    refine Wk.bipush X60 hx (6 : Int32) (hb hby at_219) rfl rfl ?_
    refine Wk.iadd X60 hx (hb hby at_221) rfl ?_
    rw [show ((0 : Int32) + (6 : Int32)) = (6 : Int32) from by decide]
    refine Wk.baload X60 hx hZ rfl B60 (by decide) (by decide) rfl (hb hby at_222) rfl ?_
    refine Wk.i2l X60 hx (hb hby at_223) rfl ?_
    refine Wk.ldcJ X60 hx hZ hown (hw _ (List.mem_of_getElem? (i := 54) rfl)) (hb hby at_224) rfl ?_
    refine Wk.land X60 hx (hb hby at_227) rfl ?_
    have m4 : (w4.toInt64 &&& (255 : Int64)).toInt = w4.toInt % 256 := by rw [c_maskL _ (255 : Int64) 8 (by decide) (by decide), Int32.toInt_toInt64]; rfl
    generalize w4.toInt64 &&& (255 : Int64) = g4 at m4 ⊢
    refine Wk.bipush X60 hx (32 : Int32) (hb hby at_228) rfl rfl ?_
    refine Wk.lshl X60 hx (hb hby at_230) rfl ?_
    have s4 : ((g4 <<< ((32 : Int32).toInt64 &&& 63)).toInt - g4.toInt * 4294967296) % 18446744073709551616 = 0 := by have := c_lshl g4 (32 : Int32) 32 (by decide); rw [show ((32 : Int32) &&& 0x3f).toInt64 = (32 : Int32).toInt64 &&& 63 from by decide] at this; exact this
    generalize g4 <<< ((32 : Int32).toInt64 &&& 63) = z4 at s4 ⊢
    refine Wk.lor X60 hx (hb hby at_231) rfl ?_
    have o4 : ((r3 ||| z4).toInt - (z4.toInt + r3.toInt)) % 18446744073709551616 = 0 := c_orL' r3 z4 32 (by decide) 4294967296 (by decide) (by omega) (by omega) (by omega)
    have rg4 := (r3 ||| z4).toInt_lt; have rh4 := (r3 ||| z4).le_toInt
    generalize r3 ||| z4 = r4 at o4 rg4 rh4 ⊢
    have a4 : r4.toInt = g0.toInt * 1 + g1.toInt * 256 + g2.toInt * 65536 + g3.toInt * 16777216 + g4.toInt * 4294967296 := by omega
    clear o4 s4 rg4 rh4
    refine Wk.aload X60 hx (hb hby at_232) rfl rfl rfl ?_
    refine Wk.iload X60 hx (hb hby at_234) rfl rfl ?_
    refine Wk.bipush X60 hx (7 : Int32) (hb hby at_236) rfl rfl ?_
    refine Wk.iadd X60 hx (hb hby at_238) rfl ?_
    rw [show ((0 : Int32) + (7 : Int32)) = (7 : Int32) from by decide]
    refine Wk.baload X60 hx hZ rfl B60 (by decide) (by decide) rfl (hb hby at_239) rfl ?_
    refine Wk.i2l X60 hx (hb hby at_240) rfl ?_
    refine Wk.ldcJ X60 hx hZ hown (hw _ (List.mem_of_getElem? (i := 54) rfl)) (hb hby at_241) rfl ?_
    refine Wk.land X60 hx (hb hby at_244) rfl ?_
    have m5 : (w5.toInt64 &&& (255 : Int64)).toInt = w5.toInt % 256 := by rw [c_maskL _ (255 : Int64) 8 (by decide) (by decide), Int32.toInt_toInt64]; rfl
    generalize w5.toInt64 &&& (255 : Int64) = g5 at m5 ⊢
    refine Wk.bipush X60 hx (40 : Int32) (hb hby at_245) rfl rfl ?_
    refine Wk.lshl X60 hx (hb hby at_247) rfl ?_
    have s5 : ((g5 <<< ((40 : Int32).toInt64 &&& 63)).toInt - g5.toInt * 1099511627776) % 18446744073709551616 = 0 := by have := c_lshl g5 (40 : Int32) 40 (by decide); rw [show ((40 : Int32) &&& 0x3f).toInt64 = (40 : Int32).toInt64 &&& 63 from by decide] at this; exact this
    generalize g5 <<< ((40 : Int32).toInt64 &&& 63) = z5 at s5 ⊢
    refine Wk.lor X60 hx (hb hby at_248) rfl ?_
    have o5 : ((r4 ||| z5).toInt - (z5.toInt + r4.toInt)) % 18446744073709551616 = 0 := c_orL' r4 z5 40 (by decide) 1099511627776 (by decide) (by omega) (by omega) (by omega)
    have rg5 := (r4 ||| z5).toInt_lt; have rh5 := (r4 ||| z5).le_toInt
    generalize r4 ||| z5 = r5 at o5 rg5 rh5 ⊢
    have a5 : r5.toInt = g0.toInt * 1 + g1.toInt * 256 + g2.toInt * 65536 + g3.toInt * 16777216 + g4.toInt * 4294967296 + g5.toInt * 1099511627776 := by omega
    clear o5 s5 rg5 rh5
    refine Wk.aload X60 hx (hb hby at_249) rfl rfl rfl ?_
    refine Wk.iload X60 hx (hb hby at_251) rfl rfl ?_
    refine Wk.bipush X60 hx (8 : Int32) (hb hby at_253) rfl rfl ?_
    refine Wk.iadd X60 hx (hb hby at_255) rfl ?_
    rw [show ((0 : Int32) + (8 : Int32)) = (8 : Int32) from by decide]
    refine Wk.baload X60 hx hZ rfl B60 (by decide) (by decide) rfl (hb hby at_256) rfl ?_
    refine Wk.i2l X60 hx (hb hby at_257) rfl ?_
    refine Wk.ldcJ X60 hx hZ hown (hw _ (List.mem_of_getElem? (i := 54) rfl)) (hb hby at_258) rfl ?_
    refine Wk.land X60 hx (hb hby at_261) rfl ?_
    have m6 : (w6.toInt64 &&& (255 : Int64)).toInt = w6.toInt % 256 := by rw [c_maskL _ (255 : Int64) 8 (by decide) (by decide), Int32.toInt_toInt64]; rfl
    generalize w6.toInt64 &&& (255 : Int64) = g6 at m6 ⊢
    refine Wk.bipush X60 hx (48 : Int32) (hb hby at_262) rfl rfl ?_
    refine Wk.lshl X60 hx (hb hby at_264) rfl ?_
    have s6 : ((g6 <<< ((48 : Int32).toInt64 &&& 63)).toInt - g6.toInt * 281474976710656) % 18446744073709551616 = 0 := by have := c_lshl g6 (48 : Int32) 48 (by decide); rw [show ((48 : Int32) &&& 0x3f).toInt64 = (48 : Int32).toInt64 &&& 63 from by decide] at this; exact this
    generalize g6 <<< ((48 : Int32).toInt64 &&& 63) = z6 at s6 ⊢
    refine Wk.lor X60 hx (hb hby at_265) rfl ?_
    have o6 : ((r5 ||| z6).toInt - (z6.toInt + r5.toInt)) % 18446744073709551616 = 0 := c_orL' r5 z6 48 (by decide) 281474976710656 (by decide) (by omega) (by omega) (by omega)
    have rg6 := (r5 ||| z6).toInt_lt; have rh6 := (r5 ||| z6).le_toInt
    generalize r5 ||| z6 = r6 at o6 rg6 rh6 ⊢
    have a6 : r6.toInt = g0.toInt * 1 + g1.toInt * 256 + g2.toInt * 65536 + g3.toInt * 16777216 + g4.toInt * 4294967296 + g5.toInt * 1099511627776 + g6.toInt * 281474976710656 := by omega
    clear o6 s6 rg6 rh6
    refine Wk.aload X60 hx (hb hby at_266) rfl rfl rfl ?_
    refine Wk.iload X60 hx (hb hby at_268) rfl rfl ?_
    refine Wk.bipush X60 hx (9 : Int32) (hb hby at_270) rfl rfl ?_
    refine Wk.iadd X60 hx (hb hby at_272) rfl ?_
    rw [show ((0 : Int32) + (9 : Int32)) = (9 : Int32) from by decide]
    refine Wk.baload X60 hx hZ rfl B60 (by decide) (by decide) rfl (hb hby at_273) rfl ?_
    refine Wk.i2l X60 hx (hb hby at_274) rfl ?_
    refine Wk.ldcJ X60 hx hZ hown (hw _ (List.mem_of_getElem? (i := 54) rfl)) (hb hby at_275) rfl ?_
    refine Wk.land X60 hx (hb hby at_278) rfl ?_
    have m7 : (w7.toInt64 &&& (255 : Int64)).toInt = w7.toInt % 256 := by rw [c_maskL _ (255 : Int64) 8 (by decide) (by decide), Int32.toInt_toInt64]; rfl
    generalize w7.toInt64 &&& (255 : Int64) = g7 at m7 ⊢
    refine Wk.bipush X60 hx (56 : Int32) (hb hby at_279) rfl rfl ?_
    refine Wk.lshl X60 hx (hb hby at_281) rfl ?_
    have s7 : ((g7 <<< ((56 : Int32).toInt64 &&& 63)).toInt - g7.toInt * 72057594037927936) % 18446744073709551616 = 0 := by have := c_lshl g7 (56 : Int32) 56 (by decide); rw [show ((56 : Int32) &&& 0x3f).toInt64 = (56 : Int32).toInt64 &&& 63 from by decide] at this; exact this
    generalize g7 <<< ((56 : Int32).toInt64 &&& 63) = z7 at s7 ⊢
    refine Wk.lor X60 hx (hb hby at_282) rfl ?_
    have o7 : ((r6 ||| z7).toInt - (z7.toInt + r6.toInt)) % 18446744073709551616 = 0 := c_orL' r6 z7 56 (by decide) 72057594037927936 (by decide) (by omega) (by omega) (by omega)
    have rg7 := (r6 ||| z7).toInt_lt; have rh7 := (r6 ||| z7).le_toInt
    generalize r6 ||| z7 = r7 at o7 rg7 rh7 ⊢
    refine Wk.lstore (l' := #[.val (.int i0), .val (.long i1), .second, .val (.int i2), .val (.int (0 : Int32)), .val (.int s'), .val (.ref la), .val (.ref ha), .val (.int (1 : Int32)), .val (.long r7), .second, .unset, .unset, .unset]) X60 hx (hb hby at_283) rfl rfl ?_
    refine Wk.lload X60 hx (hb hby at_285) rfl rfl ?_
    refine Wk.lloadN X60 hx (hb hby at_287) rfl rfl ?_
    refine Wk.ldcJ X60 hx hZ hown (hw _ (List.mem_of_getElem? (i := 55) rfl)) (hb hby at_288) rfl ?_
    refine Wk.lmul X60 hx (hb hby at_291) rfl ?_
    have ml := c_lmul i1 (8 : Int64)
    rw [show (8 : Int64).toInt = 8 from by decide] at ml
    have mg := (i1 * (8 : Int64)).toInt_lt; have mh := (i1 * (8 : Int64)).le_toInt
    generalize i1 * (8 : Int64) = ln at ml mg mh ⊢
    have sb := sumB ((i1.toInt * 8) % 18446744073709551616) (by omega) (by omega)
    have eqr : r7.toInt = ln.toInt := by
      rw [f0] at m0; rw [f1] at m1; rw [f2] at m2; rw [f3] at m3; rw [f4] at m4; rw [f5] at m5; rw [f6] at m6; rw [f7] at m7
      clear f0 f1 f2 f3 f4 f5 f6 f7
      rw [← m0, ← m1, ← m2, ← m3, ← m4, ← m5, ← m6, ← m7] at sb
      clear m0 m1 m2 m3 m4 m5 m6 m7
      omega
    refine Wk.lcmp X60 hx (hb hby at_292) rfl ?_
    refine Wk.lif_ne X60 hx 300 296 (hb hby at_293) rfl rfl (show (r7 : Int64).toInt = (r7).toInt from rfl) (show (ln : Int64).toInt = (ln).toInt from rfl) (fun h3 => absurd h3 (by omega)) (fun h3 => ?_)
    refine Wk.iconst X60 hx (1 : Int32) (hb hby at_296) rfl rfl ?_
    refine Wk.goto X60 hx 301 (hb hby at_297) rfl ?_
    refine Wk.istore (l' := #[.val (.int i0), .val (.long i1), .second, .val (.int i2), .val (.int (0 : Int32)), .val (.int s'), .val (.ref la), .val (.ref ha), .val (.int (1 : Int32)), .val (.long r7), .second, .val (.int (1 : Int32)), .unset, .unset]) X60 hx (hb hby at_301) rfl rfl ?_
    refine Wk.iload X60 hx (hb hby at_303) rfl rfl ?_
    refine Wk.if_eq X60 hx 320 308 (hb hby at_305) rfl rfl (show ((0 : Int32) : Int32).toInt = 0 from (by decide)) (fun h4 => ?_) (fun h4 => absurd h4 (by omega))
    refine Wk.iconst X60 hx (1 : Int32) (hb hby at_320) rfl rfl ?_
    refine Wk.goto X60 hx 325 (hb hby at_321) rfl ?_
    refine Wk.istore (l' := #[.val (.int i0), .val (.long i1), .second, .val (.int i2), .val (.int (0 : Int32)), .val (.int s'), .val (.ref la), .val (.ref ha), .val (.int (1 : Int32)), .val (.long r7), .second, .val (.int (1 : Int32)), .val (.int (1 : Int32)), .unset]) X60 hx (hb hby at_325) rfl rfl ?_
    refine Wk.aload X60 hx (hb hby at_327) rfl rfl rfl ?_
    refine Wk.iload X60 hx (hb hby at_329) rfl rfl ?_
    refine Wk.bipush X60 hx (10 : Int32) (hb hby at_331) rfl rfl ?_
    refine Wk.iadd X60 hx (hb hby at_333) rfl ?_
    rw [show ((0 : Int32) + (10 : Int32)) = (10 : Int32) from by decide]
    refine Wk.baload X60 hx hZ rfl B60 (by decide) (by decide) rfl (hb hby at_334) rfl ?_
    refine Wk.iload X60 hx (hb hby at_335) rfl rfl ?_
    refine Wk.icmp_ne X60 hx 367 340 (hb hby at_337) rfl rfl (show (s' : Int32).toInt = (s').toInt from rfl) (show (s' : Int32).toInt = (s').toInt from rfl) (fun h5 => absurd h5 (by omega)) (fun h5 => ?_)
    refine Wk.iload X60 hx (hb hby at_340) rfl rfl ?_
    refine Wk.bipush X60 hx (11 : Int32) (hb hby at_342) rfl rfl ?_
    refine Wk.iadd X60 hx (hb hby at_344) rfl ?_
    rw [show ((0 : Int32) + (11 : Int32)) = (11 : Int32) from by decide]
    refine Wk.bipush X60 hx (13 : Int32) (hb hby at_345) rfl rfl ?_
    refine Wk.icmp_gt X60 hx 363 350 (hb hby at_347) rfl rfl (show ((11 : Int32) : Int32).toInt = 11 from (by decide)) (show ((13 : Int32) : Int32).toInt = 13 from (by decide)) (fun h6 => absurd h6 (by omega)) (fun h6 => ?_)
    refine Wk.aload X60 hx (hb hby at_350) rfl rfl rfl ?_
    refine Wk.iload X60 hx (hb hby at_352) rfl rfl ?_
    refine Wk.bipush X60 hx (11 : Int32) (hb hby at_354) rfl rfl ?_
    refine Wk.iadd X60 hx (hb hby at_356) rfl ?_
    rw [show ((0 : Int32) + (11 : Int32)) = (11 : Int32) from by decide]
    refine Wk.baload X60 hx hZ rfl B60 (by decide) (by decide) rfl (hb hby at_357) rfl ?_
    refine Wk.iload X60 hx (hb hby at_358) rfl rfl ?_
    refine Wk.icmp_ne X60 hx 367 363 (hb hby at_360) rfl rfl (show (s' : Int32).toInt = (s').toInt from rfl) (show (s' : Int32).toInt = (s').toInt from rfl) (fun h7 => absurd h7 (by omega)) (fun h7 => ?_)
    refine Wk.iconst X60 hx (1 : Int32) (hb hby at_363) rfl rfl ?_
    refine Wk.goto X60 hx 368 (hb hby at_364) rfl ?_
    refine Wk.istore (l' := #[.val (.int i0), .val (.long i1), .second, .val (.int i2), .val (.int (0 : Int32)), .val (.int s'), .val (.ref la), .val (.ref ha), .val (.int (1 : Int32)), .val (.long r7), .second, .val (.int (1 : Int32)), .val (.int (1 : Int32)), .val (.int (1 : Int32))]) X60 hx (hb hby at_368) rfl rfl ?_
    refine Wk.iload X60 hx (hb hby at_370) rfl rfl ?_
    refine Wk.if_eq X60 hx 394 375 (hb hby at_372) rfl rfl (show ((1 : Int32) : Int32).toInt = 1 from (by decide)) (fun h8 => absurd h8 (by omega)) (fun h8 => ?_)
    refine Wk.iload X60 hx (hb hby at_375) rfl rfl ?_
    refine Wk.if_eq X60 hx 394 380 (hb hby at_377) rfl rfl (show ((1 : Int32) : Int32).toInt = 1 from (by decide)) (fun h9 => absurd h9 (by omega)) (fun h9 => ?_)
    refine Wk.iload X60 hx (hb hby at_380) rfl rfl ?_
    refine Wk.if_eq X60 hx 394 385 (hb hby at_382) rfl rfl (show ((1 : Int32) : Int32).toInt = 1 from (by decide)) (fun h10 => absurd h10 (by omega)) (fun h10 => ?_)
    refine Wk.iload X60 hx (hb hby at_385) rfl rfl ?_
    refine Wk.if_eq X60 hx 394 390 (hb hby at_387) rfl rfl (show ((1 : Int32) : Int32).toInt = 1 from (by decide)) (fun h11 => absurd h11 (by omega)) (fun h11 => ?_)
    refine Wk.iconst X60 hx (1 : Int32) (hb hby at_390) rfl rfl ?_
    refine Wk.goto X60 hx 395 (hb hby at_391) rfl ?_
    exact Wk.retZ X60 hx hlk hret (hb hby at_395) (by decide) (by decide) (by decide) ⟨rfl, (Fr.app N52 N60)⟩
  · rw [ho]
    refine Wk.aload X51 hx (hb hby at_116) rfl rfl rfl ?_
    refine Wk.aload X51 hx (hb hby at_118) rfl rfl rfl ?_
    refine Wk.iload X51 hx (hb hby at_120) rfl rfl ?_
    refine Wk.lloadN X51 hx (hb hby at_122) rfl rfl ?_
    refine Wk.callV (W := 0) X51 hx hZ (argsL := [(.ref la), (.int (1 : Int32)), (.long i1)]) (rest := []) hown (hw _ (List.mem_of_getElem? (i := 49) rfl)) (hw _ (List.mem_of_getElem? (i := 50) rfl)) (hw _ (List.mem_of_getElem? (i := 52) rfl)) (hw _ (List.mem_of_getElem? (i := 51) rfl)) (hw _ (List.mem_of_getElem? (i := 3) rfl)) (hw _ (List.mem_of_getElem? (i := 53) rfl)) (notFace_of_selects (args := #[]) (mvT hZ (hw _ (List.mem_of_getElem? (i := 52) rfl)))) (by decide) (mwt1 l Z a0 hw ha la kb s' i1 n0 hla T51.heap B51) rfl E51 (by decide) (by decide) (by decide) (by decide) (by rw [hml]; rfl) (lenOf pd6 rfl) rfl (Nat.le_of_eq rfl) (hb hby at_123) rfl (fun T60 v60 L60 X60 hq60 => ?_)
    obtain ⟨rfl, N60, K60, w0, w1, w2, w3, w4, w5, w6, w7, Aw, f0, f1, f2, f3, f4, f5, f6, f7⟩ := hq60
    have B60 : Arv Z T60.heap la kb .byte 14 [.int s', .int 25, .int 32, .int w0, .int w1, .int w2, .int w3, .int w4, .int w5, .int w6, .int w7, .int s', .int s', .int s'] (.int 0) := Aw
    show Wk.Go p e below s _ _ _ T60 (mkF m 126 #[.val (.int i0), .val (.long i1), .second, .val (.int i2), .val (.int (1 : Int32)), .val (.int s'), .val (.ref la), .val (.ref ha), .unset, .unset, .unset, .unset, .unset, .unset] [])
    refine Wk.aload X60 hx (hb hby at_126) rfl rfl rfl ?_
    refine Wk.iload X60 hx (hb hby at_128) rfl rfl ?_
    refine Wk.baload X60 hx hZ rfl B60 (by decide) (by decide) rfl (hb hby at_130) rfl ?_
    refine Wk.bipush X60 hx (25 : Int32) (hb hby at_131) rfl rfl ?_
    refine Wk.icmp_ne X60 hx 152 136 (hb hby at_133) rfl rfl (show ((25 : Int32) : Int32).toInt = 25 from (by decide)) (show ((25 : Int32) : Int32).toInt = 25 from (by decide)) (fun h12 => absurd h12 (by omega)) (fun h12 => ?_)
    refine Wk.aload X60 hx (hb hby at_136) rfl rfl rfl ?_
    refine Wk.iload X60 hx (hb hby at_138) rfl rfl ?_
    refine Wk.iconst X60 hx (1 : Int32) (hb hby at_140) rfl rfl ?_
    refine Wk.iadd X60 hx (hb hby at_141) rfl ?_
    rw [show ((1 : Int32) + (1 : Int32)) = (2 : Int32) from by decide]
    refine Wk.baload X60 hx hZ rfl B60 (by decide) (by decide) rfl (hb hby at_142) rfl ?_
    refine Wk.bipush X60 hx (32 : Int32) (hb hby at_143) rfl rfl ?_
    refine Wk.icmp_ne X60 hx 152 148 (hb hby at_145) rfl rfl (show ((32 : Int32) : Int32).toInt = 32 from (by decide)) (show ((32 : Int32) : Int32).toInt = 32 from (by decide)) (fun h13 => absurd h13 (by omega)) (fun h13 => ?_)
    refine Wk.iconst X60 hx (1 : Int32) (hb hby at_148) rfl rfl ?_
    refine Wk.goto X60 hx 153 (hb hby at_149) rfl ?_
    refine Wk.istore (l' := #[.val (.int i0), .val (.long i1), .second, .val (.int i2), .val (.int (1 : Int32)), .val (.int s'), .val (.ref la), .val (.ref ha), .val (.int (1 : Int32)), .unset, .unset, .unset, .unset, .unset]) X60 hx (hb hby at_153) rfl rfl ?_
    refine Wk.aload X60 hx (hb hby at_155) rfl rfl rfl ?_
    refine Wk.iload X60 hx (hb hby at_157) rfl rfl ?_
    refine Wk.iconst X60 hx (2 : Int32) (hb hby at_159) rfl rfl ?_
    refine Wk.iadd X60 hx (hb hby at_160) rfl ?_
    rw [show ((1 : Int32) + (2 : Int32)) = (3 : Int32) from by decide]
    refine Wk.baload X60 hx hZ rfl B60 (by decide) (by decide) rfl (hb hby at_161) rfl ?_
    refine Wk.i2l X60 hx (hb hby at_162) rfl ?_
    refine Wk.ldcJ X60 hx hZ hown (hw _ (List.mem_of_getElem? (i := 54) rfl)) (hb hby at_163) rfl ?_
    refine Wk.land X60 hx (hb hby at_166) rfl ?_
    have m0 : (w0.toInt64 &&& (255 : Int64)).toInt = w0.toInt % 256 := by rw [c_maskL _ (255 : Int64) 8 (by decide) (by decide), Int32.toInt_toInt64]; rfl
    generalize w0.toInt64 &&& (255 : Int64) = g0 at m0 ⊢
    refine Wk.aload X60 hx (hb hby at_167) rfl rfl rfl ?_
    refine Wk.iload X60 hx (hb hby at_169) rfl rfl ?_
    refine Wk.iconst X60 hx (3 : Int32) (hb hby at_171) rfl rfl ?_
    refine Wk.iadd X60 hx (hb hby at_172) rfl ?_
    rw [show ((1 : Int32) + (3 : Int32)) = (4 : Int32) from by decide]
    refine Wk.baload X60 hx hZ rfl B60 (by decide) (by decide) rfl (hb hby at_173) rfl ?_
    refine Wk.i2l X60 hx (hb hby at_174) rfl ?_
    refine Wk.ldcJ X60 hx hZ hown (hw _ (List.mem_of_getElem? (i := 54) rfl)) (hb hby at_175) rfl ?_
    refine Wk.land X60 hx (hb hby at_178) rfl ?_
    have m1 : (w1.toInt64 &&& (255 : Int64)).toInt = w1.toInt % 256 := by rw [c_maskL _ (255 : Int64) 8 (by decide) (by decide), Int32.toInt_toInt64]; rfl
    generalize w1.toInt64 &&& (255 : Int64) = g1 at m1 ⊢
    refine Wk.bipush X60 hx (8 : Int32) (hb hby at_179) rfl rfl ?_
    refine Wk.lshl X60 hx (hb hby at_181) rfl ?_
    have s1 : ((g1 <<< ((8 : Int32).toInt64 &&& 63)).toInt - g1.toInt * 256) % 18446744073709551616 = 0 := by have := c_lshl g1 (8 : Int32) 8 (by decide); rw [show ((8 : Int32) &&& 0x3f).toInt64 = (8 : Int32).toInt64 &&& 63 from by decide] at this; exact this
    generalize g1 <<< ((8 : Int32).toInt64 &&& 63) = z1 at s1 ⊢
    refine Wk.lor X60 hx (hb hby at_182) rfl ?_
    have o1 : ((g0 ||| z1).toInt - (z1.toInt + g0.toInt)) % 18446744073709551616 = 0 := c_orL' g0 z1 8 (by decide) 256 (by decide) (by omega) (by omega) (by omega)
    have rg1 := (g0 ||| z1).toInt_lt; have rh1 := (g0 ||| z1).le_toInt
    generalize g0 ||| z1 = r1 at o1 rg1 rh1 ⊢
    have a1 : r1.toInt = g0.toInt * 1 + g1.toInt * 256 := by omega
    clear o1 s1 rg1 rh1
    refine Wk.aload X60 hx (hb hby at_183) rfl rfl rfl ?_
    refine Wk.iload X60 hx (hb hby at_185) rfl rfl ?_
    refine Wk.iconst X60 hx (4 : Int32) (hb hby at_187) rfl rfl ?_
    refine Wk.iadd X60 hx (hb hby at_188) rfl ?_
    rw [show ((1 : Int32) + (4 : Int32)) = (5 : Int32) from by decide]
    refine Wk.baload X60 hx hZ rfl B60 (by decide) (by decide) rfl (hb hby at_189) rfl ?_
    refine Wk.i2l X60 hx (hb hby at_190) rfl ?_
    refine Wk.ldcJ X60 hx hZ hown (hw _ (List.mem_of_getElem? (i := 54) rfl)) (hb hby at_191) rfl ?_
    refine Wk.land X60 hx (hb hby at_194) rfl ?_
    have m2 : (w2.toInt64 &&& (255 : Int64)).toInt = w2.toInt % 256 := by rw [c_maskL _ (255 : Int64) 8 (by decide) (by decide), Int32.toInt_toInt64]; rfl
    generalize w2.toInt64 &&& (255 : Int64) = g2 at m2 ⊢
    refine Wk.bipush X60 hx (16 : Int32) (hb hby at_195) rfl rfl ?_
    refine Wk.lshl X60 hx (hb hby at_197) rfl ?_
    have s2 : ((g2 <<< ((16 : Int32).toInt64 &&& 63)).toInt - g2.toInt * 65536) % 18446744073709551616 = 0 := by have := c_lshl g2 (16 : Int32) 16 (by decide); rw [show ((16 : Int32) &&& 0x3f).toInt64 = (16 : Int32).toInt64 &&& 63 from by decide] at this; exact this
    generalize g2 <<< ((16 : Int32).toInt64 &&& 63) = z2 at s2 ⊢
    refine Wk.lor X60 hx (hb hby at_198) rfl ?_
    have o2 : ((r1 ||| z2).toInt - (z2.toInt + r1.toInt)) % 18446744073709551616 = 0 := c_orL' r1 z2 16 (by decide) 65536 (by decide) (by omega) (by omega) (by omega)
    have rg2 := (r1 ||| z2).toInt_lt; have rh2 := (r1 ||| z2).le_toInt
    generalize r1 ||| z2 = r2 at o2 rg2 rh2 ⊢
    have a2 : r2.toInt = g0.toInt * 1 + g1.toInt * 256 + g2.toInt * 65536 := by omega
    clear o2 s2 rg2 rh2
    refine Wk.aload X60 hx (hb hby at_199) rfl rfl rfl ?_
    refine Wk.iload X60 hx (hb hby at_201) rfl rfl ?_
    refine Wk.iconst X60 hx (5 : Int32) (hb hby at_203) rfl rfl ?_
    refine Wk.iadd X60 hx (hb hby at_204) rfl ?_
    rw [show ((1 : Int32) + (5 : Int32)) = (6 : Int32) from by decide]
    refine Wk.baload X60 hx hZ rfl B60 (by decide) (by decide) rfl (hb hby at_205) rfl ?_
    refine Wk.i2l X60 hx (hb hby at_206) rfl ?_
    refine Wk.ldcJ X60 hx hZ hown (hw _ (List.mem_of_getElem? (i := 54) rfl)) (hb hby at_207) rfl ?_
    refine Wk.land X60 hx (hb hby at_210) rfl ?_
    have m3 : (w3.toInt64 &&& (255 : Int64)).toInt = w3.toInt % 256 := by rw [c_maskL _ (255 : Int64) 8 (by decide) (by decide), Int32.toInt_toInt64]; rfl
    generalize w3.toInt64 &&& (255 : Int64) = g3 at m3 ⊢
    refine Wk.bipush X60 hx (24 : Int32) (hb hby at_211) rfl rfl ?_
    refine Wk.lshl X60 hx (hb hby at_213) rfl ?_
    have s3 : ((g3 <<< ((24 : Int32).toInt64 &&& 63)).toInt - g3.toInt * 16777216) % 18446744073709551616 = 0 := by have := c_lshl g3 (24 : Int32) 24 (by decide); rw [show ((24 : Int32) &&& 0x3f).toInt64 = (24 : Int32).toInt64 &&& 63 from by decide] at this; exact this
    generalize g3 <<< ((24 : Int32).toInt64 &&& 63) = z3 at s3 ⊢
    refine Wk.lor X60 hx (hb hby at_214) rfl ?_
    have o3 : ((r2 ||| z3).toInt - (z3.toInt + r2.toInt)) % 18446744073709551616 = 0 := c_orL' r2 z3 24 (by decide) 16777216 (by decide) (by omega) (by omega) (by omega)
    have rg3 := (r2 ||| z3).toInt_lt; have rh3 := (r2 ||| z3).le_toInt
    generalize r2 ||| z3 = r3 at o3 rg3 rh3 ⊢
    have a3 : r3.toInt = g0.toInt * 1 + g1.toInt * 256 + g2.toInt * 65536 + g3.toInt * 16777216 := by omega
    clear o3 s3 rg3 rh3
    refine Wk.aload X60 hx (hb hby at_215) rfl rfl rfl ?_
    refine Wk.iload X60 hx (hb hby at_217) rfl rfl ?_
    refine Wk.bipush X60 hx (6 : Int32) (hb hby at_219) rfl rfl ?_
    refine Wk.iadd X60 hx (hb hby at_221) rfl ?_
    rw [show ((1 : Int32) + (6 : Int32)) = (7 : Int32) from by decide]
    refine Wk.baload X60 hx hZ rfl B60 (by decide) (by decide) rfl (hb hby at_222) rfl ?_
    refine Wk.i2l X60 hx (hb hby at_223) rfl ?_
    refine Wk.ldcJ X60 hx hZ hown (hw _ (List.mem_of_getElem? (i := 54) rfl)) (hb hby at_224) rfl ?_
    refine Wk.land X60 hx (hb hby at_227) rfl ?_
    have m4 : (w4.toInt64 &&& (255 : Int64)).toInt = w4.toInt % 256 := by rw [c_maskL _ (255 : Int64) 8 (by decide) (by decide), Int32.toInt_toInt64]; rfl
    generalize w4.toInt64 &&& (255 : Int64) = g4 at m4 ⊢
    refine Wk.bipush X60 hx (32 : Int32) (hb hby at_228) rfl rfl ?_
    refine Wk.lshl X60 hx (hb hby at_230) rfl ?_
    have s4 : ((g4 <<< ((32 : Int32).toInt64 &&& 63)).toInt - g4.toInt * 4294967296) % 18446744073709551616 = 0 := by have := c_lshl g4 (32 : Int32) 32 (by decide); rw [show ((32 : Int32) &&& 0x3f).toInt64 = (32 : Int32).toInt64 &&& 63 from by decide] at this; exact this
    generalize g4 <<< ((32 : Int32).toInt64 &&& 63) = z4 at s4 ⊢
    refine Wk.lor X60 hx (hb hby at_231) rfl ?_
    have o4 : ((r3 ||| z4).toInt - (z4.toInt + r3.toInt)) % 18446744073709551616 = 0 := c_orL' r3 z4 32 (by decide) 4294967296 (by decide) (by omega) (by omega) (by omega)
    have rg4 := (r3 ||| z4).toInt_lt; have rh4 := (r3 ||| z4).le_toInt
    generalize r3 ||| z4 = r4 at o4 rg4 rh4 ⊢
    have a4 : r4.toInt = g0.toInt * 1 + g1.toInt * 256 + g2.toInt * 65536 + g3.toInt * 16777216 + g4.toInt * 4294967296 := by omega
    clear o4 s4 rg4 rh4
    refine Wk.aload X60 hx (hb hby at_232) rfl rfl rfl ?_
    refine Wk.iload X60 hx (hb hby at_234) rfl rfl ?_
    refine Wk.bipush X60 hx (7 : Int32) (hb hby at_236) rfl rfl ?_
    refine Wk.iadd X60 hx (hb hby at_238) rfl ?_
    rw [show ((1 : Int32) + (7 : Int32)) = (8 : Int32) from by decide]
    refine Wk.baload X60 hx hZ rfl B60 (by decide) (by decide) rfl (hb hby at_239) rfl ?_
    refine Wk.i2l X60 hx (hb hby at_240) rfl ?_
    refine Wk.ldcJ X60 hx hZ hown (hw _ (List.mem_of_getElem? (i := 54) rfl)) (hb hby at_241) rfl ?_
    refine Wk.land X60 hx (hb hby at_244) rfl ?_
    have m5 : (w5.toInt64 &&& (255 : Int64)).toInt = w5.toInt % 256 := by rw [c_maskL _ (255 : Int64) 8 (by decide) (by decide), Int32.toInt_toInt64]; rfl
    generalize w5.toInt64 &&& (255 : Int64) = g5 at m5 ⊢
    refine Wk.bipush X60 hx (40 : Int32) (hb hby at_245) rfl rfl ?_
    refine Wk.lshl X60 hx (hb hby at_247) rfl ?_
    have s5 : ((g5 <<< ((40 : Int32).toInt64 &&& 63)).toInt - g5.toInt * 1099511627776) % 18446744073709551616 = 0 := by have := c_lshl g5 (40 : Int32) 40 (by decide); rw [show ((40 : Int32) &&& 0x3f).toInt64 = (40 : Int32).toInt64 &&& 63 from by decide] at this; exact this
    generalize g5 <<< ((40 : Int32).toInt64 &&& 63) = z5 at s5 ⊢
    refine Wk.lor X60 hx (hb hby at_248) rfl ?_
    have o5 : ((r4 ||| z5).toInt - (z5.toInt + r4.toInt)) % 18446744073709551616 = 0 := c_orL' r4 z5 40 (by decide) 1099511627776 (by decide) (by omega) (by omega) (by omega)
    have rg5 := (r4 ||| z5).toInt_lt; have rh5 := (r4 ||| z5).le_toInt
    generalize r4 ||| z5 = r5 at o5 rg5 rh5 ⊢
    have a5 : r5.toInt = g0.toInt * 1 + g1.toInt * 256 + g2.toInt * 65536 + g3.toInt * 16777216 + g4.toInt * 4294967296 + g5.toInt * 1099511627776 := by omega
    clear o5 s5 rg5 rh5
    refine Wk.aload X60 hx (hb hby at_249) rfl rfl rfl ?_
    refine Wk.iload X60 hx (hb hby at_251) rfl rfl ?_
    refine Wk.bipush X60 hx (8 : Int32) (hb hby at_253) rfl rfl ?_
    refine Wk.iadd X60 hx (hb hby at_255) rfl ?_
    rw [show ((1 : Int32) + (8 : Int32)) = (9 : Int32) from by decide]
    refine Wk.baload X60 hx hZ rfl B60 (by decide) (by decide) rfl (hb hby at_256) rfl ?_
    refine Wk.i2l X60 hx (hb hby at_257) rfl ?_
    refine Wk.ldcJ X60 hx hZ hown (hw _ (List.mem_of_getElem? (i := 54) rfl)) (hb hby at_258) rfl ?_
    refine Wk.land X60 hx (hb hby at_261) rfl ?_
    have m6 : (w6.toInt64 &&& (255 : Int64)).toInt = w6.toInt % 256 := by rw [c_maskL _ (255 : Int64) 8 (by decide) (by decide), Int32.toInt_toInt64]; rfl
    generalize w6.toInt64 &&& (255 : Int64) = g6 at m6 ⊢
    refine Wk.bipush X60 hx (48 : Int32) (hb hby at_262) rfl rfl ?_
    refine Wk.lshl X60 hx (hb hby at_264) rfl ?_
    have s6 : ((g6 <<< ((48 : Int32).toInt64 &&& 63)).toInt - g6.toInt * 281474976710656) % 18446744073709551616 = 0 := by have := c_lshl g6 (48 : Int32) 48 (by decide); rw [show ((48 : Int32) &&& 0x3f).toInt64 = (48 : Int32).toInt64 &&& 63 from by decide] at this; exact this
    generalize g6 <<< ((48 : Int32).toInt64 &&& 63) = z6 at s6 ⊢
    refine Wk.lor X60 hx (hb hby at_265) rfl ?_
    have o6 : ((r5 ||| z6).toInt - (z6.toInt + r5.toInt)) % 18446744073709551616 = 0 := c_orL' r5 z6 48 (by decide) 281474976710656 (by decide) (by omega) (by omega) (by omega)
    have rg6 := (r5 ||| z6).toInt_lt; have rh6 := (r5 ||| z6).le_toInt
    generalize r5 ||| z6 = r6 at o6 rg6 rh6 ⊢
    have a6 : r6.toInt = g0.toInt * 1 + g1.toInt * 256 + g2.toInt * 65536 + g3.toInt * 16777216 + g4.toInt * 4294967296 + g5.toInt * 1099511627776 + g6.toInt * 281474976710656 := by omega
    clear o6 s6 rg6 rh6
    refine Wk.aload X60 hx (hb hby at_266) rfl rfl rfl ?_
    refine Wk.iload X60 hx (hb hby at_268) rfl rfl ?_
    refine Wk.bipush X60 hx (9 : Int32) (hb hby at_270) rfl rfl ?_
    refine Wk.iadd X60 hx (hb hby at_272) rfl ?_
    rw [show ((1 : Int32) + (9 : Int32)) = (10 : Int32) from by decide]
    refine Wk.baload X60 hx hZ rfl B60 (by decide) (by decide) rfl (hb hby at_273) rfl ?_
    refine Wk.i2l X60 hx (hb hby at_274) rfl ?_
    refine Wk.ldcJ X60 hx hZ hown (hw _ (List.mem_of_getElem? (i := 54) rfl)) (hb hby at_275) rfl ?_
    refine Wk.land X60 hx (hb hby at_278) rfl ?_
    have m7 : (w7.toInt64 &&& (255 : Int64)).toInt = w7.toInt % 256 := by rw [c_maskL _ (255 : Int64) 8 (by decide) (by decide), Int32.toInt_toInt64]; rfl
    generalize w7.toInt64 &&& (255 : Int64) = g7 at m7 ⊢
    refine Wk.bipush X60 hx (56 : Int32) (hb hby at_279) rfl rfl ?_
    refine Wk.lshl X60 hx (hb hby at_281) rfl ?_
    have s7 : ((g7 <<< ((56 : Int32).toInt64 &&& 63)).toInt - g7.toInt * 72057594037927936) % 18446744073709551616 = 0 := by have := c_lshl g7 (56 : Int32) 56 (by decide); rw [show ((56 : Int32) &&& 0x3f).toInt64 = (56 : Int32).toInt64 &&& 63 from by decide] at this; exact this
    generalize g7 <<< ((56 : Int32).toInt64 &&& 63) = z7 at s7 ⊢
    refine Wk.lor X60 hx (hb hby at_282) rfl ?_
    have o7 : ((r6 ||| z7).toInt - (z7.toInt + r6.toInt)) % 18446744073709551616 = 0 := c_orL' r6 z7 56 (by decide) 72057594037927936 (by decide) (by omega) (by omega) (by omega)
    have rg7 := (r6 ||| z7).toInt_lt; have rh7 := (r6 ||| z7).le_toInt
    generalize r6 ||| z7 = r7 at o7 rg7 rh7 ⊢
    refine Wk.lstore (l' := #[.val (.int i0), .val (.long i1), .second, .val (.int i2), .val (.int (1 : Int32)), .val (.int s'), .val (.ref la), .val (.ref ha), .val (.int (1 : Int32)), .val (.long r7), .second, .unset, .unset, .unset]) X60 hx (hb hby at_283) rfl rfl ?_
    refine Wk.lload X60 hx (hb hby at_285) rfl rfl ?_
    refine Wk.lloadN X60 hx (hb hby at_287) rfl rfl ?_
    refine Wk.ldcJ X60 hx hZ hown (hw _ (List.mem_of_getElem? (i := 55) rfl)) (hb hby at_288) rfl ?_
    refine Wk.lmul X60 hx (hb hby at_291) rfl ?_
    have ml := c_lmul i1 (8 : Int64)
    rw [show (8 : Int64).toInt = 8 from by decide] at ml
    have mg := (i1 * (8 : Int64)).toInt_lt; have mh := (i1 * (8 : Int64)).le_toInt
    generalize i1 * (8 : Int64) = ln at ml mg mh ⊢
    have sb := sumB ((i1.toInt * 8) % 18446744073709551616) (by omega) (by omega)
    have eqr : r7.toInt = ln.toInt := by
      rw [f0] at m0; rw [f1] at m1; rw [f2] at m2; rw [f3] at m3; rw [f4] at m4; rw [f5] at m5; rw [f6] at m6; rw [f7] at m7
      clear f0 f1 f2 f3 f4 f5 f6 f7
      rw [← m0, ← m1, ← m2, ← m3, ← m4, ← m5, ← m6, ← m7] at sb
      clear m0 m1 m2 m3 m4 m5 m6 m7
      omega
    refine Wk.lcmp X60 hx (hb hby at_292) rfl ?_
    refine Wk.lif_ne X60 hx 300 296 (hb hby at_293) rfl rfl (show (r7 : Int64).toInt = (r7).toInt from rfl) (show (ln : Int64).toInt = (ln).toInt from rfl) (fun h14 => absurd h14 (by omega)) (fun h14 => ?_)
    refine Wk.iconst X60 hx (1 : Int32) (hb hby at_296) rfl rfl ?_
    refine Wk.goto X60 hx 301 (hb hby at_297) rfl ?_
    refine Wk.istore (l' := #[.val (.int i0), .val (.long i1), .second, .val (.int i2), .val (.int (1 : Int32)), .val (.int s'), .val (.ref la), .val (.ref ha), .val (.int (1 : Int32)), .val (.long r7), .second, .val (.int (1 : Int32)), .unset, .unset]) X60 hx (hb hby at_301) rfl rfl ?_
    refine Wk.iload X60 hx (hb hby at_303) rfl rfl ?_
    refine Wk.if_eq X60 hx 320 308 (hb hby at_305) rfl rfl (show ((1 : Int32) : Int32).toInt = 1 from (by decide)) (fun h15 => absurd h15 (by omega)) (fun h15 => ?_)
    refine Wk.aload X60 hx (hb hby at_308) rfl rfl rfl ?_
    refine Wk.iload X60 hx (hb hby at_310) rfl rfl ?_
    refine Wk.iconst X60 hx (1 : Int32) (hb hby at_312) rfl rfl ?_
    refine Wk.isub X60 hx (hb hby at_313) rfl ?_
    rw [show ((1 : Int32) - (1 : Int32)) = (0 : Int32) from by decide]
    refine Wk.baload X60 hx hZ rfl B60 (by decide) (by decide) rfl (hb hby at_314) rfl ?_
    refine Wk.iload X60 hx (hb hby at_315) rfl rfl ?_
    refine Wk.icmp_ne X60 hx 324 320 (hb hby at_317) rfl rfl (show (s' : Int32).toInt = (s').toInt from rfl) (show (s' : Int32).toInt = (s').toInt from rfl) (fun h16 => absurd h16 (by omega)) (fun h16 => ?_)
    refine Wk.iconst X60 hx (1 : Int32) (hb hby at_320) rfl rfl ?_
    refine Wk.goto X60 hx 325 (hb hby at_321) rfl ?_
    refine Wk.istore (l' := #[.val (.int i0), .val (.long i1), .second, .val (.int i2), .val (.int (1 : Int32)), .val (.int s'), .val (.ref la), .val (.ref ha), .val (.int (1 : Int32)), .val (.long r7), .second, .val (.int (1 : Int32)), .val (.int (1 : Int32)), .unset]) X60 hx (hb hby at_325) rfl rfl ?_
    refine Wk.aload X60 hx (hb hby at_327) rfl rfl rfl ?_
    refine Wk.iload X60 hx (hb hby at_329) rfl rfl ?_
    refine Wk.bipush X60 hx (10 : Int32) (hb hby at_331) rfl rfl ?_
    refine Wk.iadd X60 hx (hb hby at_333) rfl ?_
    rw [show ((1 : Int32) + (10 : Int32)) = (11 : Int32) from by decide]
    refine Wk.baload X60 hx hZ rfl B60 (by decide) (by decide) rfl (hb hby at_334) rfl ?_
    refine Wk.iload X60 hx (hb hby at_335) rfl rfl ?_
    refine Wk.icmp_ne X60 hx 367 340 (hb hby at_337) rfl rfl (show (s' : Int32).toInt = (s').toInt from rfl) (show (s' : Int32).toInt = (s').toInt from rfl) (fun h17 => absurd h17 (by omega)) (fun h17 => ?_)
    refine Wk.iload X60 hx (hb hby at_340) rfl rfl ?_
    refine Wk.bipush X60 hx (11 : Int32) (hb hby at_342) rfl rfl ?_
    refine Wk.iadd X60 hx (hb hby at_344) rfl ?_
    rw [show ((1 : Int32) + (11 : Int32)) = (12 : Int32) from by decide]
    refine Wk.bipush X60 hx (13 : Int32) (hb hby at_345) rfl rfl ?_
    refine Wk.icmp_gt X60 hx 363 350 (hb hby at_347) rfl rfl (show ((12 : Int32) : Int32).toInt = 12 from (by decide)) (show ((13 : Int32) : Int32).toInt = 13 from (by decide)) (fun h18 => absurd h18 (by omega)) (fun h18 => ?_)
    refine Wk.aload X60 hx (hb hby at_350) rfl rfl rfl ?_
    refine Wk.iload X60 hx (hb hby at_352) rfl rfl ?_
    refine Wk.bipush X60 hx (11 : Int32) (hb hby at_354) rfl rfl ?_
    refine Wk.iadd X60 hx (hb hby at_356) rfl ?_
    rw [show ((1 : Int32) + (11 : Int32)) = (12 : Int32) from by decide]
    refine Wk.baload X60 hx hZ rfl B60 (by decide) (by decide) rfl (hb hby at_357) rfl ?_
    refine Wk.iload X60 hx (hb hby at_358) rfl rfl ?_
    refine Wk.icmp_ne X60 hx 367 363 (hb hby at_360) rfl rfl (show (s' : Int32).toInt = (s').toInt from rfl) (show (s' : Int32).toInt = (s').toInt from rfl) (fun h19 => absurd h19 (by omega)) (fun h19 => ?_)
    refine Wk.iconst X60 hx (1 : Int32) (hb hby at_363) rfl rfl ?_
    refine Wk.goto X60 hx 368 (hb hby at_364) rfl ?_
    refine Wk.istore (l' := #[.val (.int i0), .val (.long i1), .second, .val (.int i2), .val (.int (1 : Int32)), .val (.int s'), .val (.ref la), .val (.ref ha), .val (.int (1 : Int32)), .val (.long r7), .second, .val (.int (1 : Int32)), .val (.int (1 : Int32)), .val (.int (1 : Int32))]) X60 hx (hb hby at_368) rfl rfl ?_
    refine Wk.iload X60 hx (hb hby at_370) rfl rfl ?_
    refine Wk.if_eq X60 hx 394 375 (hb hby at_372) rfl rfl (show ((1 : Int32) : Int32).toInt = 1 from (by decide)) (fun h20 => absurd h20 (by omega)) (fun h20 => ?_)
    refine Wk.iload X60 hx (hb hby at_375) rfl rfl ?_
    refine Wk.if_eq X60 hx 394 380 (hb hby at_377) rfl rfl (show ((1 : Int32) : Int32).toInt = 1 from (by decide)) (fun h21 => absurd h21 (by omega)) (fun h21 => ?_)
    refine Wk.iload X60 hx (hb hby at_380) rfl rfl ?_
    refine Wk.if_eq X60 hx 394 385 (hb hby at_382) rfl rfl (show ((1 : Int32) : Int32).toInt = 1 from (by decide)) (fun h22 => absurd h22 (by omega)) (fun h22 => ?_)
    refine Wk.iload X60 hx (hb hby at_385) rfl rfl ?_
    refine Wk.if_eq X60 hx 394 390 (hb hby at_387) rfl rfl (show ((1 : Int32) : Int32).toInt = 1 from (by decide)) (fun h23 => absurd h23 (by omega)) (fun h23 => ?_)
    refine Wk.iconst X60 hx (1 : Int32) (hb hby at_390) rfl rfl ?_
    refine Wk.goto X60 hx 395 (hb hby at_391) rfl ?_
    exact Wk.retZ X60 hx hlk hret (hb hby at_395) (by decide) (by decide) (by decide) ⟨rfl, (Fr.app N52 N60)⟩
  · rw [ho]
    refine Wk.aload X51 hx (hb hby at_116) rfl rfl rfl ?_
    refine Wk.aload X51 hx (hb hby at_118) rfl rfl rfl ?_
    refine Wk.iload X51 hx (hb hby at_120) rfl rfl ?_
    refine Wk.lloadN X51 hx (hb hby at_122) rfl rfl ?_
    refine Wk.callV (W := 0) X51 hx hZ (argsL := [(.ref la), (.int (2 : Int32)), (.long i1)]) (rest := []) hown (hw _ (List.mem_of_getElem? (i := 49) rfl)) (hw _ (List.mem_of_getElem? (i := 50) rfl)) (hw _ (List.mem_of_getElem? (i := 52) rfl)) (hw _ (List.mem_of_getElem? (i := 51) rfl)) (hw _ (List.mem_of_getElem? (i := 3) rfl)) (hw _ (List.mem_of_getElem? (i := 53) rfl)) (notFace_of_selects (args := #[]) (mvT hZ (hw _ (List.mem_of_getElem? (i := 52) rfl)))) (by decide) (mwt2 l Z a0 hw ha la kb s' i1 n0 hla T51.heap B51) rfl E51 (by decide) (by decide) (by decide) (by decide) (by rw [hml]; rfl) (lenOf pd6 rfl) rfl (Nat.le_of_eq rfl) (hb hby at_123) rfl (fun T60 v60 L60 X60 hq60 => ?_)
    obtain ⟨rfl, N60, K60, w0, w1, w2, w3, w4, w5, w6, w7, Aw, f0, f1, f2, f3, f4, f5, f6, f7⟩ := hq60
    have B60 : Arv Z T60.heap la kb .byte 14 [.int s', .int s', .int 25, .int 32, .int w0, .int w1, .int w2, .int w3, .int w4, .int w5, .int w6, .int w7, .int s', .int s'] (.int 0) := Aw
    show Wk.Go p e below s _ _ _ T60 (mkF m 126 #[.val (.int i0), .val (.long i1), .second, .val (.int i2), .val (.int (2 : Int32)), .val (.int s'), .val (.ref la), .val (.ref ha), .unset, .unset, .unset, .unset, .unset, .unset] [])
    refine Wk.aload X60 hx (hb hby at_126) rfl rfl rfl ?_
    refine Wk.iload X60 hx (hb hby at_128) rfl rfl ?_
    refine Wk.baload X60 hx hZ rfl B60 (by decide) (by decide) rfl (hb hby at_130) rfl ?_
    refine Wk.bipush X60 hx (25 : Int32) (hb hby at_131) rfl rfl ?_
    refine Wk.icmp_ne X60 hx 152 136 (hb hby at_133) rfl rfl (show ((25 : Int32) : Int32).toInt = 25 from (by decide)) (show ((25 : Int32) : Int32).toInt = 25 from (by decide)) (fun h24 => absurd h24 (by omega)) (fun h24 => ?_)
    refine Wk.aload X60 hx (hb hby at_136) rfl rfl rfl ?_
    refine Wk.iload X60 hx (hb hby at_138) rfl rfl ?_
    refine Wk.iconst X60 hx (1 : Int32) (hb hby at_140) rfl rfl ?_
    refine Wk.iadd X60 hx (hb hby at_141) rfl ?_
    rw [show ((2 : Int32) + (1 : Int32)) = (3 : Int32) from by decide]
    refine Wk.baload X60 hx hZ rfl B60 (by decide) (by decide) rfl (hb hby at_142) rfl ?_
    refine Wk.bipush X60 hx (32 : Int32) (hb hby at_143) rfl rfl ?_
    refine Wk.icmp_ne X60 hx 152 148 (hb hby at_145) rfl rfl (show ((32 : Int32) : Int32).toInt = 32 from (by decide)) (show ((32 : Int32) : Int32).toInt = 32 from (by decide)) (fun h25 => absurd h25 (by omega)) (fun h25 => ?_)
    refine Wk.iconst X60 hx (1 : Int32) (hb hby at_148) rfl rfl ?_
    refine Wk.goto X60 hx 153 (hb hby at_149) rfl ?_
    refine Wk.istore (l' := #[.val (.int i0), .val (.long i1), .second, .val (.int i2), .val (.int (2 : Int32)), .val (.int s'), .val (.ref la), .val (.ref ha), .val (.int (1 : Int32)), .unset, .unset, .unset, .unset, .unset]) X60 hx (hb hby at_153) rfl rfl ?_
    refine Wk.aload X60 hx (hb hby at_155) rfl rfl rfl ?_
    refine Wk.iload X60 hx (hb hby at_157) rfl rfl ?_
    refine Wk.iconst X60 hx (2 : Int32) (hb hby at_159) rfl rfl ?_
    refine Wk.iadd X60 hx (hb hby at_160) rfl ?_
    rw [show ((2 : Int32) + (2 : Int32)) = (4 : Int32) from by decide]
    refine Wk.baload X60 hx hZ rfl B60 (by decide) (by decide) rfl (hb hby at_161) rfl ?_
    refine Wk.i2l X60 hx (hb hby at_162) rfl ?_
    refine Wk.ldcJ X60 hx hZ hown (hw _ (List.mem_of_getElem? (i := 54) rfl)) (hb hby at_163) rfl ?_
    refine Wk.land X60 hx (hb hby at_166) rfl ?_
    have m0 : (w0.toInt64 &&& (255 : Int64)).toInt = w0.toInt % 256 := by rw [c_maskL _ (255 : Int64) 8 (by decide) (by decide), Int32.toInt_toInt64]; rfl
    generalize w0.toInt64 &&& (255 : Int64) = g0 at m0 ⊢
    refine Wk.aload X60 hx (hb hby at_167) rfl rfl rfl ?_
    refine Wk.iload X60 hx (hb hby at_169) rfl rfl ?_
    refine Wk.iconst X60 hx (3 : Int32) (hb hby at_171) rfl rfl ?_
    refine Wk.iadd X60 hx (hb hby at_172) rfl ?_
    rw [show ((2 : Int32) + (3 : Int32)) = (5 : Int32) from by decide]
    refine Wk.baload X60 hx hZ rfl B60 (by decide) (by decide) rfl (hb hby at_173) rfl ?_
    refine Wk.i2l X60 hx (hb hby at_174) rfl ?_
    refine Wk.ldcJ X60 hx hZ hown (hw _ (List.mem_of_getElem? (i := 54) rfl)) (hb hby at_175) rfl ?_
    refine Wk.land X60 hx (hb hby at_178) rfl ?_
    have m1 : (w1.toInt64 &&& (255 : Int64)).toInt = w1.toInt % 256 := by rw [c_maskL _ (255 : Int64) 8 (by decide) (by decide), Int32.toInt_toInt64]; rfl
    generalize w1.toInt64 &&& (255 : Int64) = g1 at m1 ⊢
    refine Wk.bipush X60 hx (8 : Int32) (hb hby at_179) rfl rfl ?_
    refine Wk.lshl X60 hx (hb hby at_181) rfl ?_
    have s1 : ((g1 <<< ((8 : Int32).toInt64 &&& 63)).toInt - g1.toInt * 256) % 18446744073709551616 = 0 := by have := c_lshl g1 (8 : Int32) 8 (by decide); rw [show ((8 : Int32) &&& 0x3f).toInt64 = (8 : Int32).toInt64 &&& 63 from by decide] at this; exact this
    generalize g1 <<< ((8 : Int32).toInt64 &&& 63) = z1 at s1 ⊢
    refine Wk.lor X60 hx (hb hby at_182) rfl ?_
    have o1 : ((g0 ||| z1).toInt - (z1.toInt + g0.toInt)) % 18446744073709551616 = 0 := c_orL' g0 z1 8 (by decide) 256 (by decide) (by omega) (by omega) (by omega)
    have rg1 := (g0 ||| z1).toInt_lt; have rh1 := (g0 ||| z1).le_toInt
    generalize g0 ||| z1 = r1 at o1 rg1 rh1 ⊢
    have a1 : r1.toInt = g0.toInt * 1 + g1.toInt * 256 := by omega
    clear o1 s1 rg1 rh1
    refine Wk.aload X60 hx (hb hby at_183) rfl rfl rfl ?_
    refine Wk.iload X60 hx (hb hby at_185) rfl rfl ?_
    refine Wk.iconst X60 hx (4 : Int32) (hb hby at_187) rfl rfl ?_
    refine Wk.iadd X60 hx (hb hby at_188) rfl ?_
    rw [show ((2 : Int32) + (4 : Int32)) = (6 : Int32) from by decide]
    refine Wk.baload X60 hx hZ rfl B60 (by decide) (by decide) rfl (hb hby at_189) rfl ?_
    refine Wk.i2l X60 hx (hb hby at_190) rfl ?_
    refine Wk.ldcJ X60 hx hZ hown (hw _ (List.mem_of_getElem? (i := 54) rfl)) (hb hby at_191) rfl ?_
    refine Wk.land X60 hx (hb hby at_194) rfl ?_
    have m2 : (w2.toInt64 &&& (255 : Int64)).toInt = w2.toInt % 256 := by rw [c_maskL _ (255 : Int64) 8 (by decide) (by decide), Int32.toInt_toInt64]; rfl
    generalize w2.toInt64 &&& (255 : Int64) = g2 at m2 ⊢
    refine Wk.bipush X60 hx (16 : Int32) (hb hby at_195) rfl rfl ?_
    refine Wk.lshl X60 hx (hb hby at_197) rfl ?_
    have s2 : ((g2 <<< ((16 : Int32).toInt64 &&& 63)).toInt - g2.toInt * 65536) % 18446744073709551616 = 0 := by have := c_lshl g2 (16 : Int32) 16 (by decide); rw [show ((16 : Int32) &&& 0x3f).toInt64 = (16 : Int32).toInt64 &&& 63 from by decide] at this; exact this
    generalize g2 <<< ((16 : Int32).toInt64 &&& 63) = z2 at s2 ⊢
    refine Wk.lor X60 hx (hb hby at_198) rfl ?_
    have o2 : ((r1 ||| z2).toInt - (z2.toInt + r1.toInt)) % 18446744073709551616 = 0 := c_orL' r1 z2 16 (by decide) 65536 (by decide) (by omega) (by omega) (by omega)
    have rg2 := (r1 ||| z2).toInt_lt; have rh2 := (r1 ||| z2).le_toInt
    generalize r1 ||| z2 = r2 at o2 rg2 rh2 ⊢
    have a2 : r2.toInt = g0.toInt * 1 + g1.toInt * 256 + g2.toInt * 65536 := by omega
    clear o2 s2 rg2 rh2
    refine Wk.aload X60 hx (hb hby at_199) rfl rfl rfl ?_
    refine Wk.iload X60 hx (hb hby at_201) rfl rfl ?_
    refine Wk.iconst X60 hx (5 : Int32) (hb hby at_203) rfl rfl ?_
    refine Wk.iadd X60 hx (hb hby at_204) rfl ?_
    rw [show ((2 : Int32) + (5 : Int32)) = (7 : Int32) from by decide]
    refine Wk.baload X60 hx hZ rfl B60 (by decide) (by decide) rfl (hb hby at_205) rfl ?_
    refine Wk.i2l X60 hx (hb hby at_206) rfl ?_
    refine Wk.ldcJ X60 hx hZ hown (hw _ (List.mem_of_getElem? (i := 54) rfl)) (hb hby at_207) rfl ?_
    refine Wk.land X60 hx (hb hby at_210) rfl ?_
    have m3 : (w3.toInt64 &&& (255 : Int64)).toInt = w3.toInt % 256 := by rw [c_maskL _ (255 : Int64) 8 (by decide) (by decide), Int32.toInt_toInt64]; rfl
    generalize w3.toInt64 &&& (255 : Int64) = g3 at m3 ⊢
    refine Wk.bipush X60 hx (24 : Int32) (hb hby at_211) rfl rfl ?_
    refine Wk.lshl X60 hx (hb hby at_213) rfl ?_
    have s3 : ((g3 <<< ((24 : Int32).toInt64 &&& 63)).toInt - g3.toInt * 16777216) % 18446744073709551616 = 0 := by have := c_lshl g3 (24 : Int32) 24 (by decide); rw [show ((24 : Int32) &&& 0x3f).toInt64 = (24 : Int32).toInt64 &&& 63 from by decide] at this; exact this
    generalize g3 <<< ((24 : Int32).toInt64 &&& 63) = z3 at s3 ⊢
    refine Wk.lor X60 hx (hb hby at_214) rfl ?_
    have o3 : ((r2 ||| z3).toInt - (z3.toInt + r2.toInt)) % 18446744073709551616 = 0 := c_orL' r2 z3 24 (by decide) 16777216 (by decide) (by omega) (by omega) (by omega)
    have rg3 := (r2 ||| z3).toInt_lt; have rh3 := (r2 ||| z3).le_toInt
    generalize r2 ||| z3 = r3 at o3 rg3 rh3 ⊢
    have a3 : r3.toInt = g0.toInt * 1 + g1.toInt * 256 + g2.toInt * 65536 + g3.toInt * 16777216 := by omega
    clear o3 s3 rg3 rh3
    refine Wk.aload X60 hx (hb hby at_215) rfl rfl rfl ?_
    refine Wk.iload X60 hx (hb hby at_217) rfl rfl ?_
    refine Wk.bipush X60 hx (6 : Int32) (hb hby at_219) rfl rfl ?_
    refine Wk.iadd X60 hx (hb hby at_221) rfl ?_
    rw [show ((2 : Int32) + (6 : Int32)) = (8 : Int32) from by decide]
    refine Wk.baload X60 hx hZ rfl B60 (by decide) (by decide) rfl (hb hby at_222) rfl ?_
    refine Wk.i2l X60 hx (hb hby at_223) rfl ?_
    refine Wk.ldcJ X60 hx hZ hown (hw _ (List.mem_of_getElem? (i := 54) rfl)) (hb hby at_224) rfl ?_
    refine Wk.land X60 hx (hb hby at_227) rfl ?_
    have m4 : (w4.toInt64 &&& (255 : Int64)).toInt = w4.toInt % 256 := by rw [c_maskL _ (255 : Int64) 8 (by decide) (by decide), Int32.toInt_toInt64]; rfl
    generalize w4.toInt64 &&& (255 : Int64) = g4 at m4 ⊢
    refine Wk.bipush X60 hx (32 : Int32) (hb hby at_228) rfl rfl ?_
    refine Wk.lshl X60 hx (hb hby at_230) rfl ?_
    have s4 : ((g4 <<< ((32 : Int32).toInt64 &&& 63)).toInt - g4.toInt * 4294967296) % 18446744073709551616 = 0 := by have := c_lshl g4 (32 : Int32) 32 (by decide); rw [show ((32 : Int32) &&& 0x3f).toInt64 = (32 : Int32).toInt64 &&& 63 from by decide] at this; exact this
    generalize g4 <<< ((32 : Int32).toInt64 &&& 63) = z4 at s4 ⊢
    refine Wk.lor X60 hx (hb hby at_231) rfl ?_
    have o4 : ((r3 ||| z4).toInt - (z4.toInt + r3.toInt)) % 18446744073709551616 = 0 := c_orL' r3 z4 32 (by decide) 4294967296 (by decide) (by omega) (by omega) (by omega)
    have rg4 := (r3 ||| z4).toInt_lt; have rh4 := (r3 ||| z4).le_toInt
    generalize r3 ||| z4 = r4 at o4 rg4 rh4 ⊢
    have a4 : r4.toInt = g0.toInt * 1 + g1.toInt * 256 + g2.toInt * 65536 + g3.toInt * 16777216 + g4.toInt * 4294967296 := by omega
    clear o4 s4 rg4 rh4
    refine Wk.aload X60 hx (hb hby at_232) rfl rfl rfl ?_
    refine Wk.iload X60 hx (hb hby at_234) rfl rfl ?_
    refine Wk.bipush X60 hx (7 : Int32) (hb hby at_236) rfl rfl ?_
    refine Wk.iadd X60 hx (hb hby at_238) rfl ?_
    rw [show ((2 : Int32) + (7 : Int32)) = (9 : Int32) from by decide]
    refine Wk.baload X60 hx hZ rfl B60 (by decide) (by decide) rfl (hb hby at_239) rfl ?_
    refine Wk.i2l X60 hx (hb hby at_240) rfl ?_
    refine Wk.ldcJ X60 hx hZ hown (hw _ (List.mem_of_getElem? (i := 54) rfl)) (hb hby at_241) rfl ?_
    refine Wk.land X60 hx (hb hby at_244) rfl ?_
    have m5 : (w5.toInt64 &&& (255 : Int64)).toInt = w5.toInt % 256 := by rw [c_maskL _ (255 : Int64) 8 (by decide) (by decide), Int32.toInt_toInt64]; rfl
    generalize w5.toInt64 &&& (255 : Int64) = g5 at m5 ⊢
    refine Wk.bipush X60 hx (40 : Int32) (hb hby at_245) rfl rfl ?_
    refine Wk.lshl X60 hx (hb hby at_247) rfl ?_
    have s5 : ((g5 <<< ((40 : Int32).toInt64 &&& 63)).toInt - g5.toInt * 1099511627776) % 18446744073709551616 = 0 := by have := c_lshl g5 (40 : Int32) 40 (by decide); rw [show ((40 : Int32) &&& 0x3f).toInt64 = (40 : Int32).toInt64 &&& 63 from by decide] at this; exact this
    generalize g5 <<< ((40 : Int32).toInt64 &&& 63) = z5 at s5 ⊢
    refine Wk.lor X60 hx (hb hby at_248) rfl ?_
    have o5 : ((r4 ||| z5).toInt - (z5.toInt + r4.toInt)) % 18446744073709551616 = 0 := c_orL' r4 z5 40 (by decide) 1099511627776 (by decide) (by omega) (by omega) (by omega)
    have rg5 := (r4 ||| z5).toInt_lt; have rh5 := (r4 ||| z5).le_toInt
    generalize r4 ||| z5 = r5 at o5 rg5 rh5 ⊢
    have a5 : r5.toInt = g0.toInt * 1 + g1.toInt * 256 + g2.toInt * 65536 + g3.toInt * 16777216 + g4.toInt * 4294967296 + g5.toInt * 1099511627776 := by omega
    clear o5 s5 rg5 rh5
    refine Wk.aload X60 hx (hb hby at_249) rfl rfl rfl ?_
    refine Wk.iload X60 hx (hb hby at_251) rfl rfl ?_
    refine Wk.bipush X60 hx (8 : Int32) (hb hby at_253) rfl rfl ?_
    refine Wk.iadd X60 hx (hb hby at_255) rfl ?_
    rw [show ((2 : Int32) + (8 : Int32)) = (10 : Int32) from by decide]
    refine Wk.baload X60 hx hZ rfl B60 (by decide) (by decide) rfl (hb hby at_256) rfl ?_
    refine Wk.i2l X60 hx (hb hby at_257) rfl ?_
    refine Wk.ldcJ X60 hx hZ hown (hw _ (List.mem_of_getElem? (i := 54) rfl)) (hb hby at_258) rfl ?_
    refine Wk.land X60 hx (hb hby at_261) rfl ?_
    have m6 : (w6.toInt64 &&& (255 : Int64)).toInt = w6.toInt % 256 := by rw [c_maskL _ (255 : Int64) 8 (by decide) (by decide), Int32.toInt_toInt64]; rfl
    generalize w6.toInt64 &&& (255 : Int64) = g6 at m6 ⊢
    refine Wk.bipush X60 hx (48 : Int32) (hb hby at_262) rfl rfl ?_
    refine Wk.lshl X60 hx (hb hby at_264) rfl ?_
    have s6 : ((g6 <<< ((48 : Int32).toInt64 &&& 63)).toInt - g6.toInt * 281474976710656) % 18446744073709551616 = 0 := by have := c_lshl g6 (48 : Int32) 48 (by decide); rw [show ((48 : Int32) &&& 0x3f).toInt64 = (48 : Int32).toInt64 &&& 63 from by decide] at this; exact this
    generalize g6 <<< ((48 : Int32).toInt64 &&& 63) = z6 at s6 ⊢
    refine Wk.lor X60 hx (hb hby at_265) rfl ?_
    have o6 : ((r5 ||| z6).toInt - (z6.toInt + r5.toInt)) % 18446744073709551616 = 0 := c_orL' r5 z6 48 (by decide) 281474976710656 (by decide) (by omega) (by omega) (by omega)
    have rg6 := (r5 ||| z6).toInt_lt; have rh6 := (r5 ||| z6).le_toInt
    generalize r5 ||| z6 = r6 at o6 rg6 rh6 ⊢
    have a6 : r6.toInt = g0.toInt * 1 + g1.toInt * 256 + g2.toInt * 65536 + g3.toInt * 16777216 + g4.toInt * 4294967296 + g5.toInt * 1099511627776 + g6.toInt * 281474976710656 := by omega
    clear o6 s6 rg6 rh6
    refine Wk.aload X60 hx (hb hby at_266) rfl rfl rfl ?_
    refine Wk.iload X60 hx (hb hby at_268) rfl rfl ?_
    refine Wk.bipush X60 hx (9 : Int32) (hb hby at_270) rfl rfl ?_
    refine Wk.iadd X60 hx (hb hby at_272) rfl ?_
    rw [show ((2 : Int32) + (9 : Int32)) = (11 : Int32) from by decide]
    refine Wk.baload X60 hx hZ rfl B60 (by decide) (by decide) rfl (hb hby at_273) rfl ?_
    refine Wk.i2l X60 hx (hb hby at_274) rfl ?_
    refine Wk.ldcJ X60 hx hZ hown (hw _ (List.mem_of_getElem? (i := 54) rfl)) (hb hby at_275) rfl ?_
    refine Wk.land X60 hx (hb hby at_278) rfl ?_
    have m7 : (w7.toInt64 &&& (255 : Int64)).toInt = w7.toInt % 256 := by rw [c_maskL _ (255 : Int64) 8 (by decide) (by decide), Int32.toInt_toInt64]; rfl
    generalize w7.toInt64 &&& (255 : Int64) = g7 at m7 ⊢
    refine Wk.bipush X60 hx (56 : Int32) (hb hby at_279) rfl rfl ?_
    refine Wk.lshl X60 hx (hb hby at_281) rfl ?_
    have s7 : ((g7 <<< ((56 : Int32).toInt64 &&& 63)).toInt - g7.toInt * 72057594037927936) % 18446744073709551616 = 0 := by have := c_lshl g7 (56 : Int32) 56 (by decide); rw [show ((56 : Int32) &&& 0x3f).toInt64 = (56 : Int32).toInt64 &&& 63 from by decide] at this; exact this
    generalize g7 <<< ((56 : Int32).toInt64 &&& 63) = z7 at s7 ⊢
    refine Wk.lor X60 hx (hb hby at_282) rfl ?_
    have o7 : ((r6 ||| z7).toInt - (z7.toInt + r6.toInt)) % 18446744073709551616 = 0 := c_orL' r6 z7 56 (by decide) 72057594037927936 (by decide) (by omega) (by omega) (by omega)
    have rg7 := (r6 ||| z7).toInt_lt; have rh7 := (r6 ||| z7).le_toInt
    generalize r6 ||| z7 = r7 at o7 rg7 rh7 ⊢
    refine Wk.lstore (l' := #[.val (.int i0), .val (.long i1), .second, .val (.int i2), .val (.int (2 : Int32)), .val (.int s'), .val (.ref la), .val (.ref ha), .val (.int (1 : Int32)), .val (.long r7), .second, .unset, .unset, .unset]) X60 hx (hb hby at_283) rfl rfl ?_
    refine Wk.lload X60 hx (hb hby at_285) rfl rfl ?_
    refine Wk.lloadN X60 hx (hb hby at_287) rfl rfl ?_
    refine Wk.ldcJ X60 hx hZ hown (hw _ (List.mem_of_getElem? (i := 55) rfl)) (hb hby at_288) rfl ?_
    refine Wk.lmul X60 hx (hb hby at_291) rfl ?_
    have ml := c_lmul i1 (8 : Int64)
    rw [show (8 : Int64).toInt = 8 from by decide] at ml
    have mg := (i1 * (8 : Int64)).toInt_lt; have mh := (i1 * (8 : Int64)).le_toInt
    generalize i1 * (8 : Int64) = ln at ml mg mh ⊢
    have sb := sumB ((i1.toInt * 8) % 18446744073709551616) (by omega) (by omega)
    have eqr : r7.toInt = ln.toInt := by
      rw [f0] at m0; rw [f1] at m1; rw [f2] at m2; rw [f3] at m3; rw [f4] at m4; rw [f5] at m5; rw [f6] at m6; rw [f7] at m7
      clear f0 f1 f2 f3 f4 f5 f6 f7
      rw [← m0, ← m1, ← m2, ← m3, ← m4, ← m5, ← m6, ← m7] at sb
      clear m0 m1 m2 m3 m4 m5 m6 m7
      omega
    refine Wk.lcmp X60 hx (hb hby at_292) rfl ?_
    refine Wk.lif_ne X60 hx 300 296 (hb hby at_293) rfl rfl (show (r7 : Int64).toInt = (r7).toInt from rfl) (show (ln : Int64).toInt = (ln).toInt from rfl) (fun h26 => absurd h26 (by omega)) (fun h26 => ?_)
    refine Wk.iconst X60 hx (1 : Int32) (hb hby at_296) rfl rfl ?_
    refine Wk.goto X60 hx 301 (hb hby at_297) rfl ?_
    refine Wk.istore (l' := #[.val (.int i0), .val (.long i1), .second, .val (.int i2), .val (.int (2 : Int32)), .val (.int s'), .val (.ref la), .val (.ref ha), .val (.int (1 : Int32)), .val (.long r7), .second, .val (.int (1 : Int32)), .unset, .unset]) X60 hx (hb hby at_301) rfl rfl ?_
    refine Wk.iload X60 hx (hb hby at_303) rfl rfl ?_
    refine Wk.if_eq X60 hx 320 308 (hb hby at_305) rfl rfl (show ((2 : Int32) : Int32).toInt = 2 from (by decide)) (fun h27 => absurd h27 (by omega)) (fun h27 => ?_)
    refine Wk.aload X60 hx (hb hby at_308) rfl rfl rfl ?_
    refine Wk.iload X60 hx (hb hby at_310) rfl rfl ?_
    refine Wk.iconst X60 hx (1 : Int32) (hb hby at_312) rfl rfl ?_
    refine Wk.isub X60 hx (hb hby at_313) rfl ?_
    rw [show ((2 : Int32) - (1 : Int32)) = (1 : Int32) from by decide]
    refine Wk.baload X60 hx hZ rfl B60 (by decide) (by decide) rfl (hb hby at_314) rfl ?_
    refine Wk.iload X60 hx (hb hby at_315) rfl rfl ?_
    refine Wk.icmp_ne X60 hx 324 320 (hb hby at_317) rfl rfl (show (s' : Int32).toInt = (s').toInt from rfl) (show (s' : Int32).toInt = (s').toInt from rfl) (fun h28 => absurd h28 (by omega)) (fun h28 => ?_)
    refine Wk.iconst X60 hx (1 : Int32) (hb hby at_320) rfl rfl ?_
    refine Wk.goto X60 hx 325 (hb hby at_321) rfl ?_
    refine Wk.istore (l' := #[.val (.int i0), .val (.long i1), .second, .val (.int i2), .val (.int (2 : Int32)), .val (.int s'), .val (.ref la), .val (.ref ha), .val (.int (1 : Int32)), .val (.long r7), .second, .val (.int (1 : Int32)), .val (.int (1 : Int32)), .unset]) X60 hx (hb hby at_325) rfl rfl ?_
    refine Wk.aload X60 hx (hb hby at_327) rfl rfl rfl ?_
    refine Wk.iload X60 hx (hb hby at_329) rfl rfl ?_
    refine Wk.bipush X60 hx (10 : Int32) (hb hby at_331) rfl rfl ?_
    refine Wk.iadd X60 hx (hb hby at_333) rfl ?_
    rw [show ((2 : Int32) + (10 : Int32)) = (12 : Int32) from by decide]
    refine Wk.baload X60 hx hZ rfl B60 (by decide) (by decide) rfl (hb hby at_334) rfl ?_
    refine Wk.iload X60 hx (hb hby at_335) rfl rfl ?_
    refine Wk.icmp_ne X60 hx 367 340 (hb hby at_337) rfl rfl (show (s' : Int32).toInt = (s').toInt from rfl) (show (s' : Int32).toInt = (s').toInt from rfl) (fun h29 => absurd h29 (by omega)) (fun h29 => ?_)
    refine Wk.iload X60 hx (hb hby at_340) rfl rfl ?_
    refine Wk.bipush X60 hx (11 : Int32) (hb hby at_342) rfl rfl ?_
    refine Wk.iadd X60 hx (hb hby at_344) rfl ?_
    rw [show ((2 : Int32) + (11 : Int32)) = (13 : Int32) from by decide]
    refine Wk.bipush X60 hx (13 : Int32) (hb hby at_345) rfl rfl ?_
    refine Wk.icmp_gt X60 hx 363 350 (hb hby at_347) rfl rfl (show ((13 : Int32) : Int32).toInt = 13 from (by decide)) (show ((13 : Int32) : Int32).toInt = 13 from (by decide)) (fun h30 => absurd h30 (by omega)) (fun h30 => ?_)
    refine Wk.aload X60 hx (hb hby at_350) rfl rfl rfl ?_
    refine Wk.iload X60 hx (hb hby at_352) rfl rfl ?_
    refine Wk.bipush X60 hx (11 : Int32) (hb hby at_354) rfl rfl ?_
    refine Wk.iadd X60 hx (hb hby at_356) rfl ?_
    rw [show ((2 : Int32) + (11 : Int32)) = (13 : Int32) from by decide]
    refine Wk.baload X60 hx hZ rfl B60 (by decide) (by decide) rfl (hb hby at_357) rfl ?_
    refine Wk.iload X60 hx (hb hby at_358) rfl rfl ?_
    refine Wk.icmp_ne X60 hx 367 363 (hb hby at_360) rfl rfl (show (s' : Int32).toInt = (s').toInt from rfl) (show (s' : Int32).toInt = (s').toInt from rfl) (fun h31 => absurd h31 (by omega)) (fun h31 => ?_)
    refine Wk.iconst X60 hx (1 : Int32) (hb hby at_363) rfl rfl ?_
    refine Wk.goto X60 hx 368 (hb hby at_364) rfl ?_
    refine Wk.istore (l' := #[.val (.int i0), .val (.long i1), .second, .val (.int i2), .val (.int (2 : Int32)), .val (.int s'), .val (.ref la), .val (.ref ha), .val (.int (1 : Int32)), .val (.long r7), .second, .val (.int (1 : Int32)), .val (.int (1 : Int32)), .val (.int (1 : Int32))]) X60 hx (hb hby at_368) rfl rfl ?_
    refine Wk.iload X60 hx (hb hby at_370) rfl rfl ?_
    refine Wk.if_eq X60 hx 394 375 (hb hby at_372) rfl rfl (show ((1 : Int32) : Int32).toInt = 1 from (by decide)) (fun h32 => absurd h32 (by omega)) (fun h32 => ?_)
    refine Wk.iload X60 hx (hb hby at_375) rfl rfl ?_
    refine Wk.if_eq X60 hx 394 380 (hb hby at_377) rfl rfl (show ((1 : Int32) : Int32).toInt = 1 from (by decide)) (fun h33 => absurd h33 (by omega)) (fun h33 => ?_)
    refine Wk.iload X60 hx (hb hby at_380) rfl rfl ?_
    refine Wk.if_eq X60 hx 394 385 (hb hby at_382) rfl rfl (show ((1 : Int32) : Int32).toInt = 1 from (by decide)) (fun h34 => absurd h34 (by omega)) (fun h34 => ?_)
    refine Wk.iload X60 hx (hb hby at_385) rfl rfl ?_
    refine Wk.if_eq X60 hx 394 390 (hb hby at_387) rfl rfl (show ((1 : Int32) : Int32).toInt = 1 from (by decide)) (fun h35 => absurd h35 (by omega)) (fun h35 => ?_)
    refine Wk.iconst X60 hx (1 : Int32) (hb hby at_390) rfl rfl ?_
    refine Wk.goto X60 hx 395 (hb hby at_391) rfl ?_
    exact Wk.retZ X60 hx hlk hret (hb hby at_395) (by decide) (by decide) (by decide) ⟨rfl, (Fr.app N52 N60)⟩
  · rw [ho]
    refine Wk.aload X51 hx (hb hby at_116) rfl rfl rfl ?_
    refine Wk.aload X51 hx (hb hby at_118) rfl rfl rfl ?_
    refine Wk.iload X51 hx (hb hby at_120) rfl rfl ?_
    refine Wk.lloadN X51 hx (hb hby at_122) rfl rfl ?_
    refine Wk.callV (W := 0) X51 hx hZ (argsL := [(.ref la), (.int (3 : Int32)), (.long i1)]) (rest := []) hown (hw _ (List.mem_of_getElem? (i := 49) rfl)) (hw _ (List.mem_of_getElem? (i := 50) rfl)) (hw _ (List.mem_of_getElem? (i := 52) rfl)) (hw _ (List.mem_of_getElem? (i := 51) rfl)) (hw _ (List.mem_of_getElem? (i := 3) rfl)) (hw _ (List.mem_of_getElem? (i := 53) rfl)) (notFace_of_selects (args := #[]) (mvT hZ (hw _ (List.mem_of_getElem? (i := 52) rfl)))) (by decide) (mwt3 l Z a0 hw ha la kb s' i1 n0 hla T51.heap B51) rfl E51 (by decide) (by decide) (by decide) (by decide) (by rw [hml]; rfl) (lenOf pd6 rfl) rfl (Nat.le_of_eq rfl) (hb hby at_123) rfl (fun T60 v60 L60 X60 hq60 => ?_)
    obtain ⟨rfl, N60, K60, w0, w1, w2, w3, w4, w5, w6, w7, Aw, f0, f1, f2, f3, f4, f5, f6, f7⟩ := hq60
    have B60 : Arv Z T60.heap la kb .byte 14 [.int s', .int s', .int s', .int 25, .int 32, .int w0, .int w1, .int w2, .int w3, .int w4, .int w5, .int w6, .int w7, .int s'] (.int 0) := Aw
    show Wk.Go p e below s _ _ _ T60 (mkF m 126 #[.val (.int i0), .val (.long i1), .second, .val (.int i2), .val (.int (3 : Int32)), .val (.int s'), .val (.ref la), .val (.ref ha), .unset, .unset, .unset, .unset, .unset, .unset] [])
    refine Wk.aload X60 hx (hb hby at_126) rfl rfl rfl ?_
    refine Wk.iload X60 hx (hb hby at_128) rfl rfl ?_
    refine Wk.baload X60 hx hZ rfl B60 (by decide) (by decide) rfl (hb hby at_130) rfl ?_
    refine Wk.bipush X60 hx (25 : Int32) (hb hby at_131) rfl rfl ?_
    refine Wk.icmp_ne X60 hx 152 136 (hb hby at_133) rfl rfl (show ((25 : Int32) : Int32).toInt = 25 from (by decide)) (show ((25 : Int32) : Int32).toInt = 25 from (by decide)) (fun h36 => absurd h36 (by omega)) (fun h36 => ?_)
    refine Wk.aload X60 hx (hb hby at_136) rfl rfl rfl ?_
    refine Wk.iload X60 hx (hb hby at_138) rfl rfl ?_
    refine Wk.iconst X60 hx (1 : Int32) (hb hby at_140) rfl rfl ?_
    refine Wk.iadd X60 hx (hb hby at_141) rfl ?_
    rw [show ((3 : Int32) + (1 : Int32)) = (4 : Int32) from by decide]
    refine Wk.baload X60 hx hZ rfl B60 (by decide) (by decide) rfl (hb hby at_142) rfl ?_
    refine Wk.bipush X60 hx (32 : Int32) (hb hby at_143) rfl rfl ?_
    refine Wk.icmp_ne X60 hx 152 148 (hb hby at_145) rfl rfl (show ((32 : Int32) : Int32).toInt = 32 from (by decide)) (show ((32 : Int32) : Int32).toInt = 32 from (by decide)) (fun h37 => absurd h37 (by omega)) (fun h37 => ?_)
    refine Wk.iconst X60 hx (1 : Int32) (hb hby at_148) rfl rfl ?_
    refine Wk.goto X60 hx 153 (hb hby at_149) rfl ?_
    refine Wk.istore (l' := #[.val (.int i0), .val (.long i1), .second, .val (.int i2), .val (.int (3 : Int32)), .val (.int s'), .val (.ref la), .val (.ref ha), .val (.int (1 : Int32)), .unset, .unset, .unset, .unset, .unset]) X60 hx (hb hby at_153) rfl rfl ?_
    refine Wk.aload X60 hx (hb hby at_155) rfl rfl rfl ?_
    refine Wk.iload X60 hx (hb hby at_157) rfl rfl ?_
    refine Wk.iconst X60 hx (2 : Int32) (hb hby at_159) rfl rfl ?_
    refine Wk.iadd X60 hx (hb hby at_160) rfl ?_
    rw [show ((3 : Int32) + (2 : Int32)) = (5 : Int32) from by decide]
    refine Wk.baload X60 hx hZ rfl B60 (by decide) (by decide) rfl (hb hby at_161) rfl ?_
    refine Wk.i2l X60 hx (hb hby at_162) rfl ?_
    refine Wk.ldcJ X60 hx hZ hown (hw _ (List.mem_of_getElem? (i := 54) rfl)) (hb hby at_163) rfl ?_
    refine Wk.land X60 hx (hb hby at_166) rfl ?_
    have m0 : (w0.toInt64 &&& (255 : Int64)).toInt = w0.toInt % 256 := by rw [c_maskL _ (255 : Int64) 8 (by decide) (by decide), Int32.toInt_toInt64]; rfl
    generalize w0.toInt64 &&& (255 : Int64) = g0 at m0 ⊢
    refine Wk.aload X60 hx (hb hby at_167) rfl rfl rfl ?_
    refine Wk.iload X60 hx (hb hby at_169) rfl rfl ?_
    refine Wk.iconst X60 hx (3 : Int32) (hb hby at_171) rfl rfl ?_
    refine Wk.iadd X60 hx (hb hby at_172) rfl ?_
    rw [show ((3 : Int32) + (3 : Int32)) = (6 : Int32) from by decide]
    refine Wk.baload X60 hx hZ rfl B60 (by decide) (by decide) rfl (hb hby at_173) rfl ?_
    refine Wk.i2l X60 hx (hb hby at_174) rfl ?_
    refine Wk.ldcJ X60 hx hZ hown (hw _ (List.mem_of_getElem? (i := 54) rfl)) (hb hby at_175) rfl ?_
    refine Wk.land X60 hx (hb hby at_178) rfl ?_
    have m1 : (w1.toInt64 &&& (255 : Int64)).toInt = w1.toInt % 256 := by rw [c_maskL _ (255 : Int64) 8 (by decide) (by decide), Int32.toInt_toInt64]; rfl
    generalize w1.toInt64 &&& (255 : Int64) = g1 at m1 ⊢
    refine Wk.bipush X60 hx (8 : Int32) (hb hby at_179) rfl rfl ?_
    refine Wk.lshl X60 hx (hb hby at_181) rfl ?_
    have s1 : ((g1 <<< ((8 : Int32).toInt64 &&& 63)).toInt - g1.toInt * 256) % 18446744073709551616 = 0 := by have := c_lshl g1 (8 : Int32) 8 (by decide); rw [show ((8 : Int32) &&& 0x3f).toInt64 = (8 : Int32).toInt64 &&& 63 from by decide] at this; exact this
    generalize g1 <<< ((8 : Int32).toInt64 &&& 63) = z1 at s1 ⊢
    refine Wk.lor X60 hx (hb hby at_182) rfl ?_
    have o1 : ((g0 ||| z1).toInt - (z1.toInt + g0.toInt)) % 18446744073709551616 = 0 := c_orL' g0 z1 8 (by decide) 256 (by decide) (by omega) (by omega) (by omega)
    have rg1 := (g0 ||| z1).toInt_lt; have rh1 := (g0 ||| z1).le_toInt
    generalize g0 ||| z1 = r1 at o1 rg1 rh1 ⊢
    have a1 : r1.toInt = g0.toInt * 1 + g1.toInt * 256 := by omega
    clear o1 s1 rg1 rh1
    refine Wk.aload X60 hx (hb hby at_183) rfl rfl rfl ?_
    refine Wk.iload X60 hx (hb hby at_185) rfl rfl ?_
    refine Wk.iconst X60 hx (4 : Int32) (hb hby at_187) rfl rfl ?_
    refine Wk.iadd X60 hx (hb hby at_188) rfl ?_
    rw [show ((3 : Int32) + (4 : Int32)) = (7 : Int32) from by decide]
    refine Wk.baload X60 hx hZ rfl B60 (by decide) (by decide) rfl (hb hby at_189) rfl ?_
    refine Wk.i2l X60 hx (hb hby at_190) rfl ?_
    refine Wk.ldcJ X60 hx hZ hown (hw _ (List.mem_of_getElem? (i := 54) rfl)) (hb hby at_191) rfl ?_
    refine Wk.land X60 hx (hb hby at_194) rfl ?_
    have m2 : (w2.toInt64 &&& (255 : Int64)).toInt = w2.toInt % 256 := by rw [c_maskL _ (255 : Int64) 8 (by decide) (by decide), Int32.toInt_toInt64]; rfl
    generalize w2.toInt64 &&& (255 : Int64) = g2 at m2 ⊢
    refine Wk.bipush X60 hx (16 : Int32) (hb hby at_195) rfl rfl ?_
    refine Wk.lshl X60 hx (hb hby at_197) rfl ?_
    have s2 : ((g2 <<< ((16 : Int32).toInt64 &&& 63)).toInt - g2.toInt * 65536) % 18446744073709551616 = 0 := by have := c_lshl g2 (16 : Int32) 16 (by decide); rw [show ((16 : Int32) &&& 0x3f).toInt64 = (16 : Int32).toInt64 &&& 63 from by decide] at this; exact this
    generalize g2 <<< ((16 : Int32).toInt64 &&& 63) = z2 at s2 ⊢
    refine Wk.lor X60 hx (hb hby at_198) rfl ?_
    have o2 : ((r1 ||| z2).toInt - (z2.toInt + r1.toInt)) % 18446744073709551616 = 0 := c_orL' r1 z2 16 (by decide) 65536 (by decide) (by omega) (by omega) (by omega)
    have rg2 := (r1 ||| z2).toInt_lt; have rh2 := (r1 ||| z2).le_toInt
    generalize r1 ||| z2 = r2 at o2 rg2 rh2 ⊢
    have a2 : r2.toInt = g0.toInt * 1 + g1.toInt * 256 + g2.toInt * 65536 := by omega
    clear o2 s2 rg2 rh2
    refine Wk.aload X60 hx (hb hby at_199) rfl rfl rfl ?_
    refine Wk.iload X60 hx (hb hby at_201) rfl rfl ?_
    refine Wk.iconst X60 hx (5 : Int32) (hb hby at_203) rfl rfl ?_
    refine Wk.iadd X60 hx (hb hby at_204) rfl ?_
    rw [show ((3 : Int32) + (5 : Int32)) = (8 : Int32) from by decide]
    refine Wk.baload X60 hx hZ rfl B60 (by decide) (by decide) rfl (hb hby at_205) rfl ?_
    refine Wk.i2l X60 hx (hb hby at_206) rfl ?_
    refine Wk.ldcJ X60 hx hZ hown (hw _ (List.mem_of_getElem? (i := 54) rfl)) (hb hby at_207) rfl ?_
    refine Wk.land X60 hx (hb hby at_210) rfl ?_
    have m3 : (w3.toInt64 &&& (255 : Int64)).toInt = w3.toInt % 256 := by rw [c_maskL _ (255 : Int64) 8 (by decide) (by decide), Int32.toInt_toInt64]; rfl
    generalize w3.toInt64 &&& (255 : Int64) = g3 at m3 ⊢
    refine Wk.bipush X60 hx (24 : Int32) (hb hby at_211) rfl rfl ?_
    refine Wk.lshl X60 hx (hb hby at_213) rfl ?_
    have s3 : ((g3 <<< ((24 : Int32).toInt64 &&& 63)).toInt - g3.toInt * 16777216) % 18446744073709551616 = 0 := by have := c_lshl g3 (24 : Int32) 24 (by decide); rw [show ((24 : Int32) &&& 0x3f).toInt64 = (24 : Int32).toInt64 &&& 63 from by decide] at this; exact this
    generalize g3 <<< ((24 : Int32).toInt64 &&& 63) = z3 at s3 ⊢
    refine Wk.lor X60 hx (hb hby at_214) rfl ?_
    have o3 : ((r2 ||| z3).toInt - (z3.toInt + r2.toInt)) % 18446744073709551616 = 0 := c_orL' r2 z3 24 (by decide) 16777216 (by decide) (by omega) (by omega) (by omega)
    have rg3 := (r2 ||| z3).toInt_lt; have rh3 := (r2 ||| z3).le_toInt
    generalize r2 ||| z3 = r3 at o3 rg3 rh3 ⊢
    have a3 : r3.toInt = g0.toInt * 1 + g1.toInt * 256 + g2.toInt * 65536 + g3.toInt * 16777216 := by omega
    clear o3 s3 rg3 rh3
    refine Wk.aload X60 hx (hb hby at_215) rfl rfl rfl ?_
    refine Wk.iload X60 hx (hb hby at_217) rfl rfl ?_
    refine Wk.bipush X60 hx (6 : Int32) (hb hby at_219) rfl rfl ?_
    refine Wk.iadd X60 hx (hb hby at_221) rfl ?_
    rw [show ((3 : Int32) + (6 : Int32)) = (9 : Int32) from by decide]
    refine Wk.baload X60 hx hZ rfl B60 (by decide) (by decide) rfl (hb hby at_222) rfl ?_
    refine Wk.i2l X60 hx (hb hby at_223) rfl ?_
    refine Wk.ldcJ X60 hx hZ hown (hw _ (List.mem_of_getElem? (i := 54) rfl)) (hb hby at_224) rfl ?_
    refine Wk.land X60 hx (hb hby at_227) rfl ?_
    have m4 : (w4.toInt64 &&& (255 : Int64)).toInt = w4.toInt % 256 := by rw [c_maskL _ (255 : Int64) 8 (by decide) (by decide), Int32.toInt_toInt64]; rfl
    generalize w4.toInt64 &&& (255 : Int64) = g4 at m4 ⊢
    refine Wk.bipush X60 hx (32 : Int32) (hb hby at_228) rfl rfl ?_
    refine Wk.lshl X60 hx (hb hby at_230) rfl ?_
    have s4 : ((g4 <<< ((32 : Int32).toInt64 &&& 63)).toInt - g4.toInt * 4294967296) % 18446744073709551616 = 0 := by have := c_lshl g4 (32 : Int32) 32 (by decide); rw [show ((32 : Int32) &&& 0x3f).toInt64 = (32 : Int32).toInt64 &&& 63 from by decide] at this; exact this
    generalize g4 <<< ((32 : Int32).toInt64 &&& 63) = z4 at s4 ⊢
    refine Wk.lor X60 hx (hb hby at_231) rfl ?_
    have o4 : ((r3 ||| z4).toInt - (z4.toInt + r3.toInt)) % 18446744073709551616 = 0 := c_orL' r3 z4 32 (by decide) 4294967296 (by decide) (by omega) (by omega) (by omega)
    have rg4 := (r3 ||| z4).toInt_lt; have rh4 := (r3 ||| z4).le_toInt
    generalize r3 ||| z4 = r4 at o4 rg4 rh4 ⊢
    have a4 : r4.toInt = g0.toInt * 1 + g1.toInt * 256 + g2.toInt * 65536 + g3.toInt * 16777216 + g4.toInt * 4294967296 := by omega
    clear o4 s4 rg4 rh4
    refine Wk.aload X60 hx (hb hby at_232) rfl rfl rfl ?_
    refine Wk.iload X60 hx (hb hby at_234) rfl rfl ?_
    refine Wk.bipush X60 hx (7 : Int32) (hb hby at_236) rfl rfl ?_
    refine Wk.iadd X60 hx (hb hby at_238) rfl ?_
    rw [show ((3 : Int32) + (7 : Int32)) = (10 : Int32) from by decide]
    refine Wk.baload X60 hx hZ rfl B60 (by decide) (by decide) rfl (hb hby at_239) rfl ?_
    refine Wk.i2l X60 hx (hb hby at_240) rfl ?_
    refine Wk.ldcJ X60 hx hZ hown (hw _ (List.mem_of_getElem? (i := 54) rfl)) (hb hby at_241) rfl ?_
    refine Wk.land X60 hx (hb hby at_244) rfl ?_
    have m5 : (w5.toInt64 &&& (255 : Int64)).toInt = w5.toInt % 256 := by rw [c_maskL _ (255 : Int64) 8 (by decide) (by decide), Int32.toInt_toInt64]; rfl
    generalize w5.toInt64 &&& (255 : Int64) = g5 at m5 ⊢
    refine Wk.bipush X60 hx (40 : Int32) (hb hby at_245) rfl rfl ?_
    refine Wk.lshl X60 hx (hb hby at_247) rfl ?_
    have s5 : ((g5 <<< ((40 : Int32).toInt64 &&& 63)).toInt - g5.toInt * 1099511627776) % 18446744073709551616 = 0 := by have := c_lshl g5 (40 : Int32) 40 (by decide); rw [show ((40 : Int32) &&& 0x3f).toInt64 = (40 : Int32).toInt64 &&& 63 from by decide] at this; exact this
    generalize g5 <<< ((40 : Int32).toInt64 &&& 63) = z5 at s5 ⊢
    refine Wk.lor X60 hx (hb hby at_248) rfl ?_
    have o5 : ((r4 ||| z5).toInt - (z5.toInt + r4.toInt)) % 18446744073709551616 = 0 := c_orL' r4 z5 40 (by decide) 1099511627776 (by decide) (by omega) (by omega) (by omega)
    have rg5 := (r4 ||| z5).toInt_lt; have rh5 := (r4 ||| z5).le_toInt
    generalize r4 ||| z5 = r5 at o5 rg5 rh5 ⊢
    have a5 : r5.toInt = g0.toInt * 1 + g1.toInt * 256 + g2.toInt * 65536 + g3.toInt * 16777216 + g4.toInt * 4294967296 + g5.toInt * 1099511627776 := by omega
    clear o5 s5 rg5 rh5
    refine Wk.aload X60 hx (hb hby at_249) rfl rfl rfl ?_
    refine Wk.iload X60 hx (hb hby at_251) rfl rfl ?_
    refine Wk.bipush X60 hx (8 : Int32) (hb hby at_253) rfl rfl ?_
    refine Wk.iadd X60 hx (hb hby at_255) rfl ?_
    rw [show ((3 : Int32) + (8 : Int32)) = (11 : Int32) from by decide]
    refine Wk.baload X60 hx hZ rfl B60 (by decide) (by decide) rfl (hb hby at_256) rfl ?_
    refine Wk.i2l X60 hx (hb hby at_257) rfl ?_
    refine Wk.ldcJ X60 hx hZ hown (hw _ (List.mem_of_getElem? (i := 54) rfl)) (hb hby at_258) rfl ?_
    refine Wk.land X60 hx (hb hby at_261) rfl ?_
    have m6 : (w6.toInt64 &&& (255 : Int64)).toInt = w6.toInt % 256 := by rw [c_maskL _ (255 : Int64) 8 (by decide) (by decide), Int32.toInt_toInt64]; rfl
    generalize w6.toInt64 &&& (255 : Int64) = g6 at m6 ⊢
    refine Wk.bipush X60 hx (48 : Int32) (hb hby at_262) rfl rfl ?_
    refine Wk.lshl X60 hx (hb hby at_264) rfl ?_
    have s6 : ((g6 <<< ((48 : Int32).toInt64 &&& 63)).toInt - g6.toInt * 281474976710656) % 18446744073709551616 = 0 := by have := c_lshl g6 (48 : Int32) 48 (by decide); rw [show ((48 : Int32) &&& 0x3f).toInt64 = (48 : Int32).toInt64 &&& 63 from by decide] at this; exact this
    generalize g6 <<< ((48 : Int32).toInt64 &&& 63) = z6 at s6 ⊢
    refine Wk.lor X60 hx (hb hby at_265) rfl ?_
    have o6 : ((r5 ||| z6).toInt - (z6.toInt + r5.toInt)) % 18446744073709551616 = 0 := c_orL' r5 z6 48 (by decide) 281474976710656 (by decide) (by omega) (by omega) (by omega)
    have rg6 := (r5 ||| z6).toInt_lt; have rh6 := (r5 ||| z6).le_toInt
    generalize r5 ||| z6 = r6 at o6 rg6 rh6 ⊢
    have a6 : r6.toInt = g0.toInt * 1 + g1.toInt * 256 + g2.toInt * 65536 + g3.toInt * 16777216 + g4.toInt * 4294967296 + g5.toInt * 1099511627776 + g6.toInt * 281474976710656 := by omega
    clear o6 s6 rg6 rh6
    refine Wk.aload X60 hx (hb hby at_266) rfl rfl rfl ?_
    refine Wk.iload X60 hx (hb hby at_268) rfl rfl ?_
    refine Wk.bipush X60 hx (9 : Int32) (hb hby at_270) rfl rfl ?_
    refine Wk.iadd X60 hx (hb hby at_272) rfl ?_
    rw [show ((3 : Int32) + (9 : Int32)) = (12 : Int32) from by decide]
    refine Wk.baload X60 hx hZ rfl B60 (by decide) (by decide) rfl (hb hby at_273) rfl ?_
    refine Wk.i2l X60 hx (hb hby at_274) rfl ?_
    refine Wk.ldcJ X60 hx hZ hown (hw _ (List.mem_of_getElem? (i := 54) rfl)) (hb hby at_275) rfl ?_
    refine Wk.land X60 hx (hb hby at_278) rfl ?_
    have m7 : (w7.toInt64 &&& (255 : Int64)).toInt = w7.toInt % 256 := by rw [c_maskL _ (255 : Int64) 8 (by decide) (by decide), Int32.toInt_toInt64]; rfl
    generalize w7.toInt64 &&& (255 : Int64) = g7 at m7 ⊢
    refine Wk.bipush X60 hx (56 : Int32) (hb hby at_279) rfl rfl ?_
    refine Wk.lshl X60 hx (hb hby at_281) rfl ?_
    have s7 : ((g7 <<< ((56 : Int32).toInt64 &&& 63)).toInt - g7.toInt * 72057594037927936) % 18446744073709551616 = 0 := by have := c_lshl g7 (56 : Int32) 56 (by decide); rw [show ((56 : Int32) &&& 0x3f).toInt64 = (56 : Int32).toInt64 &&& 63 from by decide] at this; exact this
    generalize g7 <<< ((56 : Int32).toInt64 &&& 63) = z7 at s7 ⊢
    refine Wk.lor X60 hx (hb hby at_282) rfl ?_
    have o7 : ((r6 ||| z7).toInt - (z7.toInt + r6.toInt)) % 18446744073709551616 = 0 := c_orL' r6 z7 56 (by decide) 72057594037927936 (by decide) (by omega) (by omega) (by omega)
    have rg7 := (r6 ||| z7).toInt_lt; have rh7 := (r6 ||| z7).le_toInt
    generalize r6 ||| z7 = r7 at o7 rg7 rh7 ⊢
    refine Wk.lstore (l' := #[.val (.int i0), .val (.long i1), .second, .val (.int i2), .val (.int (3 : Int32)), .val (.int s'), .val (.ref la), .val (.ref ha), .val (.int (1 : Int32)), .val (.long r7), .second, .unset, .unset, .unset]) X60 hx (hb hby at_283) rfl rfl ?_
    refine Wk.lload X60 hx (hb hby at_285) rfl rfl ?_
    refine Wk.lloadN X60 hx (hb hby at_287) rfl rfl ?_
    refine Wk.ldcJ X60 hx hZ hown (hw _ (List.mem_of_getElem? (i := 55) rfl)) (hb hby at_288) rfl ?_
    refine Wk.lmul X60 hx (hb hby at_291) rfl ?_
    have ml := c_lmul i1 (8 : Int64)
    rw [show (8 : Int64).toInt = 8 from by decide] at ml
    have mg := (i1 * (8 : Int64)).toInt_lt; have mh := (i1 * (8 : Int64)).le_toInt
    generalize i1 * (8 : Int64) = ln at ml mg mh ⊢
    have sb := sumB ((i1.toInt * 8) % 18446744073709551616) (by omega) (by omega)
    have eqr : r7.toInt = ln.toInt := by
      rw [f0] at m0; rw [f1] at m1; rw [f2] at m2; rw [f3] at m3; rw [f4] at m4; rw [f5] at m5; rw [f6] at m6; rw [f7] at m7
      clear f0 f1 f2 f3 f4 f5 f6 f7
      rw [← m0, ← m1, ← m2, ← m3, ← m4, ← m5, ← m6, ← m7] at sb
      clear m0 m1 m2 m3 m4 m5 m6 m7
      omega
    refine Wk.lcmp X60 hx (hb hby at_292) rfl ?_
    refine Wk.lif_ne X60 hx 300 296 (hb hby at_293) rfl rfl (show (r7 : Int64).toInt = (r7).toInt from rfl) (show (ln : Int64).toInt = (ln).toInt from rfl) (fun h38 => absurd h38 (by omega)) (fun h38 => ?_)
    refine Wk.iconst X60 hx (1 : Int32) (hb hby at_296) rfl rfl ?_
    refine Wk.goto X60 hx 301 (hb hby at_297) rfl ?_
    refine Wk.istore (l' := #[.val (.int i0), .val (.long i1), .second, .val (.int i2), .val (.int (3 : Int32)), .val (.int s'), .val (.ref la), .val (.ref ha), .val (.int (1 : Int32)), .val (.long r7), .second, .val (.int (1 : Int32)), .unset, .unset]) X60 hx (hb hby at_301) rfl rfl ?_
    refine Wk.iload X60 hx (hb hby at_303) rfl rfl ?_
    refine Wk.if_eq X60 hx 320 308 (hb hby at_305) rfl rfl (show ((3 : Int32) : Int32).toInt = 3 from (by decide)) (fun h39 => absurd h39 (by omega)) (fun h39 => ?_)
    refine Wk.aload X60 hx (hb hby at_308) rfl rfl rfl ?_
    refine Wk.iload X60 hx (hb hby at_310) rfl rfl ?_
    refine Wk.iconst X60 hx (1 : Int32) (hb hby at_312) rfl rfl ?_
    refine Wk.isub X60 hx (hb hby at_313) rfl ?_
    rw [show ((3 : Int32) - (1 : Int32)) = (2 : Int32) from by decide]
    refine Wk.baload X60 hx hZ rfl B60 (by decide) (by decide) rfl (hb hby at_314) rfl ?_
    refine Wk.iload X60 hx (hb hby at_315) rfl rfl ?_
    refine Wk.icmp_ne X60 hx 324 320 (hb hby at_317) rfl rfl (show (s' : Int32).toInt = (s').toInt from rfl) (show (s' : Int32).toInt = (s').toInt from rfl) (fun h40 => absurd h40 (by omega)) (fun h40 => ?_)
    refine Wk.iconst X60 hx (1 : Int32) (hb hby at_320) rfl rfl ?_
    refine Wk.goto X60 hx 325 (hb hby at_321) rfl ?_
    refine Wk.istore (l' := #[.val (.int i0), .val (.long i1), .second, .val (.int i2), .val (.int (3 : Int32)), .val (.int s'), .val (.ref la), .val (.ref ha), .val (.int (1 : Int32)), .val (.long r7), .second, .val (.int (1 : Int32)), .val (.int (1 : Int32)), .unset]) X60 hx (hb hby at_325) rfl rfl ?_
    refine Wk.aload X60 hx (hb hby at_327) rfl rfl rfl ?_
    refine Wk.iload X60 hx (hb hby at_329) rfl rfl ?_
    refine Wk.bipush X60 hx (10 : Int32) (hb hby at_331) rfl rfl ?_
    refine Wk.iadd X60 hx (hb hby at_333) rfl ?_
    rw [show ((3 : Int32) + (10 : Int32)) = (13 : Int32) from by decide]
    refine Wk.baload X60 hx hZ rfl B60 (by decide) (by decide) rfl (hb hby at_334) rfl ?_
    refine Wk.iload X60 hx (hb hby at_335) rfl rfl ?_
    refine Wk.icmp_ne X60 hx 367 340 (hb hby at_337) rfl rfl (show (s' : Int32).toInt = (s').toInt from rfl) (show (s' : Int32).toInt = (s').toInt from rfl) (fun h41 => absurd h41 (by omega)) (fun h41 => ?_)
    refine Wk.iload X60 hx (hb hby at_340) rfl rfl ?_
    refine Wk.bipush X60 hx (11 : Int32) (hb hby at_342) rfl rfl ?_
    refine Wk.iadd X60 hx (hb hby at_344) rfl ?_
    rw [show ((3 : Int32) + (11 : Int32)) = (14 : Int32) from by decide]
    refine Wk.bipush X60 hx (13 : Int32) (hb hby at_345) rfl rfl ?_
    refine Wk.icmp_gt X60 hx 363 350 (hb hby at_347) rfl rfl (show ((14 : Int32) : Int32).toInt = 14 from (by decide)) (show ((13 : Int32) : Int32).toInt = 13 from (by decide)) (fun h42 => ?_) (fun h42 => absurd h42 (by omega))
    refine Wk.iconst X60 hx (1 : Int32) (hb hby at_363) rfl rfl ?_
    refine Wk.goto X60 hx 368 (hb hby at_364) rfl ?_
    refine Wk.istore (l' := #[.val (.int i0), .val (.long i1), .second, .val (.int i2), .val (.int (3 : Int32)), .val (.int s'), .val (.ref la), .val (.ref ha), .val (.int (1 : Int32)), .val (.long r7), .second, .val (.int (1 : Int32)), .val (.int (1 : Int32)), .val (.int (1 : Int32))]) X60 hx (hb hby at_368) rfl rfl ?_
    refine Wk.iload X60 hx (hb hby at_370) rfl rfl ?_
    refine Wk.if_eq X60 hx 394 375 (hb hby at_372) rfl rfl (show ((1 : Int32) : Int32).toInt = 1 from (by decide)) (fun h43 => absurd h43 (by omega)) (fun h43 => ?_)
    refine Wk.iload X60 hx (hb hby at_375) rfl rfl ?_
    refine Wk.if_eq X60 hx 394 380 (hb hby at_377) rfl rfl (show ((1 : Int32) : Int32).toInt = 1 from (by decide)) (fun h44 => absurd h44 (by omega)) (fun h44 => ?_)
    refine Wk.iload X60 hx (hb hby at_380) rfl rfl ?_
    refine Wk.if_eq X60 hx 394 385 (hb hby at_382) rfl rfl (show ((1 : Int32) : Int32).toInt = 1 from (by decide)) (fun h45 => absurd h45 (by omega)) (fun h45 => ?_)
    refine Wk.iload X60 hx (hb hby at_385) rfl rfl ?_
    refine Wk.if_eq X60 hx 394 390 (hb hby at_387) rfl rfl (show ((1 : Int32) : Int32).toInt = 1 from (by decide)) (fun h46 => absurd h46 (by omega)) (fun h46 => ?_)
    refine Wk.iconst X60 hx (1 : Int32) (hb hby at_390) rfl rfl ?_
    refine Wk.goto X60 hx 395 (hb hby at_391) rfl ?_
    exact Wk.retZ X60 hx hlk hret (hb hby at_395) (by decide) (by decide) (by decide) ⟨rfl, (Fr.app N52 N60)⟩
set_option maxRecDepth 65536 in
set_option maxHeartbeats 40000000 in
theorem comes_1 {Post : Tables → Env → Array Value → State → Outcome → State → Prop} (hpost : ∀ tb e args s v u, (limb_1_1.after args s (.returned v) u = true ∧ limb_1_2.after args s (.returned v) u = true ∧ True) → FrameEnd s (.returned v) u (Jvm.fieldLocs frame_1_writes args s ++ Jvm.arrayLocs frame_1_arrays args s ++ Jvm.staticLocs frame_1_statics s) 24 512 → Post tb e args s (.returned v) u) :
    ArmFor flags0 classFile x code maxLocals ret World_1 tables_1 room_1 Calls_1 rest_1 Pre_1 Post := by
  intro l hfl _ _ p e ha hc hk s m args below hf hA hF happ hP
  obtain ⟨hcalls, hrest, hpre⟩ := hP
  obtain ⟨-, -, -, hnamed, -, -, -, hat⟩ := (Spec.applies_iff hf).mp happ
  obtain ⟨hg, hn⟩ := and_e (Cond.before_iff.mp (show (Jvm.Cond.and given_1 narrow_1).before args s = true from hpre))
  obtain ⟨hg0, hg⟩ := and_e hg
  obtain ⟨w0, w1, w2, rfl⟩ : ∃ w0 w1 w2 : Value, args = #[w0, w1, w2] := by
    have hs : args.size = 3 := by simpa [Cond.value, given_1] using hg0
    obtain ⟨L⟩ := args
    match L, hs with
    | [w0, w1, w2], _ => exact ⟨w0, w1, w2, rfl⟩
  have hw := fun d (hd : d ∈ tables_1) => atoms_spec (ws := Jvm.Cond.code x code maxLocals ret :: tables_1) hat d (List.mem_cons_of_mem _ hd)
  have hfit : Fit s := fun {y c} hc i hi => by
    obtain ⟨ha, rfl⟩ := Array.getElem?_eq_some_iff.mp hc
    have q := List.all_eq_true.mp ((Array.all_eq_true_iff_forall_mem.mp hF) _ (Array.getElem_mem ha)) i (List.mem_range.mpr hi)
    simpa [Array.getElem?_eq_getElem hi] using q
  obtain ⟨hg1, hg⟩ := and_e hg
  obtain ⟨i0, ei0⟩ := is_v hg1
  obtain rfl : w0 = (.int i0) := Option.some.inj ei0
  obtain ⟨hg2, hg⟩ := and_e hg
  obtain ⟨i1, ei1⟩ := isL_v hg2
  obtain rfl : w1 = (.long i1) := Option.some.inj ei1
  have hg3 := hg
  obtain ⟨i2, ei2⟩ := is_v hg3
  obtain rfl : w2 = (.int i2) := Option.some.inj ei2
  obtain ⟨q0, hn⟩ := and_e hn
  obtain ⟨q1, hn⟩ := and_e hn
  obtain ⟨q2, hn⟩ := and_e hn
  obtain ⟨q3, hn⟩ := and_e hn
  obtain ⟨q4, hn⟩ := and_e hn
  obtain ⟨q5, hn⟩ := and_e hn
  obtain ⟨q6, hn⟩ := and_e hn
  obtain ⟨q7, hn⟩ := and_e hn
  obtain ⟨q8, hn⟩ := and_e hn
  obtain ⟨q9, hn⟩ := and_e hn
  obtain ⟨q10, hn⟩ := and_e hn
  obtain ⟨q11, hn⟩ := and_e hn
  obtain ⟨q12, hn⟩ := and_e hn
  obtain ⟨q13, hn⟩ := and_e hn
  obtain ⟨q14, hn⟩ := and_e hn
  obtain ⟨q15, hn⟩ := and_e hn
  obtain ⟨q16, hn⟩ := and_e hn
  obtain ⟨q17, hn⟩ := and_e hn
  obtain ⟨q18, hn⟩ := and_e hn
  obtain ⟨q19, hn⟩ := and_e hn
  obtain ⟨q20, hn⟩ := and_e hn
  obtain ⟨q21, hn⟩ := and_e hn
  obtain ⟨q22, hn⟩ := and_e hn
  obtain ⟨q23, hn⟩ := and_e hn
  obtain ⟨q24, hn⟩ := and_e hn
  obtain ⟨q25, hn⟩ := and_e hn
  obtain ⟨q26, hn⟩ := and_e hn
  obtain ⟨q27, hn⟩ := and_e hn
  obtain ⟨q28, hn⟩ := and_e hn
  obtain ⟨q29, hn⟩ := and_e hn
  obtain ⟨q30, hn⟩ := and_e hn
  obtain ⟨q31, hn⟩ := and_e hn
  obtain ⟨q32, hn⟩ := and_e hn
  obtain ⟨q33, hn⟩ := and_e hn
  obtain ⟨q34, hn⟩ := and_e hn
  obtain ⟨q35, hn⟩ := and_e hn
  obtain ⟨q36, hn⟩ := and_e hn
  obtain ⟨q37, hn⟩ := and_e hn
  obtain ⟨q38, hn⟩ := and_e hn
  obtain ⟨q39, hn⟩ := and_e hn
  obtain ⟨q40, hn⟩ := and_e hn
  obtain ⟨q41, hn⟩ := and_e hn
  obtain ⟨q42, hn⟩ := and_e hn
  obtain ⟨q43, hn⟩ := and_e hn
  obtain ⟨q44, hn⟩ := and_e hn
  obtain ⟨q45, hn⟩ := and_e hn
  obtain ⟨q46, hn⟩ := and_e hn
  obtain ⟨q47, hn⟩ := and_e hn
  obtain ⟨q48, hn⟩ := and_e hn
  obtain ⟨q49, hn⟩ := and_e hn
  obtain ⟨q50, hn⟩ := and_e hn
  obtain ⟨q51, hn⟩ := and_e hn
  obtain ⟨q52, hn⟩ := and_e hn
  obtain ⟨q53, hn⟩ := and_e hn
  obtain ⟨q54, hn⟩ := and_e hn
  obtain ⟨q55, hn⟩ := and_e hn
  obtain ⟨q56, hn⟩ := and_e hn
  obtain ⟨q57, hn⟩ := and_e hn
  obtain ⟨q58, hn⟩ := and_e hn
  obtain ⟨q59, hn⟩ := and_e hn
  obtain ⟨q60, hn⟩ := and_e hn
  obtain ⟨q61, hn⟩ := and_e hn
  obtain ⟨q62, hn⟩ := and_e hn
  obtain ⟨q63, hn⟩ := and_e hn
  obtain ⟨q64, hn⟩ := and_e hn
  obtain ⟨q65, hn⟩ := and_e hn
  obtain ⟨q66, hn⟩ := and_e hn
  obtain ⟨q67, hn⟩ := and_e hn
  obtain ⟨q68, hn⟩ := and_e hn
  obtain ⟨q69, hn⟩ := and_e hn
  obtain ⟨q70, hn⟩ := and_e hn
  obtain ⟨q71, hn⟩ := and_e hn
  obtain ⟨q72, hn⟩ := and_e hn
  obtain ⟨q73, hn⟩ := and_e hn
  have q74 := hn
  obtain ⟨r, vr⟩ := arr_v q0
  obtain ⟨cl, Ar⟩ := Arr.start vr q0
  obtain ⟨hz1, hz2⟩ := Wk.len_fit q2 vr Ar
  have AP : Arv s s.heap r cl.cls .int 72 [.int (608135816), .int (-2052912941), .int (320440878), .int (57701188), .int (-1542899678), .int (698298832), .int (137296536), .int (-330404727), .int (1160258022), .int (953160567), .int (-1101764913), .int (887688300), .int (-1062458953), .int (-914599715), .int (1065670069), .int (-1253635817), .int (-1843997223), .int (-1988494565), .int (-785314906), .int (-1730169428), .int (805139163), .int (-803545161), .int (-1193168915), .int (1780907670), .int (-1166241723), .int (-248741991), .int (614570311), .int (-1282315017), .int (134345442), .int (-2054226922), .int (1667834072), .int (1901547113), .int (-1537671517), .int (-191677058), .int (227898511), .int (1921955416), .int (1904987480), .int (-2112533778), .int (2069144605), .int (-1034266187), .int (-1674521287), .int (720527379), .int (-976113629), .int (677414384), .int (-901678824), .int (-1193592593), .int (-1904616272), .int (1614419982), .int (1822297739), .int (-1340175810), .int (-686458943), .int (-1120842969), .int (2024746970), .int (1432378464), .int (-430627341), .int (-1437226092), .int (1464375394), .int (1676153920), .int (1439316330), .int (715854006), .int (-1261675468), .int (289532110), .int (-1588296017), .int (2087905683), .int (-1276242927), .int (1668267050), .int (732546397), .int (1947742710), .int (-832815594), .int (-1685613794), .int (-1344882125), .int (1814351708)] (.int 0) := Arv.start hfit Ar hz1 hz2 (by decide) (by decide) ⟨Wk.elI q3 vr Ar.1 (by decide), Wk.elI q4 vr Ar.1 (by decide), Wk.elI q5 vr Ar.1 (by decide), Wk.elI q6 vr Ar.1 (by decide), Wk.elI q7 vr Ar.1 (by decide), Wk.elI q8 vr Ar.1 (by decide), Wk.elI q9 vr Ar.1 (by decide), Wk.elI q10 vr Ar.1 (by decide), Wk.elI q11 vr Ar.1 (by decide), Wk.elI q12 vr Ar.1 (by decide), Wk.elI q13 vr Ar.1 (by decide), Wk.elI q14 vr Ar.1 (by decide), Wk.elI q15 vr Ar.1 (by decide), Wk.elI q16 vr Ar.1 (by decide), Wk.elI q17 vr Ar.1 (by decide), Wk.elI q18 vr Ar.1 (by decide), Wk.elI q19 vr Ar.1 (by decide), Wk.elI q20 vr Ar.1 (by decide), Wk.elI q21 vr Ar.1 (by decide), Wk.elI q22 vr Ar.1 (by decide), Wk.elI q23 vr Ar.1 (by decide), Wk.elI q24 vr Ar.1 (by decide), Wk.elI q25 vr Ar.1 (by decide), Wk.elI q26 vr Ar.1 (by decide), Wk.elI q27 vr Ar.1 (by decide), Wk.elI q28 vr Ar.1 (by decide), Wk.elI q29 vr Ar.1 (by decide), Wk.elI q30 vr Ar.1 (by decide), Wk.elI q31 vr Ar.1 (by decide), Wk.elI q32 vr Ar.1 (by decide), Wk.elI q33 vr Ar.1 (by decide), Wk.elI q34 vr Ar.1 (by decide), Wk.elI q35 vr Ar.1 (by decide), Wk.elI q36 vr Ar.1 (by decide), Wk.elI q37 vr Ar.1 (by decide), Wk.elI q38 vr Ar.1 (by decide), Wk.elI q39 vr Ar.1 (by decide), Wk.elI q40 vr Ar.1 (by decide), Wk.elI q41 vr Ar.1 (by decide), Wk.elI q42 vr Ar.1 (by decide), Wk.elI q43 vr Ar.1 (by decide), Wk.elI q44 vr Ar.1 (by decide), Wk.elI q45 vr Ar.1 (by decide), Wk.elI q46 vr Ar.1 (by decide), Wk.elI q47 vr Ar.1 (by decide), Wk.elI q48 vr Ar.1 (by decide), Wk.elI q49 vr Ar.1 (by decide), Wk.elI q50 vr Ar.1 (by decide), Wk.elI q51 vr Ar.1 (by decide), Wk.elI q52 vr Ar.1 (by decide), Wk.elI q53 vr Ar.1 (by decide), Wk.elI q54 vr Ar.1 (by decide), Wk.elI q55 vr Ar.1 (by decide), Wk.elI q56 vr Ar.1 (by decide), Wk.elI q57 vr Ar.1 (by decide), Wk.elI q58 vr Ar.1 (by decide), Wk.elI q59 vr Ar.1 (by decide), Wk.elI q60 vr Ar.1 (by decide), Wk.elI q61 vr Ar.1 (by decide), Wk.elI q62 vr Ar.1 (by decide), Wk.elI q63 vr Ar.1 (by decide), Wk.elI q64 vr Ar.1 (by decide), Wk.elI q65 vr Ar.1 (by decide), Wk.elI q66 vr Ar.1 (by decide), Wk.elI q67 vr Ar.1 (by decide), Wk.elI q68 vr Ar.1 (by decide), Wk.elI q69 vr Ar.1 (by decide), Wk.elI q70 vr Ar.1 (by decide), Wk.elI q71 vr Ar.1 (by decide), Wk.elI q72 vr Ar.1 (by decide), Wk.elI q73 vr Ar.1 (by decide), Wk.elI q74 vr Ar.1 (by decide), trivial⟩
  have SP : Sta s s.heap "com/example/bonded_fonds/bondedfonds/fixity/Haval" "PI" "[I" (.ref r) := Sta.start vr (Or.inr ⟨(hw _ (List.mem_of_getElem? (i := 3) rfl)), (hw _ (List.mem_of_getElem? (i := 44) rfl))⟩)
  have H := rmL l s _ hw i0 i1 i2 r _ _ _ s.heap.size s.heap (Nat.le_refl _) SP AP
  obtain ⟨n, o, h1, h2, h3, _, L, rfl, ⟨rfl, N⟩, hq⟩ := H p e ha hc hk s m _ below hf ((Spec.applies_iff_loose hf).mp happ).1 ⟨rfl, State.Warmed39.refl s, rfl⟩ trivial
  refine ⟨n, _, h1, h2, h3, hpost _ _ _ _ _ _ ⟨Cond.after_iff.mpr rfl, Cond.after_iff.mpr (eq_i res_at (Term.int_eval (1)) rfl), trivial⟩ ⟨hq.1, hq.2.1, (hq.2.2.sift fun y hy => Or.inr (N y hy)).mono (by decide) (by decide)⟩⟩
theorem main_1_1 : Claimed_1_1 := comes_1 fun _ _ _ _ _ _ h hF => ⟨h.1, hF⟩
theorem main_1_2 : Claimed_1_2 := comes_1 fun _ _ _ _ _ _ h hF => ⟨h.2.1, hF⟩
end Jvm.Pilot.@@N@@
namespace Jvm.Pilot.@@N@@
open Jvm Jvm.ClassFile Sem Op Lib Jvm.Free Jvm.Stand Jvm.Pilot.@@N@@.Jvm.D
/-! MADE BY PROGRAM (witnessworld.py) out of the Statement's table words and the real class files: 12 classes; the members and pool entries that the words name. The judged class is class 1, her method 1. -/
namespace start1
open Jvm.ClassFile
def u (s : String) : CpInfo := .utf8 (stringToUtf16 s)
/-- a pool by its gaps: so many unusable entries, then the entry; so many at the end -/
def gap : Nat → List CpInfo → List CpInfo
  | 0, r => r
  | n + 1, r => .unusable :: gap n r
def poolList (es : List (Nat × CpInfo)) (last : Nat) : List CpInfo := es.foldr (fun e r => gap e.1 (e.2 :: r)) (gap last [])
def pool (es : List (Nat × CpInfo)) (last : Nat) : Array CpInfo := ⟨poolList es last⟩
def fileOf (pool : Array CpInfo) (this : Nat) (attrs : Array Attribute := #[]) (ms : Array MethodInfo := #[]) (fl : Nat := 33) (sup : Nat := 0) (ifs : Array Nat := #[]) (fds : Array FieldInfo := #[]) : ClassFile where
  minorVersion := 0
  majorVersion := 65
  constantPool := pool
  accessFlags := fl
  thisClass := this
  superClass := sup
  interfaces := ifs
  fields := fds
  methods := ms
  attributes := attrs
def plain (name : String) (sup : Option ClassId) : Class where
  name := name
  kind := .ordinary
  loader := none
  accessFlags := 33
  super := sup
  interfaces := #[]
  cf := none
  fields := #[]
  methods := #[]
  instanceTypes := #[]
  staticTypes := #[]
  resolved := #[]
  callSites := []
  init := .initialized
  statics := none
  mirror := none

def pool0 : Array CpInfo := pool [(5, u "<init>"), (0, u "()V"), (1, .class_ 10), (1, u "java/lang/Object")] 113

def k0c0 : Code := { maxStack := 0, maxLocals := 1, code := object_method_1_code, exceptionTable := #[], attributes := #[] }
def k0m0 : Method := { name := "<init>", desc := "()V", sig := { parameters := [], returnType := none }, accessFlags := 1, code := some k0c0 }
/-- java/lang/Object -/
def k0 : Class := { plain "java/lang/Object" none with
  accessFlags := 33
  interfaces := #[]
  cf := some (fileOf pool0 8 #[] #[{ accessFlags := 1, nameIndex := 5, descriptorIndex := 6, attributes := #[] }] 33 0 #[] #[])
  fields := #[]
  methods := #[k0m0]
  instanceTypes := #[]
  staticTypes := #[]
  resolved := Array.replicate 124 none
  statics := none }

def pool1 : Array CpInfo := pool [(2, .class_ 4), (0, .nameAndType 5 6), (0, u "java/lang/Object"), (0, u "<init>"), (0, u "()V"), (0, .class_ 8), (0, u "com/example/bonded_fonds/bondedfonds/fixity/Haval"), (0, .methodref 7 3), (0, .methodref 7 11), (0, .nameAndType 12 13), (0, u "writeTrailer"), (0, u "([BIJ)V"), (0, .long 255), (1, .long 8), (1, .class_ 19), (0, u "com/example/bonded_fonds/bondedfonds/fixity/HavalWriteTrailerPinLaw"), (2, u "law"), (0, u "(IJI)Z")] 5

def k1m0 : Method := { name := "<init>", desc := "()V", sig := { parameters := [], returnType := none }, accessFlags := 1, code := none }
def k1c1 : Code := { maxStack := 6, maxLocals := 14, code := code, exceptionTable := #[], attributes := #[] }
def k1m1 : Method := { name := "law", desc := "(IJI)Z", sig := { parameters := [.int, .long, .int], returnType := some .boolean }, accessFlags := 9, code := some k1c1 }
/-- com/example/bonded_fonds/bondedfonds/fixity/HavalWriteTrailerPinLaw -/
def k1 : Class := { plain "com/example/bonded_fonds/bondedfonds/fixity/HavalWriteTrailerPinLaw" (some 0) with
  accessFlags := 49
  interfaces := #[]
  cf := some (fileOf pool1 18 #[] #[{ accessFlags := 1, nameIndex := 5, descriptorIndex := 6, attributes := #[] }, { accessFlags := 9, nameIndex := 22, descriptorIndex := 23, attributes := #[] }] 49 2 #[] #[])
  fields := #[]
  methods := #[k1m0, k1m1]
  instanceTypes := #[]
  staticTypes := #[]
  resolved := Array.replicate 29 none
  statics := none }

def pool2 : Array CpInfo := pool [(1, .class_ 2), (0, u "com/example/bonded_fonds/bondedfonds/fixity/Digester"), (0, .class_ 4), (0, u "java/lang/Object")] 8

/-- com/example/bonded_fonds/bondedfonds/fixity/Digester -/
def k2 : Class := { plain "com/example/bonded_fonds/bondedfonds/fixity/Digester" (some 0) with
  accessFlags := 1536
  interfaces := #[]
  cf := some (fileOf pool2 1 #[] #[] 1536 3 #[] #[])
  fields := #[]
  methods := #[]
  instanceTypes := #[]
  staticTypes := #[]
  resolved := Array.replicate 13 none
  statics := none }

def pool3 : Array CpInfo := pool [(1, .methodref 2 3), (0, .class_ 4), (0, .nameAndType 5 6), (0, u "java/lang/Object"), (0, u "<init>"), (0, u "()V"), (0, .fieldref 8 9), (0, .class_ 10), (0, .nameAndType 11 12), (0, u "com/example/bonded_fonds/bondedfonds/fixity/BlockDigest"), (0, u "block"), (0, u "[B"), (0, .fieldref 8 14), (0, .nameAndType 15 16), (0, u "marker"), (0, u "B"), (0, .fieldref 8 18), (0, .nameAndType 19 20), (0, u "trailerLength"), (0, u "I"), (0, .fieldref 8 22), (0, .nameAndType 23 20), (0, u "gathered"), (0, .fieldref 8 25), (0, .nameAndType 26 27), (0, u "length"), (0, u "J"), (0, .methodref 8 29), (0, .nameAndType 30 6), (0, u "startState"), (32, u "reset"), (0, .class_ 65), (0, u "com/example/bonded_fonds/bondedfonds/fixity/Digester"), (0, u "(IBI)V")] 7

def k3c0 : Code := { maxStack := 2, maxLocals := 4, code := prog_16_method_1_code, exceptionTable := #[], attributes := #[] }
def k3m0 : Method := { name := "<init>", desc := "(IBI)V", sig := { parameters := [.int, .byte, .int], returnType := none }, accessFlags := 0, code := some k3c0 }
def k3m1 : Method := { name := "startState", desc := "()V", sig := { parameters := [], returnType := none }, accessFlags := 1024, code := none }
def k3c2 : Code := { maxStack := 3, maxLocals := 1, code := prog_16_method_6_code, exceptionTable := #[], attributes := #[] }
def k3m2 : Method := { name := "reset", desc := "()V", sig := { parameters := [], returnType := none }, accessFlags := 17, code := some k3c2 }
/-- com/example/bonded_fonds/bondedfonds/fixity/BlockDigest -/
def k3 : Class := { plain "com/example/bonded_fonds/bondedfonds/fixity/BlockDigest" (some 0) with
  accessFlags := 1056
  interfaces := #[2]
  cf := some (fileOf pool3 8 #[] #[{ accessFlags := 0, nameIndex := 5, descriptorIndex := 66, attributes := #[] }, { accessFlags := 1024, nameIndex := 30, descriptorIndex := 6, attributes := #[] }, { accessFlags := 17, nameIndex := 63, descriptorIndex := 6, attributes := #[] }] 1056 2 #[64] #[{ accessFlags := 18, nameIndex := 11, descriptorIndex := 12, attributes := #[] }, { accessFlags := 18, nameIndex := 15, descriptorIndex := 16, attributes := #[] }, { accessFlags := 18, nameIndex := 19, descriptorIndex := 20, attributes := #[] }, { accessFlags := 2, nameIndex := 23, descriptorIndex := 20, attributes := #[] }, { accessFlags := 2, nameIndex := 26, descriptorIndex := 27, attributes := #[] }])
  fields := #[{ name := "block", type := (.array .byte), accessFlags := 18, slot := 0, constantValue := 0 }, { name := "marker", type := .byte, accessFlags := 18, slot := 1, constantValue := 0 }, { name := "trailerLength", type := .int, accessFlags := 18, slot := 2, constantValue := 0 }, { name := "gathered", type := .int, accessFlags := 2, slot := 3, constantValue := 0 }, { name := "length", type := .long, accessFlags := 2, slot := 4, constantValue := 0 }]
  methods := #[k3m0, k3m1, k3m2]
  instanceTypes := #[(.array .byte), .byte, .int, .int, .long]
  staticTypes := #[]
  resolved := Array.replicate 74 none
  statics := none }

def pool4 : Array CpInfo := pool [(1, .class_ 2), (0, u "com/example/bonded_fonds/bondedfonds/fixity/Haval"), (2, .methodref 6 7), (0, .class_ 8), (0, .nameAndType 9 10), (0, u "com/example/bonded_fonds/bondedfonds/fixity/BlockDigest"), (0, u "<init>"), (0, u "(IBI)V"), (0, .fieldref 1 12), (0, .nameAndType 13 14), (0, u "state"), (0, u "[I"), (0, .fieldref 1 16), (0, .nameAndType 17 14), (0, u "working"), (0, .fieldref 1 19), (0, .nameAndType 20 14), (0, u "block"), (0, .methodref 1 22), (0, .nameAndType 23 24), (0, u "reset"), (0, u "()V"), (0, .fieldref 1 26), (0, .nameAndType 27 14), (0, u "PI"), (0, .methodref 29 30), (0, .class_ 31), (0, .nameAndType 32 33), (0, u "java/lang/System"), (0, u "arraycopy"), (0, u "(Ljava/lang/Object;ILjava/lang/Object;II)V"), (2, u "WORDS"), (0, u "Ljava/lang/invoke/VarHandle;"), (25, u "SECOND_ORDER"), (5, u "THIRD_ORDER"), (71, u "BLOCK_LENGTH"), (0, u "I"), (2, u "STATE_WORDS"), (1, u "STEPS"), (1, u "VERSION"), (1, u "PASSES"), (1, u "DIGEST_BITS"), (0, u "SECOND_CONSTANTS"), (0, u "THIRD_CONSTANTS"), (3, u "startState"), (3, u "writeTrailer"), (0, u "([BIJ)V")] 7

def k4c0 : Code := { maxStack := 4, maxLocals := 1, code := prog_21_method_1_code, exceptionTable := #[], attributes := #[] }
def k4m0 : Method := { name := "<init>", desc := "()V", sig := { parameters := [], returnType := none }, accessFlags := 0, code := some k4c0 }
def k4c1 : Code := { maxStack := 5, maxLocals := 1, code := prog_21_method_2_code, exceptionTable := #[], attributes := #[] }
def k4m1 : Method := { name := "startState", desc := "()V", sig := { parameters := [], returnType := none }, accessFlags := 0, code := some k4c1 }
def k4c2 : Code := { maxStack := 6, maxLocals := 6, code := prog_21_method_4_code, exceptionTable := #[], attributes := #[] }
def k4m2 : Method := { name := "writeTrailer", desc := "([BIJ)V", sig := { parameters := [(.array .byte), .int, .long], returnType := none }, accessFlags := 0, code := some k4c2 }
/-- com/example/bonded_fonds/bondedfonds/fixity/Haval -/
def k4 : Class := { plain "com/example/bonded_fonds/bondedfonds/fixity/Haval" (some 3) with
  accessFlags := 48
  interfaces := #[]
  cf := some (fileOf pool4 1 #[] #[{ accessFlags := 0, nameIndex := 9, descriptorIndex := 24, attributes := #[] }, { accessFlags := 0, nameIndex := 159, descriptorIndex := 24, attributes := #[] }, { accessFlags := 0, nameIndex := 163, descriptorIndex := 164, attributes := #[] }] 48 6 #[] #[{ accessFlags := 26, nameIndex := 141, descriptorIndex := 142, attributes := #[] }, { accessFlags := 26, nameIndex := 145, descriptorIndex := 142, attributes := #[] }, { accessFlags := 26, nameIndex := 147, descriptorIndex := 142, attributes := #[] }, { accessFlags := 26, nameIndex := 149, descriptorIndex := 142, attributes := #[] }, { accessFlags := 26, nameIndex := 151, descriptorIndex := 142, attributes := #[] }, { accessFlags := 26, nameIndex := 153, descriptorIndex := 142, attributes := #[] }, { accessFlags := 26, nameIndex := 63, descriptorIndex := 14, attributes := #[] }, { accessFlags := 26, nameIndex := 69, descriptorIndex := 14, attributes := #[] }, { accessFlags := 26, nameIndex := 36, descriptorIndex := 37, attributes := #[] }, { accessFlags := 26, nameIndex := 27, descriptorIndex := 14, attributes := #[] }, { accessFlags := 26, nameIndex := 154, descriptorIndex := 142, attributes := #[] }, { accessFlags := 26, nameIndex := 155, descriptorIndex := 142, attributes := #[] }, { accessFlags := 18, nameIndex := 13, descriptorIndex := 14, attributes := #[] }, { accessFlags := 18, nameIndex := 17, descriptorIndex := 14, attributes := #[] }, { accessFlags := 18, nameIndex := 20, descriptorIndex := 14, attributes := #[] }])
  fields := #[{ name := "BLOCK_LENGTH", type := .int, accessFlags := 26, slot := 0, constantValue := 0 }, { name := "STATE_WORDS", type := .int, accessFlags := 26, slot := 1, constantValue := 0 }, { name := "STEPS", type := .int, accessFlags := 26, slot := 2, constantValue := 0 }, { name := "VERSION", type := .int, accessFlags := 26, slot := 3, constantValue := 0 }, { name := "PASSES", type := .int, accessFlags := 26, slot := 4, constantValue := 0 }, { name := "DIGEST_BITS", type := .int, accessFlags := 26, slot := 5, constantValue := 0 }, { name := "SECOND_ORDER", type := (.array .int), accessFlags := 26, slot := 6, constantValue := 0 }, { name := "THIRD_ORDER", type := (.array .int), accessFlags := 26, slot := 7, constantValue := 0 }, { name := "WORDS", type := (.object "java/lang/invoke/VarHandle"), accessFlags := 26, slot := 8, constantValue := 0 }, { name := "PI", type := (.array .int), accessFlags := 26, slot := 9, constantValue := 0 }, { name := "SECOND_CONSTANTS", type := .int, accessFlags := 26, slot := 10, constantValue := 0 }, { name := "THIRD_CONSTANTS", type := .int, accessFlags := 26, slot := 11, constantValue := 0 }, { name := "state", type := (.array .int), accessFlags := 18, slot := 5, constantValue := 0 }, { name := "working", type := (.array .int), accessFlags := 18, slot := 6, constantValue := 0 }, { name := "block", type := (.array .int), accessFlags := 18, slot := 7, constantValue := 0 }]
  methods := #[k4m0, k4m1, k4m2]
  instanceTypes := #[(.array .byte), .byte, .int, .int, .long, (.array .int), (.array .int), (.array .int)]
  staticTypes := #[.int, .int, .int, .int, .int, .int, (.array .int), (.array .int), (.object "java/lang/invoke/VarHandle"), (.array .int), .int, .int]
  resolved := Array.replicate 172 none
  statics := some 0 }

def pool5 : Array CpInfo := pool [(2, .class_ 4), (1, u "java/lang/Object"), (0, u "<init>"), (0, u "()V"), (1, .class_ 10), (1, u "java/lang/System"), (0, u "allowSecurityManager"), (0, u "I"), (16, u "cons"), (0, u "Ljava/io/Console;"), (77, .class_ 110), (1, u "java/lang/System$CallersHolder"), (43, u "initialErrStream"), (0, u "Ljava/io/PrintStream;"), (19, u "security"), (0, u "Ljava/lang/SecurityManager;"), (31, .class_ 209), (0, u "java/lang/System$1"), (7, u "props"), (0, u "Ljava/util/Properties;"), (2, u "lineSeparator"), (0, u "Ljava/lang/String;"), (96, .class_ 321), (1, u "java/lang/System$LoggerFinder"), (5, .class_ 328), (0, u "java/lang/System$Logger"), (67, u "err"), (2, u "out"), (91, u "notSupportedJnuEncoding"), (15, u "in"), (17, u "initialIn"), (0, u "Ljava/io/InputStream;"), (35, u "bootLayer"), (0, u "Ljava/lang/ModuleLayer;"), (99, .class_ 664), (0, u "java/lang/System$2"), (9, u "NEVER"), (2, u "MAYBE"), (49, u "arraycopy"), (0, u "(Ljava/lang/Object;ILjava/lang/Object;II)V"), (72, .class_ 802), (0, u "java/lang/System$Logger$Level")] 31

def k5m0 : Method := { name := "<init>", desc := "()V", sig := { parameters := [], returnType := none }, accessFlags := 2, code := none }
def k5m1 : Method := { name := "arraycopy", desc := "(Ljava/lang/Object;ILjava/lang/Object;II)V", sig := { parameters := [(.object "java/lang/Object"), .int, (.object "java/lang/Object"), .int, .int], returnType := none }, accessFlags := 265, code := none }
/-- java/lang/System -/
def k5 : Class := { plain "java/lang/System" (some 0) with
  accessFlags := 49
  interfaces := #[]
  cf := some (fileOf pool5 8 #[.nestMembers #[319, 327, 801, 108, 663, 208]] #[{ accessFlags := 2, nameIndex := 5, descriptorIndex := 6, attributes := #[] }, { accessFlags := 265, nameIndex := 727, descriptorIndex := 728, attributes := #[] }] 49 2 #[] #[{ accessFlags := 25, nameIndex := 507, descriptorIndex := 526, attributes := #[] }, { accessFlags := 25, nameIndex := 399, descriptorIndex := 155, attributes := #[] }, { accessFlags := 25, nameIndex := 396, descriptorIndex := 155, attributes := #[] }, { accessFlags := 10, nameIndex := 525, descriptorIndex := 526, attributes := #[] }, { accessFlags := 26, nameIndex := 674, descriptorIndex := 12, attributes := #[] }, { accessFlags := 26, nameIndex := 677, descriptorIndex := 12, attributes := #[] }, { accessFlags := 10, nameIndex := 11, descriptorIndex := 12, attributes := #[] }, { accessFlags := 74, nameIndex := 175, descriptorIndex := 176, attributes := #[] }, { accessFlags := 10, nameIndex := 491, descriptorIndex := 222, attributes := #[] }, { accessFlags := 74, nameIndex := 29, descriptorIndex := 30, attributes := #[] }, { accessFlags := 74, nameIndex := 154, descriptorIndex := 155, attributes := #[] }, { accessFlags := 10, nameIndex := 217, descriptorIndex := 218, attributes := #[] }, { accessFlags := 10, nameIndex := 221, descriptorIndex := 222, attributes := #[] }, { accessFlags := 8, nameIndex := 562, descriptorIndex := 563, attributes := #[] }])
  fields := #[{ name := "in", type := (.object "java/io/InputStream"), accessFlags := 25, slot := 0, constantValue := 0 }, { name := "out", type := (.object "java/io/PrintStream"), accessFlags := 25, slot := 1, constantValue := 0 }, { name := "err", type := (.object "java/io/PrintStream"), accessFlags := 25, slot := 2, constantValue := 0 }, { name := "initialIn", type := (.object "java/io/InputStream"), accessFlags := 10, slot := 3, constantValue := 0 }, { name := "NEVER", type := .int, accessFlags := 26, slot := 4, constantValue := 0 }, { name := "MAYBE", type := .int, accessFlags := 26, slot := 5, constantValue := 0 }, { name := "allowSecurityManager", type := .int, accessFlags := 10, slot := 6, constantValue := 0 }, { name := "security", type := (.object "java/lang/SecurityManager"), accessFlags := 74, slot := 7, constantValue := 0 }, { name := "notSupportedJnuEncoding", type := (.object "java/lang/String"), accessFlags := 10, slot := 8, constantValue := 0 }, { name := "cons", type := (.object "java/io/Console"), accessFlags := 74, slot := 9, constantValue := 0 }, { name := "initialErrStream", type := (.object "java/io/PrintStream"), accessFlags := 74, slot := 10, constantValue := 0 }, { name := "props", type := (.object "java/util/Properties"), accessFlags := 10, slot := 11, constantValue := 0 }, { name := "lineSeparator", type := (.object "java/lang/String"), accessFlags := 10, slot := 12, constantValue := 0 }, { name := "bootLayer", type := (.object "java/lang/ModuleLayer"), accessFlags := 8, slot := 13, constantValue := 0 }]
  methods := #[k5m0, k5m1]
  instanceTypes := #[]
  staticTypes := #[(.object "java/io/InputStream"), (.object "java/io/PrintStream"), (.object "java/io/PrintStream"), (.object "java/io/InputStream"), .int, .int, .int, (.object "java/lang/SecurityManager"), (.object "java/lang/String"), (.object "java/io/Console"), (.object "java/io/PrintStream"), (.object "java/util/Properties"), (.object "java/lang/String"), (.object "java/lang/ModuleLayer")]
  resolved := Array.replicate 834 none
  statics := none }

def pool6 : Array CpInfo := pool [(1, u "java/lang/Cloneable"), (0, .class_ 1), (0, u "java/lang/Object"), (0, .class_ 3)] 3

/-- java/lang/Cloneable -/
def k6 : Class := { plain "java/lang/Cloneable" (some 0) with
  accessFlags := 1537
  interfaces := #[]
  cf := some (fileOf pool6 2 #[] #[] 1537 4 #[] #[])
  fields := #[]
  methods := #[]
  instanceTypes := #[]
  staticTypes := #[]
  resolved := Array.replicate 8 none
  statics := none }

def pool7 : Array CpInfo := pool [(1, u "java/io/Serializable"), (0, .class_ 1), (0, u "java/lang/Object"), (0, .class_ 3)] 3

/-- java/io/Serializable -/
def k7 : Class := { plain "java/io/Serializable" (some 0) with
  accessFlags := 1537
  interfaces := #[]
  cf := some (fileOf pool7 2 #[] #[] 1537 4 #[] #[])
  fields := #[]
  methods := #[]
  instanceTypes := #[]
  staticTypes := #[]
  resolved := Array.replicate 8 none
  statics := none }

/-- the primitive byte -/
def k8 : Class := { plain "byte" none with kind := .primitive 'B', accessFlags := 0x411 }
/-- [B -/
def k9 : Class := { plain "[B" (some 0) with kind := .array 8 .byte, interfaces := #[6, 7], accessFlags := 1041 }

/-- the primitive int -/
def k10 : Class := { plain "int" none with kind := .primitive 'I', accessFlags := 0x411 }
/-- [I -/
def k11 : Class := { plain "[I" (some 0) with kind := .array 10 .int, interfaces := #[6, 7], accessFlags := 1041 }

def heap : Heap := #[{ cls := 4, slots := #[.int 0, .int 0, .int 0, .int 0, .int 0, .int 0, .null, .null, .null, .ref 1, .int 0, .int 0], vm := .statics 4 },
  { cls := 11, slots := #[.int (608135816), .int (-2052912941), .int (320440878), .int (57701188), .int (-1542899678), .int (698298832), .int (137296536), .int (-330404727), .int (1160258022), .int (953160567), .int (-1101764913), .int (887688300), .int (-1062458953), .int (-914599715), .int (1065670069), .int (-1253635817), .int (-1843997223), .int (-1988494565), .int (-785314906), .int (-1730169428), .int (805139163), .int (-803545161), .int (-1193168915), .int (1780907670), .int (-1166241723), .int (-248741991), .int (614570311), .int (-1282315017), .int (134345442), .int (-2054226922), .int (1667834072), .int (1901547113), .int (-1537671517), .int (-191677058), .int (227898511), .int (1921955416), .int (1904987480), .int (-2112533778), .int (2069144605), .int (-1034266187), .int (-1674521287), .int (720527379), .int (-976113629), .int (677414384), .int (-901678824), .int (-1193592593), .int (-1904616272), .int (1614419982), .int (1822297739), .int (-1340175810), .int (-686458943), .int (-1120842969), .int (2024746970), .int (1432378464), .int (-430627341), .int (-1437226092), .int (1464375394), .int (1676153920), .int (1439316330), .int (715854006), .int (-1261675468), .int (289532110), .int (-1588296017), .int (2087905683), .int (-1276242927), .int (1668267050), .int (732546397), .int (1947742710), .int (-832815594), .int (-1685613794), .int (-1344882125), .int (1814351708)], vm := .none }]
def classes : Array Class := #[k0, k1, k2, k3, k4, k5, k6, k7, k8, k9, k10, k11]
def interned : List (Array UInt16 × Addr) := []
def slotsUsed : Nat := 84
def theMethod : MethodId := ⟨1, 1⟩
def args0 : Array Value := #[.int 5, .long 7, .int 1]
def aboutOver (below : List Frame) : State where
  vm := { classes := classes, interned := interned.toArray }
  heap := heap
  slotsUsed := slotsUsed
  threads := #[{ frames := .invoking theMethod args0 :: below }]
def below0 : List Frame := [.native { method := ⟨0, 0⟩, args := #[] }]
def about1 : State := aboutOver below0
def p0 : Program := .bare "" "" ""
def e0 : Env := launch0.env 0 0 0
theorem w_frames : about1.frames = Frame.invoking theMethod args0 :: below0 := rfl
set_option maxRecDepth 65536 in
theorem w_args : argsFit about1.vm theMethod args0 = true := by decide +kernel
set_option maxRecDepth 65536 in
theorem w_heap : heapFits about1 = true := by decide +kernel
set_option maxRecDepth 65536 in
theorem w_runnable : about1.curStatus? = some .runnable := by decide +kernel
set_option maxRecDepth 65536 in
theorem w_alone : about1.alone = true := by decide +kernel
set_option maxRecDepth 65536 in
theorem w_named : about1.methodNamed? x = some theMethod := by decide +kernel
set_option maxRecDepth 65536 in
theorem w_hears : about1.hears theMethod below0 = true := by decide +kernel
set_option maxRecDepth 65536 in
theorem w_ripe : about1.ripe theMethod args0 below0 = true := by decide +kernel
theorem w_running : about1.status = .running := rfl
set_option maxRecDepth 65536 in
theorem w_room : about1.hasRoom e0.platform room_1 = true :=
  launch0.hasRoom_least _ room_1 (by decide +kernel) (by decide +kernel) (by decide +kernel) (by decide +kernel) (by decide +kernel) (by decide +kernel)
theorem allAtoms_all (ts : List Jvm.Cond) (a : Array Jvm.Value) (st : Jvm.State) : (allAtoms ts).before a st = ts.all (fun c => c.before a st) := by
  induction ts with
  | nil => rfl
  | cons c t ih =>
    show (Jvm.Cond.and c (allAtoms t)).before a st = _
    rw [Jvm.Cond.before_and, ih, List.all_cons]
def words1 : List Jvm.Cond := Jvm.Cond.code x code maxLocals ret :: tables_1
/-- a 'code' word, met by the world's own term for the bytes: nothing is compared byte by byte -/
theorem code_word {y : MethodName} {bytes : ByteArray} {mx : Nat} {rt : Option FieldType} {a : Array Value} {s : State} {m : MethodId} {meth : Method} {c : Code} (h1 : s.methodNamed? y = some m) (h2 : s.vm.method? m = some meth) (h3 : meth.code = some c) (h4 : c.code = bytes)
    (h5 : (c.maxLocals == mx && c.exceptionTable.isEmpty && decide (c.maxStack ≤ mostOperands) && decide (meth.sig.returnType = rt) && !meth.locks && decide (parseMethodDescriptor y.desc = some meth.sig)) = true) : (Jvm.Cond.code y bytes mx rt).before a s = true := by
  simp only [Bool.and_eq_true, beq_iff_eq, Bool.not_eq_true', decide_eq_true_eq] at h5
  obtain ⟨⟨⟨⟨⟨g1, g2⟩, g3⟩, g4⟩, g5⟩, g6⟩ := h5
  simp [Cond.before, Cond.holds, Cond.value, h1, h2, h3, h4, g1, g2, g3, g4, g5, g6]
def isCode : Jvm.Cond → Bool
  | .code _ _ _ _ => true
  | _ => false
theorem all_split {L : List Jvm.Cond} {P : Jvm.Cond → Bool} (h1 : L.all (fun c => isCode c || P c) = true) (h2 : ∀ c ∈ L.filter isCode, P c = true) : L.all P = true := by
  refine List.all_eq_true.mpr fun c hc => ?_
  have h := List.all_eq_true.mp h1 c hc
  rcases Bool.eq_false_or_eq_true (isCode c) with hi | hi
  · exact h2 c (List.mem_filter.mpr ⟨hc, hi⟩)
  · simpa [hi] using h
set_option maxRecDepth 65536 in
theorem w_c0 : (Jvm.Cond.code x code maxLocals ret).before args0 about1 = true := code_word (m := ⟨1, 1⟩) (meth := k1m1) (c := k1c1) (by decide +kernel) rfl rfl rfl (by decide +kernel)
set_option maxRecDepth 65536 in
theorem w_c1 : (Jvm.Cond.code ({ cls := "com/example/bonded_fonds/bondedfonds/fixity/Haval", name := "<init>", desc := "()V" } : Jvm.MethodName) prog_21_method_1_code (1 : Nat) (Option.none : Option Jvm.ClassFile.FieldType)).before args0 about1 = true := code_word (m := ⟨4, 0⟩) (meth := k4m0) (c := k4c0) (by decide +kernel) rfl rfl rfl (by decide +kernel)
set_option maxRecDepth 65536 in
theorem w_c2 : (Jvm.Cond.code ({ cls := "com/example/bonded_fonds/bondedfonds/fixity/BlockDigest", name := "<init>", desc := "(IBI)V" } : Jvm.MethodName) prog_16_method_1_code (4 : Nat) (Option.none : Option Jvm.ClassFile.FieldType)).before args0 about1 = true := code_word (m := ⟨3, 0⟩) (meth := k3m0) (c := k3c0) (by decide +kernel) rfl rfl rfl (by decide +kernel)
set_option maxRecDepth 65536 in
theorem w_c3 : (Jvm.Cond.code ({ cls := "java/lang/Object", name := "<init>", desc := "()V" } : Jvm.MethodName) object_method_1_code (1 : Nat) (Option.none : Option Jvm.ClassFile.FieldType)).before args0 about1 = true := code_word (m := ⟨0, 0⟩) (meth := k0m0) (c := k0c0) (by decide +kernel) rfl rfl rfl (by decide +kernel)
set_option maxRecDepth 65536 in
theorem w_c4 : (Jvm.Cond.code ({ cls := "com/example/bonded_fonds/bondedfonds/fixity/BlockDigest", name := "reset", desc := "()V" } : Jvm.MethodName) prog_16_method_6_code (1 : Nat) (Option.none : Option Jvm.ClassFile.FieldType)).before args0 about1 = true := code_word (m := ⟨3, 2⟩) (meth := k3m2) (c := k3c2) (by decide +kernel) rfl rfl rfl (by decide +kernel)
set_option maxRecDepth 65536 in
theorem w_c5 : (Jvm.Cond.code ({ cls := "com/example/bonded_fonds/bondedfonds/fixity/Haval", name := "startState", desc := "()V" } : Jvm.MethodName) prog_21_method_2_code (1 : Nat) (Option.none : Option Jvm.ClassFile.FieldType)).before args0 about1 = true := code_word (m := ⟨4, 1⟩) (meth := k4m1) (c := k4c1) (by decide +kernel) rfl rfl rfl (by decide +kernel)
set_option maxRecDepth 65536 in
theorem w_c6 : (Jvm.Cond.code ({ cls := "com/example/bonded_fonds/bondedfonds/fixity/Haval", name := "writeTrailer", desc := "([BIJ)V" } : Jvm.MethodName) prog_21_method_4_code (6 : Nat) (Option.none : Option Jvm.ClassFile.FieldType)).before args0 about1 = true := code_word (m := ⟨4, 2⟩) (meth := k4m2) (c := k4c2) (by decide +kernel) rfl rfl rfl (by decide +kernel)
def codes1 : List Jvm.Cond := [Jvm.Cond.code x code maxLocals ret, Jvm.Cond.code ({ cls := "com/example/bonded_fonds/bondedfonds/fixity/Haval", name := "<init>", desc := "()V" } : Jvm.MethodName) prog_21_method_1_code (1 : Nat) (Option.none : Option Jvm.ClassFile.FieldType), Jvm.Cond.code ({ cls := "com/example/bonded_fonds/bondedfonds/fixity/BlockDigest", name := "<init>", desc := "(IBI)V" } : Jvm.MethodName) prog_16_method_1_code (4 : Nat) (Option.none : Option Jvm.ClassFile.FieldType), Jvm.Cond.code ({ cls := "java/lang/Object", name := "<init>", desc := "()V" } : Jvm.MethodName) object_method_1_code (1 : Nat) (Option.none : Option Jvm.ClassFile.FieldType), Jvm.Cond.code ({ cls := "com/example/bonded_fonds/bondedfonds/fixity/BlockDigest", name := "reset", desc := "()V" } : Jvm.MethodName) prog_16_method_6_code (1 : Nat) (Option.none : Option Jvm.ClassFile.FieldType), Jvm.Cond.code ({ cls := "com/example/bonded_fonds/bondedfonds/fixity/Haval", name := "startState", desc := "()V" } : Jvm.MethodName) prog_21_method_2_code (1 : Nat) (Option.none : Option Jvm.ClassFile.FieldType), Jvm.Cond.code ({ cls := "com/example/bonded_fonds/bondedfonds/fixity/Haval", name := "writeTrailer", desc := "([BIJ)V" } : Jvm.MethodName) prog_21_method_4_code (6 : Nat) (Option.none : Option Jvm.ClassFile.FieldType)]
set_option maxRecDepth 65536 in
theorem codes_eq : words1.filter isCode = codes1 := rfl
theorem w_codes : ∀ c ∈ words1.filter isCode, c.before args0 about1 = true := by
  rw [codes_eq]
  intro c hc
  simp only [codes1, List.mem_cons, List.not_mem_nil, or_false] at hc
  rcases hc with rfl | rfl | rfl | rfl | rfl | rfl | rfl
  · exact w_c0
  · exact w_c1
  · exact w_c2
  · exact w_c3
  · exact w_c4
  · exact w_c5
  · exact w_c6
set_option maxRecDepth 65536 in
theorem w_t1 : (words1.take 24).all (fun c => isCode c || c.before args0 about1) = true := by decide +kernel
set_option maxRecDepth 65536 in
theorem w_t2 : ((words1.drop 24).take 24).all (fun c => isCode c || c.before args0 about1) = true := by decide +kernel
set_option maxRecDepth 65536 in
theorem w_t3 : ((words1.drop 24).drop 24).all (fun c => isCode c || c.before args0 about1) = true := by decide +kernel
theorem w_tables : (allAtoms (Jvm.Cond.code x code maxLocals ret :: tables_1)).before args0 about1 = true := by
  rw [allAtoms_all]
  show words1.all (fun c => c.before args0 about1) = true
  refine all_split ?_ w_codes
  rw [← List.take_append_drop 24 words1, List.all_append, w_t1, ← List.take_append_drop 24 (words1.drop 24), List.all_append, w_t2, w_t3]
  rfl
set_option maxRecDepth 65536 in
theorem w_case : (Jvm.Cond.and given_1 narrow_1).before args0 about1 = true := by decide +kernel
theorem w_applies : (headSpec (Jvm.Cond.code x code maxLocals ret :: tables_1) room_1).applies x e0.platform about1 = true :=
  (Spec.applies_iff w_frames).mpr ⟨w_running, w_runnable, w_alone, w_named, w_hears, w_ripe, w_room, w_tables⟩
theorem atStart : AtStart classFile x code maxLocals ret World_1 tables_1 room_1 Calls_1 rest_1 Pre_1 launch0 p0 e0 about1 theMethod args0 below0 :=
  ⟨lists_1, trivial, launch0.admits_env _ _ _, launch0.least_env, fairChoices_fair.cas, fairChoices_fair.clock, w_frames, w_args, w_heap, w_applies, trivial, trivial, w_case⟩
end start1
theorem witness_1 : WitnessClaimed_1 := ⟨start1.p0, start1.e0, start1.about1, start1.theMethod, start1.args0, start1.below0, start1.atStart⟩
end Jvm.Pilot.@@N@@
