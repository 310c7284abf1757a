import JvmDerived
import JvmDerived.Pilot.@@N@@Statement
import JvmDerived.Pilot.@@N@@Code
set_option linter.unusedVariables false
set_option linter.unusedSimpArgs false
namespace Jvm.Wk
open Sem ClassFile Op Lib Jvm.Stand Jvm.Free Jvm.LawKit Jvm.RoadKit
section W
variable {p : Program} {l : Launch} {e : Env} {R : Room} {s : State} {m : MethodId} {args : Array Value} {below : List Frame} {meth : Method} {c : Code} {T T' : State} {locs : List Loc} {cells slots : Nat} {Q : Option Value → Heap → List Loc → Prop} {K N pc n t : Nat} {Ls l' : Array Slot} {st rest : List Value} {Z : State} {a0 : Array Value} {h : Heap}
/-- the walk stands at the frame g over T and comes to an end that Q allows -/
def Go (p : Program) (e : Env) (below : List Frame) (s : State) (Q : Option Value → Heap → List Loc → Prop) (K N : Nat) (T : State) (g : JFrame) : Prop :=
  ∃ s₂ o, Steps p.tables e below (T.setTop g) s₂ ∧ s₂.status = .running ∧ Ended s₂ below o ∧ ∃ v L, o = .returned v ∧ Q v s₂.heap L ∧ FrameEnd s o s₂ L K N
theorem cut {A B : Prop} (h1 : A → B) (h2 : A) : B := h1 h2
theorem go {g g' : JFrame} (h : ∀ target, Steps p.tables e below (T'.setTop g') target → Steps p.tables e below (T.setTop g) target) (F : Go p e below s Q K N T' g') : Go p e below s Q K N T g := by
  obtain ⟨s₂, o, h1, r⟩ := F
  exact ⟨s₂, o, h _ h1, r⟩
/-- a boolean as an int -/
def b (P : Prop) [Decidable P] : Int32 := if P then 1 else 0
theorem b_t {P : Prop} [Decidable P] (h : P) : b P = 1 := if_pos h
theorem b_f {P : Prop} [Decidable P] (h : ¬ P) : b P = 0 := if_neg h
theorem b_iff {P P' : Prop} [Decidable P] [Decidable P'] (h : P ↔ P') : b P = b P' := by
  by_cases q : P
  · rw [b_t q, b_t (h.mp q)]
  · rw [b_f q, b_f (fun z => q (h.mpr z))]
theorem b_inj {P P' : Prop} [Decidable P] [Decidable P'] (h : b P = b P') : P ↔ P' := by
  by_cases q : P <;> by_cases q' : P' <;> simp_all [b]
/-- a mask with one more bit, or as it is -/
def ob (P : Prop) [Decidable P] (k x : Int32) : Int32 := if P then x ||| k else x
theorem ob_t {P : Prop} [Decidable P] {k x : Int32} (h : P) : ob P k x = x ||| k := if_pos h
theorem ob_f {P : Prop} [Decidable P] {k x : Int32} (h : ¬ P) : ob P k x = x := if_neg h
theorem goB1 {P : Prop} [Decidable P] (H : Go p e below s Q K N T (mkF m pc Ls (.int (b P) :: st))) (hP : P) : Go p e below s Q K N T (mkF m pc Ls (.int 1 :: st)) := by rw [b_t hP] at H; exact H
theorem goB0 {P : Prop} [Decidable P] (H : Go p e below s Q K N T (mkF m pc Ls (.int (b P) :: st))) (hP : ¬ P) : Go p e below s Q K N T (mkF m pc Ls (.int 0 :: st)) := by rw [b_f hP] at H; exact H

theorem iloadN (X : Stand p l e R s m args below meth c T locs cells slots) (hx : p.tables.exec = Jvm.exec) {k : Fin 4} {v : Int32} (hd : decode c.code pc = .ok (.iload_n k, 1)) (hl : Ls[k.val]? = some (.val (.int v))) (hn : pc + 1 = n) (F : Go p e below s Q K N T (mkF m n Ls (.int v :: st))) : Go p e below s Q K N T (mkF m pc Ls st) := by
  subst hn
  exact go (fun _ h => XS.iloadN X.here hx rfl hd hl h) F
theorem iload (X : Stand p l e R s m args below meth c T locs cells slots) (hx : p.tables.exec = Jvm.exec) {k : Nat} {v : Int32} (hd : decode c.code pc = .ok (.iload k, 2)) (hl : Ls[k]? = some (.val (.int v))) (hn : pc + 2 = n) (F : Go p e below s Q K N T (mkF m n Ls (.int v :: st))) : Go p e below s Q K N T (mkF m pc Ls st) := by
  subst hn
  exact go (fun _ h => XS.iload X.here hx rfl hd hl h) F
theorem aloadN (X : Stand p l e R s m args below meth c T locs cells slots) (hx : p.tables.exec = Jvm.exec) {k : Fin 4} {v : Value} (hd : decode c.code pc = .ok (.aload_n k, 1)) (hl : Ls[k.val]? = some (.val v)) (hv : v.isRef = true) (hn : pc + 1 = n) (F : Go p e below s Q K N T (mkF m n Ls (v :: st))) : Go p e below s Q K N T (mkF m pc Ls st) := by
  subst hn
  exact go (fun _ h => XS.aloadN X.here hx rfl hd hl hv h) F
theorem aload (X : Stand p l e R s m args below meth c T locs cells slots) (hx : p.tables.exec = Jvm.exec) {k : Nat} {v : Value} (hd : decode c.code pc = .ok (.aload k, 2)) (hl : Ls[k]? = some (.val v)) (hv : v.isRef = true) (hn : pc + 2 = n) (F : Go p e below s Q K N T (mkF m n Ls (v :: st))) : Go p e below s Q K N T (mkF m pc Ls st) := by
  subst hn
  exact go (fun _ h => XS.aload X.here hx rfl hd hl hv h) F
theorem lloadN (X : Stand p l e R s m args below meth c T locs cells slots) (hx : p.tables.exec = Jvm.exec) {k : Fin 4} {v : Int64} (hd : decode c.code pc = .ok (.lload_n k, 1)) (hl : Ls[k.val]? = some (.val (.long v))) (hn : pc + 1 = n) (F : Go p e below s Q K N T (mkF m n Ls (.long v :: st))) : Go p e below s Q K N T (mkF m pc Ls st) := by
  subst hn
  exact go (fun _ h => XT.lloadN X.here hx rfl hd hl h) F
theorem lload (X : Stand p l e R s m args below meth c T locs cells slots) (hx : p.tables.exec = Jvm.exec) {k : Nat} {v : Int64} (hd : decode c.code pc = .ok (.lload k, 2)) (hl : Ls[k]? = some (.val (.long v))) (hn : pc + 2 = n) (F : Go p e below s Q K N T (mkF m n Ls (.long v :: st))) : Go p e below s Q K N T (mkF m pc Ls st) := by
  subst hn
  exact go (fun _ h => XT.lload X.here hx rfl hd hl h) F
theorem istoreN (X : Stand p l e R s m args below meth c T locs cells slots) (hx : p.tables.exec = Jvm.exec) {k : Fin 4} {x : Int32} (hd : decode c.code pc = .ok (.istore_n k, 1)) (hl : storeLocals Ls k.val (.int x) = some l') (hn : pc + 1 = n) (F : Go p e below s Q K N T (mkF m n l' st)) : Go p e below s Q K N T (mkF m pc Ls (.int x :: st)) := by
  subst hn
  exact go (fun _ h => XS.istoreN X.here hx rfl hd rfl hl h) F
theorem istore (X : Stand p l e R s m args below meth c T locs cells slots) (hx : p.tables.exec = Jvm.exec) {k : Nat} {x : Int32} (hd : decode c.code pc = .ok (.istore k, 2)) (hl : storeLocals Ls k (.int x) = some l') (hn : pc + 2 = n) (F : Go p e below s Q K N T (mkF m n l' st)) : Go p e below s Q K N T (mkF m pc Ls (.int x :: st)) := by
  subst hn
  exact go (fun _ h => XS.istore X.here hx rfl hd rfl hl h) F
theorem astoreN (X : Stand p l e R s m args below meth c T locs cells slots) (hx : p.tables.exec = Jvm.exec) {k : Fin 4} {x : Value} (hd : decode c.code pc = .ok (.astore_n k, 1)) (hv : x.isRef = true) (hl : storeLocals Ls k.val x = some l') (hn : pc + 1 = n) (F : Go p e below s Q K N T (mkF m n l' st)) : Go p e below s Q K N T (mkF m pc Ls (x :: st)) := by
  subst hn
  exact go (fun _ h => XS.astoreN X.here hx rfl hd rfl hv hl h) F
theorem astore (X : Stand p l e R s m args below meth c T locs cells slots) (hx : p.tables.exec = Jvm.exec) {k : Nat} {x : Value} (hd : decode c.code pc = .ok (.astore k, 2)) (hv : x.isRef = true) (hl : storeLocals Ls k x = some l') (hn : pc + 2 = n) (F : Go p e below s Q K N T (mkF m n l' st)) : Go p e below s Q K N T (mkF m pc Ls (x :: st)) := by
  subst hn
  exact go (fun _ h => XS.astore X.here hx rfl hd rfl hv hl h) F
theorem lstoreN (X : Stand p l e R s m args below meth c T locs cells slots) (hx : p.tables.exec = Jvm.exec) {k : Fin 4} {x : Int64} (hd : decode c.code pc = .ok (.lstore_n k, 1)) (hl : storeLocals Ls k.val (.long x) = some l') (hn : pc + 1 = n) (F : Go p e below s Q K N T (mkF m n l' st)) : Go p e below s Q K N T (mkF m pc Ls (.long x :: st)) := by
  subst hn
  exact go (fun _ h => XT.lstoreN X.here hx rfl hd rfl hl h) F
theorem lstore (X : Stand p l e R s m args below meth c T locs cells slots) (hx : p.tables.exec = Jvm.exec) {k : Nat} {x : Int64} (hd : decode c.code pc = .ok (.lstore k, 2)) (hl : storeLocals Ls k (.long x) = some l') (hn : pc + 2 = n) (F : Go p e below s Q K N T (mkF m n l' st)) : Go p e below s Q K N T (mkF m pc Ls (.long x :: st)) := by
  subst hn
  exact go (fun _ h => XT.lstore X.here hx rfl hd rfl hl h) F
theorem iinc (X : Stand p l e R s m args below meth c T locs cells slots) (hx : p.tables.exec = Jvm.exec) {k : Nat} {cst : Int} {x : Int32} (v : Int32) (hd : decode c.code pc = .ok (.iinc k cst, 3)) (hv : Int32.ofInt cst = v) (hl : Ls[k]? = some (.val (.int x))) (hl' : storeLocals Ls k (.int (x + v)) = some l') (hn : pc + 3 = n) (F : Go p e below s Q K N T (mkF m n l' st)) : Go p e below s Q K N T (mkF m pc Ls st) := by
  subst hn
  exact go (fun _ h => XT.iincV X.here hx rfl v hd hv hl hl' h) F
theorem iconst (X : Stand p l e R s m args below meth c T locs cells slots) (hx : p.tables.exec = Jvm.exec) {i : Int} (v : Int32) (hd : decode c.code pc = .ok (.iconst i, 1)) (hv : Int32.ofInt i = v) (hn : pc + 1 = n) (F : Go p e below s Q K N T (mkF m n Ls (.int v :: st))) : Go p e below s Q K N T (mkF m pc Ls st) := by
  subst hn
  exact go (fun _ h => XT.iconstV X.here hx rfl v hd hv h) F
theorem bipush (X : Stand p l e R s m args below meth c T locs cells slots) (hx : p.tables.exec = Jvm.exec) {i : Int} (v : Int32) (hd : decode c.code pc = .ok (.bipush i, 2)) (hv : (Int8.ofInt i).toInt32 = v) (hn : pc + 2 = n) (F : Go p e below s Q K N T (mkF m n Ls (.int v :: st))) : Go p e below s Q K N T (mkF m pc Ls st) := by
  subst hn
  exact go (fun _ h => XT.bipushV X.here hx rfl v hd hv h) F
theorem sipush (X : Stand p l e R s m args below meth c T locs cells slots) (hx : p.tables.exec = Jvm.exec) {i : Int} (v : Int32) (hd : decode c.code pc = .ok (.sipush i, 3)) (hv : (Int16.ofInt i).toInt32 = v) (hn : pc + 3 = n) (F : Go p e below s Q K N T (mkF m n Ls (.int v :: st))) : Go p e below s Q K N T (mkF m pc Ls st) := by
  subst hn
  exact go (fun _ h => XT.sipushV X.here hx rfl v hd hv h) F
theorem lconst (X : Stand p l e R s m args below meth c T locs cells slots) (hx : p.tables.exec = Jvm.exec) {k : Fin 2} (v : Int64) (hd : decode c.code pc = .ok (.lconst k, 1)) (hv : Int64.ofNat k = v) (hn : pc + 1 = n) (F : Go p e below s Q K N T (mkF m n Ls (.long v :: st))) : Go p e below s Q K N T (mkF m pc Ls st) := by
  subst hn
  exact go (fun _ h => XT.lconstV X.here hx rfl v hd hv h) F
theorem anull (X : Stand p l e R s m args below meth c T locs cells slots) (hx : p.tables.exec = Jvm.exec)  (hd : decode c.code pc = .ok (.aconst_null, 1)) (hn : pc + 1 = n) (F : Go p e below s Q K N T (mkF m n Ls (.null :: st))) : Go p e below s Q K N T (mkF m pc Ls st) := by
  subst hn
  exact go (fun _ h => XS.aconstNull X.here hx rfl hd h) F
theorem ldcI (X : Stand p l e R s m args below meth c T locs cells slots) (hx : p.tables.exec = Jvm.exec) {own : String} {index : Nat} {v : Int32} (hZ : Z.Warmed39 s.vm) (hown : s.vm.findClass own = some m.cls) (wd : (Cond.constant own index v).before a0 Z = true) (hd : decode c.code pc = .ok (.ldc index, 2)) (hn : pc + 2 = n) (F : Go p e below s Q K N T (mkF m n Ls (.int v :: st))) : Go p e below s Q K N T (mkF m pc Ls st) := by
  subst hn
  exact go (fun _ h => X.ldcInt hx hown (mvT hZ wd) (g := mkF m pc Ls st) rfl hd _ h) F
theorem ldcW (X : Stand p l e R s m args below meth c T locs cells slots) (hx : p.tables.exec = Jvm.exec) {own : String} {index : Nat} {v : Int32} (hZ : Z.Warmed39 s.vm) (hown : s.vm.findClass own = some m.cls) (wd : (Cond.constant own index v).before a0 Z = true) (hd : decode c.code pc = .ok (.ldc_w index, 3)) (hn : pc + 3 = n) (F : Go p e below s Q K N T (mkF m n Ls (.int v :: st))) : Go p e below s Q K N T (mkF m pc Ls st) := by
  subst hn
  exact go (fun _ h => X.ldcwInt hx hown (mvT hZ wd) (g := mkF m pc Ls st) rfl hd _ h) F
theorem ldcJ (X : Stand p l e R s m args below meth c T locs cells slots) (hx : p.tables.exec = Jvm.exec) {own : String} {index : Nat} {v : Int64} (hZ : Z.Warmed39 s.vm) (hown : s.vm.findClass own = some m.cls) (wd : (Cond.constantLong own index v).before a0 Z = true) (hd : decode c.code pc = .ok (.ldc2_w index, 3)) (hn : pc + 3 = n) (F : Go p e below s Q K N T (mkF m n Ls (.long v :: st))) : Go p e below s Q K N T (mkF m pc Ls st) := by
  subst hn
  exact go (fun _ h => X.ldc2Long hx hown (mvT hZ wd) (g := mkF m pc Ls st) rfl hd _ h) F
theorem iadd (X : Stand p l e R s m args below meth c T locs cells slots) (hx : p.tables.exec = Jvm.exec) {x y : Int32} (hd : decode c.code pc = .ok (.iadd, 1)) (hn : pc + 1 = n) (F : Go p e below s Q K N T (mkF m n Ls (.int (x + y) :: st))) : Go p e below s Q K N T (mkF m pc Ls (.int y :: .int x :: st)) := by
  subst hn
  exact go (fun _ h => XS.iadd X.here hx rfl hd rfl h) F
theorem isub (X : Stand p l e R s m args below meth c T locs cells slots) (hx : p.tables.exec = Jvm.exec) {x y : Int32} (hd : decode c.code pc = .ok (.isub, 1)) (hn : pc + 1 = n) (F : Go p e below s Q K N T (mkF m n Ls (.int (x - y) :: st))) : Go p e below s Q K N T (mkF m pc Ls (.int y :: .int x :: st)) := by
  subst hn
  exact go (fun _ h => XS.isub X.here hx rfl hd rfl h) F
theorem iand (X : Stand p l e R s m args below meth c T locs cells slots) (hx : p.tables.exec = Jvm.exec) {x y : Int32} (hd : decode c.code pc = .ok (.iand, 1)) (hn : pc + 1 = n) (F : Go p e below s Q K N T (mkF m n Ls (.int (x &&& y) :: st))) : Go p e below s Q K N T (mkF m pc Ls (.int y :: .int x :: st)) := by
  subst hn
  exact go (fun _ h => XS.iand X.here hx rfl hd rfl h) F
theorem imul (X : Stand p l e R s m args below meth c T locs cells slots) (hx : p.tables.exec = Jvm.exec) {x y : Int32} (hd : decode c.code pc = .ok (.imul, 1)) (hn : pc + 1 = n) (F : Go p e below s Q K N T (mkF m n Ls (.int (x * y) :: st))) : Go p e below s Q K N T (mkF m pc Ls (.int y :: .int x :: st)) := by
  subst hn
  exact go (fun _ h => XS.imul X.here hx rfl hd rfl h) F
theorem ixor (X : Stand p l e R s m args below meth c T locs cells slots) (hx : p.tables.exec = Jvm.exec) {x y : Int32} (hd : decode c.code pc = .ok (.ixor, 1)) (hn : pc + 1 = n) (F : Go p e below s Q K N T (mkF m n Ls (.int (x ^^^ y) :: st))) : Go p e below s Q K N T (mkF m pc Ls (.int y :: .int x :: st)) := by
  subst hn
  exact go (fun _ h => XT.ixor X.here hx rfl hd rfl h) F
theorem ior (X : Stand p l e R s m args below meth c T locs cells slots) (hx : p.tables.exec = Jvm.exec) {x y : Int32} (hd : decode c.code pc = .ok (.ior, 1)) (hn : pc + 1 = n) (F : Go p e below s Q K N T (mkF m n Ls (.int (x ||| y) :: st))) : Go p e below s Q K N T (mkF m pc Ls (.int y :: .int x :: st)) := by
  subst hn
  exact go (fun _ h => XT.ior X.here hx rfl hd rfl h) F
theorem i2c (X : Stand p l e R s m args below meth c T locs cells slots) (hx : p.tables.exec = Jvm.exec) {x : Int32} (hd : decode c.code pc = .ok (.i2c, 1)) (hn : pc + 1 = n) (F : Go p e below s Q K N T (mkF m n Ls (.int x.toUInt32.toUInt16.toUInt32.toInt32 :: st))) : Go p e below s Q K N T (mkF m pc Ls (.int x :: st)) := by
  subst hn
  exact go (fun _ h => XT.i2c X.here hx rfl hd rfl h) F
theorem i2b (X : Stand p l e R s m args below meth c T locs cells slots) (hx : p.tables.exec = Jvm.exec) {x : Int32} (hd : decode c.code pc = .ok (.i2b, 1)) (hn : pc + 1 = n) (F : Go p e below s Q K N T (mkF m n Ls (.int x.toInt8.toInt32 :: st))) : Go p e below s Q K N T (mkF m pc Ls (.int x :: st)) := by
  subst hn
  exact go (fun _ h => XT.i2b X.here hx rfl hd rfl h) F
theorem i2l (X : Stand p l e R s m args below meth c T locs cells slots) (hx : p.tables.exec = Jvm.exec) {x : Int32} (hd : decode c.code pc = .ok (.i2l, 1)) (hn : pc + 1 = n) (F : Go p e below s Q K N T (mkF m n Ls (.long x.toInt64 :: st))) : Go p e below s Q K N T (mkF m pc Ls (.int x :: st)) := by
  subst hn
  exact go (fun _ h => XT.i2l X.here hx rfl hd rfl h) F
theorem l2i (X : Stand p l e R s m args below meth c T locs cells slots) (hx : p.tables.exec = Jvm.exec) {x : Int64} (hd : decode c.code pc = .ok (.l2i, 1)) (hn : pc + 1 = n) (F : Go p e below s Q K N T (mkF m n Ls (.int x.toInt32 :: st))) : Go p e below s Q K N T (mkF m pc Ls (.long x :: st)) := by
  subst hn
  exact go (fun _ h => XT.l2i X.here hx rfl hd rfl h) F
theorem ladd (X : Stand p l e R s m args below meth c T locs cells slots) (hx : p.tables.exec = Jvm.exec) {x y : Int64} (hd : decode c.code pc = .ok (.ladd, 1)) (hn : pc + 1 = n) (F : Go p e below s Q K N T (mkF m n Ls (.long (x + y) :: st))) : Go p e below s Q K N T (mkF m pc Ls (.long y :: .long x :: st)) := by
  subst hn
  exact go (fun _ h => XT.ladd X.here hx rfl hd rfl h) F
theorem lsub (X : Stand p l e R s m args below meth c T locs cells slots) (hx : p.tables.exec = Jvm.exec) {x y : Int64} (hd : decode c.code pc = .ok (.lsub, 1)) (hn : pc + 1 = n) (F : Go p e below s Q K N T (mkF m n Ls (.long (x - y) :: st))) : Go p e below s Q K N T (mkF m pc Ls (.long y :: .long x :: st)) := by
  subst hn
  exact go (fun _ h => XT.lsub X.here hx rfl hd rfl h) F
theorem lmul (X : Stand p l e R s m args below meth c T locs cells slots) (hx : p.tables.exec = Jvm.exec) {x y : Int64} (hd : decode c.code pc = .ok (.lmul, 1)) (hn : pc + 1 = n) (F : Go p e below s Q K N T (mkF m n Ls (.long (x * y) :: st))) : Go p e below s Q K N T (mkF m pc Ls (.long y :: .long x :: st)) := by
  subst hn
  exact go (fun _ h => XT.lmul X.here hx rfl hd rfl h) F
theorem land (X : Stand p l e R s m args below meth c T locs cells slots) (hx : p.tables.exec = Jvm.exec) {x y : Int64} (hd : decode c.code pc = .ok (.land, 1)) (hn : pc + 1 = n) (F : Go p e below s Q K N T (mkF m n Ls (.long (x &&& y) :: st))) : Go p e below s Q K N T (mkF m pc Ls (.long y :: .long x :: st)) := by
  subst hn
  exact go (fun _ h => XT.land X.here hx rfl hd rfl h) F
theorem lor (X : Stand p l e R s m args below meth c T locs cells slots) (hx : p.tables.exec = Jvm.exec) {x y : Int64} (hd : decode c.code pc = .ok (.lor, 1)) (hn : pc + 1 = n) (F : Go p e below s Q K N T (mkF m n Ls (.long (x ||| y) :: st))) : Go p e below s Q K N T (mkF m pc Ls (.long y :: .long x :: st)) := by
  subst hn
  exact go (fun _ h => XT.lor X.here hx rfl hd rfl h) F
theorem lxor (X : Stand p l e R s m args below meth c T locs cells slots) (hx : p.tables.exec = Jvm.exec) {x y : Int64} (hd : decode c.code pc = .ok (.lxor, 1)) (hn : pc + 1 = n) (F : Go p e below s Q K N T (mkF m n Ls (.long (x ^^^ y) :: st))) : Go p e below s Q K N T (mkF m pc Ls (.long y :: .long x :: st)) := by
  subst hn
  exact go (fun _ h => XT.lxor X.here hx rfl hd rfl h) F
theorem irem (X : Stand p l e R s m args below meth c T locs cells slots) (hx : p.tables.exec = Jvm.exec) {x y : Int32} (hd : decode c.code pc = .ok (.irem, 1)) (hy : y ≠ 0) (hn : pc + 1 = n) (F : Go p e below s Q K N T (mkF m n Ls (.int (x % y) :: st))) : Go p e below s Q K N T (mkF m pc Ls (.int y :: .int x :: st)) := by
  subst hn
  exact go (fun _ h => iremM X hx rfl hd rfl hy h) F
theorem idiv (X : Stand p l e R s m args below meth c T locs cells slots) (hx : p.tables.exec = Jvm.exec) {x y : Int32} (hd : decode c.code pc = .ok (.idiv, 1)) (hy : y ≠ 0) (hn : pc + 1 = n) (F : Go p e below s Q K N T (mkF m n Ls (.int (x / y) :: st))) : Go p e below s Q K N T (mkF m pc Ls (.int y :: .int x :: st)) := by
  subst hn
  exact go (fun _ h => XS.idiv X.here hx rfl hd rfl hy h) F
theorem dup (X : Stand p l e R s m args below meth c T locs cells slots) (hx : p.tables.exec = Jvm.exec) {x : Value} (hd : decode c.code pc = .ok (.dup, 1)) (hc : x.category = 1) (hn : pc + 1 = n) (F : Go p e below s Q K N T (mkF m n Ls (x :: x :: st))) : Go p e below s Q K N T (mkF m pc Ls (x :: st)) := by
  subst hn
  exact go (fun _ h => XS.dup X.here hx rfl hd rfl hc h) F
theorem pop (X : Stand p l e R s m args below meth c T locs cells slots) (hx : p.tables.exec = Jvm.exec) {x : Value} (hd : decode c.code pc = .ok (.pop, 1)) (hc : x.category = 1) (hn : pc + 1 = n) (F : Go p e below s Q K N T (mkF m n Ls st)) : Go p e below s Q K N T (mkF m pc Ls (x :: st)) := by
  subst hn
  exact go (fun _ h => XT.pop X.here hx rfl hd rfl hc h) F
theorem pop2L (X : Stand p l e R s m args below meth c T locs cells slots) (hx : p.tables.exec = Jvm.exec) {x : Int64} (hd : decode c.code pc = .ok (.pop2, 1)) (hn : pc + 1 = n) (F : Go p e below s Q K N T (mkF m n Ls st)) : Go p e below s Q K N T (mkF m pc Ls (.long x :: st)) := by
  subst hn
  refine go (fun _ h => ?_) F
  have ht := X.here
  jvm_step ht [ht.top, hx, hd, Value.category]
  exact h
theorem lshl (X : Stand p l e R s m args below meth c T locs cells slots) (hx : p.tables.exec = Jvm.exec) {x : Int64} {y : Int32} (hd : decode c.code pc = .ok (.lshl, 1)) (hn : pc + 1 = n) (F : Go p e below s Q K N T (mkF m n Ls (.long (x <<< (y.toInt64 &&& 63)) :: st))) : Go p e below s Q K N T (mkF m pc Ls (.int y :: .long x :: st)) := by
  subst hn
  exact go (fun _ h => XT.lshl X.here hx rfl hd rfl h) F
theorem lushr (X : Stand p l e R s m args below meth c T locs cells slots) (hx : p.tables.exec = Jvm.exec) {x : Int64} {y : Int32} (hd : decode c.code pc = .ok (.lushr, 1)) (hn : pc + 1 = n) (F : Go p e below s Q K N T (mkF m n Ls (.long (XT.ushrL x y) :: st))) : Go p e below s Q K N T (mkF m pc Ls (.int y :: .long x :: st)) := by
  subst hn
  exact go (fun _ h => XT.lushr X.here hx rfl hd rfl h) F
theorem iushr (X : Stand p l e R s m args below meth c T locs cells slots) (hx : p.tables.exec = Jvm.exec) {x y : Int32} (hd : decode c.code pc = .ok (.iushr, 1)) (hn : pc + 1 = n) (F : Go p e below s Q K N T (mkF m n Ls (.int (XT.ushr x y) :: st))) : Go p e below s Q K N T (mkF m pc Ls (.int y :: .int x :: st)) := by
  subst hn
  exact go (fun _ h => XT.iushr X.here hx rfl hd rfl h) F
theorem ishr (X : Stand p l e R s m args below meth c T locs cells slots) (hx : p.tables.exec = Jvm.exec) {x y : Int32} (hd : decode c.code pc = .ok (.ishr, 1)) (hn : pc + 1 = n) (F : Go p e below s Q K N T (mkF m n Ls (.int (x >>> (y &&& 31)) :: st))) : Go p e below s Q K N T (mkF m pc Ls (.int y :: .int x :: st)) := by
  subst hn
  exact go (fun _ h => XT.ishr X.here hx rfl hd rfl h) F
theorem ishl (X : Stand p l e R s m args below meth c T locs cells slots) (hx : p.tables.exec = Jvm.exec) {x y : Int32} (hd : decode c.code pc = .ok (.ishl, 1)) (hn : pc + 1 = n) (F : Go p e below s Q K N T (mkF m n Ls (.int (x <<< (y &&& 31)) :: st))) : Go p e below s Q K N T (mkF m pc Ls (.int y :: .int x :: st)) := by
  subst hn
  exact go (fun _ h => XT.ishl X.here hx rfl hd rfl h) F
theorem i2s (X : Stand p l e R s m args below meth c T locs cells slots) (hx : p.tables.exec = Jvm.exec) {x : Int32} (hd : decode c.code pc = .ok (.i2s, 1)) (hn : pc + 1 = n) (F : Go p e below s Q K N T (mkF m n Ls (.int x.toInt16.toInt32 :: st))) : Go p e below s Q K N T (mkF m pc Ls (.int x :: st)) := by
  subst hn
  exact go (fun _ h => XT.i2s X.here hx rfl hd rfl h) F
theorem goto (X : Stand p l e R s m args below meth c T locs cells slots) (hx : p.tables.exec = Jvm.exec) {o : Int} (t : Nat) (hd : decode c.code pc = .ok (.goto o, 3)) (ht : (pc : Int) + o = t) (F : Go p e below s Q K N T (mkF m t Ls st)) : Go p e below s Q K N T (mkF m pc Ls st) := go (fun _ h => XS.goto X.here hx rfl (pc0 := pc) (pc' := t) rfl hd (by rw [ht]; exact Int.natCast_nonneg _) (by rw [ht]; rfl) h) F
theorem holds_t {cd : ClassFile.Cond} {x y : Int32} : if_icmp.holds cd x y = true ↔ match cd with | .eq => x.toInt = y.toInt | .ne => ¬ x.toInt = y.toInt | .lt => x.toInt < y.toInt | .ge => y.toInt ≤ x.toInt | .gt => y.toInt < x.toInt | .le => x.toInt ≤ y.toInt := by
  cases cd <;> simp [if_icmp.holds, Int32.lt_iff_toInt_lt, Int32.le_iff_toInt_le, Int32.toInt_inj]
theorem icmp (X : Stand p l e R s m args below meth c T locs cells slots) (hx : p.tables.exec = Jvm.exec) {cd : ClassFile.Cond} {x y : Int32} {o : Int} (hd : decode c.code pc = .ok (.if_icmp cd o, 3)) (ht : (pc : Int) + o = t) (hn : pc + 3 = n) (FT : if_icmp.holds cd x y = true → Go p e below s Q K N T (mkF m t Ls rest)) (FF : ¬ if_icmp.holds cd x y = true → Go p e below s Q K N T (mkF m n Ls rest)) : Go p e below s Q K N T (mkF m pc Ls (.int y :: .int x :: rest)) := by
  subst hn
  by_cases q : if_icmp.holds cd x y = true
  · exact go (fun _ h => XS.icmpYes X.here hx rfl (pc0 := pc) (pc' := t) rfl hd rfl q (by rw [ht]; exact Int.natCast_nonneg _) (by rw [ht]; rfl) h) (FT q)
  · exact go (fun _ h => XS.icmpNo X.here hx rfl hd rfl (by simpa using q) h) (FF q)
theorem ifc (X : Stand p l e R s m args below meth c T locs cells slots) (hx : p.tables.exec = Jvm.exec) {cd : ClassFile.Cond} {x : Int32} {o : Int} (hd : decode c.code pc = .ok (.ifCond cd o, 3)) (ht : (pc : Int) + o = t) (hn : pc + 3 = n) (FT : if_icmp.holds cd x 0 = true → Go p e below s Q K N T (mkF m t Ls rest)) (FF : ¬ if_icmp.holds cd x 0 = true → Go p e below s Q K N T (mkF m n Ls rest)) : Go p e below s Q K N T (mkF m pc Ls (.int x :: rest)) := by
  subst hn
  by_cases q : if_icmp.holds cd x 0 = true
  · exact go (fun _ h => XS.ifYes X.here hx rfl (pc0 := pc) (pc' := t) rfl hd rfl ((if0 _ _).trans q) (by rw [ht]; exact Int.natCast_nonneg _) (by rw [ht]; rfl) h) (FT q)
  · exact go (fun _ h => XS.ifNo X.here hx rfl hd rfl ((if0 _ _).trans (by simpa using q)) h) (FF q)
theorem icmp_eq (X : Stand p l e R s m args below meth c T locs cells slots) (hx : p.tables.exec = Jvm.exec) {x y : Int32} {o : Int} (t n : Nat) (hd : decode c.code pc = .ok (.if_icmp .eq o, 3)) (ht : (pc : Int) + o = t) (hn : pc + 3 = n) {a b' : Int} (ha : x.toInt = a) (hb : y.toInt = b') (FT : a = b' → Go p e below s Q K N T (mkF m t Ls rest)) (FF : ¬ a = b' → Go p e below s Q K N T (mkF m n Ls rest)) : Go p e below s Q K N T (mkF m pc Ls (.int y :: .int x :: rest)) := by
  subst ha hb
  exact icmp X hx hd ht hn (fun q => FT (holds_t.mp q)) (fun q => FF (by have := mt holds_t.mpr q; first | exact this | exact Int.not_lt.mp this | exact Int.not_le.mp this | exact Classical.not_not.mp this))
theorem if_eq (X : Stand p l e R s m args below meth c T locs cells slots) (hx : p.tables.exec = Jvm.exec) {x : Int32} {o : Int} (t n : Nat) (hd : decode c.code pc = .ok (.ifCond .eq o, 3)) (ht : (pc : Int) + o = t) (hn : pc + 3 = n) {a : Int} (ha : x.toInt = a) (FT : a = 0 → Go p e below s Q K N T (mkF m t Ls rest)) (FF : ¬ a = 0 → Go p e below s Q K N T (mkF m n Ls rest)) : Go p e below s Q K N T (mkF m pc Ls (.int x :: rest)) := by
  subst ha
  exact ifc X hx hd ht hn (fun q => FT (holds_t.mp q)) (fun q => FF (by have := mt holds_t.mpr q; first | exact this | exact Int.not_lt.mp this | exact Int.not_le.mp this | exact Classical.not_not.mp this))
theorem icmp_ne (X : Stand p l e R s m args below meth c T locs cells slots) (hx : p.tables.exec = Jvm.exec) {x y : Int32} {o : Int} (t n : Nat) (hd : decode c.code pc = .ok (.if_icmp .ne o, 3)) (ht : (pc : Int) + o = t) (hn : pc + 3 = n) {a b' : Int} (ha : x.toInt = a) (hb : y.toInt = b') (FT : ¬ a = b' → Go p e below s Q K N T (mkF m t Ls rest)) (FF : a = b' → Go p e below s Q K N T (mkF m n Ls rest)) : Go p e below s Q K N T (mkF m pc Ls (.int y :: .int x :: rest)) := by
  subst ha hb
  exact icmp X hx hd ht hn (fun q => FT (holds_t.mp q)) (fun q => FF (by have := mt holds_t.mpr q; first | exact this | exact Int.not_lt.mp this | exact Int.not_le.mp this | exact Classical.not_not.mp this))
theorem if_ne (X : Stand p l e R s m args below meth c T locs cells slots) (hx : p.tables.exec = Jvm.exec) {x : Int32} {o : Int} (t n : Nat) (hd : decode c.code pc = .ok (.ifCond .ne o, 3)) (ht : (pc : Int) + o = t) (hn : pc + 3 = n) {a : Int} (ha : x.toInt = a) (FT : ¬ a = 0 → Go p e below s Q K N T (mkF m t Ls rest)) (FF : a = 0 → Go p e below s Q K N T (mkF m n Ls rest)) : Go p e below s Q K N T (mkF m pc Ls (.int x :: rest)) := by
  subst ha
  exact ifc X hx hd ht hn (fun q => FT (holds_t.mp q)) (fun q => FF (by have := mt holds_t.mpr q; first | exact this | exact Int.not_lt.mp this | exact Int.not_le.mp this | exact Classical.not_not.mp this))
theorem icmp_lt (X : Stand p l e R s m args below meth c T locs cells slots) (hx : p.tables.exec = Jvm.exec) {x y : Int32} {o : Int} (t n : Nat) (hd : decode c.code pc = .ok (.if_icmp .lt o, 3)) (ht : (pc : Int) + o = t) (hn : pc + 3 = n) {a b' : Int} (ha : x.toInt = a) (hb : y.toInt = b') (FT : a < b' → Go p e below s Q K N T (mkF m t Ls rest)) (FF : b' ≤ a → Go p e below s Q K N T (mkF m n Ls rest)) : Go p e below s Q K N T (mkF m pc Ls (.int y :: .int x :: rest)) := by
  subst ha hb
  exact icmp X hx hd ht hn (fun q => FT (holds_t.mp q)) (fun q => FF (by have := mt holds_t.mpr q; first | exact this | exact Int.not_lt.mp this | exact Int.not_le.mp this | exact Classical.not_not.mp this))
theorem if_lt (X : Stand p l e R s m args below meth c T locs cells slots) (hx : p.tables.exec = Jvm.exec) {x : Int32} {o : Int} (t n : Nat) (hd : decode c.code pc = .ok (.ifCond .lt o, 3)) (ht : (pc : Int) + o = t) (hn : pc + 3 = n) {a : Int} (ha : x.toInt = a) (FT : a < 0 → Go p e below s Q K N T (mkF m t Ls rest)) (FF : 0 ≤ a → Go p e below s Q K N T (mkF m n Ls rest)) : Go p e below s Q K N T (mkF m pc Ls (.int x :: rest)) := by
  subst ha
  exact ifc X hx hd ht hn (fun q => FT (holds_t.mp q)) (fun q => FF (by have := mt holds_t.mpr q; first | exact this | exact Int.not_lt.mp this | exact Int.not_le.mp this | exact Classical.not_not.mp this))
theorem icmp_ge (X : Stand p l e R s m args below meth c T locs cells slots) (hx : p.tables.exec = Jvm.exec) {x y : Int32} {o : Int} (t n : Nat) (hd : decode c.code pc = .ok (.if_icmp .ge o, 3)) (ht : (pc : Int) + o = t) (hn : pc + 3 = n) {a b' : Int} (ha : x.toInt = a) (hb : y.toInt = b') (FT : b' ≤ a → Go p e below s Q K N T (mkF m t Ls rest)) (FF : a < b' → Go p e below s Q K N T (mkF m n Ls rest)) : Go p e below s Q K N T (mkF m pc Ls (.int y :: .int x :: rest)) := by
  subst ha hb
  exact icmp X hx hd ht hn (fun q => FT (holds_t.mp q)) (fun q => FF (by have := mt holds_t.mpr q; first | exact this | exact Int.not_lt.mp this | exact Int.not_le.mp this | exact Classical.not_not.mp this))
theorem if_ge (X : Stand p l e R s m args below meth c T locs cells slots) (hx : p.tables.exec = Jvm.exec) {x : Int32} {o : Int} (t n : Nat) (hd : decode c.code pc = .ok (.ifCond .ge o, 3)) (ht : (pc : Int) + o = t) (hn : pc + 3 = n) {a : Int} (ha : x.toInt = a) (FT : 0 ≤ a → Go p e below s Q K N T (mkF m t Ls rest)) (FF : a < 0 → Go p e below s Q K N T (mkF m n Ls rest)) : Go p e below s Q K N T (mkF m pc Ls (.int x :: rest)) := by
  subst ha
  exact ifc X hx hd ht hn (fun q => FT (holds_t.mp q)) (fun q => FF (by have := mt holds_t.mpr q; first | exact this | exact Int.not_lt.mp this | exact Int.not_le.mp this | exact Classical.not_not.mp this))
theorem icmp_gt (X : Stand p l e R s m args below meth c T locs cells slots) (hx : p.tables.exec = Jvm.exec) {x y : Int32} {o : Int} (t n : Nat) (hd : decode c.code pc = .ok (.if_icmp .gt o, 3)) (ht : (pc : Int) + o = t) (hn : pc + 3 = n) {a b' : Int} (ha : x.toInt = a) (hb : y.toInt = b') (FT : b' < a → Go p e below s Q K N T (mkF m t Ls rest)) (FF : a ≤ b' → Go p e below s Q K N T (mkF m n Ls rest)) : Go p e below s Q K N T (mkF m pc Ls (.int y :: .int x :: rest)) := by
  subst ha hb
  exact icmp X hx hd ht hn (fun q => FT (holds_t.mp q)) (fun q => FF (by have := mt holds_t.mpr q; first | exact this | exact Int.not_lt.mp this | exact Int.not_le.mp this | exact Classical.not_not.mp this))
theorem if_gt (X : Stand p l e R s m args below meth c T locs cells slots) (hx : p.tables.exec = Jvm.exec) {x : Int32} {o : Int} (t n : Nat) (hd : decode c.code pc = .ok (.ifCond .gt o, 3)) (ht : (pc : Int) + o = t) (hn : pc + 3 = n) {a : Int} (ha : x.toInt = a) (FT : 0 < a → Go p e below s Q K N T (mkF m t Ls rest)) (FF : a ≤ 0 → Go p e below s Q K N T (mkF m n Ls rest)) : Go p e below s Q K N T (mkF m pc Ls (.int x :: rest)) := by
  subst ha
  exact ifc X hx hd ht hn (fun q => FT (holds_t.mp q)) (fun q => FF (by have := mt holds_t.mpr q; first | exact this | exact Int.not_lt.mp this | exact Int.not_le.mp this | exact Classical.not_not.mp this))
theorem icmp_le (X : Stand p l e R s m args below meth c T locs cells slots) (hx : p.tables.exec = Jvm.exec) {x y : Int32} {o : Int} (t n : Nat) (hd : decode c.code pc = .ok (.if_icmp .le o, 3)) (ht : (pc : Int) + o = t) (hn : pc + 3 = n) {a b' : Int} (ha : x.toInt = a) (hb : y.toInt = b') (FT : a ≤ b' → Go p e below s Q K N T (mkF m t Ls rest)) (FF : b' < a → Go p e below s Q K N T (mkF m n Ls rest)) : Go p e below s Q K N T (mkF m pc Ls (.int y :: .int x :: rest)) := by
  subst ha hb
  exact icmp X hx hd ht hn (fun q => FT (holds_t.mp q)) (fun q => FF (by have := mt holds_t.mpr q; first | exact this | exact Int.not_lt.mp this | exact Int.not_le.mp this | exact Classical.not_not.mp this))
theorem if_le (X : Stand p l e R s m args below meth c T locs cells slots) (hx : p.tables.exec = Jvm.exec) {x : Int32} {o : Int} (t n : Nat) (hd : decode c.code pc = .ok (.ifCond .le o, 3)) (ht : (pc : Int) + o = t) (hn : pc + 3 = n) {a : Int} (ha : x.toInt = a) (FT : a ≤ 0 → Go p e below s Q K N T (mkF m t Ls rest)) (FF : 0 < a → Go p e below s Q K N T (mkF m n Ls rest)) : Go p e below s Q K N T (mkF m pc Ls (.int x :: rest)) := by
  subst ha
  exact ifc X hx hd ht hn (fun q => FT (holds_t.mp q)) (fun q => FF (by have := mt holds_t.mpr q; first | exact this | exact Int.not_lt.mp this | exact Int.not_le.mp this | exact Classical.not_not.mp this))
theorem if_neB (X : Stand p l e R s m args below meth c T locs cells slots) (hx : p.tables.exec = Jvm.exec) {P : Prop} [Decidable P] {o : Int} (t n : Nat) (hd : decode c.code pc = .ok (.ifCond .ne o, 3)) (ht : (pc : Int) + o = t) (hn : pc + 3 = n) (FT : P → Go p e below s Q K N T (mkF m t Ls rest)) (FF : ¬ P → Go p e below s Q K N T (mkF m n Ls rest)) : Go p e below s Q K N T (mkF m pc Ls (.int (b P) :: rest)) := by
  refine ifc X hx hd ht hn (fun q => FT ?_) (fun q => FF ?_)
  · by_cases z : P
    · exact z
    · rw [b_f z] at q; exact absurd q (by decide)
  · intro z; rw [b_t z] at q; exact q (by decide)
theorem if_eqB (X : Stand p l e R s m args below meth c T locs cells slots) (hx : p.tables.exec = Jvm.exec) {P : Prop} [Decidable P] {o : Int} (t n : Nat) (hd : decode c.code pc = .ok (.ifCond .eq o, 3)) (ht : (pc : Int) + o = t) (hn : pc + 3 = n) (FT : ¬ P → Go p e below s Q K N T (mkF m t Ls rest)) (FF : P → Go p e below s Q K N T (mkF m n Ls rest)) : Go p e below s Q K N T (mkF m pc Ls (.int (b P) :: rest)) := by
  refine ifc X hx hd ht hn (fun q => FT ?_) (fun q => FF ?_)
  · intro z; rw [b_t z] at q; exact absurd q (by decide)
  · by_cases z : P
    · exact z
    · rw [b_f z] at q; exact absurd (by decide) q
theorem icmp_neB (X : Stand p l e R s m args below meth c T locs cells slots) (hx : p.tables.exec = Jvm.exec) {P P' : Prop} [Decidable P] [Decidable P'] {o : Int} (t n : Nat) (hd : decode c.code pc = .ok (.if_icmp .ne o, 3)) (ht : (pc : Int) + o = t) (hn : pc + 3 = n) (FT : ¬ (P ↔ P') → Go p e below s Q K N T (mkF m t Ls rest)) (FF : (P ↔ P') → Go p e below s Q K N T (mkF m n Ls rest)) : Go p e below s Q K N T (mkF m pc Ls (.int (b P') :: .int (b P) :: rest)) :=
  icmp_ne X hx t n hd ht hn rfl rfl (fun q => FT fun z => q (by rw [b_iff z])) (fun q => FF (b_inj (Int32.toInt_inj.mp q)))
theorem lcmp (X : Stand p l e R s m args below meth c T locs cells slots) (hx : p.tables.exec = Jvm.exec) {x y : Int64} (hd : decode c.code pc = .ok (.lcmp, 1)) (hn : pc + 1 = n) (F : Go p e below s Q K N T (mkF m n Ls (.int (lcmpW x y) :: st))) : Go p e below s Q K N T (mkF m pc Ls (.long y :: .long x :: st)) := by
  subst hn
  exact go (fun _ h => XT.lcmp X.here hx rfl hd rfl h) F
theorem lc_t {cd : ClassFile.Cond} {x y : Int64} : if_icmp.holds cd (lcmpW x y) 0 = true ↔ match cd with | .eq => x.toInt = y.toInt | .ne => ¬ x.toInt = y.toInt | .lt => x.toInt < y.toInt | .ge => y.toInt ≤ x.toInt | .gt => y.toInt < x.toInt | .le => x.toInt ≤ y.toInt := by
  have hgt : (x > y) ↔ y.toInt < x.toInt := Int64.lt_iff_toInt_lt
  have heq : (x = y) ↔ x.toInt = y.toInt := Int64.toInt_inj.symm
  by_cases q : x > y
  · have := hgt.mp q
    cases cd <;> simp [if_icmp.holds, lcmpW, q] <;> omega
  · have q1 := mt hgt.mpr q
    by_cases r : x = y
    · have := heq.mp r
      cases cd <;> simp [if_icmp.holds, lcmpW, r] 
    · have r1 := mt heq.mpr r
      cases cd <;> simp [if_icmp.holds, lcmpW, q, r] <;> omega
theorem lif_eq (X : Stand p l e R s m args below meth c T locs cells slots) (hx : p.tables.exec = Jvm.exec) {x y : Int64} {o : Int} (t n : Nat) (hd : decode c.code pc = .ok (.ifCond .eq o, 3)) (ht : (pc : Int) + o = t) (hn : pc + 3 = n) {a b' : Int} (ha : x.toInt = a) (hb : y.toInt = b') (FT : a = b' → Go p e below s Q K N T (mkF m t Ls rest)) (FF : ¬ a = b' → Go p e below s Q K N T (mkF m n Ls rest)) : Go p e below s Q K N T (mkF m pc Ls (.int (lcmpW x y) :: rest)) := by
  subst ha hb
  exact ifc X hx hd ht hn (fun q => FT (lc_t.mp q)) (fun q => FF (by have := mt lc_t.mpr q; first | exact this | exact Int.not_lt.mp this | exact Int.not_le.mp this | exact Classical.not_not.mp this))
theorem lif_ne (X : Stand p l e R s m args below meth c T locs cells slots) (hx : p.tables.exec = Jvm.exec) {x y : Int64} {o : Int} (t n : Nat) (hd : decode c.code pc = .ok (.ifCond .ne o, 3)) (ht : (pc : Int) + o = t) (hn : pc + 3 = n) {a b' : Int} (ha : x.toInt = a) (hb : y.toInt = b') (FT : ¬ a = b' → Go p e below s Q K N T (mkF m t Ls rest)) (FF : a = b' → Go p e below s Q K N T (mkF m n Ls rest)) : Go p e below s Q K N T (mkF m pc Ls (.int (lcmpW x y) :: rest)) := by
  subst ha hb
  exact ifc X hx hd ht hn (fun q => FT (lc_t.mp q)) (fun q => FF (by have := mt lc_t.mpr q; first | exact this | exact Int.not_lt.mp this | exact Int.not_le.mp this | exact Classical.not_not.mp this))
theorem lif_lt (X : Stand p l e R s m args below meth c T locs cells slots) (hx : p.tables.exec = Jvm.exec) {x y : Int64} {o : Int} (t n : Nat) (hd : decode c.code pc = .ok (.ifCond .lt o, 3)) (ht : (pc : Int) + o = t) (hn : pc + 3 = n) {a b' : Int} (ha : x.toInt = a) (hb : y.toInt = b') (FT : a < b' → Go p e below s Q K N T (mkF m t Ls rest)) (FF : b' ≤ a → Go p e below s Q K N T (mkF m n Ls rest)) : Go p e below s Q K N T (mkF m pc Ls (.int (lcmpW x y) :: rest)) := by
  subst ha hb
  exact ifc X hx hd ht hn (fun q => FT (lc_t.mp q)) (fun q => FF (by have := mt lc_t.mpr q; first | exact this | exact Int.not_lt.mp this | exact Int.not_le.mp this | exact Classical.not_not.mp this))
theorem lif_ge (X : Stand p l e R s m args below meth c T locs cells slots) (hx : p.tables.exec = Jvm.exec) {x y : Int64} {o : Int} (t n : Nat) (hd : decode c.code pc = .ok (.ifCond .ge o, 3)) (ht : (pc : Int) + o = t) (hn : pc + 3 = n) {a b' : Int} (ha : x.toInt = a) (hb : y.toInt = b') (FT : b' ≤ a → Go p e below s Q K N T (mkF m t Ls rest)) (FF : a < b' → Go p e below s Q K N T (mkF m n Ls rest)) : Go p e below s Q K N T (mkF m pc Ls (.int (lcmpW x y) :: rest)) := by
  subst ha hb
  exact ifc X hx hd ht hn (fun q => FT (lc_t.mp q)) (fun q => FF (by have := mt lc_t.mpr q; first | exact this | exact Int.not_lt.mp this | exact Int.not_le.mp this | exact Classical.not_not.mp this))
theorem lif_gt (X : Stand p l e R s m args below meth c T locs cells slots) (hx : p.tables.exec = Jvm.exec) {x y : Int64} {o : Int} (t n : Nat) (hd : decode c.code pc = .ok (.ifCond .gt o, 3)) (ht : (pc : Int) + o = t) (hn : pc + 3 = n) {a b' : Int} (ha : x.toInt = a) (hb : y.toInt = b') (FT : b' < a → Go p e below s Q K N T (mkF m t Ls rest)) (FF : a ≤ b' → Go p e below s Q K N T (mkF m n Ls rest)) : Go p e below s Q K N T (mkF m pc Ls (.int (lcmpW x y) :: rest)) := by
  subst ha hb
  exact ifc X hx hd ht hn (fun q => FT (lc_t.mp q)) (fun q => FF (by have := mt lc_t.mpr q; first | exact this | exact Int.not_lt.mp this | exact Int.not_le.mp this | exact Classical.not_not.mp this))
theorem lif_le (X : Stand p l e R s m args below meth c T locs cells slots) (hx : p.tables.exec = Jvm.exec) {x y : Int64} {o : Int} (t n : Nat) (hd : decode c.code pc = .ok (.ifCond .le o, 3)) (ht : (pc : Int) + o = t) (hn : pc + 3 = n) {a b' : Int} (ha : x.toInt = a) (hb : y.toInt = b') (FT : a ≤ b' → Go p e below s Q K N T (mkF m t Ls rest)) (FF : b' < a → Go p e below s Q K N T (mkF m n Ls rest)) : Go p e below s Q K N T (mkF m pc Ls (.int (lcmpW x y) :: rest)) := by
  subst ha hb
  exact ifc X hx hd ht hn (fun q => FT (lc_t.mp q)) (fun q => FF (by have := mt lc_t.mpr q; first | exact this | exact Int.not_lt.mp this | exact Int.not_le.mp this | exact Classical.not_not.mp this))
theorem acmp_ne (X : Stand p l e R s m args below meth c T locs cells slots) (hx : p.tables.exec = Jvm.exec) {x y : Value} {o : Int} (t n : Nat) (hd : decode c.code pc = .ok (.if_acmp .ne o, 3)) (ht : (pc : Int) + o = t) (hn : pc + 3 = n) (h1 : x.isRef = true) (h2 : y.isRef = true) (FT : ¬ x = y → Go p e below s Q K N T (mkF m t Ls rest)) (FF : x = y → Go p e below s Q K N T (mkF m n Ls rest)) : Go p e below s Q K N T (mkF m pc Ls (y :: x :: rest)) := by
  subst hn
  by_cases q : x = y
  · exact go (fun _ h => XT.acmpNo X.here hx rfl hd rfl h1 h2 (XT.aa_ne_f q) h) (FF q)
  · exact go (fun _ h => XT.acmpYes X.here hx rfl (pc0 := pc) (pc' := t) rfl hd rfl h1 h2 (XT.aa_ne_t q) (by rw [ht]; exact Int.natCast_nonneg _) (by rw [ht]; rfl) h) (FT q)
theorem acmp_eq (X : Stand p l e R s m args below meth c T locs cells slots) (hx : p.tables.exec = Jvm.exec) {x y : Value} {o : Int} (t n : Nat) (hd : decode c.code pc = .ok (.if_acmp .eq o, 3)) (ht : (pc : Int) + o = t) (hn : pc + 3 = n) (h1 : x.isRef = true) (h2 : y.isRef = true) (FT : x = y → Go p e below s Q K N T (mkF m t Ls rest)) (FF : ¬ x = y → Go p e below s Q K N T (mkF m n Ls rest)) : Go p e below s Q K N T (mkF m pc Ls (y :: x :: rest)) := by
  subst hn
  by_cases q : x = y
  · exact go (fun _ h => XT.acmpYes X.here hx rfl (pc0 := pc) (pc' := t) rfl hd rfl h1 h2 (XT.aa_eq_t q) (by rw [ht]; exact Int.natCast_nonneg _) (by rw [ht]; rfl) h) (FT q)
  · exact go (fun _ h => XT.acmpNo X.here hx rfl hd rfl h1 h2 (XT.aa_eq_f q) h) (FF q)
theorem nonnullR (X : Stand p l e R s m args below meth c T locs cells slots) (hx : p.tables.exec = Jvm.exec) {a : Addr} {o : Int} (t : Nat) (hd : decode c.code pc = .ok (.ifnonnull o, 3)) (ht : (pc : Int) + o = t) (F : Go p e below s Q K N T (mkF m t Ls rest)) : Go p e below s Q K N T (mkF m pc Ls (.ref a :: rest)) :=
  go (fun _ h => XT.ifnonnullYes X.here hx rfl (pc0 := pc) (pc' := t) rfl hd rfl (by rw [ht]; exact Int.natCast_nonneg _) (by rw [ht]; rfl) h) F
theorem nonnullN (X : Stand p l e R s m args below meth c T locs cells slots) (hx : p.tables.exec = Jvm.exec) {o : Int} (hd : decode c.code pc = .ok (.ifnonnull o, 3)) (hn : pc + 3 = n) (F : Go p e below s Q K N T (mkF m n Ls rest)) : Go p e below s Q K N T (mkF m pc Ls (.null :: rest)) := by
  subst hn
  exact go (fun _ h => XT.ifnonnullNo X.here hx rfl hd rfl h) F
theorem nullR (X : Stand p l e R s m args below meth c T locs cells slots) (hx : p.tables.exec = Jvm.exec) {a : Addr} {o : Int} (hd : decode c.code pc = .ok (.ifnull o, 3)) (hn : pc + 3 = n) (F : Go p e below s Q K N T (mkF m n Ls rest)) : Go p e below s Q K N T (mkF m pc Ls (.ref a :: rest)) := by
  subst hn
  exact go (fun _ h => XT.nullNo X.here hx rfl hd rfl rfl (by simp) h) F
theorem nullN (X : Stand p l e R s m args below meth c T locs cells slots) (hx : p.tables.exec = Jvm.exec) {o : Int} (t : Nat) (hd : decode c.code pc = .ok (.ifnull o, 3)) (ht : (pc : Int) + o = t) (F : Go p e below s Q K N T (mkF m t Ls rest)) : Go p e below s Q K N T (mkF m pc Ls (.null :: rest)) :=
  go (fun _ h => XT.nullYes X.here hx rfl (pc0 := pc) (pc' := t) rfl hd rfl rfl (by rw [ht]; exact Int.natCast_nonneg _) (by rw [ht]; rfl) h) F
theorem getS (X : Stand p l e R s m args below meth c T locs cells slots) (hx : p.tables.exec = Jvm.exec) (hZ : Z.Warmed39 s.vm) {own O f d host : String} {index : Nat} (hown : s.vm.findClass own = some m.cls) (w : (Cond.fieldLink own index O f d).before a0 Z = true ∨ (Cond.fieldLinkNest own index O f d host).before a0 Z = true) (eT : T.heap = h) {v : Value} (S : Sta Z h O f d v) (hd : decode c.code pc = .ok (.getstatic index, 3)) (hn : pc + 3 = n)
    (F : ∀ T', Stand p l e R s m args below meth c T' locs cells slots → T'.heap = h → Go p e below s Q K N T' (mkF m n Ls (v :: st))) : Go p e below s Q K N T (mkF m pc Ls st) := by
  subst hn
  obtain ⟨T', X', e', st'⟩ := getS2 X hx hZ hown (host := host) w Via.refl eT S (g := mkF m pc Ls st) rfl hd
  exact go (fun _ h => st' _ h) (F T' X' e')
theorem getF (X : Stand p l e R s m args below meth c T locs cells slots) (hx : p.tables.exec = Jvm.exec) (hZ : Z.Warmed39 s.vm) {own O f d host : String} {index : Nat} (hown : s.vm.findClass own = some m.cls) (w : (Cond.fieldLink own index O f d).before a0 Z = true ∨ (Cond.fieldLinkNest own index O f d host).before a0 Z = true) (eT : T.heap = h) {a : Addr} {v : Value} (S : Fld Z h a O f d v) (hd : decode c.code pc = .ok (.getfield index, 3)) (hn : pc + 3 = n)
    (F : ∀ T', Stand p l e R s m args below meth c T' locs cells slots → T'.heap = h → Go p e below s Q K N T' (mkF m n Ls (v :: st))) : Go p e below s Q K N T (mkF m pc Ls (.ref a :: st)) := by
  subst hn
  obtain ⟨T', X', e', st'⟩ := RoadKit.getF X hx hZ hown (host := host) w Via.refl eT S (g := mkF m pc Ls (.ref a :: st)) rfl rfl hd
  exact go (fun _ h => st' _ h) (F T' X' e')
theorem in_of {cl : Cell} {z j : Int32} (S : cl.slots.size = z.toNatClampNeg) (N : ¬ z < 0) (h1 : 0 ≤ j.toInt) (h2 : j.toInt < z.toInt) : ¬ (j < 0 ∨ cl.slots.size ≤ j.toNatClampNeg) := by
  rw [S, Int32.lt_iff_toInt_lt]
  rw [Int32.lt_iff_toInt_lt] at N
  have e0 : (0 : Int32).toInt = 0 := rfl
  have q1 : z.toNatClampNeg = z.toInt.toNat := rfl
  have q2 : j.toNatClampNeg = j.toInt.toNat := rfl
  omega
theorem alen (X : Stand p l e R s m args below meth c T locs cells slots) (hx : p.tables.exec = Jvm.exec) (hZ : Z.Warmed39 s.vm) {a : Addr} {k : ClassId} {ty : FieldType} {z : Int32} {vs : List Value} {d : Value} (eT : T.heap = h) (A : Arv Z h a k ty z vs d) (hd : decode c.code pc = .ok (.arraylength, 1)) (hn : pc + 1 = n) (F : Go p e below s Q K N T (mkF m n Ls (.int z :: st))) : Go p e below s Q K N T (mkF m pc Ls (.ref a :: st)) := by
  subst hn
  obtain ⟨cl, Ar, -, S, N, -, -⟩ := A
  refine go (fun _ h => X.arraylength hx (by rw [eT]; exact Ar.1) (State.isArrayOf_alike hZ.alike Ar.2.1) (g := mkF m pc Ls (.ref a :: st)) rfl rfl hd _ h) ?_
  rw [len_of S N]
  exact F
theorem iaload (X : Stand p l e R s m args below meth c T locs cells slots) (hx : p.tables.exec = Jvm.exec) (hZ : Z.Warmed39 s.vm) {a : Addr} {k : ClassId} {z j : Int32} {vs : List Value} {d v : Value} (eT : T.heap = h) (A : Arv Z h a k .int z vs d) (h1 : 0 ≤ j.toInt) (h2 : j.toInt < z.toInt) (hv : vs.getD j.toNatClampNeg d = v) (hd : decode c.code pc = .ok (.iaload, 1)) (hn : pc + 1 = n) (F : Go p e below s Q K N T (mkF m n Ls (v :: st))) : Go p e below s Q K N T (mkF m pc Ls (.int j :: .ref a :: st)) := by
  subst hn
  obtain ⟨cl, Ar, -, S, N, H, -⟩ := A
  have hin := in_of S N h1 h2
  exact go (fun _ h => X.iaload hx (j := j) (v := v) (by rw [eT]; exact Ar.1) (State.isArrayOf_alike hZ.alike Ar.2.1) Ar.2.2 hin (H.at hin hv) (g := mkF m pc Ls (.int j :: .ref a :: st)) rfl rfl hd _ h) F
theorem caload (X : Stand p l e R s m args below meth c T locs cells slots) (hx : p.tables.exec = Jvm.exec) (hZ : Z.Warmed39 s.vm) {a : Addr} {k : ClassId} {z j : Int32} {vs : List Value} {d v : Value} (eT : T.heap = h) (A : Arv Z h a k .char z vs d) (h1 : 0 ≤ j.toInt) (h2 : j.toInt < z.toInt) (hv : vs.getD j.toNatClampNeg d = v) (hd : decode c.code pc = .ok (.caload, 1)) (hn : pc + 1 = n) (F : Go p e below s Q K N T (mkF m n Ls (v :: st))) : Go p e below s Q K N T (mkF m pc Ls (.int j :: .ref a :: st)) := by
  subst hn
  obtain ⟨cl, Ar, -, S, N, H, -⟩ := A
  have hin := in_of S N h1 h2
  exact go (fun _ h => X.caload hx (j := j) (v := v) (by rw [eT]; exact Ar.1) (State.isArrayOf_alike hZ.alike Ar.2.1) Ar.2.2 hin (H.at hin hv) (g := mkF m pc Ls (.int j :: .ref a :: st)) rfl rfl hd _ h) F
theorem laload (X : Stand p l e R s m args below meth c T locs cells slots) (hx : p.tables.exec = Jvm.exec) (hZ : Z.Warmed39 s.vm) {a : Addr} {k : ClassId} {z j : Int32} {vs : List Value} {d v : Value} (eT : T.heap = h) (A : Arv Z h a k .long z vs d) (h1 : 0 ≤ j.toInt) (h2 : j.toInt < z.toInt) (hv : vs.getD j.toNatClampNeg d = v) (hd : decode c.code pc = .ok (.laload, 1)) (hn : pc + 1 = n) (F : Go p e below s Q K N T (mkF m n Ls (v :: st))) : Go p e below s Q K N T (mkF m pc Ls (.int j :: .ref a :: st)) := by
  subst hn
  obtain ⟨cl, Ar, -, S, N, H, -⟩ := A
  have hin := in_of S N h1 h2
  exact go (fun _ h => X.laload hx (j := j) (v := v) (by rw [eT]; exact Ar.1) (State.isArrayOf_alike hZ.alike Ar.2.1) Ar.2.2 hin (H.at hin hv) (g := mkF m pc Ls (.int j :: .ref a :: st)) rfl rfl hd _ h) F
theorem baload (X : Stand p l e R s m args below meth c T locs cells slots) (hx : p.tables.exec = Jvm.exec) (hZ : Z.Warmed39 s.vm) {a : Addr} {k : ClassId} {z j : Int32} {vs : List Value} {d v : Value} (eT : T.heap = h) (A : Arv Z h a k .byte z vs d) (h1 : 0 ≤ j.toInt) (h2 : j.toInt < z.toInt) (hv : vs.getD j.toNatClampNeg d = v) (hd : decode c.code pc = .ok (.baload, 1)) (hn : pc + 1 = n) (F : Go p e below s Q K N T (mkF m n Ls (v :: st))) : Go p e below s Q K N T (mkF m pc Ls (.int j :: .ref a :: st)) := by
  subst hn
  obtain ⟨cl, Ar, -, S, N, H, -⟩ := A
  have hin := in_of S N h1 h2
  exact go (fun _ h => X.baloadBytes hx (j := j) (v := v) (by rw [eT]; exact Ar.1) (State.isArrayOf_alike hZ.alike Ar.2.1) Ar.2.2 hin (H.at hin hv) (g := mkF m pc Ls (.int j :: .ref a :: st)) rfl rfl hd _ h) F
theorem aaload (X : Stand p l e R s m args below meth c T locs cells slots) (hx : p.tables.exec = Jvm.exec) (hZ : Z.Warmed39 s.vm) {a : Addr} {k : ClassId} {ty : FieldType} {z j : Int32} {vs : List Value} {d v : Value} (eT : T.heap = h) (A : Arv Z h a k ty z vs d) (hty : ty.isReference = true) (h1 : 0 ≤ j.toInt) (h2 : j.toInt < z.toInt) (hv : vs.getD j.toNatClampNeg d = v) (hd : decode c.code pc = .ok (.aaload, 1)) (hn : pc + 1 = n) (F : Go p e below s Q K N T (mkF m n Ls (v :: st))) : Go p e below s Q K N T (mkF m pc Ls (.int j :: .ref a :: st)) := by
  subst hn
  obtain ⟨cl, Ar, -, S, N, H, -⟩ := A
  have hin := in_of S N h1 h2
  exact go (fun _ h => X.aaload hx (j := j) (v := v) (by rw [eT]; exact Ar.1) (State.isArrayOf_alike hZ.alike Ar.2.1) hty Ar.2.2 hin (H.at hin hv) (g := mkF m pc Ls (.int j :: .ref a :: st)) rfl rfl hd _ h) F
theorem fin {w : Option Value} {g : JFrame} (X : Stand p l e R s m args below meth c T locs cells slots) (hlk : meth.locks = false) (hv : meth.sig.returnType = none → w = none) (hc : cells ≤ K) (hs : slots ≤ N) (hQ : Q w T.heap locs) (step : ∀ fs, (∀ (f : JFrame) (acts : List Action), f.method = m → f.locked = none → f.entered = [] → (doReturn e (T.setTop f) acts w).1 = T.setFrames fs) → Steps p.tables e below (T.setTop g) (T.setFrames fs)) : Go p e below s Q K N T g := by
  obtain ⟨fs, hr, hrun, hended, hW, hsame⟩ := X.leave (v := w) hv hlk
  exact ⟨_, _, step fs hr, hrun, hended, _, _, rfl, hQ, ⟨_, rfl⟩, hW, hsame.mono hc hs⟩
theorem retI (X : Stand p l e R s m args below meth c T locs cells slots) (hx : p.tables.exec = Jvm.exec) (hlk : meth.locks = false) (hret : meth.sig.returnType = some .int) {z : Int32} (hd : decode c.code pc = .ok (.ireturn, 1)) (hc : cells ≤ K) (hs : slots ≤ N) (hQ : Q (some (.int z)) T.heap locs) : Go p e below s Q K N T (mkF m pc Ls (.int z :: rest)) :=
  fin X hlk (fun h => by rw [hret] at h; cases h) hc hs hQ (fun _ hr => retOut X hx hret rfl (Or.inl ⟨rfl, Or.inl rfl, _, rfl⟩) hd hr)
theorem retZ (X : Stand p l e R s m args below meth c T locs cells slots) (hx : p.tables.exec = Jvm.exec) (hlk : meth.locks = false) (hret : meth.sig.returnType = some .boolean) {z : Int32} (hd : decode c.code pc = .ok (.ireturn, 1)) (hz : z = 0 ∨ z = 1) (hc : cells ≤ K) (hs : slots ≤ N) (hQ : Q (some (.int z)) T.heap locs) : Go p e below s Q K N T (mkF m pc Ls (.int z :: rest)) :=
  fin X hlk (fun h => by rw [hret] at h; cases h) hc hs hQ (fun _ hr => retOut X hx hret (by rcases hz with rfl | rfl <;> rfl) (Or.inl ⟨rfl, Or.inr (Or.inl rfl), _, rfl⟩) hd hr)
theorem b01 {P : Prop} [Decidable P] : b P = 0 ∨ b P = 1 := by by_cases q : P <;> simp [b, q]
theorem retC (X : Stand p l e R s m args below meth c T locs cells slots) (hx : p.tables.exec = Jvm.exec) (hlk : meth.locks = false) (hret : meth.sig.returnType = some .char) {z : Int32} (hd : decode c.code pc = .ok (.ireturn, 1)) (hz : narrow .char (.int z) = .int z) (hc : cells ≤ K) (hs : slots ≤ N) (hQ : Q (some (.int z)) T.heap locs) : Go p e below s Q K N T (mkF m pc Ls (.int z :: rest)) :=
  fin X hlk (fun h => by rw [hret] at h; cases h) hc hs hQ (fun _ hr => retOut X hx hret hz (Or.inl ⟨rfl, Or.inr (Or.inr (Or.inr (Or.inl rfl))), _, rfl⟩) hd hr)
theorem retB (X : Stand p l e R s m args below meth c T locs cells slots) (hx : p.tables.exec = Jvm.exec) (hlk : meth.locks = false) (hret : meth.sig.returnType = some .byte) {z : Int32} (hd : decode c.code pc = .ok (.ireturn, 1)) (hz : narrow .byte (.int z) = .int z) (hc : cells ≤ K) (hs : slots ≤ N) (hQ : Q (some (.int z)) T.heap locs) : Go p e below s Q K N T (mkF m pc Ls (.int z :: rest)) :=
  fin X hlk (fun h => by rw [hret] at h; cases h) hc hs hQ (fun _ hr => retOut X hx hret hz (Or.inl ⟨rfl, Or.inr (Or.inr (Or.inl rfl)), _, rfl⟩) hd hr)
theorem retL (X : Stand p l e R s m args below meth c T locs cells slots) (hx : p.tables.exec = Jvm.exec) (hlk : meth.locks = false) (hret : meth.sig.returnType = some .long) {z : Int64} (hd : decode c.code pc = .ok (.lreturn, 1)) (hc : cells ≤ K) (hs : slots ≤ N) (hQ : Q (some (.long z)) T.heap locs) : Go p e below s Q K N T (mkF m pc Ls (.long z :: rest)) :=
  fin X hlk (fun h => by rw [hret] at h; cases h) hc hs hQ (fun _ hr => retOut X hx hret rfl (Or.inr (Or.inl ⟨rfl, rfl, _, rfl⟩)) hd hr)
theorem retA (X : Stand p l e R s m args below meth c T locs cells slots) (hx : p.tables.exec = Jvm.exec) (hlk : meth.locks = false) {ty : FieldType} (hret : meth.sig.returnType = some ty) (hty : ty.isReference = true) {v : Value} (hv : v.isRef = true) (hd : decode c.code pc = .ok (.areturn, 1)) (hc : cells ≤ K) (hs : slots ≤ N) (hQ : Q (some v) T.heap locs) : Go p e below s Q K N T (mkF m pc Ls (v :: rest)) :=
  fin X hlk (fun h => by rw [hret] at h; cases h) hc hs hQ (fun _ hr => retOut X hx hret (by cases ty <;> cases v <;> first | rfl | simp [Value.isRef] at hv | simp [FieldType.isReference] at hty) (Or.inr (Or.inr (Or.inr (Or.inr ⟨rfl, hty, hv⟩)))) hd hr)
theorem retV (X : Stand p l e R s m args below meth c T locs cells slots) (hx : p.tables.exec = Jvm.exec) (hlk : meth.locks = false) (hret : meth.sig.returnType = none) (hd : decode c.code pc = .ok (.return_, 1)) (hc : cells ≤ K) (hs : slots ≤ N) (hQ : Q none T.heap locs) : Go p e below s Q K N T (mkF m pc Ls []) :=
  fin X hlk (fun _ => rfl) hc hs hQ (fun _ hr => X.returnOut hx hret hd hr)
/-- a method's contract: with the arguments as', over the heap h0, it comes back and Q holds -/
def Met (l : Launch) (Z : State) (y : MethodName) (bytes : ByteArray) (maxL : Nat) (ret : Option FieldType) (ws : List Cond) (rm : Room) (as' : Array Value) (h0 : Heap) (Q : Option Value → Heap → List Loc → Prop) : Prop :=
  MetFree l y (head1 (Cond.code y bytes maxL ret :: ws) rm) (fun a U => a = as' ∧ Z.Warmed39 U.vm ∧ U.heap = h0) (fun _ _ _ _ _ => True) (fun _ U o U' => ∃ v L, o = .returned v ∧ Q v U'.heap L ∧ FrameEnd U o U' L rm.cells rm.slots)
/-- nothing written, nothing made: it returns w -/
def Pu (w : Value) (h0 : Heap) (v : Option Value) (h : Heap) (L : List Loc) : Prop := v = some w ∧ L = [] ∧ h = h0
theorem start {y : MethodName} {bytes : ByteArray} {maxL : Nat} {ret : Option FieldType} {ws : List Cond} {rm : Room} {as' : Array Value} {h0 : Heap} (pn : plainName y.cls = true)
    (body : ∀ (p : Program) (e : Env) (s : State) (m : MethodId) (below : List Frame) (meth : Method) (c : Code) (s₁ : State), Stand p l e rm s m as' below meth c s₁ [] 0 0 → p.tables.exec = Jvm.exec → c.code = bytes → c.maxLocals = maxL → s.vm.findClass y.cls = some m.cls → meth.name = y.name → meth.sig.returnType = ret → meth.locks = false → Z.Warmed39 s.vm → s₁.heap = h0 → Go p e below s Q rm.cells rm.slots s₁ (entryFrame m as' maxL)) : Met l Z y bytes maxL ret ws rm as' h0 Q := by
  refine MetFree.of_bodySF (plainFor_of_name pn) hisR ?_
  intro p e s m args below meth c s₁ Bd hml0 hP hK
  obtain ⟨rfl, hZ, hh⟩ := hP
  exact body p e s m below meth c s₁ (Stand.of_body Bd) Bd.exec Bd.bytes hml0 (findClass_of_methodNamed Bd.named) (name_of_methodNamed Bd.named Bd.method).1 Bd.returns Bd.notSynchronized hZ (by rw [← hh, Bd.state]; rfl)
theorem enter {g g' : JFrame} (q : g = g') (F : Go p e below s Q K N T g') : Go p e below s Q K N T g := q ▸ F
theorem callS (X : Stand p l e R s m args below meth c T locs cells slots) (hx : p.tables.exec = Jvm.exec) (hZ : Z.Warmed39 s.vm) {own : String} {index : Nat} {y : MethodName} {bytes : ByteArray} {maxL W : Nat} {ret : Option FieldType} {rm : Room} {Qc : Option Value → Heap → List Loc → Prop} {argsL : List Value} (hown : s.vm.findClass own = some m.cls)
    (wl : (Cond.methodLink own index y).before a0 Z = true) (ws : (Cond.static y).before a0 Z = true) (wi : (Cond.initialized y.cls).before a0 Z = true) (wc : (Cond.code y bytes maxL ret).before a0 Z = true) (hy : y.cls ≠ "java/lang/invoke/MethodHandle" ∧ y.cls ≠ "java/lang/invoke/VarHandle")
    (hM : Met l Z y bytes maxL ret [] rm argsL.toArray h Qc) (eT : T.heap = h) (hf : rm.frames + 1 ≤ R.frames) (hl : W + (maxL + 11) + rm.locals ≤ R.locals) (hck : cells + rm.cells ≤ R.cells) (hsk : slots + rm.slots ≤ R.slots) (hsz : Ls.size = c.maxLocals)
    (hlen : ∀ sig, parseMethodDescriptor y.desc = some sig → argsL.length = sig.parameters.length) (hst : st = argsL.reverse ++ rest) (hW : (rest.map fun v => v.category).sum ≤ W) (hd : decode c.code pc = .ok (.invokestatic index, 3)) (hn : pc + 3 = n)
    (F : ∀ T' v L, Stand p l e R s m args below meth c T' (locs ++ L) (cells + rm.cells) (slots + rm.slots) → Qc v T'.heap L → Go p e below s Q K N T' (mkF m n Ls (v.toList ++ rest))) : Go p e below s Q K N T (mkF m pc Ls st) := by
  subst hn
  obtain ⟨v, _, ⟨T18, L18, k18, n18⟩, -, X18, ⟨Lc18, hQ18, l18, y18, z18⟩, st18⟩ := Jvm.LawKit.callS X hx (y := y) hown (mvT hZ wl) (mvT hZ ws) (mvT hZ wi) (mvT hZ wc) hy (backOf (W := W) hM hZ wc wi hf hl) (g := mkF m pc Ls st) rfl hsz (argsL := argsL) (rest := rest) hlen hst (by show 2 * 0 + _ ≤ _; omega) hd (fun _ _ => ⟨rfl, eT, hck, hsk⟩)
  dsimp only [Pt.U, Pt.locs, Pt.cells, Pt.slots] at X18 l18 y18 z18 st18 hQ18
  subst l18 y18 z18
  exact go (fun _ h => st18 _ h) (F T18 v Lc18 X18 hQ18)
theorem callP (X : Stand p l e R s m args below meth c T locs cells slots) (hx : p.tables.exec = Jvm.exec) (hZ : Z.Warmed39 s.vm) {own : String} {index : Nat} {y : MethodName} {bytes : ByteArray} {maxL W : Nat} {ret : Option FieldType} {fr lo : Nat} {w : Value} {argsL : List Value} (hown : s.vm.findClass own = some m.cls)
    (wl : (Cond.methodLink own index y).before a0 Z = true) (ws : (Cond.static y).before a0 Z = true) (wi : (Cond.initialized y.cls).before a0 Z = true) (wc : (Cond.code y bytes maxL ret).before a0 Z = true) (hy : y.cls ≠ "java/lang/invoke/MethodHandle" ∧ y.cls ≠ "java/lang/invoke/VarHandle")
    (hM : Met l Z y bytes maxL ret [] { frames := fr, cells := 0, slots := 0, locals := lo } argsL.toArray h (Pu w h)) (eT : T.heap = h) (hf : fr + 1 ≤ R.frames) (hl : W + (maxL + 11) + lo ≤ R.locals) (hck : cells ≤ R.cells) (hsk : slots ≤ R.slots) (hsz : Ls.size = c.maxLocals)
    (hlen : ∀ sig, parseMethodDescriptor y.desc = some sig → argsL.length = sig.parameters.length) (hst : st = argsL.reverse ++ rest) (hW : (rest.map fun v => v.category).sum ≤ W) (hd : decode c.code pc = .ok (.invokestatic index, 3)) (hn : pc + 3 = n)
    (F : ∀ T', Stand p l e R s m args below meth c T' locs cells slots → T'.heap = h → Go p e below s Q K N T' (mkF m n Ls (w :: rest))) : Go p e below s Q K N T (mkF m pc Ls st) := by
  refine callS X hx hZ hown wl ws wi wc hy hM eT hf hl hck hsk hsz hlen hst hW hd hn ?_
  rintro T' v L X' ⟨rfl, rfl, hh⟩
  rw [List.append_nil] at X'
  exact F T' X' hh
theorem callV (X : Stand p l e R s m args below meth c T locs cells slots) (hx : p.tables.exec = Jvm.exec) (hZ : Z.Warmed39 s.vm) {own C : String} {index : Nat} {y z : MethodName} {bytes : ByteArray} {maxL W : Nat} {ret : Option FieldType} {rm : Room} {Qc : Option Value → Heap → List Loc → Prop} {argsL : List Value} {a : Addr} (hown : s.vm.findClass own = some m.cls)
    (wl : (Cond.methodLink own index y).before a0 Z = true) (wd : (Cond.declares y).before a0 Z = true) (wsel : (Cond.selects C y z).before a0 Z = true) (wm : (Cond.instanceMethod z).before a0 Z = true) (wi : (Cond.initialized z.cls).before a0 Z = true) (wc : (Cond.code z bytes maxL ret).before a0 Z = true) (hnf : NotFace s y) (hy : y.cls ≠ "java/lang/invoke/MethodHandle" ∧ y.cls ≠ "java/lang/invoke/VarHandle")
    (hM : Met l Z z bytes maxL ret [] rm (Value.ref a :: argsL).toArray h Qc) (eT : T.heap = h) (E : Exa Z h a C) (hf : rm.frames + 1 ≤ R.frames) (hl : W + (maxL + 11) + rm.locals ≤ R.locals) (hck : cells + rm.cells ≤ R.cells) (hsk : slots + rm.slots ≤ R.slots) (hsz : Ls.size = c.maxLocals)
    (hlen : ∀ sig, parseMethodDescriptor y.desc = some sig → argsL.length = sig.parameters.length) (hst : st = argsL.reverse ++ .ref a :: rest) (hW : (rest.map fun v => v.category).sum ≤ W) (hd : decode c.code pc = .ok (.invokevirtual index, 3)) (hn : pc + 3 = n)
    (F : ∀ T' v L, Stand p l e R s m args below meth c T' (locs ++ L) (cells + rm.cells) (slots + rm.slots) → Qc v T'.heap L → Go p e below s Q K N T' (mkF m n Ls (v.toList ++ rest))) : Go p e below s Q K N T (mkF m pc Ls st) := by
  subst hn
  obtain ⟨cq, kq, qa, qb, qc⟩ := isOf hZ eT E
  obtain ⟨v, _, ⟨T18, L18, k18, n18⟩, -, X18, ⟨Lc18, hQ18, l18, y18, z18⟩, st18⟩ := X.virtualBack hx (y := y) (z := z) hown (mvT hZ wl) (mvT hZ wd) hnf (mvT hZ wsel) (mvT hZ wm) hy (backOf (W := W) hM hZ wc wi hf hl) qa qc (g := mkF m pc Ls st) rfl hsz (Steps.refl _) (argsL := argsL) (rest := rest) hlen hst (by show 2 * 0 + _ ≤ _; omega) hd (fun _ _ => ⟨rfl, eT, hck, hsk⟩)
  dsimp only [Pt.U, Pt.locs, Pt.cells, Pt.slots] at X18 l18 y18 z18 st18 hQ18
  subst l18 y18 z18
  exact go (fun _ h => st18.trans h) (F T18 v Lc18 X18 hQ18)
theorem callVP (X : Stand p l e R s m args below meth c T locs cells slots) (hx : p.tables.exec = Jvm.exec) (hZ : Z.Warmed39 s.vm) {own C : String} {index : Nat} {y z : MethodName} {bytes : ByteArray} {maxL W : Nat} {ret : Option FieldType} {fr lo : Nat} {w : Value} {argsL : List Value} {a : Addr} (hown : s.vm.findClass own = some m.cls)
    (wl : (Cond.methodLink own index y).before a0 Z = true) (wd : (Cond.declares y).before a0 Z = true) (wsel : (Cond.selects C y z).before a0 Z = true) (wm : (Cond.instanceMethod z).before a0 Z = true) (wi : (Cond.initialized z.cls).before a0 Z = true) (wc : (Cond.code z bytes maxL ret).before a0 Z = true) (hnf : NotFace s y) (hy : y.cls ≠ "java/lang/invoke/MethodHandle" ∧ y.cls ≠ "java/lang/invoke/VarHandle")
    (hM : Met l Z z bytes maxL ret [] { frames := fr, cells := 0, slots := 0, locals := lo } (Value.ref a :: argsL).toArray h (Pu w h)) (eT : T.heap = h) (E : Exa Z h a C) (hf : fr + 1 ≤ R.frames) (hl : W + (maxL + 11) + lo ≤ R.locals) (hck : cells ≤ R.cells) (hsk : slots ≤ R.slots) (hsz : Ls.size = c.maxLocals)
    (hlen : ∀ sig, parseMethodDescriptor y.desc = some sig → argsL.length = sig.parameters.length) (hst : st = argsL.reverse ++ .ref a :: rest) (hW : (rest.map fun v => v.category).sum ≤ W) (hd : decode c.code pc = .ok (.invokevirtual index, 3)) (hn : pc + 3 = n)
    (F : ∀ T', Stand p l e R s m args below meth c T' locs cells slots → T'.heap = h → Go p e below s Q K N T' (mkF m n Ls (w :: rest))) : Go p e below s Q K N T (mkF m pc Ls st) := by
  refine callV X hx hZ hown wl wd wsel wm wi wc hnf hy hM eT E hf hl hck hsk hsz hlen hst hW hd hn ?_
  rintro T' v L X' ⟨rfl, rfl, hh⟩
  rw [List.append_nil] at X'
  exact F T' X' hh
theorem icmp_eqB (X : Stand p l e R s m args below meth c T locs cells slots) (hx : p.tables.exec = Jvm.exec) {P P' : Prop} [Decidable P] [Decidable P'] {o : Int} (t n : Nat) (hd : decode c.code pc = .ok (.if_icmp .eq o, 3)) (ht : (pc : Int) + o = t) (hn : pc + 3 = n) (FT : (P ↔ P') → Go p e below s Q K N T (mkF m t Ls rest)) (FF : ¬ (P ↔ P') → Go p e below s Q K N T (mkF m n Ls rest)) : Go p e below s Q K N T (mkF m pc Ls (.int (b P') :: .int (b P) :: rest)) :=
  icmp_eq X hx t n hd ht hn rfl rfl (fun q => FT (b_inj (Int32.toInt_inj.mp q))) (fun q => FF fun z => q (by rw [b_iff z]))
theorem tsw (X : Stand p l e R s m args below meth c T locs cells slots) (hx : p.tables.exec = Jvm.exec) {dflt low high : Int} {offs : Array Int} {len : Nat} {o : Int} {i : Int32} (t : Nat) (hd : decode c.code pc = .ok (.tableswitch dflt low high offs, len)) (hin : ¬ (i.toInt < low ∨ i.toInt > high)) (hoff : offs[(i.toInt - low).toNat]? = some o) (ht : (pc : Int) + o = t) (F : Go p e below s Q K N T (mkF m t Ls rest)) : Go p e below s Q K N T (mkF m pc Ls (.int i :: rest)) :=
  go (fun _ h => XS.tswIn X.here hx rfl (pc0 := pc) (pc' := t) rfl hd rfl hin hoff (by rw [ht]; exact Int.natCast_nonneg _) (by rw [ht]; rfl) h) F
theorem callVU (X : Stand p l e R s m args below meth c T locs cells slots) (hx : p.tables.exec = Jvm.exec) (hZ : Z.Warmed39 s.vm) {own C owner : String} {index : Nat} {y z : MethodName} {bytes : ByteArray} {maxL W : Nat} {ret : Option FieldType} {rm : Room} {Qc : Option Value → Heap → List Loc → Prop} {argsL : List Value} {a : Addr} (hown : s.vm.findClass own = some m.cls)
    (wl : (Cond.methodLink own index y).before a0 Z = true) (wsm : (Cond.sameMethod y.cls owner y.name y.desc).before a0 Z = true) (wd : (Cond.declares ⟨owner, y.name, y.desc⟩).before a0 Z = true) (wsel : (Cond.selects C y z).before a0 Z = true) (wm : (Cond.instanceMethod z).before a0 Z = true) (wi : (Cond.initialized z.cls).before a0 Z = true) (wc : (Cond.code z bytes maxL ret).before a0 Z = true) (hy : owner ≠ "java/lang/invoke/MethodHandle" ∧ owner ≠ "java/lang/invoke/VarHandle")
    (hM : Met l Z z bytes maxL ret [] rm (Value.ref a :: argsL).toArray h Qc) (eT : T.heap = h) (E : Exa Z h a C) (hf : rm.frames + 1 ≤ R.frames) (hl : W + (maxL + 11) + rm.locals ≤ R.locals) (hck : cells + rm.cells ≤ R.cells) (hsk : slots + rm.slots ≤ R.slots) (hsz : Ls.size = c.maxLocals)
    (hlen : ∀ sig, parseMethodDescriptor y.desc = some sig → argsL.length = sig.parameters.length) (hst : st = argsL.reverse ++ .ref a :: rest) (hW : (rest.map fun v => v.category).sum ≤ W) (hd : decode c.code pc = .ok (.invokevirtual index, 3)) (hn : pc + 3 = n)
    (F : ∀ T' v L, Stand p l e R s m args below meth c T' (locs ++ L) (cells + rm.cells) (slots + rm.slots) → Qc v T'.heap L → Go p e below s Q K N T' (mkF m n Ls (v.toList ++ rest))) : Go p e below s Q K N T (mkF m pc Ls st) := by
  subst hn
  obtain ⟨cq, kq, qa, qb, qc⟩ := isOf hZ eT E
  obtain ⟨v, _, ⟨T18, L18, k18, n18⟩, -, X18, ⟨Lc18, hQ18, l18, y18, z18⟩, st18⟩ := X.virtualBackUp hx (x := y) (y := z) hown (mvT hZ wl) (mvT hZ wsm) (mvT hZ wd) hy (mvT hZ wsel) (mvT hZ wm) (backOf (W := W) hM hZ wc wi hf hl) qa qc (g := mkF m pc Ls st) rfl hsz (Steps.refl _) (argsL := argsL) (rest := rest) hlen hst (by show 2 * 0 + _ ≤ _; omega) hd (fun _ _ => ⟨rfl, eT, hck, hsk⟩)
  dsimp only [Pt.U, Pt.locs, Pt.cells, Pt.slots] at X18 l18 y18 z18 st18 hQ18
  subst l18 y18 z18
  exact go (fun _ h => st18.trans h) (F T18 v Lc18 X18 hQ18)
theorem callVUP (X : Stand p l e R s m args below meth c T locs cells slots) (hx : p.tables.exec = Jvm.exec) (hZ : Z.Warmed39 s.vm) {own C owner : String} {index : Nat} {y z : MethodName} {bytes : ByteArray} {maxL W : Nat} {ret : Option FieldType} {fr lo : Nat} {w : Value} {argsL : List Value} {a : Addr} (hown : s.vm.findClass own = some m.cls)
    (wl : (Cond.methodLink own index y).before a0 Z = true) (wsm : (Cond.sameMethod y.cls owner y.name y.desc).before a0 Z = true) (wd : (Cond.declares ⟨owner, y.name, y.desc⟩).before a0 Z = true) (wsel : (Cond.selects C y z).before a0 Z = true) (wm : (Cond.instanceMethod z).before a0 Z = true) (wi : (Cond.initialized z.cls).before a0 Z = true) (wc : (Cond.code z bytes maxL ret).before a0 Z = true) (hy : owner ≠ "java/lang/invoke/MethodHandle" ∧ owner ≠ "java/lang/invoke/VarHandle")
    (hM : Met l Z z bytes maxL ret [] { frames := fr, cells := 0, slots := 0, locals := lo } (Value.ref a :: argsL).toArray h (Pu w h)) (eT : T.heap = h) (E : Exa Z h a C) (hf : fr + 1 ≤ R.frames) (hl : W + (maxL + 11) + lo ≤ R.locals) (hck : cells ≤ R.cells) (hsk : slots ≤ R.slots) (hsz : Ls.size = c.maxLocals)
    (hlen : ∀ sig, parseMethodDescriptor y.desc = some sig → argsL.length = sig.parameters.length) (hst : st = argsL.reverse ++ .ref a :: rest) (hW : (rest.map fun v => v.category).sum ≤ W) (hd : decode c.code pc = .ok (.invokevirtual index, 3)) (hn : pc + 3 = n)
    (F : ∀ T', Stand p l e R s m args below meth c T' locs cells slots → T'.heap = h → Go p e below s Q K N T' (mkF m n Ls (w :: rest))) : Go p e below s Q K N T (mkF m pc Ls st) := by
  refine callVU X hx hZ hown wl wsm wd wsel wm wi wc hy hM eT E hf hl hck hsk hsz hlen hst hW hd hn ?_
  rintro T' v L X' ⟨rfl, rfl, hh⟩
  rw [List.append_nil] at X'
  exact F T' X' hh
theorem cutF (g' : JFrame) {g : JFrame} (h1 : Go p e below s Q K N T g' → Go p e below s Q K N T g) (h2 : Go p e below s Q K N T g') : Go p e below s Q K N T g := h1 h2
theorem cutJ (g' : Int32 → JFrame) {g : JFrame} (h1 : (∀ j, Go p e below s Q K N T (g' j)) → Go p e below s Q K N T g) (h2 : ∀ j, Go p e below s Q K N T (g' j)) : Go p e below s Q K N T g := h1 h2
theorem cutX (X : Stand p l e R s m args below meth c T locs cells slots) (eT : T.heap = h) (g' : JFrame) {g : JFrame} (h1 : (∀ T', Stand p l e R s m args below meth c T' locs cells slots → T'.heap = h → Go p e below s Q K N T' g') → Go p e below s Q K N T g) (h2 : ∀ T', Stand p l e R s m args below meth c T' locs cells slots → T'.heap = h → Go p e below s Q K N T' g') : Go p e below s Q K N T g := h1 h2
theorem pu {w : Value} {h' : Heap} (e : h' = h) : Pu w h (some w) h' [] := ⟨rfl, rfl, e⟩
theorem puE {w w' : Value} {h' : Heap} (q : w' = w) (e : h' = h) : Pu w h (some w') h' [] := ⟨by rw [q], rfl, e⟩
theorem puB1 {P : Prop} [Decidable P] {h' : Heap} (hP : P) (e : h' = h) : Pu (.int (b P)) h (some (.int 1)) h' [] := ⟨by rw [b_t hP], rfl, e⟩
theorem puB0 {P : Prop} [Decidable P] {h' : Heap} (hP : ¬ P) (e : h' = h) : Pu (.int (b P)) h (some (.int 0)) h' [] := ⟨by rw [b_f hP], rfl, e⟩
end W
section A
theorem t_add {x y : Int32} {a b' : Int} (ha : x.toInt = a) (hb : y.toInt = b') (h1 : -2147483648 ≤ a + b') (h2 : a + b' < 2147483648) : (x + y).toInt = a + b' := by
  subst ha hb; rw [Int32.toInt_add]; exact Int.bmod_eq_of_le (by omega) (by omega)
theorem t_sub {x y : Int32} {a b' : Int} (ha : x.toInt = a) (hb : y.toInt = b') (h1 : -2147483648 ≤ a - b') (h2 : a - b' < 2147483648) : (x - y).toInt = a - b' := by
  subst ha hb; rw [Int32.toInt_sub]; exact Int.bmod_eq_of_le (by omega) (by omega)
theorem t_mul {x y : Int32} {a b' : Int} (ha : x.toInt = a) (hb : y.toInt = b') (h1 : -2147483648 ≤ a * b') (h2 : a * b' < 2147483648) : (x * y).toInt = a * b' := by
  subst ha hb; rw [Int32.toInt_mul]; exact Int.bmod_eq_of_le (by omega) (by omega)
theorem t_div {x y : Int32} {a d : Int} (ha : x.toInt = a) (hb : y.toInt = d) (h0 : 0 ≤ a) (hd : 0 < d) : (x / y).toInt = a / d := by
  subst ha hb
  have hy : y ≠ -1 := fun q => by rw [q] at hd; exact absurd hd (by decide)
  exact (c_idiv x y _ rfl hy).1 h0
theorem t_rem {x y : Int32} {a d : Int} (ha : x.toInt = a) (hb : y.toInt = d) (h0 : 0 ≤ a) : (x % y).toInt = a % d := by
  subst ha hb; exact (c_irem x y _ rfl).1 h0
theorem s_add {x y : Int64} {a b' : Int} (ha : x.toInt = a) (hb : y.toInt = b') (h1 : -9223372036854775808 ≤ a + b') (h2 : a + b' < 9223372036854775808) : (x + y).toInt = a + b' := by
  subst ha hb; rw [Int64.toInt_add]; exact Int.bmod_eq_of_le (by omega) (by omega)
theorem s_sub {x y : Int64} {a b' : Int} (ha : x.toInt = a) (hb : y.toInt = b') (h1 : -9223372036854775808 ≤ a - b') (h2 : a - b' < 9223372036854775808) : (x - y).toInt = a - b' := by
  subst ha hb; rw [Int64.toInt_sub]; exact Int.bmod_eq_of_le (by omega) (by omega)
theorem t_i2l {x : Int32} {a : Int} (ha : x.toInt = a) : x.toInt64.toInt = a := by rw [Int32.toInt_toInt64]; exact ha
theorem s_l2i {x : Int64} {a : Int} (ha : x.toInt = a) (h1 : -2147483648 ≤ a) (h2 : a < 2147483648) : x.toInt32.toInt = a := by
  have := c_l2i x; have h3 := x.toInt32.toInt_lt; have h4 := x.toInt32.le_toInt; omega
theorem t_i2s {x : Int32} {a : Int} (ha : x.toInt = a) (h1 : -32768 ≤ a) (h2 : a < 32768) : x.toInt16.toInt32.toInt = a := by
  have := c_i2s x; omega
end A
section V
variable {args : Array Value} {first s : State} {o : Option Outcome} {idx : List Nat} {t : Term}
theorem eqI_v {k : Int32} (h : (Cond.eq t (.int k)).value args first o s idx = some true) : t.eval args first o idx s = some (.int k) := by
  simp only [Cond.value, Term.eval] at h
  cases ht : t.eval args first o idx s with
  | none => simp [ht] at h
  | some x => cases x <;> simp [ht] at h ⊢; exact h
theorem eqJ_v {k : Int64} (h : (Cond.eq t (.long k)).value args first o s idx = some true) : t.eval args first o idx s = some (.long k) := by
  simp only [Cond.value, Term.eval] at h
  cases ht : t.eval args first o idx s with
  | none => simp [ht] at h
  | some x => cases x <;> simp [ht] at h ⊢; exact h
theorem foldl_all {f : Nat → Option Bool} : ∀ (L : List Nat) (acc : Option Bool), L.foldl (fun acc i => match acc with | some true => f i | x => x) acc = some true → acc = some true ∧ ∀ i ∈ L, f i = some true
  | [], acc, h => ⟨h, fun _ q => nomatch q⟩
  | i :: L, acc, h => by
    obtain ⟨h1, h2⟩ := foldl_all L _ h
    match acc, h1 with
    | some true, h1 => exact ⟨rfl, fun j q => (List.mem_cons.mp q).elim (fun z => z ▸ h1) (h2 j)⟩
theorem all_v {c : Cond} {a : Addr} {cell : Cell} (h : (Cond.all t c).value args first o s idx = some true) (ht : t.eval args first o idx s = some (.ref a)) (hc : s.arrayAt? a = some cell) : ∀ i, i < cell.slots.size → c.value args first o s (i :: idx) = some true := by
  simp only [Cond.value, ht, hc] at h
  exact fun i hi => (foldl_all _ _ h).2 i (List.mem_range.mpr hi)
theorem elI {x : Addr} {j k : Int32} {cl : Cell} {i : Nat} (h : (Cond.eq (.elem t (.int j)) (.int k)).value args first o s idx = some true) (ht : t.eval args first o idx s = some (.ref x)) (hc : s.heap[x]? = some cl) (hi : j.toNatClampNeg = i) : cl.slots[i]? = some (.int k) := by
  subst hi; exact (elem_in (eqI_v h) ht rfl hc).2
theorem elN {x : Addr} {j : Int32} {cl : Cell} {i : Nat} (h : (Cond.eq (.elem t (.int j)) .null).value args first o s idx = some true) (ht : t.eval args first o idx s = some (.ref x)) (hc : s.heap[x]? = some cl) (hi : j.toNatClampNeg = i) : cl.slots[i]? = some .null := by
  subst hi; exact (elem_in (null_v h) ht rfl hc).2
theorem eqR_v {t' : Term} {v : Value} (hv : v.isRef = true) (h : (Cond.eq t t').value args first o s idx = some true) (ht : t'.eval args first o idx s = some v) : t.eval args first o idx s = some v := by
  obtain ⟨x, y, e1, e2, k1, k2⟩ := cmp_v (Or.inl h)
  cases ht.symm.trans e2
  have hx : x.isRef = true := by rcases ref_cases hv with rfl | ⟨z, rfl⟩ <;> exact k2.2
  rw [e1, gotT (eq_R e1 e2 hx hv) h]
theorem elR {x y : Addr} {j : Int32} {cl : Cell} {i : Nat} {t' : Term} (h : (Cond.eq (.elem t (.int j)) t').value args first o s idx = some true) (hy : t'.eval args first o idx s = some (.ref y)) (ht : t.eval args first o idx s = some (.ref x)) (hc : s.heap[x]? = some cl) (hi : j.toNatClampNeg = i) : cl.slots[i]? = some (.ref y) := by
  subst hi; exact (elem_in (eqR_v rfl h hy) ht rfl hc).2
theorem or_f {c d : Cond} (h : (Cond.or c d).value args first o s idx = some true) (hc : c.value args first o s idx = some false) : d.value args first o s idx = some true := by
  simpa only [Cond.value, hc] using h
theorem len_fit {x : Addr} {cl : Cell} {ty : FieldType} {k : Int32} {Z : State} (h : (Cond.eq (.length t) (.int k)).value args Z none Z [] = some true) (ht : t.eval args Z none [] Z = some (.ref x)) (A : Arr Z Z.heap x cl ty) : cl.slots.size < 2 ^ 31 ∧ cl.slots.size.toInt32 = k := by
  have h1 := eqI_v h
  have h2 : Z.arrayAt? x = some cl := A.fin (Vm.Alike.refl _)
  simp only [Term.eval, ht, h2, Option.bind_eq_bind, Option.bind_some] at h1
  by_cases q : cl.slots.size < 2 ^ 31
  · simp [q] at h1; exact ⟨q, h1⟩
  · simp [q] at h1
theorem fldI {Z : State} {a : Addr} {C n d : String} {k : Int32} (ev : t.eval args Z none [] Z = some (.ref a)) (h : (Cond.eq (.field t C n d) (.int k)).value args Z none Z [] = some true) : Fld Z Z.heap a C n d (.int k) := Fld.start ((fld_at ev).symm.trans (eqI_v h))
theorem fldJ {Z : State} {a : Addr} {C n d : String} {k : Int64} (ev : t.eval args Z none [] Z = some (.ref a)) (h : (Cond.eq (.field t C n d) (.long k)).value args Z none Z [] = some true) : Fld Z Z.heap a C n d (.long k) := Fld.start ((fld_at ev).symm.trans (eqJ_v h))
end V

section H
variable {p : Program} {l : Launch} {e : Env} {R : Room} {s : State} {m : MethodId} {args : Array Value} {below : List Frame} {meth : Method} {c : Code} {T T' : State} {locs : List Loc} {cells slots : Nat} {Q : Option Value → Heap → List Loc → Prop} {K N pc n t : Nat} {Ls l' : Array Slot} {st rest : List Value} {Z : State} {a0 : Array Value} {h : Heap}
/-- a law that writes only what it made -/
def Fq (w : Value) (n0 : Nat) (v : Option Value) (h : Heap) (L : List Loc) : Prop := v = some w ∧ Fr n0 L
theorem newO (X : Stand p l e R s m args below meth c T locs cells slots) (hx : p.tables.exec = Jvm.exec) (hZ : Z.Warmed39 s.vm) {own C : String} {index k : Nat} (hown : s.vm.findClass own = some m.cls) (w : (Cond.classLink own index C).before a0 Z = true) (wi : (Cond.instantiable C k).before a0 Z = true) (wz : (Cond.initialized C).before a0 Z = true) (eT : T.heap = h) (hd : decode c.code pc = .ok (.new index, 3)) (hc : cells + 1 ≤ R.cells) (hl : slots + k ≤ R.slots) (hn : pc + 3 = n)
    (F : ∀ T' h', Stand p l e R s m args below meth c T' locs (cells + 1) (slots + k) → T'.heap = h' → Ext h h' → Exa Z h' h.size C → (∀ {O nm d : String} {ty : FieldType}, Laid Z a0 C O nm d → parseFieldDescriptor d = some ty → Fld Z h' h.size O nm d (defaultValue ty)) → Go p e below s Q K N T' (mkF m n Ls (.ref h.size :: st))) : Go p e below s Q K N T (mkF m pc Ls st) := by
  subst hn
  obtain ⟨T2, h2, X2, e2, E2, A2, D2, -, st2⟩ := RoadKit.newO X hx hZ hown w wi wz eT (g := mkF m pc Ls st) rfl hd hc hl
  exact go (fun _ h => st2 _ h) (F T2 h2 X2 e2 E2 A2 D2)
theorem putF (X : Stand p l e R s m args below meth c T locs cells slots) (hx : p.tables.exec = Jvm.exec) (hZ : Z.Warmed39 s.vm) {own O f d host C : String} {index kk : Nat} {ty : FieldType} (hown : s.vm.findClass own = some m.cls) (w : (Cond.fieldLink own index O f d).before a0 Z = true ∨ (Cond.fieldLinkNest own index O f d host).before a0 Z = true) (eT : T.heap = h) {a : Addr} {v old : Value} (S : Fld Z h a O f d old) (E : Exa Z h a C)
    (L : (Cond.lays C O f d).before a0 Z = true ∨ ((Cond.laysFinal C O f d).before a0 Z = true ∧ own = O ∧ meth.name = "<init>")) (wi : (Cond.instantiable C kk).before a0 Z = true) (hty : parseFieldDescriptor d = some ty) (hnr : narrow ty v = v) (hf : fits ty v = true) (hd : decode c.code pc = .ok (.putfield index, 3)) (hn : pc + 3 = n)
    (F : ∀ T' h', Stand p l e R s m args below meth c T' (locs ++ [⟨a, RoadKit.slotOf Z O f d⟩]) cells slots → T'.heap = h' → Wr h h' a (RoadKit.slotOf Z O f d) v → Go p e below s Q K N T' (mkF m n Ls st)) : Go p e below s Q K N T (mkF m pc Ls (v :: .ref a :: st)) := by
  subst hn
  obtain ⟨T2, h2, X2, e2, W2, st2⟩ := RoadKit.putF X hx hZ hown (host := host) w Via.refl eT S E L wi hty hnr hf (g := mkF m pc Ls (v :: .ref a :: st)) rfl rfl hd
  exact go (fun _ h => st2 _ h) (F T2 h2 X2 e2 W2)
theorem initO (X : Stand p l e R s m args below meth c T locs cells slots) (hx : p.tables.exec = Jvm.exec) (hZ : Z.Warmed39 s.vm) {own : String} {idx W : Nat} (hown : s.vm.findClass own = some m.cls) (w1 : (Cond.methodLink own idx Lib.objectInit).before a0 Z = true) (w2 : (Cond.instanceMethod Lib.objectInit).before a0 Z = true) (w3 : (Cond.code Lib.objectInit ⟨#[0xb1]⟩ 1 none).before a0 Z = true) (eT : T.heap = h) {a : Addr} (hsz : Ls.size = c.maxLocals) (hf : 1 ≤ R.frames) (hW : (st.map fun v => v.category).sum ≤ W) (hl : W + 12 ≤ R.locals) (hd : decode c.code pc = .ok (.invokespecial idx, 3)) (hn : pc + 3 = n)
    (F : ∀ T', Stand p l e R s m args below meth c T' locs cells slots → T'.heap = h → Go p e below s Q K N T' (mkF m n Ls st)) : Go p e below s Q K N T (mkF m pc Ls (.ref a :: st)) := by
  subst hn
  obtain ⟨T2, X2, e2, st2⟩ := RoadKit.initO X hx hZ hown w1 w2 w3 eT (g := mkF m pc Ls (.ref a :: st)) rfl hsz rfl hd hf (W := W) (by show 2 * 0 + _ ≤ _; omega) hl
  exact go (fun _ h => st2 _ h) (F T2 X2 e2)
theorem callI (X : Stand p l e R s m args below meth c T locs cells slots) (hx : p.tables.exec = Jvm.exec) (hZ : Z.Warmed39 s.vm) {own : String} {index : Nat} {y : MethodName} {bytes : ByteArray} {maxL W : Nat} {rm : Room} {Qc : Option Value → Heap → List Loc → Prop} {argsL : List Value} {a : Addr} (hy1 : y.name = "<init>") (hown : s.vm.findClass own = some m.cls)
    (wl : (Cond.methodLink own index y).before a0 Z = true) (wm : (Cond.instanceMethod y).before a0 Z = true) (wi : (Cond.initialized y.cls).before a0 Z = true) (wc : (Cond.code y bytes maxL none).before a0 Z = true) (hy : y.cls ≠ "java/lang/invoke/MethodHandle" ∧ y.cls ≠ "java/lang/invoke/VarHandle")
    (hM : Met l Z y bytes maxL none [] rm (Value.ref a :: argsL).toArray h Qc) (eT : T.heap = h) (hf : rm.frames + 1 ≤ R.frames) (hl : W + (maxL + 11) + rm.locals ≤ R.locals) (hck : cells + rm.cells ≤ R.cells) (hsk : slots + rm.slots ≤ R.slots) (hsz : Ls.size = c.maxLocals)
    (hlen : ∀ sig, parseMethodDescriptor y.desc = some sig → argsL.length = sig.parameters.length) (hst : st = argsL.reverse ++ .ref a :: rest) (hW : (rest.map fun v => v.category).sum ≤ W) (hd : decode c.code pc = .ok (.invokespecial index, 3)) (hn : pc + 3 = n)
    (F : ∀ T' v L, Stand p l e R s m args below meth c T' (locs ++ L) (cells + rm.cells) (slots + rm.slots) → Qc v T'.heap L → Go p e below s Q K N T' (mkF m n Ls (v.toList ++ rest))) : Go p e below s Q K N T (mkF m pc Ls st) := by
  subst hn
  obtain ⟨v, _, ⟨T18, L18, k18, n18⟩, -, X18, ⟨Lc18, hQ18, l18, y18, z18⟩, st18⟩ := X.specialBack hx (y := y) hy1 hown (mvT hZ wl) (mvT hZ wm) (mvT hZ wc) hy (backOf (W := W) hM hZ wc wi hf hl) (g := mkF m pc Ls st) rfl hsz (Steps.refl _) (a := a) (argsL := argsL) (rest := rest) hlen hst (by show 2 * 0 + _ ≤ _; omega) hd (fun _ _ => ⟨rfl, eT, hck, hsk⟩)
  dsimp only [Pt.U, Pt.locs, Pt.cells, Pt.slots] at X18 l18 y18 z18 st18 hQ18
  subst l18 y18 z18
  exact go (fun _ h => st18.trans h) (F T18 v Lc18 X18 hQ18)
theorem instY (X : Stand p l e R s m args below meth c T locs cells slots) (hx : p.tables.exec = Jvm.exec) (hZ : Z.Warmed39 s.vm) {own C : String} {index : Nat} (hown : s.vm.findClass own = some m.cls) (w : (Cond.classLink own index C).before a0 Z = true) (eT : T.heap = h) {a : Addr} (E : Exa Z h a C) (hd : decode c.code pc = .ok (.instanceof index, 3)) (hn : pc + 3 = n)
    (F : ∀ T', Stand p l e R s m args below meth c T' locs cells slots → T'.heap = h → Go p e below s Q K N T' (mkF m n Ls (.int 1 :: st))) : Go p e below s Q K N T (mkF m pc Ls (.ref a :: st)) := by
  subst hn
  obtain ⟨T2, X2, e2, st2⟩ := RoadKit.instY X hx hZ hown w eT (Ins.self E) (g := mkF m pc Ls (.ref a :: st)) rfl rfl hd
  exact go (fun _ h => st2 _ h) (F T2 X2 e2)
theorem castY (X : Stand p l e R s m args below meth c T locs cells slots) (hx : p.tables.exec = Jvm.exec) (hZ : Z.Warmed39 s.vm) {own C : String} {index : Nat} (hown : s.vm.findClass own = some m.cls) (w : (Cond.classLink own index C).before a0 Z = true) (eT : T.heap = h) {a : Addr} (E : Exa Z h a C) (hd : decode c.code pc = .ok (.checkcast index, 3)) (hn : pc + 3 = n)
    (F : ∀ T', Stand p l e R s m args below meth c T' locs cells slots → T'.heap = h → Go p e below s Q K N T' (mkF m n Ls (.ref a :: st))) : Go p e below s Q K N T (mkF m pc Ls (.ref a :: st)) := by
  subst hn
  obtain ⟨T2, X2, e2, st2⟩ := RoadKit.castY X hx hZ hown w eT (Ins.self E) (g := mkF m pc Ls (.ref a :: st)) rfl rfl hd
  exact go (fun _ h => st2 _ h) (F T2 X2 e2)
theorem newP (X : Stand p l e R s m args below meth c T locs cells slots) (hx : p.tables.exec = Jvm.exec) (hZ : Z.Warmed39 s.vm) {aty : ArrayType} {ty : FieldType} (hty : newarray.typeOf aty = ty) (w : (Cond.arrayClass ty).before a0 Z = true) (eT : T.heap = h) {z : Int32} (hz : ¬ z < 0) (cap : Nat) (hcap : z.toNatClampNeg = cap) (hb : cap * 8 ≤ 536870912) (hc : cells + 1 ≤ R.cells) (hl : slots + cap ≤ R.slots) (hd : decode c.code pc = .ok (.newarray aty, 2)) (hn : pc + 2 = n)
    (F : ∀ T' h' cA, Stand p l e R s m args below meth c T' locs (cells + 1) (slots + cap) → T'.heap = h' → Ext h h' → Arv Z h' h.size cA ty z (List.replicate cap (defaultValue ty)) (defaultValue ty) → Go p e below s Q K N T' (mkF m n Ls (.ref h.size :: st))) : Go p e below s Q K N T (mkF m pc Ls (.int z :: st)) := by
  subst hn hty
  obtain ⟨T2, h2, cA, X2, e2, E2, A2, st2⟩ := RoadKit.newP X hx hZ w eT (g := mkF m pc Ls (.int z :: st)) rfl hd rfl hz (cap := cap) (Nat.le_of_eq hcap) hb hc hl
  exact go (fun _ h => st2 _ h) (F T2 h2 cA X2 e2 E2 ((Arv.new A2 hz).pad (pad_rep [] _ cap)))

theorem bastore (X : Stand p l e R s m args below meth c T locs cells slots) (hx : p.tables.exec = Jvm.exec) (hZ : Z.Warmed39 s.vm) {a : Addr} {k : ClassId} {z j x : Int32} {vs : List Value} {d : Value} (eT : T.heap = h) (A : Arv Z h a k .byte z vs d) (h1 : 0 ≤ j.toInt) (h2 : j.toInt < z.toInt) (i : Nat) (hj : j.toNatClampNeg = i) (hi : i < vs.length) (hd : decode c.code pc = .ok (.bastore, 1)) (hn : pc + 1 = n)
    (F : ∀ T' h', Stand p l e R s m args below meth c T' (locs ++ [⟨a, j.toNatClampNeg⟩]) cells slots → T'.heap = h' → Wr h h' a j.toNatClampNeg (.int (nar .byte x)) → Arv Z h' a k .byte z (vs.set i (.int (nar .byte x))) d → Go p e below s Q K N T' (mkF m n Ls st)) : Go p e below s Q K N T (mkF m pc Ls (.int x :: .int j :: .ref a :: st)) := by
  subst hn
  obtain ⟨cl, Ar, q1, S, q3, H, G'⟩ := A
  obtain ⟨T2, h2', X2, e2, W2, st2⟩ := RoadKit.stB X hx hZ eT Ar (in_of S q3 h1 h2) (g := mkF m pc Ls (.int x :: .int j :: .ref a :: st)) rfl rfl hd
  exact go (fun _ h => st2 _ h) (F T2 h2' X2 e2 W2 (Arv.set Ar q1 S q3 H G' (fits_nar_byte x) W2 i hj hi))
theorem castore (X : Stand p l e R s m args below meth c T locs cells slots) (hx : p.tables.exec = Jvm.exec) (hZ : Z.Warmed39 s.vm) {a : Addr} {k : ClassId} {z j x : Int32} {vs : List Value} {d : Value} (eT : T.heap = h) (A : Arv Z h a k .char z vs d) (h1 : 0 ≤ j.toInt) (h2 : j.toInt < z.toInt) (i : Nat) (hj : j.toNatClampNeg = i) (hi : i < vs.length) (hd : decode c.code pc = .ok (.castore, 1)) (hn : pc + 1 = n)
    (F : ∀ T' h', Stand p l e R s m args below meth c T' (locs ++ [⟨a, j.toNatClampNeg⟩]) cells slots → T'.heap = h' → Wr h h' a j.toNatClampNeg (.int (nar .char x)) → Arv Z h' a k .char z (vs.set i (.int (nar .char x))) d → Go p e below s Q K N T' (mkF m n Ls st)) : Go p e below s Q K N T (mkF m pc Ls (.int x :: .int j :: .ref a :: st)) := by
  subst hn
  obtain ⟨cl, Ar, q1, S, q3, H, G'⟩ := A
  obtain ⟨T2, h2', X2, e2, W2, st2⟩ := RoadKit.stC X hx hZ eT Ar (in_of S q3 h1 h2) (g := mkF m pc Ls (.int x :: .int j :: .ref a :: st)) rfl rfl hd
  exact go (fun _ h => st2 _ h) (F T2 h2' X2 e2 W2 (Arv.set Ar q1 S q3 H G' (fits_nar_char x) W2 i hj hi))
theorem iastore (X : Stand p l e R s m args below meth c T locs cells slots) (hx : p.tables.exec = Jvm.exec) (hZ : Z.Warmed39 s.vm) {a : Addr} {k : ClassId} {z j x : Int32} {vs : List Value} {d : Value} (eT : T.heap = h) (A : Arv Z h a k .int z vs d) (h1 : 0 ≤ j.toInt) (h2 : j.toInt < z.toInt) (i : Nat) (hj : j.toNatClampNeg = i) (hi : i < vs.length) (hd : decode c.code pc = .ok (.iastore, 1)) (hn : pc + 1 = n)
    (F : ∀ T' h', Stand p l e R s m args below meth c T' (locs ++ [⟨a, j.toNatClampNeg⟩]) cells slots → T'.heap = h' → Wr h h' a j.toNatClampNeg (.int (x)) → Arv Z h' a k .int z (vs.set i (.int (x))) d → Go p e below s Q K N T' (mkF m n Ls st)) : Go p e below s Q K N T (mkF m pc Ls (.int x :: .int j :: .ref a :: st)) := by
  subst hn
  obtain ⟨cl, Ar, q1, S, q3, H, G'⟩ := A
  obtain ⟨T2, h2', X2, e2, W2, st2⟩ := RoadKit.stI X hx hZ eT Ar (in_of S q3 h1 h2) (g := mkF m pc Ls (.int x :: .int j :: .ref a :: st)) rfl rfl hd
  exact go (fun _ h => st2 _ h) (F T2 h2' X2 e2 W2 (Arv.set Ar q1 S q3 H G' (rfl) W2 i hj hi))
def FldE (Z : State) (h : Heap) (a : Addr) (C n d : String) : Prop := ∃ v, Fld Z h a C n d v
theorem FldE.of {Z : State} {h : Heap} {a : Addr} {C n d : String} {v : Value} (F : Fld Z h a C n d v) : FldE Z h a C n d := ⟨v, F⟩
theorem FldE.ext {Z : State} {h h' : Heap} {a : Addr} {C n d : String} (F : FldE Z h a C n d) (E : Ext h h') : FldE Z h' a C n d := by obtain ⟨v, F⟩ := F; exact ⟨v, F.ext E⟩
theorem FldE.keep {Z : State} {h h' : Heap} {ws : List Addr} {a : Addr} {C n d : String} (F : FldE Z h a C n d) (K : Keep h h' ws) : FldE Z h' a C n d := by
  obtain ⟨v, cell, cf, k, i, f, h1, h2, h3, h4, h5, h6, h7⟩ := F
  obtain ⟨c', q, r1, r2, r3⟩ := K.2.2 a cell h1
  have hlt := (Array.getElem?_eq_some_iff.mp h7).1
  exact ⟨_, c', cf, k, i, f, q, h2, h3, r2 ▸ h4, r2 ▸ h5, r1 ▸ h6, Array.getElem?_eq_getElem (r3 ▸ hlt)⟩
theorem FldE.wr {Z : State} {h h' : Heap} {a b' : Addr} {C n d : String} {sl : Nat} {v : Value} (F : FldE Z h b' C n d) (W : Wr h h' a sl v) : FldE Z h' b' C n d := F.keep (Keep.of_wr W)
theorem nfOf {args : Array Value} {s : State} {C : String} {y y' z' : MethodName} (hsel : (Cond.selects C y' z').before args s = true) (hc : z'.cls = y.cls) : NotFace s y := fun r0 h0 => by
  obtain ⟨c2, r2, m2, q1, q2, q3, q4, kP, hkP, hkPi⟩ := Cond.selects_spec hsel
  have h1 := findClass_of_methodNamed q3
  have h2 := findClass_of_methodNamed h0
  rw [hc] at h1
  have e : m2.cls = r0.cls := Option.some.inj (h1.symm.trans h2)
  exact ⟨kP, e ▸ hkP, hkPi⟩
theorem acopy (X : Stand p l e R s m args below meth c T locs cells slots) (hx : p.tables.exec = Jvm.exec) (hZ : Z.Warmed39 s.vm) {own : String} {index : Nat} (hown : s.vm.findClass own = some m.cls) (wl : (Cond.methodLink own index Stand.acN).before a0 Z = true) (wn : (Cond.native Stand.acN).before a0 Z = true) (ws : (Cond.static Stand.acN).before a0 Z = true) (wi : (Cond.initialized "java/lang/System").before a0 Z = true) (eT : T.heap = h)
    {src dst : Addr} {k1 k2 : ClassId} {z1 z2 p1 p2 q : Int32} {vs1 vs2 : List Value} {d1 d2 : Value} (A1 : Arv Z h src k1 .int z1 vs1 d1) (A2 : Arv Z h dst k2 .int z2 vs2 d2) (h1 : 0 ≤ p1.toInt) (h2 : 0 ≤ p2.toInt) (h3 : 0 ≤ q.toInt) (h4 : p1.toInt + q.toInt ≤ z1.toInt) (h5 : p2.toInt + q.toInt ≤ z2.toInt)
    {W : Nat} (hsz : Ls.size = c.maxLocals) (hf : 1 ≤ R.frames) (hW : (st.map fun v => v.category).sum ≤ W) (hl : W + (nativeFrameWords "java/lang/System" "arraycopy" 5 + 11) ≤ R.locals) (hd : decode c.code pc = .ok (.invokestatic index, 3)) (hn : pc + 3 = n)
    (F : ∀ T' h', Stand p l e R s m args below meth c T' (locs ++ Stand.copyLocs dst p2.toNatClampNeg q.toNatClampNeg) cells slots → T'.heap = h' → Keep h h' [dst] → Go p e below s Q K N T' (mkF m n Ls st)) : Go p e below s Q K N T (mkF m pc Ls (.int q :: .int p2 :: .ref dst :: .int p1 :: .ref src :: st)) := by
  subst hn
  subst eT
  obtain ⟨cs, As, -, Ss, Ns, Hs, Gs⟩ := A1
  obtain ⟨cd, Ad, -, Sd, Nd, Hd, Gd⟩ := A2
  have isA := State.isArrayOf_alike hZ.alike As.2.1
  have idA := State.isArrayOf_alike hZ.alike Ad.2.1
  obtain ⟨-, ks, hks, sC, hsk⟩ := isA
  obtain ⟨-, kd, hkd, dC, hdk⟩ := idA
  have en : ∀ x : Int32, 0 ≤ x.toInt → ¬ x < 0 := fun x hx0 => by rw [Int32.lt_iff_toInt_lt]; have e0 : (0 : Int32).toInt = 0 := rfl; omega
  have ez : ∀ x : Int32, ¬ x < 0 → (x.toNatClampNeg : Int) = x.toInt := fun x hx0 => by
    rw [Int32.lt_iff_toInt_lt] at hx0; have e0 : (0 : Int32).toInt = 0 := rfl; have e1 : x.toNatClampNeg = x.toInt.toNat := rfl; omega
  have e1 := ez z1 Ns; have e2 := ez z2 Nd; have e3 := ez p1 (en p1 h1); have e4 := ez q (en q h3); have e5 := ez p2 (en p2 h2)
  obtain ⟨vm₁, -, X', st'⟩ := X.arraycopyK hx hown (mvT hZ wl) (mvT hZ wn) (mvT hZ ws) (mvT hZ wi) (src := src) (dst := dst) (srcPos := p1) (destPos := p2) (n := q) (cs := cs) (cd := cd) As.1 Ad.1
    (fun z e => by have := As.plain; rw [e] at this; cases this) (fun z e => by have := Ad.plain; rw [e] at this; cases this) As.2.2 Ad.2.2 hks hkd hsk hdk rfl (en p1 h1) (en p2 h2) (en q h3) (by rw [Ss]; omega) (by rw [Sd]; omega)
    (fun vm' _ i hi => by
      have hlt : p1.toNatClampNeg + i < cs.slots.size := by rw [Ss]; omega
      have hh := Hs _ hlt
      have hg := Gs _ hlt
      have hgd : cs.slots.getD (p1.toNatClampNeg + i) .null = vs1.getD (p1.toNatClampNeg + i) d1 := by rw [Array.getD_eq_getD_getElem?, hh]; rfl
      rw [hgd]
      refine ⟨hg, ?_⟩
      obtain ⟨x, hx'⟩ := fit_I hg (Or.inl rfl)
      rw [hx']; trivial)
    (g := mkF m pc Ls (.int q :: .int p2 :: .ref dst :: .int p1 :: .ref src :: st)) rfl hsz rfl hd hf (by show 2 * 0 + _ + _ ≤ _; omega)
  refine go (fun _ h => st' _ h) (F _ _ X' rfl ?_)
  have cf := SB.copied_facts cs cd p1 p2 q
  have hb : dst < T.heap.size := (Array.getElem?_eq_some_iff.mp Ad.1).1
  refine ⟨by show T.heap.size ≤ (T.heap.setIfInBounds dst _).size; simp, fun x c hc hx' => ?_, fun x c hc => ?_⟩
  · show (T.heap.setIfInBounds dst _)[x]? = _
    have hne : dst ≠ x := fun z => hx' (by simp [z])
    rw [Array.getElem?_setIfInBounds_ne hne]; exact hc
  · show ∃ c', (T.heap.setIfInBounds dst _)[x]? = some c' ∧ _
    by_cases z : dst = x
    · subst z; cases Ad.1.symm.trans hc
      exact ⟨_, Array.getElem?_setIfInBounds_self_of_lt hb, cf⟩
    · exact ⟨c, by rw [Array.getElem?_setIfInBounds_ne z]; exact hc, rfl, rfl, rfl⟩
theorem ext_of_keep {h h' : Heap} (K : Keep h h' []) : Ext h h' := ⟨K.1, fun a c q => K.2.1 a c q nin0⟩
theorem keep_of_ext {h h' : Heap} (E : Ext h h') : Keep h h' [] := (Keep.refl _ _).ext E
theorem ext_refl (h : Heap) : Ext h h := ⟨Nat.le_refl _, fun _ _ q => q⟩
theorem ext_trans {h h' h'' : Heap} (E : Ext h h') (E' : Ext h' h'') : Ext h h'' := ⟨Nat.le_trans E.1 E'.1, fun a c q => E'.2 a c (E.2 a c q)⟩
end H
end Jvm.Wk
namespace Jvm.Pilot.@@N@@
open Jvm Jvm.ClassFile Sem Op Lib Jvm.Free Jvm.Stand Jvm.LawKit Jvm.RoadKit Bundle Jvm.Pilot.@@N@@.Jvm.D
theorem d1_0 : decode prog_20_method_2_code 0 = .ok (.iload_n 0, 1) := by decide +kernel
theorem d1_1 : decode prog_20_method_2_code 1 = .ok (.bipush 19, 2) := by decide +kernel
theorem d1_3 : decode prog_20_method_2_code 3 = .ok (.irem, 1) := by decide +kernel
theorem d1_4 : decode prog_20_method_2_code 4 = .ok (.istore_n 1, 1) := by decide +kernel
theorem d1_5 : decode prog_20_method_2_code 5 = .ok (.iload_n 0, 1) := by decide +kernel
theorem d1_6 : decode prog_20_method_2_code 6 = .ok (.bipush 100, 2) := by decide +kernel
theorem d1_8 : decode prog_20_method_2_code 8 = .ok (.idiv, 1) := by decide +kernel
theorem d1_9 : decode prog_20_method_2_code 9 = .ok (.istore_n 2, 1) := by decide +kernel
theorem d1_10 : decode prog_20_method_2_code 10 = .ok (.iload_n 0, 1) := by decide +kernel
theorem d1_11 : decode prog_20_method_2_code 11 = .ok (.bipush 100, 2) := by decide +kernel
theorem d1_13 : decode prog_20_method_2_code 13 = .ok (.irem, 1) := by decide +kernel
theorem d1_14 : decode prog_20_method_2_code 14 = .ok (.istore_n 3, 1) := by decide +kernel
theorem d1_15 : decode prog_20_method_2_code 15 = .ok (.bipush 19, 2) := by decide +kernel
theorem d1_17 : decode prog_20_method_2_code 17 = .ok (.iload_n 1, 1) := by decide +kernel
theorem d1_18 : decode prog_20_method_2_code 18 = .ok (.imul, 1) := by decide +kernel
theorem d1_19 : decode prog_20_method_2_code 19 = .ok (.iload_n 2, 1) := by decide +kernel
theorem d1_20 : decode prog_20_method_2_code 20 = .ok (.iadd, 1) := by decide +kernel
theorem d1_21 : decode prog_20_method_2_code 21 = .ok (.iload_n 2, 1) := by decide +kernel
theorem d1_22 : decode prog_20_method_2_code 22 = .ok (.iconst 4, 1) := by decide +kernel
theorem d1_23 : decode prog_20_method_2_code 23 = .ok (.idiv, 1) := by decide +kernel
theorem d1_24 : decode prog_20_method_2_code 24 = .ok (.isub, 1) := by decide +kernel
theorem d1_25 : decode prog_20_method_2_code 25 = .ok (.iload_n 2, 1) := by decide +kernel
theorem d1_26 : decode prog_20_method_2_code 26 = .ok (.iload_n 2, 1) := by decide +kernel
theorem d1_27 : decode prog_20_method_2_code 27 = .ok (.bipush 8, 2) := by decide +kernel
theorem d1_29 : decode prog_20_method_2_code 29 = .ok (.iadd, 1) := by decide +kernel
theorem d1_30 : decode prog_20_method_2_code 30 = .ok (.bipush 25, 2) := by decide +kernel
theorem d1_32 : decode prog_20_method_2_code 32 = .ok (.idiv, 1) := by decide +kernel
theorem d1_33 : decode prog_20_method_2_code 33 = .ok (.isub, 1) := by decide +kernel
theorem d1_34 : decode prog_20_method_2_code 34 = .ok (.iconst 1, 1) := by decide +kernel
theorem d1_35 : decode prog_20_method_2_code 35 = .ok (.iadd, 1) := by decide +kernel
theorem d1_36 : decode prog_20_method_2_code 36 = .ok (.iconst 3, 1) := by decide +kernel
theorem d1_37 : decode prog_20_method_2_code 37 = .ok (.idiv, 1) := by decide +kernel
theorem d1_38 : decode prog_20_method_2_code 38 = .ok (.isub, 1) := by decide +kernel
theorem d1_39 : decode prog_20_method_2_code 39 = .ok (.bipush 15, 2) := by decide +kernel
theorem d1_41 : decode prog_20_method_2_code 41 = .ok (.iadd, 1) := by decide +kernel
theorem d1_42 : decode prog_20_method_2_code 42 = .ok (.bipush 30, 2) := by decide +kernel
theorem d1_44 : decode prog_20_method_2_code 44 = .ok (.irem, 1) := by decide +kernel
theorem d1_45 : decode prog_20_method_2_code 45 = .ok (.istore 4, 2) := by decide +kernel
theorem d1_47 : decode prog_20_method_2_code 47 = .ok (.bipush 32, 2) := by decide +kernel
theorem d1_49 : decode prog_20_method_2_code 49 = .ok (.iconst 2, 1) := by decide +kernel
theorem d1_50 : decode prog_20_method_2_code 50 = .ok (.iload_n 2, 1) := by decide +kernel
theorem d1_51 : decode prog_20_method_2_code 51 = .ok (.iconst 4, 1) := by decide +kernel
theorem d1_52 : decode prog_20_method_2_code 52 = .ok (.irem, 1) := by decide +kernel
theorem d1_53 : decode prog_20_method_2_code 53 = .ok (.imul, 1) := by decide +kernel
theorem d1_54 : decode prog_20_method_2_code 54 = .ok (.iadd, 1) := by decide +kernel
theorem d1_55 : decode prog_20_method_2_code 55 = .ok (.iconst 2, 1) := by decide +kernel
theorem d1_56 : decode prog_20_method_2_code 56 = .ok (.iload_n 3, 1) := by decide +kernel
theorem d1_57 : decode prog_20_method_2_code 57 = .ok (.iconst 4, 1) := by decide +kernel
theorem d1_58 : decode prog_20_method_2_code 58 = .ok (.idiv, 1) := by decide +kernel
theorem d1_59 : decode prog_20_method_2_code 59 = .ok (.imul, 1) := by decide +kernel
theorem d1_60 : decode prog_20_method_2_code 60 = .ok (.iadd, 1) := by decide +kernel
theorem d1_61 : decode prog_20_method_2_code 61 = .ok (.iload 4, 2) := by decide +kernel
theorem d1_63 : decode prog_20_method_2_code 63 = .ok (.isub, 1) := by decide +kernel
theorem d1_64 : decode prog_20_method_2_code 64 = .ok (.iload_n 3, 1) := by decide +kernel
theorem d1_65 : decode prog_20_method_2_code 65 = .ok (.iconst 4, 1) := by decide +kernel
theorem d1_66 : decode prog_20_method_2_code 66 = .ok (.irem, 1) := by decide +kernel
theorem d1_67 : decode prog_20_method_2_code 67 = .ok (.isub, 1) := by decide +kernel
theorem d1_68 : decode prog_20_method_2_code 68 = .ok (.bipush 7, 2) := by decide +kernel
theorem d1_70 : decode prog_20_method_2_code 70 = .ok (.irem, 1) := by decide +kernel
theorem d1_71 : decode prog_20_method_2_code 71 = .ok (.istore 5, 2) := by decide +kernel
theorem d1_73 : decode prog_20_method_2_code 73 = .ok (.iload_n 1, 1) := by decide +kernel
theorem d1_74 : decode prog_20_method_2_code 74 = .ok (.bipush 11, 2) := by decide +kernel
theorem d1_76 : decode prog_20_method_2_code 76 = .ok (.iload 4, 2) := by decide +kernel
theorem d1_78 : decode prog_20_method_2_code 78 = .ok (.imul, 1) := by decide +kernel
theorem d1_79 : decode prog_20_method_2_code 79 = .ok (.iadd, 1) := by decide +kernel
theorem d1_80 : decode prog_20_method_2_code 80 = .ok (.bipush 22, 2) := by decide +kernel
theorem d1_82 : decode prog_20_method_2_code 82 = .ok (.iload 5, 2) := by decide +kernel
theorem d1_84 : decode prog_20_method_2_code 84 = .ok (.imul, 1) := by decide +kernel
theorem d1_85 : decode prog_20_method_2_code 85 = .ok (.iadd, 1) := by decide +kernel
theorem d1_86 : decode prog_20_method_2_code 86 = .ok (.sipush 451, 3) := by decide +kernel
theorem d1_89 : decode prog_20_method_2_code 89 = .ok (.idiv, 1) := by decide +kernel
theorem d1_90 : decode prog_20_method_2_code 90 = .ok (.istore 6, 2) := by decide +kernel
theorem d1_92 : decode prog_20_method_2_code 92 = .ok (.iload_n 0, 1) := by decide +kernel
theorem d1_93 : decode prog_20_method_2_code 93 = .ok (.iconst 3, 1) := by decide +kernel
theorem d1_94 : decode prog_20_method_2_code 94 = .ok (.bipush 22, 2) := by decide +kernel
theorem d1_96 : decode prog_20_method_2_code 96 = .ok (.invokestatic 7, 3) := by decide +kernel
theorem d1_99 : decode prog_20_method_2_code 99 = .ok (.iload 4, 2) := by decide +kernel
theorem d1_101 : decode prog_20_method_2_code 101 = .ok (.iload 5, 2) := by decide +kernel
theorem d1_103 : decode prog_20_method_2_code 103 = .ok (.iadd, 1) := by decide +kernel
theorem d1_104 : decode prog_20_method_2_code 104 = .ok (.bipush 7, 2) := by decide +kernel
theorem d1_106 : decode prog_20_method_2_code 106 = .ok (.iload 6, 2) := by decide +kernel
theorem d1_108 : decode prog_20_method_2_code 108 = .ok (.imul, 1) := by decide +kernel
theorem d1_109 : decode prog_20_method_2_code 109 = .ok (.isub, 1) := by decide +kernel
theorem d1_110 : decode prog_20_method_2_code 110 = .ok (.i2l, 1) := by decide +kernel
theorem d1_111 : decode prog_20_method_2_code 111 = .ok (.invokevirtual 13, 3) := by decide +kernel
theorem d1_114 : decode prog_20_method_2_code 114 = .ok (.areturn, 1) := by decide +kernel
theorem pd1 : parseMethodDescriptor "(I)Ljava/time/LocalDate;" = some ⟨[.int], some (.object "java/time/LocalDate")⟩ := by decide +kernel
theorem pn1 : plainName "com/example/settlewright/settlewright/calc/HolidayRules" = true := by first | (simp [plainName, overriddenIn]; done) | decide +kernel
theorem d2_0 : decode jdk_2323_method_5_code 0 = .ok (.getstatic 39, 3) := by decide +kernel
theorem d2_3 : decode jdk_2323_method_5_code 3 = .ok (.iload_n 0, 1) := by decide +kernel
theorem d2_4 : decode jdk_2323_method_5_code 4 = .ok (.i2l, 1) := by decide +kernel
theorem d2_5 : decode jdk_2323_method_5_code 5 = .ok (.invokevirtual 45, 3) := by decide +kernel
theorem d2_8 : decode jdk_2323_method_5_code 8 = .ok (.pop2, 1) := by decide +kernel
theorem d2_9 : decode jdk_2323_method_5_code 9 = .ok (.getstatic 64, 3) := by decide +kernel
theorem d2_12 : decode jdk_2323_method_5_code 12 = .ok (.iload_n 1, 1) := by decide +kernel
theorem d2_13 : decode jdk_2323_method_5_code 13 = .ok (.i2l, 1) := by decide +kernel
theorem d2_14 : decode jdk_2323_method_5_code 14 = .ok (.invokevirtual 45, 3) := by decide +kernel
theorem d2_17 : decode jdk_2323_method_5_code 17 = .ok (.pop2, 1) := by decide +kernel
theorem d2_18 : decode jdk_2323_method_5_code 18 = .ok (.getstatic 51, 3) := by decide +kernel
theorem d2_21 : decode jdk_2323_method_5_code 21 = .ok (.iload_n 2, 1) := by decide +kernel
theorem d2_22 : decode jdk_2323_method_5_code 22 = .ok (.i2l, 1) := by decide +kernel
theorem d2_23 : decode jdk_2323_method_5_code 23 = .ok (.invokevirtual 45, 3) := by decide +kernel
theorem d2_26 : decode jdk_2323_method_5_code 26 = .ok (.pop2, 1) := by decide +kernel
theorem d2_27 : decode jdk_2323_method_5_code 27 = .ok (.iload_n 0, 1) := by decide +kernel
theorem d2_28 : decode jdk_2323_method_5_code 28 = .ok (.iload_n 1, 1) := by decide +kernel
theorem d2_29 : decode jdk_2323_method_5_code 29 = .ok (.iload_n 2, 1) := by decide +kernel
theorem d2_30 : decode jdk_2323_method_5_code 30 = .ok (.invokestatic 60, 3) := by decide +kernel
theorem d2_33 : decode jdk_2323_method_5_code 33 = .ok (.areturn, 1) := by decide +kernel
theorem pd2 : parseMethodDescriptor "(III)Ljava/time/LocalDate;" = some ⟨[.int, .int, .int], some (.object "java/time/LocalDate")⟩ := by decide +kernel
theorem pn2 : plainName "java/time/LocalDate" = true := by first | (simp [plainName, overriddenIn]; done) | decide +kernel
theorem d3_0 : decode jdk_2395_method_11_code 0 = .ok (.aload_n 0, 1) := by decide +kernel
theorem d3_1 : decode jdk_2395_method_11_code 1 = .ok (.invokevirtual 190, 3) := by decide +kernel
theorem d3_4 : decode jdk_2395_method_11_code 4 = .ok (.lload_n 1, 1) := by decide +kernel
theorem d3_5 : decode jdk_2395_method_11_code 5 = .ok (.aload_n 0, 1) := by decide +kernel
theorem d3_6 : decode jdk_2395_method_11_code 6 = .ok (.invokevirtual 193, 3) := by decide +kernel
theorem d3_9 : decode jdk_2395_method_11_code 9 = .ok (.lreturn, 1) := by decide +kernel
theorem pd3 : parseMethodDescriptor "(J)J" = some ⟨[.long], some .long⟩ := by decide +kernel
theorem pn3 : plainName "java/time/temporal/ChronoField" = true := by first | (simp [plainName, overriddenIn]; done) | decide +kernel
theorem d4_0 : decode jdk_2395_method_8_code 0 = .ok (.aload_n 0, 1) := by decide +kernel
theorem d4_1 : decode jdk_2395_method_8_code 1 = .ok (.getfield 124, 3) := by decide +kernel
theorem d4_4 : decode jdk_2395_method_8_code 4 = .ok (.areturn, 1) := by decide +kernel
theorem pd4 : parseMethodDescriptor "()Ljava/time/temporal/ValueRange;" = some ⟨[], some (.object "java/time/temporal/ValueRange")⟩ := by decide +kernel
theorem pn4 : plainName "java/time/temporal/ChronoField" = true := by first | (simp [plainName, overriddenIn]; done) | decide +kernel
theorem d5_0 : decode jdk_2423_method_13_code 0 = .ok (.aload_n 0, 1) := by decide +kernel
theorem d5_1 : decode jdk_2423_method_13_code 1 = .ok (.lload_n 1, 1) := by decide +kernel
theorem d5_2 : decode jdk_2423_method_13_code 2 = .ok (.invokevirtual 63, 3) := by decide +kernel
theorem d5_5 : decode jdk_2423_method_13_code 5 = .ok (.ifCond .ne 17, 3) := by decide +kernel
theorem d5_22 : decode jdk_2423_method_13_code 22 = .ok (.lload_n 1, 1) := by decide +kernel
theorem d5_23 : decode jdk_2423_method_13_code 23 = .ok (.lreturn, 1) := by decide +kernel
theorem pd5 : parseMethodDescriptor "(JLjava/time/temporal/TemporalField;)J" = some ⟨[.long, (.object "java/time/temporal/TemporalField")], some .long⟩ := by decide +kernel
theorem pn5 : plainName "java/time/temporal/ValueRange" = true := by first | (simp [plainName, overriddenIn]; done) | decide +kernel
theorem d6_0 : decode jdk_2423_method_11_code 0 = .ok (.lload_n 1, 1) := by decide +kernel
theorem d6_1 : decode jdk_2423_method_11_code 1 = .ok (.aload_n 0, 1) := by decide +kernel
theorem d6_2 : decode jdk_2423_method_11_code 2 = .ok (.invokevirtual 46, 3) := by decide +kernel
theorem d6_5 : decode jdk_2423_method_11_code 5 = .ok (.lcmp, 1) := by decide +kernel
theorem d6_6 : decode jdk_2423_method_11_code 6 = .ok (.ifCond .lt 16, 3) := by decide +kernel
theorem d6_9 : decode jdk_2423_method_11_code 9 = .ok (.lload_n 1, 1) := by decide +kernel
theorem d6_10 : decode jdk_2423_method_11_code 10 = .ok (.aload_n 0, 1) := by decide +kernel
theorem d6_11 : decode jdk_2423_method_11_code 11 = .ok (.invokevirtual 54, 3) := by decide +kernel
theorem d6_14 : decode jdk_2423_method_11_code 14 = .ok (.lcmp, 1) := by decide +kernel
theorem d6_15 : decode jdk_2423_method_11_code 15 = .ok (.ifCond .gt 7, 3) := by decide +kernel
theorem d6_18 : decode jdk_2423_method_11_code 18 = .ok (.iconst 1, 1) := by decide +kernel
theorem d6_19 : decode jdk_2423_method_11_code 19 = .ok (.goto 4, 3) := by decide +kernel
theorem d6_22 : decode jdk_2423_method_11_code 22 = .ok (.iconst 0, 1) := by decide +kernel
theorem d6_23 : decode jdk_2423_method_11_code 23 = .ok (.ireturn, 1) := by decide +kernel
theorem pd6 : parseMethodDescriptor "(J)Z" = some ⟨[.long], some .boolean⟩ := by decide +kernel
theorem pn6 : plainName "java/time/temporal/ValueRange" = true := by first | (simp [plainName, overriddenIn]; done) | decide +kernel
theorem d7_0 : decode jdk_2423_method_6_code 0 = .ok (.aload_n 0, 1) := by decide +kernel
theorem d7_1 : decode jdk_2423_method_6_code 1 = .ok (.getfield 33, 3) := by decide +kernel
theorem d7_4 : decode jdk_2423_method_6_code 4 = .ok (.lreturn, 1) := by decide +kernel
theorem pd7 : parseMethodDescriptor "()J" = some ⟨[], some .long⟩ := by decide +kernel
theorem pn7 : plainName "java/time/temporal/ValueRange" = true := by first | (simp [plainName, overriddenIn]; done) | decide +kernel
theorem d8_0 : decode jdk_2423_method_9_code 0 = .ok (.aload_n 0, 1) := by decide +kernel
theorem d8_1 : decode jdk_2423_method_9_code 1 = .ok (.getfield 43, 3) := by decide +kernel
theorem d8_4 : decode jdk_2423_method_9_code 4 = .ok (.lreturn, 1) := by decide +kernel
theorem pd8 : parseMethodDescriptor "()J" = some ⟨[], some .long⟩ := by decide +kernel
theorem pn8 : plainName "java/time/temporal/ValueRange" = true := by first | (simp [plainName, overriddenIn]; done) | decide +kernel
theorem d9_0 : decode jdk_2323_method_12_code 0 = .ok (.iload_n 2, 1) := by decide +kernel
theorem d9_1 : decode jdk_2323_method_12_code 1 = .ok (.bipush 28, 2) := by decide +kernel
theorem d9_3 : decode jdk_2323_method_12_code 3 = .ok (.if_icmp .le 176, 3) := by decide +kernel
theorem d9_179 : decode jdk_2323_method_12_code 179 = .ok (.new 1, 3) := by decide +kernel
theorem d9_182 : decode jdk_2323_method_12_code 182 = .ok (.dup, 1) := by decide +kernel
theorem d9_183 : decode jdk_2323_method_12_code 183 = .ok (.iload_n 0, 1) := by decide +kernel
theorem d9_184 : decode jdk_2323_method_12_code 184 = .ok (.iload_n 1, 1) := by decide +kernel
theorem d9_185 : decode jdk_2323_method_12_code 185 = .ok (.iload_n 2, 1) := by decide +kernel
theorem d9_186 : decode jdk_2323_method_12_code 186 = .ok (.invokespecial 121, 3) := by decide +kernel
theorem d9_189 : decode jdk_2323_method_12_code 189 = .ok (.areturn, 1) := by decide +kernel
theorem pd9 : parseMethodDescriptor "(III)Ljava/time/LocalDate;" = some ⟨[.int, .int, .int], some (.object "java/time/LocalDate")⟩ := by decide +kernel
theorem pn9 : plainName "java/time/LocalDate" = true := by first | (simp [plainName, overriddenIn]; done) | decide +kernel
theorem d10_0 : decode jdk_2323_method_14_code 0 = .ok (.aload_n 0, 1) := by decide +kernel
theorem d10_1 : decode jdk_2323_method_14_code 1 = .ok (.invokespecial 243, 3) := by decide +kernel
theorem d10_4 : decode jdk_2323_method_14_code 4 = .ok (.aload_n 0, 1) := by decide +kernel
theorem d10_5 : decode jdk_2323_method_14_code 5 = .ok (.iload_n 1, 1) := by decide +kernel
theorem d10_6 : decode jdk_2323_method_14_code 6 = .ok (.putfield 246, 3) := by decide +kernel
theorem d10_9 : decode jdk_2323_method_14_code 9 = .ok (.aload_n 0, 1) := by decide +kernel
theorem d10_10 : decode jdk_2323_method_14_code 10 = .ok (.iload_n 2, 1) := by decide +kernel
theorem d10_11 : decode jdk_2323_method_14_code 11 = .ok (.i2s, 1) := by decide +kernel
theorem d10_12 : decode jdk_2323_method_14_code 12 = .ok (.putfield 250, 3) := by decide +kernel
theorem d10_15 : decode jdk_2323_method_14_code 15 = .ok (.aload_n 0, 1) := by decide +kernel
theorem d10_16 : decode jdk_2323_method_14_code 16 = .ok (.iload_n 3, 1) := by decide +kernel
theorem d10_17 : decode jdk_2323_method_14_code 17 = .ok (.i2s, 1) := by decide +kernel
theorem d10_18 : decode jdk_2323_method_14_code 18 = .ok (.putfield 253, 3) := by decide +kernel
theorem d10_21 : decode jdk_2323_method_14_code 21 = .ok (.return_, 1) := by decide +kernel
theorem pd10 : parseMethodDescriptor "(III)V" = some ⟨[.int, .int, .int], none⟩ := by decide +kernel
theorem pn10 : plainName "java/time/LocalDate" = true := by first | (simp [plainName, overriddenIn]; done) | decide +kernel
theorem d12_0 : decode jdk_2323_method_44_code 0 = .ok (.lload_n 1, 1) := by decide +kernel
theorem d12_1 : decode jdk_2323_method_44_code 1 = .ok (.lconst 0, 1) := by decide +kernel
theorem d12_2 : decode jdk_2323_method_44_code 2 = .ok (.lcmp, 1) := by decide +kernel
theorem d12_3 : decode jdk_2323_method_44_code 3 = .ok (.ifCond .ne 5, 3) := by decide +kernel
theorem d12_6 : decode jdk_2323_method_44_code 6 = .ok (.aload_n 0, 1) := by decide +kernel
theorem d12_7 : decode jdk_2323_method_44_code 7 = .ok (.areturn, 1) := by decide +kernel
theorem d12_8 : decode jdk_2323_method_44_code 8 = .ok (.aload_n 0, 1) := by decide +kernel
theorem d12_9 : decode jdk_2323_method_44_code 9 = .ok (.getfield 253, 3) := by decide +kernel
theorem d12_12 : decode jdk_2323_method_44_code 12 = .ok (.i2l, 1) := by decide +kernel
theorem d12_13 : decode jdk_2323_method_44_code 13 = .ok (.lload_n 1, 1) := by decide +kernel
theorem d12_14 : decode jdk_2323_method_44_code 14 = .ok (.ladd, 1) := by decide +kernel
theorem d12_15 : decode jdk_2323_method_44_code 15 = .ok (.lstore_n 3, 1) := by decide +kernel
theorem d12_16 : decode jdk_2323_method_44_code 16 = .ok (.lload_n 3, 1) := by decide +kernel
theorem d12_17 : decode jdk_2323_method_44_code 17 = .ok (.lconst 0, 1) := by decide +kernel
theorem d12_18 : decode jdk_2323_method_44_code 18 = .ok (.lcmp, 1) := by decide +kernel
theorem d12_19 : decode jdk_2323_method_44_code 19 = .ok (.ifCond .le 135, 3) := by decide +kernel
theorem d12_22 : decode jdk_2323_method_44_code 22 = .ok (.lload_n 3, 1) := by decide +kernel
theorem d12_23 : decode jdk_2323_method_44_code 23 = .ok (.ldc2_w 483, 3) := by decide +kernel
theorem d12_26 : decode jdk_2323_method_44_code 26 = .ok (.lcmp, 1) := by decide +kernel
theorem d12_27 : decode jdk_2323_method_44_code 27 = .ok (.ifCond .gt 21, 3) := by decide +kernel
theorem d12_30 : decode jdk_2323_method_44_code 30 = .ok (.new 1, 3) := by decide +kernel
theorem d12_33 : decode jdk_2323_method_44_code 33 = .ok (.dup, 1) := by decide +kernel
theorem d12_34 : decode jdk_2323_method_44_code 34 = .ok (.aload_n 0, 1) := by decide +kernel
theorem d12_35 : decode jdk_2323_method_44_code 35 = .ok (.getfield 246, 3) := by decide +kernel
theorem d12_38 : decode jdk_2323_method_44_code 38 = .ok (.aload_n 0, 1) := by decide +kernel
theorem d12_39 : decode jdk_2323_method_44_code 39 = .ok (.getfield 250, 3) := by decide +kernel
theorem d12_42 : decode jdk_2323_method_44_code 42 = .ok (.lload_n 3, 1) := by decide +kernel
theorem d12_43 : decode jdk_2323_method_44_code 43 = .ok (.l2i, 1) := by decide +kernel
theorem d12_44 : decode jdk_2323_method_44_code 44 = .ok (.invokespecial 121, 3) := by decide +kernel
theorem d12_47 : decode jdk_2323_method_44_code 47 = .ok (.areturn, 1) := by decide +kernel
theorem d12_48 : decode jdk_2323_method_44_code 48 = .ok (.lload_n 3, 1) := by decide +kernel
theorem d12_49 : decode jdk_2323_method_44_code 49 = .ok (.ldc2_w 485, 3) := by decide +kernel
theorem d12_52 : decode jdk_2323_method_44_code 52 = .ok (.lcmp, 1) := by decide +kernel
theorem d12_53 : decode jdk_2323_method_44_code 53 = .ok (.ifCond .gt 101, 3) := by decide +kernel
theorem d12_56 : decode jdk_2323_method_44_code 56 = .ok (.aload_n 0, 1) := by decide +kernel
theorem d12_57 : decode jdk_2323_method_44_code 57 = .ok (.invokevirtual 278, 3) := by decide +kernel
theorem d12_60 : decode jdk_2323_method_44_code 60 = .ok (.i2l, 1) := by decide +kernel
theorem d12_61 : decode jdk_2323_method_44_code 61 = .ok (.lstore 5, 2) := by decide +kernel
theorem d12_63 : decode jdk_2323_method_44_code 63 = .ok (.lload_n 3, 1) := by decide +kernel
theorem d12_64 : decode jdk_2323_method_44_code 64 = .ok (.lload 5, 2) := by decide +kernel
theorem d12_66 : decode jdk_2323_method_44_code 66 = .ok (.lcmp, 1) := by decide +kernel
theorem d12_67 : decode jdk_2323_method_44_code 67 = .ok (.ifCond .gt 21, 3) := by decide +kernel
theorem d12_70 : decode jdk_2323_method_44_code 70 = .ok (.new 1, 3) := by decide +kernel
theorem d12_73 : decode jdk_2323_method_44_code 73 = .ok (.dup, 1) := by decide +kernel
theorem d12_74 : decode jdk_2323_method_44_code 74 = .ok (.aload_n 0, 1) := by decide +kernel
theorem d12_75 : decode jdk_2323_method_44_code 75 = .ok (.getfield 246, 3) := by decide +kernel
theorem d12_78 : decode jdk_2323_method_44_code 78 = .ok (.aload_n 0, 1) := by decide +kernel
theorem d12_79 : decode jdk_2323_method_44_code 79 = .ok (.getfield 250, 3) := by decide +kernel
theorem d12_82 : decode jdk_2323_method_44_code 82 = .ok (.lload_n 3, 1) := by decide +kernel
theorem d12_83 : decode jdk_2323_method_44_code 83 = .ok (.l2i, 1) := by decide +kernel
theorem d12_84 : decode jdk_2323_method_44_code 84 = .ok (.invokespecial 121, 3) := by decide +kernel
theorem d12_87 : decode jdk_2323_method_44_code 87 = .ok (.areturn, 1) := by decide +kernel
theorem d12_88 : decode jdk_2323_method_44_code 88 = .ok (.aload_n 0, 1) := by decide +kernel
theorem d12_89 : decode jdk_2323_method_44_code 89 = .ok (.getfield 250, 3) := by decide +kernel
theorem d12_92 : decode jdk_2323_method_44_code 92 = .ok (.bipush 12, 2) := by decide +kernel
theorem d12_94 : decode jdk_2323_method_44_code 94 = .ok (.if_icmp .ge 26, 3) := by decide +kernel
theorem d12_97 : decode jdk_2323_method_44_code 97 = .ok (.new 1, 3) := by decide +kernel
theorem d12_100 : decode jdk_2323_method_44_code 100 = .ok (.dup, 1) := by decide +kernel
theorem d12_101 : decode jdk_2323_method_44_code 101 = .ok (.aload_n 0, 1) := by decide +kernel
theorem d12_102 : decode jdk_2323_method_44_code 102 = .ok (.getfield 246, 3) := by decide +kernel
theorem d12_105 : decode jdk_2323_method_44_code 105 = .ok (.aload_n 0, 1) := by decide +kernel
theorem d12_106 : decode jdk_2323_method_44_code 106 = .ok (.getfield 250, 3) := by decide +kernel
theorem d12_109 : decode jdk_2323_method_44_code 109 = .ok (.iconst 1, 1) := by decide +kernel
theorem d12_110 : decode jdk_2323_method_44_code 110 = .ok (.iadd, 1) := by decide +kernel
theorem d12_111 : decode jdk_2323_method_44_code 111 = .ok (.lload_n 3, 1) := by decide +kernel
theorem d12_112 : decode jdk_2323_method_44_code 112 = .ok (.lload 5, 2) := by decide +kernel
theorem d12_114 : decode jdk_2323_method_44_code 114 = .ok (.lsub, 1) := by decide +kernel
theorem d12_115 : decode jdk_2323_method_44_code 115 = .ok (.l2i, 1) := by decide +kernel
theorem d12_116 : decode jdk_2323_method_44_code 116 = .ok (.invokespecial 121, 3) := by decide +kernel
theorem d12_119 : decode jdk_2323_method_44_code 119 = .ok (.areturn, 1) := by decide +kernel
theorem pd12 : parseMethodDescriptor "(J)Ljava/time/LocalDate;" = some ⟨[.long], some (.object "java/time/LocalDate")⟩ := by decide +kernel
theorem pn12 : plainName "java/time/LocalDate" = true := by first | (simp [plainName, overriddenIn]; done) | decide +kernel
theorem d13_0 : decode jdk_2323_method_31_code 0 = .ok (.aload_n 0, 1) := by decide +kernel
theorem d13_1 : decode jdk_2323_method_31_code 1 = .ok (.getfield 250, 3) := by decide +kernel
theorem d13_4 : decode jdk_2323_method_31_code 4 = .ok (.tableswitch 78 2 11 #[56, 78, 73, 78, 73, 78, 78, 73, 78, 73], 56) := by decide +kernel
theorem d13_82 : decode jdk_2323_method_31_code 82 = .ok (.bipush 31, 2) := by decide +kernel
theorem d13_84 : decode jdk_2323_method_31_code 84 = .ok (.ireturn, 1) := by decide +kernel
theorem pd13 : parseMethodDescriptor "()I" = some ⟨[], some .int⟩ := by decide +kernel
theorem pn13 : plainName "java/time/LocalDate" = true := by first | (simp [plainName, overriddenIn]; done) | decide +kernel
theorem d14_0 : decode jdk_2323_method_24_code 0 = .ok (.aload_n 0, 1) := by decide +kernel
theorem d14_1 : decode jdk_2323_method_24_code 1 = .ok (.getfield 246, 3) := by decide +kernel
theorem d14_4 : decode jdk_2323_method_24_code 4 = .ok (.ireturn, 1) := by decide +kernel
theorem pd14 : parseMethodDescriptor "()I" = some ⟨[], some .int⟩ := by decide +kernel
theorem pn14 : plainName "java/time/LocalDate" = true := by first | (simp [plainName, overriddenIn]; done) | decide +kernel
theorem d15_0 : decode jdk_2323_method_25_code 0 = .ok (.aload_n 0, 1) := by decide +kernel
theorem d15_1 : decode jdk_2323_method_25_code 1 = .ok (.getfield 250, 3) := by decide +kernel
theorem d15_4 : decode jdk_2323_method_25_code 4 = .ok (.ireturn, 1) := by decide +kernel
theorem pd15 : parseMethodDescriptor "()I" = some ⟨[], some .int⟩ := by decide +kernel
theorem pn15 : plainName "java/time/LocalDate" = true := by first | (simp [plainName, overriddenIn]; done) | decide +kernel
theorem d16_0 : decode jdk_2323_method_27_code 0 = .ok (.aload_n 0, 1) := by decide +kernel
theorem d16_1 : decode jdk_2323_method_27_code 1 = .ok (.getfield 253, 3) := by decide +kernel
theorem d16_4 : decode jdk_2323_method_27_code 4 = .ok (.ireturn, 1) := by decide +kernel
theorem pd16 : parseMethodDescriptor "()I" = some ⟨[], some .int⟩ := by decide +kernel
theorem pn16 : plainName "java/time/LocalDate" = true := by first | (simp [plainName, overriddenIn]; done) | decide +kernel
theorem pnL : plainName "com/example/settlewright/settlewright/calc/HolidayRulesEasterSundayPinLaw" = true := by first | (simp [plainName, overriddenIn]; done) | decide +kernel
set_option maxRecDepth 65536 in
set_option maxHeartbeats 40000000 in
theorem mgmn (l : Launch) (Z : State) (a0 : Array Value) (hw : ∀ d ∈ tables_1, d.before a0 Z = true) (a : Addr) (v : Int64) (h0 : Heap) (F : Fld Z h0 a "java/time/temporal/ValueRange" "minSmallest" "J" (.long v)) : Wk.Met l Z (⟨"java/time/temporal/ValueRange", "getMinimum", "()J"⟩ : MethodName) jdk_2423_method_6_code 1 (some .long) [] { frames := 0, cells := 0, slots := 0, locals := 0 } #[(.ref a)] h0 (Wk.Pu (.long v) h0) := by
  refine Wk.start pn7 ?_
  intro p e s m below meth c s₁ X0 hx hby hml hown0 hnm hret hlk hZ e0
  have hown : s.vm.findClass "java/time/temporal/ValueRange" = some m.cls := hown0
  refine Wk.enter (g' := (mkF m 0 #[.val (.ref a)] [])) (by first | rfl | (simp [entryFrame, mkF, argsToLocals, Value.category, maxLocals]; done)) ?_
  refine Wk.aloadN X0 hx (hb hby d7_0) rfl rfl rfl ?_
  refine Wk.getF (host := "") X0 hx hZ hown (Or.inl (hw _ (List.mem_of_getElem? (i := 40) rfl))) e0 F (hb hby d7_1) rfl (fun T1 X1 e1 => ?_)
  exact Wk.retL X1 hx hlk hret (hb hby d7_4) (Nat.zero_le _) (Nat.zero_le _) (Wk.pu e1)
set_option maxRecDepth 65536 in
set_option maxHeartbeats 40000000 in
theorem mgmx (l : Launch) (Z : State) (a0 : Array Value) (hw : ∀ d ∈ tables_1, d.before a0 Z = true) (a : Addr) (v : Int64) (h0 : Heap) (F : Fld Z h0 a "java/time/temporal/ValueRange" "maxLargest" "J" (.long v)) : Wk.Met l Z (⟨"java/time/temporal/ValueRange", "getMaximum", "()J"⟩ : MethodName) jdk_2423_method_9_code 1 (some .long) [] { frames := 0, cells := 0, slots := 0, locals := 0 } #[(.ref a)] h0 (Wk.Pu (.long v) h0) := by
  refine Wk.start pn8 ?_
  intro p e s m below meth c s₁ X0 hx hby hml hown0 hnm hret hlk hZ e0
  have hown : s.vm.findClass "java/time/temporal/ValueRange" = some m.cls := hown0
  refine Wk.enter (g' := (mkF m 0 #[.val (.ref a)] [])) (by first | rfl | (simp [entryFrame, mkF, argsToLocals, Value.category, maxLocals]; done)) ?_
  refine Wk.aloadN X0 hx (hb hby d8_0) rfl rfl rfl ?_
  refine Wk.getF (host := "") X0 hx hZ hown (Or.inl (hw _ (List.mem_of_getElem? (i := 47) rfl))) e0 F (hb hby d8_1) rfl (fun T1 X1 e1 => ?_)
  exact Wk.retL X1 hx hlk hret (hb hby d8_4) (Nat.zero_le _) (Nat.zero_le _) (Wk.pu e1)
set_option maxRecDepth 65536 in
set_option maxHeartbeats 40000000 in
theorem mgy (l : Launch) (Z : State) (a0 : Array Value) (hw : ∀ d ∈ tables_1, d.before a0 Z = true) (a : Addr) (v : Int32) (h0 : Heap) (F : Fld Z h0 a "java/time/LocalDate" "year" "I" (.int v)) : Wk.Met l Z (⟨"java/time/LocalDate", "getYear", "()I"⟩ : MethodName) jdk_2323_method_24_code 1 (some .int) [] { frames := 0, cells := 0, slots := 0, locals := 0 } #[(.ref a)] h0 (Wk.Pu (.int v) h0) := by
  refine Wk.start pn14 ?_
  intro p e s m below meth c s₁ X0 hx hby hml hown0 hnm hret hlk hZ e0
  have hown : s.vm.findClass "java/time/LocalDate" = some m.cls := hown0
  refine Wk.enter (g' := (mkF m 0 #[.val (.ref a)] [])) (by first | rfl | (simp [entryFrame, mkF, argsToLocals, Value.category, maxLocals]; done)) ?_
  refine Wk.aloadN X0 hx (hb hby d14_0) rfl rfl rfl ?_
  refine Wk.getF (host := "") X0 hx hZ hown (Or.inl (hw _ (List.mem_of_getElem? (i := 63) rfl))) e0 F (hb hby d14_1) rfl (fun T1 X1 e1 => ?_)
  exact Wk.retI X1 hx hlk hret (hb hby d14_4) (Nat.zero_le _) (Nat.zero_le _) (Wk.pu e1)
set_option maxRecDepth 65536 in
set_option maxHeartbeats 40000000 in
theorem mgm (l : Launch) (Z : State) (a0 : Array Value) (hw : ∀ d ∈ tables_1, d.before a0 Z = true) (a : Addr) (v : Int32) (h0 : Heap) (F : Fld Z h0 a "java/time/LocalDate" "month" "S" (.int v)) : Wk.Met l Z (⟨"java/time/LocalDate", "getMonthValue", "()I"⟩ : MethodName) jdk_2323_method_25_code 1 (some .int) [] { frames := 0, cells := 0, slots := 0, locals := 0 } #[(.ref a)] h0 (Wk.Pu (.int v) h0) := by
  refine Wk.start pn15 ?_
  intro p e s m below meth c s₁ X0 hx hby hml hown0 hnm hret hlk hZ e0
  have hown : s.vm.findClass "java/time/LocalDate" = some m.cls := hown0
  refine Wk.enter (g' := (mkF m 0 #[.val (.ref a)] [])) (by first | rfl | (simp [entryFrame, mkF, argsToLocals, Value.category, maxLocals]; done)) ?_
  refine Wk.aloadN X0 hx (hb hby d15_0) rfl rfl rfl ?_
  refine Wk.getF (host := "") X0 hx hZ hown (Or.inl (hw _ (List.mem_of_getElem? (i := 65) rfl))) e0 F (hb hby d15_1) rfl (fun T1 X1 e1 => ?_)
  exact Wk.retI X1 hx hlk hret (hb hby d15_4) (Nat.zero_le _) (Nat.zero_le _) (Wk.pu e1)
set_option maxRecDepth 65536 in
set_option maxHeartbeats 40000000 in
theorem mgd (l : Launch) (Z : State) (a0 : Array Value) (hw : ∀ d ∈ tables_1, d.before a0 Z = true) (a : Addr) (v : Int32) (h0 : Heap) (F : Fld Z h0 a "java/time/LocalDate" "day" "S" (.int v)) : Wk.Met l Z (⟨"java/time/LocalDate", "getDayOfMonth", "()I"⟩ : MethodName) jdk_2323_method_27_code 1 (some .int) [] { frames := 0, cells := 0, slots := 0, locals := 0 } #[(.ref a)] h0 (Wk.Pu (.int v) h0) := by
  refine Wk.start pn16 ?_
  intro p e s m below meth c s₁ X0 hx hby hml hown0 hnm hret hlk hZ e0
  have hown : s.vm.findClass "java/time/LocalDate" = some m.cls := hown0
  refine Wk.enter (g' := (mkF m 0 #[.val (.ref a)] [])) (by first | rfl | (simp [entryFrame, mkF, argsToLocals, Value.category, maxLocals]; done)) ?_
  refine Wk.aloadN X0 hx (hb hby d16_0) rfl rfl rfl ?_
  refine Wk.getF (host := "") X0 hx hZ hown (Or.inl (hw _ (List.mem_of_getElem? (i := 67) rfl))) e0 F (hb hby d16_1) rfl (fun T1 X1 e1 => ?_)
  exact Wk.retI X1 hx hlk hret (hb hby d16_4) (Nat.zero_le _) (Nat.zero_le _) (Wk.pu e1)
set_option maxRecDepth 65536 in
set_option maxHeartbeats 40000000 in
theorem mrg (l : Launch) (Z : State) (a0 : Array Value) (hw : ∀ d ∈ tables_1, d.before a0 Z = true) (a r : Addr) (h0 : Heap) (F : Fld Z h0 a "java/time/temporal/ChronoField" "range" "Ljava/time/temporal/ValueRange;" (.ref r)) : Wk.Met l Z (⟨"java/time/temporal/ChronoField", "range", "()Ljava/time/temporal/ValueRange;"⟩ : MethodName) jdk_2395_method_8_code 1 (some (.object "java/time/temporal/ValueRange")) [] { frames := 0, cells := 0, slots := 0, locals := 0 } #[(.ref a)] h0 (Wk.Pu (.ref r) h0) := by
  refine Wk.start pn4 ?_
  intro p e s m below meth c s₁ X0 hx hby hml hown0 hnm hret hlk hZ e0
  have hown : s.vm.findClass "java/time/temporal/ChronoField" = some m.cls := hown0
  refine Wk.enter (g' := (mkF m 0 #[.val (.ref a)] [])) (by first | rfl | (simp [entryFrame, mkF, argsToLocals, Value.category, maxLocals]; done)) ?_
  refine Wk.aloadN X0 hx (hb hby d4_0) rfl rfl rfl ?_
  refine Wk.getF (host := "") X0 hx hZ hown (Or.inl (hw _ (List.mem_of_getElem? (i := 22) rfl))) e0 F (hb hby d4_1) rfl (fun T1 X1 e1 => ?_)
  exact Wk.retA X1 hx hlk hret rfl rfl (hb hby d4_4) (Nat.zero_le _) (Nat.zero_le _) (Wk.pu e1)
set_option maxRecDepth 65536 in
set_option maxHeartbeats 40000000 in
theorem mivv (l : Launch) (Z : State) (a0 : Array Value) (hw : ∀ d ∈ tables_1, d.before a0 Z = true) (r : Addr) (mn mx v : Int64) (h1 : mn.toInt ≤ v.toInt) (h2 : v.toInt ≤ mx.toInt) (h0 : Heap) (E : Exa Z h0 r "java/time/temporal/ValueRange") (Fm : Fld Z h0 r "java/time/temporal/ValueRange" "minSmallest" "J" (.long mn)) (Fx : Fld Z h0 r "java/time/temporal/ValueRange" "maxLargest" "J" (.long mx)) : Wk.Met l Z (⟨"java/time/temporal/ValueRange", "isValidValue", "(J)Z"⟩ : MethodName) jdk_2423_method_11_code 3 (some .boolean) [] { frames := 1, cells := 0, slots := 0, locals := 14 } #[(.ref r), (.long v)] h0 (Wk.Pu (.int 1) h0) := by
  refine Wk.start pn6 ?_
  intro p e s m below meth c s₁ X0 hx hby hml hown0 hnm hret hlk hZ e0
  have hown : s.vm.findClass "java/time/temporal/ValueRange" = some m.cls := hown0
  refine Wk.enter (g' := (mkF m 0 #[.val (.ref r), .val (.long v), .second] [])) (by first | rfl | (simp [entryFrame, mkF, argsToLocals, Value.category, maxLocals]; done)) ?_
  refine Wk.lloadN X0 hx (hb hby d6_0) rfl rfl ?_
  refine Wk.aloadN X0 hx (hb hby d6_1) rfl rfl rfl ?_
  refine Wk.callVP (W := 2) X0 hx hZ (argsL := []) (rest := [(.long v)]) hown (hw _ (List.mem_of_getElem? (i := 35) rfl)) (hw _ (List.mem_of_getElem? (i := 36) rfl)) (hw _ (List.mem_of_getElem? (i := 38) rfl)) (hw _ (List.mem_of_getElem? (i := 37) rfl)) (hw _ (List.mem_of_getElem? (i := 28) rfl)) (hw _ (List.mem_of_getElem? (i := 39) rfl)) (notFace_of_selects (args := #[]) (mvT hZ (hw _ (List.mem_of_getElem? (i := 38) rfl)))) (by decide) (mgmn l Z a0 hw r mn h0 Fm) e0 E (by decide) (by decide) (by decide) (by decide) (by rw [hml]; rfl) (lenOf pd7 rfl) rfl (Nat.le_of_eq rfl) (hb hby d6_2) rfl (fun T1 X1 e1 => ?_)
  refine Wk.lcmp X1 hx (hb hby d6_5) rfl ?_
  refine Wk.lif_lt X1 hx 22 9 (hb hby d6_6) rfl rfl (show (v : Int64).toInt = (v).toInt from rfl) (show (mn : Int64).toInt = (mn).toInt from rfl) (fun h2 => absurd h2 (by omega)) (fun h2 => ?_)
  refine Wk.lloadN X1 hx (hb hby d6_9) rfl rfl ?_
  refine Wk.aloadN X1 hx (hb hby d6_10) rfl rfl rfl ?_
  refine Wk.callVP (W := 2) X1 hx hZ (argsL := []) (rest := [(.long v)]) hown (hw _ (List.mem_of_getElem? (i := 42) rfl)) (hw _ (List.mem_of_getElem? (i := 43) rfl)) (hw _ (List.mem_of_getElem? (i := 45) rfl)) (hw _ (List.mem_of_getElem? (i := 44) rfl)) (hw _ (List.mem_of_getElem? (i := 28) rfl)) (hw _ (List.mem_of_getElem? (i := 46) rfl)) (notFace_of_selects (args := #[]) (mvT hZ (hw _ (List.mem_of_getElem? (i := 45) rfl)))) (by decide) (mgmx l Z a0 hw r mx h0 Fx) e1 E (by decide) (by decide) (by decide) (by decide) (by rw [hml]; rfl) (lenOf pd8 rfl) rfl (Nat.le_of_eq rfl) (hb hby d6_11) rfl (fun T3 X3 e3 => ?_)
  refine Wk.lcmp X3 hx (hb hby d6_14) rfl ?_
  refine Wk.lif_gt X3 hx 22 18 (hb hby d6_15) rfl rfl (show (v : Int64).toInt = (v).toInt from rfl) (show (mx : Int64).toInt = (mx).toInt from rfl) (fun h4 => absurd h4 (by omega)) (fun h4 => ?_)
  refine Wk.iconst X3 hx (1 : Int32) (hb hby d6_18) rfl rfl ?_
  refine Wk.goto X3 hx 23 (hb hby d6_19) rfl ?_
  exact Wk.retZ X3 hx hlk hret (hb hby d6_23) (by decide) (Nat.zero_le _) (Nat.zero_le _) (Wk.pu e3)
set_option maxRecDepth 65536 in
set_option maxHeartbeats 40000000 in
theorem mvcv (l : Launch) (Z : State) (a0 : Array Value) (hw : ∀ d ∈ tables_1, d.before a0 Z = true) (r : Addr) (mn mx v : Int64) (h1 : mn.toInt ≤ v.toInt) (h2 : v.toInt ≤ mx.toInt) (fa : Addr) (h0 : Heap) (E : Exa Z h0 r "java/time/temporal/ValueRange") (Fm : Fld Z h0 r "java/time/temporal/ValueRange" "minSmallest" "J" (.long mn)) (Fx : Fld Z h0 r "java/time/temporal/ValueRange" "maxLargest" "J" (.long mx)) : Wk.Met l Z (⟨"java/time/temporal/ValueRange", "checkValidValue", "(JLjava/time/temporal/TemporalField;)J"⟩ : MethodName) jdk_2423_method_13_code 4 (some .long) [] { frames := 2, cells := 0, slots := 0, locals := 28 } #[(.ref r), (.long v), (.ref fa)] h0 (Wk.Pu (.long v) h0) := by
  refine Wk.start pn5 ?_
  intro p e s m below meth c s₁ X0 hx hby hml hown0 hnm hret hlk hZ e0
  have hown : s.vm.findClass "java/time/temporal/ValueRange" = some m.cls := hown0
  refine Wk.enter (g' := (mkF m 0 #[.val (.ref r), .val (.long v), .second, .val (.ref fa)] [])) (by first | rfl | (simp [entryFrame, mkF, argsToLocals, Value.category, maxLocals]; done)) ?_
  refine Wk.aloadN X0 hx (hb hby d5_0) rfl rfl rfl ?_
  refine Wk.lloadN X0 hx (hb hby d5_1) rfl rfl ?_
  refine Wk.callVP (W := 0) X0 hx hZ (argsL := [(.long v)]) (rest := []) hown (hw _ (List.mem_of_getElem? (i := 30) rfl)) (hw _ (List.mem_of_getElem? (i := 31) rfl)) (hw _ (List.mem_of_getElem? (i := 33) rfl)) (hw _ (List.mem_of_getElem? (i := 32) rfl)) (hw _ (List.mem_of_getElem? (i := 28) rfl)) (hw _ (List.mem_of_getElem? (i := 34) rfl)) (notFace_of_selects (args := #[]) (mvT hZ (hw _ (List.mem_of_getElem? (i := 33) rfl)))) (by decide) (mivv l Z a0 hw r mn mx v h1 h2 h0 E Fm Fx) e0 E (by decide) (by decide) (by decide) (by decide) (by rw [hml]; rfl) (lenOf pd6 rfl) rfl (Nat.le_of_eq rfl) (hb hby d5_2) rfl (fun T1 X1 e1 => ?_)
  refine Wk.if_ne X1 hx 22 8 (hb hby d5_5) rfl rfl (show ((1 : Int32) : Int32).toInt = 1 from (by decide)) (fun h2 => ?_) (fun h2 => absurd h2 (by omega))
  refine Wk.lloadN X1 hx (hb hby d5_22) rfl rfl ?_
  exact Wk.retL X1 hx hlk hret (hb hby d5_23) (Nat.zero_le _) (Nat.zero_le _) (Wk.pu e1)
set_option maxRecDepth 65536 in
set_option maxHeartbeats 40000000 in
theorem mccv (l : Launch) (Z : State) (a0 : Array Value) (hw : ∀ d ∈ tables_1, d.before a0 Z = true) (fa : Addr) (r : Addr) (mn mx v : Int64) (h1 : mn.toInt ≤ v.toInt) (h2 : v.toInt ≤ mx.toInt) (h0 : Heap) (Ef : Exa Z h0 fa "java/time/temporal/ChronoField") (Fr : Fld Z h0 fa "java/time/temporal/ChronoField" "range" "Ljava/time/temporal/ValueRange;" (.ref r)) (E : Exa Z h0 r "java/time/temporal/ValueRange") (Fm : Fld Z h0 r "java/time/temporal/ValueRange" "minSmallest" "J" (.long mn)) (Fx : Fld Z h0 r "java/time/temporal/ValueRange" "maxLargest" "J" (.long mx)) : Wk.Met l Z (⟨"java/time/temporal/ChronoField", "checkValidValue", "(J)J"⟩ : MethodName) jdk_2395_method_11_code 3 (some .long) [] { frames := 3, cells := 0, slots := 0, locals := 43 } #[(.ref fa), (.long v)] h0 (Wk.Pu (.long v) h0) := by
  refine Wk.start pn3 ?_
  intro p e s m below meth c s₁ X0 hx hby hml hown0 hnm hret hlk hZ e0
  have hown : s.vm.findClass "java/time/temporal/ChronoField" = some m.cls := hown0
  refine Wk.enter (g' := (mkF m 0 #[.val (.ref fa), .val (.long v), .second] [])) (by first | rfl | (simp [entryFrame, mkF, argsToLocals, Value.category, maxLocals]; done)) ?_
  refine Wk.aloadN X0 hx (hb hby d3_0) rfl rfl rfl ?_
  refine Wk.callVP (W := 0) X0 hx hZ (argsL := []) (rest := []) hown (hw _ (List.mem_of_getElem? (i := 17) rfl)) (hw _ (List.mem_of_getElem? (i := 18) rfl)) (hw _ (List.mem_of_getElem? (i := 20) rfl)) (hw _ (List.mem_of_getElem? (i := 19) rfl)) (hw _ (List.mem_of_getElem? (i := 11) rfl)) (hw _ (List.mem_of_getElem? (i := 21) rfl)) (notFace_of_selects (args := #[]) (mvT hZ (hw _ (List.mem_of_getElem? (i := 20) rfl)))) (by decide) (mrg l Z a0 hw fa r h0 Fr) e0 Ef (by decide) (by decide) (by decide) (by decide) (by rw [hml]; rfl) (lenOf pd4 rfl) rfl (Nat.le_of_eq rfl) (hb hby d3_1) rfl (fun T1 X1 e1 => ?_)
  refine Wk.lloadN X1 hx (hb hby d3_4) rfl rfl ?_
  refine Wk.aloadN X1 hx (hb hby d3_5) rfl rfl rfl ?_
  refine Wk.callVP (W := 0) X1 hx hZ (argsL := [(.long v), (.ref fa)]) (rest := []) hown (hw _ (List.mem_of_getElem? (i := 24) rfl)) (hw _ (List.mem_of_getElem? (i := 25) rfl)) (hw _ (List.mem_of_getElem? (i := 27) rfl)) (hw _ (List.mem_of_getElem? (i := 26) rfl)) (hw _ (List.mem_of_getElem? (i := 28) rfl)) (hw _ (List.mem_of_getElem? (i := 29) rfl)) (notFace_of_selects (args := #[]) (mvT hZ (hw _ (List.mem_of_getElem? (i := 27) rfl)))) (by decide) (mvcv l Z a0 hw r mn mx v h1 h2 fa h0 E Fm Fx) e1 E (by decide) (by decide) (by decide) (by decide) (by rw [hml]; rfl) (lenOf pd5 rfl) rfl (Nat.le_of_eq rfl) (hb hby d3_6) rfl (fun T2 X2 e2 => ?_)
  exact Wk.retL X2 hx hlk hret (hb hby d3_9) (Nat.zero_le _) (Nat.zero_le _) (Wk.pu e2)
def Qi (Z : State) (a : Addr) (y mo d : Int32) (h0 : Heap) (n0 : Nat) (v : Option Value) (h : Heap) (L : List Loc) : Prop := v = none ∧ Fr n0 L ∧ Keep h0 h [a] ∧ Exa Z h a "java/time/LocalDate" ∧ Fld Z h a "java/time/LocalDate" "year" "I" (.int y) ∧ Fld Z h a "java/time/LocalDate" "month" "S" (.int mo) ∧ Fld Z h a "java/time/LocalDate" "day" "S" (.int d)
theorem i2s_id {x : Int32} (h1 : -32768 ≤ x.toInt) (h2 : x.toInt < 32768) : x.toInt16.toInt32 = x := Int32.toInt_inj.mp (Wk.t_i2s rfl h1 h2)
set_option maxRecDepth 65536 in
set_option maxHeartbeats 40000000 in
theorem mini (l : Launch) (Z : State) (a0 : Array Value) (hw : ∀ d ∈ tables_1, d.before a0 Z = true) (a : Addr) (y mo d : Int32) (hm1 : -32768 ≤ mo.toInt) (hm2 : mo.toInt < 32768) (hd1 : -32768 ≤ d.toInt) (hd2 : d.toInt < 32768) (n0 : Nat) (hn0 : n0 ≤ a) (h0 : Heap) (Fy0 : Fld Z h0 a "java/time/LocalDate" "year" "I" (.int 0)) (Fm0 : Fld Z h0 a "java/time/LocalDate" "month" "S" (.int 0)) (Fd0 : Fld Z h0 a "java/time/LocalDate" "day" "S" (.int 0)) (E0 : Exa Z h0 a "java/time/LocalDate") : Wk.Met l Z (⟨"java/time/LocalDate", "<init>", "(III)V"⟩ : MethodName) jdk_2323_method_14_code 4 none [] { frames := 1, cells := 0, slots := 0, locals := 12 } #[(.ref a), (.int y), (.int mo), (.int d)] h0 (Qi Z a y mo d h0 n0) := by
  refine Wk.start pn10 ?_
  intro p e s m below meth c s₁ X0 hx hby hml hown0 hnm hret hlk hZ e0
  have hown : s.vm.findClass "java/time/LocalDate" = some m.cls := hown0
  refine Wk.enter (g' := (mkF m 0 #[.val (.ref a), .val (.int y), .val (.int mo), .val (.int d)] [])) (by first | rfl | (simp [entryFrame, mkF, argsToLocals, Value.category, maxLocals]; done)) ?_
  refine Wk.aloadN X0 hx (hb hby d10_0) rfl rfl rfl ?_
  refine Wk.initO (W := 0) X0 hx hZ hown (hw _ (List.mem_of_getElem? (i := 60) rfl)) (hw _ (List.mem_of_getElem? (i := 61) rfl)) (hw _ (List.mem_of_getElem? (i := 62) rfl)) e0 (by rw [hml]; rfl) (by decide) (Nat.le_of_eq rfl) (by decide) (hb hby d10_1) rfl (fun T1 X1 e1 => ?_)
  refine Wk.aloadN X1 hx (hb hby d10_4) rfl rfl rfl ?_
  refine Wk.iloadN X1 hx (hb hby d10_5) rfl rfl ?_
  refine Wk.putF (host := "") (ty := .int) X1 hx hZ hown (Or.inl (hw _ (List.mem_of_getElem? (i := 63) rfl))) e1 Fy0 E0 (Or.inr ⟨(hw _ (List.mem_of_getElem? (i := 64) rfl)), rfl, hnm⟩) (hw _ (List.mem_of_getElem? (i := 55) rfl)) (by decide) rfl rfl (hb hby d10_6) rfl (fun T2 h2 X2 e2 W2 => ?_)
  have Fyear2 := Fy0.same W2
  have Fmonth2 := Fm0.other W2 (Or.inr (slot_ne (t := .short) (t' := .int) (Or.inr (hw _ (List.mem_of_getElem? (i := 66) rfl))) (Or.inr (hw _ (List.mem_of_getElem? (i := 64) rfl))) (by decide) (by decide) (by decide)))
  have Fday2 := Fd0.other W2 (Or.inr (slot_ne (t := .short) (t' := .int) (Or.inr (hw _ (List.mem_of_getElem? (i := 68) rfl))) (Or.inr (hw _ (List.mem_of_getElem? (i := 64) rfl))) (by decide) (by decide) (by decide)))
  have E2 := E0.wr W2
  refine Wk.aloadN X2 hx (hb hby d10_9) rfl rfl rfl ?_
  refine Wk.iloadN X2 hx (hb hby d10_10) rfl rfl ?_
  refine Wk.i2s X2 hx (hb hby d10_11) rfl ?_
  refine Wk.putF (host := "") (ty := .short) X2 hx hZ hown (Or.inl (hw _ (List.mem_of_getElem? (i := 65) rfl))) e2 Fmonth2 E2 (Or.inr ⟨(hw _ (List.mem_of_getElem? (i := 66) rfl)), rfl, hnm⟩) (hw _ (List.mem_of_getElem? (i := 55) rfl)) (by decide) (XT.narrow_s _) (fits_nar_short _) (hb hby d10_12) rfl (fun T3 h3 X3 e3 W3 => ?_)
  have Fyear3 := Fyear2.other W3 (Or.inr (slot_ne (t := .int) (t' := .short) (Or.inr (hw _ (List.mem_of_getElem? (i := 64) rfl))) (Or.inr (hw _ (List.mem_of_getElem? (i := 66) rfl))) (by decide) (by decide) (by decide)))
  have Fmonth3 := Fmonth2.same W3
  have Fday3 := Fday2.other W3 (Or.inr (slot_ne (t := .short) (t' := .short) (Or.inr (hw _ (List.mem_of_getElem? (i := 68) rfl))) (Or.inr (hw _ (List.mem_of_getElem? (i := 66) rfl))) (by decide) (by decide) (by decide)))
  have E3 := E2.wr W3
  refine Wk.aloadN X3 hx (hb hby d10_15) rfl rfl rfl ?_
  refine Wk.iloadN X3 hx (hb hby d10_16) rfl rfl ?_
  refine Wk.i2s X3 hx (hb hby d10_17) rfl ?_
  refine Wk.putF (host := "") (ty := .short) X3 hx hZ hown (Or.inl (hw _ (List.mem_of_getElem? (i := 67) rfl))) e3 Fday3 E3 (Or.inr ⟨(hw _ (List.mem_of_getElem? (i := 68) rfl)), rfl, hnm⟩) (hw _ (List.mem_of_getElem? (i := 55) rfl)) (by decide) (XT.narrow_s _) (fits_nar_short _) (hb hby d10_18) rfl (fun T4 h4 X4 e4 W4 => ?_)
  have Fyear4 := Fyear3.other W4 (Or.inr (slot_ne (t := .int) (t' := .short) (Or.inr (hw _ (List.mem_of_getElem? (i := 64) rfl))) (Or.inr (hw _ (List.mem_of_getElem? (i := 68) rfl))) (by decide) (by decide) (by decide)))
  have Fmonth4 := Fmonth3.other W4 (Or.inr (slot_ne (t := .short) (t' := .short) (Or.inr (hw _ (List.mem_of_getElem? (i := 66) rfl))) (Or.inr (hw _ (List.mem_of_getElem? (i := 68) rfl))) (by decide) (by decide) (by decide)))
  have Fday4 := Fday3.same W4
  have E4 := E3.wr W4
  rw [i2s_id hm1 hm2] at Fmonth4
  rw [i2s_id hd1 hd2] at Fday4
  exact Wk.retV X4 hx hlk hret (hb hby d10_21) (by decide) (by decide) (by rw [e4]; exact ⟨rfl, Fr.snoc X4 (Fr.snoc X3 (Fr.snoc X2 (Fr.nil n0) hn0) hn0) hn0, (((Keep.refl _ _).wr W2 (Or.inl (List.mem_singleton.mpr rfl))).wr W3 (Or.inl (List.mem_singleton.mpr rfl))).wr W4 (Or.inl (List.mem_singleton.mpr rfl)), E4, Fyear4, Fmonth4, Fday4⟩)
def Qn (Z : State) (y mo d : Int32) (h0 : Heap) (n0 : Nat) (v : Option Value) (h : Heap) (L : List Loc) : Prop := ∃ a, v = some (.ref a) ∧ Fr n0 L ∧ Ext h0 h ∧ Exa Z h a "java/time/LocalDate" ∧ Fld Z h a "java/time/LocalDate" "year" "I" (.int y) ∧ Fld Z h a "java/time/LocalDate" "month" "S" (.int mo) ∧ Fld Z h a "java/time/LocalDate" "day" "S" (.int d)
set_option maxRecDepth 65536 in
set_option maxHeartbeats 40000000 in
theorem mcr (l : Launch) (Z : State) (a0 : Array Value) (hw : ∀ d ∈ tables_1, d.before a0 Z = true) (y mo d : Int32) (hm1 : -32768 ≤ mo.toInt) (hm2 : mo.toInt < 32768) (hd1 : -32768 ≤ d.toInt) (hd2 : d.toInt < 32768) (hd28 : d.toInt ≤ 28) (n0 : Nat) (h0 : Heap) (hn0 : n0 ≤ h0.size) : Wk.Met l Z (⟨"java/time/LocalDate", "create", "(III)Ljava/time/LocalDate;"⟩ : MethodName) jdk_2323_method_12_code 4 (some (.object "java/time/LocalDate")) [] { frames := 2, cells := 1, slots := 3, locals := 28 } #[(.int y), (.int mo), (.int d)] h0 (Qn Z y mo d h0 n0) := by
  refine Wk.start pn9 ?_
  intro p e s m below meth c s₁ X0 hx hby hml hown0 hnm hret hlk hZ e0
  have hown : s.vm.findClass "java/time/LocalDate" = some m.cls := hown0
  refine Wk.enter (g' := (mkF m 0 #[.val (.int y), .val (.int mo), .val (.int d), .unset] [])) (by first | rfl | (simp [entryFrame, mkF, argsToLocals, Value.category, maxLocals]; done)) ?_
  refine Wk.iloadN X0 hx (hb hby d9_0) rfl rfl ?_
  refine Wk.bipush X0 hx (28 : Int32) (hb hby d9_1) rfl rfl ?_
  refine Wk.icmp_le X0 hx 179 6 (hb hby d9_3) rfl rfl (show (d : Int32).toInt = (d).toInt from rfl) (show ((28 : Int32) : Int32).toInt = 28 from (by decide)) (fun h1 => ?_) (fun h1 => absurd h1 (by omega))
  refine Wk.newO X0 hx hZ hown (hw _ (List.mem_of_getElem? (i := 54) rfl)) (hw _ (List.mem_of_getElem? (i := 55) rfl)) (hw _ (List.mem_of_getElem? (i := 8) rfl)) e0 (hb hby d9_179) (by decide) (by decide) rfl (fun T20 h20 X20 e20 Ex20 A20 D20 => ?_)
  refine Wk.dup X20 hx (hb hby d9_182) rfl rfl ?_
  refine Wk.iloadN X20 hx (hb hby d9_183) rfl rfl ?_
  refine Wk.iloadN X20 hx (hb hby d9_184) rfl rfl ?_
  refine Wk.iloadN X20 hx (hb hby d9_185) rfl rfl ?_
  refine Wk.callI (W := 1) X20 hx hZ (argsL := [(.int y), (.int mo), (.int d)]) (rest := [(.ref h0.size)]) rfl hown (hw _ (List.mem_of_getElem? (i := 56) rfl)) (hw _ (List.mem_of_getElem? (i := 57) rfl)) (hw _ (List.mem_of_getElem? (i := 8) rfl)) (hw _ (List.mem_of_getElem? (i := 59) rfl)) (by decide) (mini l Z a0 hw h0.size y mo d hm1 hm2 hd1 hd2 n0 hn0 h20 (D20 (Or.inr (hw _ (List.mem_of_getElem? (i := 64) rfl))) (ty := .int) (by decide)) (D20 (Or.inr (hw _ (List.mem_of_getElem? (i := 66) rfl))) (ty := .short) (by decide)) (D20 (Or.inr (hw _ (List.mem_of_getElem? (i := 68) rfl))) (ty := .short) (by decide)) A20) e20 (by decide) (by decide) (by decide) (by decide) (by rw [hml]; rfl) (lenOf pd10 rfl) rfl (Nat.le_of_eq rfl) (hb hby d9_186) rfl (fun T21 v21 L21 X21 hq21 => ?_)
  obtain ⟨rfl, N21, K21, A21, Fy21, Fm21, Fd21⟩ := hq21
  show Wk.Go p e below s _ _ _ T21 (mkF m 189 #[.val (.int y), .val (.int mo), .val (.int d), .unset] [(.ref h0.size)])
  exact Wk.retA X21 hx hlk hret rfl rfl (hb hby d9_189) (by decide) (by decide) ⟨_, rfl, Fr.app (Fr.nil n0) N21, Wk.ext_of_keep (((Keep.refl _ _).ext Ex20).trans K21 (allS (Or.inr (Nat.le_refl _)) all0)), A21, Fy21, Fm21, Fd21⟩
set_option maxRecDepth 65536 in
set_option maxHeartbeats 40000000 in
theorem mof (l : Launch) (Z : State) (a0 : Array Value) (hw : ∀ d ∈ tables_1, d.before a0 Z = true) (y : Int32) (hy0 : 0 ≤ y.toInt) (hy1 : y.toInt ≤ 999999999) (fY rY fM rM fD rD : Addr) (n0 : Nat) (h0 : Heap) (hn0 : n0 ≤ h0.size) (SfY : Sta Z h0 "java/time/temporal/ChronoField" "YEAR" "Ljava/time/temporal/ChronoField;" (.ref fY)) (EffY : Exa Z h0 fY "java/time/temporal/ChronoField") (FrfY : Fld Z h0 fY "java/time/temporal/ChronoField" "range" "Ljava/time/temporal/ValueRange;" (.ref rY)) (ErY : Exa Z h0 rY "java/time/temporal/ValueRange") (FmrY : Fld Z h0 rY "java/time/temporal/ValueRange" "minSmallest" "J" (.long (-999999999))) (FxrY : Fld Z h0 rY "java/time/temporal/ValueRange" "maxLargest" "J" (.long (999999999))) (SfM : Sta Z h0 "java/time/temporal/ChronoField" "MONTH_OF_YEAR" "Ljava/time/temporal/ChronoField;" (.ref fM)) (EffM : Exa Z h0 fM "java/time/temporal/ChronoField") (FrfM : Fld Z h0 fM "java/time/temporal/ChronoField" "range" "Ljava/time/temporal/ValueRange;" (.ref rM)) (ErM : Exa Z h0 rM "java/time/temporal/ValueRange") (FmrM : Fld Z h0 rM "java/time/temporal/ValueRange" "minSmallest" "J" (.long (1))) (FxrM : Fld Z h0 rM "java/time/temporal/ValueRange" "maxLargest" "J" (.long (12))) (SfD : Sta Z h0 "java/time/temporal/ChronoField" "DAY_OF_MONTH" "Ljava/time/temporal/ChronoField;" (.ref fD)) (EffD : Exa Z h0 fD "java/time/temporal/ChronoField") (FrfD : Fld Z h0 fD "java/time/temporal/ChronoField" "range" "Ljava/time/temporal/ValueRange;" (.ref rD)) (ErD : Exa Z h0 rD "java/time/temporal/ValueRange") (FmrD : Fld Z h0 rD "java/time/temporal/ValueRange" "minSmallest" "J" (.long (1))) (FxrD : Fld Z h0 rD "java/time/temporal/ValueRange" "maxLargest" "J" (.long (31))) : Wk.Met l Z (⟨"java/time/LocalDate", "of", "(III)Ljava/time/LocalDate;"⟩ : MethodName) jdk_2323_method_5_code 3 (some (.object "java/time/LocalDate")) [] { frames := 4, cells := 1, slots := 3, locals := 58 } #[(.int y), (.int (3 : Int32)), (.int (22 : Int32))] h0 (Qn Z y 3 22 h0 n0) := by
  refine Wk.start pn2 ?_
  intro p e s m below meth c s₁ X0 hx hby hml hown0 hnm hret hlk hZ e0
  have hown : s.vm.findClass "java/time/LocalDate" = some m.cls := hown0
  refine Wk.enter (g' := (mkF m 0 #[.val (.int y), .val (.int (3 : Int32)), .val (.int (22 : Int32))] [])) (by first | rfl | (simp [entryFrame, mkF, argsToLocals, Value.category, maxLocals]; done)) ?_
  refine Wk.getS (host := "") X0 hx hZ hown (Or.inl (hw _ (List.mem_of_getElem? (i := 10) rfl))) e0 SfY (hb hby d2_0) rfl (fun T1 X1 e1 => ?_)
  refine Wk.iloadN X1 hx (hb hby d2_3) rfl rfl ?_
  refine Wk.i2l X1 hx (hb hby d2_4) rfl ?_
  have t2 : (y.toInt64).toInt = (y).toInt := Wk.t_i2l (show (y : Int32).toInt = (y).toInt from rfl)
  generalize y.toInt64 = u2 at t2 ⊢
  refine Wk.callVP (W := 0) X1 hx hZ (argsL := [(.long u2)]) (rest := []) hown (hw _ (List.mem_of_getElem? (i := 12) rfl)) (hw _ (List.mem_of_getElem? (i := 13) rfl)) (hw _ (List.mem_of_getElem? (i := 15) rfl)) (hw _ (List.mem_of_getElem? (i := 14) rfl)) (hw _ (List.mem_of_getElem? (i := 11) rfl)) (hw _ (List.mem_of_getElem? (i := 16) rfl)) (notFace_of_selects (args := #[]) (mvT hZ (hw _ (List.mem_of_getElem? (i := 15) rfl)))) (by decide) (mccv l Z a0 hw fY rY (-999999999) (999999999) u2 (by rw [show (-999999999 : Int64).toInt = -999999999 from by decide]; omega) (by rw [show (999999999 : Int64).toInt = 999999999 from by decide]; omega) h0 EffY FrfY ErY FmrY FxrY) e1 EffY (by decide) (by decide) (by decide) (by decide) (by rw [hml]; rfl) (lenOf pd3 rfl) rfl (Nat.le_of_eq rfl) (hb hby d2_5) rfl (fun T3 X3 e3 => ?_)
  refine Wk.pop2L X3 hx (hb hby d2_8) rfl ?_
  refine Wk.getS (host := "") X3 hx hZ hown (Or.inl (hw _ (List.mem_of_getElem? (i := 49) rfl))) e3 SfM (hb hby d2_9) rfl (fun T4 X4 e4 => ?_)
  refine Wk.iloadN X4 hx (hb hby d2_12) rfl rfl ?_
  refine Wk.i2l X4 hx (hb hby d2_13) rfl ?_
  have t5 : ((3 : Int32).toInt64).toInt = 3 := Wk.t_i2l (show ((3 : Int32) : Int32).toInt = 3 from (by decide))
  generalize (3 : Int32).toInt64 = u5 at t5 ⊢
  refine Wk.callVP (W := 0) X4 hx hZ (argsL := [(.long u5)]) (rest := []) hown (hw _ (List.mem_of_getElem? (i := 12) rfl)) (hw _ (List.mem_of_getElem? (i := 13) rfl)) (hw _ (List.mem_of_getElem? (i := 15) rfl)) (hw _ (List.mem_of_getElem? (i := 14) rfl)) (hw _ (List.mem_of_getElem? (i := 11) rfl)) (hw _ (List.mem_of_getElem? (i := 16) rfl)) (notFace_of_selects (args := #[]) (mvT hZ (hw _ (List.mem_of_getElem? (i := 15) rfl)))) (by decide) (mccv l Z a0 hw fM rM (1) (12) u5 (by rw [show (1 : Int64).toInt = 1 from by decide]; omega) (by rw [show (12 : Int64).toInt = 12 from by decide]; omega) h0 EffM FrfM ErM FmrM FxrM) e4 EffM (by decide) (by decide) (by decide) (by decide) (by rw [hml]; rfl) (lenOf pd3 rfl) rfl (Nat.le_of_eq rfl) (hb hby d2_14) rfl (fun T6 X6 e6 => ?_)
  refine Wk.pop2L X6 hx (hb hby d2_17) rfl ?_
  refine Wk.getS (host := "") X6 hx hZ hown (Or.inl (hw _ (List.mem_of_getElem? (i := 50) rfl))) e6 SfD (hb hby d2_18) rfl (fun T7 X7 e7 => ?_)
  refine Wk.iloadN X7 hx (hb hby d2_21) rfl rfl ?_
  refine Wk.i2l X7 hx (hb hby d2_22) rfl ?_
  have t8 : ((22 : Int32).toInt64).toInt = 22 := Wk.t_i2l (show ((22 : Int32) : Int32).toInt = 22 from (by decide))
  generalize (22 : Int32).toInt64 = u8 at t8 ⊢
  refine Wk.callVP (W := 0) X7 hx hZ (argsL := [(.long u8)]) (rest := []) hown (hw _ (List.mem_of_getElem? (i := 12) rfl)) (hw _ (List.mem_of_getElem? (i := 13) rfl)) (hw _ (List.mem_of_getElem? (i := 15) rfl)) (hw _ (List.mem_of_getElem? (i := 14) rfl)) (hw _ (List.mem_of_getElem? (i := 11) rfl)) (hw _ (List.mem_of_getElem? (i := 16) rfl)) (notFace_of_selects (args := #[]) (mvT hZ (hw _ (List.mem_of_getElem? (i := 15) rfl)))) (by decide) (mccv l Z a0 hw fD rD (1) (31) u8 (by rw [show (1 : Int64).toInt = 1 from by decide]; omega) (by rw [show (31 : Int64).toInt = 31 from by decide]; omega) h0 EffD FrfD ErD FmrD FxrD) e7 EffD (by decide) (by decide) (by decide) (by decide) (by rw [hml]; rfl) (lenOf pd3 rfl) rfl (Nat.le_of_eq rfl) (hb hby d2_23) rfl (fun T9 X9 e9 => ?_)
  refine Wk.pop2L X9 hx (hb hby d2_26) rfl ?_
  refine Wk.iloadN X9 hx (hb hby d2_27) rfl rfl ?_
  refine Wk.iloadN X9 hx (hb hby d2_28) rfl rfl ?_
  refine Wk.iloadN X9 hx (hb hby d2_29) rfl rfl ?_
  refine Wk.callS (W := 0) X9 hx hZ (argsL := [(.int y), (.int (3 : Int32)), (.int (22 : Int32))]) (rest := []) hown (hw _ (List.mem_of_getElem? (i := 51) rfl)) (hw _ (List.mem_of_getElem? (i := 52) rfl)) (hw _ (List.mem_of_getElem? (i := 8) rfl)) (hw _ (List.mem_of_getElem? (i := 53) rfl)) (by decide) (mcr l Z a0 hw y 3 22 (by decide) (by decide) (by decide) (by decide) (by decide) n0 h0 hn0) e9 (by decide) (by decide) (by decide) (by decide) (by rw [hml]; rfl) (lenOf pd9 rfl) rfl (Nat.le_of_eq rfl) (hb hby d2_30) rfl (fun T10 v10 L10 X10 hq10 => ?_)
  obtain ⟨a, rfl, Nn, En, An, Fyn, Fmn, Fdn⟩ := hq10
  show Wk.Go p e below s _ _ _ T10 (mkF m 33 #[.val (.int y), .val (.int (3 : Int32)), .val (.int (22 : Int32))] [(.ref a)])
  exact Wk.retA X10 hx hlk hret rfl rfl (hb hby d2_33) (by decide) (by decide) ⟨_, rfl, Fr.app (Fr.nil n0) Nn, En, An, Fyn, Fmn, Fdn⟩
set_option maxRecDepth 65536 in
set_option maxHeartbeats 40000000 in
theorem mlom (l : Launch) (Z : State) (a0 : Array Value) (hw : ∀ d ∈ tables_1, d.before a0 Z = true) (a : Addr) (h0 : Heap) (F : Fld Z h0 a "java/time/LocalDate" "month" "S" (.int 3)) : Wk.Met l Z (⟨"java/time/LocalDate", "lengthOfMonth", "()I"⟩ : MethodName) jdk_2323_method_31_code 1 (some .int) [] { frames := 0, cells := 0, slots := 0, locals := 0 } #[(.ref a)] h0 (Wk.Pu (.int 31) h0) := by
  refine Wk.start pn13 ?_
  intro p e s m below meth c s₁ X0 hx hby hml hown0 hnm hret hlk hZ e0
  have hown : s.vm.findClass "java/time/LocalDate" = some m.cls := hown0
  refine Wk.enter (g' := (mkF m 0 #[.val (.ref a)] [])) (by first | rfl | (simp [entryFrame, mkF, argsToLocals, Value.category, maxLocals]; done)) ?_
  refine Wk.aloadN X0 hx (hb hby d13_0) rfl rfl rfl ?_
  refine Wk.getF (host := "") X0 hx hZ hown (Or.inl (hw _ (List.mem_of_getElem? (i := 65) rfl))) e0 F (hb hby d13_1) rfl (fun T1 X1 e1 => ?_)
  refine Wk.tsw X1 hx 82 (hb hby d13_4) (by decide) rfl rfl ?_
  refine Wk.bipush X1 hx (31 : Int32) (hb hby d13_82) rfl rfl ?_
  exact Wk.retI X1 hx hlk hret (hb hby d13_84) (Nat.zero_le _) (Nat.zero_le _) (Wk.pu e1)
def Qp (Z : State) (y : Int32) (N : Int) (h0 : Heap) (n0 : Nat) (v : Option Value) (h : Heap) (L : List Loc) : Prop := ∃ (a : Addr) (mo d : Int32), v = some (.ref a) ∧ Fr n0 L ∧ Ext h0 h ∧ Exa Z h a "java/time/LocalDate" ∧ Fld Z h a "java/time/LocalDate" "year" "I" (.int y) ∧ Fld Z h a "java/time/LocalDate" "month" "S" (.int mo) ∧ Fld Z h a "java/time/LocalDate" "day" "S" (.int d) ∧ (22 + N ≤ 31 → mo.toInt = 3 ∧ d.toInt = 22 + N) ∧ (31 < 22 + N → mo.toInt = 4 ∧ d.toInt = N - 9)
set_option maxRecDepth 65536 in
set_option maxHeartbeats 40000000 in
theorem mpl (l : Launch) (Z : State) (a0 : Array Value) (hw : ∀ d ∈ tables_1, d.before a0 Z = true) (a : Addr) (y : Int32) (v : Int64) (hv0 : 0 ≤ v.toInt) (hv1 : v.toInt ≤ 37) (n0 : Nat) (h0 : Heap) (hn0 : n0 ≤ h0.size) (E : Exa Z h0 a "java/time/LocalDate") (Fy : Fld Z h0 a "java/time/LocalDate" "year" "I" (.int y)) (Fm : Fld Z h0 a "java/time/LocalDate" "month" "S" (.int 3)) (Fd : Fld Z h0 a "java/time/LocalDate" "day" "S" (.int 22)) : Wk.Met l Z (⟨"java/time/LocalDate", "plusDays", "(J)Ljava/time/LocalDate;"⟩ : MethodName) jdk_2323_method_44_code 7 (some (.object "java/time/LocalDate")) [] { frames := 2, cells := 1, slots := 3, locals := 28 } #[(.ref a), (.long v)] h0 (Qp Z y v.toInt h0 n0) := by
  refine Wk.start pn12 ?_
  intro p e s m below meth c s₁ X0 hx hby hml hown0 hnm hret hlk hZ e0
  have hown : s.vm.findClass "java/time/LocalDate" = some m.cls := hown0
  refine Wk.enter (g' := (mkF m 0 #[.val (.ref a), .val (.long v), .second, .unset, .unset, .unset, .unset] [])) (by first | rfl | (simp [entryFrame, mkF, argsToLocals, Value.category, maxLocals]; done)) ?_
  refine Wk.lloadN X0 hx (hb hby d12_0) rfl rfl ?_
  refine Wk.lconst X0 hx (0 : Int64) (hb hby d12_1) rfl rfl ?_
  refine Wk.lcmp X0 hx (hb hby d12_2) rfl ?_
  refine Wk.lif_ne X0 hx 8 6 (hb hby d12_3) rfl rfl (show (v : Int64).toInt = (v).toInt from rfl) (show ((0 : Int64) : Int64).toInt = 0 from (by decide)) (fun h1 => ?_) (fun h1 => ?_)
  · skip
    refine Wk.aloadN X0 hx (hb hby d12_8) rfl rfl rfl ?_
    refine Wk.getF (host := "") X0 hx hZ hown (Or.inl (hw _ (List.mem_of_getElem? (i := 67) rfl))) e0 Fd (hb hby d12_9) rfl (fun T2 X2 e2 => ?_)
    refine Wk.i2l X2 hx (hb hby d12_12) rfl ?_
    have t3 : ((22 : Int32).toInt64).toInt = 22 := Wk.t_i2l (show ((22 : Int32) : Int32).toInt = 22 from (by decide))
    generalize (22 : Int32).toInt64 = u3 at t3 ⊢
    refine Wk.lloadN X2 hx (hb hby d12_13) rfl rfl ?_
    refine Wk.ladd X2 hx (hb hby d12_14) rfl ?_
    have t4 : (u3 + v).toInt = u3.toInt + ((v).toInt) := Wk.s_add (show (u3 : Int64).toInt = u3.toInt from rfl) (show (v : Int64).toInt = (v).toInt from rfl) (by omega) (by omega)
    generalize u3 + v = u4 at t4 ⊢
    refine Wk.lstoreN (l' := #[.val (.ref a), .val (.long v), .second, .val (.long u4), .second, .unset, .unset]) X2 hx (hb hby d12_15) rfl rfl ?_
    refine Wk.lloadN X2 hx (hb hby d12_16) rfl rfl ?_
    refine Wk.lconst X2 hx (0 : Int64) (hb hby d12_17) rfl rfl ?_
    refine Wk.lcmp X2 hx (hb hby d12_18) rfl ?_
    refine Wk.lif_le X2 hx 154 22 (hb hby d12_19) rfl rfl (show (u4 : Int64).toInt = u4.toInt from rfl) (show ((0 : Int64) : Int64).toInt = 0 from (by decide)) (fun h5 => absurd h5 (by omega)) (fun h5 => ?_)
    refine Wk.lloadN X2 hx (hb hby d12_22) rfl rfl ?_
    refine Wk.ldcJ X2 hx hZ hown (hw _ (List.mem_of_getElem? (i := 74) rfl)) (hb hby d12_23) rfl ?_
    refine Wk.lcmp X2 hx (hb hby d12_26) rfl ?_
    refine Wk.lif_gt X2 hx 48 30 (hb hby d12_27) rfl rfl (show (u4 : Int64).toInt = u4.toInt from rfl) (show ((28 : Int64) : Int64).toInt = 28 from (by decide)) (fun h6 => ?_) (fun h6 => ?_)
    · skip
      refine Wk.lloadN X2 hx (hb hby d12_48) rfl rfl ?_
      refine Wk.ldcJ X2 hx hZ hown (hw _ (List.mem_of_getElem? (i := 75) rfl)) (hb hby d12_49) rfl ?_
      refine Wk.lcmp X2 hx (hb hby d12_52) rfl ?_
      refine Wk.lif_gt X2 hx 154 56 (hb hby d12_53) rfl rfl (show (u4 : Int64).toInt = u4.toInt from rfl) (show ((59 : Int64) : Int64).toInt = 59 from (by decide)) (fun h7 => absurd h7 (by omega)) (fun h7 => ?_)
      refine Wk.aloadN X2 hx (hb hby d12_56) rfl rfl rfl ?_
      refine Wk.callVP (W := 0) X2 hx hZ (argsL := []) (rest := []) hown (hw _ (List.mem_of_getElem? (i := 76) rfl)) (hw _ (List.mem_of_getElem? (i := 77) rfl)) (hw _ (List.mem_of_getElem? (i := 79) rfl)) (hw _ (List.mem_of_getElem? (i := 78) rfl)) (hw _ (List.mem_of_getElem? (i := 8) rfl)) (hw _ (List.mem_of_getElem? (i := 80) rfl)) (notFace_of_selects (args := #[]) (mvT hZ (hw _ (List.mem_of_getElem? (i := 79) rfl)))) (by decide) (mlom l Z a0 hw a h0 Fm) e2 E (by decide) (by decide) (by decide) (by decide) (by rw [hml]; rfl) (lenOf pd13 rfl) rfl (Nat.le_of_eq rfl) (hb hby d12_57) rfl (fun T8 X8 e8 => ?_)
      refine Wk.i2l X8 hx (hb hby d12_60) rfl ?_
      have t9 : ((31 : Int32).toInt64).toInt = 31 := Wk.t_i2l (show ((31 : Int32) : Int32).toInt = 31 from (by decide))
      generalize (31 : Int32).toInt64 = u9 at t9 ⊢
      refine Wk.lstore (l' := #[.val (.ref a), .val (.long v), .second, .val (.long u4), .second, .val (.long u9), .second]) X8 hx (hb hby d12_61) rfl rfl ?_
      refine Wk.lloadN X8 hx (hb hby d12_63) rfl rfl ?_
      refine Wk.lload X8 hx (hb hby d12_64) rfl rfl ?_
      refine Wk.lcmp X8 hx (hb hby d12_66) rfl ?_
      refine Wk.lif_gt X8 hx 88 70 (hb hby d12_67) rfl rfl (show (u4 : Int64).toInt = u4.toInt from rfl) (show (u9 : Int64).toInt = u9.toInt from rfl) (fun h10 => ?_) (fun h10 => ?_)
      · skip
        refine Wk.aloadN X8 hx (hb hby d12_88) rfl rfl rfl ?_
        refine Wk.getF (host := "") X8 hx hZ hown (Or.inl (hw _ (List.mem_of_getElem? (i := 65) rfl))) e8 Fm (hb hby d12_89) rfl (fun T11 X11 e11 => ?_)
        refine Wk.bipush X11 hx (12 : Int32) (hb hby d12_92) rfl rfl ?_
        refine Wk.icmp_ge X11 hx 120 97 (hb hby d12_94) rfl rfl (show ((3 : Int32) : Int32).toInt = 3 from (by decide)) (show ((12 : Int32) : Int32).toInt = 12 from (by decide)) (fun h12 => absurd h12 (by omega)) (fun h12 => ?_)
        refine Wk.newO X11 hx hZ hown (hw _ (List.mem_of_getElem? (i := 54) rfl)) (hw _ (List.mem_of_getElem? (i := 55) rfl)) (hw _ (List.mem_of_getElem? (i := 8) rfl)) e11 (hb hby d12_97) (by decide) (by decide) rfl (fun T60 h60 X60 e60 Ex60 A60 D60 => ?_)
        refine Wk.dup X60 hx (hb hby d12_100) rfl rfl ?_
        refine Wk.aloadN X60 hx (hb hby d12_101) rfl rfl rfl ?_
        refine Wk.getF (host := "") X60 hx hZ hown (Or.inl (hw _ (List.mem_of_getElem? (i := 63) rfl))) e60 (Fy.ext Ex60) (hb hby d12_102) rfl (fun T13 X13 e13 => ?_)
        refine Wk.aloadN X13 hx (hb hby d12_105) rfl rfl rfl ?_
        refine Wk.getF (host := "") X13 hx hZ hown (Or.inl (hw _ (List.mem_of_getElem? (i := 65) rfl))) e13 (Fm.ext Ex60) (hb hby d12_106) rfl (fun T14 X14 e14 => ?_)
        refine Wk.iconst X14 hx (1 : Int32) (hb hby d12_109) rfl rfl ?_
        refine Wk.iadd X14 hx (hb hby d12_110) rfl ?_
        have t15 : ((3 : Int32) + (1 : Int32)).toInt = 3 + 1 := Wk.t_add (show ((3 : Int32) : Int32).toInt = 3 from (by decide)) (show ((1 : Int32) : Int32).toInt = 1 from (by decide)) (by omega) (by omega)
        generalize (3 : Int32) + (1 : Int32) = u15 at t15 ⊢
        refine Wk.lloadN X14 hx (hb hby d12_111) rfl rfl ?_
        refine Wk.lload X14 hx (hb hby d12_112) rfl rfl ?_
        refine Wk.lsub X14 hx (hb hby d12_114) rfl ?_
        have t16 : (u4 - u9).toInt = u4.toInt - u9.toInt := Wk.s_sub (show (u4 : Int64).toInt = u4.toInt from rfl) (show (u9 : Int64).toInt = u9.toInt from rfl) (by omega) (by omega)
        generalize u4 - u9 = u16 at t16 ⊢
        refine Wk.l2i X14 hx (hb hby d12_115) rfl ?_
        have t17 : (u16.toInt32).toInt = u16.toInt := Wk.s_l2i (show (u16 : Int64).toInt = u16.toInt from rfl) (by omega) (by omega)
        generalize u16.toInt32 = u17 at t17 ⊢
        refine Wk.callI (W := 1) X14 hx hZ (argsL := [(.int y), (.int u15), (.int u17)]) (rest := [(.ref h0.size)]) rfl hown (hw _ (List.mem_of_getElem? (i := 56) rfl)) (hw _ (List.mem_of_getElem? (i := 57) rfl)) (hw _ (List.mem_of_getElem? (i := 8) rfl)) (hw _ (List.mem_of_getElem? (i := 59) rfl)) (by decide) (mini l Z a0 hw h0.size y u15 u17 (by omega) (by omega) (by omega) (by omega) n0 hn0 h60 (D60 (Or.inr (hw _ (List.mem_of_getElem? (i := 64) rfl))) (ty := .int) (by decide)) (D60 (Or.inr (hw _ (List.mem_of_getElem? (i := 66) rfl))) (ty := .short) (by decide)) (D60 (Or.inr (hw _ (List.mem_of_getElem? (i := 68) rfl))) (ty := .short) (by decide)) A60) e14 (by decide) (by decide) (by decide) (by decide) (by rw [hml]; rfl) (lenOf pd10 rfl) rfl (Nat.le_of_eq rfl) (hb hby d12_116) rfl (fun T61 v61 L61 X61 hq61 => ?_)
        obtain ⟨rfl, N61, K61, A61, Fy61, Fm61, Fd61⟩ := hq61
        show Wk.Go p e below s _ _ _ T61 (mkF m 119 #[.val (.ref a), .val (.long v), .second, .val (.long u4), .second, .val (.long u9), .second] [(.ref h0.size)])
        exact Wk.retA X61 hx hlk hret rfl rfl (hb hby d12_119) (by decide) (by decide) ⟨_, _, _, rfl, Fr.app (Fr.nil n0) N61, Wk.ext_of_keep (((Keep.refl _ _).ext Ex60).trans K61 (allS (Or.inr (Nat.le_refl _)) all0)), A61, Fy61, Fm61, Fd61, fun _ => by omega, fun _ => ⟨by omega, by omega⟩⟩
      · skip
        refine Wk.newO X8 hx hZ hown (hw _ (List.mem_of_getElem? (i := 54) rfl)) (hw _ (List.mem_of_getElem? (i := 55) rfl)) (hw _ (List.mem_of_getElem? (i := 8) rfl)) e8 (hb hby d12_70) (by decide) (by decide) rfl (fun T50 h50 X50 e50 Ex50 A50 D50 => ?_)
        refine Wk.dup X50 hx (hb hby d12_73) rfl rfl ?_
        refine Wk.aloadN X50 hx (hb hby d12_74) rfl rfl rfl ?_
        refine Wk.getF (host := "") X50 hx hZ hown (Or.inl (hw _ (List.mem_of_getElem? (i := 63) rfl))) e50 (Fy.ext Ex50) (hb hby d12_75) rfl (fun T18 X18 e18 => ?_)
        refine Wk.aloadN X18 hx (hb hby d12_78) rfl rfl rfl ?_
        refine Wk.getF (host := "") X18 hx hZ hown (Or.inl (hw _ (List.mem_of_getElem? (i := 65) rfl))) e18 (Fm.ext Ex50) (hb hby d12_79) rfl (fun T19 X19 e19 => ?_)
        refine Wk.lloadN X19 hx (hb hby d12_82) rfl rfl ?_
        refine Wk.l2i X19 hx (hb hby d12_83) rfl ?_
        have t20 : (u4.toInt32).toInt = u4.toInt := Wk.s_l2i (show (u4 : Int64).toInt = u4.toInt from rfl) (by omega) (by omega)
        generalize u4.toInt32 = u20 at t20 ⊢
        refine Wk.callI (W := 1) X19 hx hZ (argsL := [(.int y), (.int (3 : Int32)), (.int u20)]) (rest := [(.ref h0.size)]) rfl hown (hw _ (List.mem_of_getElem? (i := 56) rfl)) (hw _ (List.mem_of_getElem? (i := 57) rfl)) (hw _ (List.mem_of_getElem? (i := 8) rfl)) (hw _ (List.mem_of_getElem? (i := 59) rfl)) (by decide) (mini l Z a0 hw h0.size y (3 : Int32) u20 (by decide) (by decide) (by omega) (by omega) n0 hn0 h50 (D50 (Or.inr (hw _ (List.mem_of_getElem? (i := 64) rfl))) (ty := .int) (by decide)) (D50 (Or.inr (hw _ (List.mem_of_getElem? (i := 66) rfl))) (ty := .short) (by decide)) (D50 (Or.inr (hw _ (List.mem_of_getElem? (i := 68) rfl))) (ty := .short) (by decide)) A50) e19 (by decide) (by decide) (by decide) (by decide) (by rw [hml]; rfl) (lenOf pd10 rfl) rfl (Nat.le_of_eq rfl) (hb hby d12_84) rfl (fun T51 v51 L51 X51 hq51 => ?_)
        obtain ⟨rfl, N51, K51, A51, Fy51, Fm51, Fd51⟩ := hq51
        show Wk.Go p e below s _ _ _ T51 (mkF m 87 #[.val (.ref a), .val (.long v), .second, .val (.long u4), .second, .val (.long u9), .second] [(.ref h0.size)])
        exact Wk.retA X51 hx hlk hret rfl rfl (hb hby d12_87) (by decide) (by decide) ⟨_, _, _, rfl, Fr.app (Fr.nil n0) N51, Wk.ext_of_keep (((Keep.refl _ _).ext Ex50).trans K51 (allS (Or.inr (Nat.le_refl _)) all0)), A51, Fy51, Fm51, Fd51, fun _ => ⟨rfl, by omega⟩, fun _ => by omega⟩
    · skip
      refine Wk.newO X2 hx hZ hown (hw _ (List.mem_of_getElem? (i := 54) rfl)) (hw _ (List.mem_of_getElem? (i := 55) rfl)) (hw _ (List.mem_of_getElem? (i := 8) rfl)) e2 (hb hby d12_30) (by decide) (by decide) rfl (fun T40 h40 X40 e40 Ex40 A40 D40 => ?_)
      refine Wk.dup X40 hx (hb hby d12_33) rfl rfl ?_
      refine Wk.aloadN X40 hx (hb hby d12_34) rfl rfl rfl ?_
      refine Wk.getF (host := "") X40 hx hZ hown (Or.inl (hw _ (List.mem_of_getElem? (i := 63) rfl))) e40 (Fy.ext Ex40) (hb hby d12_35) rfl (fun T21 X21 e21 => ?_)
      refine Wk.aloadN X21 hx (hb hby d12_38) rfl rfl rfl ?_
      refine Wk.getF (host := "") X21 hx hZ hown (Or.inl (hw _ (List.mem_of_getElem? (i := 65) rfl))) e21 (Fm.ext Ex40) (hb hby d12_39) rfl (fun T22 X22 e22 => ?_)
      refine Wk.lloadN X22 hx (hb hby d12_42) rfl rfl ?_
      refine Wk.l2i X22 hx (hb hby d12_43) rfl ?_
      have t23 : (u4.toInt32).toInt = u4.toInt := Wk.s_l2i (show (u4 : Int64).toInt = u4.toInt from rfl) (by omega) (by omega)
      generalize u4.toInt32 = u23 at t23 ⊢
      refine Wk.callI (W := 1) X22 hx hZ (argsL := [(.int y), (.int (3 : Int32)), (.int u23)]) (rest := [(.ref h0.size)]) rfl hown (hw _ (List.mem_of_getElem? (i := 56) rfl)) (hw _ (List.mem_of_getElem? (i := 57) rfl)) (hw _ (List.mem_of_getElem? (i := 8) rfl)) (hw _ (List.mem_of_getElem? (i := 59) rfl)) (by decide) (mini l Z a0 hw h0.size y (3 : Int32) u23 (by decide) (by decide) (by omega) (by omega) n0 hn0 h40 (D40 (Or.inr (hw _ (List.mem_of_getElem? (i := 64) rfl))) (ty := .int) (by decide)) (D40 (Or.inr (hw _ (List.mem_of_getElem? (i := 66) rfl))) (ty := .short) (by decide)) (D40 (Or.inr (hw _ (List.mem_of_getElem? (i := 68) rfl))) (ty := .short) (by decide)) A40) e22 (by decide) (by decide) (by decide) (by decide) (by rw [hml]; rfl) (lenOf pd10 rfl) rfl (Nat.le_of_eq rfl) (hb hby d12_44) rfl (fun T41 v41 L41 X41 hq41 => ?_)
      obtain ⟨rfl, N41, K41, A41, Fy41, Fm41, Fd41⟩ := hq41
      show Wk.Go p e below s _ _ _ T41 (mkF m 47 #[.val (.ref a), .val (.long v), .second, .val (.long u4), .second, .unset, .unset] [(.ref h0.size)])
      exact Wk.retA X41 hx hlk hret rfl rfl (hb hby d12_47) (by decide) (by decide) ⟨_, _, _, rfl, Fr.app (Fr.nil n0) N41, Wk.ext_of_keep (((Keep.refl _ _).ext Ex40).trans K41 (allS (Or.inr (Nat.le_refl _)) all0)), A41, Fy41, Fm41, Fd41, fun _ => ⟨rfl, by omega⟩, fun _ => by omega⟩
  · skip
    refine Wk.aloadN X0 hx (hb hby d12_6) rfl rfl rfl ?_
    exact Wk.retA X0 hx hlk hret rfl rfl (hb hby d12_7) (by decide) (by decide) ⟨a, 3, 22, rfl, Fr.nil n0, by rw [e0]; exact Wk.ext_refl _, by rw [e0]; exact E, by rw [e0]; exact Fy, by rw [e0]; exact Fm, by rw [e0]; exact Fd, fun _ => ⟨rfl, by show (22 : Int) = _; omega⟩, fun _ => by omega⟩
def eH (Y : Int) : Int := (19 * (Y % 19) + Y / 100 - Y / 100 / 4 - (Y / 100 - (Y / 100 + 8) / 25 + 1) / 3 + 15) % 30
def eL (Y : Int) : Int := (32 + 2 * (Y / 100 % 4) + 2 * (Y % 100 / 4) - eH Y - Y % 100 % 4) % 7
def eC (Y : Int) : Int := (Y % 19 + 11 * eH Y + 22 * eL Y) / 451
def eD (Y : Int) : Int := eH Y + eL Y - 7 * eC Y
set_option maxRecDepth 65536 in
set_option maxHeartbeats 40000000 in
theorem mes (l : Launch) (Z : State) (a0 : Array Value) (hw : ∀ d ∈ tables_1, d.before a0 Z = true) (y : Int32) (hy0 : 0 ≤ y.toInt) (hy1 : y.toInt ≤ 999999999) (fY rY fM rM fD rD : Addr) (n0 : Nat) (h0 : Heap) (hn0 : n0 ≤ h0.size) (SfY : Sta Z h0 "java/time/temporal/ChronoField" "YEAR" "Ljava/time/temporal/ChronoField;" (.ref fY)) (EffY : Exa Z h0 fY "java/time/temporal/ChronoField") (FrfY : Fld Z h0 fY "java/time/temporal/ChronoField" "range" "Ljava/time/temporal/ValueRange;" (.ref rY)) (ErY : Exa Z h0 rY "java/time/temporal/ValueRange") (FmrY : Fld Z h0 rY "java/time/temporal/ValueRange" "minSmallest" "J" (.long (-999999999))) (FxrY : Fld Z h0 rY "java/time/temporal/ValueRange" "maxLargest" "J" (.long (999999999))) (SfM : Sta Z h0 "java/time/temporal/ChronoField" "MONTH_OF_YEAR" "Ljava/time/temporal/ChronoField;" (.ref fM)) (EffM : Exa Z h0 fM "java/time/temporal/ChronoField") (FrfM : Fld Z h0 fM "java/time/temporal/ChronoField" "range" "Ljava/time/temporal/ValueRange;" (.ref rM)) (ErM : Exa Z h0 rM "java/time/temporal/ValueRange") (FmrM : Fld Z h0 rM "java/time/temporal/ValueRange" "minSmallest" "J" (.long (1))) (FxrM : Fld Z h0 rM "java/time/temporal/ValueRange" "maxLargest" "J" (.long (12))) (SfD : Sta Z h0 "java/time/temporal/ChronoField" "DAY_OF_MONTH" "Ljava/time/temporal/ChronoField;" (.ref fD)) (EffD : Exa Z h0 fD "java/time/temporal/ChronoField") (FrfD : Fld Z h0 fD "java/time/temporal/ChronoField" "range" "Ljava/time/temporal/ValueRange;" (.ref rD)) (ErD : Exa Z h0 rD "java/time/temporal/ValueRange") (FmrD : Fld Z h0 rD "java/time/temporal/ValueRange" "minSmallest" "J" (.long (1))) (FxrD : Fld Z h0 rD "java/time/temporal/ValueRange" "maxLargest" "J" (.long (31))) : Wk.Met l Z (⟨"com/example/settlewright/settlewright/calc/HolidayRules", "easterSunday", "(I)Ljava/time/LocalDate;"⟩ : MethodName) prog_20_method_2_code 7 (some (.object "java/time/LocalDate")) [] { frames := 5, cells := 2, slots := 6, locals := 72 } #[(.int y)] h0 (Qp Z y (eD y.toInt) h0 n0) := by
  refine Wk.start pn1 ?_
  intro p e s m below meth c s₁ X0 hx hby hml hown0 hnm hret hlk hZ e0
  have hown : s.vm.findClass "com/example/settlewright/settlewright/calc/HolidayRules" = some m.cls := hown0
  refine Wk.enter (g' := (mkF m 0 #[.val (.int y), .unset, .unset, .unset, .unset, .unset, .unset] [])) (by first | rfl | (simp [entryFrame, mkF, argsToLocals, Value.category, maxLocals]; done)) ?_
  refine Wk.iloadN X0 hx (hb hby d1_0) rfl rfl ?_
  refine Wk.bipush X0 hx (19 : Int32) (hb hby d1_1) rfl rfl ?_
  refine Wk.irem X0 hx (hb hby d1_3) (by decide) rfl ?_
  have t1 : (y % (19 : Int32)).toInt = ((y).toInt) % 19 := Wk.t_rem (show (y : Int32).toInt = (y).toInt from rfl) (show ((19 : Int32) : Int32).toInt = 19 from (by decide)) (by omega)
  generalize y % (19 : Int32) = u1 at t1 ⊢
  refine Wk.istoreN (l' := #[.val (.int y), .val (.int u1), .unset, .unset, .unset, .unset, .unset]) X0 hx (hb hby d1_4) rfl rfl ?_
  refine Wk.iloadN X0 hx (hb hby d1_5) rfl rfl ?_
  refine Wk.bipush X0 hx (100 : Int32) (hb hby d1_6) rfl rfl ?_
  refine Wk.idiv X0 hx (hb hby d1_8) (by decide) rfl ?_
  have t2 : (y / (100 : Int32)).toInt = ((y).toInt) / 100 := Wk.t_div (show (y : Int32).toInt = (y).toInt from rfl) (show ((100 : Int32) : Int32).toInt = 100 from (by decide)) (by omega) (by decide)
  generalize y / (100 : Int32) = u2 at t2 ⊢
  refine Wk.istoreN (l' := #[.val (.int y), .val (.int u1), .val (.int u2), .unset, .unset, .unset, .unset]) X0 hx (hb hby d1_9) rfl rfl ?_
  refine Wk.iloadN X0 hx (hb hby d1_10) rfl rfl ?_
  refine Wk.bipush X0 hx (100 : Int32) (hb hby d1_11) rfl rfl ?_
  refine Wk.irem X0 hx (hb hby d1_13) (by decide) rfl ?_
  have t3 : (y % (100 : Int32)).toInt = ((y).toInt) % 100 := Wk.t_rem (show (y : Int32).toInt = (y).toInt from rfl) (show ((100 : Int32) : Int32).toInt = 100 from (by decide)) (by omega)
  generalize y % (100 : Int32) = u3 at t3 ⊢
  refine Wk.istoreN (l' := #[.val (.int y), .val (.int u1), .val (.int u2), .val (.int u3), .unset, .unset, .unset]) X0 hx (hb hby d1_14) rfl rfl ?_
  refine Wk.bipush X0 hx (19 : Int32) (hb hby d1_15) rfl rfl ?_
  refine Wk.iloadN X0 hx (hb hby d1_17) rfl rfl ?_
  refine Wk.imul X0 hx (hb hby d1_18) rfl ?_
  have t4 : ((19 : Int32) * u1).toInt = 19 * u1.toInt := Wk.t_mul (show ((19 : Int32) : Int32).toInt = 19 from (by decide)) (show (u1 : Int32).toInt = u1.toInt from rfl) (by omega) (by omega)
  generalize (19 : Int32) * u1 = u4 at t4 ⊢
  refine Wk.iloadN X0 hx (hb hby d1_19) rfl rfl ?_
  refine Wk.iadd X0 hx (hb hby d1_20) rfl ?_
  have t5 : (u4 + u2).toInt = u4.toInt + u2.toInt := Wk.t_add (show (u4 : Int32).toInt = u4.toInt from rfl) (show (u2 : Int32).toInt = u2.toInt from rfl) (by omega) (by omega)
  generalize u4 + u2 = u5 at t5 ⊢
  refine Wk.iloadN X0 hx (hb hby d1_21) rfl rfl ?_
  refine Wk.iconst X0 hx (4 : Int32) (hb hby d1_22) rfl rfl ?_
  refine Wk.idiv X0 hx (hb hby d1_23) (by decide) rfl ?_
  have t6 : (u2 / (4 : Int32)).toInt = u2.toInt / 4 := Wk.t_div (show (u2 : Int32).toInt = u2.toInt from rfl) (show ((4 : Int32) : Int32).toInt = 4 from (by decide)) (by omega) (by decide)
  generalize u2 / (4 : Int32) = u6 at t6 ⊢
  refine Wk.isub X0 hx (hb hby d1_24) rfl ?_
  have t7 : (u5 - u6).toInt = u5.toInt - u6.toInt := Wk.t_sub (show (u5 : Int32).toInt = u5.toInt from rfl) (show (u6 : Int32).toInt = u6.toInt from rfl) (by omega) (by omega)
  generalize u5 - u6 = u7 at t7 ⊢
  refine Wk.iloadN X0 hx (hb hby d1_25) rfl rfl ?_
  refine Wk.iloadN X0 hx (hb hby d1_26) rfl rfl ?_
  refine Wk.bipush X0 hx (8 : Int32) (hb hby d1_27) rfl rfl ?_
  refine Wk.iadd X0 hx (hb hby d1_29) rfl ?_
  have t8 : (u2 + (8 : Int32)).toInt = u2.toInt + 8 := Wk.t_add (show (u2 : Int32).toInt = u2.toInt from rfl) (show ((8 : Int32) : Int32).toInt = 8 from (by decide)) (by omega) (by omega)
  generalize u2 + (8 : Int32) = u8 at t8 ⊢
  refine Wk.bipush X0 hx (25 : Int32) (hb hby d1_30) rfl rfl ?_
  refine Wk.idiv X0 hx (hb hby d1_32) (by decide) rfl ?_
  have t9 : (u8 / (25 : Int32)).toInt = u8.toInt / 25 := Wk.t_div (show (u8 : Int32).toInt = u8.toInt from rfl) (show ((25 : Int32) : Int32).toInt = 25 from (by decide)) (by omega) (by decide)
  generalize u8 / (25 : Int32) = u9 at t9 ⊢
  refine Wk.isub X0 hx (hb hby d1_33) rfl ?_
  have t10 : (u2 - u9).toInt = u2.toInt - u9.toInt := Wk.t_sub (show (u2 : Int32).toInt = u2.toInt from rfl) (show (u9 : Int32).toInt = u9.toInt from rfl) (by omega) (by omega)
  generalize u2 - u9 = u10 at t10 ⊢
  refine Wk.iconst X0 hx (1 : Int32) (hb hby d1_34) rfl rfl ?_
  refine Wk.iadd X0 hx (hb hby d1_35) rfl ?_
  have t11 : (u10 + (1 : Int32)).toInt = u10.toInt + 1 := Wk.t_add (show (u10 : Int32).toInt = u10.toInt from rfl) (show ((1 : Int32) : Int32).toInt = 1 from (by decide)) (by omega) (by omega)
  generalize u10 + (1 : Int32) = u11 at t11 ⊢
  refine Wk.iconst X0 hx (3 : Int32) (hb hby d1_36) rfl rfl ?_
  refine Wk.idiv X0 hx (hb hby d1_37) (by decide) rfl ?_
  have t12 : (u11 / (3 : Int32)).toInt = u11.toInt / 3 := Wk.t_div (show (u11 : Int32).toInt = u11.toInt from rfl) (show ((3 : Int32) : Int32).toInt = 3 from (by decide)) (by omega) (by decide)
  generalize u11 / (3 : Int32) = u12 at t12 ⊢
  refine Wk.isub X0 hx (hb hby d1_38) rfl ?_
  have t13 : (u7 - u12).toInt = u7.toInt - u12.toInt := Wk.t_sub (show (u7 : Int32).toInt = u7.toInt from rfl) (show (u12 : Int32).toInt = u12.toInt from rfl) (by omega) (by omega)
  generalize u7 - u12 = u13 at t13 ⊢
  refine Wk.bipush X0 hx (15 : Int32) (hb hby d1_39) rfl rfl ?_
  refine Wk.iadd X0 hx (hb hby d1_41) rfl ?_
  have t14 : (u13 + (15 : Int32)).toInt = u13.toInt + 15 := Wk.t_add (show (u13 : Int32).toInt = u13.toInt from rfl) (show ((15 : Int32) : Int32).toInt = 15 from (by decide)) (by omega) (by omega)
  generalize u13 + (15 : Int32) = u14 at t14 ⊢
  refine Wk.bipush X0 hx (30 : Int32) (hb hby d1_42) rfl rfl ?_
  refine Wk.irem X0 hx (hb hby d1_44) (by decide) rfl ?_
  have t15 : (u14 % (30 : Int32)).toInt = u14.toInt % 30 := Wk.t_rem (show (u14 : Int32).toInt = u14.toInt from rfl) (show ((30 : Int32) : Int32).toInt = 30 from (by decide)) (by omega)
  generalize u14 % (30 : Int32) = u15 at t15 ⊢
  refine Wk.istore (l' := #[.val (.int y), .val (.int u1), .val (.int u2), .val (.int u3), .val (.int u15), .unset, .unset]) X0 hx (hb hby d1_45) rfl rfl ?_
  refine Wk.bipush X0 hx (32 : Int32) (hb hby d1_47) rfl rfl ?_
  refine Wk.iconst X0 hx (2 : Int32) (hb hby d1_49) rfl rfl ?_
  refine Wk.iloadN X0 hx (hb hby d1_50) rfl rfl ?_
  refine Wk.iconst X0 hx (4 : Int32) (hb hby d1_51) rfl rfl ?_
  refine Wk.irem X0 hx (hb hby d1_52) (by decide) rfl ?_
  have t16 : (u2 % (4 : Int32)).toInt = u2.toInt % 4 := Wk.t_rem (show (u2 : Int32).toInt = u2.toInt from rfl) (show ((4 : Int32) : Int32).toInt = 4 from (by decide)) (by omega)
  generalize u2 % (4 : Int32) = u16 at t16 ⊢
  refine Wk.imul X0 hx (hb hby d1_53) rfl ?_
  have t17 : ((2 : Int32) * u16).toInt = 2 * u16.toInt := Wk.t_mul (show ((2 : Int32) : Int32).toInt = 2 from (by decide)) (show (u16 : Int32).toInt = u16.toInt from rfl) (by omega) (by omega)
  generalize (2 : Int32) * u16 = u17 at t17 ⊢
  refine Wk.iadd X0 hx (hb hby d1_54) rfl ?_
  have t18 : ((32 : Int32) + u17).toInt = 32 + u17.toInt := Wk.t_add (show ((32 : Int32) : Int32).toInt = 32 from (by decide)) (show (u17 : Int32).toInt = u17.toInt from rfl) (by omega) (by omega)
  generalize (32 : Int32) + u17 = u18 at t18 ⊢
  refine Wk.iconst X0 hx (2 : Int32) (hb hby d1_55) rfl rfl ?_
  refine Wk.iloadN X0 hx (hb hby d1_56) rfl rfl ?_
  refine Wk.iconst X0 hx (4 : Int32) (hb hby d1_57) rfl rfl ?_
  refine Wk.idiv X0 hx (hb hby d1_58) (by decide) rfl ?_
  have t19 : (u3 / (4 : Int32)).toInt = u3.toInt / 4 := Wk.t_div (show (u3 : Int32).toInt = u3.toInt from rfl) (show ((4 : Int32) : Int32).toInt = 4 from (by decide)) (by omega) (by decide)
  generalize u3 / (4 : Int32) = u19 at t19 ⊢
  refine Wk.imul X0 hx (hb hby d1_59) rfl ?_
  have t20 : ((2 : Int32) * u19).toInt = 2 * u19.toInt := Wk.t_mul (show ((2 : Int32) : Int32).toInt = 2 from (by decide)) (show (u19 : Int32).toInt = u19.toInt from rfl) (by omega) (by omega)
  generalize (2 : Int32) * u19 = u20 at t20 ⊢
  refine Wk.iadd X0 hx (hb hby d1_60) rfl ?_
  have t21 : (u18 + u20).toInt = u18.toInt + u20.toInt := Wk.t_add (show (u18 : Int32).toInt = u18.toInt from rfl) (show (u20 : Int32).toInt = u20.toInt from rfl) (by omega) (by omega)
  generalize u18 + u20 = u21 at t21 ⊢
  refine Wk.iload X0 hx (hb hby d1_61) rfl rfl ?_
  refine Wk.isub X0 hx (hb hby d1_63) rfl ?_
  have t22 : (u21 - u15).toInt = u21.toInt - u15.toInt := Wk.t_sub (show (u21 : Int32).toInt = u21.toInt from rfl) (show (u15 : Int32).toInt = u15.toInt from rfl) (by omega) (by omega)
  generalize u21 - u15 = u22 at t22 ⊢
  refine Wk.iloadN X0 hx (hb hby d1_64) rfl rfl ?_
  refine Wk.iconst X0 hx (4 : Int32) (hb hby d1_65) rfl rfl ?_
  refine Wk.irem X0 hx (hb hby d1_66) (by decide) rfl ?_
  have t23 : (u3 % (4 : Int32)).toInt = u3.toInt % 4 := Wk.t_rem (show (u3 : Int32).toInt = u3.toInt from rfl) (show ((4 : Int32) : Int32).toInt = 4 from (by decide)) (by omega)
  generalize u3 % (4 : Int32) = u23 at t23 ⊢
  refine Wk.isub X0 hx (hb hby d1_67) rfl ?_
  have t24 : (u22 - u23).toInt = u22.toInt - u23.toInt := Wk.t_sub (show (u22 : Int32).toInt = u22.toInt from rfl) (show (u23 : Int32).toInt = u23.toInt from rfl) (by omega) (by omega)
  generalize u22 - u23 = u24 at t24 ⊢
  refine Wk.bipush X0 hx (7 : Int32) (hb hby d1_68) rfl rfl ?_
  refine Wk.irem X0 hx (hb hby d1_70) (by decide) rfl ?_
  have t25 : (u24 % (7 : Int32)).toInt = u24.toInt % 7 := Wk.t_rem (show (u24 : Int32).toInt = u24.toInt from rfl) (show ((7 : Int32) : Int32).toInt = 7 from (by decide)) (by omega)
  generalize u24 % (7 : Int32) = u25 at t25 ⊢
  refine Wk.istore (l' := #[.val (.int y), .val (.int u1), .val (.int u2), .val (.int u3), .val (.int u15), .val (.int u25), .unset]) X0 hx (hb hby d1_71) rfl rfl ?_
  refine Wk.iloadN X0 hx (hb hby d1_73) rfl rfl ?_
  refine Wk.bipush X0 hx (11 : Int32) (hb hby d1_74) rfl rfl ?_
  refine Wk.iload X0 hx (hb hby d1_76) rfl rfl ?_
  refine Wk.imul X0 hx (hb hby d1_78) rfl ?_
  have t26 : ((11 : Int32) * u15).toInt = 11 * u15.toInt := Wk.t_mul (show ((11 : Int32) : Int32).toInt = 11 from (by decide)) (show (u15 : Int32).toInt = u15.toInt from rfl) (by omega) (by omega)
  generalize (11 : Int32) * u15 = u26 at t26 ⊢
  refine Wk.iadd X0 hx (hb hby d1_79) rfl ?_
  have t27 : (u1 + u26).toInt = u1.toInt + u26.toInt := Wk.t_add (show (u1 : Int32).toInt = u1.toInt from rfl) (show (u26 : Int32).toInt = u26.toInt from rfl) (by omega) (by omega)
  generalize u1 + u26 = u27 at t27 ⊢
  refine Wk.bipush X0 hx (22 : Int32) (hb hby d1_80) rfl rfl ?_
  refine Wk.iload X0 hx (hb hby d1_82) rfl rfl ?_
  refine Wk.imul X0 hx (hb hby d1_84) rfl ?_
  have t28 : ((22 : Int32) * u25).toInt = 22 * u25.toInt := Wk.t_mul (show ((22 : Int32) : Int32).toInt = 22 from (by decide)) (show (u25 : Int32).toInt = u25.toInt from rfl) (by omega) (by omega)
  generalize (22 : Int32) * u25 = u28 at t28 ⊢
  refine Wk.iadd X0 hx (hb hby d1_85) rfl ?_
  have t29 : (u27 + u28).toInt = u27.toInt + u28.toInt := Wk.t_add (show (u27 : Int32).toInt = u27.toInt from rfl) (show (u28 : Int32).toInt = u28.toInt from rfl) (by omega) (by omega)
  generalize u27 + u28 = u29 at t29 ⊢
  refine Wk.sipush X0 hx (451 : Int32) (hb hby d1_86) rfl rfl ?_
  refine Wk.idiv X0 hx (hb hby d1_89) (by decide) rfl ?_
  have t30 : (u29 / (451 : Int32)).toInt = u29.toInt / 451 := Wk.t_div (show (u29 : Int32).toInt = u29.toInt from rfl) (show ((451 : Int32) : Int32).toInt = 451 from (by decide)) (by omega) (by decide)
  generalize u29 / (451 : Int32) = u30 at t30 ⊢
  refine Wk.istore (l' := #[.val (.int y), .val (.int u1), .val (.int u2), .val (.int u3), .val (.int u15), .val (.int u25), .val (.int u30)]) X0 hx (hb hby d1_90) rfl rfl ?_
  have dH : u15.toInt = eH y.toInt := by simp only [eH, t1, t2, t3, t4, t5, t6, t7, t8, t9, t10, t11, t12, t13, t14, t15, t16, t17, t18, t19, t20, t21, t22, t23, t24, t25, t26, t27, t28, t29, t30]
  have dL : u25.toInt = eL y.toInt := by simp only [eL, ← dH, t1, t2, t3, t4, t5, t6, t7, t8, t9, t10, t11, t12, t13, t14, t15, t16, t17, t18, t19, t20, t21, t22, t23, t24, t25, t26, t27, t28, t29, t30]
  have dC : u30.toInt = eC y.toInt := by simp only [eC, ← dH, ← dL, t1, t2, t3, t4, t5, t6, t7, t8, t9, t10, t11, t12, t13, t14, t15, t16, t17, t18, t19, t20, t21, t22, t23, t24, t25, t26, t27, t28, t29, t30]
  refine Wk.iloadN X0 hx (hb hby d1_92) rfl rfl ?_
  refine Wk.iconst X0 hx (3 : Int32) (hb hby d1_93) rfl rfl ?_
  refine Wk.bipush X0 hx (22 : Int32) (hb hby d1_94) rfl rfl ?_
  refine Wk.callS (W := 0) X0 hx hZ (argsL := [(.int y), (.int (3 : Int32)), (.int (22 : Int32))]) (rest := []) hown (hw _ (List.mem_of_getElem? (i := 6) rfl)) (hw _ (List.mem_of_getElem? (i := 7) rfl)) (hw _ (List.mem_of_getElem? (i := 8) rfl)) (hw _ (List.mem_of_getElem? (i := 9) rfl)) (by decide) (mof l Z a0 hw y hy0 hy1 fY rY fM rM fD rD n0 h0 hn0 SfY EffY FrfY ErY FmrY FxrY SfM EffM FrfM ErM FmrM FxrM SfD EffD FrfD ErD FmrD FxrD) e0 (by decide) (by decide) (by decide) (by decide) (by rw [hml]; rfl) (lenOf pd2 rfl) rfl (Nat.le_of_eq rfl) (hb hby d1_96) rfl (fun T31 v31 L31 X31 hq31 => ?_)
  obtain ⟨a, rfl, N1, Ex1, A1, Fy1, Fm1, Fd1⟩ := hq31
  show Wk.Go p e below s _ _ _ T31 (mkF m 99 #[.val (.int y), .val (.int u1), .val (.int u2), .val (.int u3), .val (.int u15), .val (.int u25), .val (.int u30)] [(.ref a)])
  refine Wk.iload X31 hx (hb hby d1_99) rfl rfl ?_
  refine Wk.iload X31 hx (hb hby d1_101) rfl rfl ?_
  refine Wk.iadd X31 hx (hb hby d1_103) rfl ?_
  have t32 : (u15 + u25).toInt = u15.toInt + u25.toInt := Wk.t_add (show (u15 : Int32).toInt = u15.toInt from rfl) (show (u25 : Int32).toInt = u25.toInt from rfl) (by omega) (by omega)
  generalize u15 + u25 = u32 at t32 ⊢
  refine Wk.bipush X31 hx (7 : Int32) (hb hby d1_104) rfl rfl ?_
  refine Wk.iload X31 hx (hb hby d1_106) rfl rfl ?_
  refine Wk.imul X31 hx (hb hby d1_108) rfl ?_
  have t33 : ((7 : Int32) * u30).toInt = 7 * u30.toInt := Wk.t_mul (show ((7 : Int32) : Int32).toInt = 7 from (by decide)) (show (u30 : Int32).toInt = u30.toInt from rfl) (by omega) (by omega)
  generalize (7 : Int32) * u30 = u33 at t33 ⊢
  refine Wk.isub X31 hx (hb hby d1_109) rfl ?_
  have t34 : (u32 - u33).toInt = u32.toInt - u33.toInt := Wk.t_sub (show (u32 : Int32).toInt = u32.toInt from rfl) (show (u33 : Int32).toInt = u33.toInt from rfl) (by omega) (by omega)
  generalize u32 - u33 = u34 at t34 ⊢
  refine Wk.i2l X31 hx (hb hby d1_110) rfl ?_
  have t35 : (u34.toInt64).toInt = u34.toInt := Wk.t_i2l (show (u34 : Int32).toInt = u34.toInt from rfl)
  generalize u34.toInt64 = u35 at t35 ⊢
  have dD : u35.toInt = eD y.toInt := by simp only [eD, ← dH, ← dL, ← dC, t32, t33, t34, t35]
  refine Wk.callV (W := 0) X31 hx hZ (argsL := [(.long u35)]) (rest := []) hown (hw _ (List.mem_of_getElem? (i := 69) rfl)) (hw _ (List.mem_of_getElem? (i := 70) rfl)) (hw _ (List.mem_of_getElem? (i := 72) rfl)) (hw _ (List.mem_of_getElem? (i := 71) rfl)) (hw _ (List.mem_of_getElem? (i := 8) rfl)) (hw _ (List.mem_of_getElem? (i := 73) rfl)) (notFace_of_selects (args := #[]) (mvT hZ (hw _ (List.mem_of_getElem? (i := 72) rfl)))) (by decide) (mpl l Z a0 hw a y u35 (by omega) (by omega) n0 T31.heap (Nat.le_trans hn0 Ex1.1) A1 Fy1 Fm1 Fd1) rfl A1 (by decide) (by decide) (by decide) (by decide) (by rw [hml]; rfl) (lenOf pd12 rfl) rfl (Nat.le_of_eq rfl) (hb hby d1_111) rfl (fun T90 v90 L90 X90 hq90 => ?_)
  obtain ⟨a2, mo, d, rfl, N2, Ex2, A2, Fy2, Fm2, Fd2, c1, c2⟩ := hq90
  rw [dD] at c1 c2
  show Wk.Go p e below s _ _ _ T90 (mkF m 114 #[.val (.int y), .val (.int u1), .val (.int u2), .val (.int u3), .val (.int u15), .val (.int u25), .val (.int u30)] [(.ref a2)])
  exact Wk.retA X90 hx hlk hret rfl rfl (hb hby d1_114) (by decide) (by decide) ⟨a2, mo, d, rfl, Fr.app (Fr.app (Fr.nil n0) N1) N2, Wk.ext_trans Ex1 Ex2, A2, Fy2, Fm2, Fd2, c1, c2⟩
theorem emod30 (A x : Int) : (A + x) % 30 = (A + x % 30) % 30 := by omega
theorem eLl (q r u v d : Int) : (32 + 2 * r + 2 * u - d - v) % 7 = (2 * v + 4 * ((100 * (4 * q + r) + (4 * u + v)) % 7) + 6 * d + (4 + (4 * q + r) - q) % 7) % 7 := by omega
theorem hxl (a M : Int) (h0 : 0 ≤ a) (h1 : a ≤ 18) (m0 : 0 ≤ M) (m1 : M ≤ 29) (h : (19 * a + M) % 30 = 28) : ((11 * M + 11) % 30 < 19 ↔ 11 ≤ a) := by
  have : a = 0 ∨ a = 1 ∨ a = 2 ∨ a = 3 ∨ a = 4 ∨ a = 5 ∨ a = 6 ∨ a = 7 ∨ a = 8 ∨ a = 9 ∨ a = 10 ∨ a = 11 ∨ a = 12 ∨ a = 13 ∨ a = 14 ∨ a = 15 ∨ a = 16 ∨ a = 17 ∨ a = 18 := by omega
  rcases this with rfl | rfl | rfl | rfl | rfl | rfl | rfl | rfl | rfl | rfl | rfl | rfl | rfl | rfl | rfl | rfl | rfl | rfl | rfl
  all_goals omega
set_option maxRecDepth 65536 in
set_option maxHeartbeats 40000000 in
theorem plain (Y : Int) (h0 : 0 ≤ Y) (h1 : Y ≤ 999999999) (a b' c' k p q M n d w : Int) (ha : a = Y % 19) (hb : b' = Y % 4) (hc : c' = Y % 7) (hk : k = Y / 100) (hp : p = (13 + 8 * k) / 25) (hq : q = k / 4) (hM : M = (15 - p + k - q) % 30) (hn : n = (4 + k - q) % 7) (hd : d = (19 * a + M) % 30) (hw : w = (2 * b' + 4 * c' + 6 * d + n) % 7) :
    (d = 29 ∧ w = 6 → eD Y = 28) ∧ (d = 28 ∧ w = 6 ∧ (11 * M + 11) % 30 < 19 → eD Y = 27) ∧ (¬ (d = 29 ∧ w = 6) → ¬ (d = 28 ∧ w = 6 ∧ (11 * M + 11) % 30 < 19) → eD Y = d + w) ∧ (0 ≤ d ∧ d ≤ 29) ∧ (0 ≤ w ∧ w ≤ 6) ∧ (0 ≤ M ∧ M ≤ 29) := by
  have hpp : (k - (k + 8) / 25 + 1) / 3 = p := by omega
  have e1 : eH Y = d := by
    simp only [eH, ← hk, ← ha, hpp]
    rw [hd, hM, ← emod30, ← hq]
    congr 1
    clear hd hM hq hn hw hp hpp hb hc hk ha
    omega
  have e2 : eL Y = w := by
    have q1 : 4 * q + k % 4 = k := by clear hd hM hn hw hp hpp hb hc hk ha e1; omega
    have q2 : 4 * (Y % 100 / 4) + Y % 100 % 4 = Y % 100 := by clear hd hM hn hw hp hpp hb hc hk ha e1 hq q1; omega
    have q3 : 100 * k + Y % 100 = Y := by clear hd hM hn hw hp hpp hb hc ha e1 hq q1 q2; omega
    have q4 : Y % 100 % 4 = Y % 4 := by clear hd hM hn hw hp hpp hb hc hk ha e1 hq q1 q2 q3; omega
    have key := eLl q (k % 4) (Y % 100 / 4) (Y % 100 % 4) d
    rw [q1, q2, q3] at key
    simp only [eL, e1, ← hk]
    rw [key, hw, hb, hc, hn, q4]
  have e3 : eC Y = (a + 11 * d + 22 * w) / 451 := by simp only [eC, e1, e2, ← ha]
  have e4 : eD Y = d + w - 7 * ((a + 11 * d + 22 * w) / 451) := by simp only [eD, e1, e2, e3]
  have ra : 0 ≤ a ∧ a ≤ 18 := by omega
  have rd : 0 ≤ d ∧ d ≤ 29 := by omega
  have rw' : 0 ≤ w ∧ w ≤ 6 := by omega
  have rM : 0 ≤ M ∧ M ≤ 29 := by clear hd hq hn hw hp hpp hb hc hk ha e1 e2 e3 e4; omega
  have hx : d = 28 → ((11 * M + 11) % 30 < 19 ↔ 11 ≤ a) := fun h28 => hxl a M ra.1 ra.2 rM.1 rM.2 (by rw [← hd]; exact h28)
  clear hp hq hM hn hd hw hpp e1 e2 e3 hb hc hk ha
  rw [e4]
  refine ⟨?_, ?_, ?_, rd, rw', rM⟩
  · rintro ⟨rfl, rfl⟩; omega
  · rintro ⟨rfl, rfl, h3⟩; have := (hx rfl).mp h3; omega
  · intro h1 h2
    by_cases q1 : d = 28
    · subst q1
      have := hx rfl
      by_cases q2 : w = 6
      · subst q2
        have : ¬ 11 ≤ a := fun z => h2 ⟨rfl, rfl, (hx rfl).mpr z⟩
        omega
      · omega
    · omega
set_option maxRecDepth 65536 in
set_option maxHeartbeats 40000000 in
theorem rmL (l : Launch) (Z : State) (a0 : Array Value) (hw : ∀ d ∈ tables_1, d.before a0 Z = true) (i0 : Int32) (fY rY fM rM fD rD : Addr) (n0 : Nat) (h0 : Heap) (hn0 : n0 ≤ h0.size) (SfY : Sta Z h0 "java/time/temporal/ChronoField" "YEAR" "Ljava/time/temporal/ChronoField;" (.ref fY)) (EffY : Exa Z h0 fY "java/time/temporal/ChronoField") (FrfY : Fld Z h0 fY "java/time/temporal/ChronoField" "range" "Ljava/time/temporal/ValueRange;" (.ref rY)) (ErY : Exa Z h0 rY "java/time/temporal/ValueRange") (FmrY : Fld Z h0 rY "java/time/temporal/ValueRange" "minSmallest" "J" (.long (-999999999))) (FxrY : Fld Z h0 rY "java/time/temporal/ValueRange" "maxLargest" "J" (.long (999999999))) (SfM : Sta Z h0 "java/time/temporal/ChronoField" "MONTH_OF_YEAR" "Ljava/time/temporal/ChronoField;" (.ref fM)) (EffM : Exa Z h0 fM "java/time/temporal/ChronoField") (FrfM : Fld Z h0 fM "java/time/temporal/ChronoField" "range" "Ljava/time/temporal/ValueRange;" (.ref rM)) (ErM : Exa Z h0 rM "java/time/temporal/ValueRange") (FmrM : Fld Z h0 rM "java/time/temporal/ValueRange" "minSmallest" "J" (.long (1))) (FxrM : Fld Z h0 rM "java/time/temporal/ValueRange" "maxLargest" "J" (.long (12))) (SfD : Sta Z h0 "java/time/temporal/ChronoField" "DAY_OF_MONTH" "Ljava/time/temporal/ChronoField;" (.ref fD)) (EffD : Exa Z h0 fD "java/time/temporal/ChronoField") (FrfD : Fld Z h0 fD "java/time/temporal/ChronoField" "range" "Ljava/time/temporal/ValueRange;" (.ref rD)) (ErD : Exa Z h0 rD "java/time/temporal/ValueRange") (FmrD : Fld Z h0 rD "java/time/temporal/ValueRange" "minSmallest" "J" (.long (1))) (FxrD : Fld Z h0 rD "java/time/temporal/ValueRange" "maxLargest" "J" (.long (31))) : Wk.Met l Z x code maxLocals ret tables_1 room_1 #[(.int i0)] h0 (Wk.Fq (.int 1) n0) := by
  refine Wk.start pnL ?_
  intro p e s m below meth c s₁ X0 hx hby hml hown0 hnm hret hlk hZ e0
  have hown : s.vm.findClass "com/example/settlewright/settlewright/calc/HolidayRulesEasterSundayPinLaw" = some m.cls := hown0
  refine Wk.enter (g' := (mkF m 0 #[.val (.int i0), .unset, .unset, .unset, .unset, .unset, .unset, .unset, .unset, .unset, .unset, .unset, .unset, .unset, .unset, .unset] [])) (by first | rfl | (simp [entryFrame, mkF, argsToLocals, Value.category, maxLocals]; done)) ?_
  refine Wk.iloadN X0 hx (hb hby at_0) rfl rfl ?_
  refine Wk.ldcI X0 hx hZ hown (hw _ (List.mem_of_getElem? (i := 0) rfl)) (hb hby at_1) rfl ?_
  refine Wk.iand X0 hx (hb hby at_3) rfl ?_
  refine Wk.ldcI X0 hx hZ hown (hw _ (List.mem_of_getElem? (i := 1) rfl)) (hb hby at_4) rfl ?_
  refine Wk.irem X0 hx (hb hby at_6) (by decide) rfl ?_
  refine Wk.istoreN (l' := #[.val (.int i0), .val (.int ((i0 &&& (2147483647 : Int32)) % (1000000000 : Int32))), .unset, .unset, .unset, .unset, .unset, .unset, .unset, .unset, .unset, .unset, .unset, .unset, .unset, .unset]) X0 hx (hb hby at_7) rfl rfl ?_
  have b1 := c_mask i0 (2147483647 : Int32) 31 (by decide) (by decide)
  have b2 := (c_irem (i0 &&& (2147483647 : Int32)) (1000000000 : Int32) 1000000000 (by decide)).1 (by omega)
  have hy0 : 0 ≤ ((i0 &&& (2147483647 : Int32)) % (1000000000 : Int32)).toInt := by omega
  have hy1 : ((i0 &&& (2147483647 : Int32)) % (1000000000 : Int32)).toInt ≤ 999999999 := by omega
  generalize hyy : (i0 &&& (2147483647 : Int32)) % (1000000000 : Int32) = y at hy0 hy1 ⊢
  clear hyy b1 b2
  refine Wk.iloadN X0 hx (hb hby at_8) rfl rfl ?_
  refine Wk.callS (W := 0) X0 hx hZ (argsL := [(.int y)]) (rest := []) hown (hw _ (List.mem_of_getElem? (i := 2) rfl)) (hw _ (List.mem_of_getElem? (i := 3) rfl)) (hw _ (List.mem_of_getElem? (i := 4) rfl)) (hw _ (List.mem_of_getElem? (i := 5) rfl)) (by decide) (mes l Z a0 hw y hy0 hy1 fY rY fM rM fD rD n0 h0 hn0 SfY EffY FrfY ErY FmrY FxrY SfM EffM FrfM ErM FmrM FxrM SfD EffD FrfD ErD FmrD FxrD) e0 (by decide) (by decide) (by decide) (by decide) (by rw [hml]; rfl) (lenOf pd1 rfl) rfl (Nat.le_of_eq rfl) (hb hby at_9) rfl (fun T1 v1 L1 X1 hq1 => ?_)
  obtain ⟨a, mo, dd, rfl, N1, Ex1, A1, Fy1, Fm1, Fd1, c1, c2⟩ := hq1
  show Wk.Go p e below s _ _ _ T1 (mkF m 12 #[.val (.int i0), .val (.int y), .unset, .unset, .unset, .unset, .unset, .unset, .unset, .unset, .unset, .unset, .unset, .unset, .unset, .unset] [(.ref a)])
  refine Wk.astoreN (l' := #[.val (.int i0), .val (.int y), .val (.ref a), .unset, .unset, .unset, .unset, .unset, .unset, .unset, .unset, .unset, .unset, .unset, .unset, .unset]) X1 hx (hb hby at_12) rfl rfl rfl ?_
  refine Wk.iloadN X1 hx (hb hby at_13) rfl rfl ?_
  refine Wk.bipush X1 hx (19 : Int32) (hb hby at_14) rfl rfl ?_
  refine Wk.irem X1 hx (hb hby at_16) (by decide) rfl ?_
  have t2 : (y % (19 : Int32)).toInt = ((y).toInt) % 19 := Wk.t_rem (show (y : Int32).toInt = (y).toInt from rfl) (show ((19 : Int32) : Int32).toInt = 19 from (by decide)) (by omega)
  generalize y % (19 : Int32) = u2 at t2 ⊢
  refine Wk.istoreN (l' := #[.val (.int i0), .val (.int y), .val (.ref a), .val (.int u2), .unset, .unset, .unset, .unset, .unset, .unset, .unset, .unset, .unset, .unset, .unset, .unset]) X1 hx (hb hby at_17) rfl rfl ?_
  refine Wk.iloadN X1 hx (hb hby at_18) rfl rfl ?_
  refine Wk.iconst X1 hx (4 : Int32) (hb hby at_19) rfl rfl ?_
  refine Wk.irem X1 hx (hb hby at_20) (by decide) rfl ?_
  have t3 : (y % (4 : Int32)).toInt = ((y).toInt) % 4 := Wk.t_rem (show (y : Int32).toInt = (y).toInt from rfl) (show ((4 : Int32) : Int32).toInt = 4 from (by decide)) (by omega)
  generalize y % (4 : Int32) = u3 at t3 ⊢
  refine Wk.istore (l' := #[.val (.int i0), .val (.int y), .val (.ref a), .val (.int u2), .val (.int u3), .unset, .unset, .unset, .unset, .unset, .unset, .unset, .unset, .unset, .unset, .unset]) X1 hx (hb hby at_21) rfl rfl ?_
  refine Wk.iloadN X1 hx (hb hby at_23) rfl rfl ?_
  refine Wk.bipush X1 hx (7 : Int32) (hb hby at_24) rfl rfl ?_
  refine Wk.irem X1 hx (hb hby at_26) (by decide) rfl ?_
  have t4 : (y % (7 : Int32)).toInt = ((y).toInt) % 7 := Wk.t_rem (show (y : Int32).toInt = (y).toInt from rfl) (show ((7 : Int32) : Int32).toInt = 7 from (by decide)) (by omega)
  generalize y % (7 : Int32) = u4 at t4 ⊢
  refine Wk.istore (l' := #[.val (.int i0), .val (.int y), .val (.ref a), .val (.int u2), .val (.int u3), .val (.int u4), .unset, .unset, .unset, .unset, .unset, .unset, .unset, .unset, .unset, .unset]) X1 hx (hb hby at_27) rfl rfl ?_
  refine Wk.iloadN X1 hx (hb hby at_29) rfl rfl ?_
  refine Wk.bipush X1 hx (100 : Int32) (hb hby at_30) rfl rfl ?_
  refine Wk.idiv X1 hx (hb hby at_32) (by decide) rfl ?_
  have t5 : (y / (100 : Int32)).toInt = ((y).toInt) / 100 := Wk.t_div (show (y : Int32).toInt = (y).toInt from rfl) (show ((100 : Int32) : Int32).toInt = 100 from (by decide)) (by omega) (by decide)
  generalize y / (100 : Int32) = u5 at t5 ⊢
  refine Wk.istore (l' := #[.val (.int i0), .val (.int y), .val (.ref a), .val (.int u2), .val (.int u3), .val (.int u4), .val (.int u5), .unset, .unset, .unset, .unset, .unset, .unset, .unset, .unset, .unset]) X1 hx (hb hby at_33) rfl rfl ?_
  refine Wk.bipush X1 hx (13 : Int32) (hb hby at_35) rfl rfl ?_
  refine Wk.bipush X1 hx (8 : Int32) (hb hby at_37) rfl rfl ?_
  refine Wk.iload X1 hx (hb hby at_39) rfl rfl ?_
  refine Wk.imul X1 hx (hb hby at_41) rfl ?_
  have t6 : ((8 : Int32) * u5).toInt = 8 * u5.toInt := Wk.t_mul (show ((8 : Int32) : Int32).toInt = 8 from (by decide)) (show (u5 : Int32).toInt = u5.toInt from rfl) (by omega) (by omega)
  generalize (8 : Int32) * u5 = u6 at t6 ⊢
  refine Wk.iadd X1 hx (hb hby at_42) rfl ?_
  have t7 : ((13 : Int32) + u6).toInt = 13 + u6.toInt := Wk.t_add (show ((13 : Int32) : Int32).toInt = 13 from (by decide)) (show (u6 : Int32).toInt = u6.toInt from rfl) (by omega) (by omega)
  generalize (13 : Int32) + u6 = u7 at t7 ⊢
  refine Wk.bipush X1 hx (25 : Int32) (hb hby at_43) rfl rfl ?_
  refine Wk.idiv X1 hx (hb hby at_45) (by decide) rfl ?_
  have t8 : (u7 / (25 : Int32)).toInt = u7.toInt / 25 := Wk.t_div (show (u7 : Int32).toInt = u7.toInt from rfl) (show ((25 : Int32) : Int32).toInt = 25 from (by decide)) (by omega) (by decide)
  generalize u7 / (25 : Int32) = u8 at t8 ⊢
  refine Wk.istore (l' := #[.val (.int i0), .val (.int y), .val (.ref a), .val (.int u2), .val (.int u3), .val (.int u4), .val (.int u5), .val (.int u8), .unset, .unset, .unset, .unset, .unset, .unset, .unset, .unset]) X1 hx (hb hby at_46) rfl rfl ?_
  refine Wk.iload X1 hx (hb hby at_48) rfl rfl ?_
  refine Wk.iconst X1 hx (4 : Int32) (hb hby at_50) rfl rfl ?_
  refine Wk.idiv X1 hx (hb hby at_51) (by decide) rfl ?_
  have t9 : (u5 / (4 : Int32)).toInt = u5.toInt / 4 := Wk.t_div (show (u5 : Int32).toInt = u5.toInt from rfl) (show ((4 : Int32) : Int32).toInt = 4 from (by decide)) (by omega) (by decide)
  generalize u5 / (4 : Int32) = u9 at t9 ⊢
  refine Wk.istore (l' := #[.val (.int i0), .val (.int y), .val (.ref a), .val (.int u2), .val (.int u3), .val (.int u4), .val (.int u5), .val (.int u8), .val (.int u9), .unset, .unset, .unset, .unset, .unset, .unset, .unset]) X1 hx (hb hby at_52) rfl rfl ?_
  refine Wk.bipush X1 hx (15 : Int32) (hb hby at_54) rfl rfl ?_
  refine Wk.iload X1 hx (hb hby at_56) rfl rfl ?_
  refine Wk.isub X1 hx (hb hby at_58) rfl ?_
  have t10 : ((15 : Int32) - u8).toInt = 15 - u8.toInt := Wk.t_sub (show ((15 : Int32) : Int32).toInt = 15 from (by decide)) (show (u8 : Int32).toInt = u8.toInt from rfl) (by omega) (by omega)
  generalize (15 : Int32) - u8 = u10 at t10 ⊢
  refine Wk.iload X1 hx (hb hby at_59) rfl rfl ?_
  refine Wk.iadd X1 hx (hb hby at_61) rfl ?_
  have t11 : (u10 + u5).toInt = u10.toInt + u5.toInt := Wk.t_add (show (u10 : Int32).toInt = u10.toInt from rfl) (show (u5 : Int32).toInt = u5.toInt from rfl) (by omega) (by omega)
  generalize u10 + u5 = u11 at t11 ⊢
  refine Wk.iload X1 hx (hb hby at_62) rfl rfl ?_
  refine Wk.isub X1 hx (hb hby at_64) rfl ?_
  have t12 : (u11 - u9).toInt = u11.toInt - u9.toInt := Wk.t_sub (show (u11 : Int32).toInt = u11.toInt from rfl) (show (u9 : Int32).toInt = u9.toInt from rfl) (by omega) (by omega)
  generalize u11 - u9 = u12 at t12 ⊢
  refine Wk.bipush X1 hx (30 : Int32) (hb hby at_65) rfl rfl ?_
  refine Wk.irem X1 hx (hb hby at_67) (by decide) rfl ?_
  have t13 : (u12 % (30 : Int32)).toInt = u12.toInt % 30 := Wk.t_rem (show (u12 : Int32).toInt = u12.toInt from rfl) (show ((30 : Int32) : Int32).toInt = 30 from (by decide)) (by omega)
  generalize u12 % (30 : Int32) = u13 at t13 ⊢
  refine Wk.istore (l' := #[.val (.int i0), .val (.int y), .val (.ref a), .val (.int u2), .val (.int u3), .val (.int u4), .val (.int u5), .val (.int u8), .val (.int u9), .val (.int u13), .unset, .unset, .unset, .unset, .unset, .unset]) X1 hx (hb hby at_68) rfl rfl ?_
  refine Wk.iconst X1 hx (4 : Int32) (hb hby at_70) rfl rfl ?_
  refine Wk.iload X1 hx (hb hby at_71) rfl rfl ?_
  refine Wk.iadd X1 hx (hb hby at_73) rfl ?_
  have t14 : ((4 : Int32) + u5).toInt = 4 + u5.toInt := Wk.t_add (show ((4 : Int32) : Int32).toInt = 4 from (by decide)) (show (u5 : Int32).toInt = u5.toInt from rfl) (by omega) (by omega)
  generalize (4 : Int32) + u5 = u14 at t14 ⊢
  refine Wk.iload X1 hx (hb hby at_74) rfl rfl ?_
  refine Wk.isub X1 hx (hb hby at_76) rfl ?_
  have t15 : (u14 - u9).toInt = u14.toInt - u9.toInt := Wk.t_sub (show (u14 : Int32).toInt = u14.toInt from rfl) (show (u9 : Int32).toInt = u9.toInt from rfl) (by omega) (by omega)
  generalize u14 - u9 = u15 at t15 ⊢
  refine Wk.bipush X1 hx (7 : Int32) (hb hby at_77) rfl rfl ?_
  refine Wk.irem X1 hx (hb hby at_79) (by decide) rfl ?_
  have t16 : (u15 % (7 : Int32)).toInt = u15.toInt % 7 := Wk.t_rem (show (u15 : Int32).toInt = u15.toInt from rfl) (show ((7 : Int32) : Int32).toInt = 7 from (by decide)) (by omega)
  generalize u15 % (7 : Int32) = u16 at t16 ⊢
  refine Wk.istore (l' := #[.val (.int i0), .val (.int y), .val (.ref a), .val (.int u2), .val (.int u3), .val (.int u4), .val (.int u5), .val (.int u8), .val (.int u9), .val (.int u13), .val (.int u16), .unset, .unset, .unset, .unset, .unset]) X1 hx (hb hby at_80) rfl rfl ?_
  refine Wk.bipush X1 hx (19 : Int32) (hb hby at_82) rfl rfl ?_
  refine Wk.iloadN X1 hx (hb hby at_84) rfl rfl ?_
  refine Wk.imul X1 hx (hb hby at_85) rfl ?_
  have t17 : ((19 : Int32) * u2).toInt = 19 * u2.toInt := Wk.t_mul (show ((19 : Int32) : Int32).toInt = 19 from (by decide)) (show (u2 : Int32).toInt = u2.toInt from rfl) (by omega) (by omega)
  generalize (19 : Int32) * u2 = u17 at t17 ⊢
  refine Wk.iload X1 hx (hb hby at_86) rfl rfl ?_
  refine Wk.iadd X1 hx (hb hby at_88) rfl ?_
  have t18 : (u17 + u13).toInt = u17.toInt + u13.toInt := Wk.t_add (show (u17 : Int32).toInt = u17.toInt from rfl) (show (u13 : Int32).toInt = u13.toInt from rfl) (by omega) (by omega)
  generalize u17 + u13 = u18 at t18 ⊢
  refine Wk.bipush X1 hx (30 : Int32) (hb hby at_89) rfl rfl ?_
  refine Wk.irem X1 hx (hb hby at_91) (by decide) rfl ?_
  have t19 : (u18 % (30 : Int32)).toInt = u18.toInt % 30 := Wk.t_rem (show (u18 : Int32).toInt = u18.toInt from rfl) (show ((30 : Int32) : Int32).toInt = 30 from (by decide)) (by omega)
  generalize u18 % (30 : Int32) = u19 at t19 ⊢
  refine Wk.istore (l' := #[.val (.int i0), .val (.int y), .val (.ref a), .val (.int u2), .val (.int u3), .val (.int u4), .val (.int u5), .val (.int u8), .val (.int u9), .val (.int u13), .val (.int u16), .val (.int u19), .unset, .unset, .unset, .unset]) X1 hx (hb hby at_92) rfl rfl ?_
  refine Wk.iconst X1 hx (2 : Int32) (hb hby at_94) rfl rfl ?_
  refine Wk.iload X1 hx (hb hby at_95) rfl rfl ?_
  refine Wk.imul X1 hx (hb hby at_97) rfl ?_
  have t20 : ((2 : Int32) * u3).toInt = 2 * u3.toInt := Wk.t_mul (show ((2 : Int32) : Int32).toInt = 2 from (by decide)) (show (u3 : Int32).toInt = u3.toInt from rfl) (by omega) (by omega)
  generalize (2 : Int32) * u3 = u20 at t20 ⊢
  refine Wk.iconst X1 hx (4 : Int32) (hb hby at_98) rfl rfl ?_
  refine Wk.iload X1 hx (hb hby at_99) rfl rfl ?_
  refine Wk.imul X1 hx (hb hby at_101) rfl ?_
  have t21 : ((4 : Int32) * u4).toInt = 4 * u4.toInt := Wk.t_mul (show ((4 : Int32) : Int32).toInt = 4 from (by decide)) (show (u4 : Int32).toInt = u4.toInt from rfl) (by omega) (by omega)
  generalize (4 : Int32) * u4 = u21 at t21 ⊢
  refine Wk.iadd X1 hx (hb hby at_102) rfl ?_
  have t22 : (u20 + u21).toInt = u20.toInt + u21.toInt := Wk.t_add (show (u20 : Int32).toInt = u20.toInt from rfl) (show (u21 : Int32).toInt = u21.toInt from rfl) (by omega) (by omega)
  generalize u20 + u21 = u22 at t22 ⊢
  refine Wk.bipush X1 hx (6 : Int32) (hb hby at_103) rfl rfl ?_
  refine Wk.iload X1 hx (hb hby at_105) rfl rfl ?_
  refine Wk.imul X1 hx (hb hby at_107) rfl ?_
  have t23 : ((6 : Int32) * u19).toInt = 6 * u19.toInt := Wk.t_mul (show ((6 : Int32) : Int32).toInt = 6 from (by decide)) (show (u19 : Int32).toInt = u19.toInt from rfl) (by omega) (by omega)
  generalize (6 : Int32) * u19 = u23 at t23 ⊢
  refine Wk.iadd X1 hx (hb hby at_108) rfl ?_
  have t24 : (u22 + u23).toInt = u22.toInt + u23.toInt := Wk.t_add (show (u22 : Int32).toInt = u22.toInt from rfl) (show (u23 : Int32).toInt = u23.toInt from rfl) (by omega) (by omega)
  generalize u22 + u23 = u24 at t24 ⊢
  refine Wk.iload X1 hx (hb hby at_109) rfl rfl ?_
  refine Wk.iadd X1 hx (hb hby at_111) rfl ?_
  have t25 : (u24 + u16).toInt = u24.toInt + u16.toInt := Wk.t_add (show (u24 : Int32).toInt = u24.toInt from rfl) (show (u16 : Int32).toInt = u16.toInt from rfl) (by omega) (by omega)
  generalize u24 + u16 = u25 at t25 ⊢
  refine Wk.bipush X1 hx (7 : Int32) (hb hby at_112) rfl rfl ?_
  refine Wk.irem X1 hx (hb hby at_114) (by decide) rfl ?_
  have t26 : (u25 % (7 : Int32)).toInt = u25.toInt % 7 := Wk.t_rem (show (u25 : Int32).toInt = u25.toInt from rfl) (show ((7 : Int32) : Int32).toInt = 7 from (by decide)) (by omega)
  generalize u25 % (7 : Int32) = u26 at t26 ⊢
  refine Wk.istore (l' := #[.val (.int i0), .val (.int y), .val (.ref a), .val (.int u2), .val (.int u3), .val (.int u4), .val (.int u5), .val (.int u8), .val (.int u9), .val (.int u13), .val (.int u16), .val (.int u19), .val (.int u26), .unset, .unset, .unset]) X1 hx (hb hby at_115) rfl rfl ?_
  obtain ⟨l1, l2, l3, rg1, rg2, rg3⟩ := plain y.toInt hy0 hy1 (u2.toInt) (u3.toInt) (u4.toInt) (u5.toInt) (u8.toInt) (u9.toInt) (u13.toInt) (u16.toInt) (u19.toInt) (u26.toInt) (by simp only [t2, t3, t4, t5, t6, t7, t8, t9, t10, t11, t12, t13, t14, t15, t16, t17, t18, t19, t20, t21, t22, t23, t24, t25, t26]) (by simp only [t2, t3, t4, t5, t6, t7, t8, t9, t10, t11, t12, t13, t14, t15, t16, t17, t18, t19, t20, t21, t22, t23, t24, t25, t26]) (by simp only [t2, t3, t4, t5, t6, t7, t8, t9, t10, t11, t12, t13, t14, t15, t16, t17, t18, t19, t20, t21, t22, t23, t24, t25, t26]) (by simp only [t2, t3, t4, t5, t6, t7, t8, t9, t10, t11, t12, t13, t14, t15, t16, t17, t18, t19, t20, t21, t22, t23, t24, t25, t26]) (by simp only [t2, t3, t4, t5, t6, t7, t8, t9, t10, t11, t12, t13, t14, t15, t16, t17, t18, t19, t20, t21, t22, t23, t24, t25, t26]) (by simp only [t2, t3, t4, t5, t6, t7, t8, t9, t10, t11, t12, t13, t14, t15, t16, t17, t18, t19, t20, t21, t22, t23, t24, t25, t26]) (by simp only [t2, t3, t4, t5, t6, t7, t8, t9, t10, t11, t12, t13, t14, t15, t16, t17, t18, t19, t20, t21, t22, t23, t24, t25, t26]) (by simp only [t2, t3, t4, t5, t6, t7, t8, t9, t10, t11, t12, t13, t14, t15, t16, t17, t18, t19, t20, t21, t22, t23, t24, t25, t26]) (by simp only [t2, t3, t4, t5, t6, t7, t8, t9, t10, t11, t12, t13, t14, t15, t16, t17, t18, t19, t20, t21, t22, t23, t24, t25, t26]) (by simp only [t2, t3, t4, t5, t6, t7, t8, t9, t10, t11, t12, t13, t14, t15, t16, t17, t18, t19, t20, t21, t22, t23, t24, t25, t26])
  clear t2 t3 t4 t5 t6 t7 t8 t9 t10 t11 t12 t13 t14 t15 t16 t17 t18 t19 t20 t21 t22 t23 t24 t25 t26
  refine Wk.iload X1 hx (hb hby at_117) rfl rfl ?_
  refine Wk.bipush X1 hx (29 : Int32) (hb hby at_119) rfl rfl ?_
  refine Wk.icmp_ne X1 hx 141 124 (hb hby at_121) rfl rfl (show (u19 : Int32).toInt = u19.toInt from rfl) (show ((29 : Int32) : Int32).toInt = 29 from (by decide)) (fun h27 => ?_) (fun h27 => ?_)
  · skip
    refine Wk.iload X1 hx (hb hby at_141) rfl rfl ?_
    refine Wk.bipush X1 hx (28 : Int32) (hb hby at_143) rfl rfl ?_
    refine Wk.icmp_ne X1 hx 181 148 (hb hby at_145) rfl rfl (show (u19 : Int32).toInt = u19.toInt from rfl) (show ((28 : Int32) : Int32).toInt = 28 from (by decide)) (fun h28 => ?_) (fun h28 => ?_)
    · skip
      refine Wk.bipush X1 hx (22 : Int32) (hb hby at_181) rfl rfl ?_
      refine Wk.iload X1 hx (hb hby at_183) rfl rfl ?_
      refine Wk.iadd X1 hx (hb hby at_185) rfl ?_
      have t29 : ((22 : Int32) + u19).toInt = 22 + u19.toInt := Wk.t_add (show ((22 : Int32) : Int32).toInt = 22 from (by decide)) (show (u19 : Int32).toInt = u19.toInt from rfl) (by omega) (by omega)
      generalize (22 : Int32) + u19 = u29 at t29 ⊢
      refine Wk.iload X1 hx (hb hby at_186) rfl rfl ?_
      refine Wk.iadd X1 hx (hb hby at_188) rfl ?_
      have t30 : (u29 + u26).toInt = u29.toInt + u26.toInt := Wk.t_add (show (u29 : Int32).toInt = u29.toInt from rfl) (show (u26 : Int32).toInt = u26.toInt from rfl) (by omega) (by omega)
      generalize u29 + u26 = u30 at t30 ⊢
      refine Wk.istore (l' := #[.val (.int i0), .val (.int y), .val (.ref a), .val (.int u2), .val (.int u3), .val (.int u4), .val (.int u5), .val (.int u8), .val (.int u9), .val (.int u13), .val (.int u16), .val (.int u19), .val (.int u26), .unset, .unset, .val (.int u30)]) X1 hx (hb hby at_189) rfl rfl ?_
      refine Wk.iload X1 hx (hb hby at_191) rfl rfl ?_
      refine Wk.bipush X1 hx (31 : Int32) (hb hby at_193) rfl rfl ?_
      refine Wk.icmp_gt X1 hx 208 198 (hb hby at_195) rfl rfl (show (u30 : Int32).toInt = u30.toInt from rfl) (show ((31 : Int32) : Int32).toInt = 31 from (by decide)) (fun h31 => ?_) (fun h31 => ?_)
      · skip
        refine Wk.iconst X1 hx (4 : Int32) (hb hby at_208) rfl rfl ?_
        refine Wk.istore (l' := #[.val (.int i0), .val (.int y), .val (.ref a), .val (.int u2), .val (.int u3), .val (.int u4), .val (.int u5), .val (.int u8), .val (.int u9), .val (.int u13), .val (.int u16), .val (.int u19), .val (.int u26), .val (.int (4 : Int32)), .unset, .val (.int u30)]) X1 hx (hb hby at_209) rfl rfl ?_
        refine Wk.iload X1 hx (hb hby at_211) rfl rfl ?_
        refine Wk.bipush X1 hx (31 : Int32) (hb hby at_213) rfl rfl ?_
        refine Wk.isub X1 hx (hb hby at_215) rfl ?_
        have t32 : (u30 - (31 : Int32)).toInt = u30.toInt - 31 := Wk.t_sub (show (u30 : Int32).toInt = u30.toInt from rfl) (show ((31 : Int32) : Int32).toInt = 31 from (by decide)) (by omega) (by omega)
        generalize u30 - (31 : Int32) = u32 at t32 ⊢
        refine Wk.istore (l' := #[.val (.int i0), .val (.int y), .val (.ref a), .val (.int u2), .val (.int u3), .val (.int u4), .val (.int u5), .val (.int u8), .val (.int u9), .val (.int u13), .val (.int u16), .val (.int u19), .val (.int u26), .val (.int (4 : Int32)), .val (.int u32), .val (.int u30)]) X1 hx (hb hby at_216) rfl rfl ?_
        have hf : mo.toInt = 4 ∧ dd.toInt = u32.toInt := by
          first
          | (have hD := l1 ⟨by omega, by omega⟩; clear l1 l2 l3; omega)
          | (have hD := l2 ⟨by omega, by omega, by omega⟩; clear l1 l2 l3; omega)
          | (have hD := l3 (by omega) (by omega); clear l1 l2 l3; omega)
        refine Wk.aloadN X1 hx (hb hby at_218) rfl rfl rfl ?_
        refine Wk.callVP (W := 0) X1 hx hZ (argsL := []) (rest := []) hown (hw _ (List.mem_of_getElem? (i := 81) rfl)) (hw _ (List.mem_of_getElem? (i := 82) rfl)) (hw _ (List.mem_of_getElem? (i := 84) rfl)) (hw _ (List.mem_of_getElem? (i := 83) rfl)) (hw _ (List.mem_of_getElem? (i := 8) rfl)) (hw _ (List.mem_of_getElem? (i := 85) rfl)) (notFace_of_selects (args := #[]) (mvT hZ (hw _ (List.mem_of_getElem? (i := 84) rfl)))) (by decide) (mgy l Z a0 hw a y T1.heap Fy1) rfl A1 (by decide) (by decide) (by decide) (by decide) (by rw [hml]; rfl) (lenOf pd14 rfl) rfl (Nat.le_of_eq rfl) (hb hby at_219) rfl (fun T33 X33 e33 => ?_)
        refine Wk.iloadN X33 hx (hb hby at_222) rfl rfl ?_
        refine Wk.icmp_ne X33 hx 248 226 (hb hby at_223) rfl rfl (show (y : Int32).toInt = (y).toInt from rfl) (show (y : Int32).toInt = (y).toInt from rfl) (fun h34 => absurd h34 (by omega)) (fun h34 => ?_)
        refine Wk.aloadN X33 hx (hb hby at_226) rfl rfl rfl ?_
        refine Wk.callVP (W := 0) X33 hx hZ (argsL := []) (rest := []) hown (hw _ (List.mem_of_getElem? (i := 86) rfl)) (hw _ (List.mem_of_getElem? (i := 87) rfl)) (hw _ (List.mem_of_getElem? (i := 89) rfl)) (hw _ (List.mem_of_getElem? (i := 88) rfl)) (hw _ (List.mem_of_getElem? (i := 8) rfl)) (hw _ (List.mem_of_getElem? (i := 90) rfl)) (notFace_of_selects (args := #[]) (mvT hZ (hw _ (List.mem_of_getElem? (i := 89) rfl)))) (by decide) (mgm l Z a0 hw a mo T1.heap Fm1) e33 A1 (by decide) (by decide) (by decide) (by decide) (by rw [hml]; rfl) (lenOf pd15 rfl) rfl (Nat.le_of_eq rfl) (hb hby at_227) rfl (fun T35 X35 e35 => ?_)
        refine Wk.iload X35 hx (hb hby at_230) rfl rfl ?_
        refine Wk.icmp_ne X35 hx 248 235 (hb hby at_232) rfl rfl (show (mo : Int32).toInt = (mo).toInt from rfl) (show ((4 : Int32) : Int32).toInt = 4 from (by decide)) (fun h36 => absurd h36 (by omega)) (fun h36 => ?_)
        refine Wk.aloadN X35 hx (hb hby at_235) rfl rfl rfl ?_
        refine Wk.callVP (W := 0) X35 hx hZ (argsL := []) (rest := []) hown (hw _ (List.mem_of_getElem? (i := 91) rfl)) (hw _ (List.mem_of_getElem? (i := 92) rfl)) (hw _ (List.mem_of_getElem? (i := 94) rfl)) (hw _ (List.mem_of_getElem? (i := 93) rfl)) (hw _ (List.mem_of_getElem? (i := 8) rfl)) (hw _ (List.mem_of_getElem? (i := 95) rfl)) (notFace_of_selects (args := #[]) (mvT hZ (hw _ (List.mem_of_getElem? (i := 94) rfl)))) (by decide) (mgd l Z a0 hw a dd T1.heap Fd1) e35 A1 (by decide) (by decide) (by decide) (by decide) (by rw [hml]; rfl) (lenOf pd16 rfl) rfl (Nat.le_of_eq rfl) (hb hby at_236) rfl (fun T37 X37 e37 => ?_)
        refine Wk.iload X37 hx (hb hby at_239) rfl rfl ?_
        refine Wk.icmp_ne X37 hx 248 244 (hb hby at_241) rfl rfl (show (dd : Int32).toInt = (dd).toInt from rfl) (show (u32 : Int32).toInt = u32.toInt from rfl) (fun h38 => absurd h38 (by omega)) (fun h38 => ?_)
        refine Wk.iconst X37 hx (1 : Int32) (hb hby at_244) rfl rfl ?_
        refine Wk.goto X37 hx 249 (hb hby at_245) rfl ?_
        exact Wk.retZ X37 hx hlk hret (hb hby at_249) (by decide) (by decide) (by decide) ⟨rfl, Fr.app (Fr.nil n0) N1⟩
      · skip
        refine Wk.iconst X1 hx (3 : Int32) (hb hby at_198) rfl rfl ?_
        refine Wk.istore (l' := #[.val (.int i0), .val (.int y), .val (.ref a), .val (.int u2), .val (.int u3), .val (.int u4), .val (.int u5), .val (.int u8), .val (.int u9), .val (.int u13), .val (.int u16), .val (.int u19), .val (.int u26), .val (.int (3 : Int32)), .unset, .val (.int u30)]) X1 hx (hb hby at_199) rfl rfl ?_
        refine Wk.iload X1 hx (hb hby at_201) rfl rfl ?_
        refine Wk.istore (l' := #[.val (.int i0), .val (.int y), .val (.ref a), .val (.int u2), .val (.int u3), .val (.int u4), .val (.int u5), .val (.int u8), .val (.int u9), .val (.int u13), .val (.int u16), .val (.int u19), .val (.int u26), .val (.int (3 : Int32)), .val (.int u30), .val (.int u30)]) X1 hx (hb hby at_203) rfl rfl ?_
        refine Wk.goto X1 hx 218 (hb hby at_205) rfl ?_
        have hf : mo.toInt = 3 ∧ dd.toInt = u30.toInt := by
          first
          | (have hD := l1 ⟨by omega, by omega⟩; clear l1 l2 l3; omega)
          | (have hD := l2 ⟨by omega, by omega, by omega⟩; clear l1 l2 l3; omega)
          | (have hD := l3 (by omega) (by omega); clear l1 l2 l3; omega)
        refine Wk.aloadN X1 hx (hb hby at_218) rfl rfl rfl ?_
        refine Wk.callVP (W := 0) X1 hx hZ (argsL := []) (rest := []) hown (hw _ (List.mem_of_getElem? (i := 81) rfl)) (hw _ (List.mem_of_getElem? (i := 82) rfl)) (hw _ (List.mem_of_getElem? (i := 84) rfl)) (hw _ (List.mem_of_getElem? (i := 83) rfl)) (hw _ (List.mem_of_getElem? (i := 8) rfl)) (hw _ (List.mem_of_getElem? (i := 85) rfl)) (notFace_of_selects (args := #[]) (mvT hZ (hw _ (List.mem_of_getElem? (i := 84) rfl)))) (by decide) (mgy l Z a0 hw a y T1.heap Fy1) rfl A1 (by decide) (by decide) (by decide) (by decide) (by rw [hml]; rfl) (lenOf pd14 rfl) rfl (Nat.le_of_eq rfl) (hb hby at_219) rfl (fun T39 X39 e39 => ?_)
        refine Wk.iloadN X39 hx (hb hby at_222) rfl rfl ?_
        refine Wk.icmp_ne X39 hx 248 226 (hb hby at_223) rfl rfl (show (y : Int32).toInt = (y).toInt from rfl) (show (y : Int32).toInt = (y).toInt from rfl) (fun h40 => absurd h40 (by omega)) (fun h40 => ?_)
        refine Wk.aloadN X39 hx (hb hby at_226) rfl rfl rfl ?_
        refine Wk.callVP (W := 0) X39 hx hZ (argsL := []) (rest := []) hown (hw _ (List.mem_of_getElem? (i := 86) rfl)) (hw _ (List.mem_of_getElem? (i := 87) rfl)) (hw _ (List.mem_of_getElem? (i := 89) rfl)) (hw _ (List.mem_of_getElem? (i := 88) rfl)) (hw _ (List.mem_of_getElem? (i := 8) rfl)) (hw _ (List.mem_of_getElem? (i := 90) rfl)) (notFace_of_selects (args := #[]) (mvT hZ (hw _ (List.mem_of_getElem? (i := 89) rfl)))) (by decide) (mgm l Z a0 hw a mo T1.heap Fm1) e39 A1 (by decide) (by decide) (by decide) (by decide) (by rw [hml]; rfl) (lenOf pd15 rfl) rfl (Nat.le_of_eq rfl) (hb hby at_227) rfl (fun T41 X41 e41 => ?_)
        refine Wk.iload X41 hx (hb hby at_230) rfl rfl ?_
        refine Wk.icmp_ne X41 hx 248 235 (hb hby at_232) rfl rfl (show (mo : Int32).toInt = (mo).toInt from rfl) (show ((3 : Int32) : Int32).toInt = 3 from (by decide)) (fun h42 => absurd h42 (by omega)) (fun h42 => ?_)
        refine Wk.aloadN X41 hx (hb hby at_235) rfl rfl rfl ?_
        refine Wk.callVP (W := 0) X41 hx hZ (argsL := []) (rest := []) hown (hw _ (List.mem_of_getElem? (i := 91) rfl)) (hw _ (List.mem_of_getElem? (i := 92) rfl)) (hw _ (List.mem_of_getElem? (i := 94) rfl)) (hw _ (List.mem_of_getElem? (i := 93) rfl)) (hw _ (List.mem_of_getElem? (i := 8) rfl)) (hw _ (List.mem_of_getElem? (i := 95) rfl)) (notFace_of_selects (args := #[]) (mvT hZ (hw _ (List.mem_of_getElem? (i := 94) rfl)))) (by decide) (mgd l Z a0 hw a dd T1.heap Fd1) e41 A1 (by decide) (by decide) (by decide) (by decide) (by rw [hml]; rfl) (lenOf pd16 rfl) rfl (Nat.le_of_eq rfl) (hb hby at_236) rfl (fun T43 X43 e43 => ?_)
        refine Wk.iload X43 hx (hb hby at_239) rfl rfl ?_
        refine Wk.icmp_ne X43 hx 248 244 (hb hby at_241) rfl rfl (show (dd : Int32).toInt = (dd).toInt from rfl) (show (u30 : Int32).toInt = u30.toInt from rfl) (fun h44 => absurd h44 (by omega)) (fun h44 => ?_)
        refine Wk.iconst X43 hx (1 : Int32) (hb hby at_244) rfl rfl ?_
        refine Wk.goto X43 hx 249 (hb hby at_245) rfl ?_
        exact Wk.retZ X43 hx hlk hret (hb hby at_249) (by decide) (by decide) (by decide) ⟨rfl, Fr.app (Fr.nil n0) N1⟩
    · skip
      refine Wk.iload X1 hx (hb hby at_148) rfl rfl ?_
      refine Wk.bipush X1 hx (6 : Int32) (hb hby at_150) rfl rfl ?_
      refine Wk.icmp_ne X1 hx 181 155 (hb hby at_152) rfl rfl (show (u26 : Int32).toInt = u26.toInt from rfl) (show ((6 : Int32) : Int32).toInt = 6 from (by decide)) (fun h45 => ?_) (fun h45 => ?_)
      · skip
        refine Wk.bipush X1 hx (22 : Int32) (hb hby at_181) rfl rfl ?_
        refine Wk.iload X1 hx (hb hby at_183) rfl rfl ?_
        refine Wk.iadd X1 hx (hb hby at_185) rfl ?_
        have t46 : ((22 : Int32) + u19).toInt = 22 + u19.toInt := Wk.t_add (show ((22 : Int32) : Int32).toInt = 22 from (by decide)) (show (u19 : Int32).toInt = u19.toInt from rfl) (by omega) (by omega)
        generalize (22 : Int32) + u19 = u46 at t46 ⊢
        refine Wk.iload X1 hx (hb hby at_186) rfl rfl ?_
        refine Wk.iadd X1 hx (hb hby at_188) rfl ?_
        have t47 : (u46 + u26).toInt = u46.toInt + u26.toInt := Wk.t_add (show (u46 : Int32).toInt = u46.toInt from rfl) (show (u26 : Int32).toInt = u26.toInt from rfl) (by omega) (by omega)
        generalize u46 + u26 = u47 at t47 ⊢
        refine Wk.istore (l' := #[.val (.int i0), .val (.int y), .val (.ref a), .val (.int u2), .val (.int u3), .val (.int u4), .val (.int u5), .val (.int u8), .val (.int u9), .val (.int u13), .val (.int u16), .val (.int u19), .val (.int u26), .unset, .unset, .val (.int u47)]) X1 hx (hb hby at_189) rfl rfl ?_
        refine Wk.iload X1 hx (hb hby at_191) rfl rfl ?_
        refine Wk.bipush X1 hx (31 : Int32) (hb hby at_193) rfl rfl ?_
        refine Wk.icmp_gt X1 hx 208 198 (hb hby at_195) rfl rfl (show (u47 : Int32).toInt = u47.toInt from rfl) (show ((31 : Int32) : Int32).toInt = 31 from (by decide)) (fun h48 => ?_) (fun h48 => ?_)
        · skip
          refine Wk.iconst X1 hx (4 : Int32) (hb hby at_208) rfl rfl ?_
          refine Wk.istore (l' := #[.val (.int i0), .val (.int y), .val (.ref a), .val (.int u2), .val (.int u3), .val (.int u4), .val (.int u5), .val (.int u8), .val (.int u9), .val (.int u13), .val (.int u16), .val (.int u19), .val (.int u26), .val (.int (4 : Int32)), .unset, .val (.int u47)]) X1 hx (hb hby at_209) rfl rfl ?_
          refine Wk.iload X1 hx (hb hby at_211) rfl rfl ?_
          refine Wk.bipush X1 hx (31 : Int32) (hb hby at_213) rfl rfl ?_
          refine Wk.isub X1 hx (hb hby at_215) rfl ?_
          have t49 : (u47 - (31 : Int32)).toInt = u47.toInt - 31 := Wk.t_sub (show (u47 : Int32).toInt = u47.toInt from rfl) (show ((31 : Int32) : Int32).toInt = 31 from (by decide)) (by omega) (by omega)
          generalize u47 - (31 : Int32) = u49 at t49 ⊢
          refine Wk.istore (l' := #[.val (.int i0), .val (.int y), .val (.ref a), .val (.int u2), .val (.int u3), .val (.int u4), .val (.int u5), .val (.int u8), .val (.int u9), .val (.int u13), .val (.int u16), .val (.int u19), .val (.int u26), .val (.int (4 : Int32)), .val (.int u49), .val (.int u47)]) X1 hx (hb hby at_216) rfl rfl ?_
          have hf : mo.toInt = 4 ∧ dd.toInt = u49.toInt := by
            first
            | (have hD := l1 ⟨by omega, by omega⟩; clear l1 l2 l3; omega)
            | (have hD := l2 ⟨by omega, by omega, by omega⟩; clear l1 l2 l3; omega)
            | (have hD := l3 (by omega) (by omega); clear l1 l2 l3; omega)
          refine Wk.aloadN X1 hx (hb hby at_218) rfl rfl rfl ?_
          refine Wk.callVP (W := 0) X1 hx hZ (argsL := []) (rest := []) hown (hw _ (List.mem_of_getElem? (i := 81) rfl)) (hw _ (List.mem_of_getElem? (i := 82) rfl)) (hw _ (List.mem_of_getElem? (i := 84) rfl)) (hw _ (List.mem_of_getElem? (i := 83) rfl)) (hw _ (List.mem_of_getElem? (i := 8) rfl)) (hw _ (List.mem_of_getElem? (i := 85) rfl)) (notFace_of_selects (args := #[]) (mvT hZ (hw _ (List.mem_of_getElem? (i := 84) rfl)))) (by decide) (mgy l Z a0 hw a y T1.heap Fy1) rfl A1 (by decide) (by decide) (by decide) (by decide) (by rw [hml]; rfl) (lenOf pd14 rfl) rfl (Nat.le_of_eq rfl) (hb hby at_219) rfl (fun T50 X50 e50 => ?_)
          refine Wk.iloadN X50 hx (hb hby at_222) rfl rfl ?_
          refine Wk.icmp_ne X50 hx 248 226 (hb hby at_223) rfl rfl (show (y : Int32).toInt = (y).toInt from rfl) (show (y : Int32).toInt = (y).toInt from rfl) (fun h51 => absurd h51 (by omega)) (fun h51 => ?_)
          refine Wk.aloadN X50 hx (hb hby at_226) rfl rfl rfl ?_
          refine Wk.callVP (W := 0) X50 hx hZ (argsL := []) (rest := []) hown (hw _ (List.mem_of_getElem? (i := 86) rfl)) (hw _ (List.mem_of_getElem? (i := 87) rfl)) (hw _ (List.mem_of_getElem? (i := 89) rfl)) (hw _ (List.mem_of_getElem? (i := 88) rfl)) (hw _ (List.mem_of_getElem? (i := 8) rfl)) (hw _ (List.mem_of_getElem? (i := 90) rfl)) (notFace_of_selects (args := #[]) (mvT hZ (hw _ (List.mem_of_getElem? (i := 89) rfl)))) (by decide) (mgm l Z a0 hw a mo T1.heap Fm1) e50 A1 (by decide) (by decide) (by decide) (by decide) (by rw [hml]; rfl) (lenOf pd15 rfl) rfl (Nat.le_of_eq rfl) (hb hby at_227) rfl (fun T52 X52 e52 => ?_)
          refine Wk.iload X52 hx (hb hby at_230) rfl rfl ?_
          refine Wk.icmp_ne X52 hx 248 235 (hb hby at_232) rfl rfl (show (mo : Int32).toInt = (mo).toInt from rfl) (show ((4 : Int32) : Int32).toInt = 4 from (by decide)) (fun h53 => absurd h53 (by omega)) (fun h53 => ?_)
          refine Wk.aloadN X52 hx (hb hby at_235) rfl rfl rfl ?_
          refine Wk.callVP (W := 0) X52 hx hZ (argsL := []) (rest := []) hown (hw _ (List.mem_of_getElem? (i := 91) rfl)) (hw _ (List.mem_of_getElem? (i := 92) rfl)) (hw _ (List.mem_of_getElem? (i := 94) rfl)) (hw _ (List.mem_of_getElem? (i := 93) rfl)) (hw _ (List.mem_of_getElem? (i := 8) rfl)) (hw _ (List.mem_of_getElem? (i := 95) rfl)) (notFace_of_selects (args := #[]) (mvT hZ (hw _ (List.mem_of_getElem? (i := 94) rfl)))) (by decide) (mgd l Z a0 hw a dd T1.heap Fd1) e52 A1 (by decide) (by decide) (by decide) (by decide) (by rw [hml]; rfl) (lenOf pd16 rfl) rfl (Nat.le_of_eq rfl) (hb hby at_236) rfl (fun T54 X54 e54 => ?_)
          refine Wk.iload X54 hx (hb hby at_239) rfl rfl ?_
          refine Wk.icmp_ne X54 hx 248 244 (hb hby at_241) rfl rfl (show (dd : Int32).toInt = (dd).toInt from rfl) (show (u49 : Int32).toInt = u49.toInt from rfl) (fun h55 => absurd h55 (by omega)) (fun h55 => ?_)
          refine Wk.iconst X54 hx (1 : Int32) (hb hby at_244) rfl rfl ?_
          refine Wk.goto X54 hx 249 (hb hby at_245) rfl ?_
          exact Wk.retZ X54 hx hlk hret (hb hby at_249) (by decide) (by decide) (by decide) ⟨rfl, Fr.app (Fr.nil n0) N1⟩
        · skip
          refine Wk.iconst X1 hx (3 : Int32) (hb hby at_198) rfl rfl ?_
          refine Wk.istore (l' := #[.val (.int i0), .val (.int y), .val (.ref a), .val (.int u2), .val (.int u3), .val (.int u4), .val (.int u5), .val (.int u8), .val (.int u9), .val (.int u13), .val (.int u16), .val (.int u19), .val (.int u26), .val (.int (3 : Int32)), .unset, .val (.int u47)]) X1 hx (hb hby at_199) rfl rfl ?_
          refine Wk.iload X1 hx (hb hby at_201) rfl rfl ?_
          refine Wk.istore (l' := #[.val (.int i0), .val (.int y), .val (.ref a), .val (.int u2), .val (.int u3), .val (.int u4), .val (.int u5), .val (.int u8), .val (.int u9), .val (.int u13), .val (.int u16), .val (.int u19), .val (.int u26), .val (.int (3 : Int32)), .val (.int u47), .val (.int u47)]) X1 hx (hb hby at_203) rfl rfl ?_
          refine Wk.goto X1 hx 218 (hb hby at_205) rfl ?_
          have hf : mo.toInt = 3 ∧ dd.toInt = u47.toInt := by
            first
            | (have hD := l1 ⟨by omega, by omega⟩; clear l1 l2 l3; omega)
            | (have hD := l2 ⟨by omega, by omega, by omega⟩; clear l1 l2 l3; omega)
            | (have hD := l3 (by omega) (by omega); clear l1 l2 l3; omega)
          refine Wk.aloadN X1 hx (hb hby at_218) rfl rfl rfl ?_
          refine Wk.callVP (W := 0) X1 hx hZ (argsL := []) (rest := []) hown (hw _ (List.mem_of_getElem? (i := 81) rfl)) (hw _ (List.mem_of_getElem? (i := 82) rfl)) (hw _ (List.mem_of_getElem? (i := 84) rfl)) (hw _ (List.mem_of_getElem? (i := 83) rfl)) (hw _ (List.mem_of_getElem? (i := 8) rfl)) (hw _ (List.mem_of_getElem? (i := 85) rfl)) (notFace_of_selects (args := #[]) (mvT hZ (hw _ (List.mem_of_getElem? (i := 84) rfl)))) (by decide) (mgy l Z a0 hw a y T1.heap Fy1) rfl A1 (by decide) (by decide) (by decide) (by decide) (by rw [hml]; rfl) (lenOf pd14 rfl) rfl (Nat.le_of_eq rfl) (hb hby at_219) rfl (fun T56 X56 e56 => ?_)
          refine Wk.iloadN X56 hx (hb hby at_222) rfl rfl ?_
          refine Wk.icmp_ne X56 hx 248 226 (hb hby at_223) rfl rfl (show (y : Int32).toInt = (y).toInt from rfl) (show (y : Int32).toInt = (y).toInt from rfl) (fun h57 => absurd h57 (by omega)) (fun h57 => ?_)
          refine Wk.aloadN X56 hx (hb hby at_226) rfl rfl rfl ?_
          refine Wk.callVP (W := 0) X56 hx hZ (argsL := []) (rest := []) hown (hw _ (List.mem_of_getElem? (i := 86) rfl)) (hw _ (List.mem_of_getElem? (i := 87) rfl)) (hw _ (List.mem_of_getElem? (i := 89) rfl)) (hw _ (List.mem_of_getElem? (i := 88) rfl)) (hw _ (List.mem_of_getElem? (i := 8) rfl)) (hw _ (List.mem_of_getElem? (i := 90) rfl)) (notFace_of_selects (args := #[]) (mvT hZ (hw _ (List.mem_of_getElem? (i := 89) rfl)))) (by decide) (mgm l Z a0 hw a mo T1.heap Fm1) e56 A1 (by decide) (by decide) (by decide) (by decide) (by rw [hml]; rfl) (lenOf pd15 rfl) rfl (Nat.le_of_eq rfl) (hb hby at_227) rfl (fun T58 X58 e58 => ?_)
          refine Wk.iload X58 hx (hb hby at_230) rfl rfl ?_
          refine Wk.icmp_ne X58 hx 248 235 (hb hby at_232) rfl rfl (show (mo : Int32).toInt = (mo).toInt from rfl) (show ((3 : Int32) : Int32).toInt = 3 from (by decide)) (fun h59 => absurd h59 (by omega)) (fun h59 => ?_)
          refine Wk.aloadN X58 hx (hb hby at_235) rfl rfl rfl ?_
          refine Wk.callVP (W := 0) X58 hx hZ (argsL := []) (rest := []) hown (hw _ (List.mem_of_getElem? (i := 91) rfl)) (hw _ (List.mem_of_getElem? (i := 92) rfl)) (hw _ (List.mem_of_getElem? (i := 94) rfl)) (hw _ (List.mem_of_getElem? (i := 93) rfl)) (hw _ (List.mem_of_getElem? (i := 8) rfl)) (hw _ (List.mem_of_getElem? (i := 95) rfl)) (notFace_of_selects (args := #[]) (mvT hZ (hw _ (List.mem_of_getElem? (i := 94) rfl)))) (by decide) (mgd l Z a0 hw a dd T1.heap Fd1) e58 A1 (by decide) (by decide) (by decide) (by decide) (by rw [hml]; rfl) (lenOf pd16 rfl) rfl (Nat.le_of_eq rfl) (hb hby at_236) rfl (fun T60 X60 e60 => ?_)
          refine Wk.iload X60 hx (hb hby at_239) rfl rfl ?_
          refine Wk.icmp_ne X60 hx 248 244 (hb hby at_241) rfl rfl (show (dd : Int32).toInt = (dd).toInt from rfl) (show (u47 : Int32).toInt = u47.toInt from rfl) (fun h61 => absurd h61 (by omega)) (fun h61 => ?_)
          refine Wk.iconst X60 hx (1 : Int32) (hb hby at_244) rfl rfl ?_
          refine Wk.goto X60 hx 249 (hb hby at_245) rfl ?_
          exact Wk.retZ X60 hx hlk hret (hb hby at_249) (by decide) (by decide) (by decide) ⟨rfl, Fr.app (Fr.nil n0) N1⟩
      · skip
        refine Wk.bipush X1 hx (11 : Int32) (hb hby at_155) rfl rfl ?_
        refine Wk.iload X1 hx (hb hby at_157) rfl rfl ?_
        refine Wk.imul X1 hx (hb hby at_159) rfl ?_
        have t62 : ((11 : Int32) * u13).toInt = 11 * u13.toInt := Wk.t_mul (show ((11 : Int32) : Int32).toInt = 11 from (by decide)) (show (u13 : Int32).toInt = u13.toInt from rfl) (by omega) (by omega)
        generalize (11 : Int32) * u13 = u62 at t62 ⊢
        refine Wk.bipush X1 hx (11 : Int32) (hb hby at_160) rfl rfl ?_
        refine Wk.iadd X1 hx (hb hby at_162) rfl ?_
        have t63 : (u62 + (11 : Int32)).toInt = u62.toInt + 11 := Wk.t_add (show (u62 : Int32).toInt = u62.toInt from rfl) (show ((11 : Int32) : Int32).toInt = 11 from (by decide)) (by omega) (by omega)
        generalize u62 + (11 : Int32) = u63 at t63 ⊢
        refine Wk.bipush X1 hx (30 : Int32) (hb hby at_163) rfl rfl ?_
        refine Wk.irem X1 hx (hb hby at_165) (by decide) rfl ?_
        have t64 : (u63 % (30 : Int32)).toInt = u63.toInt % 30 := Wk.t_rem (show (u63 : Int32).toInt = u63.toInt from rfl) (show ((30 : Int32) : Int32).toInt = 30 from (by decide)) (by omega)
        generalize u63 % (30 : Int32) = u64 at t64 ⊢
        refine Wk.bipush X1 hx (19 : Int32) (hb hby at_166) rfl rfl ?_
        refine Wk.icmp_ge X1 hx 181 171 (hb hby at_168) rfl rfl (show (u64 : Int32).toInt = u64.toInt from rfl) (show ((19 : Int32) : Int32).toInt = 19 from (by decide)) (fun h65 => ?_) (fun h65 => ?_)
        · skip
          refine Wk.bipush X1 hx (22 : Int32) (hb hby at_181) rfl rfl ?_
          refine Wk.iload X1 hx (hb hby at_183) rfl rfl ?_
          refine Wk.iadd X1 hx (hb hby at_185) rfl ?_
          have t66 : ((22 : Int32) + u19).toInt = 22 + u19.toInt := Wk.t_add (show ((22 : Int32) : Int32).toInt = 22 from (by decide)) (show (u19 : Int32).toInt = u19.toInt from rfl) (by omega) (by omega)
          generalize (22 : Int32) + u19 = u66 at t66 ⊢
          refine Wk.iload X1 hx (hb hby at_186) rfl rfl ?_
          refine Wk.iadd X1 hx (hb hby at_188) rfl ?_
          have t67 : (u66 + u26).toInt = u66.toInt + u26.toInt := Wk.t_add (show (u66 : Int32).toInt = u66.toInt from rfl) (show (u26 : Int32).toInt = u26.toInt from rfl) (by omega) (by omega)
          generalize u66 + u26 = u67 at t67 ⊢
          refine Wk.istore (l' := #[.val (.int i0), .val (.int y), .val (.ref a), .val (.int u2), .val (.int u3), .val (.int u4), .val (.int u5), .val (.int u8), .val (.int u9), .val (.int u13), .val (.int u16), .val (.int u19), .val (.int u26), .unset, .unset, .val (.int u67)]) X1 hx (hb hby at_189) rfl rfl ?_
          refine Wk.iload X1 hx (hb hby at_191) rfl rfl ?_
          refine Wk.bipush X1 hx (31 : Int32) (hb hby at_193) rfl rfl ?_
          refine Wk.icmp_gt X1 hx 208 198 (hb hby at_195) rfl rfl (show (u67 : Int32).toInt = u67.toInt from rfl) (show ((31 : Int32) : Int32).toInt = 31 from (by decide)) (fun h68 => ?_) (fun h68 => ?_)
          · skip
            refine Wk.iconst X1 hx (4 : Int32) (hb hby at_208) rfl rfl ?_
            refine Wk.istore (l' := #[.val (.int i0), .val (.int y), .val (.ref a), .val (.int u2), .val (.int u3), .val (.int u4), .val (.int u5), .val (.int u8), .val (.int u9), .val (.int u13), .val (.int u16), .val (.int u19), .val (.int u26), .val (.int (4 : Int32)), .unset, .val (.int u67)]) X1 hx (hb hby at_209) rfl rfl ?_
            refine Wk.iload X1 hx (hb hby at_211) rfl rfl ?_
            refine Wk.bipush X1 hx (31 : Int32) (hb hby at_213) rfl rfl ?_
            refine Wk.isub X1 hx (hb hby at_215) rfl ?_
            have t69 : (u67 - (31 : Int32)).toInt = u67.toInt - 31 := Wk.t_sub (show (u67 : Int32).toInt = u67.toInt from rfl) (show ((31 : Int32) : Int32).toInt = 31 from (by decide)) (by omega) (by omega)
            generalize u67 - (31 : Int32) = u69 at t69 ⊢
            refine Wk.istore (l' := #[.val (.int i0), .val (.int y), .val (.ref a), .val (.int u2), .val (.int u3), .val (.int u4), .val (.int u5), .val (.int u8), .val (.int u9), .val (.int u13), .val (.int u16), .val (.int u19), .val (.int u26), .val (.int (4 : Int32)), .val (.int u69), .val (.int u67)]) X1 hx (hb hby at_216) rfl rfl ?_
            have eM : (11 * u13.toInt + 11) % 30 = u64.toInt := by simp only [t62, t63, t64]
            rw [eM] at l2 l3
            clear eM t62 t63 t64
            have hf : mo.toInt = 4 ∧ dd.toInt = u69.toInt := by
              first
              | (have hD := l1 ⟨by omega, by omega⟩; clear l1 l2 l3; omega)
              | (have hD := l2 ⟨by omega, by omega, by omega⟩; clear l1 l2 l3; omega)
              | (have hD := l3 (by omega) (by omega); clear l1 l2 l3; omega)
            refine Wk.aloadN X1 hx (hb hby at_218) rfl rfl rfl ?_
            refine Wk.callVP (W := 0) X1 hx hZ (argsL := []) (rest := []) hown (hw _ (List.mem_of_getElem? (i := 81) rfl)) (hw _ (List.mem_of_getElem? (i := 82) rfl)) (hw _ (List.mem_of_getElem? (i := 84) rfl)) (hw _ (List.mem_of_getElem? (i := 83) rfl)) (hw _ (List.mem_of_getElem? (i := 8) rfl)) (hw _ (List.mem_of_getElem? (i := 85) rfl)) (notFace_of_selects (args := #[]) (mvT hZ (hw _ (List.mem_of_getElem? (i := 84) rfl)))) (by decide) (mgy l Z a0 hw a y T1.heap Fy1) rfl A1 (by decide) (by decide) (by decide) (by decide) (by rw [hml]; rfl) (lenOf pd14 rfl) rfl (Nat.le_of_eq rfl) (hb hby at_219) rfl (fun T70 X70 e70 => ?_)
            refine Wk.iloadN X70 hx (hb hby at_222) rfl rfl ?_
            refine Wk.icmp_ne X70 hx 248 226 (hb hby at_223) rfl rfl (show (y : Int32).toInt = (y).toInt from rfl) (show (y : Int32).toInt = (y).toInt from rfl) (fun h71 => absurd h71 (by omega)) (fun h71 => ?_)
            refine Wk.aloadN X70 hx (hb hby at_226) rfl rfl rfl ?_
            refine Wk.callVP (W := 0) X70 hx hZ (argsL := []) (rest := []) hown (hw _ (List.mem_of_getElem? (i := 86) rfl)) (hw _ (List.mem_of_getElem? (i := 87) rfl)) (hw _ (List.mem_of_getElem? (i := 89) rfl)) (hw _ (List.mem_of_getElem? (i := 88) rfl)) (hw _ (List.mem_of_getElem? (i := 8) rfl)) (hw _ (List.mem_of_getElem? (i := 90) rfl)) (notFace_of_selects (args := #[]) (mvT hZ (hw _ (List.mem_of_getElem? (i := 89) rfl)))) (by decide) (mgm l Z a0 hw a mo T1.heap Fm1) e70 A1 (by decide) (by decide) (by decide) (by decide) (by rw [hml]; rfl) (lenOf pd15 rfl) rfl (Nat.le_of_eq rfl) (hb hby at_227) rfl (fun T72 X72 e72 => ?_)
            refine Wk.iload X72 hx (hb hby at_230) rfl rfl ?_
            refine Wk.icmp_ne X72 hx 248 235 (hb hby at_232) rfl rfl (show (mo : Int32).toInt = (mo).toInt from rfl) (show ((4 : Int32) : Int32).toInt = 4 from (by decide)) (fun h73 => absurd h73 (by omega)) (fun h73 => ?_)
            refine Wk.aloadN X72 hx (hb hby at_235) rfl rfl rfl ?_
            refine Wk.callVP (W := 0) X72 hx hZ (argsL := []) (rest := []) hown (hw _ (List.mem_of_getElem? (i := 91) rfl)) (hw _ (List.mem_of_getElem? (i := 92) rfl)) (hw _ (List.mem_of_getElem? (i := 94) rfl)) (hw _ (List.mem_of_getElem? (i := 93) rfl)) (hw _ (List.mem_of_getElem? (i := 8) rfl)) (hw _ (List.mem_of_getElem? (i := 95) rfl)) (notFace_of_selects (args := #[]) (mvT hZ (hw _ (List.mem_of_getElem? (i := 94) rfl)))) (by decide) (mgd l Z a0 hw a dd T1.heap Fd1) e72 A1 (by decide) (by decide) (by decide) (by decide) (by rw [hml]; rfl) (lenOf pd16 rfl) rfl (Nat.le_of_eq rfl) (hb hby at_236) rfl (fun T74 X74 e74 => ?_)
            refine Wk.iload X74 hx (hb hby at_239) rfl rfl ?_
            refine Wk.icmp_ne X74 hx 248 244 (hb hby at_241) rfl rfl (show (dd : Int32).toInt = (dd).toInt from rfl) (show (u69 : Int32).toInt = u69.toInt from rfl) (fun h75 => absurd h75 (by omega)) (fun h75 => ?_)
            refine Wk.iconst X74 hx (1 : Int32) (hb hby at_244) rfl rfl ?_
            refine Wk.goto X74 hx 249 (hb hby at_245) rfl ?_
            exact Wk.retZ X74 hx hlk hret (hb hby at_249) (by decide) (by decide) (by decide) ⟨rfl, Fr.app (Fr.nil n0) N1⟩
          · skip
            refine Wk.iconst X1 hx (3 : Int32) (hb hby at_198) rfl rfl ?_
            refine Wk.istore (l' := #[.val (.int i0), .val (.int y), .val (.ref a), .val (.int u2), .val (.int u3), .val (.int u4), .val (.int u5), .val (.int u8), .val (.int u9), .val (.int u13), .val (.int u16), .val (.int u19), .val (.int u26), .val (.int (3 : Int32)), .unset, .val (.int u67)]) X1 hx (hb hby at_199) rfl rfl ?_
            refine Wk.iload X1 hx (hb hby at_201) rfl rfl ?_
            refine Wk.istore (l' := #[.val (.int i0), .val (.int y), .val (.ref a), .val (.int u2), .val (.int u3), .val (.int u4), .val (.int u5), .val (.int u8), .val (.int u9), .val (.int u13), .val (.int u16), .val (.int u19), .val (.int u26), .val (.int (3 : Int32)), .val (.int u67), .val (.int u67)]) X1 hx (hb hby at_203) rfl rfl ?_
            refine Wk.goto X1 hx 218 (hb hby at_205) rfl ?_
            have eM : (11 * u13.toInt + 11) % 30 = u64.toInt := by simp only [t62, t63, t64]
            rw [eM] at l2 l3
            clear eM t62 t63 t64
            have hf : mo.toInt = 3 ∧ dd.toInt = u67.toInt := by
              first
              | (have hD := l1 ⟨by omega, by omega⟩; clear l1 l2 l3; omega)
              | (have hD := l2 ⟨by omega, by omega, by omega⟩; clear l1 l2 l3; omega)
              | (have hD := l3 (by omega) (by omega); clear l1 l2 l3; omega)
            refine Wk.aloadN X1 hx (hb hby at_218) rfl rfl rfl ?_
            refine Wk.callVP (W := 0) X1 hx hZ (argsL := []) (rest := []) hown (hw _ (List.mem_of_getElem? (i := 81) rfl)) (hw _ (List.mem_of_getElem? (i := 82) rfl)) (hw _ (List.mem_of_getElem? (i := 84) rfl)) (hw _ (List.mem_of_getElem? (i := 83) rfl)) (hw _ (List.mem_of_getElem? (i := 8) rfl)) (hw _ (List.mem_of_getElem? (i := 85) rfl)) (notFace_of_selects (args := #[]) (mvT hZ (hw _ (List.mem_of_getElem? (i := 84) rfl)))) (by decide) (mgy l Z a0 hw a y T1.heap Fy1) rfl A1 (by decide) (by decide) (by decide) (by decide) (by rw [hml]; rfl) (lenOf pd14 rfl) rfl (Nat.le_of_eq rfl) (hb hby at_219) rfl (fun T76 X76 e76 => ?_)
            refine Wk.iloadN X76 hx (hb hby at_222) rfl rfl ?_
            refine Wk.icmp_ne X76 hx 248 226 (hb hby at_223) rfl rfl (show (y : Int32).toInt = (y).toInt from rfl) (show (y : Int32).toInt = (y).toInt from rfl) (fun h77 => absurd h77 (by omega)) (fun h77 => ?_)
            refine Wk.aloadN X76 hx (hb hby at_226) rfl rfl rfl ?_
            refine Wk.callVP (W := 0) X76 hx hZ (argsL := []) (rest := []) hown (hw _ (List.mem_of_getElem? (i := 86) rfl)) (hw _ (List.mem_of_getElem? (i := 87) rfl)) (hw _ (List.mem_of_getElem? (i := 89) rfl)) (hw _ (List.mem_of_getElem? (i := 88) rfl)) (hw _ (List.mem_of_getElem? (i := 8) rfl)) (hw _ (List.mem_of_getElem? (i := 90) rfl)) (notFace_of_selects (args := #[]) (mvT hZ (hw _ (List.mem_of_getElem? (i := 89) rfl)))) (by decide) (mgm l Z a0 hw a mo T1.heap Fm1) e76 A1 (by decide) (by decide) (by decide) (by decide) (by rw [hml]; rfl) (lenOf pd15 rfl) rfl (Nat.le_of_eq rfl) (hb hby at_227) rfl (fun T78 X78 e78 => ?_)
            refine Wk.iload X78 hx (hb hby at_230) rfl rfl ?_
            refine Wk.icmp_ne X78 hx 248 235 (hb hby at_232) rfl rfl (show (mo : Int32).toInt = (mo).toInt from rfl) (show ((3 : Int32) : Int32).toInt = 3 from (by decide)) (fun h79 => absurd h79 (by omega)) (fun h79 => ?_)
            refine Wk.aloadN X78 hx (hb hby at_235) rfl rfl rfl ?_
            refine Wk.callVP (W := 0) X78 hx hZ (argsL := []) (rest := []) hown (hw _ (List.mem_of_getElem? (i := 91) rfl)) (hw _ (List.mem_of_getElem? (i := 92) rfl)) (hw _ (List.mem_of_getElem? (i := 94) rfl)) (hw _ (List.mem_of_getElem? (i := 93) rfl)) (hw _ (List.mem_of_getElem? (i := 8) rfl)) (hw _ (List.mem_of_getElem? (i := 95) rfl)) (notFace_of_selects (args := #[]) (mvT hZ (hw _ (List.mem_of_getElem? (i := 94) rfl)))) (by decide) (mgd l Z a0 hw a dd T1.heap Fd1) e78 A1 (by decide) (by decide) (by decide) (by decide) (by rw [hml]; rfl) (lenOf pd16 rfl) rfl (Nat.le_of_eq rfl) (hb hby at_236) rfl (fun T80 X80 e80 => ?_)
            refine Wk.iload X80 hx (hb hby at_239) rfl rfl ?_
            refine Wk.icmp_ne X80 hx 248 244 (hb hby at_241) rfl rfl (show (dd : Int32).toInt = (dd).toInt from rfl) (show (u67 : Int32).toInt = u67.toInt from rfl) (fun h81 => absurd h81 (by omega)) (fun h81 => ?_)
            refine Wk.iconst X80 hx (1 : Int32) (hb hby at_244) rfl rfl ?_
            refine Wk.goto X80 hx 249 (hb hby at_245) rfl ?_
            exact Wk.retZ X80 hx hlk hret (hb hby at_249) (by decide) (by decide) (by decide) ⟨rfl, Fr.app (Fr.nil n0) N1⟩
        · skip
          refine Wk.iconst X1 hx (4 : Int32) (hb hby at_171) rfl rfl ?_
          refine Wk.istore (l' := #[.val (.int i0), .val (.int y), .val (.ref a), .val (.int u2), .val (.int u3), .val (.int u4), .val (.int u5), .val (.int u8), .val (.int u9), .val (.int u13), .val (.int u16), .val (.int u19), .val (.int u26), .val (.int (4 : Int32)), .unset, .unset]) X1 hx (hb hby at_172) rfl rfl ?_
          refine Wk.bipush X1 hx (18 : Int32) (hb hby at_174) rfl rfl ?_
          refine Wk.istore (l' := #[.val (.int i0), .val (.int y), .val (.ref a), .val (.int u2), .val (.int u3), .val (.int u4), .val (.int u5), .val (.int u8), .val (.int u9), .val (.int u13), .val (.int u16), .val (.int u19), .val (.int u26), .val (.int (4 : Int32)), .val (.int (18 : Int32)), .unset]) X1 hx (hb hby at_176) rfl rfl ?_
          refine Wk.goto X1 hx 218 (hb hby at_178) rfl ?_
          have eM : (11 * u13.toInt + 11) % 30 = u64.toInt := by simp only [t62, t63, t64]
          rw [eM] at l2 l3
          clear eM t62 t63 t64
          have hf : mo.toInt = 4 ∧ dd.toInt = 18 := by
            first
            | (have hD := l1 ⟨by omega, by omega⟩; clear l1 l2 l3; omega)
            | (have hD := l2 ⟨by omega, by omega, by omega⟩; clear l1 l2 l3; omega)
            | (have hD := l3 (by omega) (by omega); clear l1 l2 l3; omega)
          refine Wk.aloadN X1 hx (hb hby at_218) rfl rfl rfl ?_
          refine Wk.callVP (W := 0) X1 hx hZ (argsL := []) (rest := []) hown (hw _ (List.mem_of_getElem? (i := 81) rfl)) (hw _ (List.mem_of_getElem? (i := 82) rfl)) (hw _ (List.mem_of_getElem? (i := 84) rfl)) (hw _ (List.mem_of_getElem? (i := 83) rfl)) (hw _ (List.mem_of_getElem? (i := 8) rfl)) (hw _ (List.mem_of_getElem? (i := 85) rfl)) (notFace_of_selects (args := #[]) (mvT hZ (hw _ (List.mem_of_getElem? (i := 84) rfl)))) (by decide) (mgy l Z a0 hw a y T1.heap Fy1) rfl A1 (by decide) (by decide) (by decide) (by decide) (by rw [hml]; rfl) (lenOf pd14 rfl) rfl (Nat.le_of_eq rfl) (hb hby at_219) rfl (fun T82 X82 e82 => ?_)
          refine Wk.iloadN X82 hx (hb hby at_222) rfl rfl ?_
          refine Wk.icmp_ne X82 hx 248 226 (hb hby at_223) rfl rfl (show (y : Int32).toInt = (y).toInt from rfl) (show (y : Int32).toInt = (y).toInt from rfl) (fun h83 => absurd h83 (by omega)) (fun h83 => ?_)
          refine Wk.aloadN X82 hx (hb hby at_226) rfl rfl rfl ?_
          refine Wk.callVP (W := 0) X82 hx hZ (argsL := []) (rest := []) hown (hw _ (List.mem_of_getElem? (i := 86) rfl)) (hw _ (List.mem_of_getElem? (i := 87) rfl)) (hw _ (List.mem_of_getElem? (i := 89) rfl)) (hw _ (List.mem_of_getElem? (i := 88) rfl)) (hw _ (List.mem_of_getElem? (i := 8) rfl)) (hw _ (List.mem_of_getElem? (i := 90) rfl)) (notFace_of_selects (args := #[]) (mvT hZ (hw _ (List.mem_of_getElem? (i := 89) rfl)))) (by decide) (mgm l Z a0 hw a mo T1.heap Fm1) e82 A1 (by decide) (by decide) (by decide) (by decide) (by rw [hml]; rfl) (lenOf pd15 rfl) rfl (Nat.le_of_eq rfl) (hb hby at_227) rfl (fun T84 X84 e84 => ?_)
          refine Wk.iload X84 hx (hb hby at_230) rfl rfl ?_
          refine Wk.icmp_ne X84 hx 248 235 (hb hby at_232) rfl rfl (show (mo : Int32).toInt = (mo).toInt from rfl) (show ((4 : Int32) : Int32).toInt = 4 from (by decide)) (fun h85 => absurd h85 (by omega)) (fun h85 => ?_)
          refine Wk.aloadN X84 hx (hb hby at_235) rfl rfl rfl ?_
          refine Wk.callVP (W := 0) X84 hx hZ (argsL := []) (rest := []) hown (hw _ (List.mem_of_getElem? (i := 91) rfl)) (hw _ (List.mem_of_getElem? (i := 92) rfl)) (hw _ (List.mem_of_getElem? (i := 94) rfl)) (hw _ (List.mem_of_getElem? (i := 93) rfl)) (hw _ (List.mem_of_getElem? (i := 8) rfl)) (hw _ (List.mem_of_getElem? (i := 95) rfl)) (notFace_of_selects (args := #[]) (mvT hZ (hw _ (List.mem_of_getElem? (i := 94) rfl)))) (by decide) (mgd l Z a0 hw a dd T1.heap Fd1) e84 A1 (by decide) (by decide) (by decide) (by decide) (by rw [hml]; rfl) (lenOf pd16 rfl) rfl (Nat.le_of_eq rfl) (hb hby at_236) rfl (fun T86 X86 e86 => ?_)
          refine Wk.iload X86 hx (hb hby at_239) rfl rfl ?_
          refine Wk.icmp_ne X86 hx 248 244 (hb hby at_241) rfl rfl (show (dd : Int32).toInt = (dd).toInt from rfl) (show ((18 : Int32) : Int32).toInt = 18 from (by decide)) (fun h87 => absurd h87 (by omega)) (fun h87 => ?_)
          refine Wk.iconst X86 hx (1 : Int32) (hb hby at_244) rfl rfl ?_
          refine Wk.goto X86 hx 249 (hb hby at_245) rfl ?_
          exact Wk.retZ X86 hx hlk hret (hb hby at_249) (by decide) (by decide) (by decide) ⟨rfl, Fr.app (Fr.nil n0) N1⟩
  · skip
    refine Wk.iload X1 hx (hb hby at_124) rfl rfl ?_
    refine Wk.bipush X1 hx (6 : Int32) (hb hby at_126) rfl rfl ?_
    refine Wk.icmp_ne X1 hx 141 131 (hb hby at_128) rfl rfl (show (u26 : Int32).toInt = u26.toInt from rfl) (show ((6 : Int32) : Int32).toInt = 6 from (by decide)) (fun h88 => ?_) (fun h88 => ?_)
    · skip
      refine Wk.iload X1 hx (hb hby at_141) rfl rfl ?_
      refine Wk.bipush X1 hx (28 : Int32) (hb hby at_143) rfl rfl ?_
      refine Wk.icmp_ne X1 hx 181 148 (hb hby at_145) rfl rfl (show (u19 : Int32).toInt = u19.toInt from rfl) (show ((28 : Int32) : Int32).toInt = 28 from (by decide)) (fun h89 => ?_) (fun h89 => ?_)
      · skip
        refine Wk.bipush X1 hx (22 : Int32) (hb hby at_181) rfl rfl ?_
        refine Wk.iload X1 hx (hb hby at_183) rfl rfl ?_
        refine Wk.iadd X1 hx (hb hby at_185) rfl ?_
        have t90 : ((22 : Int32) + u19).toInt = 22 + u19.toInt := Wk.t_add (show ((22 : Int32) : Int32).toInt = 22 from (by decide)) (show (u19 : Int32).toInt = u19.toInt from rfl) (by omega) (by omega)
        generalize (22 : Int32) + u19 = u90 at t90 ⊢
        refine Wk.iload X1 hx (hb hby at_186) rfl rfl ?_
        refine Wk.iadd X1 hx (hb hby at_188) rfl ?_
        have t91 : (u90 + u26).toInt = u90.toInt + u26.toInt := Wk.t_add (show (u90 : Int32).toInt = u90.toInt from rfl) (show (u26 : Int32).toInt = u26.toInt from rfl) (by omega) (by omega)
        generalize u90 + u26 = u91 at t91 ⊢
        refine Wk.istore (l' := #[.val (.int i0), .val (.int y), .val (.ref a), .val (.int u2), .val (.int u3), .val (.int u4), .val (.int u5), .val (.int u8), .val (.int u9), .val (.int u13), .val (.int u16), .val (.int u19), .val (.int u26), .unset, .unset, .val (.int u91)]) X1 hx (hb hby at_189) rfl rfl ?_
        refine Wk.iload X1 hx (hb hby at_191) rfl rfl ?_
        refine Wk.bipush X1 hx (31 : Int32) (hb hby at_193) rfl rfl ?_
        refine Wk.icmp_gt X1 hx 208 198 (hb hby at_195) rfl rfl (show (u91 : Int32).toInt = u91.toInt from rfl) (show ((31 : Int32) : Int32).toInt = 31 from (by decide)) (fun h92 => ?_) (fun h92 => ?_)
        · skip
          refine Wk.iconst X1 hx (4 : Int32) (hb hby at_208) rfl rfl ?_
          refine Wk.istore (l' := #[.val (.int i0), .val (.int y), .val (.ref a), .val (.int u2), .val (.int u3), .val (.int u4), .val (.int u5), .val (.int u8), .val (.int u9), .val (.int u13), .val (.int u16), .val (.int u19), .val (.int u26), .val (.int (4 : Int32)), .unset, .val (.int u91)]) X1 hx (hb hby at_209) rfl rfl ?_
          refine Wk.iload X1 hx (hb hby at_211) rfl rfl ?_
          refine Wk.bipush X1 hx (31 : Int32) (hb hby at_213) rfl rfl ?_
          refine Wk.isub X1 hx (hb hby at_215) rfl ?_
          have t93 : (u91 - (31 : Int32)).toInt = u91.toInt - 31 := Wk.t_sub (show (u91 : Int32).toInt = u91.toInt from rfl) (show ((31 : Int32) : Int32).toInt = 31 from (by decide)) (by omega) (by omega)
          generalize u91 - (31 : Int32) = u93 at t93 ⊢
          refine Wk.istore (l' := #[.val (.int i0), .val (.int y), .val (.ref a), .val (.int u2), .val (.int u3), .val (.int u4), .val (.int u5), .val (.int u8), .val (.int u9), .val (.int u13), .val (.int u16), .val (.int u19), .val (.int u26), .val (.int (4 : Int32)), .val (.int u93), .val (.int u91)]) X1 hx (hb hby at_216) rfl rfl ?_
          have hf : mo.toInt = 4 ∧ dd.toInt = u93.toInt := by
            first
            | (have hD := l1 ⟨by omega, by omega⟩; clear l1 l2 l3; omega)
            | (have hD := l2 ⟨by omega, by omega, by omega⟩; clear l1 l2 l3; omega)
            | (have hD := l3 (by omega) (by omega); clear l1 l2 l3; omega)
          refine Wk.aloadN X1 hx (hb hby at_218) rfl rfl rfl ?_
          refine Wk.callVP (W := 0) X1 hx hZ (argsL := []) (rest := []) hown (hw _ (List.mem_of_getElem? (i := 81) rfl)) (hw _ (List.mem_of_getElem? (i := 82) rfl)) (hw _ (List.mem_of_getElem? (i := 84) rfl)) (hw _ (List.mem_of_getElem? (i := 83) rfl)) (hw _ (List.mem_of_getElem? (i := 8) rfl)) (hw _ (List.mem_of_getElem? (i := 85) rfl)) (notFace_of_selects (args := #[]) (mvT hZ (hw _ (List.mem_of_getElem? (i := 84) rfl)))) (by decide) (mgy l Z a0 hw a y T1.heap Fy1) rfl A1 (by decide) (by decide) (by decide) (by decide) (by rw [hml]; rfl) (lenOf pd14 rfl) rfl (Nat.le_of_eq rfl) (hb hby at_219) rfl (fun T94 X94 e94 => ?_)
          refine Wk.iloadN X94 hx (hb hby at_222) rfl rfl ?_
          refine Wk.icmp_ne X94 hx 248 226 (hb hby at_223) rfl rfl (show (y : Int32).toInt = (y).toInt from rfl) (show (y : Int32).toInt = (y).toInt from rfl) (fun h95 => absurd h95 (by omega)) (fun h95 => ?_)
          refine Wk.aloadN X94 hx (hb hby at_226) rfl rfl rfl ?_
          refine Wk.callVP (W := 0) X94 hx hZ (argsL := []) (rest := []) hown (hw _ (List.mem_of_getElem? (i := 86) rfl)) (hw _ (List.mem_of_getElem? (i := 87) rfl)) (hw _ (List.mem_of_getElem? (i := 89) rfl)) (hw _ (List.mem_of_getElem? (i := 88) rfl)) (hw _ (List.mem_of_getElem? (i := 8) rfl)) (hw _ (List.mem_of_getElem? (i := 90) rfl)) (notFace_of_selects (args := #[]) (mvT hZ (hw _ (List.mem_of_getElem? (i := 89) rfl)))) (by decide) (mgm l Z a0 hw a mo T1.heap Fm1) e94 A1 (by decide) (by decide) (by decide) (by decide) (by rw [hml]; rfl) (lenOf pd15 rfl) rfl (Nat.le_of_eq rfl) (hb hby at_227) rfl (fun T96 X96 e96 => ?_)
          refine Wk.iload X96 hx (hb hby at_230) rfl rfl ?_
          refine Wk.icmp_ne X96 hx 248 235 (hb hby at_232) rfl rfl (show (mo : Int32).toInt = (mo).toInt from rfl) (show ((4 : Int32) : Int32).toInt = 4 from (by decide)) (fun h97 => absurd h97 (by omega)) (fun h97 => ?_)
          refine Wk.aloadN X96 hx (hb hby at_235) rfl rfl rfl ?_
          refine Wk.callVP (W := 0) X96 hx hZ (argsL := []) (rest := []) hown (hw _ (List.mem_of_getElem? (i := 91) rfl)) (hw _ (List.mem_of_getElem? (i := 92) rfl)) (hw _ (List.mem_of_getElem? (i := 94) rfl)) (hw _ (List.mem_of_getElem? (i := 93) rfl)) (hw _ (List.mem_of_getElem? (i := 8) rfl)) (hw _ (List.mem_of_getElem? (i := 95) rfl)) (notFace_of_selects (args := #[]) (mvT hZ (hw _ (List.mem_of_getElem? (i := 94) rfl)))) (by decide) (mgd l Z a0 hw a dd T1.heap Fd1) e96 A1 (by decide) (by decide) (by decide) (by decide) (by rw [hml]; rfl) (lenOf pd16 rfl) rfl (Nat.le_of_eq rfl) (hb hby at_236) rfl (fun T98 X98 e98 => ?_)
          refine Wk.iload X98 hx (hb hby at_239) rfl rfl ?_
          refine Wk.icmp_ne X98 hx 248 244 (hb hby at_241) rfl rfl (show (dd : Int32).toInt = (dd).toInt from rfl) (show (u93 : Int32).toInt = u93.toInt from rfl) (fun h99 => absurd h99 (by omega)) (fun h99 => ?_)
          refine Wk.iconst X98 hx (1 : Int32) (hb hby at_244) rfl rfl ?_
          refine Wk.goto X98 hx 249 (hb hby at_245) rfl ?_
          exact Wk.retZ X98 hx hlk hret (hb hby at_249) (by decide) (by decide) (by decide) ⟨rfl, Fr.app (Fr.nil n0) N1⟩
        · skip
          refine Wk.iconst X1 hx (3 : Int32) (hb hby at_198) rfl rfl ?_
          refine Wk.istore (l' := #[.val (.int i0), .val (.int y), .val (.ref a), .val (.int u2), .val (.int u3), .val (.int u4), .val (.int u5), .val (.int u8), .val (.int u9), .val (.int u13), .val (.int u16), .val (.int u19), .val (.int u26), .val (.int (3 : Int32)), .unset, .val (.int u91)]) X1 hx (hb hby at_199) rfl rfl ?_
          refine Wk.iload X1 hx (hb hby at_201) rfl rfl ?_
          refine Wk.istore (l' := #[.val (.int i0), .val (.int y), .val (.ref a), .val (.int u2), .val (.int u3), .val (.int u4), .val (.int u5), .val (.int u8), .val (.int u9), .val (.int u13), .val (.int u16), .val (.int u19), .val (.int u26), .val (.int (3 : Int32)), .val (.int u91), .val (.int u91)]) X1 hx (hb hby at_203) rfl rfl ?_
          refine Wk.goto X1 hx 218 (hb hby at_205) rfl ?_
          have hf : mo.toInt = 3 ∧ dd.toInt = u91.toInt := by
            first
            | (have hD := l1 ⟨by omega, by omega⟩; clear l1 l2 l3; omega)
            | (have hD := l2 ⟨by omega, by omega, by omega⟩; clear l1 l2 l3; omega)
            | (have hD := l3 (by omega) (by omega); clear l1 l2 l3; omega)
          refine Wk.aloadN X1 hx (hb hby at_218) rfl rfl rfl ?_
          refine Wk.callVP (W := 0) X1 hx hZ (argsL := []) (rest := []) hown (hw _ (List.mem_of_getElem? (i := 81) rfl)) (hw _ (List.mem_of_getElem? (i := 82) rfl)) (hw _ (List.mem_of_getElem? (i := 84) rfl)) (hw _ (List.mem_of_getElem? (i := 83) rfl)) (hw _ (List.mem_of_getElem? (i := 8) rfl)) (hw _ (List.mem_of_getElem? (i := 85) rfl)) (notFace_of_selects (args := #[]) (mvT hZ (hw _ (List.mem_of_getElem? (i := 84) rfl)))) (by decide) (mgy l Z a0 hw a y T1.heap Fy1) rfl A1 (by decide) (by decide) (by decide) (by decide) (by rw [hml]; rfl) (lenOf pd14 rfl) rfl (Nat.le_of_eq rfl) (hb hby at_219) rfl (fun T100 X100 e100 => ?_)
          refine Wk.iloadN X100 hx (hb hby at_222) rfl rfl ?_
          refine Wk.icmp_ne X100 hx 248 226 (hb hby at_223) rfl rfl (show (y : Int32).toInt = (y).toInt from rfl) (show (y : Int32).toInt = (y).toInt from rfl) (fun h101 => absurd h101 (by omega)) (fun h101 => ?_)
          refine Wk.aloadN X100 hx (hb hby at_226) rfl rfl rfl ?_
          refine Wk.callVP (W := 0) X100 hx hZ (argsL := []) (rest := []) hown (hw _ (List.mem_of_getElem? (i := 86) rfl)) (hw _ (List.mem_of_getElem? (i := 87) rfl)) (hw _ (List.mem_of_getElem? (i := 89) rfl)) (hw _ (List.mem_of_getElem? (i := 88) rfl)) (hw _ (List.mem_of_getElem? (i := 8) rfl)) (hw _ (List.mem_of_getElem? (i := 90) rfl)) (notFace_of_selects (args := #[]) (mvT hZ (hw _ (List.mem_of_getElem? (i := 89) rfl)))) (by decide) (mgm l Z a0 hw a mo T1.heap Fm1) e100 A1 (by decide) (by decide) (by decide) (by decide) (by rw [hml]; rfl) (lenOf pd15 rfl) rfl (Nat.le_of_eq rfl) (hb hby at_227) rfl (fun T102 X102 e102 => ?_)
          refine Wk.iload X102 hx (hb hby at_230) rfl rfl ?_
          refine Wk.icmp_ne X102 hx 248 235 (hb hby at_232) rfl rfl (show (mo : Int32).toInt = (mo).toInt from rfl) (show ((3 : Int32) : Int32).toInt = 3 from (by decide)) (fun h103 => absurd h103 (by omega)) (fun h103 => ?_)
          refine Wk.aloadN X102 hx (hb hby at_235) rfl rfl rfl ?_
          refine Wk.callVP (W := 0) X102 hx hZ (argsL := []) (rest := []) hown (hw _ (List.mem_of_getElem? (i := 91) rfl)) (hw _ (List.mem_of_getElem? (i := 92) rfl)) (hw _ (List.mem_of_getElem? (i := 94) rfl)) (hw _ (List.mem_of_getElem? (i := 93) rfl)) (hw _ (List.mem_of_getElem? (i := 8) rfl)) (hw _ (List.mem_of_getElem? (i := 95) rfl)) (notFace_of_selects (args := #[]) (mvT hZ (hw _ (List.mem_of_getElem? (i := 94) rfl)))) (by decide) (mgd l Z a0 hw a dd T1.heap Fd1) e102 A1 (by decide) (by decide) (by decide) (by decide) (by rw [hml]; rfl) (lenOf pd16 rfl) rfl (Nat.le_of_eq rfl) (hb hby at_236) rfl (fun T104 X104 e104 => ?_)
          refine Wk.iload X104 hx (hb hby at_239) rfl rfl ?_
          refine Wk.icmp_ne X104 hx 248 244 (hb hby at_241) rfl rfl (show (dd : Int32).toInt = (dd).toInt from rfl) (show (u91 : Int32).toInt = u91.toInt from rfl) (fun h105 => absurd h105 (by omega)) (fun h105 => ?_)
          refine Wk.iconst X104 hx (1 : Int32) (hb hby at_244) rfl rfl ?_
          refine Wk.goto X104 hx 249 (hb hby at_245) rfl ?_
          exact Wk.retZ X104 hx hlk hret (hb hby at_249) (by decide) (by decide) (by decide) ⟨rfl, Fr.app (Fr.nil n0) N1⟩
      · skip
        refine Wk.iload X1 hx (hb hby at_148) rfl rfl ?_
        refine Wk.bipush X1 hx (6 : Int32) (hb hby at_150) rfl rfl ?_
        refine Wk.icmp_ne X1 hx 181 155 (hb hby at_152) rfl rfl (show (u26 : Int32).toInt = u26.toInt from rfl) (show ((6 : Int32) : Int32).toInt = 6 from (by decide)) (fun h106 => ?_) (fun h106 => ?_)
        · skip
          refine Wk.bipush X1 hx (22 : Int32) (hb hby at_181) rfl rfl ?_
          refine Wk.iload X1 hx (hb hby at_183) rfl rfl ?_
          refine Wk.iadd X1 hx (hb hby at_185) rfl ?_
          have t107 : ((22 : Int32) + u19).toInt = 22 + u19.toInt := Wk.t_add (show ((22 : Int32) : Int32).toInt = 22 from (by decide)) (show (u19 : Int32).toInt = u19.toInt from rfl) (by omega) (by omega)
          generalize (22 : Int32) + u19 = u107 at t107 ⊢
          refine Wk.iload X1 hx (hb hby at_186) rfl rfl ?_
          refine Wk.iadd X1 hx (hb hby at_188) rfl ?_
          have t108 : (u107 + u26).toInt = u107.toInt + u26.toInt := Wk.t_add (show (u107 : Int32).toInt = u107.toInt from rfl) (show (u26 : Int32).toInt = u26.toInt from rfl) (by omega) (by omega)
          generalize u107 + u26 = u108 at t108 ⊢
          refine Wk.istore (l' := #[.val (.int i0), .val (.int y), .val (.ref a), .val (.int u2), .val (.int u3), .val (.int u4), .val (.int u5), .val (.int u8), .val (.int u9), .val (.int u13), .val (.int u16), .val (.int u19), .val (.int u26), .unset, .unset, .val (.int u108)]) X1 hx (hb hby at_189) rfl rfl ?_
          refine Wk.iload X1 hx (hb hby at_191) rfl rfl ?_
          refine Wk.bipush X1 hx (31 : Int32) (hb hby at_193) rfl rfl ?_
          refine Wk.icmp_gt X1 hx 208 198 (hb hby at_195) rfl rfl (show (u108 : Int32).toInt = u108.toInt from rfl) (show ((31 : Int32) : Int32).toInt = 31 from (by decide)) (fun h109 => ?_) (fun h109 => ?_)
          · skip
            refine Wk.iconst X1 hx (4 : Int32) (hb hby at_208) rfl rfl ?_
            refine Wk.istore (l' := #[.val (.int i0), .val (.int y), .val (.ref a), .val (.int u2), .val (.int u3), .val (.int u4), .val (.int u5), .val (.int u8), .val (.int u9), .val (.int u13), .val (.int u16), .val (.int u19), .val (.int u26), .val (.int (4 : Int32)), .unset, .val (.int u108)]) X1 hx (hb hby at_209) rfl rfl ?_
            refine Wk.iload X1 hx (hb hby at_211) rfl rfl ?_
            refine Wk.bipush X1 hx (31 : Int32) (hb hby at_213) rfl rfl ?_
            refine Wk.isub X1 hx (hb hby at_215) rfl ?_
            have t110 : (u108 - (31 : Int32)).toInt = u108.toInt - 31 := Wk.t_sub (show (u108 : Int32).toInt = u108.toInt from rfl) (show ((31 : Int32) : Int32).toInt = 31 from (by decide)) (by omega) (by omega)
            generalize u108 - (31 : Int32) = u110 at t110 ⊢
            refine Wk.istore (l' := #[.val (.int i0), .val (.int y), .val (.ref a), .val (.int u2), .val (.int u3), .val (.int u4), .val (.int u5), .val (.int u8), .val (.int u9), .val (.int u13), .val (.int u16), .val (.int u19), .val (.int u26), .val (.int (4 : Int32)), .val (.int u110), .val (.int u108)]) X1 hx (hb hby at_216) rfl rfl ?_
            have hf : mo.toInt = 4 ∧ dd.toInt = u110.toInt := by
              first
              | (have hD := l1 ⟨by omega, by omega⟩; clear l1 l2 l3; omega)
              | (have hD := l2 ⟨by omega, by omega, by omega⟩; clear l1 l2 l3; omega)
              | (have hD := l3 (by omega) (by omega); clear l1 l2 l3; omega)
            refine Wk.aloadN X1 hx (hb hby at_218) rfl rfl rfl ?_
            refine Wk.callVP (W := 0) X1 hx hZ (argsL := []) (rest := []) hown (hw _ (List.mem_of_getElem? (i := 81) rfl)) (hw _ (List.mem_of_getElem? (i := 82) rfl)) (hw _ (List.mem_of_getElem? (i := 84) rfl)) (hw _ (List.mem_of_getElem? (i := 83) rfl)) (hw _ (List.mem_of_getElem? (i := 8) rfl)) (hw _ (List.mem_of_getElem? (i := 85) rfl)) (notFace_of_selects (args := #[]) (mvT hZ (hw _ (List.mem_of_getElem? (i := 84) rfl)))) (by decide) (mgy l Z a0 hw a y T1.heap Fy1) rfl A1 (by decide) (by decide) (by decide) (by decide) (by rw [hml]; rfl) (lenOf pd14 rfl) rfl (Nat.le_of_eq rfl) (hb hby at_219) rfl (fun T111 X111 e111 => ?_)
            refine Wk.iloadN X111 hx (hb hby at_222) rfl rfl ?_
            refine Wk.icmp_ne X111 hx 248 226 (hb hby at_223) rfl rfl (show (y : Int32).toInt = (y).toInt from rfl) (show (y : Int32).toInt = (y).toInt from rfl) (fun h112 => absurd h112 (by omega)) (fun h112 => ?_)
            refine Wk.aloadN X111 hx (hb hby at_226) rfl rfl rfl ?_
            refine Wk.callVP (W := 0) X111 hx hZ (argsL := []) (rest := []) hown (hw _ (List.mem_of_getElem? (i := 86) rfl)) (hw _ (List.mem_of_getElem? (i := 87) rfl)) (hw _ (List.mem_of_getElem? (i := 89) rfl)) (hw _ (List.mem_of_getElem? (i := 88) rfl)) (hw _ (List.mem_of_getElem? (i := 8) rfl)) (hw _ (List.mem_of_getElem? (i := 90) rfl)) (notFace_of_selects (args := #[]) (mvT hZ (hw _ (List.mem_of_getElem? (i := 89) rfl)))) (by decide) (mgm l Z a0 hw a mo T1.heap Fm1) e111 A1 (by decide) (by decide) (by decide) (by decide) (by rw [hml]; rfl) (lenOf pd15 rfl) rfl (Nat.le_of_eq rfl) (hb hby at_227) rfl (fun T113 X113 e113 => ?_)
            refine Wk.iload X113 hx (hb hby at_230) rfl rfl ?_
            refine Wk.icmp_ne X113 hx 248 235 (hb hby at_232) rfl rfl (show (mo : Int32).toInt = (mo).toInt from rfl) (show ((4 : Int32) : Int32).toInt = 4 from (by decide)) (fun h114 => absurd h114 (by omega)) (fun h114 => ?_)
            refine Wk.aloadN X113 hx (hb hby at_235) rfl rfl rfl ?_
            refine Wk.callVP (W := 0) X113 hx hZ (argsL := []) (rest := []) hown (hw _ (List.mem_of_getElem? (i := 91) rfl)) (hw _ (List.mem_of_getElem? (i := 92) rfl)) (hw _ (List.mem_of_getElem? (i := 94) rfl)) (hw _ (List.mem_of_getElem? (i := 93) rfl)) (hw _ (List.mem_of_getElem? (i := 8) rfl)) (hw _ (List.mem_of_getElem? (i := 95) rfl)) (notFace_of_selects (args := #[]) (mvT hZ (hw _ (List.mem_of_getElem? (i := 94) rfl)))) (by decide) (mgd l Z a0 hw a dd T1.heap Fd1) e113 A1 (by decide) (by decide) (by decide) (by decide) (by rw [hml]; rfl) (lenOf pd16 rfl) rfl (Nat.le_of_eq rfl) (hb hby at_236) rfl (fun T115 X115 e115 => ?_)
            refine Wk.iload X115 hx (hb hby at_239) rfl rfl ?_
            refine Wk.icmp_ne X115 hx 248 244 (hb hby at_241) rfl rfl (show (dd : Int32).toInt = (dd).toInt from rfl) (show (u110 : Int32).toInt = u110.toInt from rfl) (fun h116 => absurd h116 (by omega)) (fun h116 => ?_)
            refine Wk.iconst X115 hx (1 : Int32) (hb hby at_244) rfl rfl ?_
            refine Wk.goto X115 hx 249 (hb hby at_245) rfl ?_
            exact Wk.retZ X115 hx hlk hret (hb hby at_249) (by decide) (by decide) (by decide) ⟨rfl, Fr.app (Fr.nil n0) N1⟩
          · skip
            refine Wk.iconst X1 hx (3 : Int32) (hb hby at_198) rfl rfl ?_
            refine Wk.istore (l' := #[.val (.int i0), .val (.int y), .val (.ref a), .val (.int u2), .val (.int u3), .val (.int u4), .val (.int u5), .val (.int u8), .val (.int u9), .val (.int u13), .val (.int u16), .val (.int u19), .val (.int u26), .val (.int (3 : Int32)), .unset, .val (.int u108)]) X1 hx (hb hby at_199) rfl rfl ?_
            refine Wk.iload X1 hx (hb hby at_201) rfl rfl ?_
            refine Wk.istore (l' := #[.val (.int i0), .val (.int y), .val (.ref a), .val (.int u2), .val (.int u3), .val (.int u4), .val (.int u5), .val (.int u8), .val (.int u9), .val (.int u13), .val (.int u16), .val (.int u19), .val (.int u26), .val (.int (3 : Int32)), .val (.int u108), .val (.int u108)]) X1 hx (hb hby at_203) rfl rfl ?_
            refine Wk.goto X1 hx 218 (hb hby at_205) rfl ?_
            have hf : mo.toInt = 3 ∧ dd.toInt = u108.toInt := by
              first
              | (have hD := l1 ⟨by omega, by omega⟩; clear l1 l2 l3; omega)
              | (have hD := l2 ⟨by omega, by omega, by omega⟩; clear l1 l2 l3; omega)
              | (have hD := l3 (by omega) (by omega); clear l1 l2 l3; omega)
            refine Wk.aloadN X1 hx (hb hby at_218) rfl rfl rfl ?_
            refine Wk.callVP (W := 0) X1 hx hZ (argsL := []) (rest := []) hown (hw _ (List.mem_of_getElem? (i := 81) rfl)) (hw _ (List.mem_of_getElem? (i := 82) rfl)) (hw _ (List.mem_of_getElem? (i := 84) rfl)) (hw _ (List.mem_of_getElem? (i := 83) rfl)) (hw _ (List.mem_of_getElem? (i := 8) rfl)) (hw _ (List.mem_of_getElem? (i := 85) rfl)) (notFace_of_selects (args := #[]) (mvT hZ (hw _ (List.mem_of_getElem? (i := 84) rfl)))) (by decide) (mgy l Z a0 hw a y T1.heap Fy1) rfl A1 (by decide) (by decide) (by decide) (by decide) (by rw [hml]; rfl) (lenOf pd14 rfl) rfl (Nat.le_of_eq rfl) (hb hby at_219) rfl (fun T117 X117 e117 => ?_)
            refine Wk.iloadN X117 hx (hb hby at_222) rfl rfl ?_
            refine Wk.icmp_ne X117 hx 248 226 (hb hby at_223) rfl rfl (show (y : Int32).toInt = (y).toInt from rfl) (show (y : Int32).toInt = (y).toInt from rfl) (fun h118 => absurd h118 (by omega)) (fun h118 => ?_)
            refine Wk.aloadN X117 hx (hb hby at_226) rfl rfl rfl ?_
            refine Wk.callVP (W := 0) X117 hx hZ (argsL := []) (rest := []) hown (hw _ (List.mem_of_getElem? (i := 86) rfl)) (hw _ (List.mem_of_getElem? (i := 87) rfl)) (hw _ (List.mem_of_getElem? (i := 89) rfl)) (hw _ (List.mem_of_getElem? (i := 88) rfl)) (hw _ (List.mem_of_getElem? (i := 8) rfl)) (hw _ (List.mem_of_getElem? (i := 90) rfl)) (notFace_of_selects (args := #[]) (mvT hZ (hw _ (List.mem_of_getElem? (i := 89) rfl)))) (by decide) (mgm l Z a0 hw a mo T1.heap Fm1) e117 A1 (by decide) (by decide) (by decide) (by decide) (by rw [hml]; rfl) (lenOf pd15 rfl) rfl (Nat.le_of_eq rfl) (hb hby at_227) rfl (fun T119 X119 e119 => ?_)
            refine Wk.iload X119 hx (hb hby at_230) rfl rfl ?_
            refine Wk.icmp_ne X119 hx 248 235 (hb hby at_232) rfl rfl (show (mo : Int32).toInt = (mo).toInt from rfl) (show ((3 : Int32) : Int32).toInt = 3 from (by decide)) (fun h120 => absurd h120 (by omega)) (fun h120 => ?_)
            refine Wk.aloadN X119 hx (hb hby at_235) rfl rfl rfl ?_
            refine Wk.callVP (W := 0) X119 hx hZ (argsL := []) (rest := []) hown (hw _ (List.mem_of_getElem? (i := 91) rfl)) (hw _ (List.mem_of_getElem? (i := 92) rfl)) (hw _ (List.mem_of_getElem? (i := 94) rfl)) (hw _ (List.mem_of_getElem? (i := 93) rfl)) (hw _ (List.mem_of_getElem? (i := 8) rfl)) (hw _ (List.mem_of_getElem? (i := 95) rfl)) (notFace_of_selects (args := #[]) (mvT hZ (hw _ (List.mem_of_getElem? (i := 94) rfl)))) (by decide) (mgd l Z a0 hw a dd T1.heap Fd1) e119 A1 (by decide) (by decide) (by decide) (by decide) (by rw [hml]; rfl) (lenOf pd16 rfl) rfl (Nat.le_of_eq rfl) (hb hby at_236) rfl (fun T121 X121 e121 => ?_)
            refine Wk.iload X121 hx (hb hby at_239) rfl rfl ?_
            refine Wk.icmp_ne X121 hx 248 244 (hb hby at_241) rfl rfl (show (dd : Int32).toInt = (dd).toInt from rfl) (show (u108 : Int32).toInt = u108.toInt from rfl) (fun h122 => absurd h122 (by omega)) (fun h122 => ?_)
            refine Wk.iconst X121 hx (1 : Int32) (hb hby at_244) rfl rfl ?_
            refine Wk.goto X121 hx 249 (hb hby at_245) rfl ?_
            exact Wk.retZ X121 hx hlk hret (hb hby at_249) (by decide) (by decide) (by decide) ⟨rfl, Fr.app (Fr.nil n0) N1⟩
        · skip
          refine Wk.bipush X1 hx (11 : Int32) (hb hby at_155) rfl rfl ?_
          refine Wk.iload X1 hx (hb hby at_157) rfl rfl ?_
          refine Wk.imul X1 hx (hb hby at_159) rfl ?_
          have t123 : ((11 : Int32) * u13).toInt = 11 * u13.toInt := Wk.t_mul (show ((11 : Int32) : Int32).toInt = 11 from (by decide)) (show (u13 : Int32).toInt = u13.toInt from rfl) (by omega) (by omega)
          generalize (11 : Int32) * u13 = u123 at t123 ⊢
          refine Wk.bipush X1 hx (11 : Int32) (hb hby at_160) rfl rfl ?_
          refine Wk.iadd X1 hx (hb hby at_162) rfl ?_
          have t124 : (u123 + (11 : Int32)).toInt = u123.toInt + 11 := Wk.t_add (show (u123 : Int32).toInt = u123.toInt from rfl) (show ((11 : Int32) : Int32).toInt = 11 from (by decide)) (by omega) (by omega)
          generalize u123 + (11 : Int32) = u124 at t124 ⊢
          refine Wk.bipush X1 hx (30 : Int32) (hb hby at_163) rfl rfl ?_
          refine Wk.irem X1 hx (hb hby at_165) (by decide) rfl ?_
          have t125 : (u124 % (30 : Int32)).toInt = u124.toInt % 30 := Wk.t_rem (show (u124 : Int32).toInt = u124.toInt from rfl) (show ((30 : Int32) : Int32).toInt = 30 from (by decide)) (by omega)
          generalize u124 % (30 : Int32) = u125 at t125 ⊢
          refine Wk.bipush X1 hx (19 : Int32) (hb hby at_166) rfl rfl ?_
          refine Wk.icmp_ge X1 hx 181 171 (hb hby at_168) rfl rfl (show (u125 : Int32).toInt = u125.toInt from rfl) (show ((19 : Int32) : Int32).toInt = 19 from (by decide)) (fun h126 => ?_) (fun h126 => ?_)
          · skip
            refine Wk.bipush X1 hx (22 : Int32) (hb hby at_181) rfl rfl ?_
            refine Wk.iload X1 hx (hb hby at_183) rfl rfl ?_
            refine Wk.iadd X1 hx (hb hby at_185) rfl ?_
            have t127 : ((22 : Int32) + u19).toInt = 22 + u19.toInt := Wk.t_add (show ((22 : Int32) : Int32).toInt = 22 from (by decide)) (show (u19 : Int32).toInt = u19.toInt from rfl) (by omega) (by omega)
            generalize (22 : Int32) + u19 = u127 at t127 ⊢
            refine Wk.iload X1 hx (hb hby at_186) rfl rfl ?_
            refine Wk.iadd X1 hx (hb hby at_188) rfl ?_
            have t128 : (u127 + u26).toInt = u127.toInt + u26.toInt := Wk.t_add (show (u127 : Int32).toInt = u127.toInt from rfl) (show (u26 : Int32).toInt = u26.toInt from rfl) (by omega) (by omega)
            generalize u127 + u26 = u128 at t128 ⊢
            refine Wk.istore (l' := #[.val (.int i0), .val (.int y), .val (.ref a), .val (.int u2), .val (.int u3), .val (.int u4), .val (.int u5), .val (.int u8), .val (.int u9), .val (.int u13), .val (.int u16), .val (.int u19), .val (.int u26), .unset, .unset, .val (.int u128)]) X1 hx (hb hby at_189) rfl rfl ?_
            refine Wk.iload X1 hx (hb hby at_191) rfl rfl ?_
            refine Wk.bipush X1 hx (31 : Int32) (hb hby at_193) rfl rfl ?_
            refine Wk.icmp_gt X1 hx 208 198 (hb hby at_195) rfl rfl (show (u128 : Int32).toInt = u128.toInt from rfl) (show ((31 : Int32) : Int32).toInt = 31 from (by decide)) (fun h129 => ?_) (fun h129 => ?_)
            · skip
              refine Wk.iconst X1 hx (4 : Int32) (hb hby at_208) rfl rfl ?_
              refine Wk.istore (l' := #[.val (.int i0), .val (.int y), .val (.ref a), .val (.int u2), .val (.int u3), .val (.int u4), .val (.int u5), .val (.int u8), .val (.int u9), .val (.int u13), .val (.int u16), .val (.int u19), .val (.int u26), .val (.int (4 : Int32)), .unset, .val (.int u128)]) X1 hx (hb hby at_209) rfl rfl ?_
              refine Wk.iload X1 hx (hb hby at_211) rfl rfl ?_
              refine Wk.bipush X1 hx (31 : Int32) (hb hby at_213) rfl rfl ?_
              refine Wk.isub X1 hx (hb hby at_215) rfl ?_
              have t130 : (u128 - (31 : Int32)).toInt = u128.toInt - 31 := Wk.t_sub (show (u128 : Int32).toInt = u128.toInt from rfl) (show ((31 : Int32) : Int32).toInt = 31 from (by decide)) (by omega) (by omega)
              generalize u128 - (31 : Int32) = u130 at t130 ⊢
              refine Wk.istore (l' := #[.val (.int i0), .val (.int y), .val (.ref a), .val (.int u2), .val (.int u3), .val (.int u4), .val (.int u5), .val (.int u8), .val (.int u9), .val (.int u13), .val (.int u16), .val (.int u19), .val (.int u26), .val (.int (4 : Int32)), .val (.int u130), .val (.int u128)]) X1 hx (hb hby at_216) rfl rfl ?_
              have eM : (11 * u13.toInt + 11) % 30 = u125.toInt := by simp only [t123, t124, t125]
              rw [eM] at l2 l3
              clear eM t123 t124 t125
              have hf : mo.toInt = 4 ∧ dd.toInt = u130.toInt := by
                first
                | (have hD := l1 ⟨by omega, by omega⟩; clear l1 l2 l3; omega)
                | (have hD := l2 ⟨by omega, by omega, by omega⟩; clear l1 l2 l3; omega)
                | (have hD := l3 (by omega) (by omega); clear l1 l2 l3; omega)
              refine Wk.aloadN X1 hx (hb hby at_218) rfl rfl rfl ?_
              refine Wk.callVP (W := 0) X1 hx hZ (argsL := []) (rest := []) hown (hw _ (List.mem_of_getElem? (i := 81) rfl)) (hw _ (List.mem_of_getElem? (i := 82) rfl)) (hw _ (List.mem_of_getElem? (i := 84) rfl)) (hw _ (List.mem_of_getElem? (i := 83) rfl)) (hw _ (List.mem_of_getElem? (i := 8) rfl)) (hw _ (List.mem_of_getElem? (i := 85) rfl)) (notFace_of_selects (args := #[]) (mvT hZ (hw _ (List.mem_of_getElem? (i := 84) rfl)))) (by decide) (mgy l Z a0 hw a y T1.heap Fy1) rfl A1 (by decide) (by decide) (by decide) (by decide) (by rw [hml]; rfl) (lenOf pd14 rfl) rfl (Nat.le_of_eq rfl) (hb hby at_219) rfl (fun T131 X131 e131 => ?_)
              refine Wk.iloadN X131 hx (hb hby at_222) rfl rfl ?_
              refine Wk.icmp_ne X131 hx 248 226 (hb hby at_223) rfl rfl (show (y : Int32).toInt = (y).toInt from rfl) (show (y : Int32).toInt = (y).toInt from rfl) (fun h132 => absurd h132 (by omega)) (fun h132 => ?_)
              refine Wk.aloadN X131 hx (hb hby at_226) rfl rfl rfl ?_
              refine Wk.callVP (W := 0) X131 hx hZ (argsL := []) (rest := []) hown (hw _ (List.mem_of_getElem? (i := 86) rfl)) (hw _ (List.mem_of_getElem? (i := 87) rfl)) (hw _ (List.mem_of_getElem? (i := 89) rfl)) (hw _ (List.mem_of_getElem? (i := 88) rfl)) (hw _ (List.mem_of_getElem? (i := 8) rfl)) (hw _ (List.mem_of_getElem? (i := 90) rfl)) (notFace_of_selects (args := #[]) (mvT hZ (hw _ (List.mem_of_getElem? (i := 89) rfl)))) (by decide) (mgm l Z a0 hw a mo T1.heap Fm1) e131 A1 (by decide) (by decide) (by decide) (by decide) (by rw [hml]; rfl) (lenOf pd15 rfl) rfl (Nat.le_of_eq rfl) (hb hby at_227) rfl (fun T133 X133 e133 => ?_)
              refine Wk.iload X133 hx (hb hby at_230) rfl rfl ?_
              refine Wk.icmp_ne X133 hx 248 235 (hb hby at_232) rfl rfl (show (mo : Int32).toInt = (mo).toInt from rfl) (show ((4 : Int32) : Int32).toInt = 4 from (by decide)) (fun h134 => absurd h134 (by omega)) (fun h134 => ?_)
              refine Wk.aloadN X133 hx (hb hby at_235) rfl rfl rfl ?_
              refine Wk.callVP (W := 0) X133 hx hZ (argsL := []) (rest := []) hown (hw _ (List.mem_of_getElem? (i := 91) rfl)) (hw _ (List.mem_of_getElem? (i := 92) rfl)) (hw _ (List.mem_of_getElem? (i := 94) rfl)) (hw _ (List.mem_of_getElem? (i := 93) rfl)) (hw _ (List.mem_of_getElem? (i := 8) rfl)) (hw _ (List.mem_of_getElem? (i := 95) rfl)) (notFace_of_selects (args := #[]) (mvT hZ (hw _ (List.mem_of_getElem? (i := 94) rfl)))) (by decide) (mgd l Z a0 hw a dd T1.heap Fd1) e133 A1 (by decide) (by decide) (by decide) (by decide) (by rw [hml]; rfl) (lenOf pd16 rfl) rfl (Nat.le_of_eq rfl) (hb hby at_236) rfl (fun T135 X135 e135 => ?_)
              refine Wk.iload X135 hx (hb hby at_239) rfl rfl ?_
              refine Wk.icmp_ne X135 hx 248 244 (hb hby at_241) rfl rfl (show (dd : Int32).toInt = (dd).toInt from rfl) (show (u130 : Int32).toInt = u130.toInt from rfl) (fun h136 => absurd h136 (by omega)) (fun h136 => ?_)
              refine Wk.iconst X135 hx (1 : Int32) (hb hby at_244) rfl rfl ?_
              refine Wk.goto X135 hx 249 (hb hby at_245) rfl ?_
              exact Wk.retZ X135 hx hlk hret (hb hby at_249) (by decide) (by decide) (by decide) ⟨rfl, Fr.app (Fr.nil n0) N1⟩
            · skip
              refine Wk.iconst X1 hx (3 : Int32) (hb hby at_198) rfl rfl ?_
              refine Wk.istore (l' := #[.val (.int i0), .val (.int y), .val (.ref a), .val (.int u2), .val (.int u3), .val (.int u4), .val (.int u5), .val (.int u8), .val (.int u9), .val (.int u13), .val (.int u16), .val (.int u19), .val (.int u26), .val (.int (3 : Int32)), .unset, .val (.int u128)]) X1 hx (hb hby at_199) rfl rfl ?_
              refine Wk.iload X1 hx (hb hby at_201) rfl rfl ?_
              refine Wk.istore (l' := #[.val (.int i0), .val (.int y), .val (.ref a), .val (.int u2), .val (.int u3), .val (.int u4), .val (.int u5), .val (.int u8), .val (.int u9), .val (.int u13), .val (.int u16), .val (.int u19), .val (.int u26), .val (.int (3 : Int32)), .val (.int u128), .val (.int u128)]) X1 hx (hb hby at_203) rfl rfl ?_
              refine Wk.goto X1 hx 218 (hb hby at_205) rfl ?_
              have eM : (11 * u13.toInt + 11) % 30 = u125.toInt := by simp only [t123, t124, t125]
              rw [eM] at l2 l3
              clear eM t123 t124 t125
              have hf : mo.toInt = 3 ∧ dd.toInt = u128.toInt := by
                first
                | (have hD := l1 ⟨by omega, by omega⟩; clear l1 l2 l3; omega)
                | (have hD := l2 ⟨by omega, by omega, by omega⟩; clear l1 l2 l3; omega)
                | (have hD := l3 (by omega) (by omega); clear l1 l2 l3; omega)
              refine Wk.aloadN X1 hx (hb hby at_218) rfl rfl rfl ?_
              refine Wk.callVP (W := 0) X1 hx hZ (argsL := []) (rest := []) hown (hw _ (List.mem_of_getElem? (i := 81) rfl)) (hw _ (List.mem_of_getElem? (i := 82) rfl)) (hw _ (List.mem_of_getElem? (i := 84) rfl)) (hw _ (List.mem_of_getElem? (i := 83) rfl)) (hw _ (List.mem_of_getElem? (i := 8) rfl)) (hw _ (List.mem_of_getElem? (i := 85) rfl)) (notFace_of_selects (args := #[]) (mvT hZ (hw _ (List.mem_of_getElem? (i := 84) rfl)))) (by decide) (mgy l Z a0 hw a y T1.heap Fy1) rfl A1 (by decide) (by decide) (by decide) (by decide) (by rw [hml]; rfl) (lenOf pd14 rfl) rfl (Nat.le_of_eq rfl) (hb hby at_219) rfl (fun T137 X137 e137 => ?_)
              refine Wk.iloadN X137 hx (hb hby at_222) rfl rfl ?_
              refine Wk.icmp_ne X137 hx 248 226 (hb hby at_223) rfl rfl (show (y : Int32).toInt = (y).toInt from rfl) (show (y : Int32).toInt = (y).toInt from rfl) (fun h138 => absurd h138 (by omega)) (fun h138 => ?_)
              refine Wk.aloadN X137 hx (hb hby at_226) rfl rfl rfl ?_
              refine Wk.callVP (W := 0) X137 hx hZ (argsL := []) (rest := []) hown (hw _ (List.mem_of_getElem? (i := 86) rfl)) (hw _ (List.mem_of_getElem? (i := 87) rfl)) (hw _ (List.mem_of_getElem? (i := 89) rfl)) (hw _ (List.mem_of_getElem? (i := 88) rfl)) (hw _ (List.mem_of_getElem? (i := 8) rfl)) (hw _ (List.mem_of_getElem? (i := 90) rfl)) (notFace_of_selects (args := #[]) (mvT hZ (hw _ (List.mem_of_getElem? (i := 89) rfl)))) (by decide) (mgm l Z a0 hw a mo T1.heap Fm1) e137 A1 (by decide) (by decide) (by decide) (by decide) (by rw [hml]; rfl) (lenOf pd15 rfl) rfl (Nat.le_of_eq rfl) (hb hby at_227) rfl (fun T139 X139 e139 => ?_)
              refine Wk.iload X139 hx (hb hby at_230) rfl rfl ?_
              refine Wk.icmp_ne X139 hx 248 235 (hb hby at_232) rfl rfl (show (mo : Int32).toInt = (mo).toInt from rfl) (show ((3 : Int32) : Int32).toInt = 3 from (by decide)) (fun h140 => absurd h140 (by omega)) (fun h140 => ?_)
              refine Wk.aloadN X139 hx (hb hby at_235) rfl rfl rfl ?_
              refine Wk.callVP (W := 0) X139 hx hZ (argsL := []) (rest := []) hown (hw _ (List.mem_of_getElem? (i := 91) rfl)) (hw _ (List.mem_of_getElem? (i := 92) rfl)) (hw _ (List.mem_of_getElem? (i := 94) rfl)) (hw _ (List.mem_of_getElem? (i := 93) rfl)) (hw _ (List.mem_of_getElem? (i := 8) rfl)) (hw _ (List.mem_of_getElem? (i := 95) rfl)) (notFace_of_selects (args := #[]) (mvT hZ (hw _ (List.mem_of_getElem? (i := 94) rfl)))) (by decide) (mgd l Z a0 hw a dd T1.heap Fd1) e139 A1 (by decide) (by decide) (by decide) (by decide) (by rw [hml]; rfl) (lenOf pd16 rfl) rfl (Nat.le_of_eq rfl) (hb hby at_236) rfl (fun T141 X141 e141 => ?_)
              refine Wk.iload X141 hx (hb hby at_239) rfl rfl ?_
              refine Wk.icmp_ne X141 hx 248 244 (hb hby at_241) rfl rfl (show (dd : Int32).toInt = (dd).toInt from rfl) (show (u128 : Int32).toInt = u128.toInt from rfl) (fun h142 => absurd h142 (by omega)) (fun h142 => ?_)
              refine Wk.iconst X141 hx (1 : Int32) (hb hby at_244) rfl rfl ?_
              refine Wk.goto X141 hx 249 (hb hby at_245) rfl ?_
              exact Wk.retZ X141 hx hlk hret (hb hby at_249) (by decide) (by decide) (by decide) ⟨rfl, Fr.app (Fr.nil n0) N1⟩
          · skip
            refine Wk.iconst X1 hx (4 : Int32) (hb hby at_171) rfl rfl ?_
            refine Wk.istore (l' := #[.val (.int i0), .val (.int y), .val (.ref a), .val (.int u2), .val (.int u3), .val (.int u4), .val (.int u5), .val (.int u8), .val (.int u9), .val (.int u13), .val (.int u16), .val (.int u19), .val (.int u26), .val (.int (4 : Int32)), .unset, .unset]) X1 hx (hb hby at_172) rfl rfl ?_
            refine Wk.bipush X1 hx (18 : Int32) (hb hby at_174) rfl rfl ?_
            refine Wk.istore (l' := #[.val (.int i0), .val (.int y), .val (.ref a), .val (.int u2), .val (.int u3), .val (.int u4), .val (.int u5), .val (.int u8), .val (.int u9), .val (.int u13), .val (.int u16), .val (.int u19), .val (.int u26), .val (.int (4 : Int32)), .val (.int (18 : Int32)), .unset]) X1 hx (hb hby at_176) rfl rfl ?_
            refine Wk.goto X1 hx 218 (hb hby at_178) rfl ?_
            have eM : (11 * u13.toInt + 11) % 30 = u125.toInt := by simp only [t123, t124, t125]
            rw [eM] at l2 l3
            clear eM t123 t124 t125
            have hf : mo.toInt = 4 ∧ dd.toInt = 18 := by
              first
              | (have hD := l1 ⟨by omega, by omega⟩; clear l1 l2 l3; omega)
              | (have hD := l2 ⟨by omega, by omega, by omega⟩; clear l1 l2 l3; omega)
              | (have hD := l3 (by omega) (by omega); clear l1 l2 l3; omega)
            refine Wk.aloadN X1 hx (hb hby at_218) rfl rfl rfl ?_
            refine Wk.callVP (W := 0) X1 hx hZ (argsL := []) (rest := []) hown (hw _ (List.mem_of_getElem? (i := 81) rfl)) (hw _ (List.mem_of_getElem? (i := 82) rfl)) (hw _ (List.mem_of_getElem? (i := 84) rfl)) (hw _ (List.mem_of_getElem? (i := 83) rfl)) (hw _ (List.mem_of_getElem? (i := 8) rfl)) (hw _ (List.mem_of_getElem? (i := 85) rfl)) (notFace_of_selects (args := #[]) (mvT hZ (hw _ (List.mem_of_getElem? (i := 84) rfl)))) (by decide) (mgy l Z a0 hw a y T1.heap Fy1) rfl A1 (by decide) (by decide) (by decide) (by decide) (by rw [hml]; rfl) (lenOf pd14 rfl) rfl (Nat.le_of_eq rfl) (hb hby at_219) rfl (fun T143 X143 e143 => ?_)
            refine Wk.iloadN X143 hx (hb hby at_222) rfl rfl ?_
            refine Wk.icmp_ne X143 hx 248 226 (hb hby at_223) rfl rfl (show (y : Int32).toInt = (y).toInt from rfl) (show (y : Int32).toInt = (y).toInt from rfl) (fun h144 => absurd h144 (by omega)) (fun h144 => ?_)
            refine Wk.aloadN X143 hx (hb hby at_226) rfl rfl rfl ?_
            refine Wk.callVP (W := 0) X143 hx hZ (argsL := []) (rest := []) hown (hw _ (List.mem_of_getElem? (i := 86) rfl)) (hw _ (List.mem_of_getElem? (i := 87) rfl)) (hw _ (List.mem_of_getElem? (i := 89) rfl)) (hw _ (List.mem_of_getElem? (i := 88) rfl)) (hw _ (List.mem_of_getElem? (i := 8) rfl)) (hw _ (List.mem_of_getElem? (i := 90) rfl)) (notFace_of_selects (args := #[]) (mvT hZ (hw _ (List.mem_of_getElem? (i := 89) rfl)))) (by decide) (mgm l Z a0 hw a mo T1.heap Fm1) e143 A1 (by decide) (by decide) (by decide) (by decide) (by rw [hml]; rfl) (lenOf pd15 rfl) rfl (Nat.le_of_eq rfl) (hb hby at_227) rfl (fun T145 X145 e145 => ?_)
            refine Wk.iload X145 hx (hb hby at_230) rfl rfl ?_
            refine Wk.icmp_ne X145 hx 248 235 (hb hby at_232) rfl rfl (show (mo : Int32).toInt = (mo).toInt from rfl) (show ((4 : Int32) : Int32).toInt = 4 from (by decide)) (fun h146 => absurd h146 (by omega)) (fun h146 => ?_)
            refine Wk.aloadN X145 hx (hb hby at_235) rfl rfl rfl ?_
            refine Wk.callVP (W := 0) X145 hx hZ (argsL := []) (rest := []) hown (hw _ (List.mem_of_getElem? (i := 91) rfl)) (hw _ (List.mem_of_getElem? (i := 92) rfl)) (hw _ (List.mem_of_getElem? (i := 94) rfl)) (hw _ (List.mem_of_getElem? (i := 93) rfl)) (hw _ (List.mem_of_getElem? (i := 8) rfl)) (hw _ (List.mem_of_getElem? (i := 95) rfl)) (notFace_of_selects (args := #[]) (mvT hZ (hw _ (List.mem_of_getElem? (i := 94) rfl)))) (by decide) (mgd l Z a0 hw a dd T1.heap Fd1) e145 A1 (by decide) (by decide) (by decide) (by decide) (by rw [hml]; rfl) (lenOf pd16 rfl) rfl (Nat.le_of_eq rfl) (hb hby at_236) rfl (fun T147 X147 e147 => ?_)
            refine Wk.iload X147 hx (hb hby at_239) rfl rfl ?_
            refine Wk.icmp_ne X147 hx 248 244 (hb hby at_241) rfl rfl (show (dd : Int32).toInt = (dd).toInt from rfl) (show ((18 : Int32) : Int32).toInt = 18 from (by decide)) (fun h148 => absurd h148 (by omega)) (fun h148 => ?_)
            refine Wk.iconst X147 hx (1 : Int32) (hb hby at_244) rfl rfl ?_
            refine Wk.goto X147 hx 249 (hb hby at_245) rfl ?_
            exact Wk.retZ X147 hx hlk hret (hb hby at_249) (by decide) (by decide) (by decide) ⟨rfl, Fr.app (Fr.nil n0) N1⟩
    · skip
      refine Wk.iconst X1 hx (4 : Int32) (hb hby at_131) rfl rfl ?_
      refine Wk.istore (l' := #[.val (.int i0), .val (.int y), .val (.ref a), .val (.int u2), .val (.int u3), .val (.int u4), .val (.int u5), .val (.int u8), .val (.int u9), .val (.int u13), .val (.int u16), .val (.int u19), .val (.int u26), .val (.int (4 : Int32)), .unset, .unset]) X1 hx (hb hby at_132) rfl rfl ?_
      refine Wk.bipush X1 hx (19 : Int32) (hb hby at_134) rfl rfl ?_
      refine Wk.istore (l' := #[.val (.int i0), .val (.int y), .val (.ref a), .val (.int u2), .val (.int u3), .val (.int u4), .val (.int u5), .val (.int u8), .val (.int u9), .val (.int u13), .val (.int u16), .val (.int u19), .val (.int u26), .val (.int (4 : Int32)), .val (.int (19 : Int32)), .unset]) X1 hx (hb hby at_136) rfl rfl ?_
      refine Wk.goto X1 hx 218 (hb hby at_138) rfl ?_
      have hf : mo.toInt = 4 ∧ dd.toInt = 19 := by
        first
        | (have hD := l1 ⟨by omega, by omega⟩; clear l1 l2 l3; omega)
        | (have hD := l2 ⟨by omega, by omega, by omega⟩; clear l1 l2 l3; omega)
        | (have hD := l3 (by omega) (by omega); clear l1 l2 l3; omega)
      refine Wk.aloadN X1 hx (hb hby at_218) rfl rfl rfl ?_
      refine Wk.callVP (W := 0) X1 hx hZ (argsL := []) (rest := []) hown (hw _ (List.mem_of_getElem? (i := 81) rfl)) (hw _ (List.mem_of_getElem? (i := 82) rfl)) (hw _ (List.mem_of_getElem? (i := 84) rfl)) (hw _ (List.mem_of_getElem? (i := 83) rfl)) (hw _ (List.mem_of_getElem? (i := 8) rfl)) (hw _ (List.mem_of_getElem? (i := 85) rfl)) (notFace_of_selects (args := #[]) (mvT hZ (hw _ (List.mem_of_getElem? (i := 84) rfl)))) (by decide) (mgy l Z a0 hw a y T1.heap Fy1) rfl A1 (by decide) (by decide) (by decide) (by decide) (by rw [hml]; rfl) (lenOf pd14 rfl) rfl (Nat.le_of_eq rfl) (hb hby at_219) rfl (fun T149 X149 e149 => ?_)
      refine Wk.iloadN X149 hx (hb hby at_222) rfl rfl ?_
      refine Wk.icmp_ne X149 hx 248 226 (hb hby at_223) rfl rfl (show (y : Int32).toInt = (y).toInt from rfl) (show (y : Int32).toInt = (y).toInt from rfl) (fun h150 => absurd h150 (by omega)) (fun h150 => ?_)
      refine Wk.aloadN X149 hx (hb hby at_226) rfl rfl rfl ?_
      refine Wk.callVP (W := 0) X149 hx hZ (argsL := []) (rest := []) hown (hw _ (List.mem_of_getElem? (i := 86) rfl)) (hw _ (List.mem_of_getElem? (i := 87) rfl)) (hw _ (List.mem_of_getElem? (i := 89) rfl)) (hw _ (List.mem_of_getElem? (i := 88) rfl)) (hw _ (List.mem_of_getElem? (i := 8) rfl)) (hw _ (List.mem_of_getElem? (i := 90) rfl)) (notFace_of_selects (args := #[]) (mvT hZ (hw _ (List.mem_of_getElem? (i := 89) rfl)))) (by decide) (mgm l Z a0 hw a mo T1.heap Fm1) e149 A1 (by decide) (by decide) (by decide) (by decide) (by rw [hml]; rfl) (lenOf pd15 rfl) rfl (Nat.le_of_eq rfl) (hb hby at_227) rfl (fun T151 X151 e151 => ?_)
      refine Wk.iload X151 hx (hb hby at_230) rfl rfl ?_
      refine Wk.icmp_ne X151 hx 248 235 (hb hby at_232) rfl rfl (show (mo : Int32).toInt = (mo).toInt from rfl) (show ((4 : Int32) : Int32).toInt = 4 from (by decide)) (fun h152 => absurd h152 (by omega)) (fun h152 => ?_)
      refine Wk.aloadN X151 hx (hb hby at_235) rfl rfl rfl ?_
      refine Wk.callVP (W := 0) X151 hx hZ (argsL := []) (rest := []) hown (hw _ (List.mem_of_getElem? (i := 91) rfl)) (hw _ (List.mem_of_getElem? (i := 92) rfl)) (hw _ (List.mem_of_getElem? (i := 94) rfl)) (hw _ (List.mem_of_getElem? (i := 93) rfl)) (hw _ (List.mem_of_getElem? (i := 8) rfl)) (hw _ (List.mem_of_getElem? (i := 95) rfl)) (notFace_of_selects (args := #[]) (mvT hZ (hw _ (List.mem_of_getElem? (i := 94) rfl)))) (by decide) (mgd l Z a0 hw a dd T1.heap Fd1) e151 A1 (by decide) (by decide) (by decide) (by decide) (by rw [hml]; rfl) (lenOf pd16 rfl) rfl (Nat.le_of_eq rfl) (hb hby at_236) rfl (fun T153 X153 e153 => ?_)
      refine Wk.iload X153 hx (hb hby at_239) rfl rfl ?_
      refine Wk.icmp_ne X153 hx 248 244 (hb hby at_241) rfl rfl (show (dd : Int32).toInt = (dd).toInt from rfl) (show ((19 : Int32) : Int32).toInt = 19 from (by decide)) (fun h154 => absurd h154 (by omega)) (fun h154 => ?_)
      refine Wk.iconst X153 hx (1 : Int32) (hb hby at_244) rfl rfl ?_
      refine Wk.goto X153 hx 249 (hb hby at_245) rfl ?_
      exact Wk.retZ X153 hx hlk hret (hb hby at_249) (by decide) (by decide) (by decide) ⟨rfl, Fr.app (Fr.nil n0) N1⟩
set_option maxRecDepth 65536 in
set_option maxHeartbeats 40000000 in
theorem comes_1 {Post : Tables → Env → Array Value → State → Outcome → State → Prop} (hpost : ∀ tb e args s v u, (limb_1_1.after args s (.returned v) u = true ∧ limb_1_2.after args s (.returned v) u = true ∧ True) → FrameEnd s (.returned v) u (Jvm.fieldLocs frame_1_writes args s ++ Jvm.arrayLocs frame_1_arrays args s ++ Jvm.staticLocs frame_1_statics s) 16 128 → Post tb e args s (.returned v) u) :
    ArmFor flags0 classFile x code maxLocals ret World_1 tables_1 room_1 Calls_1 rest_1 Pre_1 Post := by
  intro l hfl _ _ p e ha hc hk s m args below hf hA hF happ hP
  obtain ⟨hcalls, hrest, hpre⟩ := hP
  obtain ⟨-, -, -, hnamed, -, -, -, hat⟩ := (Spec.applies_iff hf).mp happ
  obtain ⟨hg, hn⟩ := and_e (Cond.before_iff.mp (show (Jvm.Cond.and given_1 narrow_1).before args s = true from hpre))
  obtain ⟨hg0, hg⟩ := and_e hg
  obtain ⟨w0, rfl⟩ : ∃ w0 : Value, args = #[w0] := by
    have hs : args.size = 1 := by simpa [Cond.value, given_1] using hg0
    obtain ⟨L⟩ := args
    match L, hs with
    | [w0], _ => exact ⟨w0, rfl⟩
  have hw := fun d (hd : d ∈ tables_1) => atoms_spec (ws := Jvm.Cond.code x code maxLocals ret :: tables_1) hat d (List.mem_cons_of_mem _ hd)
  have hfit : Fit s := fun {y c} hc i hi => by
    obtain ⟨ha, rfl⟩ := Array.getElem?_eq_some_iff.mp hc
    have q := List.all_eq_true.mp ((Array.all_eq_true_iff_forall_mem.mp hF) _ (Array.getElem_mem ha)) i (List.mem_range.mpr hi)
    simpa [Array.getElem?_eq_getElem hi] using q
  have hg1 := hg
  obtain ⟨i0, ei0⟩ := is_v hg1
  obtain rfl : w0 = (.int i0) := Option.some.inj ei0
  have hs := (atoms_of jdkStatics_1 (show (jdkStatics_1.foldr Jvm.Cond.and restOwn_1).before _ s = true from hrest)).1
  obtain ⟨fY, vfY⟩ := exa_v (Cond.before_iff.mp (hs _ (List.mem_of_getElem? (i := 6) rfl)))
  obtain ⟨rY, vrY⟩ := exa_v (Cond.before_iff.mp (hs _ (List.mem_of_getElem? (i := 22) rfl)))
  obtain ⟨fM, vfM⟩ := exa_v (Cond.before_iff.mp (hs _ (List.mem_of_getElem? (i := 34) rfl)))
  obtain ⟨rM, vrM⟩ := exa_v (Cond.before_iff.mp (hs _ (List.mem_of_getElem? (i := 50) rfl)))
  obtain ⟨fD, vfD⟩ := exa_v (Cond.before_iff.mp (hs _ (List.mem_of_getElem? (i := 62) rfl)))
  obtain ⟨rD, vrD⟩ := exa_v (Cond.before_iff.mp (hs _ (List.mem_of_getElem? (i := 78) rfl)))
  have H := rmL l s _ hw i0 fY rY fM rM fD rD s.heap.size s.heap (Nat.le_refl _) (Sta.start vfY (Or.inl (hs _ (List.mem_of_getElem? (i := 1) rfl)))) (Exa.start vfY (Cond.before_iff.mp (hs _ (List.mem_of_getElem? (i := 6) rfl)))) (Fld.start ((fld_at vfY).symm.trans vrY)) (Exa.start vrY (Cond.before_iff.mp (hs _ (List.mem_of_getElem? (i := 22) rfl)))) (Wk.fldJ vrY (Cond.before_iff.mp (hs _ (List.mem_of_getElem? (i := 23) rfl)))) (Wk.fldJ vrY (Cond.before_iff.mp (hs _ (List.mem_of_getElem? (i := 26) rfl)))) (Sta.start vfM (Or.inl (hs _ (List.mem_of_getElem? (i := 29) rfl)))) (Exa.start vfM (Cond.before_iff.mp (hs _ (List.mem_of_getElem? (i := 34) rfl)))) (Fld.start ((fld_at vfM).symm.trans vrM)) (Exa.start vrM (Cond.before_iff.mp (hs _ (List.mem_of_getElem? (i := 50) rfl)))) (Wk.fldJ vrM (Cond.before_iff.mp (hs _ (List.mem_of_getElem? (i := 51) rfl)))) (Wk.fldJ vrM (Cond.before_iff.mp (hs _ (List.mem_of_getElem? (i := 54) rfl)))) (Sta.start vfD (Or.inl (hs _ (List.mem_of_getElem? (i := 57) rfl)))) (Exa.start vfD (Cond.before_iff.mp (hs _ (List.mem_of_getElem? (i := 62) rfl)))) (Fld.start ((fld_at vfD).symm.trans vrD)) (Exa.start vrD (Cond.before_iff.mp (hs _ (List.mem_of_getElem? (i := 78) rfl)))) (Wk.fldJ vrD (Cond.before_iff.mp (hs _ (List.mem_of_getElem? (i := 79) rfl)))) (Wk.fldJ vrD (Cond.before_iff.mp (hs _ (List.mem_of_getElem? (i := 82) rfl))))
  obtain ⟨n, o, h1, h2, h3, _, L, rfl, ⟨rfl, N⟩, hq⟩ := H p e ha hc hk s m _ below hf ((Spec.applies_iff_loose hf).mp happ).1 ⟨rfl, State.Warmed39.refl s, rfl⟩ trivial
  refine ⟨n, _, h1, h2, h3, hpost _ _ _ _ _ _ ⟨Cond.after_iff.mpr rfl, Cond.after_iff.mpr (eq_i res_at (Term.int_eval (1)) rfl), trivial⟩ ⟨hq.1, hq.2.1, (hq.2.2.sift fun y hy => Or.inr (N y hy)).mono (by decide) (by decide)⟩⟩
theorem main_1_1 : Claimed_1_1 := comes_1 fun _ _ _ _ _ _ h hF => ⟨h.1, hF⟩
theorem main_1_2 : Claimed_1_2 := comes_1 fun _ _ _ _ _ _ h hF => ⟨h.2.1, hF⟩
end Jvm.Pilot.@@N@@
namespace Jvm.Pilot.@@N@@
open Jvm Jvm.ClassFile Sem Op Lib Jvm.Free Jvm.Stand Jvm.Pilot.@@N@@.Jvm.D
/-! MADE BY PROGRAM (witnessworld.py) out of the Statement's table words and the real class files: 27 classes; the members and pool entries that the words name. The judged class is class 1, her method 1. -/
namespace start1
open Jvm.ClassFile
def u (s : String) : CpInfo := .utf8 (stringToUtf16 s)
/-- a pool by its gaps: so many unusable entries, then the entry; so many at the end -/
def gap : Nat → List CpInfo → List CpInfo
  | 0, r => r
  | n + 1, r => .unusable :: gap n r
def poolList (es : List (Nat × CpInfo)) (last : Nat) : List CpInfo := es.foldr (fun e r => gap e.1 (e.2 :: r)) (gap last [])
def pool (es : List (Nat × CpInfo)) (last : Nat) : Array CpInfo := ⟨poolList es last⟩
def fileOf (pool : Array CpInfo) (this : Nat) (attrs : Array Attribute := #[]) (ms : Array MethodInfo := #[]) (fl : Nat := 33) (sup : Nat := 0) (ifs : Array Nat := #[]) (fds : Array FieldInfo := #[]) : ClassFile where
  minorVersion := 0
  majorVersion := 65
  constantPool := pool
  accessFlags := fl
  thisClass := this
  superClass := sup
  interfaces := ifs
  fields := fds
  methods := ms
  attributes := attrs
def plain (name : String) (sup : Option ClassId) : Class where
  name := name
  kind := .ordinary
  loader := none
  accessFlags := 33
  super := sup
  interfaces := #[]
  cf := none
  fields := #[]
  methods := #[]
  instanceTypes := #[]
  staticTypes := #[]
  resolved := #[]
  callSites := []
  init := .initialized
  statics := none
  mirror := none

def pool0 : Array CpInfo := pool [(5, u "<init>"), (0, u "()V"), (1, .class_ 10), (1, u "java/lang/Object")] 113

def k0c0 : Code := { maxStack := 0, maxLocals := 1, code := object_method_1_code, exceptionTable := #[], attributes := #[] }
def k0m0 : Method := { name := "<init>", desc := "()V", sig := { parameters := [], returnType := none }, accessFlags := 1, code := some k0c0 }
/-- java/lang/Object -/
def k0 : Class := { plain "java/lang/Object" none with
  accessFlags := 33
  interfaces := #[]
  cf := some (fileOf pool0 8 #[] #[{ accessFlags := 1, nameIndex := 5, descriptorIndex := 6, attributes := #[] }] 33 0 #[] #[])
  fields := #[]
  methods := #[k0m0]
  instanceTypes := #[]
  staticTypes := #[]
  resolved := Array.replicate 124 none
  statics := none }

def pool1 : Array CpInfo := pool [(2, .class_ 4), (1, u "java/lang/Object"), (0, u "<init>"), (0, u "()V"), (0, .integer 2147483647), (0, .integer 1000000000), (0, .methodref 10 11), (0, .class_ 12), (0, .nameAndType 13 14), (0, u "com/example/settlewright/settlewright/calc/HolidayRules"), (0, u "easterSunday"), (0, u "(I)Ljava/time/LocalDate;"), (0, .methodref 16 17), (0, .class_ 18), (0, .nameAndType 19 20), (0, u "java/time/LocalDate"), (0, u "getYear"), (0, u "()I"), (0, .methodref 16 22), (0, .nameAndType 23 20), (0, u "getMonthValue"), (0, .methodref 16 25), (0, .nameAndType 26 20), (0, u "getDayOfMonth"), (0, .class_ 28), (0, u "com/example/settlewright/settlewright/calc/HolidayRulesEasterSundayPinLaw"), (2, u "law"), (0, u "(I)Z")] 3

def k1m0 : Method := { name := "<init>", desc := "()V", sig := { parameters := [], returnType := none }, accessFlags := 2, code := none }
def k1c1 : Code := { maxStack := 3, maxLocals := 16, code := code, exceptionTable := #[], attributes := #[] }
def k1m1 : Method := { name := "law", desc := "(I)Z", sig := { parameters := [.int], returnType := some .boolean }, accessFlags := 9, code := some k1c1 }
/-- com/example/settlewright/settlewright/calc/HolidayRulesEasterSundayPinLaw -/
def k1 : Class := { plain "com/example/settlewright/settlewright/calc/HolidayRulesEasterSundayPinLaw" (some 0) with
  accessFlags := 49
  interfaces := #[]
  cf := some (fileOf pool1 27 #[] #[{ accessFlags := 2, nameIndex := 5, descriptorIndex := 6, attributes := #[] }, { accessFlags := 9, nameIndex := 31, descriptorIndex := 32, attributes := #[] }] 49 2 #[] #[])
  fields := #[]
  methods := #[k1m0, k1m1]
  instanceTypes := #[]
  staticTypes := #[]
  resolved := Array.replicate 36 none
  statics := none }

def pool2 : Array CpInfo := pool [(2, .class_ 4), (1, u "java/lang/Object"), (0, u "<init>"), (0, u "()V"), (0, .methodref 8 9), (0, .class_ 10), (0, .nameAndType 11 12), (0, u "java/time/LocalDate"), (0, u "of"), (0, u "(III)Ljava/time/LocalDate;"), (0, .methodref 8 14), (0, .nameAndType 15 16), (0, u "plusDays"), (0, u "(J)Ljava/time/LocalDate;"), (25, .class_ 44), (1, u "com/example/settlewright/settlewright/calc/HolidayRules"), (32, u "easterSunday"), (0, u "(I)Ljava/time/LocalDate;")] 34

def k2m0 : Method := { name := "<init>", desc := "()V", sig := { parameters := [], returnType := none }, accessFlags := 2, code := none }
def k2c1 : Code := { maxStack := 4, maxLocals := 7, code := prog_20_method_2_code, exceptionTable := #[], attributes := #[] }
def k2m1 : Method := { name := "easterSunday", desc := "(I)Ljava/time/LocalDate;", sig := { parameters := [.int], returnType := some (.object "java/time/LocalDate") }, accessFlags := 8, code := some k2c1 }
/-- com/example/settlewright/settlewright/calc/HolidayRules -/
def k2 : Class := { plain "com/example/settlewright/settlewright/calc/HolidayRules" (some 0) with
  accessFlags := 48
  interfaces := #[]
  cf := some (fileOf pool2 42 #[] #[{ accessFlags := 2, nameIndex := 5, descriptorIndex := 6, attributes := #[] }, { accessFlags := 8, nameIndex := 77, descriptorIndex := 78, attributes := #[] }] 48 2 #[] #[])
  fields := #[]
  methods := #[k2m0, k2m1]
  instanceTypes := #[]
  staticTypes := #[]
  resolved := Array.replicate 113 none
  statics := none }

def pool3 : Array CpInfo := pool [(4, .class_ 6), (1, u "java/time/temporal/TemporalAccessor"), (95, .class_ 103), (0, u "java/lang/Object")] 21

/-- java/time/temporal/TemporalAccessor -/
def k3 : Class := { plain "java/time/temporal/TemporalAccessor" (some 0) with
  accessFlags := 1537
  interfaces := #[]
  cf := some (fileOf pool3 4 #[] #[] 1537 102 #[] #[])
  fields := #[]
  methods := #[]
  instanceTypes := #[]
  staticTypes := #[]
  resolved := Array.replicate 125 none
  statics := none }

def pool4 : Array CpInfo := pool [(22, .class_ 24), (1, u "java/time/temporal/Temporal"), (2, .class_ 28), (0, u "java/lang/Object"), (0, .class_ 30), (0, u "java/time/temporal/TemporalAccessor")] 25

/-- java/time/temporal/Temporal -/
def k4 : Class := { plain "java/time/temporal/Temporal" (some 0) with
  accessFlags := 1537
  interfaces := #[3]
  cf := some (fileOf pool4 22 #[] #[] 1537 27 #[29] #[])
  fields := #[]
  methods := #[]
  instanceTypes := #[]
  staticTypes := #[]
  resolved := Array.replicate 56 none
  statics := none }

def pool5 : Array CpInfo := pool [(1, .class_ 2), (0, u "java/time/temporal/TemporalAdjuster"), (0, .class_ 4), (0, u "java/lang/Object")] 6

/-- java/time/temporal/TemporalAdjuster -/
def k5 : Class := { plain "java/time/temporal/TemporalAdjuster" (some 0) with
  accessFlags := 1537
  interfaces := #[]
  cf := some (fileOf pool5 1 #[] #[] 1537 3 #[] #[])
  fields := #[]
  methods := #[]
  instanceTypes := #[]
  staticTypes := #[]
  resolved := Array.replicate 11 none
  statics := none }

def pool6 : Array CpInfo := pool [(1, .class_ 2), (0, u "java/lang/Comparable"), (0, .class_ 4), (0, u "java/lang/Object")] 7

/-- java/lang/Comparable -/
def k6 : Class := { plain "java/lang/Comparable" (some 0) with
  accessFlags := 1537
  interfaces := #[]
  cf := some (fileOf pool6 1 #[] #[] 1537 3 #[] #[])
  fields := #[]
  methods := #[]
  instanceTypes := #[]
  staticTypes := #[]
  resolved := Array.replicate 12 none
  statics := none }

def pool7 : Array CpInfo := pool [(9, .class_ 10), (0, u "java/time/chrono/ChronoLocalDate"), (104, .class_ 117), (1, u "java/time/temporal/Temporal"), (134, .class_ 253), (0, u "java/lang/Object"), (23, .class_ 278), (0, u "java/time/temporal/TemporalAdjuster"), (0, .class_ 280), (0, u "java/lang/Comparable")] 86

/-- java/time/chrono/ChronoLocalDate -/
def k7 : Class := { plain "java/time/chrono/ChronoLocalDate" (some 0) with
  accessFlags := 1537
  interfaces := #[4, 5, 6]
  cf := some (fileOf pool7 9 #[] #[] 1537 252 #[115, 277, 279] #[])
  fields := #[]
  methods := #[]
  instanceTypes := #[]
  staticTypes := #[]
  resolved := Array.replicate 367 none
  statics := none }

def pool8 : Array CpInfo := pool [(1, .class_ 2), (0, u "java/io/Serializable"), (0, .class_ 4), (0, u "java/lang/Object")] 2

/-- java/io/Serializable -/
def k8 : Class := { plain "java/io/Serializable" (some 0) with
  accessFlags := 1537
  interfaces := #[]
  cf := some (fileOf pool8 1 #[] #[] 1537 3 #[] #[])
  fields := #[]
  methods := #[]
  instanceTypes := #[]
  staticTypes := #[]
  resolved := Array.replicate 7 none
  statics := none }

def pool9 : Array CpInfo := pool [(1, .class_ 2), (0, u "java/time/LocalDate"), (36, .fieldref 40 41), (0, .class_ 42), (0, .nameAndType 43 44), (0, u "java/time/temporal/ChronoField"), (0, u "YEAR"), (0, u "Ljava/time/temporal/ChronoField;"), (0, .methodref 40 46), (0, .nameAndType 47 48), (0, u "checkValidValue"), (0, u "(J)J"), (1, u "month"), (0, .fieldref 40 52), (0, .nameAndType 53 44), (0, u "DAY_OF_MONTH"), (5, u "()I"), (0, .methodref 1 61), (0, .nameAndType 62 63), (0, u "create"), (0, u "(III)Ljava/time/LocalDate;"), (0, .fieldref 40 65), (0, .nameAndType 66 44), (0, u "MONTH_OF_YEAR"), (18, .nameAndType 86 87), (0, u "<init>"), (0, u "()V"), (20, u "of"), (12, .methodref 1 122), (0, .nameAndType 86 123), (0, u "(III)V"), (36, u "(J)Ljava/time/LocalDate;"), (82, .methodref 244 85), (0, .class_ 245), (0, u "java/lang/Object"), (0, .fieldref 1 247), (0, .nameAndType 248 249), (0, u "year"), (0, u "I"), (0, .fieldref 1 251), (0, .nameAndType 50 252), (0, u "S"), (0, .fieldref 1 254), (0, .nameAndType 255 252), (0, u "day"), (1, .class_ 259), (1, u "java/time/chrono/ChronoLocalDate"), (10, .class_ 272), (1, u "java/time/LocalDate$1"), (5, .methodref 1 279), (0, .nameAndType 280 59), (0, u "lengthOfMonth"), (22, u "getYear"), (76, .class_ 382), (1, u "java/time/temporal/TemporalAdjuster"), (4, u "plusDays"), (95, .long 28), (1, .long 59), (50, u "getDayOfMonth"), (51, u "MAX"), (0, u "Ljava/time/LocalDate;"), (2, u "MIN"), (176, u "EPOCH"), (0, .class_ 771), (0, u "java/time/temporal/Temporal"), (0, .class_ 773), (0, u "java/io/Serializable"), (0, u "serialVersionUID"), (0, u "J"), (3, u "DAYS_PER_CYCLE"), (1, u "DAYS_0000_TO_1970"), (42, u "getMonthValue")] 163

def k9c0 : Code := { maxStack := 3, maxLocals := 3, code := jdk_2323_method_5_code, exceptionTable := #[], attributes := #[] }
def k9m0 : Method := { name := "of", desc := "(III)Ljava/time/LocalDate;", sig := { parameters := [.int, .int, .int], returnType := some (.object "java/time/LocalDate") }, accessFlags := 9, code := some k9c0 }
def k9c1 : Code := { maxStack := 5, maxLocals := 4, code := jdk_2323_method_12_code, exceptionTable := #[], attributes := #[] }
def k9m1 : Method := { name := "create", desc := "(III)Ljava/time/LocalDate;", sig := { parameters := [.int, .int, .int], returnType := some (.object "java/time/LocalDate") }, accessFlags := 10, code := some k9c1 }
def k9c2 : Code := { maxStack := 2, maxLocals := 4, code := jdk_2323_method_14_code, exceptionTable := #[], attributes := #[] }
def k9m2 : Method := { name := "<init>", desc := "(III)V", sig := { parameters := [.int, .int, .int], returnType := none }, accessFlags := 2, code := some k9c2 }
def k9c3 : Code := { maxStack := 1, maxLocals := 1, code := jdk_2323_method_24_code, exceptionTable := #[], attributes := #[] }
def k9m3 : Method := { name := "getYear", desc := "()I", sig := { parameters := [], returnType := some .int }, accessFlags := 1, code := some k9c3 }
def k9c4 : Code := { maxStack := 1, maxLocals := 1, code := jdk_2323_method_25_code, exceptionTable := #[], attributes := #[] }
def k9m4 : Method := { name := "getMonthValue", desc := "()I", sig := { parameters := [], returnType := some .int }, accessFlags := 1, code := some k9c4 }
def k9c5 : Code := { maxStack := 1, maxLocals := 1, code := jdk_2323_method_27_code, exceptionTable := #[], attributes := #[] }
def k9m5 : Method := { name := "getDayOfMonth", desc := "()I", sig := { parameters := [], returnType := some .int }, accessFlags := 1, code := some k9c5 }
def k9c6 : Code := { maxStack := 1, maxLocals := 1, code := jdk_2323_method_31_code, exceptionTable := #[], attributes := #[] }
def k9m6 : Method := { name := "lengthOfMonth", desc := "()I", sig := { parameters := [], returnType := some .int }, accessFlags := 1, code := some k9c6 }
def k9c7 : Code := { maxStack := 8, maxLocals := 7, code := jdk_2323_method_44_code, exceptionTable := #[], attributes := #[] }
def k9m7 : Method := { name := "plusDays", desc := "(J)Ljava/time/LocalDate;", sig := { parameters := [.long], returnType := some (.object "java/time/LocalDate") }, accessFlags := 1, code := some k9c7 }
/-- java/time/LocalDate -/
def k9 : Class := { plain "java/time/LocalDate" (some 0) with
  accessFlags := 49
  interfaces := #[4, 5, 7, 8]
  cf := some (fileOf pool9 1 #[.nestMembers #[270]] #[{ accessFlags := 9, nameIndex := 108, descriptorIndex := 63, attributes := #[] }, { accessFlags := 10, nameIndex := 62, descriptorIndex := 63, attributes := #[] }, { accessFlags := 2, nameIndex := 86, descriptorIndex := 123, attributes := #[] }, { accessFlags := 1, nameIndex := 303, descriptorIndex := 59, attributes := #[] }, { accessFlags := 1, nameIndex := 824, descriptorIndex := 59, attributes := #[] }, { accessFlags := 1, nameIndex := 536, descriptorIndex := 59, attributes := #[] }, { accessFlags := 1, nameIndex := 280, descriptorIndex := 59, attributes := #[] }, { accessFlags := 1, nameIndex := 387, descriptorIndex := 160, attributes := #[] }] 49 244 #[770, 380, 257, 772] #[{ accessFlags := 25, nameIndex := 592, descriptorIndex := 589, attributes := #[] }, { accessFlags := 25, nameIndex := 588, descriptorIndex := 589, attributes := #[] }, { accessFlags := 25, nameIndex := 769, descriptorIndex := 589, attributes := #[] }, { accessFlags := 26, nameIndex := 774, descriptorIndex := 775, attributes := #[] }, { accessFlags := 26, nameIndex := 779, descriptorIndex := 249, attributes := #[] }, { accessFlags := 24, nameIndex := 781, descriptorIndex := 775, attributes := #[] }, { accessFlags := 18, nameIndex := 248, descriptorIndex := 249, attributes := #[] }, { accessFlags := 18, nameIndex := 50, descriptorIndex := 252, attributes := #[] }, { accessFlags := 18, nameIndex := 255, descriptorIndex := 252, attributes := #[] }])
  fields := #[{ name := "MIN", type := (.object "java/time/LocalDate"), accessFlags := 25, slot := 0, constantValue := 0 }, { name := "MAX", type := (.object "java/time/LocalDate"), accessFlags := 25, slot := 1, constantValue := 0 }, { name := "EPOCH", type := (.object "java/time/LocalDate"), accessFlags := 25, slot := 2, constantValue := 0 }, { name := "serialVersionUID", type := .long, accessFlags := 26, slot := 3, constantValue := 0 }, { name := "DAYS_PER_CYCLE", type := .int, accessFlags := 26, slot := 4, constantValue := 0 }, { name := "DAYS_0000_TO_1970", type := .long, accessFlags := 24, slot := 5, constantValue := 0 }, { name := "year", type := .int, accessFlags := 18, slot := 0, constantValue := 0 }, { name := "month", type := .short, accessFlags := 18, slot := 1, constantValue := 0 }, { name := "day", type := .short, accessFlags := 18, slot := 2, constantValue := 0 }]
  methods := #[k9m0, k9m1, k9m2, k9m3, k9m4, k9m5, k9m6, k9m7]
  instanceTypes := #[.int, .short, .short]
  staticTypes := #[(.object "java/time/LocalDate"), (.object "java/time/LocalDate"), (.object "java/time/LocalDate"), .long, .int, .long]
  resolved := Array.replicate 988 none
  statics := none }

def pool10 : Array CpInfo := pool [(1, .class_ 2), (0, u "java/lang/constant/Constable"), (0, .class_ 4), (0, u "java/lang/Object")] 6

/-- java/lang/constant/Constable -/
def k10 : Class := { plain "java/lang/constant/Constable" (some 0) with
  accessFlags := 1537
  interfaces := #[]
  cf := some (fileOf pool10 1 #[] #[] 1537 3 #[] #[])
  fields := #[]
  methods := #[]
  instanceTypes := #[]
  staticTypes := #[]
  resolved := Array.replicate 11 none
  statics := none }

def pool11 : Array CpInfo := pool [(2, .class_ 4), (1, u "java/lang/Enum"), (0, u "name"), (0, u "Ljava/lang/String;"), (2, u "ordinal"), (0, u "I"), (1, .class_ 14), (1, u "java/lang/Object"), (4, u "hash"), (86, .class_ 108), (1, u "java/lang/Enum$EnumDesc"), (2, .class_ 112), (0, u "java/lang/constant/Constable"), (0, .class_ 114), (0, u "java/lang/Comparable"), (0, .class_ 116), (0, u "java/io/Serializable")] 87

/-- java/lang/Enum -/
def k11 : Class := { plain "java/lang/Enum" (some 0) with
  accessFlags := 1057
  interfaces := #[10, 6, 8]
  cf := some (fileOf pool11 2 #[.nestMembers #[106]] #[] 1057 12 #[111, 113, 115] #[{ accessFlags := 18, nameIndex := 5, descriptorIndex := 6, attributes := #[] }, { accessFlags := 18, nameIndex := 9, descriptorIndex := 10, attributes := #[] }, { accessFlags := 2, nameIndex := 19, descriptorIndex := 10, attributes := #[] }])
  fields := #[{ name := "name", type := (.object "java/lang/String"), accessFlags := 18, slot := 0, constantValue := 0 }, { name := "ordinal", type := .int, accessFlags := 18, slot := 1, constantValue := 0 }, { name := "hash", type := .int, accessFlags := 2, slot := 2, constantValue := 0 }]
  methods := #[]
  instanceTypes := #[(.object "java/lang/String"), .int, .int]
  staticTypes := #[]
  resolved := Array.replicate 204 none
  statics := none }

def pool12 : Array CpInfo := pool [(10, .class_ 12), (1, u "java/time/temporal/TemporalField"), (2, .class_ 16), (0, u "java/lang/Object")] 39

/-- java/time/temporal/TemporalField -/
def k12 : Class := { plain "java/time/temporal/TemporalField" (some 0) with
  accessFlags := 1537
  interfaces := #[]
  cf := some (fileOf pool12 10 #[] #[] 1537 15 #[] #[])
  fields := #[]
  methods := #[]
  instanceTypes := #[]
  staticTypes := #[]
  resolved := Array.replicate 56 none
  statics := none }

def pool13 : Array CpInfo := pool [(1, .class_ 2), (0, u "java/time/temporal/ChronoField"), (2, u "NANO_OF_SECOND"), (0, u "Ljava/time/temporal/ChronoField;"), (2, u "NANO_OF_DAY"), (2, u "MICRO_OF_SECOND"), (2, u "MICRO_OF_DAY"), (2, u "MILLI_OF_SECOND"), (2, u "MILLI_OF_DAY"), (2, u "SECOND_OF_MINUTE"), (2, u "SECOND_OF_DAY"), (2, u "MINUTE_OF_HOUR"), (2, u "MINUTE_OF_DAY"), (2, u "HOUR_OF_AMPM"), (2, u "CLOCK_HOUR_OF_AMPM"), (2, u "HOUR_OF_DAY"), (2, u "CLOCK_HOUR_OF_DAY"), (2, u "AMPM_OF_DAY"), (2, u "DAY_OF_WEEK"), (2, u "ALIGNED_DAY_OF_WEEK_IN_MONTH"), (2, u "ALIGNED_DAY_OF_WEEK_IN_YEAR"), (2, u "DAY_OF_MONTH"), (2, u "DAY_OF_YEAR"), (2, u "EPOCH_DAY"), (2, u "ALIGNED_WEEK_OF_MONTH"), (2, u "ALIGNED_WEEK_OF_YEAR"), (2, u "MONTH_OF_YEAR"), (2, u "PROLEPTIC_MONTH"), (2, u "YEAR_OF_ERA"), (2, u "YEAR"), (2, u "ERA"), (2, u "INSTANT_SECONDS"), (2, u "OFFSET_SECONDS"), (2, u "$VALUES"), (0, u "[Ljava/time/temporal/ChronoField;"), (6, .class_ 106), (1, u "java/lang/Enum"), (8, u "name"), (0, u "Ljava/lang/String;"), (2, u "baseUnit"), (0, u "Ljava/time/temporal/TemporalUnit;"), (2, u "rangeUnit"), (0, .fieldref 1 125), (0, .nameAndType 126 127), (0, u "range"), (0, u "Ljava/time/temporal/ValueRange;"), (2, u "displayNameKey"), (59, .methodref 1 191), (0, .nameAndType 126 192), (0, u "()Ljava/time/temporal/ValueRange;"), (0, .methodref 194 195), (0, .class_ 196), (0, .nameAndType 197 198), (0, u "java/time/temporal/ValueRange"), (0, u "checkValidValue"), (0, u "(JLjava/time/temporal/TemporalField;)J"), (256, .class_ 456), (0, u "java/time/temporal/TemporalField"), (27, u "(J)J")] 22

def k13c0 : Code := { maxStack := 1, maxLocals := 1, code := jdk_2395_method_8_code, exceptionTable := #[], attributes := #[] }
def k13m0 : Method := { name := "range", desc := "()Ljava/time/temporal/ValueRange;", sig := { parameters := [], returnType := some (.object "java/time/temporal/ValueRange") }, accessFlags := 1, code := some k13c0 }
def k13c1 : Code := { maxStack := 4, maxLocals := 3, code := jdk_2395_method_11_code, exceptionTable := #[], attributes := #[] }
def k13m1 : Method := { name := "checkValidValue", desc := "(J)J", sig := { parameters := [.long], returnType := some .long }, accessFlags := 1, code := some k13c1 }
/-- java/time/temporal/ChronoField -/
def k13 : Class := { plain "java/time/temporal/ChronoField" (some 11) with
  accessFlags := 16433
  interfaces := #[12]
  cf := some (fileOf pool13 1 #[] #[{ accessFlags := 1, nameIndex := 126, descriptorIndex := 192, attributes := #[] }, { accessFlags := 1, nameIndex := 197, descriptorIndex := 484, attributes := #[] }] 16433 104 #[455] #[{ accessFlags := 16409, nameIndex := 5, descriptorIndex := 6, attributes := #[] }, { accessFlags := 16409, nameIndex := 9, descriptorIndex := 6, attributes := #[] }, { accessFlags := 16409, nameIndex := 12, descriptorIndex := 6, attributes := #[] }, { accessFlags := 16409, nameIndex := 15, descriptorIndex := 6, attributes := #[] }, { accessFlags := 16409, nameIndex := 18, descriptorIndex := 6, attributes := #[] }, { accessFlags := 16409, nameIndex := 21, descriptorIndex := 6, attributes := #[] }, { accessFlags := 16409, nameIndex := 24, descriptorIndex := 6, attributes := #[] }, { accessFlags := 16409, nameIndex := 27, descriptorIndex := 6, attributes := #[] }, { accessFlags := 16409, nameIndex := 30, descriptorIndex := 6, attributes := #[] }, { accessFlags := 16409, nameIndex := 33, descriptorIndex := 6, attributes := #[] }, { accessFlags := 16409, nameIndex := 36, descriptorIndex := 6, attributes := #[] }, { accessFlags := 16409, nameIndex := 39, descriptorIndex := 6, attributes := #[] }, { accessFlags := 16409, nameIndex := 42, descriptorIndex := 6, attributes := #[] }, { accessFlags := 16409, nameIndex := 45, descriptorIndex := 6, attributes := #[] }, { accessFlags := 16409, nameIndex := 48, descriptorIndex := 6, attributes := #[] }, { accessFlags := 16409, nameIndex := 51, descriptorIndex := 6, attributes := #[] }, { accessFlags := 16409, nameIndex := 54, descriptorIndex := 6, attributes := #[] }, { accessFlags := 16409, nameIndex := 57, descriptorIndex := 6, attributes := #[] }, { accessFlags := 16409, nameIndex := 60, descriptorIndex := 6, attributes := #[] }, { accessFlags := 16409, nameIndex := 63, descriptorIndex := 6, attributes := #[] }, { accessFlags := 16409, nameIndex := 66, descriptorIndex := 6, attributes := #[] }, { accessFlags := 16409, nameIndex := 69, descriptorIndex := 6, attributes := #[] }, { accessFlags := 16409, nameIndex := 72, descriptorIndex := 6, attributes := #[] }, { accessFlags := 16409, nameIndex := 75, descriptorIndex := 6, attributes := #[] }, { accessFlags := 16409, nameIndex := 78, descriptorIndex := 6, attributes := #[] }, { accessFlags := 16409, nameIndex := 81, descriptorIndex := 6, attributes := #[] }, { accessFlags := 16409, nameIndex := 84, descriptorIndex := 6, attributes := #[] }, { accessFlags := 16409, nameIndex := 87, descriptorIndex := 6, attributes := #[] }, { accessFlags := 16409, nameIndex := 90, descriptorIndex := 6, attributes := #[] }, { accessFlags := 16409, nameIndex := 93, descriptorIndex := 6, attributes := #[] }, { accessFlags := 18, nameIndex := 115, descriptorIndex := 116, attributes := #[] }, { accessFlags := 18, nameIndex := 119, descriptorIndex := 120, attributes := #[] }, { accessFlags := 18, nameIndex := 123, descriptorIndex := 120, attributes := #[] }, { accessFlags := 18, nameIndex := 126, descriptorIndex := 127, attributes := #[] }, { accessFlags := 18, nameIndex := 130, descriptorIndex := 116, attributes := #[] }, { accessFlags := 4122, nameIndex := 96, descriptorIndex := 97, attributes := #[] }])
  fields := #[{ name := "NANO_OF_SECOND", type := (.object "java/time/temporal/ChronoField"), accessFlags := 16409, slot := 0, constantValue := 0 }, { name := "NANO_OF_DAY", type := (.object "java/time/temporal/ChronoField"), accessFlags := 16409, slot := 1, constantValue := 0 }, { name := "MICRO_OF_SECOND", type := (.object "java/time/temporal/ChronoField"), accessFlags := 16409, slot := 2, constantValue := 0 }, { name := "MICRO_OF_DAY", type := (.object "java/time/temporal/ChronoField"), accessFlags := 16409, slot := 3, constantValue := 0 }, { name := "MILLI_OF_SECOND", type := (.object "java/time/temporal/ChronoField"), accessFlags := 16409, slot := 4, constantValue := 0 }, { name := "MILLI_OF_DAY", type := (.object "java/time/temporal/ChronoField"), accessFlags := 16409, slot := 5, constantValue := 0 }, { name := "SECOND_OF_MINUTE", type := (.object "java/time/temporal/ChronoField"), accessFlags := 16409, slot := 6, constantValue := 0 }, { name := "SECOND_OF_DAY", type := (.object "java/time/temporal/ChronoField"), accessFlags := 16409, slot := 7, constantValue := 0 }, { name := "MINUTE_OF_HOUR", type := (.object "java/time/temporal/ChronoField"), accessFlags := 16409, slot := 8, constantValue := 0 }, { name := "MINUTE_OF_DAY", type := (.object "java/time/temporal/ChronoField"), accessFlags := 16409, slot := 9, constantValue := 0 }, { name := "HOUR_OF_AMPM", type := (.object "java/time/temporal/ChronoField"), accessFlags := 16409, slot := 10, constantValue := 0 }, { name := "CLOCK_HOUR_OF_AMPM", type := (.object "java/time/temporal/ChronoField"), accessFlags := 16409, slot := 11, constantValue := 0 }, { name := "HOUR_OF_DAY", type := (.object "java/time/temporal/ChronoField"), accessFlags := 16409, slot := 12, constantValue := 0 }, { name := "CLOCK_HOUR_OF_DAY", type := (.object "java/time/temporal/ChronoField"), accessFlags := 16409, slot := 13, constantValue := 0 }, { name := "AMPM_OF_DAY", type := (.object "java/time/temporal/ChronoField"), accessFlags := 16409, slot := 14, constantValue := 0 }, { name := "DAY_OF_WEEK", type := (.object "java/time/temporal/ChronoField"), accessFlags := 16409, slot := 15, constantValue := 0 }, { name := "ALIGNED_DAY_OF_WEEK_IN_MONTH", type := (.object "java/time/temporal/ChronoField"), accessFlags := 16409, slot := 16, constantValue := 0 }, { name := "ALIGNED_DAY_OF_WEEK_IN_YEAR", type := (.object "java/time/temporal/ChronoField"), accessFlags := 16409, slot := 17, constantValue := 0 }, { name := "DAY_OF_MONTH", type := (.object "java/time/temporal/ChronoField"), accessFlags := 16409, slot := 18, constantValue := 0 }, { name := "DAY_OF_YEAR", type := (.object "java/time/temporal/ChronoField"), accessFlags := 16409, slot := 19, constantValue := 0 }, { name := "EPOCH_DAY", type := (.object "java/time/temporal/ChronoField"), accessFlags := 16409, slot := 20, constantValue := 0 }, { name := "ALIGNED_WEEK_OF_MONTH", type := (.object "java/time/temporal/ChronoField"), accessFlags := 16409, slot := 21, constantValue := 0 }, { name := "ALIGNED_WEEK_OF_YEAR", type := (.object "java/time/temporal/ChronoField"), accessFlags := 16409, slot := 22, constantValue := 0 }, { name := "MONTH_OF_YEAR", type := (.object "java/time/temporal/ChronoField"), accessFlags := 16409, slot := 23, constantValue := 0 }, { name := "PROLEPTIC_MONTH", type := (.object "java/time/temporal/ChronoField"), accessFlags := 16409, slot := 24, constantValue := 0 }, { name := "YEAR_OF_ERA", type := (.object "java/time/temporal/ChronoField"), accessFlags := 16409, slot := 25, constantValue := 0 }, { name := "YEAR", type := (.object "java/time/temporal/ChronoField"), accessFlags := 16409, slot := 26, constantValue := 0 }, { name := "ERA", type := (.object "java/time/temporal/ChronoField"), accessFlags := 16409, slot := 27, constantValue := 0 }, { name := "INSTANT_SECONDS", type := (.object "java/time/temporal/ChronoField"), accessFlags := 16409, slot := 28, constantValue := 0 }, { name := "OFFSET_SECONDS", type := (.object "java/time/temporal/ChronoField"), accessFlags := 16409, slot := 29, constantValue := 0 }, { name := "name", type := (.object "java/lang/String"), accessFlags := 18, slot := 3, constantValue := 0 }, { name := "baseUnit", type := (.object "java/time/temporal/TemporalUnit"), accessFlags := 18, slot := 4, constantValue := 0 }, { name := "rangeUnit", type := (.object "java/time/temporal/TemporalUnit"), accessFlags := 18, slot := 5, constantValue := 0 }, { name := "range", type := (.object "java/time/temporal/ValueRange"), accessFlags := 18, slot := 6, constantValue := 0 }, { name := "displayNameKey", type := (.object "java/lang/String"), accessFlags := 18, slot := 7, constantValue := 0 }, { name := "$VALUES", type := (.array (.object "java/time/temporal/ChronoField")), accessFlags := 4122, slot := 30, constantValue := 0 }]
  methods := #[k13m0, k13m1]
  instanceTypes := #[(.object "java/lang/String"), .int, .int, (.object "java/lang/String"), (.object "java/time/temporal/TemporalUnit"), (.object "java/time/temporal/TemporalUnit"), (.object "java/time/temporal/ValueRange"), (.object "java/lang/String")]
  staticTypes := #[(.object "java/time/temporal/ChronoField"), (.object "java/time/temporal/ChronoField"), (.object "java/time/temporal/ChronoField"), (.object "java/time/temporal/ChronoField"), (.object "java/time/temporal/ChronoField"), (.object "java/time/temporal/ChronoField"), (.object "java/time/temporal/ChronoField"), (.object "java/time/temporal/ChronoField"), (.object "java/time/temporal/ChronoField"), (.object "java/time/temporal/ChronoField"), (.object "java/time/temporal/ChronoField"), (.object "java/time/temporal/ChronoField"), (.object "java/time/temporal/ChronoField"), (.object "java/time/temporal/ChronoField"), (.object "java/time/temporal/ChronoField"), (.object "java/time/temporal/ChronoField"), (.object "java/time/temporal/ChronoField"), (.object "java/time/temporal/ChronoField"), (.object "java/time/temporal/ChronoField"), (.object "java/time/temporal/ChronoField"), (.object "java/time/temporal/ChronoField"), (.object "java/time/temporal/ChronoField"), (.object "java/time/temporal/ChronoField"), (.object "java/time/temporal/ChronoField"), (.object "java/time/temporal/ChronoField"), (.object "java/time/temporal/ChronoField"), (.object "java/time/temporal/ChronoField"), (.object "java/time/temporal/ChronoField"), (.object "java/time/temporal/ChronoField"), (.object "java/time/temporal/ChronoField"), (.array (.object "java/time/temporal/ChronoField"))]
  resolved := Array.replicate 507 none
  statics := some 0 }

def pool14 : Array CpInfo := pool [(9, .class_ 10), (0, u "java/time/temporal/ValueRange"), (18, .class_ 31), (1, u "java/lang/Object"), (1, .fieldref 9 34), (0, .nameAndType 35 36), (0, u "minSmallest"), (0, u "J"), (2, u "minLargest"), (2, u "maxSmallest"), (0, .fieldref 9 44), (0, .nameAndType 45 36), (0, u "maxLargest"), (0, .methodref 9 47), (0, .nameAndType 48 49), (0, u "getMinimum"), (0, u "()J"), (4, .methodref 9 55), (0, .nameAndType 56 49), (0, u "getMaximum"), (6, .methodref 9 64), (0, .nameAndType 65 66), (0, u "isValidValue"), (0, u "(J)Z"), (54, .class_ 122), (0, u "java/io/Serializable"), (0, u "serialVersionUID"), (17, u "checkValidValue"), (0, u "(JLjava/time/temporal/TemporalField;)J")] 24

def k14c0 : Code := { maxStack := 2, maxLocals := 1, code := jdk_2423_method_6_code, exceptionTable := #[], attributes := #[] }
def k14m0 : Method := { name := "getMinimum", desc := "()J", sig := { parameters := [], returnType := some .long }, accessFlags := 1, code := some k14c0 }
def k14c1 : Code := { maxStack := 2, maxLocals := 1, code := jdk_2423_method_9_code, exceptionTable := #[], attributes := #[] }
def k14m1 : Method := { name := "getMaximum", desc := "()J", sig := { parameters := [], returnType := some .long }, accessFlags := 1, code := some k14c1 }
def k14c2 : Code := { maxStack := 4, maxLocals := 3, code := jdk_2423_method_11_code, exceptionTable := #[], attributes := #[] }
def k14m2 : Method := { name := "isValidValue", desc := "(J)Z", sig := { parameters := [.long], returnType := some .boolean }, accessFlags := 1, code := some k14c2 }
def k14c3 : Code := { maxStack := 6, maxLocals := 4, code := jdk_2423_method_13_code, exceptionTable := #[], attributes := #[] }
def k14m3 : Method := { name := "checkValidValue", desc := "(JLjava/time/temporal/TemporalField;)J", sig := { parameters := [.long, (.object "java/time/temporal/TemporalField")], returnType := some .long }, accessFlags := 1, code := some k14c3 }
/-- java/time/temporal/ValueRange -/
def k14 : Class := { plain "java/time/temporal/ValueRange" (some 0) with
  accessFlags := 49
  interfaces := #[8]
  cf := some (fileOf pool14 9 #[] #[{ accessFlags := 1, nameIndex := 48, descriptorIndex := 49, attributes := #[] }, { accessFlags := 1, nameIndex := 56, descriptorIndex := 49, attributes := #[] }, { accessFlags := 1, nameIndex := 65, descriptorIndex := 66, attributes := #[] }, { accessFlags := 1, nameIndex := 141, descriptorIndex := 142, attributes := #[] }] 49 29 #[121] #[{ accessFlags := 26, nameIndex := 123, descriptorIndex := 36, attributes := #[] }, { accessFlags := 18, nameIndex := 35, descriptorIndex := 36, attributes := #[] }, { accessFlags := 18, nameIndex := 39, descriptorIndex := 36, attributes := #[] }, { accessFlags := 18, nameIndex := 42, descriptorIndex := 36, attributes := #[] }, { accessFlags := 18, nameIndex := 45, descriptorIndex := 36, attributes := #[] }])
  fields := #[{ name := "serialVersionUID", type := .long, accessFlags := 26, slot := 0, constantValue := 0 }, { name := "minSmallest", type := .long, accessFlags := 18, slot := 0, constantValue := 0 }, { name := "minLargest", type := .long, accessFlags := 18, slot := 1, constantValue := 0 }, { name := "maxSmallest", type := .long, accessFlags := 18, slot := 2, constantValue := 0 }, { name := "maxLargest", type := .long, accessFlags := 18, slot := 3, constantValue := 0 }]
  methods := #[k14m0, k14m1, k14m2, k14m3]
  instanceTypes := #[.long, .long, .long, .long]
  staticTypes := #[.long]
  resolved := Array.replicate 167 none
  statics := none }

def pool15 : Array CpInfo := pool [(4, .class_ 6), (1, u "java/time/temporal/TemporalUnit"), (23, .class_ 31), (0, u "java/lang/Object")] 27

/-- java/time/temporal/TemporalUnit -/
def k15 : Class := { plain "java/time/temporal/TemporalUnit" (some 0) with
  accessFlags := 1537
  interfaces := #[]
  cf := some (fileOf pool15 4 #[] #[] 1537 30 #[] #[])
  fields := #[]
  methods := #[]
  instanceTypes := #[]
  staticTypes := #[]
  resolved := Array.replicate 59 none
  statics := none }

def pool16 : Array CpInfo := pool [(1, .class_ 2), (0, u "java/time/temporal/ChronoUnit"), (2, u "NANOS"), (0, u "Ljava/time/temporal/ChronoUnit;"), (2, u "MICROS"), (2, u "MILLIS"), (2, u "SECONDS"), (2, u "MINUTES"), (2, u "HOURS"), (2, u "HALF_DAYS"), (2, u "DAYS"), (2, u "WEEKS"), (2, u "MONTHS"), (2, u "YEARS"), (2, u "DECADES"), (2, u "CENTURIES"), (2, u "MILLENNIA"), (2, u "ERAS"), (2, u "FOREVER"), (2, u "$VALUES"), (0, u "[Ljava/time/temporal/ChronoUnit;"), (6, .class_ 64), (1, u "java/lang/Enum"), (8, u "name"), (0, u "Ljava/lang/String;"), (2, u "duration"), (0, u "Ljava/time/Duration;"), (117, .class_ 197), (0, u "java/time/temporal/TemporalUnit")] 39

/-- java/time/temporal/ChronoUnit -/
def k16 : Class := { plain "java/time/temporal/ChronoUnit" (some 11) with
  accessFlags := 16433
  interfaces := #[15]
  cf := some (fileOf pool16 1 #[] #[] 16433 62 #[196] #[{ accessFlags := 16409, nameIndex := 5, descriptorIndex := 6, attributes := #[] }, { accessFlags := 16409, nameIndex := 9, descriptorIndex := 6, attributes := #[] }, { accessFlags := 16409, nameIndex := 12, descriptorIndex := 6, attributes := #[] }, { accessFlags := 16409, nameIndex := 15, descriptorIndex := 6, attributes := #[] }, { accessFlags := 16409, nameIndex := 18, descriptorIndex := 6, attributes := #[] }, { accessFlags := 16409, nameIndex := 21, descriptorIndex := 6, attributes := #[] }, { accessFlags := 16409, nameIndex := 24, descriptorIndex := 6, attributes := #[] }, { accessFlags := 16409, nameIndex := 27, descriptorIndex := 6, attributes := #[] }, { accessFlags := 16409, nameIndex := 30, descriptorIndex := 6, attributes := #[] }, { accessFlags := 16409, nameIndex := 33, descriptorIndex := 6, attributes := #[] }, { accessFlags := 16409, nameIndex := 36, descriptorIndex := 6, attributes := #[] }, { accessFlags := 16409, nameIndex := 39, descriptorIndex := 6, attributes := #[] }, { accessFlags := 16409, nameIndex := 42, descriptorIndex := 6, attributes := #[] }, { accessFlags := 16409, nameIndex := 45, descriptorIndex := 6, attributes := #[] }, { accessFlags := 16409, nameIndex := 48, descriptorIndex := 6, attributes := #[] }, { accessFlags := 16409, nameIndex := 51, descriptorIndex := 6, attributes := #[] }, { accessFlags := 18, nameIndex := 73, descriptorIndex := 74, attributes := #[] }, { accessFlags := 18, nameIndex := 77, descriptorIndex := 78, attributes := #[] }, { accessFlags := 4122, nameIndex := 54, descriptorIndex := 55, attributes := #[] }])
  fields := #[{ name := "NANOS", type := (.object "java/time/temporal/ChronoUnit"), accessFlags := 16409, slot := 0, constantValue := 0 }, { name := "MICROS", type := (.object "java/time/temporal/ChronoUnit"), accessFlags := 16409, slot := 1, constantValue := 0 }, { name := "MILLIS", type := (.object "java/time/temporal/ChronoUnit"), accessFlags := 16409, slot := 2, constantValue := 0 }, { name := "SECONDS", type := (.object "java/time/temporal/ChronoUnit"), accessFlags := 16409, slot := 3, constantValue := 0 }, { name := "MINUTES", type := (.object "java/time/temporal/ChronoUnit"), accessFlags := 16409, slot := 4, constantValue := 0 }, { name := "HOURS", type := (.object "java/time/temporal/ChronoUnit"), accessFlags := 16409, slot := 5, constantValue := 0 }, { name := "HALF_DAYS", type := (.object "java/time/temporal/ChronoUnit"), accessFlags := 16409, slot := 6, constantValue := 0 }, { name := "DAYS", type := (.object "java/time/temporal/ChronoUnit"), accessFlags := 16409, slot := 7, constantValue := 0 }, { name := "WEEKS", type := (.object "java/time/temporal/ChronoUnit"), accessFlags := 16409, slot := 8, constantValue := 0 }, { name := "MONTHS", type := (.object "java/time/temporal/ChronoUnit"), accessFlags := 16409, slot := 9, constantValue := 0 }, { name := "YEARS", type := (.object "java/time/temporal/ChronoUnit"), accessFlags := 16409, slot := 10, constantValue := 0 }, { name := "DECADES", type := (.object "java/time/temporal/ChronoUnit"), accessFlags := 16409, slot := 11, constantValue := 0 }, { name := "CENTURIES", type := (.object "java/time/temporal/ChronoUnit"), accessFlags := 16409, slot := 12, constantValue := 0 }, { name := "MILLENNIA", type := (.object "java/time/temporal/ChronoUnit"), accessFlags := 16409, slot := 13, constantValue := 0 }, { name := "ERAS", type := (.object "java/time/temporal/ChronoUnit"), accessFlags := 16409, slot := 14, constantValue := 0 }, { name := "FOREVER", type := (.object "java/time/temporal/ChronoUnit"), accessFlags := 16409, slot := 15, constantValue := 0 }, { name := "name", type := (.object "java/lang/String"), accessFlags := 18, slot := 3, constantValue := 0 }, { name := "duration", type := (.object "java/time/Duration"), accessFlags := 18, slot := 4, constantValue := 0 }, { name := "$VALUES", type := (.array (.object "java/time/temporal/ChronoUnit")), accessFlags := 4122, slot := 16, constantValue := 0 }]
  methods := #[]
  instanceTypes := #[(.object "java/lang/String"), .int, .int, (.object "java/lang/String"), (.object "java/time/Duration")]
  staticTypes := #[(.object "java/time/temporal/ChronoUnit"), (.object "java/time/temporal/ChronoUnit"), (.object "java/time/temporal/ChronoUnit"), (.object "java/time/temporal/ChronoUnit"), (.object "java/time/temporal/ChronoUnit"), (.object "java/time/temporal/ChronoUnit"), (.object "java/time/temporal/ChronoUnit"), (.object "java/time/temporal/ChronoUnit"), (.object "java/time/temporal/ChronoUnit"), (.object "java/time/temporal/ChronoUnit"), (.object "java/time/temporal/ChronoUnit"), (.object "java/time/temporal/ChronoUnit"), (.object "java/time/temporal/ChronoUnit"), (.object "java/time/temporal/ChronoUnit"), (.object "java/time/temporal/ChronoUnit"), (.object "java/time/temporal/ChronoUnit"), (.array (.object "java/time/temporal/ChronoUnit"))]
  resolved := Array.replicate 237 none
  statics := some 1 }

def pool17 : Array CpInfo := pool [(2, .class_ 4), (1, u "java/lang/CharSequence"), (42, .class_ 48), (0, u "java/lang/CharSequence$1CodePointIterator"), (10, .class_ 60), (0, u "java/lang/CharSequence$1CharIterator"), (5, .class_ 67), (0, u "java/lang/Object")] 63

/-- java/lang/CharSequence -/
def k17 : Class := { plain "java/lang/CharSequence" (some 0) with
  accessFlags := 1537
  interfaces := #[]
  cf := some (fileOf pool17 2 #[.nestMembers #[47, 59]] #[] 1537 66 #[] #[])
  fields := #[]
  methods := #[]
  instanceTypes := #[]
  staticTypes := #[]
  resolved := Array.replicate 131 none
  statics := none }

def pool18 : Array CpInfo := pool [(1, .class_ 2), (0, u "java/lang/constant/ConstantDesc"), (0, .class_ 4), (0, u "java/lang/Object")] 32

/-- java/lang/constant/ConstantDesc -/
def k18 : Class := { plain "java/lang/constant/ConstantDesc" (some 0) with
  accessFlags := 1537
  interfaces := #[]
  cf := some (fileOf pool18 1 #[] #[] 1537 3 #[] #[])
  fields := #[]
  methods := #[]
  instanceTypes := #[]
  staticTypes := #[]
  resolved := Array.replicate 37 none
  statics := none }

def pool19 : Array CpInfo := pool [(2, .class_ 4), (1, u "java/lang/Object"), (0, u "<init>"), (0, u "()V"), (3, .class_ 12), (1, u "java/lang/String"), (0, u "value"), (0, u "[B"), (2, u "coder"), (0, u "B"), (2, u "hash"), (0, u "I"), (2, u "hashIsZero"), (0, u "Z"), (13, u "COMPACT_STRINGS"), (534, .class_ 576), (0, u "java/lang/CharSequence"), (22, u "CASE_INSENSITIVE_ORDER"), (0, u "Ljava/util/Comparator;"), (500, u "serialPersistentFields"), (0, u "[Ljava/io/ObjectStreamField;"), (0, .class_ 1104), (0, u "java/lang/String$CaseInsensitiveComparator"), (1, .class_ 1107), (0, u "java/io/Serializable"), (0, .class_ 1109), (0, u "java/lang/Comparable"), (0, .class_ 1111), (0, u "java/lang/constant/Constable"), (0, .class_ 1113), (0, u "java/lang/constant/ConstantDesc"), (2, u "serialVersionUID"), (0, u "J"), (3, u "REPL"), (0, u "C"), (2, u "LATIN1"), (1, u "UTF16")] 323

def k19m0 : Method := { name := "<init>", desc := "()V", sig := { parameters := [], returnType := none }, accessFlags := 1, code := none }
/-- java/lang/String -/
def k19 : Class := { plain "java/lang/String" (some 0) with
  accessFlags := 49
  interfaces := #[8, 6, 17, 10, 18]
  cf := some (fileOf pool19 10 #[.nestMembers #[1103]] #[{ accessFlags := 1, nameIndex := 5, descriptorIndex := 6, attributes := #[] }] 49 2 #[1106, 1108, 575, 1110, 1112] #[{ accessFlags := 18, nameIndex := 13, descriptorIndex := 14, attributes := #[] }, { accessFlags := 18, nameIndex := 17, descriptorIndex := 18, attributes := #[] }, { accessFlags := 2, nameIndex := 21, descriptorIndex := 22, attributes := #[] }, { accessFlags := 2, nameIndex := 25, descriptorIndex := 26, attributes := #[] }, { accessFlags := 26, nameIndex := 1116, descriptorIndex := 1117, attributes := #[] }, { accessFlags := 24, nameIndex := 40, descriptorIndex := 26, attributes := #[] }, { accessFlags := 26, nameIndex := 1101, descriptorIndex := 1102, attributes := #[] }, { accessFlags := 26, nameIndex := 1121, descriptorIndex := 1122, attributes := #[] }, { accessFlags := 25, nameIndex := 599, descriptorIndex := 600, attributes := #[] }, { accessFlags := 24, nameIndex := 1125, descriptorIndex := 18, attributes := #[] }, { accessFlags := 24, nameIndex := 1127, descriptorIndex := 18, attributes := #[] }])
  fields := #[{ name := "value", type := (.array .byte), accessFlags := 18, slot := 0, constantValue := 0 }, { name := "coder", type := .byte, accessFlags := 18, slot := 1, constantValue := 0 }, { name := "hash", type := .int, accessFlags := 2, slot := 2, constantValue := 0 }, { name := "hashIsZero", type := .boolean, accessFlags := 2, slot := 3, constantValue := 0 }, { name := "serialVersionUID", type := .long, accessFlags := 26, slot := 0, constantValue := 0 }, { name := "COMPACT_STRINGS", type := .boolean, accessFlags := 24, slot := 1, constantValue := 0 }, { name := "serialPersistentFields", type := (.array (.object "java/io/ObjectStreamField")), accessFlags := 26, slot := 2, constantValue := 0 }, { name := "REPL", type := .char, accessFlags := 26, slot := 3, constantValue := 0 }, { name := "CASE_INSENSITIVE_ORDER", type := (.object "java/util/Comparator"), accessFlags := 25, slot := 4, constantValue := 0 }, { name := "LATIN1", type := .byte, accessFlags := 24, slot := 5, constantValue := 0 }, { name := "UTF16", type := .byte, accessFlags := 24, slot := 6, constantValue := 0 }]
  methods := #[k19m0]
  instanceTypes := #[(.array .byte), .byte, .int, .boolean]
  staticTypes := #[.long, .boolean, (.array (.object "java/io/ObjectStreamField")), .char, (.object "java/util/Comparator"), .byte, .byte]
  resolved := Array.replicate 1451 none
  statics := none }

def pool20 : Array CpInfo := pool [(1, .class_ 2), (0, u "java/time/temporal/TemporalAmount"), (0, .class_ 4), (0, u "java/lang/Object")] 11

/-- java/time/temporal/TemporalAmount -/
def k20 : Class := { plain "java/time/temporal/TemporalAmount" (some 0) with
  accessFlags := 1537
  interfaces := #[]
  cf := some (fileOf pool20 1 #[] #[] 1537 3 #[] #[])
  fields := #[]
  methods := #[]
  instanceTypes := #[]
  staticTypes := #[]
  resolved := Array.replicate 16 none
  statics := none }

def pool21 : Array CpInfo := pool [(11, .class_ 13), (1, u "java/time/Duration"), (20, u "ZERO"), (0, u "Ljava/time/Duration;"), (13, .class_ 51), (1, u "java/time/temporal/TemporalAmount"), (27, .class_ 81), (1, u "java/time/Duration$Lazy"), (35, u "seconds"), (101, .class_ 220), (0, u "java/lang/Object"), (2, u "J"), (2, u "nanos"), (0, u "I"), (11, .class_ 241), (1, u "java/time/Duration$DurationUnits"), (27, .class_ 271), (1, u "java/time/Duration$1"), (91, u "BI_NANOS_PER_SECOND"), (0, u "Ljava/math/BigInteger;"), (120, .class_ 486), (0, u "java/lang/Comparable"), (0, .class_ 488), (0, u "java/io/Serializable"), (0, u "serialVersionUID")] 166

/-- java/time/Duration -/
def k21 : Class := { plain "java/time/Duration" (some 0) with
  accessFlags := 49
  interfaces := #[20, 6, 8]
  cf := some (fileOf pool21 11 #[.nestMembers #[269, 239, 79]] #[] 49 219 #[49, 485, 487] #[{ accessFlags := 25, nameIndex := 34, descriptorIndex := 35, attributes := #[] }, { accessFlags := 26, nameIndex := 489, descriptorIndex := 223, attributes := #[] }, { accessFlags := 26, nameIndex := 363, descriptorIndex := 364, attributes := #[] }, { accessFlags := 18, nameIndex := 117, descriptorIndex := 223, attributes := #[] }, { accessFlags := 18, nameIndex := 226, descriptorIndex := 227, attributes := #[] }])
  fields := #[{ name := "ZERO", type := (.object "java/time/Duration"), accessFlags := 25, slot := 0, constantValue := 0 }, { name := "serialVersionUID", type := .long, accessFlags := 26, slot := 1, constantValue := 0 }, { name := "BI_NANOS_PER_SECOND", type := (.object "java/math/BigInteger"), accessFlags := 26, slot := 2, constantValue := 0 }, { name := "seconds", type := .long, accessFlags := 18, slot := 0, constantValue := 0 }, { name := "nanos", type := .int, accessFlags := 18, slot := 1, constantValue := 0 }]
  methods := #[]
  instanceTypes := #[.long, .int]
  staticTypes := #[(.object "java/time/Duration"), .long, (.object "java/math/BigInteger")]
  resolved := Array.replicate 656 none
  statics := none }

def pool22 : Array CpInfo := pool [(1, u "java/lang/Cloneable"), (0, .class_ 1), (0, u "java/lang/Object"), (0, .class_ 3)] 3

/-- java/lang/Cloneable -/
def k22 : Class := { plain "java/lang/Cloneable" (some 0) with
  accessFlags := 1537
  interfaces := #[]
  cf := some (fileOf pool22 2 #[] #[] 1537 4 #[] #[])
  fields := #[]
  methods := #[]
  instanceTypes := #[]
  staticTypes := #[]
  resolved := Array.replicate 8 none
  statics := none }

/-- the primitive byte -/
def k23 : Class := { plain "byte" none with kind := .primitive 'B', accessFlags := 0x411 }
/-- [B -/
def k24 : Class := { plain "[B" (some 0) with kind := .array 23 .byte, interfaces := #[22, 8], accessFlags := 1041 }

/-- the primitive int -/
def k25 : Class := { plain "int" none with kind := .primitive 'I', accessFlags := 0x411 }
/-- [I -/
def k26 : Class := { plain "[I" (some 0) with kind := .array 25 .int, interfaces := #[22, 8], accessFlags := 1041 }

def heap : Heap := #[{ cls := 13, slots := #[.null, .null, .null, .null, .null, .null, .null, .null, .null, .null, .null, .null, .null, .null, .null, .null, .null, .null, .ref 24, .null, .null, .null, .null, .ref 15, .null, .null, .ref 2, .null, .null, .null, .null], vm := .statics 13 },
  { cls := 16, slots := #[.null, .null, .null, .null, .null, .null, .null, .ref 27, .null, .ref 18, .ref 5, .null, .null, .null, .null, .ref 9, .null], vm := .statics 16 },
  { cls := 13, slots := #[.ref 3, .int (26), .int 0, .ref 4, .ref 5, .ref 9, .ref 13, .ref 14], vm := .none },
  { cls := 19, slots := #[.null, .int 0, .int 0, .int 0], vm := .none },
  { cls := 19, slots := #[.null, .int 0, .int 0, .int 0], vm := .none },
  { cls := 16, slots := #[.ref 6, .int (10), .int 0, .ref 7, .ref 8], vm := .none },
  { cls := 19, slots := #[.null, .int 0, .int 0, .int 0], vm := .none },
  { cls := 19, slots := #[.null, .int 0, .int 0, .int 0], vm := .none },
  { cls := 21, slots := #[.long 0, .int 0], vm := .none },
  { cls := 16, slots := #[.ref 10, .int (15), .int 0, .ref 11, .ref 12], vm := .none },
  { cls := 19, slots := #[.null, .int 0, .int 0, .int 0], vm := .none },
  { cls := 19, slots := #[.null, .int 0, .int 0, .int 0], vm := .none },
  { cls := 21, slots := #[.long 0, .int 0], vm := .none },
  { cls := 14, slots := #[.long (-999999999), .long (-999999999), .long (999999999), .long (999999999)], vm := .none },
  { cls := 19, slots := #[.null, .int 0, .int 0, .int 0], vm := .none },
  { cls := 13, slots := #[.ref 16, .int (23), .int 0, .ref 17, .ref 18, .ref 5, .ref 22, .ref 23], vm := .none },
  { cls := 19, slots := #[.null, .int 0, .int 0, .int 0], vm := .none },
  { cls := 19, slots := #[.null, .int 0, .int 0, .int 0], vm := .none },
  { cls := 16, slots := #[.ref 19, .int (9), .int 0, .ref 20, .ref 21], vm := .none },
  { cls := 19, slots := #[.null, .int 0, .int 0, .int 0], vm := .none },
  { cls := 19, slots := #[.null, .int 0, .int 0, .int 0], vm := .none },
  { cls := 21, slots := #[.long 0, .int 0], vm := .none },
  { cls := 14, slots := #[.long (1), .long (1), .long (12), .long (12)], vm := .none },
  { cls := 19, slots := #[.null, .int 0, .int 0, .int 0], vm := .none },
  { cls := 13, slots := #[.ref 25, .int (18), .int 0, .ref 26, .ref 27, .ref 18, .ref 31, .ref 32], vm := .none },
  { cls := 19, slots := #[.null, .int 0, .int 0, .int 0], vm := .none },
  { cls := 19, slots := #[.null, .int 0, .int 0, .int 0], vm := .none },
  { cls := 16, slots := #[.ref 28, .int (7), .int 0, .ref 29, .ref 30], vm := .none },
  { cls := 19, slots := #[.null, .int 0, .int 0, .int 0], vm := .none },
  { cls := 19, slots := #[.null, .int 0, .int 0, .int 0], vm := .none },
  { cls := 21, slots := #[.long 0, .int 0], vm := .none },
  { cls := 14, slots := #[.long (1), .long (1), .long (28), .long (31)], vm := .none },
  { cls := 19, slots := #[.null, .int 0, .int 0, .int 0], vm := .none }]
def classes : Array Class := #[k0, k1, k2, k3, k4, k5, k6, k7, k8, k9, k10, k11, k12, k13, k14, k15, k16, k17, k18, k19, k20, k21, k22, k23, k24, k25, k26]
def interned : List (Array UInt16 × Addr) := []
def slotsUsed : Nat := 180
def theMethod : MethodId := ⟨1, 1⟩
def args0 : Array Value := #[.int 5]
def aboutOver (below : List Frame) : State where
  vm := { classes := classes, interned := interned.toArray }
  heap := heap
  slotsUsed := slotsUsed
  threads := #[{ frames := .invoking theMethod args0 :: below }]
def below0 : List Frame := [.native { method := ⟨0, 0⟩, args := #[] }]
def about1 : State := aboutOver below0
def p0 : Program := .bare "" "" ""
def e0 : Env := launch0.env 0 0 0
theorem w_frames : about1.frames = Frame.invoking theMethod args0 :: below0 := rfl
set_option maxRecDepth 65536 in
theorem w_args : argsFit about1.vm theMethod args0 = true := by decide +kernel
set_option maxRecDepth 65536 in
theorem w_heap : heapFits about1 = true := by decide +kernel
set_option maxRecDepth 65536 in
theorem w_runnable : about1.curStatus? = some .runnable := by decide +kernel
set_option maxRecDepth 65536 in
theorem w_alone : about1.alone = true := by decide +kernel
set_option maxRecDepth 65536 in
theorem w_named : about1.methodNamed? x = some theMethod := by decide +kernel
set_option maxRecDepth 65536 in
theorem w_hears : about1.hears theMethod below0 = true := by decide +kernel
set_option maxRecDepth 65536 in
theorem w_ripe : about1.ripe theMethod args0 below0 = true := by decide +kernel
theorem w_running : about1.status = .running := rfl
set_option maxRecDepth 65536 in
theorem w_room : about1.hasRoom e0.platform room_1 = true :=
  launch0.hasRoom_least _ room_1 (by decide +kernel) (by decide +kernel) (by decide +kernel) (by decide +kernel) (by decide +kernel) (by decide +kernel)
theorem allAtoms_all (ts : List Jvm.Cond) (a : Array Jvm.Value) (st : Jvm.State) : (allAtoms ts).before a st = ts.all (fun c => c.before a st) := by
  induction ts with
  | nil => rfl
  | cons c t ih =>
    show (Jvm.Cond.and c (allAtoms t)).before a st = _
    rw [Jvm.Cond.before_and, ih, List.all_cons]
def words1 : List Jvm.Cond := Jvm.Cond.code x code maxLocals ret :: tables_1
/-- a 'code' word, met by the world's own term for the bytes: nothing is compared byte by byte -/
theorem code_word {y : MethodName} {bytes : ByteArray} {mx : Nat} {rt : Option FieldType} {a : Array Value} {s : State} {m : MethodId} {meth : Method} {c : Code} (h1 : s.methodNamed? y = some m) (h2 : s.vm.method? m = some meth) (h3 : meth.code = some c) (h4 : c.code = bytes)
    (h5 : (c.maxLocals == mx && c.exceptionTable.isEmpty && decide (c.maxStack ≤ mostOperands) && decide (meth.sig.returnType = rt) && !meth.locks && decide (parseMethodDescriptor y.desc = some meth.sig)) = true) : (Jvm.Cond.code y bytes mx rt).before a s = true := by
  simp only [Bool.and_eq_true, beq_iff_eq, Bool.not_eq_true', decide_eq_true_eq] at h5
  obtain ⟨⟨⟨⟨⟨g1, g2⟩, g3⟩, g4⟩, g5⟩, g6⟩ := h5
  simp [Cond.before, Cond.holds, Cond.value, h1, h2, h3, h4, g1, g2, g3, g4, g5, g6]
def isCode : Jvm.Cond → Bool
  | .code _ _ _ _ => true
  | _ => false
theorem all_split {L : List Jvm.Cond} {P : Jvm.Cond → Bool} (h1 : L.all (fun c => isCode c || P c) = true) (h2 : ∀ c ∈ L.filter isCode, P c = true) : L.all P = true := by
  refine List.all_eq_true.mpr fun c hc => ?_
  have h := List.all_eq_true.mp h1 c hc
  rcases Bool.eq_false_or_eq_true (isCode c) with hi | hi
  · exact h2 c (List.mem_filter.mpr ⟨hc, hi⟩)
  · simpa [hi] using h
set_option maxRecDepth 65536 in
theorem w_c0 : (Jvm.Cond.code x code maxLocals ret).before args0 about1 = true := code_word (m := ⟨1, 1⟩) (meth := k1m1) (c := k1c1) (by decide +kernel) rfl rfl rfl (by decide +kernel)
set_option maxRecDepth 65536 in
theorem w_c1 : (Jvm.Cond.code ({ cls := "com/example/settlewright/settlewright/calc/HolidayRules", name := "easterSunday", desc := "(I)Ljava/time/LocalDate;" } : Jvm.MethodName) prog_20_method_2_code (7 : Nat) (Option.some (Jvm.ClassFile.FieldType.object "java/time/LocalDate"))).before args0 about1 = true := code_word (m := ⟨2, 1⟩) (meth := k2m1) (c := k2c1) (by decide +kernel) rfl rfl rfl (by decide +kernel)
set_option maxRecDepth 65536 in
theorem w_c2 : (Jvm.Cond.code ({ cls := "java/time/LocalDate", name := "of", desc := "(III)Ljava/time/LocalDate;" } : Jvm.MethodName) jdk_2323_method_5_code (3 : Nat) (Option.some (Jvm.ClassFile.FieldType.object "java/time/LocalDate"))).before args0 about1 = true := code_word (m := ⟨9, 0⟩) (meth := k9m0) (c := k9c0) (by decide +kernel) rfl rfl rfl (by decide +kernel)
set_option maxRecDepth 65536 in
theorem w_c3 : (Jvm.Cond.code ({ cls := "java/time/temporal/ChronoField", name := "checkValidValue", desc := "(J)J" } : Jvm.MethodName) jdk_2395_method_11_code (3 : Nat) (Option.some Jvm.ClassFile.FieldType.long)).before args0 about1 = true := code_word (m := ⟨13, 1⟩) (meth := k13m1) (c := k13c1) (by decide +kernel) rfl rfl rfl (by decide +kernel)
set_option maxRecDepth 65536 in
theorem w_c4 : (Jvm.Cond.code ({ cls := "java/time/temporal/ChronoField", name := "range", desc := "()Ljava/time/temporal/ValueRange;" } : Jvm.MethodName) jdk_2395_method_8_code (1 : Nat) (Option.some (Jvm.ClassFile.FieldType.object "java/time/temporal/ValueRange"))).before args0 about1 = true := code_word (m := ⟨13, 0⟩) (meth := k13m0) (c := k13c0) (by decide +kernel) rfl rfl rfl (by decide +kernel)
set_option maxRecDepth 65536 in
theorem w_c5 : (Jvm.Cond.code ({ cls := "java/time/temporal/ValueRange", name := "checkValidValue", desc := "(JLjava/time/temporal/TemporalField;)J" } : Jvm.MethodName) jdk_2423_method_13_code (4 : Nat) (Option.some Jvm.ClassFile.FieldType.long)).before args0 about1 = true := code_word (m := ⟨14, 3⟩) (meth := k14m3) (c := k14c3) (by decide +kernel) rfl rfl rfl (by decide +kernel)
set_option maxRecDepth 65536 in
theorem w_c6 : (Jvm.Cond.code ({ cls := "java/time/temporal/ValueRange", name := "isValidValue", desc := "(J)Z" } : Jvm.MethodName) jdk_2423_method_11_code (3 : Nat) (Option.some Jvm.ClassFile.FieldType.boolean)).before args0 about1 = true := code_word (m := ⟨14, 2⟩) (meth := k14m2) (c := k14c2) (by decide +kernel) rfl rfl rfl (by decide +kernel)
set_option maxRecDepth 65536 in
theorem w_c7 : (Jvm.Cond.code ({ cls := "java/time/temporal/ValueRange", name := "getMinimum", desc := "()J" } : Jvm.MethodName) jdk_2423_method_6_code (1 : Nat) (Option.some Jvm.ClassFile.FieldType.long)).before args0 about1 = true := code_word (m := ⟨14, 0⟩) (meth := k14m0) (c := k14c0) (by decide +kernel) rfl rfl rfl (by decide +kernel)
set_option maxRecDepth 65536 in
theorem w_c8 : (Jvm.Cond.code ({ cls := "java/time/temporal/ValueRange", name := "getMaximum", desc := "()J" } : Jvm.MethodName) jdk_2423_method_9_code (1 : Nat) (Option.some Jvm.ClassFile.FieldType.long)).before args0 about1 = true := code_word (m := ⟨14, 1⟩) (meth := k14m1) (c := k14c1) (by decide +kernel) rfl rfl rfl (by decide +kernel)
set_option maxRecDepth 65536 in
theorem w_c9 : (Jvm.Cond.code ({ cls := "java/time/LocalDate", name := "create", desc := "(III)Ljava/time/LocalDate;" } : Jvm.MethodName) jdk_2323_method_12_code (4 : Nat) (Option.some (Jvm.ClassFile.FieldType.object "java/time/LocalDate"))).before args0 about1 = true := code_word (m := ⟨9, 1⟩) (meth := k9m1) (c := k9c1) (by decide +kernel) rfl rfl rfl (by decide +kernel)
set_option maxRecDepth 65536 in
theorem w_c10 : (Jvm.Cond.code ({ cls := "java/time/LocalDate", name := "<init>", desc := "(III)V" } : Jvm.MethodName) jdk_2323_method_14_code (4 : Nat) (Option.none : Option Jvm.ClassFile.FieldType)).before args0 about1 = true := code_word (m := ⟨9, 2⟩) (meth := k9m2) (c := k9c2) (by decide +kernel) rfl rfl rfl (by decide +kernel)
set_option maxRecDepth 65536 in
theorem w_c11 : (Jvm.Cond.code ({ cls := "java/lang/Object", name := "<init>", desc := "()V" } : Jvm.MethodName) object_method_1_code (1 : Nat) (Option.none : Option Jvm.ClassFile.FieldType)).before args0 about1 = true := code_word (m := ⟨0, 0⟩) (meth := k0m0) (c := k0c0) (by decide +kernel) rfl rfl rfl (by decide +kernel)
set_option maxRecDepth 65536 in
theorem w_c12 : (Jvm.Cond.code ({ cls := "java/time/LocalDate", name := "plusDays", desc := "(J)Ljava/time/LocalDate;" } : Jvm.MethodName) jdk_2323_method_44_code (7 : Nat) (Option.some (Jvm.ClassFile.FieldType.object "java/time/LocalDate"))).before args0 about1 = true := code_word (m := ⟨9, 7⟩) (meth := k9m7) (c := k9c7) (by decide +kernel) rfl rfl rfl (by decide +kernel)
set_option maxRecDepth 65536 in
theorem w_c13 : (Jvm.Cond.code ({ cls := "java/time/LocalDate", name := "lengthOfMonth", desc := "()I" } : Jvm.MethodName) jdk_2323_method_31_code (1 : Nat) (Option.some Jvm.ClassFile.FieldType.int)).before args0 about1 = true := code_word (m := ⟨9, 6⟩) (meth := k9m6) (c := k9c6) (by decide +kernel) rfl rfl rfl (by decide +kernel)
set_option maxRecDepth 65536 in
theorem w_c14 : (Jvm.Cond.code ({ cls := "java/time/LocalDate", name := "getYear", desc := "()I" } : Jvm.MethodName) jdk_2323_method_24_code (1 : Nat) (Option.some Jvm.ClassFile.FieldType.int)).before args0 about1 = true := code_word (m := ⟨9, 3⟩) (meth := k9m3) (c := k9c3) (by decide +kernel) rfl rfl rfl (by decide +kernel)
set_option maxRecDepth 65536 in
theorem w_c15 : (Jvm.Cond.code ({ cls := "java/time/LocalDate", name := "getMonthValue", desc := "()I" } : Jvm.MethodName) jdk_2323_method_25_code (1 : Nat) (Option.some Jvm.ClassFile.FieldType.int)).before args0 about1 = true := code_word (m := ⟨9, 4⟩) (meth := k9m4) (c := k9c4) (by decide +kernel) rfl rfl rfl (by decide +kernel)
set_option maxRecDepth 65536 in
theorem w_c16 : (Jvm.Cond.code ({ cls := "java/time/LocalDate", name := "getDayOfMonth", desc := "()I" } : Jvm.MethodName) jdk_2323_method_27_code (1 : Nat) (Option.some Jvm.ClassFile.FieldType.int)).before args0 about1 = true := code_word (m := ⟨9, 5⟩) (meth := k9m5) (c := k9c5) (by decide +kernel) rfl rfl rfl (by decide +kernel)
def codes1 : List Jvm.Cond := [Jvm.Cond.code x code maxLocals ret, Jvm.Cond.code ({ cls := "com/example/settlewright/settlewright/calc/HolidayRules", name := "easterSunday", desc := "(I)Ljava/time/LocalDate;" } : Jvm.MethodName) prog_20_method_2_code (7 : Nat) (Option.some (Jvm.ClassFile.FieldType.object "java/time/LocalDate")), Jvm.Cond.code ({ cls := "java/time/LocalDate", name := "of", desc := "(III)Ljava/time/LocalDate;" } : Jvm.MethodName) jdk_2323_method_5_code (3 : Nat) (Option.some (Jvm.ClassFile.FieldType.object "java/time/LocalDate")), Jvm.Cond.code ({ cls := "java/time/temporal/ChronoField", name := "checkValidValue", desc := "(J)J" } : Jvm.MethodName) jdk_2395_method_11_code (3 : Nat) (Option.some Jvm.ClassFile.FieldType.long), Jvm.Cond.code ({ cls := "java/time/temporal/ChronoField", name := "range", desc := "()Ljava/time/temporal/ValueRange;" } : Jvm.MethodName) jdk_2395_method_8_code (1 : Nat) (Option.some (Jvm.ClassFile.FieldType.object "java/time/temporal/ValueRange")), Jvm.Cond.code ({ cls := "java/time/temporal/ValueRange", name := "checkValidValue", desc := "(JLjava/time/temporal/TemporalField;)J" } : Jvm.MethodName) jdk_2423_method_13_code (4 : Nat) (Option.some Jvm.ClassFile.FieldType.long), Jvm.Cond.code ({ cls := "java/time/temporal/ValueRange", name := "isValidValue", desc := "(J)Z" } : Jvm.MethodName) jdk_2423_method_11_code (3 : Nat) (Option.some Jvm.ClassFile.FieldType.boolean), Jvm.Cond.code ({ cls := "java/time/temporal/ValueRange", name := "getMinimum", desc := "()J" } : Jvm.MethodName) jdk_2423_method_6_code (1 : Nat) (Option.some Jvm.ClassFile.FieldType.long), Jvm.Cond.code ({ cls := "java/time/temporal/ValueRange", name := "getMaximum", desc := "()J" } : Jvm.MethodName) jdk_2423_method_9_code (1 : Nat) (Option.some Jvm.ClassFile.FieldType.long), Jvm.Cond.code ({ cls := "java/time/LocalDate", name := "create", desc := "(III)Ljava/time/LocalDate;" } : Jvm.MethodName) jdk_2323_method_12_code (4 : Nat) (Option.some (Jvm.ClassFile.FieldType.object "java/time/LocalDate")), Jvm.Cond.code ({ cls := "java/time/LocalDate", name := "<init>", desc := "(III)V" } : Jvm.MethodName) jdk_2323_method_14_code (4 : Nat) (Option.none : Option Jvm.ClassFile.FieldType), Jvm.Cond.code ({ cls := "java/lang/Object", name := "<init>", desc := "()V" } : Jvm.MethodName) object_method_1_code (1 : Nat) (Option.none : Option Jvm.ClassFile.FieldType), Jvm.Cond.code ({ cls := "java/time/LocalDate", name := "plusDays", desc := "(J)Ljava/time/LocalDate;" } : Jvm.MethodName) jdk_2323_method_44_code (7 : Nat) (Option.some (Jvm.ClassFile.FieldType.object "java/time/LocalDate")), Jvm.Cond.code ({ cls := "java/time/LocalDate", name := "lengthOfMonth", desc := "()I" } : Jvm.MethodName) jdk_2323_method_31_code (1 : Nat) (Option.some Jvm.ClassFile.FieldType.int), Jvm.Cond.code ({ cls := "java/time/LocalDate", name := "getYear", desc := "()I" } : Jvm.MethodName) jdk_2323_method_24_code (1 : Nat) (Option.some Jvm.ClassFile.FieldType.int), Jvm.Cond.code ({ cls := "java/time/LocalDate", name := "getMonthValue", desc := "()I" } : Jvm.MethodName) jdk_2323_method_25_code (1 : Nat) (Option.some Jvm.ClassFile.FieldType.int), Jvm.Cond.code ({ cls := "java/time/LocalDate", name := "getDayOfMonth", desc := "()I" } : Jvm.MethodName) jdk_2323_method_27_code (1 : Nat) (Option.some Jvm.ClassFile.FieldType.int)]
set_option maxRecDepth 65536 in
theorem codes_eq : words1.filter isCode = codes1 := rfl
theorem w_codes : ∀ c ∈ words1.filter isCode, c.before args0 about1 = true := by
  rw [codes_eq]
  intro c hc
  simp only [codes1, List.mem_cons, List.not_mem_nil, or_false] at hc
  rcases hc with rfl | rfl | rfl | rfl | rfl | rfl | rfl | rfl | rfl | rfl | rfl | rfl | rfl | rfl | rfl | rfl | rfl
  · exact w_c0
  · exact w_c1
  · exact w_c2
  · exact w_c3
  · exact w_c4
  · exact w_c5
  · exact w_c6
  · exact w_c7
  · exact w_c8
  · exact w_c9
  · exact w_c10
  · exact w_c11
  · exact w_c12
  · exact w_c13
  · exact w_c14
  · exact w_c15
  · exact w_c16
set_option maxRecDepth 65536 in
theorem w_t1 : (words1.take 24).all (fun c => isCode c || c.before args0 about1) = true := by decide +kernel
set_option maxRecDepth 65536 in
theorem w_t2 : ((words1.drop 24).take 24).all (fun c => isCode c || c.before args0 about1) = true := by decide +kernel
set_option maxRecDepth 65536 in
theorem w_t3 : (((words1.drop 24).drop 24).take 24).all (fun c => isCode c || c.before args0 about1) = true := by decide +kernel
set_option maxRecDepth 65536 in
theorem w_t4 : ((((words1.drop 24).drop 24).drop 24).take 24).all (fun c => isCode c || c.before args0 about1) = true := by decide +kernel
set_option maxRecDepth 65536 in
theorem w_t5 : ((((words1.drop 24).drop 24).drop 24).drop 24).all (fun c => isCode c || c.before args0 about1) = true := by decide +kernel
theorem w_tables : (allAtoms (Jvm.Cond.code x code maxLocals ret :: tables_1)).before args0 about1 = true := by
  rw [allAtoms_all]
  show words1.all (fun c => c.before args0 about1) = true
  refine all_split ?_ w_codes
  rw [← List.take_append_drop 24 words1, List.all_append, w_t1, ← List.take_append_drop 24 (words1.drop 24), List.all_append, w_t2, ← List.take_append_drop 24 ((words1.drop 24).drop 24), List.all_append, w_t3, ← List.take_append_drop 24 (((words1.drop 24).drop 24).drop 24), List.all_append, w_t4, w_t5]
  rfl
set_option maxRecDepth 65536 in
theorem w_rest : rest_1_c.before args0 about1 = true := by decide +kernel
set_option maxRecDepth 65536 in
theorem w_case : (Jvm.Cond.and given_1 narrow_1).before args0 about1 = true := by decide +kernel
theorem w_applies : (headSpec (Jvm.Cond.code x code maxLocals ret :: tables_1) room_1).applies x e0.platform about1 = true :=
  (Spec.applies_iff w_frames).mpr ⟨w_running, w_runnable, w_alone, w_named, w_hears, w_ripe, w_room, w_tables⟩
theorem atStart : AtStart classFile x code maxLocals ret World_1 tables_1 room_1 Calls_1 rest_1 Pre_1 launch0 p0 e0 about1 theMethod args0 below0 :=
  ⟨lists_1, trivial, launch0.admits_env _ _ _, launch0.least_env, fairChoices_fair.cas, fairChoices_fair.clock, w_frames, w_args, w_heap, w_applies, trivial, w_rest, w_case⟩
end start1
theorem witness_1 : WitnessClaimed_1 := ⟨start1.p0, start1.e0, start1.about1, start1.theMethod, start1.args0, start1.below0, start1.atStart⟩
end Jvm.Pilot.@@N@@
