import JvmDerived
import JvmDerived.Pilot.@@N@@Statement
import JvmDerived.Pilot.@@N@@Code
set_option linter.unusedVariables false
set_option linter.unusedSimpArgs false
namespace Jvm.Wk
open Sem ClassFile Op Lib Jvm.Stand Jvm.Free Jvm.LawKit Jvm.RoadKit
section W
variable {p : Program} {l : Launch} {e : Env} {R : Room} {s : State} {m : MethodId} {args : Array Value} {below : List Frame} {meth : Method} {c : Code} {T T' : State} {locs : List Loc} {cells slots : Nat} {Q : Option Value → Heap → List Loc → Prop} {K N pc n t : Nat} {Ls l' : Array Slot} {st rest : List Value} {Z : State} {a0 : Array Value} {h : Heap}
/-- the walk stands at the frame g over T and comes to an end that Q allows -/
def Go (p : Program) (e : Env) (below : List Frame) (s : State) (Q : Option Value → Heap → List Loc → Prop) (K N : Nat) (T : State) (g : JFrame) : Prop :=
  ∃ s₂ o, Steps p.tables e below (T.setTop g) s₂ ∧ s₂.status = .running ∧ Ended s₂ below o ∧ ∃ v L, o = .returned v ∧ Q v s₂.heap L ∧ FrameEnd s o s₂ L K N
theorem cut {A B : Prop} (h1 : A → B) (h2 : A) : B := h1 h2
theorem go {g g' : JFrame} (h : ∀ target, Steps p.tables e below (T'.setTop g') target → Steps p.tables e below (T.setTop g) target) (F : Go p e below s Q K N T' g') : Go p e below s Q K N T g := by
  obtain ⟨s₂, o, h1, r⟩ := F
  exact ⟨s₂, o, h _ h1, r⟩
/-- a boolean as an int -/
def b (P : Prop) [Decidable P] : Int32 := if P then 1 else 0
theorem b_t {P : Prop} [Decidable P] (h : P) : b P = 1 := if_pos h
theorem b_f {P : Prop} [Decidable P] (h : ¬ P) : b P = 0 := if_neg h
theorem b_iff {P P' : Prop} [Decidable P] [Decidable P'] (h : P ↔ P') : b P = b P' := by
  by_cases q : P
  · rw [b_t q, b_t (h.mp q)]
  · rw [b_f q, b_f (fun z => q (h.mpr z))]
theorem b_inj {P P' : Prop} [Decidable P] [Decidable P'] (h : b P = b P') : P ↔ P' := by
  by_cases q : P <;> by_cases q' : P' <;> simp_all [b]
/-- a mask with one more bit, or as it is -/
def ob (P : Prop) [Decidable P] (k x : Int32) : Int32 := if P then x ||| k else x
theorem ob_t {P : Prop} [Decidable P] {k x : Int32} (h : P) : ob P k x = x ||| k := if_pos h
theorem ob_f {P : Prop} [Decidable P] {k x : Int32} (h : ¬ P) : ob P k x = x := if_neg h
theorem goB1 {P : Prop} [Decidable P] (H : Go p e below s Q K N T (mkF m pc Ls (.int (b P) :: st))) (hP : P) : Go p e below s Q K N T (mkF m pc Ls (.int 1 :: st)) := by rw [b_t hP] at H; exact H
theorem goB0 {P : Prop} [Decidable P] (H : Go p e below s Q K N T (mkF m pc Ls (.int (b P) :: st))) (hP : ¬ P) : Go p e below s Q K N T (mkF m pc Ls (.int 0 :: st)) := by rw [b_f hP] at H; exact H

theorem iloadN (X : Stand p l e R s m args below meth c T locs cells slots) (hx : p.tables.exec = Jvm.exec) {k : Fin 4} {v : Int32} (hd : decode c.code pc = .ok (.iload_n k, 1)) (hl : Ls[k.val]? = some (.val (.int v))) (hn : pc + 1 = n) (F : Go p e below s Q K N T (mkF m n Ls (.int v :: st))) : Go p e below s Q K N T (mkF m pc Ls st) := by
  subst hn
  exact go (fun _ h => XS.iloadN X.here hx rfl hd hl h) F
theorem iload (X : Stand p l e R s m args below meth c T locs cells slots) (hx : p.tables.exec = Jvm.exec) {k : Nat} {v : Int32} (hd : decode c.code pc = .ok (.iload k, 2)) (hl : Ls[k]? = some (.val (.int v))) (hn : pc + 2 = n) (F : Go p e below s Q K N T (mkF m n Ls (.int v :: st))) : Go p e below s Q K N T (mkF m pc Ls st) := by
  subst hn
  exact go (fun _ h => XS.iload X.here hx rfl hd hl h) F
theorem aloadN (X : Stand p l e R s m args below meth c T locs cells slots) (hx : p.tables.exec = Jvm.exec) {k : Fin 4} {v : Value} (hd : decode c.code pc = .ok (.aload_n k, 1)) (hl : Ls[k.val]? = some (.val v)) (hv : v.isRef = true) (hn : pc + 1 = n) (F : Go p e below s Q K N T (mkF m n Ls (v :: st))) : Go p e below s Q K N T (mkF m pc Ls st) := by
  subst hn
  exact go (fun _ h => XS.aloadN X.here hx rfl hd hl hv h) F
theorem aload (X : Stand p l e R s m args below meth c T locs cells slots) (hx : p.tables.exec = Jvm.exec) {k : Nat} {v : Value} (hd : decode c.code pc = .ok (.aload k, 2)) (hl : Ls[k]? = some (.val v)) (hv : v.isRef = true) (hn : pc + 2 = n) (F : Go p e below s Q K N T (mkF m n Ls (v :: st))) : Go p e below s Q K N T (mkF m pc Ls st) := by
  subst hn
  exact go (fun _ h => XS.aload X.here hx rfl hd hl hv h) F
theorem lloadN (X : Stand p l e R s m args below meth c T locs cells slots) (hx : p.tables.exec = Jvm.exec) {k : Fin 4} {v : Int64} (hd : decode c.code pc = .ok (.lload_n k, 1)) (hl : Ls[k.val]? = some (.val (.long v))) (hn : pc + 1 = n) (F : Go p e below s Q K N T (mkF m n Ls (.long v :: st))) : Go p e below s Q K N T (mkF m pc Ls st) := by
  subst hn
  exact go (fun _ h => XT.lloadN X.here hx rfl hd hl h) F
theorem lload (X : Stand p l e R s m args below meth c T locs cells slots) (hx : p.tables.exec = Jvm.exec) {k : Nat} {v : Int64} (hd : decode c.code pc = .ok (.lload k, 2)) (hl : Ls[k]? = some (.val (.long v))) (hn : pc + 2 = n) (F : Go p e below s Q K N T (mkF m n Ls (.long v :: st))) : Go p e below s Q K N T (mkF m pc Ls st) := by
  subst hn
  exact go (fun _ h => XT.lload X.here hx rfl hd hl h) F
theorem istoreN (X : Stand p l e R s m args below meth c T locs cells slots) (hx : p.tables.exec = Jvm.exec) {k : Fin 4} {x : Int32} (hd : decode c.code pc = .ok (.istore_n k, 1)) (hl : storeLocals Ls k.val (.int x) = some l') (hn : pc + 1 = n) (F : Go p e below s Q K N T (mkF m n l' st)) : Go p e below s Q K N T (mkF m pc Ls (.int x :: st)) := by
  subst hn
  exact go (fun _ h => XS.istoreN X.here hx rfl hd rfl hl h) F
theorem istore (X : Stand p l e R s m args below meth c T locs cells slots) (hx : p.tables.exec = Jvm.exec) {k : Nat} {x : Int32} (hd : decode c.code pc = .ok (.istore k, 2)) (hl : storeLocals Ls k (.int x) = some l') (hn : pc + 2 = n) (F : Go p e below s Q K N T (mkF m n l' st)) : Go p e below s Q K N T (mkF m pc Ls (.int x :: st)) := by
  subst hn
  exact go (fun _ h => XS.istore X.here hx rfl hd rfl hl h) F
theorem astoreN (X : Stand p l e R s m args below meth c T locs cells slots) (hx : p.tables.exec = Jvm.exec) {k : Fin 4} {x : Value} (hd : decode c.code pc = .ok (.astore_n k, 1)) (hv : x.isRef = true) (hl : storeLocals Ls k.val x = some l') (hn : pc + 1 = n) (F : Go p e below s Q K N T (mkF m n l' st)) : Go p e below s Q K N T (mkF m pc Ls (x :: st)) := by
  subst hn
  exact go (fun _ h => XS.astoreN X.here hx rfl hd rfl hv hl h) F
theorem astore (X : Stand p l e R s m args below meth c T locs cells slots) (hx : p.tables.exec = Jvm.exec) {k : Nat} {x : Value} (hd : decode c.code pc = .ok (.astore k, 2)) (hv : x.isRef = true) (hl : storeLocals Ls k x = some l') (hn : pc + 2 = n) (F : Go p e below s Q K N T (mkF m n l' st)) : Go p e below s Q K N T (mkF m pc Ls (x :: st)) := by
  subst hn
  exact go (fun _ h => XS.astore X.here hx rfl hd rfl hv hl h) F
theorem lstoreN (X : Stand p l e R s m args below meth c T locs cells slots) (hx : p.tables.exec = Jvm.exec) {k : Fin 4} {x : Int64} (hd : decode c.code pc = .ok (.lstore_n k, 1)) (hl : storeLocals Ls k.val (.long x) = some l') (hn : pc + 1 = n) (F : Go p e below s Q K N T (mkF m n l' st)) : Go p e below s Q K N T (mkF m pc Ls (.long x :: st)) := by
  subst hn
  exact go (fun _ h => XT.lstoreN X.here hx rfl hd rfl hl h) F
theorem lstore (X : Stand p l e R s m args below meth c T locs cells slots) (hx : p.tables.exec = Jvm.exec) {k : Nat} {x : Int64} (hd : decode c.code pc = .ok (.lstore k, 2)) (hl : storeLocals Ls k (.long x) = some l') (hn : pc + 2 = n) (F : Go p e below s Q K N T (mkF m n l' st)) : Go p e below s Q K N T (mkF m pc Ls (.long x :: st)) := by
  subst hn
  exact go (fun _ h => XT.lstore X.here hx rfl hd rfl hl h) F
theorem iinc (X : Stand p l e R s m args below meth c T locs cells slots) (hx : p.tables.exec = Jvm.exec) {k : Nat} {cst : Int} {x : Int32} (v : Int32) (hd : decode c.code pc = .ok (.iinc k cst, 3)) (hv : Int32.ofInt cst = v) (hl : Ls[k]? = some (.val (.int x))) (hl' : storeLocals Ls k (.int (x + v)) = some l') (hn : pc + 3 = n) (F : Go p e below s Q K N T (mkF m n l' st)) : Go p e below s Q K N T (mkF m pc Ls st) := by
  subst hn
  exact go (fun _ h => XT.iincV X.here hx rfl v hd hv hl hl' h) F
theorem iconst (X : Stand p l e R s m args below meth c T locs cells slots) (hx : p.tables.exec = Jvm.exec) {i : Int} (v : Int32) (hd : decode c.code pc = .ok (.iconst i, 1)) (hv : Int32.ofInt i = v) (hn : pc + 1 = n) (F : Go p e below s Q K N T (mkF m n Ls (.int v :: st))) : Go p e below s Q K N T (mkF m pc Ls st) := by
  subst hn
  exact go (fun _ h => XT.iconstV X.here hx rfl v hd hv h) F
theorem bipush (X : Stand p l e R s m args below meth c T locs cells slots) (hx : p.tables.exec = Jvm.exec) {i : Int} (v : Int32) (hd : decode c.code pc = .ok (.bipush i, 2)) (hv : (Int8.ofInt i).toInt32 = v) (hn : pc + 2 = n) (F : Go p e below s Q K N T (mkF m n Ls (.int v :: st))) : Go p e below s Q K N T (mkF m pc Ls st) := by
  subst hn
  exact go (fun _ h => XT.bipushV X.here hx rfl v hd hv h) F
theorem sipush (X : Stand p l e R s m args below meth c T locs cells slots) (hx : p.tables.exec = Jvm.exec) {i : Int} (v : Int32) (hd : decode c.code pc = .ok (.sipush i, 3)) (hv : (Int16.ofInt i).toInt32 = v) (hn : pc + 3 = n) (F : Go p e below s Q K N T (mkF m n Ls (.int v :: st))) : Go p e below s Q K N T (mkF m pc Ls st) := by
  subst hn
  exact go (fun _ h => XT.sipushV X.here hx rfl v hd hv h) F
theorem lconst (X : Stand p l e R s m args below meth c T locs cells slots) (hx : p.tables.exec = Jvm.exec) {k : Fin 2} (v : Int64) (hd : decode c.code pc = .ok (.lconst k, 1)) (hv : Int64.ofNat k = v) (hn : pc + 1 = n) (F : Go p e below s Q K N T (mkF m n Ls (.long v :: st))) : Go p e below s Q K N T (mkF m pc Ls st) := by
  subst hn
  exact go (fun _ h => XT.lconstV X.here hx rfl v hd hv h) F
theorem anull (X : Stand p l e R s m args below meth c T locs cells slots) (hx : p.tables.exec = Jvm.exec)  (hd : decode c.code pc = .ok (.aconst_null, 1)) (hn : pc + 1 = n) (F : Go p e below s Q K N T (mkF m n Ls (.null :: st))) : Go p e below s Q K N T (mkF m pc Ls st) := by
  subst hn
  exact go (fun _ h => XS.aconstNull X.here hx rfl hd h) F
theorem ldcI (X : Stand p l e R s m args below meth c T locs cells slots) (hx : p.tables.exec = Jvm.exec) {own : String} {index : Nat} {v : Int32} (hZ : Z.Warmed39 s.vm) (hown : s.vm.findClass own = some m.cls) (wd : (Cond.constant own index v).before a0 Z = true) (hd : decode c.code pc = .ok (.ldc index, 2)) (hn : pc + 2 = n) (F : Go p e below s Q K N T (mkF m n Ls (.int v :: st))) : Go p e below s Q K N T (mkF m pc Ls st) := by
  subst hn
  exact go (fun _ h => X.ldcInt hx hown (mvT hZ wd) (g := mkF m pc Ls st) rfl hd _ h) F
theorem ldcW (X : Stand p l e R s m args below meth c T locs cells slots) (hx : p.tables.exec = Jvm.exec) {own : String} {index : Nat} {v : Int32} (hZ : Z.Warmed39 s.vm) (hown : s.vm.findClass own = some m.cls) (wd : (Cond.constant own index v).before a0 Z = true) (hd : decode c.code pc = .ok (.ldc_w index, 3)) (hn : pc + 3 = n) (F : Go p e below s Q K N T (mkF m n Ls (.int v :: st))) : Go p e below s Q K N T (mkF m pc Ls st) := by
  subst hn
  exact go (fun _ h => X.ldcwInt hx hown (mvT hZ wd) (g := mkF m pc Ls st) rfl hd _ h) F
theorem ldcJ (X : Stand p l e R s m args below meth c T locs cells slots) (hx : p.tables.exec = Jvm.exec) {own : String} {index : Nat} {v : Int64} (hZ : Z.Warmed39 s.vm) (hown : s.vm.findClass own = some m.cls) (wd : (Cond.constantLong own index v).before a0 Z = true) (hd : decode c.code pc = .ok (.ldc2_w index, 3)) (hn : pc + 3 = n) (F : Go p e below s Q K N T (mkF m n Ls (.long v :: st))) : Go p e below s Q K N T (mkF m pc Ls st) := by
  subst hn
  exact go (fun _ h => X.ldc2Long hx hown (mvT hZ wd) (g := mkF m pc Ls st) rfl hd _ h) F
theorem iadd (X : Stand p l e R s m args below meth c T locs cells slots) (hx : p.tables.exec = Jvm.exec) {x y : Int32} (hd : decode c.code pc = .ok (.iadd, 1)) (hn : pc + 1 = n) (F : Go p e below s Q K N T (mkF m n Ls (.int (x + y) :: st))) : Go p e below s Q K N T (mkF m pc Ls (.int y :: .int x :: st)) := by
  subst hn
  exact go (fun _ h => XS.iadd X.here hx rfl hd rfl h) F
theorem isub (X : Stand p l e R s m args below meth c T locs cells slots) (hx : p.tables.exec = Jvm.exec) {x y : Int32} (hd : decode c.code pc = .ok (.isub, 1)) (hn : pc + 1 = n) (F : Go p e below s Q K N T (mkF m n Ls (.int (x - y) :: st))) : Go p e below s Q K N T (mkF m pc Ls (.int y :: .int x :: st)) := by
  subst hn
  exact go (fun _ h => XS.isub X.here hx rfl hd rfl h) F
theorem iand (X : Stand p l e R s m args below meth c T locs cells slots) (hx : p.tables.exec = Jvm.exec) {x y : Int32} (hd : decode c.code pc = .ok (.iand, 1)) (hn : pc + 1 = n) (F : Go p e below s Q K N T (mkF m n Ls (.int (x &&& y) :: st))) : Go p e below s Q K N T (mkF m pc Ls (.int y :: .int x :: st)) := by
  subst hn
  exact go (fun _ h => XS.iand X.here hx rfl hd rfl h) F
theorem imul (X : Stand p l e R s m args below meth c T locs cells slots) (hx : p.tables.exec = Jvm.exec) {x y : Int32} (hd : decode c.code pc = .ok (.imul, 1)) (hn : pc + 1 = n) (F : Go p e below s Q K N T (mkF m n Ls (.int (x * y) :: st))) : Go p e below s Q K N T (mkF m pc Ls (.int y :: .int x :: st)) := by
  subst hn
  exact go (fun _ h => XS.imul X.here hx rfl hd rfl h) F
theorem ixor (X : Stand p l e R s m args below meth c T locs cells slots) (hx : p.tables.exec = Jvm.exec) {x y : Int32} (hd : decode c.code pc = .ok (.ixor, 1)) (hn : pc + 1 = n) (F : Go p e below s Q K N T (mkF m n Ls (.int (x ^^^ y) :: st))) : Go p e below s Q K N T (mkF m pc Ls (.int y :: .int x :: st)) := by
  subst hn
  exact go (fun _ h => XT.ixor X.here hx rfl hd rfl h) F
theorem ior (X : Stand p l e R s m args below meth c T locs cells slots) (hx : p.tables.exec = Jvm.exec) {x y : Int32} (hd : decode c.code pc = .ok (.ior, 1)) (hn : pc + 1 = n) (F : Go p e below s Q K N T (mkF m n Ls (.int (x ||| y) :: st))) : Go p e below s Q K N T (mkF m pc Ls (.int y :: .int x :: st)) := by
  subst hn
  exact go (fun _ h => XT.ior X.here hx rfl hd rfl h) F
theorem i2c (X : Stand p l e R s m args below meth c T locs cells slots) (hx : p.tables.exec = Jvm.exec) {x : Int32} (hd : decode c.code pc = .ok (.i2c, 1)) (hn : pc + 1 = n) (F : Go p e below s Q K N T (mkF m n Ls (.int x.toUInt32.toUInt16.toUInt32.toInt32 :: st))) : Go p e below s Q K N T (mkF m pc Ls (.int x :: st)) := by
  subst hn
  exact go (fun _ h => XT.i2c X.here hx rfl hd rfl h) F
theorem i2b (X : Stand p l e R s m args below meth c T locs cells slots) (hx : p.tables.exec = Jvm.exec) {x : Int32} (hd : decode c.code pc = .ok (.i2b, 1)) (hn : pc + 1 = n) (F : Go p e below s Q K N T (mkF m n Ls (.int x.toInt8.toInt32 :: st))) : Go p e below s Q K N T (mkF m pc Ls (.int x :: st)) := by
  subst hn
  exact go (fun _ h => XT.i2b X.here hx rfl hd rfl h) F
theorem i2l (X : Stand p l e R s m args below meth c T locs cells slots) (hx : p.tables.exec = Jvm.exec) {x : Int32} (hd : decode c.code pc = .ok (.i2l, 1)) (hn : pc + 1 = n) (F : Go p e below s Q K N T (mkF m n Ls (.long x.toInt64 :: st))) : Go p e below s Q K N T (mkF m pc Ls (.int x :: st)) := by
  subst hn
  exact go (fun _ h => XT.i2l X.here hx rfl hd rfl h) F
theorem l2i (X : Stand p l e R s m args below meth c T locs cells slots) (hx : p.tables.exec = Jvm.exec) {x : Int64} (hd : decode c.code pc = .ok (.l2i, 1)) (hn : pc + 1 = n) (F : Go p e below s Q K N T (mkF m n Ls (.int x.toInt32 :: st))) : Go p e below s Q K N T (mkF m pc Ls (.long x :: st)) := by
  subst hn
  exact go (fun _ h => XT.l2i X.here hx rfl hd rfl h) F
theorem ladd (X : Stand p l e R s m args below meth c T locs cells slots) (hx : p.tables.exec = Jvm.exec) {x y : Int64} (hd : decode c.code pc = .ok (.ladd, 1)) (hn : pc + 1 = n) (F : Go p e below s Q K N T (mkF m n Ls (.long (x + y) :: st))) : Go p e below s Q K N T (mkF m pc Ls (.long y :: .long x :: st)) := by
  subst hn
  exact go (fun _ h => XT.ladd X.here hx rfl hd rfl h) F
theorem lsub (X : Stand p l e R s m args below meth c T locs cells slots) (hx : p.tables.exec = Jvm.exec) {x y : Int64} (hd : decode c.code pc = .ok (.lsub, 1)) (hn : pc + 1 = n) (F : Go p e below s Q K N T (mkF m n Ls (.long (x - y) :: st))) : Go p e below s Q K N T (mkF m pc Ls (.long y :: .long x :: st)) := by
  subst hn
  exact go (fun _ h => XT.lsub X.here hx rfl hd rfl h) F
theorem lmul (X : Stand p l e R s m args below meth c T locs cells slots) (hx : p.tables.exec = Jvm.exec) {x y : Int64} (hd : decode c.code pc = .ok (.lmul, 1)) (hn : pc + 1 = n) (F : Go p e below s Q K N T (mkF m n Ls (.long (x * y) :: st))) : Go p e below s Q K N T (mkF m pc Ls (.long y :: .long x :: st)) := by
  subst hn
  exact go (fun _ h => XT.lmul X.here hx rfl hd rfl h) F
theorem land (X : Stand p l e R s m args below meth c T locs cells slots) (hx : p.tables.exec = Jvm.exec) {x y : Int64} (hd : decode c.code pc = .ok (.land, 1)) (hn : pc + 1 = n) (F : Go p e below s Q K N T (mkF m n Ls (.long (x &&& y) :: st))) : Go p e below s Q K N T (mkF m pc Ls (.long y :: .long x :: st)) := by
  subst hn
  exact go (fun _ h => XT.land X.here hx rfl hd rfl h) F
theorem lor (X : Stand p l e R s m args below meth c T locs cells slots) (hx : p.tables.exec = Jvm.exec) {x y : Int64} (hd : decode c.code pc = .ok (.lor, 1)) (hn : pc + 1 = n) (F : Go p e below s Q K N T (mkF m n Ls (.long (x ||| y) :: st))) : Go p e below s Q K N T (mkF m pc Ls (.long y :: .long x :: st)) := by
  subst hn
  exact go (fun _ h => XT.lor X.here hx rfl hd rfl h) F
theorem lxor (X : Stand p l e R s m args below meth c T locs cells slots) (hx : p.tables.exec = Jvm.exec) {x y : Int64} (hd : decode c.code pc = .ok (.lxor, 1)) (hn : pc + 1 = n) (F : Go p e below s Q K N T (mkF m n Ls (.long (x ^^^ y) :: st))) : Go p e below s Q K N T (mkF m pc Ls (.long y :: .long x :: st)) := by
  subst hn
  exact go (fun _ h => XT.lxor X.here hx rfl hd rfl h) F
theorem irem (X : Stand p l e R s m args below meth c T locs cells slots) (hx : p.tables.exec = Jvm.exec) {x y : Int32} (hd : decode c.code pc = .ok (.irem, 1)) (hy : y ≠ 0) (hn : pc + 1 = n) (F : Go p e below s Q K N T (mkF m n Ls (.int (x % y) :: st))) : Go p e below s Q K N T (mkF m pc Ls (.int y :: .int x :: st)) := by
  subst hn
  exact go (fun _ h => iremM X hx rfl hd rfl hy h) F
theorem idiv (X : Stand p l e R s m args below meth c T locs cells slots) (hx : p.tables.exec = Jvm.exec) {x y : Int32} (hd : decode c.code pc = .ok (.idiv, 1)) (hy : y ≠ 0) (hn : pc + 1 = n) (F : Go p e below s Q K N T (mkF m n Ls (.int (x / y) :: st))) : Go p e below s Q K N T (mkF m pc Ls (.int y :: .int x :: st)) := by
  subst hn
  exact go (fun _ h => XS.idiv X.here hx rfl hd rfl hy h) F
theorem dup (X : Stand p l e R s m args below meth c T locs cells slots) (hx : p.tables.exec = Jvm.exec) {x : Value} (hd : decode c.code pc = .ok (.dup, 1)) (hc : x.category = 1) (hn : pc + 1 = n) (F : Go p e below s Q K N T (mkF m n Ls (x :: x :: st))) : Go p e below s Q K N T (mkF m pc Ls (x :: st)) := by
  subst hn
  exact go (fun _ h => XS.dup X.here hx rfl hd rfl hc h) F
theorem pop (X : Stand p l e R s m args below meth c T locs cells slots) (hx : p.tables.exec = Jvm.exec) {x : Value} (hd : decode c.code pc = .ok (.pop, 1)) (hc : x.category = 1) (hn : pc + 1 = n) (F : Go p e below s Q K N T (mkF m n Ls st)) : Go p e below s Q K N T (mkF m pc Ls (x :: st)) := by
  subst hn
  exact go (fun _ h => XT.pop X.here hx rfl hd rfl hc h) F
theorem pop2L (X : Stand p l e R s m args below meth c T locs cells slots) (hx : p.tables.exec = Jvm.exec) {x : Int64} (hd : decode c.code pc = .ok (.pop2, 1)) (hn : pc + 1 = n) (F : Go p e below s Q K N T (mkF m n Ls st)) : Go p e below s Q K N T (mkF m pc Ls (.long x :: st)) := by
  subst hn
  refine go (fun _ h => ?_) F
  have ht := X.here
  jvm_step ht [ht.top, hx, hd, Value.category]
  exact h
theorem lshl (X : Stand p l e R s m args below meth c T locs cells slots) (hx : p.tables.exec = Jvm.exec) {x : Int64} {y : Int32} (hd : decode c.code pc = .ok (.lshl, 1)) (hn : pc + 1 = n) (F : Go p e below s Q K N T (mkF m n Ls (.long (x <<< (y.toInt64 &&& 63)) :: st))) : Go p e below s Q K N T (mkF m pc Ls (.int y :: .long x :: st)) := by
  subst hn
  exact go (fun _ h => XT.lshl X.here hx rfl hd rfl h) F
theorem lushr (X : Stand p l e R s m args below meth c T locs cells slots) (hx : p.tables.exec = Jvm.exec) {x : Int64} {y : Int32} (hd : decode c.code pc = .ok (.lushr, 1)) (hn : pc + 1 = n) (F : Go p e below s Q K N T (mkF m n Ls (.long (XT.ushrL x y) :: st))) : Go p e below s Q K N T (mkF m pc Ls (.int y :: .long x :: st)) := by
  subst hn
  exact go (fun _ h => XT.lushr X.here hx rfl hd rfl h) F
theorem iushr (X : Stand p l e R s m args below meth c T locs cells slots) (hx : p.tables.exec = Jvm.exec) {x y : Int32} (hd : decode c.code pc = .ok (.iushr, 1)) (hn : pc + 1 = n) (F : Go p e below s Q K N T (mkF m n Ls (.int (XT.ushr x y) :: st))) : Go p e below s Q K N T (mkF m pc Ls (.int y :: .int x :: st)) := by
  subst hn
  exact go (fun _ h => XT.iushr X.here hx rfl hd rfl h) F
theorem ishr (X : Stand p l e R s m args below meth c T locs cells slots) (hx : p.tables.exec = Jvm.exec) {x y : Int32} (hd : decode c.code pc = .ok (.ishr, 1)) (hn : pc + 1 = n) (F : Go p e below s Q K N T (mkF m n Ls (.int (x >>> (y &&& 31)) :: st))) : Go p e below s Q K N T (mkF m pc Ls (.int y :: .int x :: st)) := by
  subst hn
  exact go (fun _ h => XT.ishr X.here hx rfl hd rfl h) F
theorem ishl (X : Stand p l e R s m args below meth c T locs cells slots) (hx : p.tables.exec = Jvm.exec) {x y : Int32} (hd : decode c.code pc = .ok (.ishl, 1)) (hn : pc + 1 = n) (F : Go p e below s Q K N T (mkF m n Ls (.int (x <<< (y &&& 31)) :: st))) : Go p e below s Q K N T (mkF m pc Ls (.int y :: .int x :: st)) := by
  subst hn
  exact go (fun _ h => XT.ishl X.here hx rfl hd rfl h) F
theorem i2s (X : Stand p l e R s m args below meth c T locs cells slots) (hx : p.tables.exec = Jvm.exec) {x : Int32} (hd : decode c.code pc = .ok (.i2s, 1)) (hn : pc + 1 = n) (F : Go p e below s Q K N T (mkF m n Ls (.int x.toInt16.toInt32 :: st))) : Go p e below s Q K N T (mkF m pc Ls (.int x :: st)) := by
  subst hn
  exact go (fun _ h => XT.i2s X.here hx rfl hd rfl h) F
theorem goto (X : Stand p l e R s m args below meth c T locs cells slots) (hx : p.tables.exec = Jvm.exec) {o : Int} (t : Nat) (hd : decode c.code pc = .ok (.goto o, 3)) (ht : (pc : Int) + o = t) (F : Go p e below s Q K N T (mkF m t Ls st)) : Go p e below s Q K N T (mkF m pc Ls st) := go (fun _ h => XS.goto X.here hx rfl (pc0 := pc) (pc' := t) rfl hd (by rw [ht]; exact Int.natCast_nonneg _) (by rw [ht]; rfl) h) F
theorem holds_t {cd : ClassFile.Cond} {x y : Int32} : if_icmp.holds cd x y = true ↔ match cd with | .eq => x.toInt = y.toInt | .ne => ¬ x.toInt = y.toInt | .lt => x.toInt < y.toInt | .ge => y.toInt ≤ x.toInt | .gt => y.toInt < x.toInt | .le => x.toInt ≤ y.toInt := by
  cases cd <;> simp [if_icmp.holds, Int32.lt_iff_toInt_lt, Int32.le_iff_toInt_le, Int32.toInt_inj]
theorem icmp (X : Stand p l e R s m args below meth c T locs cells slots) (hx : p.tables.exec = Jvm.exec) {cd : ClassFile.Cond} {x y : Int32} {o : Int} (hd : decode c.code pc = .ok (.if_icmp cd o, 3)) (ht : (pc : Int) + o = t) (hn : pc + 3 = n) (FT : if_icmp.holds cd x y = true → Go p e below s Q K N T (mkF m t Ls rest)) (FF : ¬ if_icmp.holds cd x y = true → Go p e below s Q K N T (mkF m n Ls rest)) : Go p e below s Q K N T (mkF m pc Ls (.int y :: .int x :: rest)) := by
  subst hn
  by_cases q : if_icmp.holds cd x y = true
  · exact go (fun _ h => XS.icmpYes X.here hx rfl (pc0 := pc) (pc' := t) rfl hd rfl q (by rw [ht]; exact Int.natCast_nonneg _) (by rw [ht]; rfl) h) (FT q)
  · exact go (fun _ h => XS.icmpNo X.here hx rfl hd rfl (by simpa using q) h) (FF q)
theorem ifc (X : Stand p l e R s m args below meth c T locs cells slots) (hx : p.tables.exec = Jvm.exec) {cd : ClassFile.Cond} {x : Int32} {o : Int} (hd : decode c.code pc = .ok (.ifCond cd o, 3)) (ht : (pc : Int) + o = t) (hn : pc + 3 = n) (FT : if_icmp.holds cd x 0 = true → Go p e below s Q K N T (mkF m t Ls rest)) (FF : ¬ if_icmp.holds cd x 0 = true → Go p e below s Q K N T (mkF m n Ls rest)) : Go p e below s Q K N T (mkF m pc Ls (.int x :: rest)) := by
  subst hn
  by_cases q : if_icmp.holds cd x 0 = true
  · exact go (fun _ h => XS.ifYes X.here hx rfl (pc0 := pc) (pc' := t) rfl hd rfl ((if0 _ _).trans q) (by rw [ht]; exact Int.natCast_nonneg _) (by rw [ht]; rfl) h) (FT q)
  · exact go (fun _ h => XS.ifNo X.here hx rfl hd rfl ((if0 _ _).trans (by simpa using q)) h) (FF q)
theorem icmp_eq (X : Stand p l e R s m args below meth c T locs cells slots) (hx : p.tables.exec = Jvm.exec) {x y : Int32} {o : Int} (t n : Nat) (hd : decode c.code pc = .ok (.if_icmp .eq o, 3)) (ht : (pc : Int) + o = t) (hn : pc + 3 = n) {a b' : Int} (ha : x.toInt = a) (hb : y.toInt = b') (FT : a = b' → Go p e below s Q K N T (mkF m t Ls rest)) (FF : ¬ a = b' → Go p e below s Q K N T (mkF m n Ls rest)) : Go p e below s Q K N T (mkF m pc Ls (.int y :: .int x :: rest)) := by
  subst ha hb
  exact icmp X hx hd ht hn (fun q => FT (holds_t.mp q)) (fun q => FF (by have := mt holds_t.mpr q; first | exact this | exact Int.not_lt.mp this | exact Int.not_le.mp this | exact Classical.not_not.mp this))
theorem if_eq (X : Stand p l e R s m args below meth c T locs cells slots) (hx : p.tables.exec = Jvm.exec) {x : Int32} {o : Int} (t n : Nat) (hd : decode c.code pc = .ok (.ifCond .eq o, 3)) (ht : (pc : Int) + o = t) (hn : pc + 3 = n) {a : Int} (ha : x.toInt = a) (FT : a = 0 → Go p e below s Q K N T (mkF m t Ls rest)) (FF : ¬ a = 0 → Go p e below s Q K N T (mkF m n Ls rest)) : Go p e below s Q K N T (mkF m pc Ls (.int x :: rest)) := by
  subst ha
  exact ifc X hx hd ht hn (fun q => FT (holds_t.mp q)) (fun q => FF (by have := mt holds_t.mpr q; first | exact this | exact Int.not_lt.mp this | exact Int.not_le.mp this | exact Classical.not_not.mp this))
theorem icmp_ne (X : Stand p l e R s m args below meth c T locs cells slots) (hx : p.tables.exec = Jvm.exec) {x y : Int32} {o : Int} (t n : Nat) (hd : decode c.code pc = .ok (.if_icmp .ne o, 3)) (ht : (pc : Int) + o = t) (hn : pc + 3 = n) {a b' : Int} (ha : x.toInt = a) (hb : y.toInt = b') (FT : ¬ a = b' → Go p e below s Q K N T (mkF m t Ls rest)) (FF : a = b' → Go p e below s Q K N T (mkF m n Ls rest)) : Go p e below s Q K N T (mkF m pc Ls (.int y :: .int x :: rest)) := by
  subst ha hb
  exact icmp X hx hd ht hn (fun q => FT (holds_t.mp q)) (fun q => FF (by have := mt holds_t.mpr q; first | exact this | exact Int.not_lt.mp this | exact Int.not_le.mp this | exact Classical.not_not.mp this))
theorem if_ne (X : Stand p l e R s m args below meth c T locs cells slots) (hx : p.tables.exec = Jvm.exec) {x : Int32} {o : Int} (t n : Nat) (hd : decode c.code pc = .ok (.ifCond .ne o, 3)) (ht : (pc : Int) + o = t) (hn : pc + 3 = n) {a : Int} (ha : x.toInt = a) (FT : ¬ a = 0 → Go p e below s Q K N T (mkF m t Ls rest)) (FF : a = 0 → Go p e below s Q K N T (mkF m n Ls rest)) : Go p e below s Q K N T (mkF m pc Ls (.int x :: rest)) := by
  subst ha
  exact ifc X hx hd ht hn (fun q => FT (holds_t.mp q)) (fun q => FF (by have := mt holds_t.mpr q; first | exact this | exact Int.not_lt.mp this | exact Int.not_le.mp this | exact Classical.not_not.mp this))
theorem icmp_lt (X : Stand p l e R s m args below meth c T locs cells slots) (hx : p.tables.exec = Jvm.exec) {x y : Int32} {o : Int} (t n : Nat) (hd : decode c.code pc = .ok (.if_icmp .lt o, 3)) (ht : (pc : Int) + o = t) (hn : pc + 3 = n) {a b' : Int} (ha : x.toInt = a) (hb : y.toInt = b') (FT : a < b' → Go p e below s Q K N T (mkF m t Ls rest)) (FF : b' ≤ a → Go p e below s Q K N T (mkF m n Ls rest)) : Go p e below s Q K N T (mkF m pc Ls (.int y :: .int x :: rest)) := by
  subst ha hb
  exact icmp X hx hd ht hn (fun q => FT (holds_t.mp q)) (fun q => FF (by have := mt holds_t.mpr q; first | exact this | exact Int.not_lt.mp this | exact Int.not_le.mp this | exact Classical.not_not.mp this))
theorem if_lt (X : Stand p l e R s m args below meth c T locs cells slots) (hx : p.tables.exec = Jvm.exec) {x : Int32} {o : Int} (t n : Nat) (hd : decode c.code pc = .ok (.ifCond .lt o, 3)) (ht : (pc : Int) + o = t) (hn : pc + 3 = n) {a : Int} (ha : x.toInt = a) (FT : a < 0 → Go p e below s Q K N T (mkF m t Ls rest)) (FF : 0 ≤ a → Go p e below s Q K N T (mkF m n Ls rest)) : Go p e below s Q K N T (mkF m pc Ls (.int x :: rest)) := by
  subst ha
  exact ifc X hx hd ht hn (fun q => FT (holds_t.mp q)) (fun q => FF (by have := mt holds_t.mpr q; first | exact this | exact Int.not_lt.mp this | exact Int.not_le.mp this | exact Classical.not_not.mp this))
theorem icmp_ge (X : Stand p l e R s m args below meth c T locs cells slots) (hx : p.tables.exec = Jvm.exec) {x y : Int32} {o : Int} (t n : Nat) (hd : decode c.code pc = .ok (.if_icmp .ge o, 3)) (ht : (pc : Int) + o = t) (hn : pc + 3 = n) {a b' : Int} (ha : x.toInt = a) (hb : y.toInt = b') (FT : b' ≤ a → Go p e below s Q K N T (mkF m t Ls rest)) (FF : a < b' → Go p e below s Q K N T (mkF m n Ls rest)) : Go p e below s Q K N T (mkF m pc Ls (.int y :: .int x :: rest)) := by
  subst ha hb
  exact icmp X hx hd ht hn (fun q => FT (holds_t.mp q)) (fun q => FF (by have := mt holds_t.mpr q; first | exact this | exact Int.not_lt.mp this | exact Int.not_le.mp this | exact Classical.not_not.mp this))
theorem if_ge (X : Stand p l e R s m args below meth c T locs cells slots) (hx : p.tables.exec = Jvm.exec) {x : Int32} {o : Int} (t n : Nat) (hd : decode c.code pc = .ok (.ifCond .ge o, 3)) (ht : (pc : Int) + o = t) (hn : pc + 3 = n) {a : Int} (ha : x.toInt = a) (FT : 0 ≤ a → Go p e below s Q K N T (mkF m t Ls rest)) (FF : a < 0 → Go p e below s Q K N T (mkF m n Ls rest)) : Go p e below s Q K N T (mkF m pc Ls (.int x :: rest)) := by
  subst ha
  exact ifc X hx hd ht hn (fun q => FT (holds_t.mp q)) (fun q => FF (by have := mt holds_t.mpr q; first | exact this | exact Int.not_lt.mp this | exact Int.not_le.mp this | exact Classical.not_not.mp this))
theorem icmp_gt (X : Stand p l e R s m args below meth c T locs cells slots) (hx : p.tables.exec = Jvm.exec) {x y : Int32} {o : Int} (t n : Nat) (hd : decode c.code pc = .ok (.if_icmp .gt o, 3)) (ht : (pc : Int) + o = t) (hn : pc + 3 = n) {a b' : Int} (ha : x.toInt = a) (hb : y.toInt = b') (FT : b' < a → Go p e below s Q K N T (mkF m t Ls rest)) (FF : a ≤ b' → Go p e below s Q K N T (mkF m n Ls rest)) : Go p e below s Q K N T (mkF m pc Ls (.int y :: .int x :: rest)) := by
  subst ha hb
  exact icmp X hx hd ht hn (fun q => FT (holds_t.mp q)) (fun q => FF (by have := mt holds_t.mpr q; first | exact this | exact Int.not_lt.mp this | exact Int.not_le.mp this | exact Classical.not_not.mp this))
theorem if_gt (X : Stand p l e R s m args below meth c T locs cells slots) (hx : p.tables.exec = Jvm.exec) {x : Int32} {o : Int} (t n : Nat) (hd : decode c.code pc = .ok (.ifCond .gt o, 3)) (ht : (pc : Int) + o = t) (hn : pc + 3 = n) {a : Int} (ha : x.toInt = a) (FT : 0 < a → Go p e below s Q K N T (mkF m t Ls rest)) (FF : a ≤ 0 → Go p e below s Q K N T (mkF m n Ls rest)) : Go p e below s Q K N T (mkF m pc Ls (.int x :: rest)) := by
  subst ha
  exact ifc X hx hd ht hn (fun q => FT (holds_t.mp q)) (fun q => FF (by have := mt holds_t.mpr q; first | exact this | exact Int.not_lt.mp this | exact Int.not_le.mp this | exact Classical.not_not.mp this))
theorem icmp_le (X : Stand p l e R s m args below meth c T locs cells slots) (hx : p.tables.exec = Jvm.exec) {x y : Int32} {o : Int} (t n : Nat) (hd : decode c.code pc = .ok (.if_icmp .le o, 3)) (ht : (pc : Int) + o = t) (hn : pc + 3 = n) {a b' : Int} (ha : x.toInt = a) (hb : y.toInt = b') (FT : a ≤ b' → Go p e below s Q K N T (mkF m t Ls rest)) (FF : b' < a → Go p e below s Q K N T (mkF m n Ls rest)) : Go p e below s Q K N T (mkF m pc Ls (.int y :: .int x :: rest)) := by
  subst ha hb
  exact icmp X hx hd ht hn (fun q => FT (holds_t.mp q)) (fun q => FF (by have := mt holds_t.mpr q; first | exact this | exact Int.not_lt.mp this | exact Int.not_le.mp this | exact Classical.not_not.mp this))
theorem if_le (X : Stand p l e R s m args below meth c T locs cells slots) (hx : p.tables.exec = Jvm.exec) {x : Int32} {o : Int} (t n : Nat) (hd : decode c.code pc = .ok (.ifCond .le o, 3)) (ht : (pc : Int) + o = t) (hn : pc + 3 = n) {a : Int} (ha : x.toInt = a) (FT : a ≤ 0 → Go p e below s Q K N T (mkF m t Ls rest)) (FF : 0 < a → Go p e below s Q K N T (mkF m n Ls rest)) : Go p e below s Q K N T (mkF m pc Ls (.int x :: rest)) := by
  subst ha
  exact ifc X hx hd ht hn (fun q => FT (holds_t.mp q)) (fun q => FF (by have := mt holds_t.mpr q; first | exact this | exact Int.not_lt.mp this | exact Int.not_le.mp this | exact Classical.not_not.mp this))
theorem if_neB (X : Stand p l e R s m args below meth c T locs cells slots) (hx : p.tables.exec = Jvm.exec) {P : Prop} [Decidable P] {o : Int} (t n : Nat) (hd : decode c.code pc = .ok (.ifCond .ne o, 3)) (ht : (pc : Int) + o = t) (hn : pc + 3 = n) (FT : P → Go p e below s Q K N T (mkF m t Ls rest)) (FF : ¬ P → Go p e below s Q K N T (mkF m n Ls rest)) : Go p e below s Q K N T (mkF m pc Ls (.int (b P) :: rest)) := by
  refine ifc X hx hd ht hn (fun q => FT ?_) (fun q => FF ?_)
  · by_cases z : P
    · exact z
    · rw [b_f z] at q; exact absurd q (by decide)
  · intro z; rw [b_t z] at q; exact q (by decide)
theorem if_eqB (X : Stand p l e R s m args below meth c T locs cells slots) (hx : p.tables.exec = Jvm.exec) {P : Prop} [Decidable P] {o : Int} (t n : Nat) (hd : decode c.code pc = .ok (.ifCond .eq o, 3)) (ht : (pc : Int) + o = t) (hn : pc + 3 = n) (FT : ¬ P → Go p e below s Q K N T (mkF m t Ls rest)) (FF : P → Go p e below s Q K N T (mkF m n Ls rest)) : Go p e below s Q K N T (mkF m pc Ls (.int (b P) :: rest)) := by
  refine ifc X hx hd ht hn (fun q => FT ?_) (fun q => FF ?_)
  · intro z; rw [b_t z] at q; exact absurd q (by decide)
  · by_cases z : P
    · exact z
    · rw [b_f z] at q; exact absurd (by decide) q
theorem icmp_neB (X : Stand p l e R s m args below meth c T locs cells slots) (hx : p.tables.exec = Jvm.exec) {P P' : Prop} [Decidable P] [Decidable P'] {o : Int} (t n : Nat) (hd : decode c.code pc = .ok (.if_icmp .ne o, 3)) (ht : (pc : Int) + o = t) (hn : pc + 3 = n) (FT : ¬ (P ↔ P') → Go p e below s Q K N T (mkF m t Ls rest)) (FF : (P ↔ P') → Go p e below s Q K N T (mkF m n Ls rest)) : Go p e below s Q K N T (mkF m pc Ls (.int (b P') :: .int (b P) :: rest)) :=
  icmp_ne X hx t n hd ht hn rfl rfl (fun q => FT fun z => q (by rw [b_iff z])) (fun q => FF (b_inj (Int32.toInt_inj.mp q)))
theorem lcmp (X : Stand p l e R s m args below meth c T locs cells slots) (hx : p.tables.exec = Jvm.exec) {x y : Int64} (hd : decode c.code pc = .ok (.lcmp, 1)) (hn : pc + 1 = n) (F : Go p e below s Q K N T (mkF m n Ls (.int (lcmpW x y) :: st))) : Go p e below s Q K N T (mkF m pc Ls (.long y :: .long x :: st)) := by
  subst hn
  exact go (fun _ h => XT.lcmp X.here hx rfl hd rfl h) F
theorem lc_t {cd : ClassFile.Cond} {x y : Int64} : if_icmp.holds cd (lcmpW x y) 0 = true ↔ match cd with | .eq => x.toInt = y.toInt | .ne => ¬ x.toInt = y.toInt | .lt => x.toInt < y.toInt | .ge => y.toInt ≤ x.toInt | .gt => y.toInt < x.toInt | .le => x.toInt ≤ y.toInt := by
  have hgt : (x > y) ↔ y.toInt < x.toInt := Int64.lt_iff_toInt_lt
  have heq : (x = y) ↔ x.toInt = y.toInt := Int64.toInt_inj.symm
  by_cases q : x > y
  · have := hgt.mp q
    cases cd <;> simp [if_icmp.holds, lcmpW, q] <;> omega
  · have q1 := mt hgt.mpr q
    by_cases r : x = y
    · have := heq.mp r
      cases cd <;> simp [if_icmp.holds, lcmpW, r] 
    · have r1 := mt heq.mpr r
      cases cd <;> simp [if_icmp.holds, lcmpW, q, r] <;> omega
theorem lif_eq (X : Stand p l e R s m args below meth c T locs cells slots) (hx : p.tables.exec = Jvm.exec) {x y : Int64} {o : Int} (t n : Nat) (hd : decode c.code pc = .ok (.ifCond .eq o, 3)) (ht : (pc : Int) + o = t) (hn : pc + 3 = n) {a b' : Int} (ha : x.toInt = a) (hb : y.toInt = b') (FT : a = b' → Go p e below s Q K N T (mkF m t Ls rest)) (FF : ¬ a = b' → Go p e below s Q K N T (mkF m n Ls rest)) : Go p e below s Q K N T (mkF m pc Ls (.int (lcmpW x y) :: rest)) := by
  subst ha hb
  exact ifc X hx hd ht hn (fun q => FT (lc_t.mp q)) (fun q => FF (by have := mt lc_t.mpr q; first | exact this | exact Int.not_lt.mp this | exact Int.not_le.mp this | exact Classical.not_not.mp this))
theorem lif_ne (X : Stand p l e R s m args below meth c T locs cells slots) (hx : p.tables.exec = Jvm.exec) {x y : Int64} {o : Int} (t n : Nat) (hd : decode c.code pc = .ok (.ifCond .ne o, 3)) (ht : (pc : Int) + o = t) (hn : pc + 3 = n) {a b' : Int} (ha : x.toInt = a) (hb : y.toInt = b') (FT : ¬ a = b' → Go p e below s Q K N T (mkF m t Ls rest)) (FF : a = b' → Go p e below s Q K N T (mkF m n Ls rest)) : Go p e below s Q K N T (mkF m pc Ls (.int (lcmpW x y) :: rest)) := by
  subst ha hb
  exact ifc X hx hd ht hn (fun q => FT (lc_t.mp q)) (fun q => FF (by have := mt lc_t.mpr q; first | exact this | exact Int.not_lt.mp this | exact Int.not_le.mp this | exact Classical.not_not.mp this))
theorem lif_lt (X : Stand p l e R s m args below meth c T locs cells slots) (hx : p.tables.exec = Jvm.exec) {x y : Int64} {o : Int} (t n : Nat) (hd : decode c.code pc = .ok (.ifCond .lt o, 3)) (ht : (pc : Int) + o = t) (hn : pc + 3 = n) {a b' : Int} (ha : x.toInt = a) (hb : y.toInt = b') (FT : a < b' → Go p e below s Q K N T (mkF m t Ls rest)) (FF : b' ≤ a → Go p e below s Q K N T (mkF m n Ls rest)) : Go p e below s Q K N T (mkF m pc Ls (.int (lcmpW x y) :: rest)) := by
  subst ha hb
  exact ifc X hx hd ht hn (fun q => FT (lc_t.mp q)) (fun q => FF (by have := mt lc_t.mpr q; first | exact this | exact Int.not_lt.mp this | exact Int.not_le.mp this | exact Classical.not_not.mp this))
theorem lif_ge (X : Stand p l e R s m args below meth c T locs cells slots) (hx : p.tables.exec = Jvm.exec) {x y : Int64} {o : Int} (t n : Nat) (hd : decode c.code pc = .ok (.ifCond .ge o, 3)) (ht : (pc : Int) + o = t) (hn : pc + 3 = n) {a b' : Int} (ha : x.toInt = a) (hb : y.toInt = b') (FT : b' ≤ a → Go p e below s Q K N T (mkF m t Ls rest)) (FF : a < b' → Go p e below s Q K N T (mkF m n Ls rest)) : Go p e below s Q K N T (mkF m pc Ls (.int (lcmpW x y) :: rest)) := by
  subst ha hb
  exact ifc X hx hd ht hn (fun q => FT (lc_t.mp q)) (fun q => FF (by have := mt lc_t.mpr q; first | exact this | exact Int.not_lt.mp this | exact Int.not_le.mp this | exact Classical.not_not.mp this))
theorem lif_gt (X : Stand p l e R s m args below meth c T locs cells slots) (hx : p.tables.exec = Jvm.exec) {x y : Int64} {o : Int} (t n : Nat) (hd : decode c.code pc = .ok (.ifCond .gt o, 3)) (ht : (pc : Int) + o = t) (hn : pc + 3 = n) {a b' : Int} (ha : x.toInt = a) (hb : y.toInt = b') (FT : b' < a → Go p e below s Q K N T (mkF m t Ls rest)) (FF : a ≤ b' → Go p e below s Q K N T (mkF m n Ls rest)) : Go p e below s Q K N T (mkF m pc Ls (.int (lcmpW x y) :: rest)) := by
  subst ha hb
  exact ifc X hx hd ht hn (fun q => FT (lc_t.mp q)) (fun q => FF (by have := mt lc_t.mpr q; first | exact this | exact Int.not_lt.mp this | exact Int.not_le.mp this | exact Classical.not_not.mp this))
theorem lif_le (X : Stand p l e R s m args below meth c T locs cells slots) (hx : p.tables.exec = Jvm.exec) {x y : Int64} {o : Int} (t n : Nat) (hd : decode c.code pc = .ok (.ifCond .le o, 3)) (ht : (pc : Int) + o = t) (hn : pc + 3 = n) {a b' : Int} (ha : x.toInt = a) (hb : y.toInt = b') (FT : a ≤ b' → Go p e below s Q K N T (mkF m t Ls rest)) (FF : b' < a → Go p e below s Q K N T (mkF m n Ls rest)) : Go p e below s Q K N T (mkF m pc Ls (.int (lcmpW x y) :: rest)) := by
  subst ha hb
  exact ifc X hx hd ht hn (fun q => FT (lc_t.mp q)) (fun q => FF (by have := mt lc_t.mpr q; first | exact this | exact Int.not_lt.mp this | exact Int.not_le.mp this | exact Classical.not_not.mp this))
theorem acmp_ne (X : Stand p l e R s m args below meth c T locs cells slots) (hx : p.tables.exec = Jvm.exec) {x y : Value} {o : Int} (t n : Nat) (hd : decode c.code pc = .ok (.if_acmp .ne o, 3)) (ht : (pc : Int) + o = t) (hn : pc + 3 = n) (h1 : x.isRef = true) (h2 : y.isRef = true) (FT : ¬ x = y → Go p e below s Q K N T (mkF m t Ls rest)) (FF : x = y → Go p e below s Q K N T (mkF m n Ls rest)) : Go p e below s Q K N T (mkF m pc Ls (y :: x :: rest)) := by
  subst hn
  by_cases q : x = y
  · exact go (fun _ h => XT.acmpNo X.here hx rfl hd rfl h1 h2 (XT.aa_ne_f q) h) (FF q)
  · exact go (fun _ h => XT.acmpYes X.here hx rfl (pc0 := pc) (pc' := t) rfl hd rfl h1 h2 (XT.aa_ne_t q) (by rw [ht]; exact Int.natCast_nonneg _) (by rw [ht]; rfl) h) (FT q)
theorem acmp_eq (X : Stand p l e R s m args below meth c T locs cells slots) (hx : p.tables.exec = Jvm.exec) {x y : Value} {o : Int} (t n : Nat) (hd : decode c.code pc = .ok (.if_acmp .eq o, 3)) (ht : (pc : Int) + o = t) (hn : pc + 3 = n) (h1 : x.isRef = true) (h2 : y.isRef = true) (FT : x = y → Go p e below s Q K N T (mkF m t Ls rest)) (FF : ¬ x = y → Go p e below s Q K N T (mkF m n Ls rest)) : Go p e below s Q K N T (mkF m pc Ls (y :: x :: rest)) := by
  subst hn
  by_cases q : x = y
  · exact go (fun _ h => XT.acmpYes X.here hx rfl (pc0 := pc) (pc' := t) rfl hd rfl h1 h2 (XT.aa_eq_t q) (by rw [ht]; exact Int.natCast_nonneg _) (by rw [ht]; rfl) h) (FT q)
  · exact go (fun _ h => XT.acmpNo X.here hx rfl hd rfl h1 h2 (XT.aa_eq_f q) h) (FF q)
theorem nonnullR (X : Stand p l e R s m args below meth c T locs cells slots) (hx : p.tables.exec = Jvm.exec) {a : Addr} {o : Int} (t : Nat) (hd : decode c.code pc = .ok (.ifnonnull o, 3)) (ht : (pc : Int) + o = t) (F : Go p e below s Q K N T (mkF m t Ls rest)) : Go p e below s Q K N T (mkF m pc Ls (.ref a :: rest)) :=
  go (fun _ h => XT.ifnonnullYes X.here hx rfl (pc0 := pc) (pc' := t) rfl hd rfl (by rw [ht]; exact Int.natCast_nonneg _) (by rw [ht]; rfl) h) F
theorem nonnullN (X : Stand p l e R s m args below meth c T locs cells slots) (hx : p.tables.exec = Jvm.exec) {o : Int} (hd : decode c.code pc = .ok (.ifnonnull o, 3)) (hn : pc + 3 = n) (F : Go p e below s Q K N T (mkF m n Ls rest)) : Go p e below s Q K N T (mkF m pc Ls (.null :: rest)) := by
  subst hn
  exact go (fun _ h => XT.ifnonnullNo X.here hx rfl hd rfl h) F
theorem nullR (X : Stand p l e R s m args below meth c T locs cells slots) (hx : p.tables.exec = Jvm.exec) {a : Addr} {o : Int} (hd : decode c.code pc = .ok (.ifnull o, 3)) (hn : pc + 3 = n) (F : Go p e below s Q K N T (mkF m n Ls rest)) : Go p e below s Q K N T (mkF m pc Ls (.ref a :: rest)) := by
  subst hn
  exact go (fun _ h => XT.nullNo X.here hx rfl hd rfl rfl (by simp) h) F
theorem nullN (X : Stand p l e R s m args below meth c T locs cells slots) (hx : p.tables.exec = Jvm.exec) {o : Int} (t : Nat) (hd : decode c.code pc = .ok (.ifnull o, 3)) (ht : (pc : Int) + o = t) (F : Go p e below s Q K N T (mkF m t Ls rest)) : Go p e below s Q K N T (mkF m pc Ls (.null :: rest)) :=
  go (fun _ h => XT.nullYes X.here hx rfl (pc0 := pc) (pc' := t) rfl hd rfl rfl (by rw [ht]; exact Int.natCast_nonneg _) (by rw [ht]; rfl) h) F
theorem getS (X : Stand p l e R s m args below meth c T locs cells slots) (hx : p.tables.exec = Jvm.exec) (hZ : Z.Warmed39 s.vm) {own O f d host : String} {index : Nat} (hown : s.vm.findClass own = some m.cls) (w : (Cond.fieldLink own index O f d).before a0 Z = true ∨ (Cond.fieldLinkNest own index O f d host).before a0 Z = true) (eT : T.heap = h) {v : Value} (S : Sta Z h O f d v) (hd : decode c.code pc = .ok (.getstatic index, 3)) (hn : pc + 3 = n)
    (F : ∀ T', Stand p l e R s m args below meth c T' locs cells slots → T'.heap = h → Go p e below s Q K N T' (mkF m n Ls (v :: st))) : Go p e below s Q K N T (mkF m pc Ls st) := by
  subst hn
  obtain ⟨T', X', e', st'⟩ := getS2 X hx hZ hown (host := host) w Via.refl eT S (g := mkF m pc Ls st) rfl hd
  exact go (fun _ h => st' _ h) (F T' X' e')
theorem getF (X : Stand p l e R s m args below meth c T locs cells slots) (hx : p.tables.exec = Jvm.exec) (hZ : Z.Warmed39 s.vm) {own O f d host : String} {index : Nat} (hown : s.vm.findClass own = some m.cls) (w : (Cond.fieldLink own index O f d).before a0 Z = true ∨ (Cond.fieldLinkNest own index O f d host).before a0 Z = true) (eT : T.heap = h) {a : Addr} {v : Value} (S : Fld Z h a O f d v) (hd : decode c.code pc = .ok (.getfield index, 3)) (hn : pc + 3 = n)
    (F : ∀ T', Stand p l e R s m args below meth c T' locs cells slots → T'.heap = h → Go p e below s Q K N T' (mkF m n Ls (v :: st))) : Go p e below s Q K N T (mkF m pc Ls (.ref a :: st)) := by
  subst hn
  obtain ⟨T', X', e', st'⟩ := RoadKit.getF X hx hZ hown (host := host) w Via.refl eT S (g := mkF m pc Ls (.ref a :: st)) rfl rfl hd
  exact go (fun _ h => st' _ h) (F T' X' e')
theorem in_of {cl : Cell} {z j : Int32} (S : cl.slots.size = z.toNatClampNeg) (N : ¬ z < 0) (h1 : 0 ≤ j.toInt) (h2 : j.toInt < z.toInt) : ¬ (j < 0 ∨ cl.slots.size ≤ j.toNatClampNeg) := by
  rw [S, Int32.lt_iff_toInt_lt]
  rw [Int32.lt_iff_toInt_lt] at N
  have e0 : (0 : Int32).toInt = 0 := rfl
  have q1 : z.toNatClampNeg = z.toInt.toNat := rfl
  have q2 : j.toNatClampNeg = j.toInt.toNat := rfl
  omega
theorem alen (X : Stand p l e R s m args below meth c T locs cells slots) (hx : p.tables.exec = Jvm.exec) (hZ : Z.Warmed39 s.vm) {a : Addr} {k : ClassId} {ty : FieldType} {z : Int32} {vs : List Value} {d : Value} (eT : T.heap = h) (A : Arv Z h a k ty z vs d) (hd : decode c.code pc = .ok (.arraylength, 1)) (hn : pc + 1 = n) (F : Go p e below s Q K N T (mkF m n Ls (.int z :: st))) : Go p e below s Q K N T (mkF m pc Ls (.ref a :: st)) := by
  subst hn
  obtain ⟨cl, Ar, -, S, N, -, -⟩ := A
  refine go (fun _ h => X.arraylength hx (by rw [eT]; exact Ar.1) (State.isArrayOf_alike hZ.alike Ar.2.1) (g := mkF m pc Ls (.ref a :: st)) rfl rfl hd _ h) ?_
  rw [len_of S N]
  exact F
theorem iaload (X : Stand p l e R s m args below meth c T locs cells slots) (hx : p.tables.exec = Jvm.exec) (hZ : Z.Warmed39 s.vm) {a : Addr} {k : ClassId} {z j : Int32} {vs : List Value} {d v : Value} (eT : T.heap = h) (A : Arv Z h a k .int z vs d) (h1 : 0 ≤ j.toInt) (h2 : j.toInt < z.toInt) (hv : vs.getD j.toNatClampNeg d = v) (hd : decode c.code pc = .ok (.iaload, 1)) (hn : pc + 1 = n) (F : Go p e below s Q K N T (mkF m n Ls (v :: st))) : Go p e below s Q K N T (mkF m pc Ls (.int j :: .ref a :: st)) := by
  subst hn
  obtain ⟨cl, Ar, -, S, N, H, -⟩ := A
  have hin := in_of S N h1 h2
  exact go (fun _ h => X.iaload hx (j := j) (v := v) (by rw [eT]; exact Ar.1) (State.isArrayOf_alike hZ.alike Ar.2.1) Ar.2.2 hin (H.at hin hv) (g := mkF m pc Ls (.int j :: .ref a :: st)) rfl rfl hd _ h) F
theorem caload (X : Stand p l e R s m args below meth c T locs cells slots) (hx : p.tables.exec = Jvm.exec) (hZ : Z.Warmed39 s.vm) {a : Addr} {k : ClassId} {z j : Int32} {vs : List Value} {d v : Value} (eT : T.heap = h) (A : Arv Z h a k .char z vs d) (h1 : 0 ≤ j.toInt) (h2 : j.toInt < z.toInt) (hv : vs.getD j.toNatClampNeg d = v) (hd : decode c.code pc = .ok (.caload, 1)) (hn : pc + 1 = n) (F : Go p e below s Q K N T (mkF m n Ls (v :: st))) : Go p e below s Q K N T (mkF m pc Ls (.int j :: .ref a :: st)) := by
  subst hn
  obtain ⟨cl, Ar, -, S, N, H, -⟩ := A
  have hin := in_of S N h1 h2
  exact go (fun _ h => X.caload hx (j := j) (v := v) (by rw [eT]; exact Ar.1) (State.isArrayOf_alike hZ.alike Ar.2.1) Ar.2.2 hin (H.at hin hv) (g := mkF m pc Ls (.int j :: .ref a :: st)) rfl rfl hd _ h) F
theorem laload (X : Stand p l e R s m args below meth c T locs cells slots) (hx : p.tables.exec = Jvm.exec) (hZ : Z.Warmed39 s.vm) {a : Addr} {k : ClassId} {z j : Int32} {vs : List Value} {d v : Value} (eT : T.heap = h) (A : Arv Z h a k .long z vs d) (h1 : 0 ≤ j.toInt) (h2 : j.toInt < z.toInt) (hv : vs.getD j.toNatClampNeg d = v) (hd : decode c.code pc = .ok (.laload, 1)) (hn : pc + 1 = n) (F : Go p e below s Q K N T (mkF m n Ls (v :: st))) : Go p e below s Q K N T (mkF m pc Ls (.int j :: .ref a :: st)) := by
  subst hn
  obtain ⟨cl, Ar, -, S, N, H, -⟩ := A
  have hin := in_of S N h1 h2
  exact go (fun _ h => X.laload hx (j := j) (v := v) (by rw [eT]; exact Ar.1) (State.isArrayOf_alike hZ.alike Ar.2.1) Ar.2.2 hin (H.at hin hv) (g := mkF m pc Ls (.int j :: .ref a :: st)) rfl rfl hd _ h) F
theorem baload (X : Stand p l e R s m args below meth c T locs cells slots) (hx : p.tables.exec = Jvm.exec) (hZ : Z.Warmed39 s.vm) {a : Addr} {k : ClassId} {z j : Int32} {vs : List Value} {d v : Value} (eT : T.heap = h) (A : Arv Z h a k .byte z vs d) (h1 : 0 ≤ j.toInt) (h2 : j.toInt < z.toInt) (hv : vs.getD j.toNatClampNeg d = v) (hd : decode c.code pc = .ok (.baload, 1)) (hn : pc + 1 = n) (F : Go p e below s Q K N T (mkF m n Ls (v :: st))) : Go p e below s Q K N T (mkF m pc Ls (.int j :: .ref a :: st)) := by
  subst hn
  obtain ⟨cl, Ar, -, S, N, H, -⟩ := A
  have hin := in_of S N h1 h2
  exact go (fun _ h => X.baloadBytes hx (j := j) (v := v) (by rw [eT]; exact Ar.1) (State.isArrayOf_alike hZ.alike Ar.2.1) Ar.2.2 hin (H.at hin hv) (g := mkF m pc Ls (.int j :: .ref a :: st)) rfl rfl hd _ h) F
theorem aaload (X : Stand p l e R s m args below meth c T locs cells slots) (hx : p.tables.exec = Jvm.exec) (hZ : Z.Warmed39 s.vm) {a : Addr} {k : ClassId} {ty : FieldType} {z j : Int32} {vs : List Value} {d v : Value} (eT : T.heap = h) (A : Arv Z h a k ty z vs d) (hty : ty.isReference = true) (h1 : 0 ≤ j.toInt) (h2 : j.toInt < z.toInt) (hv : vs.getD j.toNatClampNeg d = v) (hd : decode c.code pc = .ok (.aaload, 1)) (hn : pc + 1 = n) (F : Go p e below s Q K N T (mkF m n Ls (v :: st))) : Go p e below s Q K N T (mkF m pc Ls (.int j :: .ref a :: st)) := by
  subst hn
  obtain ⟨cl, Ar, -, S, N, H, -⟩ := A
  have hin := in_of S N h1 h2
  exact go (fun _ h => X.aaload hx (j := j) (v := v) (by rw [eT]; exact Ar.1) (State.isArrayOf_alike hZ.alike Ar.2.1) hty Ar.2.2 hin (H.at hin hv) (g := mkF m pc Ls (.int j :: .ref a :: st)) rfl rfl hd _ h) F
theorem fin {w : Option Value} {g : JFrame} (X : Stand p l e R s m args below meth c T locs cells slots) (hlk : meth.locks = false) (hv : meth.sig.returnType = none → w = none) (hc : cells ≤ K) (hs : slots ≤ N) (hQ : Q w T.heap locs) (step : ∀ fs, (∀ (f : JFrame) (acts : List Action), f.method = m → f.locked = none → f.entered = [] → (doReturn e (T.setTop f) acts w).1 = T.setFrames fs) → Steps p.tables e below (T.setTop g) (T.setFrames fs)) : Go p e below s Q K N T g := by
  obtain ⟨fs, hr, hrun, hended, hW, hsame⟩ := X.leave (v := w) hv hlk
  exact ⟨_, _, step fs hr, hrun, hended, _, _, rfl, hQ, ⟨_, rfl⟩, hW, hsame.mono hc hs⟩
theorem retI (X : Stand p l e R s m args below meth c T locs cells slots) (hx : p.tables.exec = Jvm.exec) (hlk : meth.locks = false) (hret : meth.sig.returnType = some .int) {z : Int32} (hd : decode c.code pc = .ok (.ireturn, 1)) (hc : cells ≤ K) (hs : slots ≤ N) (hQ : Q (some (.int z)) T.heap locs) : Go p e below s Q K N T (mkF m pc Ls (.int z :: rest)) :=
  fin X hlk (fun h => by rw [hret] at h; cases h) hc hs hQ (fun _ hr => retOut X hx hret rfl (Or.inl ⟨rfl, Or.inl rfl, _, rfl⟩) hd hr)
theorem retZ (X : Stand p l e R s m args below meth c T locs cells slots) (hx : p.tables.exec = Jvm.exec) (hlk : meth.locks = false) (hret : meth.sig.returnType = some .boolean) {z : Int32} (hd : decode c.code pc = .ok (.ireturn, 1)) (hz : z = 0 ∨ z = 1) (hc : cells ≤ K) (hs : slots ≤ N) (hQ : Q (some (.int z)) T.heap locs) : Go p e below s Q K N T (mkF m pc Ls (.int z :: rest)) :=
  fin X hlk (fun h => by rw [hret] at h; cases h) hc hs hQ (fun _ hr => retOut X hx hret (by rcases hz with rfl | rfl <;> rfl) (Or.inl ⟨rfl, Or.inr (Or.inl rfl), _, rfl⟩) hd hr)
theorem b01 {P : Prop} [Decidable P] : b P = 0 ∨ b P = 1 := by by_cases q : P <;> simp [b, q]
theorem retC (X : Stand p l e R s m args below meth c T locs cells slots) (hx : p.tables.exec = Jvm.exec) (hlk : meth.locks = false) (hret : meth.sig.returnType = some .char) {z : Int32} (hd : decode c.code pc = .ok (.ireturn, 1)) (hz : narrow .char (.int z) = .int z) (hc : cells ≤ K) (hs : slots ≤ N) (hQ : Q (some (.int z)) T.heap locs) : Go p e below s Q K N T (mkF m pc Ls (.int z :: rest)) :=
  fin X hlk (fun h => by rw [hret] at h; cases h) hc hs hQ (fun _ hr => retOut X hx hret hz (Or.inl ⟨rfl, Or.inr (Or.inr (Or.inr (Or.inl rfl))), _, rfl⟩) hd hr)
theorem retB (X : Stand p l e R s m args below meth c T locs cells slots) (hx : p.tables.exec = Jvm.exec) (hlk : meth.locks = false) (hret : meth.sig.returnType = some .byte) {z : Int32} (hd : decode c.code pc = .ok (.ireturn, 1)) (hz : narrow .byte (.int z) = .int z) (hc : cells ≤ K) (hs : slots ≤ N) (hQ : Q (some (.int z)) T.heap locs) : Go p e below s Q K N T (mkF m pc Ls (.int z :: rest)) :=
  fin X hlk (fun h => by rw [hret] at h; cases h) hc hs hQ (fun _ hr => retOut X hx hret hz (Or.inl ⟨rfl, Or.inr (Or.inr (Or.inl rfl)), _, rfl⟩) hd hr)
theorem retL (X : Stand p l e R s m args below meth c T locs cells slots) (hx : p.tables.exec = Jvm.exec) (hlk : meth.locks = false) (hret : meth.sig.returnType = some .long) {z : Int64} (hd : decode c.code pc = .ok (.lreturn, 1)) (hc : cells ≤ K) (hs : slots ≤ N) (hQ : Q (some (.long z)) T.heap locs) : Go p e below s Q K N T (mkF m pc Ls (.long z :: rest)) :=
  fin X hlk (fun h => by rw [hret] at h; cases h) hc hs hQ (fun _ hr => retOut X hx hret rfl (Or.inr (Or.inl ⟨rfl, rfl, _, rfl⟩)) hd hr)
theorem retA (X : Stand p l e R s m args below meth c T locs cells slots) (hx : p.tables.exec = Jvm.exec) (hlk : meth.locks = false) {ty : FieldType} (hret : meth.sig.returnType = some ty) (hty : ty.isReference = true) {v : Value} (hv : v.isRef = true) (hd : decode c.code pc = .ok (.areturn, 1)) (hc : cells ≤ K) (hs : slots ≤ N) (hQ : Q (some v) T.heap locs) : Go p e below s Q K N T (mkF m pc Ls (v :: rest)) :=
  fin X hlk (fun h => by rw [hret] at h; cases h) hc hs hQ (fun _ hr => retOut X hx hret (by cases ty <;> cases v <;> first | rfl | simp [Value.isRef] at hv | simp [FieldType.isReference] at hty) (Or.inr (Or.inr (Or.inr (Or.inr ⟨rfl, hty, hv⟩)))) hd hr)
theorem retV (X : Stand p l e R s m args below meth c T locs cells slots) (hx : p.tables.exec = Jvm.exec) (hlk : meth.locks = false) (hret : meth.sig.returnType = none) (hd : decode c.code pc = .ok (.return_, 1)) (hc : cells ≤ K) (hs : slots ≤ N) (hQ : Q none T.heap locs) : Go p e below s Q K N T (mkF m pc Ls []) :=
  fin X hlk (fun _ => rfl) hc hs hQ (fun _ hr => X.returnOut hx hret hd hr)
/-- a method's contract: with the arguments as', over the heap h0, it comes back and Q holds -/
def Met (l : Launch) (Z : State) (y : MethodName) (bytes : ByteArray) (maxL : Nat) (ret : Option FieldType) (ws : List Cond) (rm : Room) (as' : Array Value) (h0 : Heap) (Q : Option Value → Heap → List Loc → Prop) : Prop :=
  MetFree l y (head1 (Cond.code y bytes maxL ret :: ws) rm) (fun a U => a = as' ∧ Z.Warmed39 U.vm ∧ U.heap = h0) (fun _ _ _ _ _ => True) (fun _ U o U' => ∃ v L, o = .returned v ∧ Q v U'.heap L ∧ FrameEnd U o U' L rm.cells rm.slots)
/-- nothing written, nothing made: it returns w -/
def Pu (w : Value) (h0 : Heap) (v : Option Value) (h : Heap) (L : List Loc) : Prop := v = some w ∧ L = [] ∧ h = h0
theorem start {y : MethodName} {bytes : ByteArray} {maxL : Nat} {ret : Option FieldType} {ws : List Cond} {rm : Room} {as' : Array Value} {h0 : Heap} (pn : plainName y.cls = true)
    (body : ∀ (p : Program) (e : Env) (s : State) (m : MethodId) (below : List Frame) (meth : Method) (c : Code) (s₁ : State), Stand p l e rm s m as' below meth c s₁ [] 0 0 → p.tables.exec = Jvm.exec → c.code = bytes → c.maxLocals = maxL → s.vm.findClass y.cls = some m.cls → meth.name = y.name → meth.sig.returnType = ret → meth.locks = false → Z.Warmed39 s.vm → s₁.heap = h0 → Go p e below s Q rm.cells rm.slots s₁ (entryFrame m as' maxL)) : Met l Z y bytes maxL ret ws rm as' h0 Q := by
  refine MetFree.of_bodySF (plainFor_of_name pn) hisR ?_
  intro p e s m args below meth c s₁ Bd hml0 hP hK
  obtain ⟨rfl, hZ, hh⟩ := hP
  exact body p e s m below meth c s₁ (Stand.of_body Bd) Bd.exec Bd.bytes hml0 (findClass_of_methodNamed Bd.named) (name_of_methodNamed Bd.named Bd.method).1 Bd.returns Bd.notSynchronized hZ (by rw [← hh, Bd.state]; rfl)
theorem enter {g g' : JFrame} (q : g = g') (F : Go p e below s Q K N T g') : Go p e below s Q K N T g := q ▸ F
theorem callS (X : Stand p l e R s m args below meth c T locs cells slots) (hx : p.tables.exec = Jvm.exec) (hZ : Z.Warmed39 s.vm) {own : String} {index : Nat} {y : MethodName} {bytes : ByteArray} {maxL W : Nat} {ret : Option FieldType} {rm : Room} {Qc : Option Value → Heap → List Loc → Prop} {argsL : List Value} (hown : s.vm.findClass own = some m.cls)
    (wl : (Cond.methodLink own index y).before a0 Z = true) (ws : (Cond.static y).before a0 Z = true) (wi : (Cond.initialized y.cls).before a0 Z = true) (wc : (Cond.code y bytes maxL ret).before a0 Z = true) (hy : y.cls ≠ "java/lang/invoke/MethodHandle" ∧ y.cls ≠ "java/lang/invoke/VarHandle")
    (hM : Met l Z y bytes maxL ret [] rm argsL.toArray h Qc) (eT : T.heap = h) (hf : rm.frames + 1 ≤ R.frames) (hl : W + (maxL + 11) + rm.locals ≤ R.locals) (hck : cells + rm.cells ≤ R.cells) (hsk : slots + rm.slots ≤ R.slots) (hsz : Ls.size = c.maxLocals)
    (hlen : ∀ sig, parseMethodDescriptor y.desc = some sig → argsL.length = sig.parameters.length) (hst : st = argsL.reverse ++ rest) (hW : (rest.map fun v => v.category).sum ≤ W) (hd : decode c.code pc = .ok (.invokestatic index, 3)) (hn : pc + 3 = n)
    (F : ∀ T' v L, Stand p l e R s m args below meth c T' (locs ++ L) (cells + rm.cells) (slots + rm.slots) → Qc v T'.heap L → Go p e below s Q K N T' (mkF m n Ls (v.toList ++ rest))) : Go p e below s Q K N T (mkF m pc Ls st) := by
  subst hn
  obtain ⟨v, _, ⟨T18, L18, k18, n18⟩, -, X18, ⟨Lc18, hQ18, l18, y18, z18⟩, st18⟩ := Jvm.LawKit.callS X hx (y := y) hown (mvT hZ wl) (mvT hZ ws) (mvT hZ wi) (mvT hZ wc) hy (backOf (W := W) hM hZ wc wi hf hl) (g := mkF m pc Ls st) rfl hsz (argsL := argsL) (rest := rest) hlen hst (by show 2 * 0 + _ ≤ _; omega) hd (fun _ _ => ⟨rfl, eT, hck, hsk⟩)
  dsimp only [Pt.U, Pt.locs, Pt.cells, Pt.slots] at X18 l18 y18 z18 st18 hQ18
  subst l18 y18 z18
  exact go (fun _ h => st18 _ h) (F T18 v Lc18 X18 hQ18)
theorem callP (X : Stand p l e R s m args below meth c T locs cells slots) (hx : p.tables.exec = Jvm.exec) (hZ : Z.Warmed39 s.vm) {own : String} {index : Nat} {y : MethodName} {bytes : ByteArray} {maxL W : Nat} {ret : Option FieldType} {fr lo : Nat} {w : Value} {argsL : List Value} (hown : s.vm.findClass own = some m.cls)
    (wl : (Cond.methodLink own index y).before a0 Z = true) (ws : (Cond.static y).before a0 Z = true) (wi : (Cond.initialized y.cls).before a0 Z = true) (wc : (Cond.code y bytes maxL ret).before a0 Z = true) (hy : y.cls ≠ "java/lang/invoke/MethodHandle" ∧ y.cls ≠ "java/lang/invoke/VarHandle")
    (hM : Met l Z y bytes maxL ret [] { frames := fr, cells := 0, slots := 0, locals := lo } argsL.toArray h (Pu w h)) (eT : T.heap = h) (hf : fr + 1 ≤ R.frames) (hl : W + (maxL + 11) + lo ≤ R.locals) (hck : cells ≤ R.cells) (hsk : slots ≤ R.slots) (hsz : Ls.size = c.maxLocals)
    (hlen : ∀ sig, parseMethodDescriptor y.desc = some sig → argsL.length = sig.parameters.length) (hst : st = argsL.reverse ++ rest) (hW : (rest.map fun v => v.category).sum ≤ W) (hd : decode c.code pc = .ok (.invokestatic index, 3)) (hn : pc + 3 = n)
    (F : ∀ T', Stand p l e R s m args below meth c T' locs cells slots → T'.heap = h → Go p e below s Q K N T' (mkF m n Ls (w :: rest))) : Go p e below s Q K N T (mkF m pc Ls st) := by
  refine callS X hx hZ hown wl ws wi wc hy hM eT hf hl hck hsk hsz hlen hst hW hd hn ?_
  rintro T' v L X' ⟨rfl, rfl, hh⟩
  rw [List.append_nil] at X'
  exact F T' X' hh
theorem callV (X : Stand p l e R s m args below meth c T locs cells slots) (hx : p.tables.exec = Jvm.exec) (hZ : Z.Warmed39 s.vm) {own C : String} {index : Nat} {y z : MethodName} {bytes : ByteArray} {maxL W : Nat} {ret : Option FieldType} {rm : Room} {Qc : Option Value → Heap → List Loc → Prop} {argsL : List Value} {a : Addr} (hown : s.vm.findClass own = some m.cls)
    (wl : (Cond.methodLink own index y).before a0 Z = true) (wd : (Cond.declares y).before a0 Z = true) (wsel : (Cond.selects C y z).before a0 Z = true) (wm : (Cond.instanceMethod z).before a0 Z = true) (wi : (Cond.initialized z.cls).before a0 Z = true) (wc : (Cond.code z bytes maxL ret).before a0 Z = true) (hnf : NotFace s y) (hy : y.cls ≠ "java/lang/invoke/MethodHandle" ∧ y.cls ≠ "java/lang/invoke/VarHandle")
    (hM : Met l Z z bytes maxL ret [] rm (Value.ref a :: argsL).toArray h Qc) (eT : T.heap = h) (E : Exa Z h a C) (hf : rm.frames + 1 ≤ R.frames) (hl : W + (maxL + 11) + rm.locals ≤ R.locals) (hck : cells + rm.cells ≤ R.cells) (hsk : slots + rm.slots ≤ R.slots) (hsz : Ls.size = c.maxLocals)
    (hlen : ∀ sig, parseMethodDescriptor y.desc = some sig → argsL.length = sig.parameters.length) (hst : st = argsL.reverse ++ .ref a :: rest) (hW : (rest.map fun v => v.category).sum ≤ W) (hd : decode c.code pc = .ok (.invokevirtual index, 3)) (hn : pc + 3 = n)
    (F : ∀ T' v L, Stand p l e R s m args below meth c T' (locs ++ L) (cells + rm.cells) (slots + rm.slots) → Qc v T'.heap L → Go p e below s Q K N T' (mkF m n Ls (v.toList ++ rest))) : Go p e below s Q K N T (mkF m pc Ls st) := by
  subst hn
  obtain ⟨cq, kq, qa, qb, qc⟩ := isOf hZ eT E
  obtain ⟨v, _, ⟨T18, L18, k18, n18⟩, -, X18, ⟨Lc18, hQ18, l18, y18, z18⟩, st18⟩ := X.virtualBack hx (y := y) (z := z) hown (mvT hZ wl) (mvT hZ wd) hnf (mvT hZ wsel) (mvT hZ wm) hy (backOf (W := W) hM hZ wc wi hf hl) qa qc (g := mkF m pc Ls st) rfl hsz (Steps.refl _) (argsL := argsL) (rest := rest) hlen hst (by show 2 * 0 + _ ≤ _; omega) hd (fun _ _ => ⟨rfl, eT, hck, hsk⟩)
  dsimp only [Pt.U, Pt.locs, Pt.cells, Pt.slots] at X18 l18 y18 z18 st18 hQ18
  subst l18 y18 z18
  exact go (fun _ h => st18.trans h) (F T18 v Lc18 X18 hQ18)
theorem callVP (X : Stand p l e R s m args below meth c T locs cells slots) (hx : p.tables.exec = Jvm.exec) (hZ : Z.Warmed39 s.vm) {own C : String} {index : Nat} {y z : MethodName} {bytes : ByteArray} {maxL W : Nat} {ret : Option FieldType} {fr lo : Nat} {w : Value} {argsL : List Value} {a : Addr} (hown : s.vm.findClass own = some m.cls)
    (wl : (Cond.methodLink own index y).before a0 Z = true) (wd : (Cond.declares y).before a0 Z = true) (wsel : (Cond.selects C y z).before a0 Z = true) (wm : (Cond.instanceMethod z).before a0 Z = true) (wi : (Cond.initialized z.cls).before a0 Z = true) (wc : (Cond.code z bytes maxL ret).before a0 Z = true) (hnf : NotFace s y) (hy : y.cls ≠ "java/lang/invoke/MethodHandle" ∧ y.cls ≠ "java/lang/invoke/VarHandle")
    (hM : Met l Z z bytes maxL ret [] { frames := fr, cells := 0, slots := 0, locals := lo } (Value.ref a :: argsL).toArray h (Pu w h)) (eT : T.heap = h) (E : Exa Z h a C) (hf : fr + 1 ≤ R.frames) (hl : W + (maxL + 11) + lo ≤ R.locals) (hck : cells ≤ R.cells) (hsk : slots ≤ R.slots) (hsz : Ls.size = c.maxLocals)
    (hlen : ∀ sig, parseMethodDescriptor y.desc = some sig → argsL.length = sig.parameters.length) (hst : st = argsL.reverse ++ .ref a :: rest) (hW : (rest.map fun v => v.category).sum ≤ W) (hd : decode c.code pc = .ok (.invokevirtual index, 3)) (hn : pc + 3 = n)
    (F : ∀ T', Stand p l e R s m args below meth c T' locs cells slots → T'.heap = h → Go p e below s Q K N T' (mkF m n Ls (w :: rest))) : Go p e below s Q K N T (mkF m pc Ls st) := by
  refine callV X hx hZ hown wl wd wsel wm wi wc hnf hy hM eT E hf hl hck hsk hsz hlen hst hW hd hn ?_
  rintro T' v L X' ⟨rfl, rfl, hh⟩
  rw [List.append_nil] at X'
  exact F T' X' hh
theorem icmp_eqB (X : Stand p l e R s m args below meth c T locs cells slots) (hx : p.tables.exec = Jvm.exec) {P P' : Prop} [Decidable P] [Decidable P'] {o : Int} (t n : Nat) (hd : decode c.code pc = .ok (.if_icmp .eq o, 3)) (ht : (pc : Int) + o = t) (hn : pc + 3 = n) (FT : (P ↔ P') → Go p e below s Q K N T (mkF m t Ls rest)) (FF : ¬ (P ↔ P') → Go p e below s Q K N T (mkF m n Ls rest)) : Go p e below s Q K N T (mkF m pc Ls (.int (b P') :: .int (b P) :: rest)) :=
  icmp_eq X hx t n hd ht hn rfl rfl (fun q => FT (b_inj (Int32.toInt_inj.mp q))) (fun q => FF fun z => q (by rw [b_iff z]))
theorem tsw (X : Stand p l e R s m args below meth c T locs cells slots) (hx : p.tables.exec = Jvm.exec) {dflt low high : Int} {offs : Array Int} {len : Nat} {o : Int} {i : Int32} (t : Nat) (hd : decode c.code pc = .ok (.tableswitch dflt low high offs, len)) (hin : ¬ (i.toInt < low ∨ i.toInt > high)) (hoff : offs[(i.toInt - low).toNat]? = some o) (ht : (pc : Int) + o = t) (F : Go p e below s Q K N T (mkF m t Ls rest)) : Go p e below s Q K N T (mkF m pc Ls (.int i :: rest)) :=
  go (fun _ h => XS.tswIn X.here hx rfl (pc0 := pc) (pc' := t) rfl hd rfl hin hoff (by rw [ht]; exact Int.natCast_nonneg _) (by rw [ht]; rfl) h) F
theorem callVU (X : Stand p l e R s m args below meth c T locs cells slots) (hx : p.tables.exec = Jvm.exec) (hZ : Z.Warmed39 s.vm) {own C owner : String} {index : Nat} {y z : MethodName} {bytes : ByteArray} {maxL W : Nat} {ret : Option FieldType} {rm : Room} {Qc : Option Value → Heap → List Loc → Prop} {argsL : List Value} {a : Addr} (hown : s.vm.findClass own = some m.cls)
    (wl : (Cond.methodLink own index y).before a0 Z = true) (wsm : (Cond.sameMethod y.cls owner y.name y.desc).before a0 Z = true) (wd : (Cond.declares ⟨owner, y.name, y.desc⟩).before a0 Z = true) (wsel : (Cond.selects C y z).before a0 Z = true) (wm : (Cond.instanceMethod z).before a0 Z = true) (wi : (Cond.initialized z.cls).before a0 Z = true) (wc : (Cond.code z bytes maxL ret).before a0 Z = true) (hy : owner ≠ "java/lang/invoke/MethodHandle" ∧ owner ≠ "java/lang/invoke/VarHandle")
    (hM : Met l Z z bytes maxL ret [] rm (Value.ref a :: argsL).toArray h Qc) (eT : T.heap = h) (E : Exa Z h a C) (hf : rm.frames + 1 ≤ R.frames) (hl : W + (maxL + 11) + rm.locals ≤ R.locals) (hck : cells + rm.cells ≤ R.cells) (hsk : slots + rm.slots ≤ R.slots) (hsz : Ls.size = c.maxLocals)
    (hlen : ∀ sig, parseMethodDescriptor y.desc = some sig → argsL.length = sig.parameters.length) (hst : st = argsL.reverse ++ .ref a :: rest) (hW : (rest.map fun v => v.category).sum ≤ W) (hd : decode c.code pc = .ok (.invokevirtual index, 3)) (hn : pc + 3 = n)
    (F : ∀ T' v L, Stand p l e R s m args below meth c T' (locs ++ L) (cells + rm.cells) (slots + rm.slots) → Qc v T'.heap L → Go p e below s Q K N T' (mkF m n Ls (v.toList ++ rest))) : Go p e below s Q K N T (mkF m pc Ls st) := by
  subst hn
  obtain ⟨cq, kq, qa, qb, qc⟩ := isOf hZ eT E
  obtain ⟨v, _, ⟨T18, L18, k18, n18⟩, -, X18, ⟨Lc18, hQ18, l18, y18, z18⟩, st18⟩ := X.virtualBackUp hx (x := y) (y := z) hown (mvT hZ wl) (mvT hZ wsm) (mvT hZ wd) hy (mvT hZ wsel) (mvT hZ wm) (backOf (W := W) hM hZ wc wi hf hl) qa qc (g := mkF m pc Ls st) rfl hsz (Steps.refl _) (argsL := argsL) (rest := rest) hlen hst (by show 2 * 0 + _ ≤ _; omega) hd (fun _ _ => ⟨rfl, eT, hck, hsk⟩)
  dsimp only [Pt.U, Pt.locs, Pt.cells, Pt.slots] at X18 l18 y18 z18 st18 hQ18
  subst l18 y18 z18
  exact go (fun _ h => st18.trans h) (F T18 v Lc18 X18 hQ18)
theorem callVUP (X : Stand p l e R s m args below meth c T locs cells slots) (hx : p.tables.exec = Jvm.exec) (hZ : Z.Warmed39 s.vm) {own C owner : String} {index : Nat} {y z : MethodName} {bytes : ByteArray} {maxL W : Nat} {ret : Option FieldType} {fr lo : Nat} {w : Value} {argsL : List Value} {a : Addr} (hown : s.vm.findClass own = some m.cls)
    (wl : (Cond.methodLink own index y).before a0 Z = true) (wsm : (Cond.sameMethod y.cls owner y.name y.desc).before a0 Z = true) (wd : (Cond.declares ⟨owner, y.name, y.desc⟩).before a0 Z = true) (wsel : (Cond.selects C y z).before a0 Z = true) (wm : (Cond.instanceMethod z).before a0 Z = true) (wi : (Cond.initialized z.cls).before a0 Z = true) (wc : (Cond.code z bytes maxL ret).before a0 Z = true) (hy : owner ≠ "java/lang/invoke/MethodHandle" ∧ owner ≠ "java/lang/invoke/VarHandle")
    (hM : Met l Z z bytes maxL ret [] { frames := fr, cells := 0, slots := 0, locals := lo } (Value.ref a :: argsL).toArray h (Pu w h)) (eT : T.heap = h) (E : Exa Z h a C) (hf : fr + 1 ≤ R.frames) (hl : W + (maxL + 11) + lo ≤ R.locals) (hck : cells ≤ R.cells) (hsk : slots ≤ R.slots) (hsz : Ls.size = c.maxLocals)
    (hlen : ∀ sig, parseMethodDescriptor y.desc = some sig → argsL.length = sig.parameters.length) (hst : st = argsL.reverse ++ .ref a :: rest) (hW : (rest.map fun v => v.category).sum ≤ W) (hd : decode c.code pc = .ok (.invokevirtual index, 3)) (hn : pc + 3 = n)
    (F : ∀ T', Stand p l e R s m args below meth c T' locs cells slots → T'.heap = h → Go p e below s Q K N T' (mkF m n Ls (w :: rest))) : Go p e below s Q K N T (mkF m pc Ls st) := by
  refine callVU X hx hZ hown wl wsm wd wsel wm wi wc hy hM eT E hf hl hck hsk hsz hlen hst hW hd hn ?_
  rintro T' v L X' ⟨rfl, rfl, hh⟩
  rw [List.append_nil] at X'
  exact F T' X' hh
theorem cutF (g' : JFrame) {g : JFrame} (h1 : Go p e below s Q K N T g' → Go p e below s Q K N T g) (h2 : Go p e below s Q K N T g') : Go p e below s Q K N T g := h1 h2
theorem cutJ (g' : Int32 → JFrame) {g : JFrame} (h1 : (∀ j, Go p e below s Q K N T (g' j)) → Go p e below s Q K N T g) (h2 : ∀ j, Go p e below s Q K N T (g' j)) : Go p e below s Q K N T g := h1 h2
theorem cutX (X : Stand p l e R s m args below meth c T locs cells slots) (eT : T.heap = h) (g' : JFrame) {g : JFrame} (h1 : (∀ T', Stand p l e R s m args below meth c T' locs cells slots → T'.heap = h → Go p e below s Q K N T' g') → Go p e below s Q K N T g) (h2 : ∀ T', Stand p l e R s m args below meth c T' locs cells slots → T'.heap = h → Go p e below s Q K N T' g') : Go p e below s Q K N T g := h1 h2
theorem pu {w : Value} {h' : Heap} (e : h' = h) : Pu w h (some w) h' [] := ⟨rfl, rfl, e⟩
theorem puE {w w' : Value} {h' : Heap} (q : w' = w) (e : h' = h) : Pu w h (some w') h' [] := ⟨by rw [q], rfl, e⟩
theorem puB1 {P : Prop} [Decidable P] {h' : Heap} (hP : P) (e : h' = h) : Pu (.int (b P)) h (some (.int 1)) h' [] := ⟨by rw [b_t hP], rfl, e⟩
theorem puB0 {P : Prop} [Decidable P] {h' : Heap} (hP : ¬ P) (e : h' = h) : Pu (.int (b P)) h (some (.int 0)) h' [] := ⟨by rw [b_f hP], rfl, e⟩
end W
section A
theorem t_add {x y : Int32} {a b' : Int} (ha : x.toInt = a) (hb : y.toInt = b') (h1 : -2147483648 ≤ a + b') (h2 : a + b' < 2147483648) : (x + y).toInt = a + b' := by
  subst ha hb; rw [Int32.toInt_add]; exact Int.bmod_eq_of_le (by omega) (by omega)
theorem t_sub {x y : Int32} {a b' : Int} (ha : x.toInt = a) (hb : y.toInt = b') (h1 : -2147483648 ≤ a - b') (h2 : a - b' < 2147483648) : (x - y).toInt = a - b' := by
  subst ha hb; rw [Int32.toInt_sub]; exact Int.bmod_eq_of_le (by omega) (by omega)
theorem t_mul {x y : Int32} {a b' : Int} (ha : x.toInt = a) (hb : y.toInt = b') (h1 : -2147483648 ≤ a * b') (h2 : a * b' < 2147483648) : (x * y).toInt = a * b' := by
  subst ha hb; rw [Int32.toInt_mul]; exact Int.bmod_eq_of_le (by omega) (by omega)
theorem t_div {x y : Int32} {a d : Int} (ha : x.toInt = a) (hb : y.toInt = d) (h0 : 0 ≤ a) (hd : 0 < d) : (x / y).toInt = a / d := by
  subst ha hb
  have hy : y ≠ -1 := fun q => by rw [q] at hd; exact absurd hd (by decide)
  exact (c_idiv x y _ rfl hy).1 h0
theorem t_rem {x y : Int32} {a d : Int} (ha : x.toInt = a) (hb : y.toInt = d) (h0 : 0 ≤ a) : (x % y).toInt = a % d := by
  subst ha hb; exact (c_irem x y _ rfl).1 h0
theorem s_add {x y : Int64} {a b' : Int} (ha : x.toInt = a) (hb : y.toInt = b') (h1 : -9223372036854775808 ≤ a + b') (h2 : a + b' < 9223372036854775808) : (x + y).toInt = a + b' := by
  subst ha hb; rw [Int64.toInt_add]; exact Int.bmod_eq_of_le (by omega) (by omega)
theorem s_sub {x y : Int64} {a b' : Int} (ha : x.toInt = a) (hb : y.toInt = b') (h1 : -9223372036854775808 ≤ a - b') (h2 : a - b' < 9223372036854775808) : (x - y).toInt = a - b' := by
  subst ha hb; rw [Int64.toInt_sub]; exact Int.bmod_eq_of_le (by omega) (by omega)
theorem t_i2l {x : Int32} {a : Int} (ha : x.toInt = a) : x.toInt64.toInt = a := by rw [Int32.toInt_toInt64]; exact ha
theorem s_l2i {x : Int64} {a : Int} (ha : x.toInt = a) (h1 : -2147483648 ≤ a) (h2 : a < 2147483648) : x.toInt32.toInt = a := by
  have := c_l2i x; have h3 := x.toInt32.toInt_lt; have h4 := x.toInt32.le_toInt; omega
theorem t_i2s {x : Int32} {a : Int} (ha : x.toInt = a) (h1 : -32768 ≤ a) (h2 : a < 32768) : x.toInt16.toInt32.toInt = a := by
  have := c_i2s x; omega
end A
section V
variable {args : Array Value} {first s : State} {o : Option Outcome} {idx : List Nat} {t : Term}
theorem eqI_v {k : Int32} (h : (Cond.eq t (.int k)).value args first o s idx = some true) : t.eval args first o idx s = some (.int k) := by
  simp only [Cond.value, Term.eval] at h
  cases ht : t.eval args first o idx s with
  | none => simp [ht] at h
  | some x => cases x <;> simp [ht] at h ⊢; exact h
theorem eqJ_v {k : Int64} (h : (Cond.eq t (.long k)).value args first o s idx = some true) : t.eval args first o idx s = some (.long k) := by
  simp only [Cond.value, Term.eval] at h
  cases ht : t.eval args first o idx s with
  | none => simp [ht] at h
  | some x => cases x <;> simp [ht] at h ⊢; exact h
theorem foldl_all {f : Nat → Option Bool} : ∀ (L : List Nat) (acc : Option Bool), L.foldl (fun acc i => match acc with | some true => f i | x => x) acc = some true → acc = some true ∧ ∀ i ∈ L, f i = some true
  | [], acc, h => ⟨h, fun _ q => nomatch q⟩
  | i :: L, acc, h => by
    obtain ⟨h1, h2⟩ := foldl_all L _ h
    match acc, h1 with
    | some true, h1 => exact ⟨rfl, fun j q => (List.mem_cons.mp q).elim (fun z => z ▸ h1) (h2 j)⟩
theorem all_v {c : Cond} {a : Addr} {cell : Cell} (h : (Cond.all t c).value args first o s idx = some true) (ht : t.eval args first o idx s = some (.ref a)) (hc : s.arrayAt? a = some cell) : ∀ i, i < cell.slots.size → c.value args first o s (i :: idx) = some true := by
  simp only [Cond.value, ht, hc] at h
  exact fun i hi => (foldl_all _ _ h).2 i (List.mem_range.mpr hi)
theorem elI {x : Addr} {j k : Int32} {cl : Cell} {i : Nat} (h : (Cond.eq (.elem t (.int j)) (.int k)).value args first o s idx = some true) (ht : t.eval args first o idx s = some (.ref x)) (hc : s.heap[x]? = some cl) (hi : j.toNatClampNeg = i) : cl.slots[i]? = some (.int k) := by
  subst hi; exact (elem_in (eqI_v h) ht rfl hc).2
theorem elN {x : Addr} {j : Int32} {cl : Cell} {i : Nat} (h : (Cond.eq (.elem t (.int j)) .null).value args first o s idx = some true) (ht : t.eval args first o idx s = some (.ref x)) (hc : s.heap[x]? = some cl) (hi : j.toNatClampNeg = i) : cl.slots[i]? = some .null := by
  subst hi; exact (elem_in (null_v h) ht rfl hc).2
theorem eqR_v {t' : Term} {v : Value} (hv : v.isRef = true) (h : (Cond.eq t t').value args first o s idx = some true) (ht : t'.eval args first o idx s = some v) : t.eval args first o idx s = some v := by
  obtain ⟨x, y, e1, e2, k1, k2⟩ := cmp_v (Or.inl h)
  cases ht.symm.trans e2
  have hx : x.isRef = true := by rcases ref_cases hv with rfl | ⟨z, rfl⟩ <;> exact k2.2
  rw [e1, gotT (eq_R e1 e2 hx hv) h]
theorem elR {x y : Addr} {j : Int32} {cl : Cell} {i : Nat} {t' : Term} (h : (Cond.eq (.elem t (.int j)) t').value args first o s idx = some true) (hy : t'.eval args first o idx s = some (.ref y)) (ht : t.eval args first o idx s = some (.ref x)) (hc : s.heap[x]? = some cl) (hi : j.toNatClampNeg = i) : cl.slots[i]? = some (.ref y) := by
  subst hi; exact (elem_in (eqR_v rfl h hy) ht rfl hc).2
theorem or_f {c d : Cond} (h : (Cond.or c d).value args first o s idx = some true) (hc : c.value args first o s idx = some false) : d.value args first o s idx = some true := by
  simpa only [Cond.value, hc] using h
theorem len_fit {x : Addr} {cl : Cell} {ty : FieldType} {k : Int32} {Z : State} (h : (Cond.eq (.length t) (.int k)).value args Z none Z [] = some true) (ht : t.eval args Z none [] Z = some (.ref x)) (A : Arr Z Z.heap x cl ty) : cl.slots.size < 2 ^ 31 ∧ cl.slots.size.toInt32 = k := by
  have h1 := eqI_v h
  have h2 : Z.arrayAt? x = some cl := A.fin (Vm.Alike.refl _)
  simp only [Term.eval, ht, h2, Option.bind_eq_bind, Option.bind_some] at h1
  by_cases q : cl.slots.size < 2 ^ 31
  · simp [q] at h1; exact ⟨q, h1⟩
  · simp [q] at h1
theorem fldI {Z : State} {a : Addr} {C n d : String} {k : Int32} (ev : t.eval args Z none [] Z = some (.ref a)) (h : (Cond.eq (.field t C n d) (.int k)).value args Z none Z [] = some true) : Fld Z Z.heap a C n d (.int k) := Fld.start ((fld_at ev).symm.trans (eqI_v h))
theorem fldJ {Z : State} {a : Addr} {C n d : String} {k : Int64} (ev : t.eval args Z none [] Z = some (.ref a)) (h : (Cond.eq (.field t C n d) (.long k)).value args Z none Z [] = some true) : Fld Z Z.heap a C n d (.long k) := Fld.start ((fld_at ev).symm.trans (eqJ_v h))
end V

section H
variable {p : Program} {l : Launch} {e : Env} {R : Room} {s : State} {m : MethodId} {args : Array Value} {below : List Frame} {meth : Method} {c : Code} {T T' : State} {locs : List Loc} {cells slots : Nat} {Q : Option Value → Heap → List Loc → Prop} {K N pc n t : Nat} {Ls l' : Array Slot} {st rest : List Value} {Z : State} {a0 : Array Value} {h : Heap}
/-- a law that writes only what it made -/
def Fq (w : Value) (n0 : Nat) (v : Option Value) (h : Heap) (L : List Loc) : Prop := v = some w ∧ Fr n0 L
theorem newO (X : Stand p l e R s m args below meth c T locs cells slots) (hx : p.tables.exec = Jvm.exec) (hZ : Z.Warmed39 s.vm) {own C : String} {index k : Nat} (hown : s.vm.findClass own = some m.cls) (w : (Cond.classLink own index C).before a0 Z = true) (wi : (Cond.instantiable C k).before a0 Z = true) (wz : (Cond.initialized C).before a0 Z = true) (eT : T.heap = h) (hd : decode c.code pc = .ok (.new index, 3)) (hc : cells + 1 ≤ R.cells) (hl : slots + k ≤ R.slots) (hn : pc + 3 = n)
    (F : ∀ T' h', Stand p l e R s m args below meth c T' locs (cells + 1) (slots + k) → T'.heap = h' → Ext h h' → Exa Z h' h.size C → (∀ {O nm d : String} {ty : FieldType}, Laid Z a0 C O nm d → parseFieldDescriptor d = some ty → Fld Z h' h.size O nm d (defaultValue ty)) → Go p e below s Q K N T' (mkF m n Ls (.ref h.size :: st))) : Go p e below s Q K N T (mkF m pc Ls st) := by
  subst hn
  obtain ⟨T2, h2, X2, e2, E2, A2, D2, -, st2⟩ := RoadKit.newO X hx hZ hown w wi wz eT (g := mkF m pc Ls st) rfl hd hc hl
  exact go (fun _ h => st2 _ h) (F T2 h2 X2 e2 E2 A2 D2)
theorem putF (X : Stand p l e R s m args below meth c T locs cells slots) (hx : p.tables.exec = Jvm.exec) (hZ : Z.Warmed39 s.vm) {own O f d host C : String} {index kk : Nat} {ty : FieldType} (hown : s.vm.findClass own = some m.cls) (w : (Cond.fieldLink own index O f d).before a0 Z = true ∨ (Cond.fieldLinkNest own index O f d host).before a0 Z = true) (eT : T.heap = h) {a : Addr} {v old : Value} (S : Fld Z h a O f d old) (E : Exa Z h a C)
    (L : (Cond.lays C O f d).before a0 Z = true ∨ ((Cond.laysFinal C O f d).before a0 Z = true ∧ own = O ∧ meth.name = "<init>")) (wi : (Cond.instantiable C kk).before a0 Z = true) (hty : parseFieldDescriptor d = some ty) (hnr : narrow ty v = v) (hf : fits ty v = true) (hd : decode c.code pc = .ok (.putfield index, 3)) (hn : pc + 3 = n)
    (F : ∀ T' h', Stand p l e R s m args below meth c T' (locs ++ [⟨a, RoadKit.slotOf Z O f d⟩]) cells slots → T'.heap = h' → Wr h h' a (RoadKit.slotOf Z O f d) v → Go p e below s Q K N T' (mkF m n Ls st)) : Go p e below s Q K N T (mkF m pc Ls (v :: .ref a :: st)) := by
  subst hn
  obtain ⟨T2, h2, X2, e2, W2, st2⟩ := RoadKit.putF X hx hZ hown (host := host) w Via.refl eT S E L wi hty hnr hf (g := mkF m pc Ls (v :: .ref a :: st)) rfl rfl hd
  exact go (fun _ h => st2 _ h) (F T2 h2 X2 e2 W2)
theorem initO (X : Stand p l e R s m args below meth c T locs cells slots) (hx : p.tables.exec = Jvm.exec) (hZ : Z.Warmed39 s.vm) {own : String} {idx W : Nat} (hown : s.vm.findClass own = some m.cls) (w1 : (Cond.methodLink own idx Lib.objectInit).before a0 Z = true) (w2 : (Cond.instanceMethod Lib.objectInit).before a0 Z = true) (w3 : (Cond.code Lib.objectInit ⟨#[0xb1]⟩ 1 none).before a0 Z = true) (eT : T.heap = h) {a : Addr} (hsz : Ls.size = c.maxLocals) (hf : 1 ≤ R.frames) (hW : (st.map fun v => v.category).sum ≤ W) (hl : W + 12 ≤ R.locals) (hd : decode c.code pc = .ok (.invokespecial idx, 3)) (hn : pc + 3 = n)
    (F : ∀ T', Stand p l e R s m args below meth c T' locs cells slots → T'.heap = h → Go p e below s Q K N T' (mkF m n Ls st)) : Go p e below s Q K N T (mkF m pc Ls (.ref a :: st)) := by
  subst hn
  obtain ⟨T2, X2, e2, st2⟩ := RoadKit.initO X hx hZ hown w1 w2 w3 eT (g := mkF m pc Ls (.ref a :: st)) rfl hsz rfl hd hf (W := W) (by show 2 * 0 + _ ≤ _; omega) hl
  exact go (fun _ h => st2 _ h) (F T2 X2 e2)
theorem callI (X : Stand p l e R s m args below meth c T locs cells slots) (hx : p.tables.exec = Jvm.exec) (hZ : Z.Warmed39 s.vm) {own : String} {index : Nat} {y : MethodName} {bytes : ByteArray} {maxL W : Nat} {rm : Room} {Qc : Option Value → Heap → List Loc → Prop} {argsL : List Value} {a : Addr} (hy1 : y.name = "<init>") (hown : s.vm.findClass own = some m.cls)
    (wl : (Cond.methodLink own index y).before a0 Z = true) (wm : (Cond.instanceMethod y).before a0 Z = true) (wi : (Cond.initialized y.cls).before a0 Z = true) (wc : (Cond.code y bytes maxL none).before a0 Z = true) (hy : y.cls ≠ "java/lang/invoke/MethodHandle" ∧ y.cls ≠ "java/lang/invoke/VarHandle")
    (hM : Met l Z y bytes maxL none [] rm (Value.ref a :: argsL).toArray h Qc) (eT : T.heap = h) (hf : rm.frames + 1 ≤ R.frames) (hl : W + (maxL + 11) + rm.locals ≤ R.locals) (hck : cells + rm.cells ≤ R.cells) (hsk : slots + rm.slots ≤ R.slots) (hsz : Ls.size = c.maxLocals)
    (hlen : ∀ sig, parseMethodDescriptor y.desc = some sig → argsL.length = sig.parameters.length) (hst : st = argsL.reverse ++ .ref a :: rest) (hW : (rest.map fun v => v.category).sum ≤ W) (hd : decode c.code pc = .ok (.invokespecial index, 3)) (hn : pc + 3 = n)
    (F : ∀ T' v L, Stand p l e R s m args below meth c T' (locs ++ L) (cells + rm.cells) (slots + rm.slots) → Qc v T'.heap L → Go p e below s Q K N T' (mkF m n Ls (v.toList ++ rest))) : Go p e below s Q K N T (mkF m pc Ls st) := by
  subst hn
  obtain ⟨v, _, ⟨T18, L18, k18, n18⟩, -, X18, ⟨Lc18, hQ18, l18, y18, z18⟩, st18⟩ := X.specialBack hx (y := y) hy1 hown (mvT hZ wl) (mvT hZ wm) (mvT hZ wc) hy (backOf (W := W) hM hZ wc wi hf hl) (g := mkF m pc Ls st) rfl hsz (Steps.refl _) (a := a) (argsL := argsL) (rest := rest) hlen hst (by show 2 * 0 + _ ≤ _; omega) hd (fun _ _ => ⟨rfl, eT, hck, hsk⟩)
  dsimp only [Pt.U, Pt.locs, Pt.cells, Pt.slots] at X18 l18 y18 z18 st18 hQ18
  subst l18 y18 z18
  exact go (fun _ h => st18.trans h) (F T18 v Lc18 X18 hQ18)
theorem instY (X : Stand p l e R s m args below meth c T locs cells slots) (hx : p.tables.exec = Jvm.exec) (hZ : Z.Warmed39 s.vm) {own C : String} {index : Nat} (hown : s.vm.findClass own = some m.cls) (w : (Cond.classLink own index C).before a0 Z = true) (eT : T.heap = h) {a : Addr} (E : Exa Z h a C) (hd : decode c.code pc = .ok (.instanceof index, 3)) (hn : pc + 3 = n)
    (F : ∀ T', Stand p l e R s m args below meth c T' locs cells slots → T'.heap = h → Go p e below s Q K N T' (mkF m n Ls (.int 1 :: st))) : Go p e below s Q K N T (mkF m pc Ls (.ref a :: st)) := by
  subst hn
  obtain ⟨T2, X2, e2, st2⟩ := RoadKit.instY X hx hZ hown w eT (Ins.self E) (g := mkF m pc Ls (.ref a :: st)) rfl rfl hd
  exact go (fun _ h => st2 _ h) (F T2 X2 e2)
theorem castY (X : Stand p l e R s m args below meth c T locs cells slots) (hx : p.tables.exec = Jvm.exec) (hZ : Z.Warmed39 s.vm) {own C : String} {index : Nat} (hown : s.vm.findClass own = some m.cls) (w : (Cond.classLink own index C).before a0 Z = true) (eT : T.heap = h) {a : Addr} (E : Exa Z h a C) (hd : decode c.code pc = .ok (.checkcast index, 3)) (hn : pc + 3 = n)
    (F : ∀ T', Stand p l e R s m args below meth c T' locs cells slots → T'.heap = h → Go p e below s Q K N T' (mkF m n Ls (.ref a :: st))) : Go p e below s Q K N T (mkF m pc Ls (.ref a :: st)) := by
  subst hn
  obtain ⟨T2, X2, e2, st2⟩ := RoadKit.castY X hx hZ hown w eT (Ins.self E) (g := mkF m pc Ls (.ref a :: st)) rfl rfl hd
  exact go (fun _ h => st2 _ h) (F T2 X2 e2)
theorem newP (X : Stand p l e R s m args below meth c T locs cells slots) (hx : p.tables.exec = Jvm.exec) (hZ : Z.Warmed39 s.vm) {aty : ArrayType} {ty : FieldType} (hty : newarray.typeOf aty = ty) (w : (Cond.arrayClass ty).before a0 Z = true) (eT : T.heap = h) {z : Int32} (hz : ¬ z < 0) (cap : Nat) (hcap : z.toNatClampNeg = cap) (hb : cap * 8 ≤ 536870912) (hc : cells + 1 ≤ R.cells) (hl : slots + cap ≤ R.slots) (hd : decode c.code pc = .ok (.newarray aty, 2)) (hn : pc + 2 = n)
    (F : ∀ T' h' cA, Stand p l e R s m args below meth c T' locs (cells + 1) (slots + cap) → T'.heap = h' → Ext h h' → Arv Z h' h.size cA ty z (List.replicate cap (defaultValue ty)) (defaultValue ty) → Go p e below s Q K N T' (mkF m n Ls (.ref h.size :: st))) : Go p e below s Q K N T (mkF m pc Ls (.int z :: st)) := by
  subst hn hty
  obtain ⟨T2, h2, cA, X2, e2, E2, A2, st2⟩ := RoadKit.newP X hx hZ w eT (g := mkF m pc Ls (.int z :: st)) rfl hd rfl hz (cap := cap) (Nat.le_of_eq hcap) hb hc hl
  exact go (fun _ h => st2 _ h) (F T2 h2 cA X2 e2 E2 ((Arv.new A2 hz).pad (pad_rep [] _ cap)))

theorem bastore (X : Stand p l e R s m args below meth c T locs cells slots) (hx : p.tables.exec = Jvm.exec) (hZ : Z.Warmed39 s.vm) {a : Addr} {k : ClassId} {z j x : Int32} {vs : List Value} {d : Value} (eT : T.heap = h) (A : Arv Z h a k .byte z vs d) (h1 : 0 ≤ j.toInt) (h2 : j.toInt < z.toInt) (i : Nat) (hj : j.toNatClampNeg = i) (hi : i < vs.length) (hd : decode c.code pc = .ok (.bastore, 1)) (hn : pc + 1 = n)
    (F : ∀ T' h', Stand p l e R s m args below meth c T' (locs ++ [⟨a, j.toNatClampNeg⟩]) cells slots → T'.heap = h' → Wr h h' a j.toNatClampNeg (.int (nar .byte x)) → Arv Z h' a k .byte z (vs.set i (.int (nar .byte x))) d → Go p e below s Q K N T' (mkF m n Ls st)) : Go p e below s Q K N T (mkF m pc Ls (.int x :: .int j :: .ref a :: st)) := by
  subst hn
  obtain ⟨cl, Ar, q1, S, q3, H, G'⟩ := A
  obtain ⟨T2, h2', X2, e2, W2, st2⟩ := RoadKit.stB X hx hZ eT Ar (in_of S q3 h1 h2) (g := mkF m pc Ls (.int x :: .int j :: .ref a :: st)) rfl rfl hd
  exact go (fun _ h => st2 _ h) (F T2 h2' X2 e2 W2 (Arv.set Ar q1 S q3 H G' (fits_nar_byte x) W2 i hj hi))
theorem castore (X : Stand p l e R s m args below meth c T locs cells slots) (hx : p.tables.exec = Jvm.exec) (hZ : Z.Warmed39 s.vm) {a : Addr} {k : ClassId} {z j x : Int32} {vs : List Value} {d : Value} (eT : T.heap = h) (A : Arv Z h a k .char z vs d) (h1 : 0 ≤ j.toInt) (h2 : j.toInt < z.toInt) (i : Nat) (hj : j.toNatClampNeg = i) (hi : i < vs.length) (hd : decode c.code pc = .ok (.castore, 1)) (hn : pc + 1 = n)
    (F : ∀ T' h', Stand p l e R s m args below meth c T' (locs ++ [⟨a, j.toNatClampNeg⟩]) cells slots → T'.heap = h' → Wr h h' a j.toNatClampNeg (.int (nar .char x)) → Arv Z h' a k .char z (vs.set i (.int (nar .char x))) d → Go p e below s Q K N T' (mkF m n Ls st)) : Go p e below s Q K N T (mkF m pc Ls (.int x :: .int j :: .ref a :: st)) := by
  subst hn
  obtain ⟨cl, Ar, q1, S, q3, H, G'⟩ := A
  obtain ⟨T2, h2', X2, e2, W2, st2⟩ := RoadKit.stC X hx hZ eT Ar (in_of S q3 h1 h2) (g := mkF m pc Ls (.int x :: .int j :: .ref a :: st)) rfl rfl hd
  exact go (fun _ h => st2 _ h) (F T2 h2' X2 e2 W2 (Arv.set Ar q1 S q3 H G' (fits_nar_char x) W2 i hj hi))
theorem iastore (X : Stand p l e R s m args below meth c T locs cells slots) (hx : p.tables.exec = Jvm.exec) (hZ : Z.Warmed39 s.vm) {a : Addr} {k : ClassId} {z j x : Int32} {vs : List Value} {d : Value} (eT : T.heap = h) (A : Arv Z h a k .int z vs d) (h1 : 0 ≤ j.toInt) (h2 : j.toInt < z.toInt) (i : Nat) (hj : j.toNatClampNeg = i) (hi : i < vs.length) (hd : decode c.code pc = .ok (.iastore, 1)) (hn : pc + 1 = n)
    (F : ∀ T' h', Stand p l e R s m args below meth c T' (locs ++ [⟨a, j.toNatClampNeg⟩]) cells slots → T'.heap = h' → Wr h h' a j.toNatClampNeg (.int (x)) → Arv Z h' a k .int z (vs.set i (.int (x))) d → Go p e below s Q K N T' (mkF m n Ls st)) : Go p e below s Q K N T (mkF m pc Ls (.int x :: .int j :: .ref a :: st)) := by
  subst hn
  obtain ⟨cl, Ar, q1, S, q3, H, G'⟩ := A
  obtain ⟨T2, h2', X2, e2, W2, st2⟩ := RoadKit.stI X hx hZ eT Ar (in_of S q3 h1 h2) (g := mkF m pc Ls (.int x :: .int j :: .ref a :: st)) rfl rfl hd
  exact go (fun _ h => st2 _ h) (F T2 h2' X2 e2 W2 (Arv.set Ar q1 S q3 H G' (rfl) W2 i hj hi))
def FldE (Z : State) (h : Heap) (a : Addr) (C n d : String) : Prop := ∃ v, Fld Z h a C n d v
theorem FldE.of {Z : State} {h : Heap} {a : Addr} {C n d : String} {v : Value} (F : Fld Z h a C n d v) : FldE Z h a C n d := ⟨v, F⟩
theorem FldE.ext {Z : State} {h h' : Heap} {a : Addr} {C n d : String} (F : FldE Z h a C n d) (E : Ext h h') : FldE Z h' a C n d := by obtain ⟨v, F⟩ := F; exact ⟨v, F.ext E⟩
theorem FldE.keep {Z : State} {h h' : Heap} {ws : List Addr} {a : Addr} {C n d : String} (F : FldE Z h a C n d) (K : Keep h h' ws) : FldE Z h' a C n d := by
  obtain ⟨v, cell, cf, k, i, f, h1, h2, h3, h4, h5, h6, h7⟩ := F
  obtain ⟨c', q, r1, r2, r3⟩ := K.2.2 a cell h1
  have hlt := (Array.getElem?_eq_some_iff.mp h7).1
  exact ⟨_, c', cf, k, i, f, q, h2, h3, r2 ▸ h4, r2 ▸ h5, r1 ▸ h6, Array.getElem?_eq_getElem (r3 ▸ hlt)⟩
theorem FldE.wr {Z : State} {h h' : Heap} {a b' : Addr} {C n d : String} {sl : Nat} {v : Value} (F : FldE Z h b' C n d) (W : Wr h h' a sl v) : FldE Z h' b' C n d := F.keep (Keep.of_wr W)
theorem nfOf {args : Array Value} {s : State} {C : String} {y y' z' : MethodName} (hsel : (Cond.selects C y' z').before args s = true) (hc : z'.cls = y.cls) : NotFace s y := fun r0 h0 => by
  obtain ⟨c2, r2, m2, q1, q2, q3, q4, kP, hkP, hkPi⟩ := Cond.selects_spec hsel
  have h1 := findClass_of_methodNamed q3
  have h2 := findClass_of_methodNamed h0
  rw [hc] at h1
  have e : m2.cls = r0.cls := Option.some.inj (h1.symm.trans h2)
  exact ⟨kP, e ▸ hkP, hkPi⟩
theorem acopy (X : Stand p l e R s m args below meth c T locs cells slots) (hx : p.tables.exec = Jvm.exec) (hZ : Z.Warmed39 s.vm) {own : String} {index : Nat} (hown : s.vm.findClass own = some m.cls) (wl : (Cond.methodLink own index Stand.acN).before a0 Z = true) (wn : (Cond.native Stand.acN).before a0 Z = true) (ws : (Cond.static Stand.acN).before a0 Z = true) (wi : (Cond.initialized "java/lang/System").before a0 Z = true) (eT : T.heap = h)
    {src dst : Addr} {k1 k2 : ClassId} {z1 z2 p1 p2 q : Int32} {vs1 vs2 : List Value} {d1 d2 : Value} (A1 : Arv Z h src k1 .int z1 vs1 d1) (A2 : Arv Z h dst k2 .int z2 vs2 d2) (h1 : 0 ≤ p1.toInt) (h2 : 0 ≤ p2.toInt) (h3 : 0 ≤ q.toInt) (h4 : p1.toInt + q.toInt ≤ z1.toInt) (h5 : p2.toInt + q.toInt ≤ z2.toInt)
    {W : Nat} (hsz : Ls.size = c.maxLocals) (hf : 1 ≤ R.frames) (hW : (st.map fun v => v.category).sum ≤ W) (hl : W + (nativeFrameWords "java/lang/System" "arraycopy" 5 + 11) ≤ R.locals) (hd : decode c.code pc = .ok (.invokestatic index, 3)) (hn : pc + 3 = n)
    (F : ∀ T' h', Stand p l e R s m args below meth c T' (locs ++ Stand.copyLocs dst p2.toNatClampNeg q.toNatClampNeg) cells slots → T'.heap = h' → Keep h h' [dst] → Go p e below s Q K N T' (mkF m n Ls st)) : Go p e below s Q K N T (mkF m pc Ls (.int q :: .int p2 :: .ref dst :: .int p1 :: .ref src :: st)) := by
  subst hn
  subst eT
  obtain ⟨cs, As, -, Ss, Ns, Hs, Gs⟩ := A1
  obtain ⟨cd, Ad, -, Sd, Nd, Hd, Gd⟩ := A2
  have isA := State.isArrayOf_alike hZ.alike As.2.1
  have idA := State.isArrayOf_alike hZ.alike Ad.2.1
  obtain ⟨-, ks, hks, sC, hsk⟩ := isA
  obtain ⟨-, kd, hkd, dC, hdk⟩ := idA
  have en : ∀ x : Int32, 0 ≤ x.toInt → ¬ x < 0 := fun x hx0 => by rw [Int32.lt_iff_toInt_lt]; have e0 : (0 : Int32).toInt = 0 := rfl; omega
  have ez : ∀ x : Int32, ¬ x < 0 → (x.toNatClampNeg : Int) = x.toInt := fun x hx0 => by
    rw [Int32.lt_iff_toInt_lt] at hx0; have e0 : (0 : Int32).toInt = 0 := rfl; have e1 : x.toNatClampNeg = x.toInt.toNat := rfl; omega
  have e1 := ez z1 Ns; have e2 := ez z2 Nd; have e3 := ez p1 (en p1 h1); have e4 := ez q (en q h3); have e5 := ez p2 (en p2 h2)
  obtain ⟨vm₁, -, X', st'⟩ := X.arraycopyK hx hown (mvT hZ wl) (mvT hZ wn) (mvT hZ ws) (mvT hZ wi) (src := src) (dst := dst) (srcPos := p1) (destPos := p2) (n := q) (cs := cs) (cd := cd) As.1 Ad.1
    (fun z e => by have := As.plain; rw [e] at this; cases this) (fun z e => by have := Ad.plain; rw [e] at this; cases this) As.2.2 Ad.2.2 hks hkd hsk hdk rfl (en p1 h1) (en p2 h2) (en q h3) (by rw [Ss]; omega) (by rw [Sd]; omega)
    (fun vm' _ i hi => by
      have hlt : p1.toNatClampNeg + i < cs.slots.size := by rw [Ss]; omega
      have hh := Hs _ hlt
      have hg := Gs _ hlt
      have hgd : cs.slots.getD (p1.toNatClampNeg + i) .null = vs1.getD (p1.toNatClampNeg + i) d1 := by rw [Array.getD_eq_getD_getElem?, hh]; rfl
      rw [hgd]
      refine ⟨hg, ?_⟩
      obtain ⟨x, hx'⟩ := fit_I hg (Or.inl rfl)
      rw [hx']; trivial)
    (g := mkF m pc Ls (.int q :: .int p2 :: .ref dst :: .int p1 :: .ref src :: st)) rfl hsz rfl hd hf (by show 2 * 0 + _ + _ ≤ _; omega)
  refine go (fun _ h => st' _ h) (F _ _ X' rfl ?_)
  have cf := SB.copied_facts cs cd p1 p2 q
  have hb : dst < T.heap.size := (Array.getElem?_eq_some_iff.mp Ad.1).1
  refine ⟨by show T.heap.size ≤ (T.heap.setIfInBounds dst _).size; simp, fun x c hc hx' => ?_, fun x c hc => ?_⟩
  · show (T.heap.setIfInBounds dst _)[x]? = _
    have hne : dst ≠ x := fun z => hx' (by simp [z])
    rw [Array.getElem?_setIfInBounds_ne hne]; exact hc
  · show ∃ c', (T.heap.setIfInBounds dst _)[x]? = some c' ∧ _
    by_cases z : dst = x
    · subst z; cases Ad.1.symm.trans hc
      exact ⟨_, Array.getElem?_setIfInBounds_self_of_lt hb, cf⟩
    · exact ⟨c, by rw [Array.getElem?_setIfInBounds_ne z]; exact hc, rfl, rfl, rfl⟩
theorem ext_of_keep {h h' : Heap} (K : Keep h h' []) : Ext h h' := ⟨K.1, fun a c q => K.2.1 a c q nin0⟩
theorem keep_of_ext {h h' : Heap} (E : Ext h h') : Keep h h' [] := (Keep.refl _ _).ext E
theorem ext_refl (h : Heap) : Ext h h := ⟨Nat.le_refl _, fun _ _ q => q⟩
theorem ext_trans {h h' h'' : Heap} (E : Ext h h') (E' : Ext h' h'') : Ext h h'' := ⟨Nat.le_trans E.1 E'.1, fun a c q => E'.2 a c (E.2 a c q)⟩
end H
end Jvm.Wk
namespace Jvm.Pilot.@@N@@
open Jvm Jvm.ClassFile Sem Op Lib Jvm.Free Jvm.Stand Jvm.LawKit Jvm.RoadKit Bundle Jvm.Pilot.@@N@@.Jvm.D
abbrev pAl (x : Int) : Prop := (65 ≤ x ∧ x ≤ 90) ∨ (97 ≤ x ∧ x ≤ 122)
abbrev pDi (x : Int) : Prop := (48 ≤ x ∧ x ≤ 57)
abbrev pHx (x : Int) : Prop := (pDi x) ∨ (65 ≤ x ∧ x ≤ 70) ∨ (97 ≤ x ∧ x ≤ 102)
abbrev pSc (x : Int) : Prop := (pAl x) ∨ (pDi x) ∨ (x = 43) ∨ (x = 45) ∨ (x = 46)
abbrev pUn (x : Int) : Prop := (pAl x) ∨ (pDi x) ∨ (x = 45) ∨ (x = 46) ∨ (x = 95) ∨ (x = 126)
abbrev pSu (x : Int) : Prop := (x = 33) ∨ (x = 36) ∨ (x = 38) ∨ (x = 39) ∨ (x = 40) ∨ (x = 41) ∨ (x = 42) ∨ (x = 43) ∨ (x = 44) ∨ (x = 59) ∨ (x = 61)
abbrev pRe (x : Int) : Prop := (pUn x) ∨ (pSu x)
abbrev pUs (x : Int) : Prop := (pRe x) ∨ (x = 58)
abbrev pPc (x : Int) : Prop := (pUs x) ∨ (x = 64)
abbrev pQu (x : Int) : Prop := (pPc x) ∨ (x = 47) ∨ (x = 63)
abbrev pPa (x : Int) : Prop := (pPc x) ∨ (x = 47)
abbrev pSe (x : Int) : Prop := pPc x ∧ ¬ x = 58
def maskV (x : Int) : Int32 := (Wk.ob (pSe x) (512 : Int32) (Wk.ob (pPa x) (256 : Int32) (Wk.ob (pQu x) (128 : Int32) (Wk.ob (pPc x) (64 : Int32) (Wk.ob (pUs x) (32 : Int32) (Wk.ob (pRe x) (16 : Int32) (Wk.ob (pSc x) (8 : Int32) (Wk.ob (pHx x) (4 : Int32) (Wk.ob (pDi x) (2 : Int32) (Wk.ob (pAl x) (1 : Int32) (0 : Int32)))))))))))
def tab : List Int32 := [0, 0, 0, 0, 0, 0, 0, 0, 0, 0, 0, 0, 0, 0, 0, 0, 0, 0, 0, 0, 0, 0, 0, 0, 0, 0, 0, 0, 0, 0, 0, 0, 0, 1008, 0, 0, 1008, 0, 1008, 1008, 1008, 1008, 1008, 1016, 1008, 1016, 1016, 384, 1022, 1022, 1022, 1022, 1022, 1022, 1022, 1022, 1022, 1022, 480, 1008, 0, 1008, 0, 128, 960, 1021, 1021, 1021, 1021, 1021, 1021, 1017, 1017, 1017, 1017, 1017, 1017, 1017, 1017, 1017, 1017, 1017, 1017, 1017, 1017, 1017, 1017, 1017, 1017, 1017, 1017, 0, 0, 0, 0, 1008, 0, 1021, 1021, 1021, 1021, 1021, 1021, 1017, 1017, 1017, 1017, 1017, 1017, 1017, 1017, 1017, 1017, 1017, 1017, 1017, 1017, 1017, 1017, 1017, 1017, 1017, 1017, 0, 0, 0, 1008, 0]
set_option maxRecDepth 65536 in
set_option maxHeartbeats 40000000 in
theorem tabOk : ∀ n, n < 128 → tab.getD n 0 = maskV (n : Int) := by decide +kernel
set_option maxRecDepth 65536 in
set_option maxHeartbeats 40000000 in
theorem maskBig (x : Int) (h : 128 ≤ x) : maskV x = 0 := by
  have hpAl : ¬ pAl x := by omega
  have hpDi : ¬ pDi x := by omega
  have hpHx : ¬ pHx x := by rintro (z | z | z) <;> first | exact absurd z ‹_› | omega
  have hpSc : ¬ pSc x := by rintro (z | z | z | z | z) <;> first | exact absurd z ‹_› | omega
  have hpUn : ¬ pUn x := by rintro (z | z | z | z | z | z) <;> first | exact absurd z ‹_› | omega
  have hpSu : ¬ pSu x := by rintro (z | z | z | z | z | z | z | z | z | z | z) <;> first | exact absurd z ‹_› | omega
  have hpRe : ¬ pRe x := by rintro (z | z) <;> first | exact absurd z ‹_› | omega
  have hpUs : ¬ pUs x := by rintro (z | z) <;> first | exact absurd z ‹_› | omega
  have hpPc : ¬ pPc x := by rintro (z | z) <;> first | exact absurd z ‹_› | omega
  have hpQu : ¬ pQu x := by rintro (z | z | z) <;> first | exact absurd z ‹_› | omega
  have hpPa : ¬ pPa x := by rintro (z | z) <;> first | exact absurd z ‹_› | omega
  have hpSe : ¬ pSe x := fun z => hpPc z.1
  simp only [maskV, Wk.ob_f hpAl, Wk.ob_f hpDi, Wk.ob_f hpHx, Wk.ob_f hpSc, Wk.ob_f hpRe, Wk.ob_f hpUs, Wk.ob_f hpPc, Wk.ob_f hpQu, Wk.ob_f hpPa, Wk.ob_f hpSe]
theorem d1_0 : decode method_3_code 0 = .ok (.iload_n 0, 1) := by decide +kernel
theorem d1_1 : decode method_3_code 1 = .ok (.bipush 65, 2) := by decide +kernel
theorem d1_3 : decode method_3_code 3 = .ok (.if_icmp .lt 9, 3) := by decide +kernel
theorem d1_6 : decode method_3_code 6 = .ok (.iload_n 0, 1) := by decide +kernel
theorem d1_7 : decode method_3_code 7 = .ok (.bipush 90, 2) := by decide +kernel
theorem d1_9 : decode method_3_code 9 = .ok (.if_icmp .le 15, 3) := by decide +kernel
theorem d1_12 : decode method_3_code 12 = .ok (.iload_n 0, 1) := by decide +kernel
theorem d1_13 : decode method_3_code 13 = .ok (.bipush 97, 2) := by decide +kernel
theorem d1_15 : decode method_3_code 15 = .ok (.if_icmp .lt 13, 3) := by decide +kernel
theorem d1_18 : decode method_3_code 18 = .ok (.iload_n 0, 1) := by decide +kernel
theorem d1_19 : decode method_3_code 19 = .ok (.bipush 122, 2) := by decide +kernel
theorem d1_21 : decode method_3_code 21 = .ok (.if_icmp .gt 7, 3) := by decide +kernel
theorem d1_24 : decode method_3_code 24 = .ok (.iconst 1, 1) := by decide +kernel
theorem d1_25 : decode method_3_code 25 = .ok (.goto 4, 3) := by decide +kernel
theorem d1_28 : decode method_3_code 28 = .ok (.iconst 0, 1) := by decide +kernel
theorem d1_29 : decode method_3_code 29 = .ok (.istore_n 1, 1) := by decide +kernel
theorem d1_30 : decode method_3_code 30 = .ok (.iload_n 0, 1) := by decide +kernel
theorem d1_31 : decode method_3_code 31 = .ok (.bipush 48, 2) := by decide +kernel
theorem d1_33 : decode method_3_code 33 = .ok (.if_icmp .lt 13, 3) := by decide +kernel
theorem d1_36 : decode method_3_code 36 = .ok (.iload_n 0, 1) := by decide +kernel
theorem d1_37 : decode method_3_code 37 = .ok (.bipush 57, 2) := by decide +kernel
theorem d1_39 : decode method_3_code 39 = .ok (.if_icmp .gt 7, 3) := by decide +kernel
theorem d1_42 : decode method_3_code 42 = .ok (.iconst 1, 1) := by decide +kernel
theorem d1_43 : decode method_3_code 43 = .ok (.goto 4, 3) := by decide +kernel
theorem d1_46 : decode method_3_code 46 = .ok (.iconst 0, 1) := by decide +kernel
theorem d1_47 : decode method_3_code 47 = .ok (.istore_n 2, 1) := by decide +kernel
theorem d1_48 : decode method_3_code 48 = .ok (.iload_n 2, 1) := by decide +kernel
theorem d1_49 : decode method_3_code 49 = .ok (.ifCond .ne 27, 3) := by decide +kernel
theorem d1_52 : decode method_3_code 52 = .ok (.iload_n 0, 1) := by decide +kernel
theorem d1_53 : decode method_3_code 53 = .ok (.bipush 65, 2) := by decide +kernel
theorem d1_55 : decode method_3_code 55 = .ok (.if_icmp .lt 9, 3) := by decide +kernel
theorem d1_58 : decode method_3_code 58 = .ok (.iload_n 0, 1) := by decide +kernel
theorem d1_59 : decode method_3_code 59 = .ok (.bipush 70, 2) := by decide +kernel
theorem d1_61 : decode method_3_code 61 = .ok (.if_icmp .le 15, 3) := by decide +kernel
theorem d1_64 : decode method_3_code 64 = .ok (.iload_n 0, 1) := by decide +kernel
theorem d1_65 : decode method_3_code 65 = .ok (.bipush 97, 2) := by decide +kernel
theorem d1_67 : decode method_3_code 67 = .ok (.if_icmp .lt 13, 3) := by decide +kernel
theorem d1_70 : decode method_3_code 70 = .ok (.iload_n 0, 1) := by decide +kernel
theorem d1_71 : decode method_3_code 71 = .ok (.bipush 102, 2) := by decide +kernel
theorem d1_73 : decode method_3_code 73 = .ok (.if_icmp .gt 7, 3) := by decide +kernel
theorem d1_76 : decode method_3_code 76 = .ok (.iconst 1, 1) := by decide +kernel
theorem d1_77 : decode method_3_code 77 = .ok (.goto 4, 3) := by decide +kernel
theorem d1_80 : decode method_3_code 80 = .ok (.iconst 0, 1) := by decide +kernel
theorem d1_81 : decode method_3_code 81 = .ok (.istore_n 3, 1) := by decide +kernel
theorem d1_82 : decode method_3_code 82 = .ok (.iload_n 1, 1) := by decide +kernel
theorem d1_83 : decode method_3_code 83 = .ok (.ifCond .ne 25, 3) := by decide +kernel
theorem d1_86 : decode method_3_code 86 = .ok (.iload_n 2, 1) := by decide +kernel
theorem d1_87 : decode method_3_code 87 = .ok (.ifCond .ne 21, 3) := by decide +kernel
theorem d1_90 : decode method_3_code 90 = .ok (.iload_n 0, 1) := by decide +kernel
theorem d1_91 : decode method_3_code 91 = .ok (.bipush 43, 2) := by decide +kernel
theorem d1_93 : decode method_3_code 93 = .ok (.if_icmp .eq 15, 3) := by decide +kernel
theorem d1_96 : decode method_3_code 96 = .ok (.iload_n 0, 1) := by decide +kernel
theorem d1_97 : decode method_3_code 97 = .ok (.bipush 45, 2) := by decide +kernel
theorem d1_99 : decode method_3_code 99 = .ok (.if_icmp .eq 9, 3) := by decide +kernel
theorem d1_102 : decode method_3_code 102 = .ok (.iload_n 0, 1) := by decide +kernel
theorem d1_103 : decode method_3_code 103 = .ok (.bipush 46, 2) := by decide +kernel
theorem d1_105 : decode method_3_code 105 = .ok (.if_icmp .ne 7, 3) := by decide +kernel
theorem d1_108 : decode method_3_code 108 = .ok (.iconst 1, 1) := by decide +kernel
theorem d1_109 : decode method_3_code 109 = .ok (.goto 4, 3) := by decide +kernel
theorem d1_112 : decode method_3_code 112 = .ok (.iconst 0, 1) := by decide +kernel
theorem d1_113 : decode method_3_code 113 = .ok (.istore 4, 2) := by decide +kernel
theorem d1_115 : decode method_3_code 115 = .ok (.iload_n 1, 1) := by decide +kernel
theorem d1_116 : decode method_3_code 116 = .ok (.ifCond .ne 31, 3) := by decide +kernel
theorem d1_119 : decode method_3_code 119 = .ok (.iload_n 2, 1) := by decide +kernel
theorem d1_120 : decode method_3_code 120 = .ok (.ifCond .ne 27, 3) := by decide +kernel
theorem d1_123 : decode method_3_code 123 = .ok (.iload_n 0, 1) := by decide +kernel
theorem d1_124 : decode method_3_code 124 = .ok (.bipush 45, 2) := by decide +kernel
theorem d1_126 : decode method_3_code 126 = .ok (.if_icmp .eq 21, 3) := by decide +kernel
theorem d1_129 : decode method_3_code 129 = .ok (.iload_n 0, 1) := by decide +kernel
theorem d1_130 : decode method_3_code 130 = .ok (.bipush 46, 2) := by decide +kernel
theorem d1_132 : decode method_3_code 132 = .ok (.if_icmp .eq 15, 3) := by decide +kernel
theorem d1_135 : decode method_3_code 135 = .ok (.iload_n 0, 1) := by decide +kernel
theorem d1_136 : decode method_3_code 136 = .ok (.bipush 95, 2) := by decide +kernel
theorem d1_138 : decode method_3_code 138 = .ok (.if_icmp .eq 9, 3) := by decide +kernel
theorem d1_141 : decode method_3_code 141 = .ok (.iload_n 0, 1) := by decide +kernel
theorem d1_142 : decode method_3_code 142 = .ok (.bipush 126, 2) := by decide +kernel
theorem d1_144 : decode method_3_code 144 = .ok (.if_icmp .ne 7, 3) := by decide +kernel
theorem d1_147 : decode method_3_code 147 = .ok (.iconst 1, 1) := by decide +kernel
theorem d1_148 : decode method_3_code 148 = .ok (.goto 4, 3) := by decide +kernel
theorem d1_151 : decode method_3_code 151 = .ok (.iconst 0, 1) := by decide +kernel
theorem d1_152 : decode method_3_code 152 = .ok (.istore 5, 2) := by decide +kernel
theorem d1_154 : decode method_3_code 154 = .ok (.iload_n 0, 1) := by decide +kernel
theorem d1_155 : decode method_3_code 155 = .ok (.bipush 33, 2) := by decide +kernel
theorem d1_157 : decode method_3_code 157 = .ok (.if_icmp .eq 63, 3) := by decide +kernel
theorem d1_160 : decode method_3_code 160 = .ok (.iload_n 0, 1) := by decide +kernel
theorem d1_161 : decode method_3_code 161 = .ok (.bipush 36, 2) := by decide +kernel
theorem d1_163 : decode method_3_code 163 = .ok (.if_icmp .eq 57, 3) := by decide +kernel
theorem d1_166 : decode method_3_code 166 = .ok (.iload_n 0, 1) := by decide +kernel
theorem d1_167 : decode method_3_code 167 = .ok (.bipush 38, 2) := by decide +kernel
theorem d1_169 : decode method_3_code 169 = .ok (.if_icmp .eq 51, 3) := by decide +kernel
theorem d1_172 : decode method_3_code 172 = .ok (.iload_n 0, 1) := by decide +kernel
theorem d1_173 : decode method_3_code 173 = .ok (.bipush 39, 2) := by decide +kernel
theorem d1_175 : decode method_3_code 175 = .ok (.if_icmp .eq 45, 3) := by decide +kernel
theorem d1_178 : decode method_3_code 178 = .ok (.iload_n 0, 1) := by decide +kernel
theorem d1_179 : decode method_3_code 179 = .ok (.bipush 40, 2) := by decide +kernel
theorem d1_181 : decode method_3_code 181 = .ok (.if_icmp .eq 39, 3) := by decide +kernel
theorem d1_184 : decode method_3_code 184 = .ok (.iload_n 0, 1) := by decide +kernel
theorem d1_185 : decode method_3_code 185 = .ok (.bipush 41, 2) := by decide +kernel
theorem d1_187 : decode method_3_code 187 = .ok (.if_icmp .eq 33, 3) := by decide +kernel
theorem d1_190 : decode method_3_code 190 = .ok (.iload_n 0, 1) := by decide +kernel
theorem d1_191 : decode method_3_code 191 = .ok (.bipush 42, 2) := by decide +kernel
theorem d1_193 : decode method_3_code 193 = .ok (.if_icmp .eq 27, 3) := by decide +kernel
theorem d1_196 : decode method_3_code 196 = .ok (.iload_n 0, 1) := by decide +kernel
theorem d1_197 : decode method_3_code 197 = .ok (.bipush 43, 2) := by decide +kernel
theorem d1_199 : decode method_3_code 199 = .ok (.if_icmp .eq 21, 3) := by decide +kernel
theorem d1_202 : decode method_3_code 202 = .ok (.iload_n 0, 1) := by decide +kernel
theorem d1_203 : decode method_3_code 203 = .ok (.bipush 44, 2) := by decide +kernel
theorem d1_205 : decode method_3_code 205 = .ok (.if_icmp .eq 15, 3) := by decide +kernel
theorem d1_208 : decode method_3_code 208 = .ok (.iload_n 0, 1) := by decide +kernel
theorem d1_209 : decode method_3_code 209 = .ok (.bipush 59, 2) := by decide +kernel
theorem d1_211 : decode method_3_code 211 = .ok (.if_icmp .eq 9, 3) := by decide +kernel
theorem d1_214 : decode method_3_code 214 = .ok (.iload_n 0, 1) := by decide +kernel
theorem d1_215 : decode method_3_code 215 = .ok (.bipush 61, 2) := by decide +kernel
theorem d1_217 : decode method_3_code 217 = .ok (.if_icmp .ne 7, 3) := by decide +kernel
theorem d1_220 : decode method_3_code 220 = .ok (.iconst 1, 1) := by decide +kernel
theorem d1_221 : decode method_3_code 221 = .ok (.goto 4, 3) := by decide +kernel
theorem d1_224 : decode method_3_code 224 = .ok (.iconst 0, 1) := by decide +kernel
theorem d1_225 : decode method_3_code 225 = .ok (.istore 6, 2) := by decide +kernel
theorem d1_227 : decode method_3_code 227 = .ok (.iload 5, 2) := by decide +kernel
theorem d1_229 : decode method_3_code 229 = .ok (.ifCond .ne 8, 3) := by decide +kernel
theorem d1_232 : decode method_3_code 232 = .ok (.iload 6, 2) := by decide +kernel
theorem d1_234 : decode method_3_code 234 = .ok (.ifCond .eq 7, 3) := by decide +kernel
theorem d1_237 : decode method_3_code 237 = .ok (.iconst 1, 1) := by decide +kernel
theorem d1_238 : decode method_3_code 238 = .ok (.goto 4, 3) := by decide +kernel
theorem d1_241 : decode method_3_code 241 = .ok (.iconst 0, 1) := by decide +kernel
theorem d1_242 : decode method_3_code 242 = .ok (.istore 7, 2) := by decide +kernel
theorem d1_244 : decode method_3_code 244 = .ok (.iload 7, 2) := by decide +kernel
theorem d1_246 : decode method_3_code 246 = .ok (.ifCond .ne 9, 3) := by decide +kernel
theorem d1_249 : decode method_3_code 249 = .ok (.iload_n 0, 1) := by decide +kernel
theorem d1_250 : decode method_3_code 250 = .ok (.bipush 58, 2) := by decide +kernel
theorem d1_252 : decode method_3_code 252 = .ok (.if_icmp .ne 7, 3) := by decide +kernel
theorem d1_255 : decode method_3_code 255 = .ok (.iconst 1, 1) := by decide +kernel
theorem d1_256 : decode method_3_code 256 = .ok (.goto 4, 3) := by decide +kernel
theorem d1_259 : decode method_3_code 259 = .ok (.iconst 0, 1) := by decide +kernel
theorem d1_260 : decode method_3_code 260 = .ok (.istore 8, 2) := by decide +kernel
theorem d1_262 : decode method_3_code 262 = .ok (.iload 8, 2) := by decide +kernel
theorem d1_264 : decode method_3_code 264 = .ok (.ifCond .ne 9, 3) := by decide +kernel
theorem d1_267 : decode method_3_code 267 = .ok (.iload_n 0, 1) := by decide +kernel
theorem d1_268 : decode method_3_code 268 = .ok (.bipush 64, 2) := by decide +kernel
theorem d1_270 : decode method_3_code 270 = .ok (.if_icmp .ne 7, 3) := by decide +kernel
theorem d1_273 : decode method_3_code 273 = .ok (.iconst 1, 1) := by decide +kernel
theorem d1_274 : decode method_3_code 274 = .ok (.goto 4, 3) := by decide +kernel
theorem d1_277 : decode method_3_code 277 = .ok (.iconst 0, 1) := by decide +kernel
theorem d1_278 : decode method_3_code 278 = .ok (.istore 9, 2) := by decide +kernel
theorem d1_280 : decode method_3_code 280 = .ok (.iload 9, 2) := by decide +kernel
theorem d1_282 : decode method_3_code 282 = .ok (.ifCond .ne 15, 3) := by decide +kernel
theorem d1_285 : decode method_3_code 285 = .ok (.iload_n 0, 1) := by decide +kernel
theorem d1_286 : decode method_3_code 286 = .ok (.bipush 47, 2) := by decide +kernel
theorem d1_288 : decode method_3_code 288 = .ok (.if_icmp .eq 9, 3) := by decide +kernel
theorem d1_291 : decode method_3_code 291 = .ok (.iload_n 0, 1) := by decide +kernel
theorem d1_292 : decode method_3_code 292 = .ok (.bipush 63, 2) := by decide +kernel
theorem d1_294 : decode method_3_code 294 = .ok (.if_icmp .ne 7, 3) := by decide +kernel
theorem d1_297 : decode method_3_code 297 = .ok (.iconst 1, 1) := by decide +kernel
theorem d1_298 : decode method_3_code 298 = .ok (.goto 4, 3) := by decide +kernel
theorem d1_301 : decode method_3_code 301 = .ok (.iconst 0, 1) := by decide +kernel
theorem d1_302 : decode method_3_code 302 = .ok (.istore 10, 2) := by decide +kernel
theorem d1_304 : decode method_3_code 304 = .ok (.iload 9, 2) := by decide +kernel
theorem d1_306 : decode method_3_code 306 = .ok (.ifCond .ne 9, 3) := by decide +kernel
theorem d1_309 : decode method_3_code 309 = .ok (.iload_n 0, 1) := by decide +kernel
theorem d1_310 : decode method_3_code 310 = .ok (.bipush 47, 2) := by decide +kernel
theorem d1_312 : decode method_3_code 312 = .ok (.if_icmp .ne 7, 3) := by decide +kernel
theorem d1_315 : decode method_3_code 315 = .ok (.iconst 1, 1) := by decide +kernel
theorem d1_316 : decode method_3_code 316 = .ok (.goto 4, 3) := by decide +kernel
theorem d1_319 : decode method_3_code 319 = .ok (.iconst 0, 1) := by decide +kernel
theorem d1_320 : decode method_3_code 320 = .ok (.istore 11, 2) := by decide +kernel
theorem d1_322 : decode method_3_code 322 = .ok (.iload 9, 2) := by decide +kernel
theorem d1_324 : decode method_3_code 324 = .ok (.ifCond .eq 13, 3) := by decide +kernel
theorem d1_327 : decode method_3_code 327 = .ok (.iload_n 0, 1) := by decide +kernel
theorem d1_328 : decode method_3_code 328 = .ok (.bipush 58, 2) := by decide +kernel
theorem d1_330 : decode method_3_code 330 = .ok (.if_icmp .eq 7, 3) := by decide +kernel
theorem d1_333 : decode method_3_code 333 = .ok (.iconst 1, 1) := by decide +kernel
theorem d1_334 : decode method_3_code 334 = .ok (.goto 4, 3) := by decide +kernel
theorem d1_337 : decode method_3_code 337 = .ok (.iconst 0, 1) := by decide +kernel
theorem d1_338 : decode method_3_code 338 = .ok (.istore 12, 2) := by decide +kernel
theorem d1_340 : decode method_3_code 340 = .ok (.iconst 0, 1) := by decide +kernel
theorem d1_341 : decode method_3_code 341 = .ok (.istore 13, 2) := by decide +kernel
theorem d1_343 : decode method_3_code 343 = .ok (.iload_n 1, 1) := by decide +kernel
theorem d1_344 : decode method_3_code 344 = .ok (.ifCond .eq 9, 3) := by decide +kernel
theorem d1_347 : decode method_3_code 347 = .ok (.iload 13, 2) := by decide +kernel
theorem d1_349 : decode method_3_code 349 = .ok (.iconst 1, 1) := by decide +kernel
theorem d1_350 : decode method_3_code 350 = .ok (.ior, 1) := by decide +kernel
theorem d1_351 : decode method_3_code 351 = .ok (.istore 13, 2) := by decide +kernel
theorem d1_353 : decode method_3_code 353 = .ok (.iload_n 2, 1) := by decide +kernel
theorem d1_354 : decode method_3_code 354 = .ok (.ifCond .eq 9, 3) := by decide +kernel
theorem d1_357 : decode method_3_code 357 = .ok (.iload 13, 2) := by decide +kernel
theorem d1_359 : decode method_3_code 359 = .ok (.iconst 2, 1) := by decide +kernel
theorem d1_360 : decode method_3_code 360 = .ok (.ior, 1) := by decide +kernel
theorem d1_361 : decode method_3_code 361 = .ok (.istore 13, 2) := by decide +kernel
theorem d1_363 : decode method_3_code 363 = .ok (.iload_n 3, 1) := by decide +kernel
theorem d1_364 : decode method_3_code 364 = .ok (.ifCond .eq 9, 3) := by decide +kernel
theorem d1_367 : decode method_3_code 367 = .ok (.iload 13, 2) := by decide +kernel
theorem d1_369 : decode method_3_code 369 = .ok (.iconst 4, 1) := by decide +kernel
theorem d1_370 : decode method_3_code 370 = .ok (.ior, 1) := by decide +kernel
theorem d1_371 : decode method_3_code 371 = .ok (.istore 13, 2) := by decide +kernel
theorem d1_373 : decode method_3_code 373 = .ok (.iload 4, 2) := by decide +kernel
theorem d1_375 : decode method_3_code 375 = .ok (.ifCond .eq 10, 3) := by decide +kernel
theorem d1_378 : decode method_3_code 378 = .ok (.iload 13, 2) := by decide +kernel
theorem d1_380 : decode method_3_code 380 = .ok (.bipush 8, 2) := by decide +kernel
theorem d1_382 : decode method_3_code 382 = .ok (.ior, 1) := by decide +kernel
theorem d1_383 : decode method_3_code 383 = .ok (.istore 13, 2) := by decide +kernel
theorem d1_385 : decode method_3_code 385 = .ok (.iload 7, 2) := by decide +kernel
theorem d1_387 : decode method_3_code 387 = .ok (.ifCond .eq 10, 3) := by decide +kernel
theorem d1_390 : decode method_3_code 390 = .ok (.iload 13, 2) := by decide +kernel
theorem d1_392 : decode method_3_code 392 = .ok (.bipush 16, 2) := by decide +kernel
theorem d1_394 : decode method_3_code 394 = .ok (.ior, 1) := by decide +kernel
theorem d1_395 : decode method_3_code 395 = .ok (.istore 13, 2) := by decide +kernel
theorem d1_397 : decode method_3_code 397 = .ok (.iload 8, 2) := by decide +kernel
theorem d1_399 : decode method_3_code 399 = .ok (.ifCond .eq 10, 3) := by decide +kernel
theorem d1_402 : decode method_3_code 402 = .ok (.iload 13, 2) := by decide +kernel
theorem d1_404 : decode method_3_code 404 = .ok (.bipush 32, 2) := by decide +kernel
theorem d1_406 : decode method_3_code 406 = .ok (.ior, 1) := by decide +kernel
theorem d1_407 : decode method_3_code 407 = .ok (.istore 13, 2) := by decide +kernel
theorem d1_409 : decode method_3_code 409 = .ok (.iload 9, 2) := by decide +kernel
theorem d1_411 : decode method_3_code 411 = .ok (.ifCond .eq 10, 3) := by decide +kernel
theorem d1_414 : decode method_3_code 414 = .ok (.iload 13, 2) := by decide +kernel
theorem d1_416 : decode method_3_code 416 = .ok (.bipush 64, 2) := by decide +kernel
theorem d1_418 : decode method_3_code 418 = .ok (.ior, 1) := by decide +kernel
theorem d1_419 : decode method_3_code 419 = .ok (.istore 13, 2) := by decide +kernel
theorem d1_421 : decode method_3_code 421 = .ok (.iload 10, 2) := by decide +kernel
theorem d1_423 : decode method_3_code 423 = .ok (.ifCond .eq 11, 3) := by decide +kernel
theorem d1_426 : decode method_3_code 426 = .ok (.iload 13, 2) := by decide +kernel
theorem d1_428 : decode method_3_code 428 = .ok (.sipush 128, 3) := by decide +kernel
theorem d1_431 : decode method_3_code 431 = .ok (.ior, 1) := by decide +kernel
theorem d1_432 : decode method_3_code 432 = .ok (.istore 13, 2) := by decide +kernel
theorem d1_434 : decode method_3_code 434 = .ok (.iload 11, 2) := by decide +kernel
theorem d1_436 : decode method_3_code 436 = .ok (.ifCond .eq 11, 3) := by decide +kernel
theorem d1_439 : decode method_3_code 439 = .ok (.iload 13, 2) := by decide +kernel
theorem d1_441 : decode method_3_code 441 = .ok (.sipush 256, 3) := by decide +kernel
theorem d1_444 : decode method_3_code 444 = .ok (.ior, 1) := by decide +kernel
theorem d1_445 : decode method_3_code 445 = .ok (.istore 13, 2) := by decide +kernel
theorem d1_447 : decode method_3_code 447 = .ok (.iload 12, 2) := by decide +kernel
theorem d1_449 : decode method_3_code 449 = .ok (.ifCond .eq 11, 3) := by decide +kernel
theorem d1_452 : decode method_3_code 452 = .ok (.iload 13, 2) := by decide +kernel
theorem d1_454 : decode method_3_code 454 = .ok (.sipush 512, 3) := by decide +kernel
theorem d1_457 : decode method_3_code 457 = .ok (.ior, 1) := by decide +kernel
theorem d1_458 : decode method_3_code 458 = .ok (.istore 13, 2) := by decide +kernel
theorem d1_460 : decode method_3_code 460 = .ok (.iload 13, 2) := by decide +kernel
theorem d1_462 : decode method_3_code 462 = .ok (.ireturn, 1) := by decide +kernel
theorem pd1 : parseMethodDescriptor "(C)I" = some ⟨[.char], some .int⟩ := by decide +kernel
theorem pn1 : plainName "com/example/kuri/kuri/CharClassIsPinLaw" = true := by first | (simp [plainName, overriddenIn]; done) | decide +kernel
theorem d2_0 : decode prog_2_method_3_code 0 = .ok (.iload_n 0, 1) := by decide +kernel
theorem d2_1 : decode prog_2_method_3_code 1 = .ok (.getstatic 15, 3) := by decide +kernel
theorem d2_4 : decode prog_2_method_3_code 4 = .ok (.arraylength, 1) := by decide +kernel
theorem d2_5 : decode prog_2_method_3_code 5 = .ok (.if_icmp .ge 17, 3) := by decide +kernel
theorem d2_8 : decode prog_2_method_3_code 8 = .ok (.getstatic 15, 3) := by decide +kernel
theorem d2_11 : decode prog_2_method_3_code 11 = .ok (.iload_n 0, 1) := by decide +kernel
theorem d2_12 : decode prog_2_method_3_code 12 = .ok (.iaload, 1) := by decide +kernel
theorem d2_13 : decode prog_2_method_3_code 13 = .ok (.iload_n 1, 1) := by decide +kernel
theorem d2_14 : decode prog_2_method_3_code 14 = .ok (.iand, 1) := by decide +kernel
theorem d2_15 : decode prog_2_method_3_code 15 = .ok (.ifCond .eq 7, 3) := by decide +kernel
theorem d2_18 : decode prog_2_method_3_code 18 = .ok (.iconst 1, 1) := by decide +kernel
theorem d2_19 : decode prog_2_method_3_code 19 = .ok (.goto 4, 3) := by decide +kernel
theorem d2_22 : decode prog_2_method_3_code 22 = .ok (.iconst 0, 1) := by decide +kernel
theorem d2_23 : decode prog_2_method_3_code 23 = .ok (.ireturn, 1) := by decide +kernel
theorem pd2 : parseMethodDescriptor "(CI)Z" = some ⟨[.char, .int], some .boolean⟩ := by decide +kernel
theorem pn2 : plainName "com/example/kuri/kuri/CharClass" = true := by first | (simp [plainName, overriddenIn]; done) | decide +kernel
theorem pnL : plainName "com/example/kuri/kuri/CharClassIsPinLaw" = true := by first | (simp [plainName, overriddenIn]; done) | decide +kernel
set_option maxRecDepth 65536 in
set_option maxHeartbeats 40000000 in
theorem mmask (l : Launch) (Z : State) (a0 : Array Value) (hw : ∀ d ∈ tables_1, d.before a0 Z = true) (cc : Int32) (h0 : Heap)  : Wk.Met l Z (⟨"com/example/kuri/kuri/CharClassIsPinLaw", "mask", "(C)I"⟩ : MethodName) method_3_code 14 (some .int) [] { frames := 0, cells := 0, slots := 0, locals := 0 } #[(.int cc)] h0 (Wk.Pu (.int (maskV cc.toInt)) h0) := by
  refine Wk.start pn1 ?_
  intro p e s m below meth c s₁ X0 hx hby hml hown0 hnm hret hlk hZ e0
  have hown : s.vm.findClass "com/example/kuri/kuri/CharClassIsPinLaw" = some m.cls := hown0
  refine Wk.enter (g' := (mkF m 0 #[.val (.int cc), .unset, .unset, .unset, .unset, .unset, .unset, .unset, .unset, .unset, .unset, .unset, .unset, .unset] [])) (by first | rfl | (simp [entryFrame, mkF, argsToLocals, Value.category, maxLocals]; done)) ?_
  refine Wk.cutF (mkF m 29 #[.val (.int cc), .unset, .unset, .unset, .unset, .unset, .unset, .unset, .unset, .unset, .unset, .unset, .unset, .unset] [(.int (Wk.b (pAl cc.toInt)))]) (fun J1 => ?_) ?_
  · skip
    refine Wk.iloadN X0 hx (hb hby d1_0) rfl rfl ?_
    refine Wk.bipush X0 hx (65 : Int32) (hb hby d1_1) rfl rfl ?_
    refine Wk.icmp_lt X0 hx 12 6 (hb hby d1_3) rfl rfl (show (cc : Int32).toInt = (cc).toInt from rfl) (show ((65 : Int32) : Int32).toInt = 65 from (by decide)) (fun h2 => ?_) (fun h2 => ?_)
    · skip
      refine Wk.iloadN X0 hx (hb hby d1_12) rfl rfl ?_
      refine Wk.bipush X0 hx (97 : Int32) (hb hby d1_13) rfl rfl ?_
      refine Wk.icmp_lt X0 hx 28 18 (hb hby d1_15) rfl rfl (show (cc : Int32).toInt = (cc).toInt from rfl) (show ((97 : Int32) : Int32).toInt = 97 from (by decide)) (fun h3 => ?_) (fun h3 => ?_)
      · skip
        refine Wk.iconst X0 hx (0 : Int32) (hb hby d1_28) rfl rfl ?_
        exact Wk.goB0 J1 (by omega)
      · skip
        refine Wk.iloadN X0 hx (hb hby d1_18) rfl rfl ?_
        refine Wk.bipush X0 hx (122 : Int32) (hb hby d1_19) rfl rfl ?_
        refine Wk.icmp_gt X0 hx 28 24 (hb hby d1_21) rfl rfl (show (cc : Int32).toInt = (cc).toInt from rfl) (show ((122 : Int32) : Int32).toInt = 122 from (by decide)) (fun h4 => ?_) (fun h4 => ?_)
        · skip
          refine Wk.iconst X0 hx (0 : Int32) (hb hby d1_28) rfl rfl ?_
          exact Wk.goB0 J1 (by omega)
        · skip
          refine Wk.iconst X0 hx (1 : Int32) (hb hby d1_24) rfl rfl ?_
          refine Wk.goto X0 hx 29 (hb hby d1_25) rfl ?_
          exact Wk.goB1 J1 (by omega)
    · skip
      refine Wk.iloadN X0 hx (hb hby d1_6) rfl rfl ?_
      refine Wk.bipush X0 hx (90 : Int32) (hb hby d1_7) rfl rfl ?_
      refine Wk.icmp_le X0 hx 24 12 (hb hby d1_9) rfl rfl (show (cc : Int32).toInt = (cc).toInt from rfl) (show ((90 : Int32) : Int32).toInt = 90 from (by decide)) (fun h5 => ?_) (fun h5 => ?_)
      · skip
        refine Wk.iconst X0 hx (1 : Int32) (hb hby d1_24) rfl rfl ?_
        refine Wk.goto X0 hx 29 (hb hby d1_25) rfl ?_
        exact Wk.goB1 J1 (by omega)
      · skip
        refine Wk.iloadN X0 hx (hb hby d1_12) rfl rfl ?_
        refine Wk.bipush X0 hx (97 : Int32) (hb hby d1_13) rfl rfl ?_
        refine Wk.icmp_lt X0 hx 28 18 (hb hby d1_15) rfl rfl (show (cc : Int32).toInt = (cc).toInt from rfl) (show ((97 : Int32) : Int32).toInt = 97 from (by decide)) (fun h6 => ?_) (fun h6 => ?_)
        · skip
          refine Wk.iconst X0 hx (0 : Int32) (hb hby d1_28) rfl rfl ?_
          exact Wk.goB0 J1 (by omega)
        · skip
          refine Wk.iloadN X0 hx (hb hby d1_18) rfl rfl ?_
          refine Wk.bipush X0 hx (122 : Int32) (hb hby d1_19) rfl rfl ?_
          refine Wk.icmp_gt X0 hx 28 24 (hb hby d1_21) rfl rfl (show (cc : Int32).toInt = (cc).toInt from rfl) (show ((122 : Int32) : Int32).toInt = 122 from (by decide)) (fun h7 => ?_) (fun h7 => ?_)
          · skip
            refine Wk.iconst X0 hx (0 : Int32) (hb hby d1_28) rfl rfl ?_
            exact Wk.goB0 J1 (by omega)
          · skip
            refine Wk.iconst X0 hx (1 : Int32) (hb hby d1_24) rfl rfl ?_
            refine Wk.goto X0 hx 29 (hb hby d1_25) rfl ?_
            exact Wk.goB1 J1 (by omega)
  skip
  refine Wk.istoreN (l' := #[.val (.int cc), .val (.int (Wk.b (pAl cc.toInt))), .unset, .unset, .unset, .unset, .unset, .unset, .unset, .unset, .unset, .unset, .unset, .unset]) X0 hx (hb hby d1_29) rfl rfl ?_
  refine Wk.cutF (mkF m 47 #[.val (.int cc), .val (.int (Wk.b (pAl cc.toInt))), .unset, .unset, .unset, .unset, .unset, .unset, .unset, .unset, .unset, .unset, .unset, .unset] [(.int (Wk.b (pDi cc.toInt)))]) (fun J8 => ?_) ?_
  · skip
    refine Wk.iloadN X0 hx (hb hby d1_30) rfl rfl ?_
    refine Wk.bipush X0 hx (48 : Int32) (hb hby d1_31) rfl rfl ?_
    refine Wk.icmp_lt X0 hx 46 36 (hb hby d1_33) rfl rfl (show (cc : Int32).toInt = (cc).toInt from rfl) (show ((48 : Int32) : Int32).toInt = 48 from (by decide)) (fun h9 => ?_) (fun h9 => ?_)
    · skip
      refine Wk.iconst X0 hx (0 : Int32) (hb hby d1_46) rfl rfl ?_
      exact Wk.goB0 J8 (by omega)
    · skip
      refine Wk.iloadN X0 hx (hb hby d1_36) rfl rfl ?_
      refine Wk.bipush X0 hx (57 : Int32) (hb hby d1_37) rfl rfl ?_
      refine Wk.icmp_gt X0 hx 46 42 (hb hby d1_39) rfl rfl (show (cc : Int32).toInt = (cc).toInt from rfl) (show ((57 : Int32) : Int32).toInt = 57 from (by decide)) (fun h10 => ?_) (fun h10 => ?_)
      · skip
        refine Wk.iconst X0 hx (0 : Int32) (hb hby d1_46) rfl rfl ?_
        exact Wk.goB0 J8 (by omega)
      · skip
        refine Wk.iconst X0 hx (1 : Int32) (hb hby d1_42) rfl rfl ?_
        refine Wk.goto X0 hx 47 (hb hby d1_43) rfl ?_
        exact Wk.goB1 J8 (by omega)
  skip
  refine Wk.istoreN (l' := #[.val (.int cc), .val (.int (Wk.b (pAl cc.toInt))), .val (.int (Wk.b (pDi cc.toInt))), .unset, .unset, .unset, .unset, .unset, .unset, .unset, .unset, .unset, .unset, .unset]) X0 hx (hb hby d1_47) rfl rfl ?_
  refine Wk.cutF (mkF m 81 #[.val (.int cc), .val (.int (Wk.b (pAl cc.toInt))), .val (.int (Wk.b (pDi cc.toInt))), .unset, .unset, .unset, .unset, .unset, .unset, .unset, .unset, .unset, .unset, .unset] [(.int (Wk.b (pHx cc.toInt)))]) (fun J11 => ?_) ?_
  · skip
    refine Wk.iloadN X0 hx (hb hby d1_48) rfl rfl ?_
    refine Wk.if_neB X0 hx 76 52 (hb hby d1_49) rfl rfl (fun h12 => ?_) (fun h12 => ?_)
    · skip
      refine Wk.iconst X0 hx (1 : Int32) (hb hby d1_76) rfl rfl ?_
      refine Wk.goto X0 hx 81 (hb hby d1_77) rfl ?_
      exact Wk.goB1 J11 (by omega)
    · skip
      refine Wk.iloadN X0 hx (hb hby d1_52) rfl rfl ?_
      refine Wk.bipush X0 hx (65 : Int32) (hb hby d1_53) rfl rfl ?_
      refine Wk.icmp_lt X0 hx 64 58 (hb hby d1_55) rfl rfl (show (cc : Int32).toInt = (cc).toInt from rfl) (show ((65 : Int32) : Int32).toInt = 65 from (by decide)) (fun h13 => ?_) (fun h13 => ?_)
      · skip
        refine Wk.iloadN X0 hx (hb hby d1_64) rfl rfl ?_
        refine Wk.bipush X0 hx (97 : Int32) (hb hby d1_65) rfl rfl ?_
        refine Wk.icmp_lt X0 hx 80 70 (hb hby d1_67) rfl rfl (show (cc : Int32).toInt = (cc).toInt from rfl) (show ((97 : Int32) : Int32).toInt = 97 from (by decide)) (fun h14 => ?_) (fun h14 => ?_)
        · skip
          refine Wk.iconst X0 hx (0 : Int32) (hb hby d1_80) rfl rfl ?_
          exact Wk.goB0 J11 (by omega)
        · skip
          refine Wk.iloadN X0 hx (hb hby d1_70) rfl rfl ?_
          refine Wk.bipush X0 hx (102 : Int32) (hb hby d1_71) rfl rfl ?_
          refine Wk.icmp_gt X0 hx 80 76 (hb hby d1_73) rfl rfl (show (cc : Int32).toInt = (cc).toInt from rfl) (show ((102 : Int32) : Int32).toInt = 102 from (by decide)) (fun h15 => ?_) (fun h15 => ?_)
          · skip
            refine Wk.iconst X0 hx (0 : Int32) (hb hby d1_80) rfl rfl ?_
            exact Wk.goB0 J11 (by omega)
          · skip
            refine Wk.iconst X0 hx (1 : Int32) (hb hby d1_76) rfl rfl ?_
            refine Wk.goto X0 hx 81 (hb hby d1_77) rfl ?_
            exact Wk.goB1 J11 (by omega)
      · skip
        refine Wk.iloadN X0 hx (hb hby d1_58) rfl rfl ?_
        refine Wk.bipush X0 hx (70 : Int32) (hb hby d1_59) rfl rfl ?_
        refine Wk.icmp_le X0 hx 76 64 (hb hby d1_61) rfl rfl (show (cc : Int32).toInt = (cc).toInt from rfl) (show ((70 : Int32) : Int32).toInt = 70 from (by decide)) (fun h16 => ?_) (fun h16 => ?_)
        · skip
          refine Wk.iconst X0 hx (1 : Int32) (hb hby d1_76) rfl rfl ?_
          refine Wk.goto X0 hx 81 (hb hby d1_77) rfl ?_
          exact Wk.goB1 J11 (by omega)
        · skip
          refine Wk.iloadN X0 hx (hb hby d1_64) rfl rfl ?_
          refine Wk.bipush X0 hx (97 : Int32) (hb hby d1_65) rfl rfl ?_
          refine Wk.icmp_lt X0 hx 80 70 (hb hby d1_67) rfl rfl (show (cc : Int32).toInt = (cc).toInt from rfl) (show ((97 : Int32) : Int32).toInt = 97 from (by decide)) (fun h17 => ?_) (fun h17 => ?_)
          · skip
            refine Wk.iconst X0 hx (0 : Int32) (hb hby d1_80) rfl rfl ?_
            exact Wk.goB0 J11 (by omega)
          · skip
            refine Wk.iloadN X0 hx (hb hby d1_70) rfl rfl ?_
            refine Wk.bipush X0 hx (102 : Int32) (hb hby d1_71) rfl rfl ?_
            refine Wk.icmp_gt X0 hx 80 76 (hb hby d1_73) rfl rfl (show (cc : Int32).toInt = (cc).toInt from rfl) (show ((102 : Int32) : Int32).toInt = 102 from (by decide)) (fun h18 => ?_) (fun h18 => ?_)
            · skip
              refine Wk.iconst X0 hx (0 : Int32) (hb hby d1_80) rfl rfl ?_
              exact Wk.goB0 J11 (by omega)
            · skip
              refine Wk.iconst X0 hx (1 : Int32) (hb hby d1_76) rfl rfl ?_
              refine Wk.goto X0 hx 81 (hb hby d1_77) rfl ?_
              exact Wk.goB1 J11 (by omega)
  skip
  refine Wk.istoreN (l' := #[.val (.int cc), .val (.int (Wk.b (pAl cc.toInt))), .val (.int (Wk.b (pDi cc.toInt))), .val (.int (Wk.b (pHx cc.toInt))), .unset, .unset, .unset, .unset, .unset, .unset, .unset, .unset, .unset, .unset]) X0 hx (hb hby d1_81) rfl rfl ?_
  refine Wk.cutF (mkF m 113 #[.val (.int cc), .val (.int (Wk.b (pAl cc.toInt))), .val (.int (Wk.b (pDi cc.toInt))), .val (.int (Wk.b (pHx cc.toInt))), .unset, .unset, .unset, .unset, .unset, .unset, .unset, .unset, .unset, .unset] [(.int (Wk.b (pSc cc.toInt)))]) (fun J19 => ?_) ?_
  · skip
    refine Wk.iloadN X0 hx (hb hby d1_82) rfl rfl ?_
    refine Wk.if_neB X0 hx 108 86 (hb hby d1_83) rfl rfl (fun h20 => ?_) (fun h20 => ?_)
    · skip
      refine Wk.iconst X0 hx (1 : Int32) (hb hby d1_108) rfl rfl ?_
      refine Wk.goto X0 hx 113 (hb hby d1_109) rfl ?_
      exact Wk.goB1 J19 (by first | exact (Or.inl ‹_›) | exact (Or.inr (Or.inl ‹_›)) | exact (Or.inr (Or.inr (Or.inl ‹_›))) | exact (Or.inr (Or.inr (Or.inr (Or.inl ‹_›)))) | exact (Or.inr (Or.inr (Or.inr (Or.inr ‹_›)))) | omega)
    · skip
      refine Wk.iloadN X0 hx (hb hby d1_86) rfl rfl ?_
      refine Wk.if_neB X0 hx 108 90 (hb hby d1_87) rfl rfl (fun h21 => ?_) (fun h21 => ?_)
      · skip
        refine Wk.iconst X0 hx (1 : Int32) (hb hby d1_108) rfl rfl ?_
        refine Wk.goto X0 hx 113 (hb hby d1_109) rfl ?_
        exact Wk.goB1 J19 (by first | exact (Or.inl ‹_›) | exact (Or.inr (Or.inl ‹_›)) | exact (Or.inr (Or.inr (Or.inl ‹_›))) | exact (Or.inr (Or.inr (Or.inr (Or.inl ‹_›)))) | exact (Or.inr (Or.inr (Or.inr (Or.inr ‹_›)))) | omega)
      · skip
        refine Wk.iloadN X0 hx (hb hby d1_90) rfl rfl ?_
        refine Wk.bipush X0 hx (43 : Int32) (hb hby d1_91) rfl rfl ?_
        refine Wk.icmp_eq X0 hx 108 96 (hb hby d1_93) rfl rfl (show (cc : Int32).toInt = (cc).toInt from rfl) (show ((43 : Int32) : Int32).toInt = 43 from (by decide)) (fun h22 => ?_) (fun h22 => ?_)
        · skip
          refine Wk.iconst X0 hx (1 : Int32) (hb hby d1_108) rfl rfl ?_
          refine Wk.goto X0 hx 113 (hb hby d1_109) rfl ?_
          exact Wk.goB1 J19 (by first | exact (Or.inl ‹_›) | exact (Or.inr (Or.inl ‹_›)) | exact (Or.inr (Or.inr (Or.inl ‹_›))) | exact (Or.inr (Or.inr (Or.inr (Or.inl ‹_›)))) | exact (Or.inr (Or.inr (Or.inr (Or.inr ‹_›)))) | omega)
        · skip
          refine Wk.iloadN X0 hx (hb hby d1_96) rfl rfl ?_
          refine Wk.bipush X0 hx (45 : Int32) (hb hby d1_97) rfl rfl ?_
          refine Wk.icmp_eq X0 hx 108 102 (hb hby d1_99) rfl rfl (show (cc : Int32).toInt = (cc).toInt from rfl) (show ((45 : Int32) : Int32).toInt = 45 from (by decide)) (fun h23 => ?_) (fun h23 => ?_)
          · skip
            refine Wk.iconst X0 hx (1 : Int32) (hb hby d1_108) rfl rfl ?_
            refine Wk.goto X0 hx 113 (hb hby d1_109) rfl ?_
            exact Wk.goB1 J19 (by first | exact (Or.inl ‹_›) | exact (Or.inr (Or.inl ‹_›)) | exact (Or.inr (Or.inr (Or.inl ‹_›))) | exact (Or.inr (Or.inr (Or.inr (Or.inl ‹_›)))) | exact (Or.inr (Or.inr (Or.inr (Or.inr ‹_›)))) | omega)
          · skip
            refine Wk.iloadN X0 hx (hb hby d1_102) rfl rfl ?_
            refine Wk.bipush X0 hx (46 : Int32) (hb hby d1_103) rfl rfl ?_
            refine Wk.icmp_ne X0 hx 112 108 (hb hby d1_105) rfl rfl (show (cc : Int32).toInt = (cc).toInt from rfl) (show ((46 : Int32) : Int32).toInt = 46 from (by decide)) (fun h24 => ?_) (fun h24 => ?_)
            · skip
              refine Wk.iconst X0 hx (0 : Int32) (hb hby d1_112) rfl rfl ?_
              exact Wk.goB0 J19 (by first | (rintro (z | z | z | z | z) <;> exact absurd z ‹_›) | omega)
            · skip
              refine Wk.iconst X0 hx (1 : Int32) (hb hby d1_108) rfl rfl ?_
              refine Wk.goto X0 hx 113 (hb hby d1_109) rfl ?_
              exact Wk.goB1 J19 (by first | exact (Or.inl ‹_›) | exact (Or.inr (Or.inl ‹_›)) | exact (Or.inr (Or.inr (Or.inl ‹_›))) | exact (Or.inr (Or.inr (Or.inr (Or.inl ‹_›)))) | exact (Or.inr (Or.inr (Or.inr (Or.inr ‹_›)))) | omega)
  skip
  refine Wk.istore (l' := #[.val (.int cc), .val (.int (Wk.b (pAl cc.toInt))), .val (.int (Wk.b (pDi cc.toInt))), .val (.int (Wk.b (pHx cc.toInt))), .val (.int (Wk.b (pSc cc.toInt))), .unset, .unset, .unset, .unset, .unset, .unset, .unset, .unset, .unset]) X0 hx (hb hby d1_113) rfl rfl ?_
  refine Wk.cutF (mkF m 152 #[.val (.int cc), .val (.int (Wk.b (pAl cc.toInt))), .val (.int (Wk.b (pDi cc.toInt))), .val (.int (Wk.b (pHx cc.toInt))), .val (.int (Wk.b (pSc cc.toInt))), .unset, .unset, .unset, .unset, .unset, .unset, .unset, .unset, .unset] [(.int (Wk.b (pUn cc.toInt)))]) (fun J25 => ?_) ?_
  · skip
    refine Wk.iloadN X0 hx (hb hby d1_115) rfl rfl ?_
    refine Wk.if_neB X0 hx 147 119 (hb hby d1_116) rfl rfl (fun h26 => ?_) (fun h26 => ?_)
    · skip
      refine Wk.iconst X0 hx (1 : Int32) (hb hby d1_147) rfl rfl ?_
      refine Wk.goto X0 hx 152 (hb hby d1_148) rfl ?_
      exact Wk.goB1 J25 (by first | exact (Or.inl ‹_›) | exact (Or.inr (Or.inl ‹_›)) | exact (Or.inr (Or.inr (Or.inl ‹_›))) | exact (Or.inr (Or.inr (Or.inr (Or.inl ‹_›)))) | exact (Or.inr (Or.inr (Or.inr (Or.inr (Or.inl ‹_›))))) | exact (Or.inr (Or.inr (Or.inr (Or.inr (Or.inr ‹_›))))) | omega)
    · skip
      refine Wk.iloadN X0 hx (hb hby d1_119) rfl rfl ?_
      refine Wk.if_neB X0 hx 147 123 (hb hby d1_120) rfl rfl (fun h27 => ?_) (fun h27 => ?_)
      · skip
        refine Wk.iconst X0 hx (1 : Int32) (hb hby d1_147) rfl rfl ?_
        refine Wk.goto X0 hx 152 (hb hby d1_148) rfl ?_
        exact Wk.goB1 J25 (by first | exact (Or.inl ‹_›) | exact (Or.inr (Or.inl ‹_›)) | exact (Or.inr (Or.inr (Or.inl ‹_›))) | exact (Or.inr (Or.inr (Or.inr (Or.inl ‹_›)))) | exact (Or.inr (Or.inr (Or.inr (Or.inr (Or.inl ‹_›))))) | exact (Or.inr (Or.inr (Or.inr (Or.inr (Or.inr ‹_›))))) | omega)
      · skip
        refine Wk.iloadN X0 hx (hb hby d1_123) rfl rfl ?_
        refine Wk.bipush X0 hx (45 : Int32) (hb hby d1_124) rfl rfl ?_
        refine Wk.icmp_eq X0 hx 147 129 (hb hby d1_126) rfl rfl (show (cc : Int32).toInt = (cc).toInt from rfl) (show ((45 : Int32) : Int32).toInt = 45 from (by decide)) (fun h28 => ?_) (fun h28 => ?_)
        · skip
          refine Wk.iconst X0 hx (1 : Int32) (hb hby d1_147) rfl rfl ?_
          refine Wk.goto X0 hx 152 (hb hby d1_148) rfl ?_
          exact Wk.goB1 J25 (by first | exact (Or.inl ‹_›) | exact (Or.inr (Or.inl ‹_›)) | exact (Or.inr (Or.inr (Or.inl ‹_›))) | exact (Or.inr (Or.inr (Or.inr (Or.inl ‹_›)))) | exact (Or.inr (Or.inr (Or.inr (Or.inr (Or.inl ‹_›))))) | exact (Or.inr (Or.inr (Or.inr (Or.inr (Or.inr ‹_›))))) | omega)
        · skip
          refine Wk.iloadN X0 hx (hb hby d1_129) rfl rfl ?_
          refine Wk.bipush X0 hx (46 : Int32) (hb hby d1_130) rfl rfl ?_
          refine Wk.icmp_eq X0 hx 147 135 (hb hby d1_132) rfl rfl (show (cc : Int32).toInt = (cc).toInt from rfl) (show ((46 : Int32) : Int32).toInt = 46 from (by decide)) (fun h29 => ?_) (fun h29 => ?_)
          · skip
            refine Wk.iconst X0 hx (1 : Int32) (hb hby d1_147) rfl rfl ?_
            refine Wk.goto X0 hx 152 (hb hby d1_148) rfl ?_
            exact Wk.goB1 J25 (by first | exact (Or.inl ‹_›) | exact (Or.inr (Or.inl ‹_›)) | exact (Or.inr (Or.inr (Or.inl ‹_›))) | exact (Or.inr (Or.inr (Or.inr (Or.inl ‹_›)))) | exact (Or.inr (Or.inr (Or.inr (Or.inr (Or.inl ‹_›))))) | exact (Or.inr (Or.inr (Or.inr (Or.inr (Or.inr ‹_›))))) | omega)
          · skip
            refine Wk.iloadN X0 hx (hb hby d1_135) rfl rfl ?_
            refine Wk.bipush X0 hx (95 : Int32) (hb hby d1_136) rfl rfl ?_
            refine Wk.icmp_eq X0 hx 147 141 (hb hby d1_138) rfl rfl (show (cc : Int32).toInt = (cc).toInt from rfl) (show ((95 : Int32) : Int32).toInt = 95 from (by decide)) (fun h30 => ?_) (fun h30 => ?_)
            · skip
              refine Wk.iconst X0 hx (1 : Int32) (hb hby d1_147) rfl rfl ?_
              refine Wk.goto X0 hx 152 (hb hby d1_148) rfl ?_
              exact Wk.goB1 J25 (by first | exact (Or.inl ‹_›) | exact (Or.inr (Or.inl ‹_›)) | exact (Or.inr (Or.inr (Or.inl ‹_›))) | exact (Or.inr (Or.inr (Or.inr (Or.inl ‹_›)))) | exact (Or.inr (Or.inr (Or.inr (Or.inr (Or.inl ‹_›))))) | exact (Or.inr (Or.inr (Or.inr (Or.inr (Or.inr ‹_›))))) | omega)
            · skip
              refine Wk.iloadN X0 hx (hb hby d1_141) rfl rfl ?_
              refine Wk.bipush X0 hx (126 : Int32) (hb hby d1_142) rfl rfl ?_
              refine Wk.icmp_ne X0 hx 151 147 (hb hby d1_144) rfl rfl (show (cc : Int32).toInt = (cc).toInt from rfl) (show ((126 : Int32) : Int32).toInt = 126 from (by decide)) (fun h31 => ?_) (fun h31 => ?_)
              · skip
                refine Wk.iconst X0 hx (0 : Int32) (hb hby d1_151) rfl rfl ?_
                exact Wk.goB0 J25 (by first | (rintro (z | z | z | z | z | z) <;> exact absurd z ‹_›) | omega)
              · skip
                refine Wk.iconst X0 hx (1 : Int32) (hb hby d1_147) rfl rfl ?_
                refine Wk.goto X0 hx 152 (hb hby d1_148) rfl ?_
                exact Wk.goB1 J25 (by first | exact (Or.inl ‹_›) | exact (Or.inr (Or.inl ‹_›)) | exact (Or.inr (Or.inr (Or.inl ‹_›))) | exact (Or.inr (Or.inr (Or.inr (Or.inl ‹_›)))) | exact (Or.inr (Or.inr (Or.inr (Or.inr (Or.inl ‹_›))))) | exact (Or.inr (Or.inr (Or.inr (Or.inr (Or.inr ‹_›))))) | omega)
  skip
  refine Wk.istore (l' := #[.val (.int cc), .val (.int (Wk.b (pAl cc.toInt))), .val (.int (Wk.b (pDi cc.toInt))), .val (.int (Wk.b (pHx cc.toInt))), .val (.int (Wk.b (pSc cc.toInt))), .val (.int (Wk.b (pUn cc.toInt))), .unset, .unset, .unset, .unset, .unset, .unset, .unset, .unset]) X0 hx (hb hby d1_152) rfl rfl ?_
  refine Wk.cutF (mkF m 225 #[.val (.int cc), .val (.int (Wk.b (pAl cc.toInt))), .val (.int (Wk.b (pDi cc.toInt))), .val (.int (Wk.b (pHx cc.toInt))), .val (.int (Wk.b (pSc cc.toInt))), .val (.int (Wk.b (pUn cc.toInt))), .unset, .unset, .unset, .unset, .unset, .unset, .unset, .unset] [(.int (Wk.b (pSu cc.toInt)))]) (fun J32 => ?_) ?_
  · skip
    refine Wk.iloadN X0 hx (hb hby d1_154) rfl rfl ?_
    refine Wk.bipush X0 hx (33 : Int32) (hb hby d1_155) rfl rfl ?_
    refine Wk.icmp_eq X0 hx 220 160 (hb hby d1_157) rfl rfl (show (cc : Int32).toInt = (cc).toInt from rfl) (show ((33 : Int32) : Int32).toInt = 33 from (by decide)) (fun h33 => ?_) (fun h33 => ?_)
    · skip
      refine Wk.iconst X0 hx (1 : Int32) (hb hby d1_220) rfl rfl ?_
      refine Wk.goto X0 hx 225 (hb hby d1_221) rfl ?_
      exact Wk.goB1 J32 (by first | exact (Or.inl ‹_›) | exact (Or.inr (Or.inl ‹_›)) | exact (Or.inr (Or.inr (Or.inl ‹_›))) | exact (Or.inr (Or.inr (Or.inr (Or.inl ‹_›)))) | exact (Or.inr (Or.inr (Or.inr (Or.inr (Or.inl ‹_›))))) | exact (Or.inr (Or.inr (Or.inr (Or.inr (Or.inr (Or.inl ‹_›)))))) | exact (Or.inr (Or.inr (Or.inr (Or.inr (Or.inr (Or.inr (Or.inl ‹_›))))))) | exact (Or.inr (Or.inr (Or.inr (Or.inr (Or.inr (Or.inr (Or.inr (Or.inl ‹_›)))))))) | exact (Or.inr (Or.inr (Or.inr (Or.inr (Or.inr (Or.inr (Or.inr (Or.inr (Or.inl ‹_›))))))))) | exact (Or.inr (Or.inr (Or.inr (Or.inr (Or.inr (Or.inr (Or.inr (Or.inr (Or.inr (Or.inl ‹_›)))))))))) | exact (Or.inr (Or.inr (Or.inr (Or.inr (Or.inr (Or.inr (Or.inr (Or.inr (Or.inr (Or.inr ‹_›)))))))))) | omega)
    · skip
      refine Wk.iloadN X0 hx (hb hby d1_160) rfl rfl ?_
      refine Wk.bipush X0 hx (36 : Int32) (hb hby d1_161) rfl rfl ?_
      refine Wk.icmp_eq X0 hx 220 166 (hb hby d1_163) rfl rfl (show (cc : Int32).toInt = (cc).toInt from rfl) (show ((36 : Int32) : Int32).toInt = 36 from (by decide)) (fun h34 => ?_) (fun h34 => ?_)
      · skip
        refine Wk.iconst X0 hx (1 : Int32) (hb hby d1_220) rfl rfl ?_
        refine Wk.goto X0 hx 225 (hb hby d1_221) rfl ?_
        exact Wk.goB1 J32 (by first | exact (Or.inl ‹_›) | exact (Or.inr (Or.inl ‹_›)) | exact (Or.inr (Or.inr (Or.inl ‹_›))) | exact (Or.inr (Or.inr (Or.inr (Or.inl ‹_›)))) | exact (Or.inr (Or.inr (Or.inr (Or.inr (Or.inl ‹_›))))) | exact (Or.inr (Or.inr (Or.inr (Or.inr (Or.inr (Or.inl ‹_›)))))) | exact (Or.inr (Or.inr (Or.inr (Or.inr (Or.inr (Or.inr (Or.inl ‹_›))))))) | exact (Or.inr (Or.inr (Or.inr (Or.inr (Or.inr (Or.inr (Or.inr (Or.inl ‹_›)))))))) | exact (Or.inr (Or.inr (Or.inr (Or.inr (Or.inr (Or.inr (Or.inr (Or.inr (Or.inl ‹_›))))))))) | exact (Or.inr (Or.inr (Or.inr (Or.inr (Or.inr (Or.inr (Or.inr (Or.inr (Or.inr (Or.inl ‹_›)))))))))) | exact (Or.inr (Or.inr (Or.inr (Or.inr (Or.inr (Or.inr (Or.inr (Or.inr (Or.inr (Or.inr ‹_›)))))))))) | omega)
      · skip
        refine Wk.iloadN X0 hx (hb hby d1_166) rfl rfl ?_
        refine Wk.bipush X0 hx (38 : Int32) (hb hby d1_167) rfl rfl ?_
        refine Wk.icmp_eq X0 hx 220 172 (hb hby d1_169) rfl rfl (show (cc : Int32).toInt = (cc).toInt from rfl) (show ((38 : Int32) : Int32).toInt = 38 from (by decide)) (fun h35 => ?_) (fun h35 => ?_)
        · skip
          refine Wk.iconst X0 hx (1 : Int32) (hb hby d1_220) rfl rfl ?_
          refine Wk.goto X0 hx 225 (hb hby d1_221) rfl ?_
          exact Wk.goB1 J32 (by first | exact (Or.inl ‹_›) | exact (Or.inr (Or.inl ‹_›)) | exact (Or.inr (Or.inr (Or.inl ‹_›))) | exact (Or.inr (Or.inr (Or.inr (Or.inl ‹_›)))) | exact (Or.inr (Or.inr (Or.inr (Or.inr (Or.inl ‹_›))))) | exact (Or.inr (Or.inr (Or.inr (Or.inr (Or.inr (Or.inl ‹_›)))))) | exact (Or.inr (Or.inr (Or.inr (Or.inr (Or.inr (Or.inr (Or.inl ‹_›))))))) | exact (Or.inr (Or.inr (Or.inr (Or.inr (Or.inr (Or.inr (Or.inr (Or.inl ‹_›)))))))) | exact (Or.inr (Or.inr (Or.inr (Or.inr (Or.inr (Or.inr (Or.inr (Or.inr (Or.inl ‹_›))))))))) | exact (Or.inr (Or.inr (Or.inr (Or.inr (Or.inr (Or.inr (Or.inr (Or.inr (Or.inr (Or.inl ‹_›)))))))))) | exact (Or.inr (Or.inr (Or.inr (Or.inr (Or.inr (Or.inr (Or.inr (Or.inr (Or.inr (Or.inr ‹_›)))))))))) | omega)
        · skip
          refine Wk.iloadN X0 hx (hb hby d1_172) rfl rfl ?_
          refine Wk.bipush X0 hx (39 : Int32) (hb hby d1_173) rfl rfl ?_
          refine Wk.icmp_eq X0 hx 220 178 (hb hby d1_175) rfl rfl (show (cc : Int32).toInt = (cc).toInt from rfl) (show ((39 : Int32) : Int32).toInt = 39 from (by decide)) (fun h36 => ?_) (fun h36 => ?_)
          · skip
            refine Wk.iconst X0 hx (1 : Int32) (hb hby d1_220) rfl rfl ?_
            refine Wk.goto X0 hx 225 (hb hby d1_221) rfl ?_
            exact Wk.goB1 J32 (by first | exact (Or.inl ‹_›) | exact (Or.inr (Or.inl ‹_›)) | exact (Or.inr (Or.inr (Or.inl ‹_›))) | exact (Or.inr (Or.inr (Or.inr (Or.inl ‹_›)))) | exact (Or.inr (Or.inr (Or.inr (Or.inr (Or.inl ‹_›))))) | exact (Or.inr (Or.inr (Or.inr (Or.inr (Or.inr (Or.inl ‹_›)))))) | exact (Or.inr (Or.inr (Or.inr (Or.inr (Or.inr (Or.inr (Or.inl ‹_›))))))) | exact (Or.inr (Or.inr (Or.inr (Or.inr (Or.inr (Or.inr (Or.inr (Or.inl ‹_›)))))))) | exact (Or.inr (Or.inr (Or.inr (Or.inr (Or.inr (Or.inr (Or.inr (Or.inr (Or.inl ‹_›))))))))) | exact (Or.inr (Or.inr (Or.inr (Or.inr (Or.inr (Or.inr (Or.inr (Or.inr (Or.inr (Or.inl ‹_›)))))))))) | exact (Or.inr (Or.inr (Or.inr (Or.inr (Or.inr (Or.inr (Or.inr (Or.inr (Or.inr (Or.inr ‹_›)))))))))) | omega)
          · skip
            refine Wk.iloadN X0 hx (hb hby d1_178) rfl rfl ?_
            refine Wk.bipush X0 hx (40 : Int32) (hb hby d1_179) rfl rfl ?_
            refine Wk.icmp_eq X0 hx 220 184 (hb hby d1_181) rfl rfl (show (cc : Int32).toInt = (cc).toInt from rfl) (show ((40 : Int32) : Int32).toInt = 40 from (by decide)) (fun h37 => ?_) (fun h37 => ?_)
            · skip
              refine Wk.iconst X0 hx (1 : Int32) (hb hby d1_220) rfl rfl ?_
              refine Wk.goto X0 hx 225 (hb hby d1_221) rfl ?_
              exact Wk.goB1 J32 (by first | exact (Or.inl ‹_›) | exact (Or.inr (Or.inl ‹_›)) | exact (Or.inr (Or.inr (Or.inl ‹_›))) | exact (Or.inr (Or.inr (Or.inr (Or.inl ‹_›)))) | exact (Or.inr (Or.inr (Or.inr (Or.inr (Or.inl ‹_›))))) | exact (Or.inr (Or.inr (Or.inr (Or.inr (Or.inr (Or.inl ‹_›)))))) | exact (Or.inr (Or.inr (Or.inr (Or.inr (Or.inr (Or.inr (Or.inl ‹_›))))))) | exact (Or.inr (Or.inr (Or.inr (Or.inr (Or.inr (Or.inr (Or.inr (Or.inl ‹_›)))))))) | exact (Or.inr (Or.inr (Or.inr (Or.inr (Or.inr (Or.inr (Or.inr (Or.inr (Or.inl ‹_›))))))))) | exact (Or.inr (Or.inr (Or.inr (Or.inr (Or.inr (Or.inr (Or.inr (Or.inr (Or.inr (Or.inl ‹_›)))))))))) | exact (Or.inr (Or.inr (Or.inr (Or.inr (Or.inr (Or.inr (Or.inr (Or.inr (Or.inr (Or.inr ‹_›)))))))))) | omega)
            · skip
              refine Wk.iloadN X0 hx (hb hby d1_184) rfl rfl ?_
              refine Wk.bipush X0 hx (41 : Int32) (hb hby d1_185) rfl rfl ?_
              refine Wk.icmp_eq X0 hx 220 190 (hb hby d1_187) rfl rfl (show (cc : Int32).toInt = (cc).toInt from rfl) (show ((41 : Int32) : Int32).toInt = 41 from (by decide)) (fun h38 => ?_) (fun h38 => ?_)
              · skip
                refine Wk.iconst X0 hx (1 : Int32) (hb hby d1_220) rfl rfl ?_
                refine Wk.goto X0 hx 225 (hb hby d1_221) rfl ?_
                exact Wk.goB1 J32 (by first | exact (Or.inl ‹_›) | exact (Or.inr (Or.inl ‹_›)) | exact (Or.inr (Or.inr (Or.inl ‹_›))) | exact (Or.inr (Or.inr (Or.inr (Or.inl ‹_›)))) | exact (Or.inr (Or.inr (Or.inr (Or.inr (Or.inl ‹_›))))) | exact (Or.inr (Or.inr (Or.inr (Or.inr (Or.inr (Or.inl ‹_›)))))) | exact (Or.inr (Or.inr (Or.inr (Or.inr (Or.inr (Or.inr (Or.inl ‹_›))))))) | exact (Or.inr (Or.inr (Or.inr (Or.inr (Or.inr (Or.inr (Or.inr (Or.inl ‹_›)))))))) | exact (Or.inr (Or.inr (Or.inr (Or.inr (Or.inr (Or.inr (Or.inr (Or.inr (Or.inl ‹_›))))))))) | exact (Or.inr (Or.inr (Or.inr (Or.inr (Or.inr (Or.inr (Or.inr (Or.inr (Or.inr (Or.inl ‹_›)))))))))) | exact (Or.inr (Or.inr (Or.inr (Or.inr (Or.inr (Or.inr (Or.inr (Or.inr (Or.inr (Or.inr ‹_›)))))))))) | omega)
              · skip
                refine Wk.iloadN X0 hx (hb hby d1_190) rfl rfl ?_
                refine Wk.bipush X0 hx (42 : Int32) (hb hby d1_191) rfl rfl ?_
                refine Wk.icmp_eq X0 hx 220 196 (hb hby d1_193) rfl rfl (show (cc : Int32).toInt = (cc).toInt from rfl) (show ((42 : Int32) : Int32).toInt = 42 from (by decide)) (fun h39 => ?_) (fun h39 => ?_)
                · skip
                  refine Wk.iconst X0 hx (1 : Int32) (hb hby d1_220) rfl rfl ?_
                  refine Wk.goto X0 hx 225 (hb hby d1_221) rfl ?_
                  exact Wk.goB1 J32 (by first | exact (Or.inl ‹_›) | exact (Or.inr (Or.inl ‹_›)) | exact (Or.inr (Or.inr (Or.inl ‹_›))) | exact (Or.inr (Or.inr (Or.inr (Or.inl ‹_›)))) | exact (Or.inr (Or.inr (Or.inr (Or.inr (Or.inl ‹_›))))) | exact (Or.inr (Or.inr (Or.inr (Or.inr (Or.inr (Or.inl ‹_›)))))) | exact (Or.inr (Or.inr (Or.inr (Or.inr (Or.inr (Or.inr (Or.inl ‹_›))))))) | exact (Or.inr (Or.inr (Or.inr (Or.inr (Or.inr (Or.inr (Or.inr (Or.inl ‹_›)))))))) | exact (Or.inr (Or.inr (Or.inr (Or.inr (Or.inr (Or.inr (Or.inr (Or.inr (Or.inl ‹_›))))))))) | exact (Or.inr (Or.inr (Or.inr (Or.inr (Or.inr (Or.inr (Or.inr (Or.inr (Or.inr (Or.inl ‹_›)))))))))) | exact (Or.inr (Or.inr (Or.inr (Or.inr (Or.inr (Or.inr (Or.inr (Or.inr (Or.inr (Or.inr ‹_›)))))))))) | omega)
                · skip
                  refine Wk.iloadN X0 hx (hb hby d1_196) rfl rfl ?_
                  refine Wk.bipush X0 hx (43 : Int32) (hb hby d1_197) rfl rfl ?_
                  refine Wk.icmp_eq X0 hx 220 202 (hb hby d1_199) rfl rfl (show (cc : Int32).toInt = (cc).toInt from rfl) (show ((43 : Int32) : Int32).toInt = 43 from (by decide)) (fun h40 => ?_) (fun h40 => ?_)
                  · skip
                    refine Wk.iconst X0 hx (1 : Int32) (hb hby d1_220) rfl rfl ?_
                    refine Wk.goto X0 hx 225 (hb hby d1_221) rfl ?_
                    exact Wk.goB1 J32 (by first | exact (Or.inl ‹_›) | exact (Or.inr (Or.inl ‹_›)) | exact (Or.inr (Or.inr (Or.inl ‹_›))) | exact (Or.inr (Or.inr (Or.inr (Or.inl ‹_›)))) | exact (Or.inr (Or.inr (Or.inr (Or.inr (Or.inl ‹_›))))) | exact (Or.inr (Or.inr (Or.inr (Or.inr (Or.inr (Or.inl ‹_›)))))) | exact (Or.inr (Or.inr (Or.inr (Or.inr (Or.inr (Or.inr (Or.inl ‹_›))))))) | exact (Or.inr (Or.inr (Or.inr (Or.inr (Or.inr (Or.inr (Or.inr (Or.inl ‹_›)))))))) | exact (Or.inr (Or.inr (Or.inr (Or.inr (Or.inr (Or.inr (Or.inr (Or.inr (Or.inl ‹_›))))))))) | exact (Or.inr (Or.inr (Or.inr (Or.inr (Or.inr (Or.inr (Or.inr (Or.inr (Or.inr (Or.inl ‹_›)))))))))) | exact (Or.inr (Or.inr (Or.inr (Or.inr (Or.inr (Or.inr (Or.inr (Or.inr (Or.inr (Or.inr ‹_›)))))))))) | omega)
                  · skip
                    refine Wk.iloadN X0 hx (hb hby d1_202) rfl rfl ?_
                    refine Wk.bipush X0 hx (44 : Int32) (hb hby d1_203) rfl rfl ?_
                    refine Wk.icmp_eq X0 hx 220 208 (hb hby d1_205) rfl rfl (show (cc : Int32).toInt = (cc).toInt from rfl) (show ((44 : Int32) : Int32).toInt = 44 from (by decide)) (fun h41 => ?_) (fun h41 => ?_)
                    · skip
                      refine Wk.iconst X0 hx (1 : Int32) (hb hby d1_220) rfl rfl ?_
                      refine Wk.goto X0 hx 225 (hb hby d1_221) rfl ?_
                      exact Wk.goB1 J32 (by first | exact (Or.inl ‹_›) | exact (Or.inr (Or.inl ‹_›)) | exact (Or.inr (Or.inr (Or.inl ‹_›))) | exact (Or.inr (Or.inr (Or.inr (Or.inl ‹_›)))) | exact (Or.inr (Or.inr (Or.inr (Or.inr (Or.inl ‹_›))))) | exact (Or.inr (Or.inr (Or.inr (Or.inr (Or.inr (Or.inl ‹_›)))))) | exact (Or.inr (Or.inr (Or.inr (Or.inr (Or.inr (Or.inr (Or.inl ‹_›))))))) | exact (Or.inr (Or.inr (Or.inr (Or.inr (Or.inr (Or.inr (Or.inr (Or.inl ‹_›)))))))) | exact (Or.inr (Or.inr (Or.inr (Or.inr (Or.inr (Or.inr (Or.inr (Or.inr (Or.inl ‹_›))))))))) | exact (Or.inr (Or.inr (Or.inr (Or.inr (Or.inr (Or.inr (Or.inr (Or.inr (Or.inr (Or.inl ‹_›)))))))))) | exact (Or.inr (Or.inr (Or.inr (Or.inr (Or.inr (Or.inr (Or.inr (Or.inr (Or.inr (Or.inr ‹_›)))))))))) | omega)
                    · skip
                      refine Wk.iloadN X0 hx (hb hby d1_208) rfl rfl ?_
                      refine Wk.bipush X0 hx (59 : Int32) (hb hby d1_209) rfl rfl ?_
                      refine Wk.icmp_eq X0 hx 220 214 (hb hby d1_211) rfl rfl (show (cc : Int32).toInt = (cc).toInt from rfl) (show ((59 : Int32) : Int32).toInt = 59 from (by decide)) (fun h42 => ?_) (fun h42 => ?_)
                      · skip
                        refine Wk.iconst X0 hx (1 : Int32) (hb hby d1_220) rfl rfl ?_
                        refine Wk.goto X0 hx 225 (hb hby d1_221) rfl ?_
                        exact Wk.goB1 J32 (by first | exact (Or.inl ‹_›) | exact (Or.inr (Or.inl ‹_›)) | exact (Or.inr (Or.inr (Or.inl ‹_›))) | exact (Or.inr (Or.inr (Or.inr (Or.inl ‹_›)))) | exact (Or.inr (Or.inr (Or.inr (Or.inr (Or.inl ‹_›))))) | exact (Or.inr (Or.inr (Or.inr (Or.inr (Or.inr (Or.inl ‹_›)))))) | exact (Or.inr (Or.inr (Or.inr (Or.inr (Or.inr (Or.inr (Or.inl ‹_›))))))) | exact (Or.inr (Or.inr (Or.inr (Or.inr (Or.inr (Or.inr (Or.inr (Or.inl ‹_›)))))))) | exact (Or.inr (Or.inr (Or.inr (Or.inr (Or.inr (Or.inr (Or.inr (Or.inr (Or.inl ‹_›))))))))) | exact (Or.inr (Or.inr (Or.inr (Or.inr (Or.inr (Or.inr (Or.inr (Or.inr (Or.inr (Or.inl ‹_›)))))))))) | exact (Or.inr (Or.inr (Or.inr (Or.inr (Or.inr (Or.inr (Or.inr (Or.inr (Or.inr (Or.inr ‹_›)))))))))) | omega)
                      · skip
                        refine Wk.iloadN X0 hx (hb hby d1_214) rfl rfl ?_
                        refine Wk.bipush X0 hx (61 : Int32) (hb hby d1_215) rfl rfl ?_
                        refine Wk.icmp_ne X0 hx 224 220 (hb hby d1_217) rfl rfl (show (cc : Int32).toInt = (cc).toInt from rfl) (show ((61 : Int32) : Int32).toInt = 61 from (by decide)) (fun h43 => ?_) (fun h43 => ?_)
                        · skip
                          refine Wk.iconst X0 hx (0 : Int32) (hb hby d1_224) rfl rfl ?_
                          exact Wk.goB0 J32 (by first | (rintro (z | z | z | z | z | z | z | z | z | z | z) <;> exact absurd z ‹_›) | omega)
                        · skip
                          refine Wk.iconst X0 hx (1 : Int32) (hb hby d1_220) rfl rfl ?_
                          refine Wk.goto X0 hx 225 (hb hby d1_221) rfl ?_
                          exact Wk.goB1 J32 (by first | exact (Or.inl ‹_›) | exact (Or.inr (Or.inl ‹_›)) | exact (Or.inr (Or.inr (Or.inl ‹_›))) | exact (Or.inr (Or.inr (Or.inr (Or.inl ‹_›)))) | exact (Or.inr (Or.inr (Or.inr (Or.inr (Or.inl ‹_›))))) | exact (Or.inr (Or.inr (Or.inr (Or.inr (Or.inr (Or.inl ‹_›)))))) | exact (Or.inr (Or.inr (Or.inr (Or.inr (Or.inr (Or.inr (Or.inl ‹_›))))))) | exact (Or.inr (Or.inr (Or.inr (Or.inr (Or.inr (Or.inr (Or.inr (Or.inl ‹_›)))))))) | exact (Or.inr (Or.inr (Or.inr (Or.inr (Or.inr (Or.inr (Or.inr (Or.inr (Or.inl ‹_›))))))))) | exact (Or.inr (Or.inr (Or.inr (Or.inr (Or.inr (Or.inr (Or.inr (Or.inr (Or.inr (Or.inl ‹_›)))))))))) | exact (Or.inr (Or.inr (Or.inr (Or.inr (Or.inr (Or.inr (Or.inr (Or.inr (Or.inr (Or.inr ‹_›)))))))))) | omega)
  skip
  refine Wk.istore (l' := #[.val (.int cc), .val (.int (Wk.b (pAl cc.toInt))), .val (.int (Wk.b (pDi cc.toInt))), .val (.int (Wk.b (pHx cc.toInt))), .val (.int (Wk.b (pSc cc.toInt))), .val (.int (Wk.b (pUn cc.toInt))), .val (.int (Wk.b (pSu cc.toInt))), .unset, .unset, .unset, .unset, .unset, .unset, .unset]) X0 hx (hb hby d1_225) rfl rfl ?_
  refine Wk.cutF (mkF m 242 #[.val (.int cc), .val (.int (Wk.b (pAl cc.toInt))), .val (.int (Wk.b (pDi cc.toInt))), .val (.int (Wk.b (pHx cc.toInt))), .val (.int (Wk.b (pSc cc.toInt))), .val (.int (Wk.b (pUn cc.toInt))), .val (.int (Wk.b (pSu cc.toInt))), .unset, .unset, .unset, .unset, .unset, .unset, .unset] [(.int (Wk.b (pRe cc.toInt)))]) (fun J44 => ?_) ?_
  · skip
    refine Wk.iload X0 hx (hb hby d1_227) rfl rfl ?_
    refine Wk.if_neB X0 hx 237 232 (hb hby d1_229) rfl rfl (fun h45 => ?_) (fun h45 => ?_)
    · skip
      refine Wk.iconst X0 hx (1 : Int32) (hb hby d1_237) rfl rfl ?_
      refine Wk.goto X0 hx 242 (hb hby d1_238) rfl ?_
      exact Wk.goB1 J44 (by first | exact (Or.inl ‹_›) | exact (Or.inr ‹_›) | omega)
    · skip
      refine Wk.iload X0 hx (hb hby d1_232) rfl rfl ?_
      refine Wk.if_eqB X0 hx 241 237 (hb hby d1_234) rfl rfl (fun h46 => ?_) (fun h46 => ?_)
      · skip
        refine Wk.iconst X0 hx (0 : Int32) (hb hby d1_241) rfl rfl ?_
        exact Wk.goB0 J44 (by first | (rintro (z | z) <;> exact absurd z ‹_›) | omega)
      · skip
        refine Wk.iconst X0 hx (1 : Int32) (hb hby d1_237) rfl rfl ?_
        refine Wk.goto X0 hx 242 (hb hby d1_238) rfl ?_
        exact Wk.goB1 J44 (by first | exact (Or.inl ‹_›) | exact (Or.inr ‹_›) | omega)
  skip
  refine Wk.istore (l' := #[.val (.int cc), .val (.int (Wk.b (pAl cc.toInt))), .val (.int (Wk.b (pDi cc.toInt))), .val (.int (Wk.b (pHx cc.toInt))), .val (.int (Wk.b (pSc cc.toInt))), .val (.int (Wk.b (pUn cc.toInt))), .val (.int (Wk.b (pSu cc.toInt))), .val (.int (Wk.b (pRe cc.toInt))), .unset, .unset, .unset, .unset, .unset, .unset]) X0 hx (hb hby d1_242) rfl rfl ?_
  refine Wk.cutF (mkF m 260 #[.val (.int cc), .val (.int (Wk.b (pAl cc.toInt))), .val (.int (Wk.b (pDi cc.toInt))), .val (.int (Wk.b (pHx cc.toInt))), .val (.int (Wk.b (pSc cc.toInt))), .val (.int (Wk.b (pUn cc.toInt))), .val (.int (Wk.b (pSu cc.toInt))), .val (.int (Wk.b (pRe cc.toInt))), .unset, .unset, .unset, .unset, .unset, .unset] [(.int (Wk.b (pUs cc.toInt)))]) (fun J47 => ?_) ?_
  · skip
    refine Wk.iload X0 hx (hb hby d1_244) rfl rfl ?_
    refine Wk.if_neB X0 hx 255 249 (hb hby d1_246) rfl rfl (fun h48 => ?_) (fun h48 => ?_)
    · skip
      refine Wk.iconst X0 hx (1 : Int32) (hb hby d1_255) rfl rfl ?_
      refine Wk.goto X0 hx 260 (hb hby d1_256) rfl ?_
      exact Wk.goB1 J47 (by first | exact (Or.inl ‹_›) | exact (Or.inr ‹_›) | omega)
    · skip
      refine Wk.iloadN X0 hx (hb hby d1_249) rfl rfl ?_
      refine Wk.bipush X0 hx (58 : Int32) (hb hby d1_250) rfl rfl ?_
      refine Wk.icmp_ne X0 hx 259 255 (hb hby d1_252) rfl rfl (show (cc : Int32).toInt = (cc).toInt from rfl) (show ((58 : Int32) : Int32).toInt = 58 from (by decide)) (fun h49 => ?_) (fun h49 => ?_)
      · skip
        refine Wk.iconst X0 hx (0 : Int32) (hb hby d1_259) rfl rfl ?_
        exact Wk.goB0 J47 (by first | (rintro (z | z) <;> exact absurd z ‹_›) | omega)
      · skip
        refine Wk.iconst X0 hx (1 : Int32) (hb hby d1_255) rfl rfl ?_
        refine Wk.goto X0 hx 260 (hb hby d1_256) rfl ?_
        exact Wk.goB1 J47 (by first | exact (Or.inl ‹_›) | exact (Or.inr ‹_›) | omega)
  skip
  refine Wk.istore (l' := #[.val (.int cc), .val (.int (Wk.b (pAl cc.toInt))), .val (.int (Wk.b (pDi cc.toInt))), .val (.int (Wk.b (pHx cc.toInt))), .val (.int (Wk.b (pSc cc.toInt))), .val (.int (Wk.b (pUn cc.toInt))), .val (.int (Wk.b (pSu cc.toInt))), .val (.int (Wk.b (pRe cc.toInt))), .val (.int (Wk.b (pUs cc.toInt))), .unset, .unset, .unset, .unset, .unset]) X0 hx (hb hby d1_260) rfl rfl ?_
  refine Wk.cutF (mkF m 278 #[.val (.int cc), .val (.int (Wk.b (pAl cc.toInt))), .val (.int (Wk.b (pDi cc.toInt))), .val (.int (Wk.b (pHx cc.toInt))), .val (.int (Wk.b (pSc cc.toInt))), .val (.int (Wk.b (pUn cc.toInt))), .val (.int (Wk.b (pSu cc.toInt))), .val (.int (Wk.b (pRe cc.toInt))), .val (.int (Wk.b (pUs cc.toInt))), .unset, .unset, .unset, .unset, .unset] [(.int (Wk.b (pPc cc.toInt)))]) (fun J50 => ?_) ?_
  · skip
    refine Wk.iload X0 hx (hb hby d1_262) rfl rfl ?_
    refine Wk.if_neB X0 hx 273 267 (hb hby d1_264) rfl rfl (fun h51 => ?_) (fun h51 => ?_)
    · skip
      refine Wk.iconst X0 hx (1 : Int32) (hb hby d1_273) rfl rfl ?_
      refine Wk.goto X0 hx 278 (hb hby d1_274) rfl ?_
      exact Wk.goB1 J50 (by first | exact (Or.inl ‹_›) | exact (Or.inr ‹_›) | omega)
    · skip
      refine Wk.iloadN X0 hx (hb hby d1_267) rfl rfl ?_
      refine Wk.bipush X0 hx (64 : Int32) (hb hby d1_268) rfl rfl ?_
      refine Wk.icmp_ne X0 hx 277 273 (hb hby d1_270) rfl rfl (show (cc : Int32).toInt = (cc).toInt from rfl) (show ((64 : Int32) : Int32).toInt = 64 from (by decide)) (fun h52 => ?_) (fun h52 => ?_)
      · skip
        refine Wk.iconst X0 hx (0 : Int32) (hb hby d1_277) rfl rfl ?_
        exact Wk.goB0 J50 (by first | (rintro (z | z) <;> exact absurd z ‹_›) | omega)
      · skip
        refine Wk.iconst X0 hx (1 : Int32) (hb hby d1_273) rfl rfl ?_
        refine Wk.goto X0 hx 278 (hb hby d1_274) rfl ?_
        exact Wk.goB1 J50 (by first | exact (Or.inl ‹_›) | exact (Or.inr ‹_›) | omega)
  skip
  refine Wk.istore (l' := #[.val (.int cc), .val (.int (Wk.b (pAl cc.toInt))), .val (.int (Wk.b (pDi cc.toInt))), .val (.int (Wk.b (pHx cc.toInt))), .val (.int (Wk.b (pSc cc.toInt))), .val (.int (Wk.b (pUn cc.toInt))), .val (.int (Wk.b (pSu cc.toInt))), .val (.int (Wk.b (pRe cc.toInt))), .val (.int (Wk.b (pUs cc.toInt))), .val (.int (Wk.b (pPc cc.toInt))), .unset, .unset, .unset, .unset]) X0 hx (hb hby d1_278) rfl rfl ?_
  refine Wk.cutF (mkF m 302 #[.val (.int cc), .val (.int (Wk.b (pAl cc.toInt))), .val (.int (Wk.b (pDi cc.toInt))), .val (.int (Wk.b (pHx cc.toInt))), .val (.int (Wk.b (pSc cc.toInt))), .val (.int (Wk.b (pUn cc.toInt))), .val (.int (Wk.b (pSu cc.toInt))), .val (.int (Wk.b (pRe cc.toInt))), .val (.int (Wk.b (pUs cc.toInt))), .val (.int (Wk.b (pPc cc.toInt))), .unset, .unset, .unset, .unset] [(.int (Wk.b (pQu cc.toInt)))]) (fun J53 => ?_) ?_
  · skip
    refine Wk.iload X0 hx (hb hby d1_280) rfl rfl ?_
    refine Wk.if_neB X0 hx 297 285 (hb hby d1_282) rfl rfl (fun h54 => ?_) (fun h54 => ?_)
    · skip
      refine Wk.iconst X0 hx (1 : Int32) (hb hby d1_297) rfl rfl ?_
      refine Wk.goto X0 hx 302 (hb hby d1_298) rfl ?_
      exact Wk.goB1 J53 (by first | exact (Or.inl ‹_›) | exact (Or.inr (Or.inl ‹_›)) | exact (Or.inr (Or.inr ‹_›)) | omega)
    · skip
      refine Wk.iloadN X0 hx (hb hby d1_285) rfl rfl ?_
      refine Wk.bipush X0 hx (47 : Int32) (hb hby d1_286) rfl rfl ?_
      refine Wk.icmp_eq X0 hx 297 291 (hb hby d1_288) rfl rfl (show (cc : Int32).toInt = (cc).toInt from rfl) (show ((47 : Int32) : Int32).toInt = 47 from (by decide)) (fun h55 => ?_) (fun h55 => ?_)
      · skip
        refine Wk.iconst X0 hx (1 : Int32) (hb hby d1_297) rfl rfl ?_
        refine Wk.goto X0 hx 302 (hb hby d1_298) rfl ?_
        exact Wk.goB1 J53 (by first | exact (Or.inl ‹_›) | exact (Or.inr (Or.inl ‹_›)) | exact (Or.inr (Or.inr ‹_›)) | omega)
      · skip
        refine Wk.iloadN X0 hx (hb hby d1_291) rfl rfl ?_
        refine Wk.bipush X0 hx (63 : Int32) (hb hby d1_292) rfl rfl ?_
        refine Wk.icmp_ne X0 hx 301 297 (hb hby d1_294) rfl rfl (show (cc : Int32).toInt = (cc).toInt from rfl) (show ((63 : Int32) : Int32).toInt = 63 from (by decide)) (fun h56 => ?_) (fun h56 => ?_)
        · skip
          refine Wk.iconst X0 hx (0 : Int32) (hb hby d1_301) rfl rfl ?_
          exact Wk.goB0 J53 (by first | (rintro (z | z | z) <;> exact absurd z ‹_›) | omega)
        · skip
          refine Wk.iconst X0 hx (1 : Int32) (hb hby d1_297) rfl rfl ?_
          refine Wk.goto X0 hx 302 (hb hby d1_298) rfl ?_
          exact Wk.goB1 J53 (by first | exact (Or.inl ‹_›) | exact (Or.inr (Or.inl ‹_›)) | exact (Or.inr (Or.inr ‹_›)) | omega)
  skip
  refine Wk.istore (l' := #[.val (.int cc), .val (.int (Wk.b (pAl cc.toInt))), .val (.int (Wk.b (pDi cc.toInt))), .val (.int (Wk.b (pHx cc.toInt))), .val (.int (Wk.b (pSc cc.toInt))), .val (.int (Wk.b (pUn cc.toInt))), .val (.int (Wk.b (pSu cc.toInt))), .val (.int (Wk.b (pRe cc.toInt))), .val (.int (Wk.b (pUs cc.toInt))), .val (.int (Wk.b (pPc cc.toInt))), .val (.int (Wk.b (pQu cc.toInt))), .unset, .unset, .unset]) X0 hx (hb hby d1_302) rfl rfl ?_
  refine Wk.cutF (mkF m 320 #[.val (.int cc), .val (.int (Wk.b (pAl cc.toInt))), .val (.int (Wk.b (pDi cc.toInt))), .val (.int (Wk.b (pHx cc.toInt))), .val (.int (Wk.b (pSc cc.toInt))), .val (.int (Wk.b (pUn cc.toInt))), .val (.int (Wk.b (pSu cc.toInt))), .val (.int (Wk.b (pRe cc.toInt))), .val (.int (Wk.b (pUs cc.toInt))), .val (.int (Wk.b (pPc cc.toInt))), .val (.int (Wk.b (pQu cc.toInt))), .unset, .unset, .unset] [(.int (Wk.b (pPa cc.toInt)))]) (fun J57 => ?_) ?_
  · skip
    refine Wk.iload X0 hx (hb hby d1_304) rfl rfl ?_
    refine Wk.if_neB X0 hx 315 309 (hb hby d1_306) rfl rfl (fun h58 => ?_) (fun h58 => ?_)
    · skip
      refine Wk.iconst X0 hx (1 : Int32) (hb hby d1_315) rfl rfl ?_
      refine Wk.goto X0 hx 320 (hb hby d1_316) rfl ?_
      exact Wk.goB1 J57 (by first | exact (Or.inl ‹_›) | exact (Or.inr ‹_›) | omega)
    · skip
      refine Wk.iloadN X0 hx (hb hby d1_309) rfl rfl ?_
      refine Wk.bipush X0 hx (47 : Int32) (hb hby d1_310) rfl rfl ?_
      refine Wk.icmp_ne X0 hx 319 315 (hb hby d1_312) rfl rfl (show (cc : Int32).toInt = (cc).toInt from rfl) (show ((47 : Int32) : Int32).toInt = 47 from (by decide)) (fun h59 => ?_) (fun h59 => ?_)
      · skip
        refine Wk.iconst X0 hx (0 : Int32) (hb hby d1_319) rfl rfl ?_
        exact Wk.goB0 J57 (by first | (rintro (z | z) <;> exact absurd z ‹_›) | omega)
      · skip
        refine Wk.iconst X0 hx (1 : Int32) (hb hby d1_315) rfl rfl ?_
        refine Wk.goto X0 hx 320 (hb hby d1_316) rfl ?_
        exact Wk.goB1 J57 (by first | exact (Or.inl ‹_›) | exact (Or.inr ‹_›) | omega)
  skip
  refine Wk.istore (l' := #[.val (.int cc), .val (.int (Wk.b (pAl cc.toInt))), .val (.int (Wk.b (pDi cc.toInt))), .val (.int (Wk.b (pHx cc.toInt))), .val (.int (Wk.b (pSc cc.toInt))), .val (.int (Wk.b (pUn cc.toInt))), .val (.int (Wk.b (pSu cc.toInt))), .val (.int (Wk.b (pRe cc.toInt))), .val (.int (Wk.b (pUs cc.toInt))), .val (.int (Wk.b (pPc cc.toInt))), .val (.int (Wk.b (pQu cc.toInt))), .val (.int (Wk.b (pPa cc.toInt))), .unset, .unset]) X0 hx (hb hby d1_320) rfl rfl ?_
  refine Wk.cutF (mkF m 338 #[.val (.int cc), .val (.int (Wk.b (pAl cc.toInt))), .val (.int (Wk.b (pDi cc.toInt))), .val (.int (Wk.b (pHx cc.toInt))), .val (.int (Wk.b (pSc cc.toInt))), .val (.int (Wk.b (pUn cc.toInt))), .val (.int (Wk.b (pSu cc.toInt))), .val (.int (Wk.b (pRe cc.toInt))), .val (.int (Wk.b (pUs cc.toInt))), .val (.int (Wk.b (pPc cc.toInt))), .val (.int (Wk.b (pQu cc.toInt))), .val (.int (Wk.b (pPa cc.toInt))), .unset, .unset] [(.int (Wk.b (pSe cc.toInt)))]) (fun J60 => ?_) ?_
  · skip
    refine Wk.iload X0 hx (hb hby d1_322) rfl rfl ?_
    refine Wk.if_eqB X0 hx 337 327 (hb hby d1_324) rfl rfl (fun h61 => ?_) (fun h61 => ?_)
    · skip
      refine Wk.iconst X0 hx (0 : Int32) (hb hby d1_337) rfl rfl ?_
      exact Wk.goB0 J60 (by first | exact fun z => absurd z.1 ‹_› | exact fun z => z.2 ‹_›)
    · skip
      refine Wk.iloadN X0 hx (hb hby d1_327) rfl rfl ?_
      refine Wk.bipush X0 hx (58 : Int32) (hb hby d1_328) rfl rfl ?_
      refine Wk.icmp_eq X0 hx 337 333 (hb hby d1_330) rfl rfl (show (cc : Int32).toInt = (cc).toInt from rfl) (show ((58 : Int32) : Int32).toInt = 58 from (by decide)) (fun h62 => ?_) (fun h62 => ?_)
      · skip
        refine Wk.iconst X0 hx (0 : Int32) (hb hby d1_337) rfl rfl ?_
        exact Wk.goB0 J60 (by first | exact fun z => absurd z.1 ‹_› | exact fun z => z.2 ‹_›)
      · skip
        refine Wk.iconst X0 hx (1 : Int32) (hb hby d1_333) rfl rfl ?_
        refine Wk.goto X0 hx 338 (hb hby d1_334) rfl ?_
        exact Wk.goB1 J60 (by exact ⟨‹_›, ‹_›⟩)
  skip
  refine Wk.istore (l' := #[.val (.int cc), .val (.int (Wk.b (pAl cc.toInt))), .val (.int (Wk.b (pDi cc.toInt))), .val (.int (Wk.b (pHx cc.toInt))), .val (.int (Wk.b (pSc cc.toInt))), .val (.int (Wk.b (pUn cc.toInt))), .val (.int (Wk.b (pSu cc.toInt))), .val (.int (Wk.b (pRe cc.toInt))), .val (.int (Wk.b (pUs cc.toInt))), .val (.int (Wk.b (pPc cc.toInt))), .val (.int (Wk.b (pQu cc.toInt))), .val (.int (Wk.b (pPa cc.toInt))), .val (.int (Wk.b (pSe cc.toInt))), .unset]) X0 hx (hb hby d1_338) rfl rfl ?_
  refine Wk.iconst X0 hx (0 : Int32) (hb hby d1_340) rfl rfl ?_
  refine Wk.istore (l' := #[.val (.int cc), .val (.int (Wk.b (pAl cc.toInt))), .val (.int (Wk.b (pDi cc.toInt))), .val (.int (Wk.b (pHx cc.toInt))), .val (.int (Wk.b (pSc cc.toInt))), .val (.int (Wk.b (pUn cc.toInt))), .val (.int (Wk.b (pSu cc.toInt))), .val (.int (Wk.b (pRe cc.toInt))), .val (.int (Wk.b (pUs cc.toInt))), .val (.int (Wk.b (pPc cc.toInt))), .val (.int (Wk.b (pQu cc.toInt))), .val (.int (Wk.b (pPa cc.toInt))), .val (.int (Wk.b (pSe cc.toInt))), .val (.int (0 : Int32))]) X0 hx (hb hby d1_341) rfl rfl ?_
  refine Wk.cutF (mkF m 353 #[.val (.int cc), .val (.int (Wk.b (pAl cc.toInt))), .val (.int (Wk.b (pDi cc.toInt))), .val (.int (Wk.b (pHx cc.toInt))), .val (.int (Wk.b (pSc cc.toInt))), .val (.int (Wk.b (pUn cc.toInt))), .val (.int (Wk.b (pSu cc.toInt))), .val (.int (Wk.b (pRe cc.toInt))), .val (.int (Wk.b (pUs cc.toInt))), .val (.int (Wk.b (pPc cc.toInt))), .val (.int (Wk.b (pQu cc.toInt))), .val (.int (Wk.b (pPa cc.toInt))), .val (.int (Wk.b (pSe cc.toInt))), .val (.int (Wk.ob (pAl cc.toInt) (1 : Int32) (0 : Int32)))] []) (fun J63 => ?_) ?_
  · skip
    refine Wk.iloadN X0 hx (hb hby d1_343) rfl rfl ?_
    refine Wk.if_eqB X0 hx 353 347 (hb hby d1_344) rfl rfl (fun h64 => ?_) (fun h64 => ?_)
    · skip
      rw [Wk.ob_f (P := pAl cc.toInt) ‹_›] at J63; exact J63
    · skip
      refine Wk.iload X0 hx (hb hby d1_347) rfl rfl ?_
      refine Wk.iconst X0 hx (1 : Int32) (hb hby d1_349) rfl rfl ?_
      refine Wk.ior X0 hx (hb hby d1_350) rfl ?_
      refine Wk.istore (l' := #[.val (.int cc), .val (.int (Wk.b (pAl cc.toInt))), .val (.int (Wk.b (pDi cc.toInt))), .val (.int (Wk.b (pHx cc.toInt))), .val (.int (Wk.b (pSc cc.toInt))), .val (.int (Wk.b (pUn cc.toInt))), .val (.int (Wk.b (pSu cc.toInt))), .val (.int (Wk.b (pRe cc.toInt))), .val (.int (Wk.b (pUs cc.toInt))), .val (.int (Wk.b (pPc cc.toInt))), .val (.int (Wk.b (pQu cc.toInt))), .val (.int (Wk.b (pPa cc.toInt))), .val (.int (Wk.b (pSe cc.toInt))), .val (.int ((0 : Int32) ||| (1 : Int32)))]) X0 hx (hb hby d1_351) rfl rfl ?_
      rw [Wk.ob_t (P := pAl cc.toInt) ‹_›] at J63; exact J63
  skip
  refine Wk.cutF (mkF m 363 #[.val (.int cc), .val (.int (Wk.b (pAl cc.toInt))), .val (.int (Wk.b (pDi cc.toInt))), .val (.int (Wk.b (pHx cc.toInt))), .val (.int (Wk.b (pSc cc.toInt))), .val (.int (Wk.b (pUn cc.toInt))), .val (.int (Wk.b (pSu cc.toInt))), .val (.int (Wk.b (pRe cc.toInt))), .val (.int (Wk.b (pUs cc.toInt))), .val (.int (Wk.b (pPc cc.toInt))), .val (.int (Wk.b (pQu cc.toInt))), .val (.int (Wk.b (pPa cc.toInt))), .val (.int (Wk.b (pSe cc.toInt))), .val (.int (Wk.ob (pDi cc.toInt) (2 : Int32) (Wk.ob (pAl cc.toInt) (1 : Int32) (0 : Int32))))] []) (fun J65 => ?_) ?_
  · skip
    refine Wk.iloadN X0 hx (hb hby d1_353) rfl rfl ?_
    refine Wk.if_eqB X0 hx 363 357 (hb hby d1_354) rfl rfl (fun h66 => ?_) (fun h66 => ?_)
    · skip
      rw [Wk.ob_f (P := pDi cc.toInt) ‹_›] at J65; exact J65
    · skip
      refine Wk.iload X0 hx (hb hby d1_357) rfl rfl ?_
      refine Wk.iconst X0 hx (2 : Int32) (hb hby d1_359) rfl rfl ?_
      refine Wk.ior X0 hx (hb hby d1_360) rfl ?_
      refine Wk.istore (l' := #[.val (.int cc), .val (.int (Wk.b (pAl cc.toInt))), .val (.int (Wk.b (pDi cc.toInt))), .val (.int (Wk.b (pHx cc.toInt))), .val (.int (Wk.b (pSc cc.toInt))), .val (.int (Wk.b (pUn cc.toInt))), .val (.int (Wk.b (pSu cc.toInt))), .val (.int (Wk.b (pRe cc.toInt))), .val (.int (Wk.b (pUs cc.toInt))), .val (.int (Wk.b (pPc cc.toInt))), .val (.int (Wk.b (pQu cc.toInt))), .val (.int (Wk.b (pPa cc.toInt))), .val (.int (Wk.b (pSe cc.toInt))), .val (.int ((Wk.ob (pAl cc.toInt) (1 : Int32) (0 : Int32)) ||| (2 : Int32)))]) X0 hx (hb hby d1_361) rfl rfl ?_
      rw [Wk.ob_t (P := pDi cc.toInt) ‹_›] at J65; exact J65
  skip
  refine Wk.cutF (mkF m 373 #[.val (.int cc), .val (.int (Wk.b (pAl cc.toInt))), .val (.int (Wk.b (pDi cc.toInt))), .val (.int (Wk.b (pHx cc.toInt))), .val (.int (Wk.b (pSc cc.toInt))), .val (.int (Wk.b (pUn cc.toInt))), .val (.int (Wk.b (pSu cc.toInt))), .val (.int (Wk.b (pRe cc.toInt))), .val (.int (Wk.b (pUs cc.toInt))), .val (.int (Wk.b (pPc cc.toInt))), .val (.int (Wk.b (pQu cc.toInt))), .val (.int (Wk.b (pPa cc.toInt))), .val (.int (Wk.b (pSe cc.toInt))), .val (.int (Wk.ob (pHx cc.toInt) (4 : Int32) (Wk.ob (pDi cc.toInt) (2 : Int32) (Wk.ob (pAl cc.toInt) (1 : Int32) (0 : Int32)))))] []) (fun J67 => ?_) ?_
  · skip
    refine Wk.iloadN X0 hx (hb hby d1_363) rfl rfl ?_
    refine Wk.if_eqB X0 hx 373 367 (hb hby d1_364) rfl rfl (fun h68 => ?_) (fun h68 => ?_)
    · skip
      rw [Wk.ob_f (P := pHx cc.toInt) ‹_›] at J67; exact J67
    · skip
      refine Wk.iload X0 hx (hb hby d1_367) rfl rfl ?_
      refine Wk.iconst X0 hx (4 : Int32) (hb hby d1_369) rfl rfl ?_
      refine Wk.ior X0 hx (hb hby d1_370) rfl ?_
      refine Wk.istore (l' := #[.val (.int cc), .val (.int (Wk.b (pAl cc.toInt))), .val (.int (Wk.b (pDi cc.toInt))), .val (.int (Wk.b (pHx cc.toInt))), .val (.int (Wk.b (pSc cc.toInt))), .val (.int (Wk.b (pUn cc.toInt))), .val (.int (Wk.b (pSu cc.toInt))), .val (.int (Wk.b (pRe cc.toInt))), .val (.int (Wk.b (pUs cc.toInt))), .val (.int (Wk.b (pPc cc.toInt))), .val (.int (Wk.b (pQu cc.toInt))), .val (.int (Wk.b (pPa cc.toInt))), .val (.int (Wk.b (pSe cc.toInt))), .val (.int ((Wk.ob (pDi cc.toInt) (2 : Int32) (Wk.ob (pAl cc.toInt) (1 : Int32) (0 : Int32))) ||| (4 : Int32)))]) X0 hx (hb hby d1_371) rfl rfl ?_
      rw [Wk.ob_t (P := pHx cc.toInt) ‹_›] at J67; exact J67
  skip
  refine Wk.cutF (mkF m 385 #[.val (.int cc), .val (.int (Wk.b (pAl cc.toInt))), .val (.int (Wk.b (pDi cc.toInt))), .val (.int (Wk.b (pHx cc.toInt))), .val (.int (Wk.b (pSc cc.toInt))), .val (.int (Wk.b (pUn cc.toInt))), .val (.int (Wk.b (pSu cc.toInt))), .val (.int (Wk.b (pRe cc.toInt))), .val (.int (Wk.b (pUs cc.toInt))), .val (.int (Wk.b (pPc cc.toInt))), .val (.int (Wk.b (pQu cc.toInt))), .val (.int (Wk.b (pPa cc.toInt))), .val (.int (Wk.b (pSe cc.toInt))), .val (.int (Wk.ob (pSc cc.toInt) (8 : Int32) (Wk.ob (pHx cc.toInt) (4 : Int32) (Wk.ob (pDi cc.toInt) (2 : Int32) (Wk.ob (pAl cc.toInt) (1 : Int32) (0 : Int32))))))] []) (fun J69 => ?_) ?_
  · skip
    refine Wk.iload X0 hx (hb hby d1_373) rfl rfl ?_
    refine Wk.if_eqB X0 hx 385 378 (hb hby d1_375) rfl rfl (fun h70 => ?_) (fun h70 => ?_)
    · skip
      rw [Wk.ob_f (P := pSc cc.toInt) ‹_›] at J69; exact J69
    · skip
      refine Wk.iload X0 hx (hb hby d1_378) rfl rfl ?_
      refine Wk.bipush X0 hx (8 : Int32) (hb hby d1_380) rfl rfl ?_
      refine Wk.ior X0 hx (hb hby d1_382) rfl ?_
      refine Wk.istore (l' := #[.val (.int cc), .val (.int (Wk.b (pAl cc.toInt))), .val (.int (Wk.b (pDi cc.toInt))), .val (.int (Wk.b (pHx cc.toInt))), .val (.int (Wk.b (pSc cc.toInt))), .val (.int (Wk.b (pUn cc.toInt))), .val (.int (Wk.b (pSu cc.toInt))), .val (.int (Wk.b (pRe cc.toInt))), .val (.int (Wk.b (pUs cc.toInt))), .val (.int (Wk.b (pPc cc.toInt))), .val (.int (Wk.b (pQu cc.toInt))), .val (.int (Wk.b (pPa cc.toInt))), .val (.int (Wk.b (pSe cc.toInt))), .val (.int ((Wk.ob (pHx cc.toInt) (4 : Int32) (Wk.ob (pDi cc.toInt) (2 : Int32) (Wk.ob (pAl cc.toInt) (1 : Int32) (0 : Int32)))) ||| (8 : Int32)))]) X0 hx (hb hby d1_383) rfl rfl ?_
      rw [Wk.ob_t (P := pSc cc.toInt) ‹_›] at J69; exact J69
  skip
  refine Wk.cutF (mkF m 397 #[.val (.int cc), .val (.int (Wk.b (pAl cc.toInt))), .val (.int (Wk.b (pDi cc.toInt))), .val (.int (Wk.b (pHx cc.toInt))), .val (.int (Wk.b (pSc cc.toInt))), .val (.int (Wk.b (pUn cc.toInt))), .val (.int (Wk.b (pSu cc.toInt))), .val (.int (Wk.b (pRe cc.toInt))), .val (.int (Wk.b (pUs cc.toInt))), .val (.int (Wk.b (pPc cc.toInt))), .val (.int (Wk.b (pQu cc.toInt))), .val (.int (Wk.b (pPa cc.toInt))), .val (.int (Wk.b (pSe cc.toInt))), .val (.int (Wk.ob (pRe cc.toInt) (16 : Int32) (Wk.ob (pSc cc.toInt) (8 : Int32) (Wk.ob (pHx cc.toInt) (4 : Int32) (Wk.ob (pDi cc.toInt) (2 : Int32) (Wk.ob (pAl cc.toInt) (1 : Int32) (0 : Int32)))))))] []) (fun J71 => ?_) ?_
  · skip
    refine Wk.iload X0 hx (hb hby d1_385) rfl rfl ?_
    refine Wk.if_eqB X0 hx 397 390 (hb hby d1_387) rfl rfl (fun h72 => ?_) (fun h72 => ?_)
    · skip
      rw [Wk.ob_f (P := pRe cc.toInt) ‹_›] at J71; exact J71
    · skip
      refine Wk.iload X0 hx (hb hby d1_390) rfl rfl ?_
      refine Wk.bipush X0 hx (16 : Int32) (hb hby d1_392) rfl rfl ?_
      refine Wk.ior X0 hx (hb hby d1_394) rfl ?_
      refine Wk.istore (l' := #[.val (.int cc), .val (.int (Wk.b (pAl cc.toInt))), .val (.int (Wk.b (pDi cc.toInt))), .val (.int (Wk.b (pHx cc.toInt))), .val (.int (Wk.b (pSc cc.toInt))), .val (.int (Wk.b (pUn cc.toInt))), .val (.int (Wk.b (pSu cc.toInt))), .val (.int (Wk.b (pRe cc.toInt))), .val (.int (Wk.b (pUs cc.toInt))), .val (.int (Wk.b (pPc cc.toInt))), .val (.int (Wk.b (pQu cc.toInt))), .val (.int (Wk.b (pPa cc.toInt))), .val (.int (Wk.b (pSe cc.toInt))), .val (.int ((Wk.ob (pSc cc.toInt) (8 : Int32) (Wk.ob (pHx cc.toInt) (4 : Int32) (Wk.ob (pDi cc.toInt) (2 : Int32) (Wk.ob (pAl cc.toInt) (1 : Int32) (0 : Int32))))) ||| (16 : Int32)))]) X0 hx (hb hby d1_395) rfl rfl ?_
      rw [Wk.ob_t (P := pRe cc.toInt) ‹_›] at J71; exact J71
  skip
  refine Wk.cutF (mkF m 409 #[.val (.int cc), .val (.int (Wk.b (pAl cc.toInt))), .val (.int (Wk.b (pDi cc.toInt))), .val (.int (Wk.b (pHx cc.toInt))), .val (.int (Wk.b (pSc cc.toInt))), .val (.int (Wk.b (pUn cc.toInt))), .val (.int (Wk.b (pSu cc.toInt))), .val (.int (Wk.b (pRe cc.toInt))), .val (.int (Wk.b (pUs cc.toInt))), .val (.int (Wk.b (pPc cc.toInt))), .val (.int (Wk.b (pQu cc.toInt))), .val (.int (Wk.b (pPa cc.toInt))), .val (.int (Wk.b (pSe cc.toInt))), .val (.int (Wk.ob (pUs cc.toInt) (32 : Int32) (Wk.ob (pRe cc.toInt) (16 : Int32) (Wk.ob (pSc cc.toInt) (8 : Int32) (Wk.ob (pHx cc.toInt) (4 : Int32) (Wk.ob (pDi cc.toInt) (2 : Int32) (Wk.ob (pAl cc.toInt) (1 : Int32) (0 : Int32))))))))] []) (fun J73 => ?_) ?_
  · skip
    refine Wk.iload X0 hx (hb hby d1_397) rfl rfl ?_
    refine Wk.if_eqB X0 hx 409 402 (hb hby d1_399) rfl rfl (fun h74 => ?_) (fun h74 => ?_)
    · skip
      rw [Wk.ob_f (P := pUs cc.toInt) ‹_›] at J73; exact J73
    · skip
      refine Wk.iload X0 hx (hb hby d1_402) rfl rfl ?_
      refine Wk.bipush X0 hx (32 : Int32) (hb hby d1_404) rfl rfl ?_
      refine Wk.ior X0 hx (hb hby d1_406) rfl ?_
      refine Wk.istore (l' := #[.val (.int cc), .val (.int (Wk.b (pAl cc.toInt))), .val (.int (Wk.b (pDi cc.toInt))), .val (.int (Wk.b (pHx cc.toInt))), .val (.int (Wk.b (pSc cc.toInt))), .val (.int (Wk.b (pUn cc.toInt))), .val (.int (Wk.b (pSu cc.toInt))), .val (.int (Wk.b (pRe cc.toInt))), .val (.int (Wk.b (pUs cc.toInt))), .val (.int (Wk.b (pPc cc.toInt))), .val (.int (Wk.b (pQu cc.toInt))), .val (.int (Wk.b (pPa cc.toInt))), .val (.int (Wk.b (pSe cc.toInt))), .val (.int ((Wk.ob (pRe cc.toInt) (16 : Int32) (Wk.ob (pSc cc.toInt) (8 : Int32) (Wk.ob (pHx cc.toInt) (4 : Int32) (Wk.ob (pDi cc.toInt) (2 : Int32) (Wk.ob (pAl cc.toInt) (1 : Int32) (0 : Int32)))))) ||| (32 : Int32)))]) X0 hx (hb hby d1_407) rfl rfl ?_
      rw [Wk.ob_t (P := pUs cc.toInt) ‹_›] at J73; exact J73
  skip
  refine Wk.cutF (mkF m 421 #[.val (.int cc), .val (.int (Wk.b (pAl cc.toInt))), .val (.int (Wk.b (pDi cc.toInt))), .val (.int (Wk.b (pHx cc.toInt))), .val (.int (Wk.b (pSc cc.toInt))), .val (.int (Wk.b (pUn cc.toInt))), .val (.int (Wk.b (pSu cc.toInt))), .val (.int (Wk.b (pRe cc.toInt))), .val (.int (Wk.b (pUs cc.toInt))), .val (.int (Wk.b (pPc cc.toInt))), .val (.int (Wk.b (pQu cc.toInt))), .val (.int (Wk.b (pPa cc.toInt))), .val (.int (Wk.b (pSe cc.toInt))), .val (.int (Wk.ob (pPc cc.toInt) (64 : Int32) (Wk.ob (pUs cc.toInt) (32 : Int32) (Wk.ob (pRe cc.toInt) (16 : Int32) (Wk.ob (pSc cc.toInt) (8 : Int32) (Wk.ob (pHx cc.toInt) (4 : Int32) (Wk.ob (pDi cc.toInt) (2 : Int32) (Wk.ob (pAl cc.toInt) (1 : Int32) (0 : Int32)))))))))] []) (fun J75 => ?_) ?_
  · skip
    refine Wk.iload X0 hx (hb hby d1_409) rfl rfl ?_
    refine Wk.if_eqB X0 hx 421 414 (hb hby d1_411) rfl rfl (fun h76 => ?_) (fun h76 => ?_)
    · skip
      rw [Wk.ob_f (P := pPc cc.toInt) ‹_›] at J75; exact J75
    · skip
      refine Wk.iload X0 hx (hb hby d1_414) rfl rfl ?_
      refine Wk.bipush X0 hx (64 : Int32) (hb hby d1_416) rfl rfl ?_
      refine Wk.ior X0 hx (hb hby d1_418) rfl ?_
      refine Wk.istore (l' := #[.val (.int cc), .val (.int (Wk.b (pAl cc.toInt))), .val (.int (Wk.b (pDi cc.toInt))), .val (.int (Wk.b (pHx cc.toInt))), .val (.int (Wk.b (pSc cc.toInt))), .val (.int (Wk.b (pUn cc.toInt))), .val (.int (Wk.b (pSu cc.toInt))), .val (.int (Wk.b (pRe cc.toInt))), .val (.int (Wk.b (pUs cc.toInt))), .val (.int (Wk.b (pPc cc.toInt))), .val (.int (Wk.b (pQu cc.toInt))), .val (.int (Wk.b (pPa cc.toInt))), .val (.int (Wk.b (pSe cc.toInt))), .val (.int ((Wk.ob (pUs cc.toInt) (32 : Int32) (Wk.ob (pRe cc.toInt) (16 : Int32) (Wk.ob (pSc cc.toInt) (8 : Int32) (Wk.ob (pHx cc.toInt) (4 : Int32) (Wk.ob (pDi cc.toInt) (2 : Int32) (Wk.ob (pAl cc.toInt) (1 : Int32) (0 : Int32))))))) ||| (64 : Int32)))]) X0 hx (hb hby d1_419) rfl rfl ?_
      rw [Wk.ob_t (P := pPc cc.toInt) ‹_›] at J75; exact J75
  skip
  refine Wk.cutF (mkF m 434 #[.val (.int cc), .val (.int (Wk.b (pAl cc.toInt))), .val (.int (Wk.b (pDi cc.toInt))), .val (.int (Wk.b (pHx cc.toInt))), .val (.int (Wk.b (pSc cc.toInt))), .val (.int (Wk.b (pUn cc.toInt))), .val (.int (Wk.b (pSu cc.toInt))), .val (.int (Wk.b (pRe cc.toInt))), .val (.int (Wk.b (pUs cc.toInt))), .val (.int (Wk.b (pPc cc.toInt))), .val (.int (Wk.b (pQu cc.toInt))), .val (.int (Wk.b (pPa cc.toInt))), .val (.int (Wk.b (pSe cc.toInt))), .val (.int (Wk.ob (pQu cc.toInt) (128 : Int32) (Wk.ob (pPc cc.toInt) (64 : Int32) (Wk.ob (pUs cc.toInt) (32 : Int32) (Wk.ob (pRe cc.toInt) (16 : Int32) (Wk.ob (pSc cc.toInt) (8 : Int32) (Wk.ob (pHx cc.toInt) (4 : Int32) (Wk.ob (pDi cc.toInt) (2 : Int32) (Wk.ob (pAl cc.toInt) (1 : Int32) (0 : Int32))))))))))] []) (fun J77 => ?_) ?_
  · skip
    refine Wk.iload X0 hx (hb hby d1_421) rfl rfl ?_
    refine Wk.if_eqB X0 hx 434 426 (hb hby d1_423) rfl rfl (fun h78 => ?_) (fun h78 => ?_)
    · skip
      rw [Wk.ob_f (P := pQu cc.toInt) ‹_›] at J77; exact J77
    · skip
      refine Wk.iload X0 hx (hb hby d1_426) rfl rfl ?_
      refine Wk.sipush X0 hx (128 : Int32) (hb hby d1_428) rfl rfl ?_
      refine Wk.ior X0 hx (hb hby d1_431) rfl ?_
      refine Wk.istore (l' := #[.val (.int cc), .val (.int (Wk.b (pAl cc.toInt))), .val (.int (Wk.b (pDi cc.toInt))), .val (.int (Wk.b (pHx cc.toInt))), .val (.int (Wk.b (pSc cc.toInt))), .val (.int (Wk.b (pUn cc.toInt))), .val (.int (Wk.b (pSu cc.toInt))), .val (.int (Wk.b (pRe cc.toInt))), .val (.int (Wk.b (pUs cc.toInt))), .val (.int (Wk.b (pPc cc.toInt))), .val (.int (Wk.b (pQu cc.toInt))), .val (.int (Wk.b (pPa cc.toInt))), .val (.int (Wk.b (pSe cc.toInt))), .val (.int ((Wk.ob (pPc cc.toInt) (64 : Int32) (Wk.ob (pUs cc.toInt) (32 : Int32) (Wk.ob (pRe cc.toInt) (16 : Int32) (Wk.ob (pSc cc.toInt) (8 : Int32) (Wk.ob (pHx cc.toInt) (4 : Int32) (Wk.ob (pDi cc.toInt) (2 : Int32) (Wk.ob (pAl cc.toInt) (1 : Int32) (0 : Int32)))))))) ||| (128 : Int32)))]) X0 hx (hb hby d1_432) rfl rfl ?_
      rw [Wk.ob_t (P := pQu cc.toInt) ‹_›] at J77; exact J77
  skip
  refine Wk.cutF (mkF m 447 #[.val (.int cc), .val (.int (Wk.b (pAl cc.toInt))), .val (.int (Wk.b (pDi cc.toInt))), .val (.int (Wk.b (pHx cc.toInt))), .val (.int (Wk.b (pSc cc.toInt))), .val (.int (Wk.b (pUn cc.toInt))), .val (.int (Wk.b (pSu cc.toInt))), .val (.int (Wk.b (pRe cc.toInt))), .val (.int (Wk.b (pUs cc.toInt))), .val (.int (Wk.b (pPc cc.toInt))), .val (.int (Wk.b (pQu cc.toInt))), .val (.int (Wk.b (pPa cc.toInt))), .val (.int (Wk.b (pSe cc.toInt))), .val (.int (Wk.ob (pPa cc.toInt) (256 : Int32) (Wk.ob (pQu cc.toInt) (128 : Int32) (Wk.ob (pPc cc.toInt) (64 : Int32) (Wk.ob (pUs cc.toInt) (32 : Int32) (Wk.ob (pRe cc.toInt) (16 : Int32) (Wk.ob (pSc cc.toInt) (8 : Int32) (Wk.ob (pHx cc.toInt) (4 : Int32) (Wk.ob (pDi cc.toInt) (2 : Int32) (Wk.ob (pAl cc.toInt) (1 : Int32) (0 : Int32)))))))))))] []) (fun J79 => ?_) ?_
  · skip
    refine Wk.iload X0 hx (hb hby d1_434) rfl rfl ?_
    refine Wk.if_eqB X0 hx 447 439 (hb hby d1_436) rfl rfl (fun h80 => ?_) (fun h80 => ?_)
    · skip
      rw [Wk.ob_f (P := pPa cc.toInt) ‹_›] at J79; exact J79
    · skip
      refine Wk.iload X0 hx (hb hby d1_439) rfl rfl ?_
      refine Wk.sipush X0 hx (256 : Int32) (hb hby d1_441) rfl rfl ?_
      refine Wk.ior X0 hx (hb hby d1_444) rfl ?_
      refine Wk.istore (l' := #[.val (.int cc), .val (.int (Wk.b (pAl cc.toInt))), .val (.int (Wk.b (pDi cc.toInt))), .val (.int (Wk.b (pHx cc.toInt))), .val (.int (Wk.b (pSc cc.toInt))), .val (.int (Wk.b (pUn cc.toInt))), .val (.int (Wk.b (pSu cc.toInt))), .val (.int (Wk.b (pRe cc.toInt))), .val (.int (Wk.b (pUs cc.toInt))), .val (.int (Wk.b (pPc cc.toInt))), .val (.int (Wk.b (pQu cc.toInt))), .val (.int (Wk.b (pPa cc.toInt))), .val (.int (Wk.b (pSe cc.toInt))), .val (.int ((Wk.ob (pQu cc.toInt) (128 : Int32) (Wk.ob (pPc cc.toInt) (64 : Int32) (Wk.ob (pUs cc.toInt) (32 : Int32) (Wk.ob (pRe cc.toInt) (16 : Int32) (Wk.ob (pSc cc.toInt) (8 : Int32) (Wk.ob (pHx cc.toInt) (4 : Int32) (Wk.ob (pDi cc.toInt) (2 : Int32) (Wk.ob (pAl cc.toInt) (1 : Int32) (0 : Int32))))))))) ||| (256 : Int32)))]) X0 hx (hb hby d1_445) rfl rfl ?_
      rw [Wk.ob_t (P := pPa cc.toInt) ‹_›] at J79; exact J79
  skip
  refine Wk.cutF (mkF m 460 #[.val (.int cc), .val (.int (Wk.b (pAl cc.toInt))), .val (.int (Wk.b (pDi cc.toInt))), .val (.int (Wk.b (pHx cc.toInt))), .val (.int (Wk.b (pSc cc.toInt))), .val (.int (Wk.b (pUn cc.toInt))), .val (.int (Wk.b (pSu cc.toInt))), .val (.int (Wk.b (pRe cc.toInt))), .val (.int (Wk.b (pUs cc.toInt))), .val (.int (Wk.b (pPc cc.toInt))), .val (.int (Wk.b (pQu cc.toInt))), .val (.int (Wk.b (pPa cc.toInt))), .val (.int (Wk.b (pSe cc.toInt))), .val (.int (Wk.ob (pSe cc.toInt) (512 : Int32) (Wk.ob (pPa cc.toInt) (256 : Int32) (Wk.ob (pQu cc.toInt) (128 : Int32) (Wk.ob (pPc cc.toInt) (64 : Int32) (Wk.ob (pUs cc.toInt) (32 : Int32) (Wk.ob (pRe cc.toInt) (16 : Int32) (Wk.ob (pSc cc.toInt) (8 : Int32) (Wk.ob (pHx cc.toInt) (4 : Int32) (Wk.ob (pDi cc.toInt) (2 : Int32) (Wk.ob (pAl cc.toInt) (1 : Int32) (0 : Int32))))))))))))] []) (fun J81 => ?_) ?_
  · skip
    refine Wk.iload X0 hx (hb hby d1_447) rfl rfl ?_
    refine Wk.if_eqB X0 hx 460 452 (hb hby d1_449) rfl rfl (fun h82 => ?_) (fun h82 => ?_)
    · skip
      rw [Wk.ob_f (P := pSe cc.toInt) ‹_›] at J81; exact J81
    · skip
      refine Wk.iload X0 hx (hb hby d1_452) rfl rfl ?_
      refine Wk.sipush X0 hx (512 : Int32) (hb hby d1_454) rfl rfl ?_
      refine Wk.ior X0 hx (hb hby d1_457) rfl ?_
      refine Wk.istore (l' := #[.val (.int cc), .val (.int (Wk.b (pAl cc.toInt))), .val (.int (Wk.b (pDi cc.toInt))), .val (.int (Wk.b (pHx cc.toInt))), .val (.int (Wk.b (pSc cc.toInt))), .val (.int (Wk.b (pUn cc.toInt))), .val (.int (Wk.b (pSu cc.toInt))), .val (.int (Wk.b (pRe cc.toInt))), .val (.int (Wk.b (pUs cc.toInt))), .val (.int (Wk.b (pPc cc.toInt))), .val (.int (Wk.b (pQu cc.toInt))), .val (.int (Wk.b (pPa cc.toInt))), .val (.int (Wk.b (pSe cc.toInt))), .val (.int ((Wk.ob (pPa cc.toInt) (256 : Int32) (Wk.ob (pQu cc.toInt) (128 : Int32) (Wk.ob (pPc cc.toInt) (64 : Int32) (Wk.ob (pUs cc.toInt) (32 : Int32) (Wk.ob (pRe cc.toInt) (16 : Int32) (Wk.ob (pSc cc.toInt) (8 : Int32) (Wk.ob (pHx cc.toInt) (4 : Int32) (Wk.ob (pDi cc.toInt) (2 : Int32) (Wk.ob (pAl cc.toInt) (1 : Int32) (0 : Int32)))))))))) ||| (512 : Int32)))]) X0 hx (hb hby d1_458) rfl rfl ?_
      rw [Wk.ob_t (P := pSe cc.toInt) ‹_›] at J81; exact J81
  skip
  refine Wk.iload X0 hx (hb hby d1_460) rfl rfl ?_
  exact Wk.retI X0 hx hlk hret (hb hby d1_462) (Nat.zero_le _) (Nat.zero_le _) (Wk.puE rfl e0)
set_option maxRecDepth 65536 in
set_option maxHeartbeats 40000000 in
theorem isB (l : Launch) (Z : State) (a0 : Array Value) (hw : ∀ d ∈ tables_1, d.before a0 Z = true) (r : Addr) (kc : ClassId) (cc k : Int32) (hc : 128 ≤ cc.toInt) (h0 : Heap) (S : Sta Z h0 "com/example/kuri/kuri/CharClass" "CLASSES" "[I" (.ref r)) (A : Arv Z h0 r kc .int 128 (tab.map .int) (.int 0)) : Wk.Met l Z (⟨"com/example/kuri/kuri/CharClass", "is", "(CI)Z"⟩ : MethodName) prog_2_method_3_code 2 (some .boolean) [] { frames := 0, cells := 0, slots := 0, locals := 0 } #[(.int cc), (.int k)] h0 (Wk.Pu (.int (Wk.b (¬ (maskV cc.toInt &&& k).toInt = 0))) h0) := by
  refine Wk.start pn2 ?_
  intro p e s m below meth c s₁ X0 hx hby hml hown0 hnm hret hlk hZ e0
  have hown : s.vm.findClass "com/example/kuri/kuri/CharClass" = some m.cls := hown0
  refine Wk.enter (g' := (mkF m 0 #[.val (.int cc), .val (.int k)] [])) (by first | rfl | (simp [entryFrame, mkF, argsToLocals, Value.category, maxLocals]; done)) ?_
  refine Wk.iloadN X0 hx (hb hby d2_0) rfl rfl ?_
  refine Wk.getS (host := "") X0 hx hZ hown (Or.inl (hw _ (List.mem_of_getElem? (i := 8) rfl))) e0 S (hb hby d2_1) rfl (fun T1 X1 e1 => ?_)
  refine Wk.alen X1 hx hZ e1 A (hb hby d2_4) rfl ?_
  refine Wk.icmp_ge X1 hx 22 8 (hb hby d2_5) rfl rfl (show (cc : Int32).toInt = (cc).toInt from rfl) (show ((128 : Int32) : Int32).toInt = 128 from (by decide)) (fun h2 => ?_) (fun h2 => absurd h2 (by omega))
  refine Wk.iconst X1 hx (0 : Int32) (hb hby d2_22) rfl rfl ?_
  exact Wk.retZ X1 hx hlk hret (hb hby d2_23) (by decide) (Nat.zero_le _) (Nat.zero_le _) (Wk.puB0 (by rw [maskBig _ hc]; simp) e1)
set_option maxRecDepth 65536 in
set_option maxHeartbeats 40000000 in
theorem isS (l : Launch) (Z : State) (a0 : Array Value) (hw : ∀ d ∈ tables_1, d.before a0 Z = true) (r : Addr) (kc : ClassId) (cc k : Int32) (hc0 : 0 ≤ cc.toInt) (hc : cc.toInt < 128) (hv : (tab.map Value.int).getD cc.toNatClampNeg (.int 0) = .int (maskV cc.toInt)) (h0 : Heap) (S : Sta Z h0 "com/example/kuri/kuri/CharClass" "CLASSES" "[I" (.ref r)) (A : Arv Z h0 r kc .int 128 (tab.map .int) (.int 0)) : Wk.Met l Z (⟨"com/example/kuri/kuri/CharClass", "is", "(CI)Z"⟩ : MethodName) prog_2_method_3_code 2 (some .boolean) [] { frames := 0, cells := 0, slots := 0, locals := 0 } #[(.int cc), (.int k)] h0 (Wk.Pu (.int (Wk.b (¬ (maskV cc.toInt &&& k).toInt = 0))) h0) := by
  refine Wk.start pn2 ?_
  intro p e s m below meth c s₁ X0 hx hby hml hown0 hnm hret hlk hZ e0
  have hown : s.vm.findClass "com/example/kuri/kuri/CharClass" = some m.cls := hown0
  refine Wk.enter (g' := (mkF m 0 #[.val (.int cc), .val (.int k)] [])) (by first | rfl | (simp [entryFrame, mkF, argsToLocals, Value.category, maxLocals]; done)) ?_
  refine Wk.iloadN X0 hx (hb hby d2_0) rfl rfl ?_
  refine Wk.getS (host := "") X0 hx hZ hown (Or.inl (hw _ (List.mem_of_getElem? (i := 8) rfl))) e0 S (hb hby d2_1) rfl (fun T1 X1 e1 => ?_)
  refine Wk.alen X1 hx hZ e1 A (hb hby d2_4) rfl ?_
  refine Wk.icmp_ge X1 hx 22 8 (hb hby d2_5) rfl rfl (show (cc : Int32).toInt = (cc).toInt from rfl) (show ((128 : Int32) : Int32).toInt = 128 from (by decide)) (fun h2 => absurd h2 (by omega)) (fun h2 => ?_)
  refine Wk.getS (host := "") X1 hx hZ hown (Or.inl (hw _ (List.mem_of_getElem? (i := 8) rfl))) e1 S (hb hby d2_8) rfl (fun T3 X3 e3 => ?_)
  refine Wk.iloadN X3 hx (hb hby d2_11) rfl rfl ?_
  refine Wk.iaload X3 hx hZ e3 A hc0 (show cc.toInt < (128 : Int32).toInt from hc) hv (hb hby d2_12) rfl ?_
  refine Wk.iloadN X3 hx (hb hby d2_13) rfl rfl ?_
  refine Wk.iand X3 hx (hb hby d2_14) rfl ?_
  refine Wk.if_eq X3 hx 22 18 (hb hby d2_15) rfl rfl (show ((maskV cc.toInt) &&& k : Int32).toInt = ((maskV cc.toInt) &&& k).toInt from rfl) (fun h4 => ?_) (fun h4 => ?_)
  · skip
    refine Wk.iconst X3 hx (0 : Int32) (hb hby d2_22) rfl rfl ?_
    exact Wk.retZ X3 hx hlk hret (hb hby d2_23) (by decide) (Nat.zero_le _) (Nat.zero_le _) (Wk.puB0 (by first | assumption | exact fun q => absurd ‹_› q | exact fun q => q ‹_›) e3)
  · skip
    refine Wk.iconst X3 hx (1 : Int32) (hb hby d2_18) rfl rfl ?_
    refine Wk.goto X3 hx 23 (hb hby d2_19) rfl ?_
    exact Wk.retZ X3 hx hlk hret (hb hby d2_23) (by decide) (Nat.zero_le _) (Nat.zero_le _) (Wk.puB1 (by first | assumption | exact fun q => absurd ‹_› q | exact fun q => q ‹_›) e3)
set_option maxRecDepth 65536 in
set_option maxHeartbeats 40000000 in
theorem tabV (cc : Int32) (h0 : 0 ≤ cc.toInt) (h : cc.toInt < 128) : (tab.map Value.int).getD cc.toNatClampNeg (.int 0) = .int (maskV cc.toInt) := by
  have e : cc.toNatClampNeg = cc.toInt.toNat := rfl
  have hl : tab.length = 128 := by decide
  have q := tabOk cc.toInt.toNat (by omega)
  rw [show ((cc.toInt.toNat : Nat) : Int) = cc.toInt by omega] at q
  rw [e, ← q]
  have hlt : cc.toInt.toNat < tab.length := by omega
  simp [List.getD, hlt]
set_option maxRecDepth 65536 in
set_option maxHeartbeats 40000000 in
theorem rmL (l : Launch) (Z : State) (a0 : Array Value) (hw : ∀ d ∈ tables_1, d.before a0 Z = true) (i0 i1 i2 : Int32) (r : Addr) (kc : ClassId) (h0 : Heap) (S : Sta Z h0 "com/example/kuri/kuri/CharClass" "CLASSES" "[I" (.ref r)) (A : Arv Z h0 r kc .int 128 (tab.map .int) (.int 0)) : Wk.Met l Z x code maxLocals ret tables_1 room_1 #[(.int i0), (.int i1), (.int i2)] h0 (Wk.Pu (.int 1) h0) := by
  refine Wk.start pnL ?_
  intro p e s m below meth c s₁ X0 hx hby hml hown0 hnm hret hlk hZ e0
  have hown : s.vm.findClass "com/example/kuri/kuri/CharClassIsPinLaw" = some m.cls := hown0
  refine Wk.enter (g' := (mkF m 0 #[.val (.int i0), .val (.int i1), .val (.int i2), .unset, .unset] [])) (by first | rfl | (simp [entryFrame, mkF, argsToLocals, Value.category, maxLocals]; done)) ?_
  refine Wk.iloadN X0 hx (hb hby at_0) rfl rfl ?_
  refine Wk.iconst X0 hx (1 : Int32) (hb hby at_1) rfl rfl ?_
  refine Wk.iand X0 hx (hb hby at_2) rfl ?_
  refine Wk.if_eq X0 hx 14 6 (hb hby at_3) rfl rfl (show (i2 &&& (1 : Int32) : Int32).toInt = (i2 &&& (1 : Int32)).toInt from rfl) (fun h1 => ?_) (fun h1 => ?_)
  · skip
    refine Wk.iloadN X0 hx (hb hby at_14) rfl rfl ?_
    refine Wk.i2c X0 hx (hb hby at_15) rfl ?_
    refine Wk.istoreN (l' := #[.val (.int i0), .val (.int i1), .val (.int i2), .val (.int i0.toUInt32.toUInt16.toUInt32.toInt32), .unset]) X0 hx (hb hby at_16) rfl rfl ?_
    obtain ⟨-, hc0, hc1⟩ := c_i2c i0
    generalize hcc : i0.toUInt32.toUInt16.toUInt32.toInt32 = cc at hc0 hc1 ⊢
    clear hcc
    have Mi : Wk.Met l Z (⟨"com/example/kuri/kuri/CharClass", "is", "(CI)Z"⟩ : MethodName) prog_2_method_3_code 2 (some .boolean) [] { frames := 0, cells := 0, slots := 0, locals := 0 } #[(.int cc), (.int i1)] h0 (Wk.Pu (.int (Wk.b (¬ (maskV cc.toInt &&& i1).toInt = 0))) h0) := by
      by_cases q : 128 ≤ cc.toInt
      · exact isB l Z a0 hw r kc cc i1 q h0 S A
      · exact isS l Z a0 hw r kc cc i1 hc0 (by omega) (tabV cc hc0 (by omega)) h0 S A
    refine Wk.iloadN X0 hx (hb hby at_17) rfl rfl ?_
    refine Wk.callP (W := 0) X0 hx hZ (argsL := [(.int cc)]) (rest := []) hown (hw _ (List.mem_of_getElem? (i := 0) rfl)) (hw _ (List.mem_of_getElem? (i := 1) rfl)) (hw _ (List.mem_of_getElem? (i := 2) rfl)) (hw _ (List.mem_of_getElem? (i := 3) rfl)) (by decide) (mmask l Z a0 hw cc h0) e0 (by decide) (by decide) (by decide) (by decide) (by rw [hml]; rfl) (lenOf pd1 rfl) rfl (Nat.le_of_eq rfl) (hb hby at_18) rfl (fun T2 X2 e2 => ?_)
    refine Wk.cutF (mkF m 31 #[.val (.int i0), .val (.int i1), .val (.int i2), .val (.int cc), .unset] [(.int (Wk.b (¬ (maskV cc.toInt &&& i1).toInt = 0)))]) (fun J3 => ?_) ?_
    · skip
      refine Wk.iloadN X2 hx (hb hby at_21) rfl rfl ?_
      refine Wk.iand X2 hx (hb hby at_22) rfl ?_
      refine Wk.if_eq X2 hx 30 26 (hb hby at_23) rfl rfl (show ((maskV cc.toInt) &&& i1 : Int32).toInt = ((maskV cc.toInt) &&& i1).toInt from rfl) (fun h4 => ?_) (fun h4 => ?_)
      · skip
        refine Wk.iconst X2 hx (0 : Int32) (hb hby at_30) rfl rfl ?_
        exact Wk.goB0 J3 (by first | assumption | exact not_not_intro (by assumption))
      · skip
        refine Wk.iconst X2 hx (1 : Int32) (hb hby at_26) rfl rfl ?_
        refine Wk.goto X2 hx 31 (hb hby at_27) rfl ?_
        exact Wk.goB1 J3 (by first | assumption | exact not_not_intro (by assumption))
    skip
    refine Wk.istore (l' := #[.val (.int i0), .val (.int i1), .val (.int i2), .val (.int cc), .val (.int (Wk.b (¬ (maskV cc.toInt &&& i1).toInt = 0)))]) X2 hx (hb hby at_31) rfl rfl ?_
    refine Wk.iloadN X2 hx (hb hby at_33) rfl rfl ?_
    refine Wk.iloadN X2 hx (hb hby at_34) rfl rfl ?_
    refine Wk.callP (W := 0) X2 hx hZ (argsL := [(.int cc), (.int i1)]) (rest := []) hown (hw _ (List.mem_of_getElem? (i := 4) rfl)) (hw _ (List.mem_of_getElem? (i := 5) rfl)) (hw _ (List.mem_of_getElem? (i := 6) rfl)) (hw _ (List.mem_of_getElem? (i := 7) rfl)) (by decide) (Mi) e2 (by decide) (by decide) (by decide) (by decide) (by rw [hml]; rfl) (lenOf pd2 rfl) rfl (Nat.le_of_eq rfl) (hb hby at_35) rfl (fun T5 X5 e5 => ?_)
    refine Wk.iload X5 hx (hb hby at_38) rfl rfl ?_
    refine Wk.icmp_neB X5 hx 47 43 (hb hby at_40) rfl rfl (fun h6 => absurd h6 (by simp)) (fun h6 => ?_)
    refine Wk.iconst X5 hx (1 : Int32) (hb hby at_43) rfl rfl ?_
    refine Wk.goto X5 hx 48 (hb hby at_44) rfl ?_
    exact Wk.retZ X5 hx hlk hret (hb hby at_48) (by decide) (Nat.zero_le _) (Nat.zero_le _) (Wk.pu e5)
  · skip
    refine Wk.iloadN X0 hx (hb hby at_6) rfl rfl ?_
    refine Wk.bipush X0 hx (127 : Int32) (hb hby at_7) rfl rfl ?_
    refine Wk.iand X0 hx (hb hby at_9) rfl ?_
    refine Wk.i2c X0 hx (hb hby at_10) rfl ?_
    refine Wk.goto X0 hx 16 (hb hby at_11) rfl ?_
    refine Wk.istoreN (l' := #[.val (.int i0), .val (.int i1), .val (.int i2), .val (.int ((i0 &&& (127 : Int32)).toUInt32.toUInt16.toUInt32.toInt32)), .unset]) X0 hx (hb hby at_16) rfl rfl ?_
    obtain ⟨-, hc0, hc1⟩ := c_i2c (i0 &&& (127 : Int32))
    generalize hcc : (i0 &&& (127 : Int32)).toUInt32.toUInt16.toUInt32.toInt32 = cc at hc0 hc1 ⊢
    clear hcc
    have Mi : Wk.Met l Z (⟨"com/example/kuri/kuri/CharClass", "is", "(CI)Z"⟩ : MethodName) prog_2_method_3_code 2 (some .boolean) [] { frames := 0, cells := 0, slots := 0, locals := 0 } #[(.int cc), (.int i1)] h0 (Wk.Pu (.int (Wk.b (¬ (maskV cc.toInt &&& i1).toInt = 0))) h0) := by
      by_cases q : 128 ≤ cc.toInt
      · exact isB l Z a0 hw r kc cc i1 q h0 S A
      · exact isS l Z a0 hw r kc cc i1 hc0 (by omega) (tabV cc hc0 (by omega)) h0 S A
    refine Wk.iloadN X0 hx (hb hby at_17) rfl rfl ?_
    refine Wk.callP (W := 0) X0 hx hZ (argsL := [(.int cc)]) (rest := []) hown (hw _ (List.mem_of_getElem? (i := 0) rfl)) (hw _ (List.mem_of_getElem? (i := 1) rfl)) (hw _ (List.mem_of_getElem? (i := 2) rfl)) (hw _ (List.mem_of_getElem? (i := 3) rfl)) (by decide) (mmask l Z a0 hw cc h0) e0 (by decide) (by decide) (by decide) (by decide) (by rw [hml]; rfl) (lenOf pd1 rfl) rfl (Nat.le_of_eq rfl) (hb hby at_18) rfl (fun T7 X7 e7 => ?_)
    refine Wk.cutF (mkF m 31 #[.val (.int i0), .val (.int i1), .val (.int i2), .val (.int cc), .unset] [(.int (Wk.b (¬ (maskV cc.toInt &&& i1).toInt = 0)))]) (fun J8 => ?_) ?_
    · skip
      refine Wk.iloadN X7 hx (hb hby at_21) rfl rfl ?_
      refine Wk.iand X7 hx (hb hby at_22) rfl ?_
      refine Wk.if_eq X7 hx 30 26 (hb hby at_23) rfl rfl (show ((maskV cc.toInt) &&& i1 : Int32).toInt = ((maskV cc.toInt) &&& i1).toInt from rfl) (fun h9 => ?_) (fun h9 => ?_)
      · skip
        refine Wk.iconst X7 hx (0 : Int32) (hb hby at_30) rfl rfl ?_
        exact Wk.goB0 J8 (by first | assumption | exact not_not_intro (by assumption))
      · skip
        refine Wk.iconst X7 hx (1 : Int32) (hb hby at_26) rfl rfl ?_
        refine Wk.goto X7 hx 31 (hb hby at_27) rfl ?_
        exact Wk.goB1 J8 (by first | assumption | exact not_not_intro (by assumption))
    skip
    refine Wk.istore (l' := #[.val (.int i0), .val (.int i1), .val (.int i2), .val (.int cc), .val (.int (Wk.b (¬ (maskV cc.toInt &&& i1).toInt = 0)))]) X7 hx (hb hby at_31) rfl rfl ?_
    refine Wk.iloadN X7 hx (hb hby at_33) rfl rfl ?_
    refine Wk.iloadN X7 hx (hb hby at_34) rfl rfl ?_
    refine Wk.callP (W := 0) X7 hx hZ (argsL := [(.int cc), (.int i1)]) (rest := []) hown (hw _ (List.mem_of_getElem? (i := 4) rfl)) (hw _ (List.mem_of_getElem? (i := 5) rfl)) (hw _ (List.mem_of_getElem? (i := 6) rfl)) (hw _ (List.mem_of_getElem? (i := 7) rfl)) (by decide) (Mi) e7 (by decide) (by decide) (by decide) (by decide) (by rw [hml]; rfl) (lenOf pd2 rfl) rfl (Nat.le_of_eq rfl) (hb hby at_35) rfl (fun T10 X10 e10 => ?_)
    refine Wk.iload X10 hx (hb hby at_38) rfl rfl ?_
    refine Wk.icmp_neB X10 hx 47 43 (hb hby at_40) rfl rfl (fun h11 => absurd h11 (by simp)) (fun h11 => ?_)
    refine Wk.iconst X10 hx (1 : Int32) (hb hby at_43) rfl rfl ?_
    refine Wk.goto X10 hx 48 (hb hby at_44) rfl ?_
    exact Wk.retZ X10 hx hlk hret (hb hby at_48) (by decide) (Nat.zero_le _) (Nat.zero_le _) (Wk.pu e10)
theorem elX {args : Array Value} {first s : State} {o : Option Outcome} {t : Term} {x : Addr} {k : Int32} {cl : Cell} {i : Nat} (h : (Jvm.Cond.eq (.elem t (.index 0)) (.int k)).value args first o s [i] = some true) (ht : t.eval args first o [i] s = some (.ref x)) (hc : s.heap[x]? = some cl) (hi : i.toInt32.toNatClampNeg = i) : cl.slots[i]? = some (.int k) := by
  have q := (elem_in (j := i.toInt32) (Wk.eqI_v h) ht rfl hc).2
  rw [hi] at q; exact q
set_option maxRecDepth 65536 in
set_option maxHeartbeats 40000000 in
theorem comes_1 {Post : Tables → Env → Array Value → State → Outcome → State → Prop} (hpost : ∀ tb e args s v u, (limb_1_1.after args s (.returned v) u = true ∧ limb_1_2.after args s (.returned v) u = true ∧ True) → FrameEnd s (.returned v) u (Jvm.fieldLocs frame_1_writes args s ++ Jvm.arrayLocs frame_1_arrays args s ++ Jvm.staticLocs frame_1_statics s) 0 0 → Post tb e args s (.returned v) u) :
    ArmFor flags0 classFile x code maxLocals ret World_1 tables_1 room_1 Calls_1 rest_1 Pre_1 Post := by
  intro l hfl _ _ p e ha hc hk s m args below hf hA hF happ hP
  obtain ⟨hcalls, hrest, hpre⟩ := hP
  obtain ⟨-, -, -, hnamed, -, -, -, hat⟩ := (Spec.applies_iff hf).mp happ
  obtain ⟨hg, hn⟩ := and_e (Cond.before_iff.mp (show (Jvm.Cond.and given_1 narrow_1).before args s = true from hpre))
  obtain ⟨hg0, hg⟩ := and_e hg
  obtain ⟨w0, w1, w2, rfl⟩ : ∃ w0 w1 w2 : Value, args = #[w0, w1, w2] := by
    have hs : args.size = 3 := by simpa [Cond.value, given_1] using hg0
    obtain ⟨L⟩ := args
    match L, hs with
    | [w0, w1, w2], _ => exact ⟨w0, w1, w2, rfl⟩
  have hw := fun d (hd : d ∈ tables_1) => atoms_spec (ws := Jvm.Cond.code x code maxLocals ret :: tables_1) hat d (List.mem_cons_of_mem _ hd)
  have hfit : Fit s := fun {y c} hc i hi => by
    obtain ⟨ha, rfl⟩ := Array.getElem?_eq_some_iff.mp hc
    have q := List.all_eq_true.mp ((Array.all_eq_true_iff_forall_mem.mp hF) _ (Array.getElem_mem ha)) i (List.mem_range.mpr hi)
    simpa [Array.getElem?_eq_getElem hi] using q
  obtain ⟨hg1, hg⟩ := and_e hg
  obtain ⟨i0, ei0⟩ := is_v hg1
  obtain rfl : w0 = (.int i0) := Option.some.inj ei0
  obtain ⟨hg2, hg⟩ := and_e hg
  obtain ⟨i1, ei1⟩ := is_v hg2
  obtain rfl : w1 = (.int i1) := Option.some.inj ei1
  have hg3 := hg
  obtain ⟨i2, ei2⟩ := is_v hg3
  obtain rfl : w2 = (.int i2) := Option.some.inj ei2
  obtain ⟨q0, hn⟩ := and_e hn
  obtain ⟨q1, hn⟩ := and_e hn
  obtain ⟨q2, hn⟩ := and_e hn
  obtain ⟨q3, hn⟩ := and_e hn
  obtain ⟨q4, hn⟩ := and_e hn
  obtain ⟨q5, hn⟩ := and_e hn
  obtain ⟨q6, hn⟩ := and_e hn
  obtain ⟨q7, hn⟩ := and_e hn
  obtain ⟨q8, hn⟩ := and_e hn
  obtain ⟨q9, hn⟩ := and_e hn
  obtain ⟨q10, hn⟩ := and_e hn
  obtain ⟨q11, hn⟩ := and_e hn
  obtain ⟨q12, hn⟩ := and_e hn
  obtain ⟨q13, hn⟩ := and_e hn
  obtain ⟨q14, hn⟩ := and_e hn
  obtain ⟨q15, hn⟩ := and_e hn
  obtain ⟨q16, hn⟩ := and_e hn
  obtain ⟨q17, hn⟩ := and_e hn
  obtain ⟨q18, hn⟩ := and_e hn
  obtain ⟨q19, hn⟩ := and_e hn
  obtain ⟨q20, hn⟩ := and_e hn
  obtain ⟨q21, hn⟩ := and_e hn
  obtain ⟨q22, hn⟩ := and_e hn
  obtain ⟨q23, hn⟩ := and_e hn
  obtain ⟨q24, hn⟩ := and_e hn
  obtain ⟨q25, hn⟩ := and_e hn
  obtain ⟨q26, hn⟩ := and_e hn
  obtain ⟨q27, hn⟩ := and_e hn
  obtain ⟨q28, hn⟩ := and_e hn
  obtain ⟨q29, hn⟩ := and_e hn
  obtain ⟨q30, hn⟩ := and_e hn
  obtain ⟨q31, hn⟩ := and_e hn
  obtain ⟨q32, hn⟩ := and_e hn
  have q33 := hn
  obtain ⟨r, vr⟩ := arr_v q0
  obtain ⟨cl, Ar⟩ := Arr.start vr q0
  obtain ⟨hz1, hz2⟩ := Wk.len_fit q1 vr Ar
  have hat : s.arrayAt? r = some cl := Ar.fin (Vm.Alike.refl _)
  have hsz : cl.slots.size = 128 := by
    have h1 : (cl.slots.size.toInt32).toInt = (cl.slots.size : Int) := Int32.toInt_ofNat_small (by omega)
    rw [hz2] at h1
    have h2 : (128 : Int32).toInt = 128 := by decide
    omega
  have A : Arv s s.heap r cl.cls .int 128 (tab.map .int) (.int 0) := Arv.start hfit Ar hz1 hz2 (by decide) (by decide) ⟨elX (Wk.or_f (Wk.all_v q2 vr hat 0 (by omega)) rfl) vr Ar.1 (by decide), elX (Wk.or_f (Wk.all_v q2 vr hat 1 (by omega)) rfl) vr Ar.1 (by decide), elX (Wk.or_f (Wk.all_v q2 vr hat 2 (by omega)) rfl) vr Ar.1 (by decide), elX (Wk.or_f (Wk.all_v q2 vr hat 3 (by omega)) rfl) vr Ar.1 (by decide), elX (Wk.or_f (Wk.all_v q2 vr hat 4 (by omega)) rfl) vr Ar.1 (by decide), elX (Wk.or_f (Wk.all_v q2 vr hat 5 (by omega)) rfl) vr Ar.1 (by decide), elX (Wk.or_f (Wk.all_v q2 vr hat 6 (by omega)) rfl) vr Ar.1 (by decide), elX (Wk.or_f (Wk.all_v q2 vr hat 7 (by omega)) rfl) vr Ar.1 (by decide), elX (Wk.or_f (Wk.all_v q2 vr hat 8 (by omega)) rfl) vr Ar.1 (by decide), elX (Wk.or_f (Wk.all_v q2 vr hat 9 (by omega)) rfl) vr Ar.1 (by decide), elX (Wk.or_f (Wk.all_v q2 vr hat 10 (by omega)) rfl) vr Ar.1 (by decide), elX (Wk.or_f (Wk.all_v q2 vr hat 11 (by omega)) rfl) vr Ar.1 (by decide), elX (Wk.or_f (Wk.all_v q2 vr hat 12 (by omega)) rfl) vr Ar.1 (by decide), elX (Wk.or_f (Wk.all_v q2 vr hat 13 (by omega)) rfl) vr Ar.1 (by decide), elX (Wk.or_f (Wk.all_v q2 vr hat 14 (by omega)) rfl) vr Ar.1 (by decide), elX (Wk.or_f (Wk.all_v q2 vr hat 15 (by omega)) rfl) vr Ar.1 (by decide), elX (Wk.or_f (Wk.all_v q2 vr hat 16 (by omega)) rfl) vr Ar.1 (by decide), elX (Wk.or_f (Wk.all_v q2 vr hat 17 (by omega)) rfl) vr Ar.1 (by decide), elX (Wk.or_f (Wk.all_v q2 vr hat 18 (by omega)) rfl) vr Ar.1 (by decide), elX (Wk.or_f (Wk.all_v q2 vr hat 19 (by omega)) rfl) vr Ar.1 (by decide), elX (Wk.or_f (Wk.all_v q2 vr hat 20 (by omega)) rfl) vr Ar.1 (by decide), elX (Wk.or_f (Wk.all_v q2 vr hat 21 (by omega)) rfl) vr Ar.1 (by decide), elX (Wk.or_f (Wk.all_v q2 vr hat 22 (by omega)) rfl) vr Ar.1 (by decide), elX (Wk.or_f (Wk.all_v q2 vr hat 23 (by omega)) rfl) vr Ar.1 (by decide), elX (Wk.or_f (Wk.all_v q2 vr hat 24 (by omega)) rfl) vr Ar.1 (by decide), elX (Wk.or_f (Wk.all_v q2 vr hat 25 (by omega)) rfl) vr Ar.1 (by decide), elX (Wk.or_f (Wk.all_v q2 vr hat 26 (by omega)) rfl) vr Ar.1 (by decide), elX (Wk.or_f (Wk.all_v q2 vr hat 27 (by omega)) rfl) vr Ar.1 (by decide), elX (Wk.or_f (Wk.all_v q2 vr hat 28 (by omega)) rfl) vr Ar.1 (by decide), elX (Wk.or_f (Wk.all_v q2 vr hat 29 (by omega)) rfl) vr Ar.1 (by decide), elX (Wk.or_f (Wk.all_v q2 vr hat 30 (by omega)) rfl) vr Ar.1 (by decide), elX (Wk.or_f (Wk.all_v q2 vr hat 31 (by omega)) rfl) vr Ar.1 (by decide), elX (Wk.or_f (Wk.all_v q2 vr hat 32 (by omega)) rfl) vr Ar.1 (by decide), Wk.elI q3 vr Ar.1 (by decide), Wk.elI q4 vr Ar.1 (by decide), Wk.elI q5 vr Ar.1 (by decide), Wk.elI q6 vr Ar.1 (by decide), Wk.elI q7 vr Ar.1 (by decide), elX (Wk.or_f (Wk.or_f (Wk.all_v q8 vr hat 38 (by omega)) rfl) rfl) vr Ar.1 (by decide), elX (Wk.or_f (Wk.or_f (Wk.all_v q8 vr hat 39 (by omega)) rfl) rfl) vr Ar.1 (by decide), elX (Wk.or_f (Wk.or_f (Wk.all_v q8 vr hat 40 (by omega)) rfl) rfl) vr Ar.1 (by decide), elX (Wk.or_f (Wk.or_f (Wk.all_v q8 vr hat 41 (by omega)) rfl) rfl) vr Ar.1 (by decide), elX (Wk.or_f (Wk.or_f (Wk.all_v q8 vr hat 42 (by omega)) rfl) rfl) vr Ar.1 (by decide), Wk.elI q9 vr Ar.1 (by decide), Wk.elI q10 vr Ar.1 (by decide), Wk.elI q11 vr Ar.1 (by decide), Wk.elI q12 vr Ar.1 (by decide), Wk.elI q13 vr Ar.1 (by decide), elX (Wk.or_f (Wk.or_f (Wk.all_v q14 vr hat 48 (by omega)) rfl) rfl) vr Ar.1 (by decide), elX (Wk.or_f (Wk.or_f (Wk.all_v q14 vr hat 49 (by omega)) rfl) rfl) vr Ar.1 (by decide), elX (Wk.or_f (Wk.or_f (Wk.all_v q14 vr hat 50 (by omega)) rfl) rfl) vr Ar.1 (by decide), elX (Wk.or_f (Wk.or_f (Wk.all_v q14 vr hat 51 (by omega)) rfl) rfl) vr Ar.1 (by decide), elX (Wk.or_f (Wk.or_f (Wk.all_v q14 vr hat 52 (by omega)) rfl) rfl) vr Ar.1 (by decide), elX (Wk.or_f (Wk.or_f (Wk.all_v q14 vr hat 53 (by omega)) rfl) rfl) vr Ar.1 (by decide), elX (Wk.or_f (Wk.or_f (Wk.all_v q14 vr hat 54 (by omega)) rfl) rfl) vr Ar.1 (by decide), elX (Wk.or_f (Wk.or_f (Wk.all_v q14 vr hat 55 (by omega)) rfl) rfl) vr Ar.1 (by decide), elX (Wk.or_f (Wk.or_f (Wk.all_v q14 vr hat 56 (by omega)) rfl) rfl) vr Ar.1 (by decide), elX (Wk.or_f (Wk.or_f (Wk.all_v q14 vr hat 57 (by omega)) rfl) rfl) vr Ar.1 (by decide), Wk.elI q15 vr Ar.1 (by decide), Wk.elI q16 vr Ar.1 (by decide), Wk.elI q17 vr Ar.1 (by decide), Wk.elI q18 vr Ar.1 (by decide), Wk.elI q19 vr Ar.1 (by decide), Wk.elI q20 vr Ar.1 (by decide), Wk.elI q21 vr Ar.1 (by decide), elX (Wk.or_f (Wk.or_f (Wk.all_v q22 vr hat 65 (by omega)) rfl) rfl) vr Ar.1 (by decide), elX (Wk.or_f (Wk.or_f (Wk.all_v q22 vr hat 66 (by omega)) rfl) rfl) vr Ar.1 (by decide), elX (Wk.or_f (Wk.or_f (Wk.all_v q22 vr hat 67 (by omega)) rfl) rfl) vr Ar.1 (by decide), elX (Wk.or_f (Wk.or_f (Wk.all_v q22 vr hat 68 (by omega)) rfl) rfl) vr Ar.1 (by decide), elX (Wk.or_f (Wk.or_f (Wk.all_v q22 vr hat 69 (by omega)) rfl) rfl) vr Ar.1 (by decide), elX (Wk.or_f (Wk.or_f (Wk.all_v q22 vr hat 70 (by omega)) rfl) rfl) vr Ar.1 (by decide), elX (Wk.or_f (Wk.or_f (Wk.all_v q23 vr hat 71 (by omega)) rfl) rfl) vr Ar.1 (by decide), elX (Wk.or_f (Wk.or_f (Wk.all_v q23 vr hat 72 (by omega)) rfl) rfl) vr Ar.1 (by decide), elX (Wk.or_f (Wk.or_f (Wk.all_v q23 vr hat 73 (by omega)) rfl) rfl) vr Ar.1 (by decide), elX (Wk.or_f (Wk.or_f (Wk.all_v q23 vr hat 74 (by omega)) rfl) rfl) vr Ar.1 (by decide), elX (Wk.or_f (Wk.or_f (Wk.all_v q23 vr hat 75 (by omega)) rfl) rfl) vr Ar.1 (by decide), elX (Wk.or_f (Wk.or_f (Wk.all_v q23 vr hat 76 (by omega)) rfl) rfl) vr Ar.1 (by decide), elX (Wk.or_f (Wk.or_f (Wk.all_v q23 vr hat 77 (by omega)) rfl) rfl) vr Ar.1 (by decide), elX (Wk.or_f (Wk.or_f (Wk.all_v q23 vr hat 78 (by omega)) rfl) rfl) vr Ar.1 (by decide), elX (Wk.or_f (Wk.or_f (Wk.all_v q23 vr hat 79 (by omega)) rfl) rfl) vr Ar.1 (by decide), elX (Wk.or_f (Wk.or_f (Wk.all_v q23 vr hat 80 (by omega)) rfl) rfl) vr Ar.1 (by decide), elX (Wk.or_f (Wk.or_f (Wk.all_v q23 vr hat 81 (by omega)) rfl) rfl) vr Ar.1 (by decide), elX (Wk.or_f (Wk.or_f (Wk.all_v q23 vr hat 82 (by omega)) rfl) rfl) vr Ar.1 (by decide), elX (Wk.or_f (Wk.or_f (Wk.all_v q23 vr hat 83 (by omega)) rfl) rfl) vr Ar.1 (by decide), elX (Wk.or_f (Wk.or_f (Wk.all_v q23 vr hat 84 (by omega)) rfl) rfl) vr Ar.1 (by decide), elX (Wk.or_f (Wk.or_f (Wk.all_v q23 vr hat 85 (by omega)) rfl) rfl) vr Ar.1 (by decide), elX (Wk.or_f (Wk.or_f (Wk.all_v q23 vr hat 86 (by omega)) rfl) rfl) vr Ar.1 (by decide), elX (Wk.or_f (Wk.or_f (Wk.all_v q23 vr hat 87 (by omega)) rfl) rfl) vr Ar.1 (by decide), elX (Wk.or_f (Wk.or_f (Wk.all_v q23 vr hat 88 (by omega)) rfl) rfl) vr Ar.1 (by decide), elX (Wk.or_f (Wk.or_f (Wk.all_v q23 vr hat 89 (by omega)) rfl) rfl) vr Ar.1 (by decide), elX (Wk.or_f (Wk.or_f (Wk.all_v q23 vr hat 90 (by omega)) rfl) rfl) vr Ar.1 (by decide), elX (Wk.or_f (Wk.or_f (Wk.all_v q24 vr hat 91 (by omega)) rfl) rfl) vr Ar.1 (by decide), elX (Wk.or_f (Wk.or_f (Wk.all_v q24 vr hat 92 (by omega)) rfl) rfl) vr Ar.1 (by decide), elX (Wk.or_f (Wk.or_f (Wk.all_v q24 vr hat 93 (by omega)) rfl) rfl) vr Ar.1 (by decide), elX (Wk.or_f (Wk.or_f (Wk.all_v q24 vr hat 94 (by omega)) rfl) rfl) vr Ar.1 (by decide), Wk.elI q25 vr Ar.1 (by decide), Wk.elI q26 vr Ar.1 (by decide), elX (Wk.or_f (Wk.or_f (Wk.all_v q27 vr hat 97 (by omega)) rfl) rfl) vr Ar.1 (by decide), elX (Wk.or_f (Wk.or_f (Wk.all_v q27 vr hat 98 (by omega)) rfl) rfl) vr Ar.1 (by decide), elX (Wk.or_f (Wk.or_f (Wk.all_v q27 vr hat 99 (by omega)) rfl) rfl) vr Ar.1 (by decide), elX (Wk.or_f (Wk.or_f (Wk.all_v q27 vr hat 100 (by omega)) rfl) rfl) vr Ar.1 (by decide), elX (Wk.or_f (Wk.or_f (Wk.all_v q27 vr hat 101 (by omega)) rfl) rfl) vr Ar.1 (by decide), elX (Wk.or_f (Wk.or_f (Wk.all_v q27 vr hat 102 (by omega)) rfl) rfl) vr Ar.1 (by decide), elX (Wk.or_f (Wk.or_f (Wk.all_v q28 vr hat 103 (by omega)) rfl) rfl) vr Ar.1 (by decide), elX (Wk.or_f (Wk.or_f (Wk.all_v q28 vr hat 104 (by omega)) rfl) rfl) vr Ar.1 (by decide), elX (Wk.or_f (Wk.or_f (Wk.all_v q28 vr hat 105 (by omega)) rfl) rfl) vr Ar.1 (by decide), elX (Wk.or_f (Wk.or_f (Wk.all_v q28 vr hat 106 (by omega)) rfl) rfl) vr Ar.1 (by decide), elX (Wk.or_f (Wk.or_f (Wk.all_v q28 vr hat 107 (by omega)) rfl) rfl) vr Ar.1 (by decide), elX (Wk.or_f (Wk.or_f (Wk.all_v q28 vr hat 108 (by omega)) rfl) rfl) vr Ar.1 (by decide), elX (Wk.or_f (Wk.or_f (Wk.all_v q28 vr hat 109 (by omega)) rfl) rfl) vr Ar.1 (by decide), elX (Wk.or_f (Wk.or_f (Wk.all_v q28 vr hat 110 (by omega)) rfl) rfl) vr Ar.1 (by decide), elX (Wk.or_f (Wk.or_f (Wk.all_v q28 vr hat 111 (by omega)) rfl) rfl) vr Ar.1 (by decide), elX (Wk.or_f (Wk.or_f (Wk.all_v q28 vr hat 112 (by omega)) rfl) rfl) vr Ar.1 (by decide), elX (Wk.or_f (Wk.or_f (Wk.all_v q28 vr hat 113 (by omega)) rfl) rfl) vr Ar.1 (by decide), elX (Wk.or_f (Wk.or_f (Wk.all_v q28 vr hat 114 (by omega)) rfl) rfl) vr Ar.1 (by decide), elX (Wk.or_f (Wk.or_f (Wk.all_v q28 vr hat 115 (by omega)) rfl) rfl) vr Ar.1 (by decide), elX (Wk.or_f (Wk.or_f (Wk.all_v q28 vr hat 116 (by omega)) rfl) rfl) vr Ar.1 (by decide), elX (Wk.or_f (Wk.or_f (Wk.all_v q28 vr hat 117 (by omega)) rfl) rfl) vr Ar.1 (by decide), elX (Wk.or_f (Wk.or_f (Wk.all_v q28 vr hat 118 (by omega)) rfl) rfl) vr Ar.1 (by decide), elX (Wk.or_f (Wk.or_f (Wk.all_v q28 vr hat 119 (by omega)) rfl) rfl) vr Ar.1 (by decide), elX (Wk.or_f (Wk.or_f (Wk.all_v q28 vr hat 120 (by omega)) rfl) rfl) vr Ar.1 (by decide), elX (Wk.or_f (Wk.or_f (Wk.all_v q28 vr hat 121 (by omega)) rfl) rfl) vr Ar.1 (by decide), elX (Wk.or_f (Wk.or_f (Wk.all_v q28 vr hat 122 (by omega)) rfl) rfl) vr Ar.1 (by decide), Wk.elI q29 vr Ar.1 (by decide), Wk.elI q30 vr Ar.1 (by decide), Wk.elI q31 vr Ar.1 (by decide), Wk.elI q32 vr Ar.1 (by decide), Wk.elI q33 vr Ar.1 (by decide), trivial⟩
  have S : Sta s s.heap "com/example/kuri/kuri/CharClass" "CLASSES" "[I" (.ref r) := Sta.start vr (Or.inr ⟨(hw _ (List.mem_of_getElem? (i := 6) rfl)), (hw _ (List.mem_of_getElem? (i := 9) rfl))⟩)
  have H := rmL l s _ hw i0 i1 i2 r _ s.heap S A
  obtain ⟨n, o, h1, h2, h3, _, L, rfl, ⟨rfl, rfl, -⟩, hq⟩ := H p e ha hc hk s m _ below hf ((Spec.applies_iff_loose hf).mp happ).1 ⟨rfl, State.Warmed39.refl s, rfl⟩ trivial
  refine ⟨n, _, h1, h2, h3, hpost _ _ _ _ _ _ ⟨Cond.after_iff.mpr rfl, Cond.after_iff.mpr (eq_i res_at (Term.int_eval (1)) rfl), trivial⟩ ⟨hq.1, hq.2.1, (hq.2.2.sift fun y hy => nomatch hy).mono (by decide) (by decide)⟩⟩
theorem main_1_1 : Claimed_1_1 := comes_1 fun _ _ _ _ _ _ h hF => ⟨h.1, hF⟩
theorem main_1_2 : Claimed_1_2 := comes_1 fun _ _ _ _ _ _ h hF => ⟨h.2.1, hF⟩
end Jvm.Pilot.@@N@@
namespace Jvm.Pilot.@@N@@
open Jvm Jvm.ClassFile Sem Op Lib Jvm.Free Jvm.Stand Jvm.Pilot.@@N@@.Jvm.D
/-! MADE BY PROGRAM (witnessworld.py) out of the Statement's table words and the real class files: 9 classes; the members and pool entries that the words name. The judged class is class 1, her method 1. -/
namespace start1
open Jvm.ClassFile
def u (s : String) : CpInfo := .utf8 (stringToUtf16 s)
/-- a pool by its gaps: so many unusable entries, then the entry; so many at the end -/
def gap : Nat → List CpInfo → List CpInfo
  | 0, r => r
  | n + 1, r => .unusable :: gap n r
def poolList (es : List (Nat × CpInfo)) (last : Nat) : List CpInfo := es.foldr (fun e r => gap e.1 (e.2 :: r)) (gap last [])
def pool (es : List (Nat × CpInfo)) (last : Nat) : Array CpInfo := ⟨poolList es last⟩
def fileOf (pool : Array CpInfo) (this : Nat) (attrs : Array Attribute := #[]) (ms : Array MethodInfo := #[]) (fl : Nat := 33) (sup : Nat := 0) (ifs : Array Nat := #[]) (fds : Array FieldInfo := #[]) : ClassFile where
  minorVersion := 0
  majorVersion := 65
  constantPool := pool
  accessFlags := fl
  thisClass := this
  superClass := sup
  interfaces := ifs
  fields := fds
  methods := ms
  attributes := attrs
def plain (name : String) (sup : Option ClassId) : Class where
  name := name
  kind := .ordinary
  loader := none
  accessFlags := 33
  super := sup
  interfaces := #[]
  cf := none
  fields := #[]
  methods := #[]
  instanceTypes := #[]
  staticTypes := #[]
  resolved := #[]
  callSites := []
  init := .initialized
  statics := none
  mirror := none

def pool0 : Array CpInfo := pool [(5, u "<init>"), (0, u "()V"), (1, .class_ 10), (1, u "java/lang/Object")] 113

def k0m0 : Method := { name := "<init>", desc := "()V", sig := { parameters := [], returnType := none }, accessFlags := 1, code := none }
/-- java/lang/Object -/
def k0 : Class := { plain "java/lang/Object" none with
  accessFlags := 33
  interfaces := #[]
  cf := some (fileOf pool0 8 #[] #[{ accessFlags := 1, nameIndex := 5, descriptorIndex := 6, attributes := #[] }] 33 0 #[] #[])
  fields := #[]
  methods := #[k0m0]
  instanceTypes := #[]
  staticTypes := #[]
  resolved := Array.replicate 124 none
  statics := none }

def pool1 : Array CpInfo := pool [(2, .class_ 4), (1, u "java/lang/Object"), (0, u "<init>"), (0, u "()V"), (0, .methodref 8 9), (0, .class_ 10), (0, .nameAndType 11 12), (0, u "com/example/kuri/kuri/CharClassIsPinLaw"), (0, u "mask"), (0, u "(C)I"), (0, .methodref 14 15), (0, .class_ 16), (0, .nameAndType 17 18), (0, u "com/example/kuri/kuri/CharClass"), (0, u "is"), (0, u "(CI)Z"), (2, u "law"), (0, u "(III)Z")] 3

def k1m0 : Method := { name := "<init>", desc := "()V", sig := { parameters := [], returnType := none }, accessFlags := 2, code := none }
def k1c1 : Code := { maxStack := 2, maxLocals := 5, code := code, exceptionTable := #[], attributes := #[] }
def k1m1 : Method := { name := "law", desc := "(III)Z", sig := { parameters := [.int, .int, .int], returnType := some .boolean }, accessFlags := 9, code := some k1c1 }
def k1c2 : Code := { maxStack := 2, maxLocals := 14, code := method_3_code, exceptionTable := #[], attributes := #[] }
def k1m2 : Method := { name := "mask", desc := "(C)I", sig := { parameters := [.char], returnType := some .int }, accessFlags := 10, code := some k1c2 }
/-- com/example/kuri/kuri/CharClassIsPinLaw -/
def k1 : Class := { plain "com/example/kuri/kuri/CharClassIsPinLaw" (some 0) with
  accessFlags := 49
  interfaces := #[]
  cf := some (fileOf pool1 8 #[] #[{ accessFlags := 2, nameIndex := 5, descriptorIndex := 6, attributes := #[] }, { accessFlags := 9, nameIndex := 21, descriptorIndex := 22, attributes := #[] }, { accessFlags := 10, nameIndex := 11, descriptorIndex := 12, attributes := #[] }] 49 2 #[] #[])
  fields := #[]
  methods := #[k1m0, k1m1, k1m2]
  instanceTypes := #[]
  staticTypes := #[]
  resolved := Array.replicate 26 none
  statics := none }

def pool2 : Array CpInfo := pool [(1, .class_ 2), (0, u "com/example/kuri/kuri/CharClass"), (1, .class_ 6), (1, u "java/lang/Object"), (0, u "<init>"), (0, u "()V"), (6, .fieldref 1 16), (0, .nameAndType 17 18), (0, u "CLASSES"), (0, u "[I"), (28, u "ALPHA"), (0, u "I"), (2, u "DIGIT"), (1, u "HEXDIG"), (1, u "SCHEME"), (1, u "REG_NAME"), (1, u "USERINFO"), (1, u "PCHAR"), (1, u "QUERY"), (1, u "PATH"), (1, u "SEGMENT_NC"), (1, u "UNRESERVED_OR_SUB_DELIM"), (4, u "is"), (0, u "(CI)Z")] 3

def k2m0 : Method := { name := "<init>", desc := "()V", sig := { parameters := [], returnType := none }, accessFlags := 2, code := none }
def k2c1 : Code := { maxStack := 2, maxLocals := 2, code := prog_2_method_3_code, exceptionTable := #[], attributes := #[] }
def k2m1 : Method := { name := "is", desc := "(CI)Z", sig := { parameters := [.char, .int], returnType := some .boolean }, accessFlags := 8, code := some k2c1 }
/-- com/example/kuri/kuri/CharClass -/
def k2 : Class := { plain "com/example/kuri/kuri/CharClass" (some 0) with
  accessFlags := 32
  interfaces := #[]
  cf := some (fileOf pool2 1 #[] #[{ accessFlags := 2, nameIndex := 7, descriptorIndex := 8, attributes := #[] }, { accessFlags := 8, nameIndex := 74, descriptorIndex := 75, attributes := #[] }] 32 4 #[] #[{ accessFlags := 24, nameIndex := 47, descriptorIndex := 48, attributes := #[] }, { accessFlags := 24, nameIndex := 51, descriptorIndex := 48, attributes := #[] }, { accessFlags := 24, nameIndex := 53, descriptorIndex := 48, attributes := #[] }, { accessFlags := 24, nameIndex := 55, descriptorIndex := 48, attributes := #[] }, { accessFlags := 24, nameIndex := 57, descriptorIndex := 48, attributes := #[] }, { accessFlags := 24, nameIndex := 59, descriptorIndex := 48, attributes := #[] }, { accessFlags := 24, nameIndex := 61, descriptorIndex := 48, attributes := #[] }, { accessFlags := 24, nameIndex := 63, descriptorIndex := 48, attributes := #[] }, { accessFlags := 24, nameIndex := 65, descriptorIndex := 48, attributes := #[] }, { accessFlags := 24, nameIndex := 67, descriptorIndex := 48, attributes := #[] }, { accessFlags := 26, nameIndex := 69, descriptorIndex := 48, attributes := #[] }, { accessFlags := 26, nameIndex := 17, descriptorIndex := 18, attributes := #[] }])
  fields := #[{ name := "ALPHA", type := .int, accessFlags := 24, slot := 0, constantValue := 0 }, { name := "DIGIT", type := .int, accessFlags := 24, slot := 1, constantValue := 0 }, { name := "HEXDIG", type := .int, accessFlags := 24, slot := 2, constantValue := 0 }, { name := "SCHEME", type := .int, accessFlags := 24, slot := 3, constantValue := 0 }, { name := "REG_NAME", type := .int, accessFlags := 24, slot := 4, constantValue := 0 }, { name := "USERINFO", type := .int, accessFlags := 24, slot := 5, constantValue := 0 }, { name := "PCHAR", type := .int, accessFlags := 24, slot := 6, constantValue := 0 }, { name := "QUERY", type := .int, accessFlags := 24, slot := 7, constantValue := 0 }, { name := "PATH", type := .int, accessFlags := 24, slot := 8, constantValue := 0 }, { name := "SEGMENT_NC", type := .int, accessFlags := 24, slot := 9, constantValue := 0 }, { name := "UNRESERVED_OR_SUB_DELIM", type := .int, accessFlags := 26, slot := 10, constantValue := 0 }, { name := "CLASSES", type := (.array .int), accessFlags := 26, slot := 11, constantValue := 0 }]
  methods := #[k2m0, k2m1]
  instanceTypes := #[]
  staticTypes := #[.int, .int, .int, .int, .int, .int, .int, .int, .int, .int, .int, (.array .int)]
  resolved := Array.replicate 79 none
  statics := some 0 }

def pool3 : Array CpInfo := pool [(1, u "java/lang/Cloneable"), (0, .class_ 1), (0, u "java/lang/Object"), (0, .class_ 3)] 3

/-- java/lang/Cloneable -/
def k3 : Class := { plain "java/lang/Cloneable" (some 0) with
  accessFlags := 1537
  interfaces := #[]
  cf := some (fileOf pool3 2 #[] #[] 1537 4 #[] #[])
  fields := #[]
  methods := #[]
  instanceTypes := #[]
  staticTypes := #[]
  resolved := Array.replicate 8 none
  statics := none }

def pool4 : Array CpInfo := pool [(1, u "java/io/Serializable"), (0, .class_ 1), (0, u "java/lang/Object"), (0, .class_ 3)] 3

/-- java/io/Serializable -/
def k4 : Class := { plain "java/io/Serializable" (some 0) with
  accessFlags := 1537
  interfaces := #[]
  cf := some (fileOf pool4 2 #[] #[] 1537 4 #[] #[])
  fields := #[]
  methods := #[]
  instanceTypes := #[]
  staticTypes := #[]
  resolved := Array.replicate 8 none
  statics := none }

/-- the primitive byte -/
def k5 : Class := { plain "byte" none with kind := .primitive 'B', accessFlags := 0x411 }
/-- [B -/
def k6 : Class := { plain "[B" (some 0) with kind := .array 5 .byte, interfaces := #[3, 4], accessFlags := 1041 }

/-- the primitive int -/
def k7 : Class := { plain "int" none with kind := .primitive 'I', accessFlags := 0x411 }
/-- [I -/
def k8 : Class := { plain "[I" (some 0) with kind := .array 7 .int, interfaces := #[3, 4], accessFlags := 1041 }

def heap : Heap := #[{ cls := 2, slots := #[.int 0, .int 0, .int 0, .int 0, .int 0, .int 0, .int 0, .int 0, .int 0, .int 0, .int 0, .ref 1], vm := .statics 2 },
  { cls := 8, slots := #[.int 0, .int 0, .int 0, .int 0, .int 0, .int 0, .int 0, .int 0, .int 0, .int 0, .int 0, .int 0, .int 0, .int 0, .int 0, .int 0, .int 0, .int 0, .int 0, .int 0, .int 0, .int 0, .int 0, .int 0, .int 0, .int 0, .int 0, .int 0, .int 0, .int 0, .int 0, .int 0, .int 0, .int 1008, .int 0, .int 0, .int 1008, .int 0, .int 1008, .int 1008, .int 1008, .int 1008, .int 1008, .int 1016, .int 1008, .int 1016, .int 1016, .int 384, .int 1022, .int 1022, .int 1022, .int 1022, .int 1022, .int 1022, .int 1022, .int 1022, .int 1022, .int 1022, .int 480, .int 1008, .int 0, .int 1008, .int 0, .int 128, .int 960, .int 1021, .int 1021, .int 1021, .int 1021, .int 1021, .int 1021, .int 1017, .int 1017, .int 1017, .int 1017, .int 1017, .int 1017, .int 1017, .int 1017, .int 1017, .int 1017, .int 1017, .int 1017, .int 1017, .int 1017, .int 1017, .int 1017, .int 1017, .int 1017, .int 1017, .int 1017, .int 0, .int 0, .int 0, .int 0, .int 1008, .int 0, .int 1021, .int 1021, .int 1021, .int 1021, .int 1021, .int 1021, .int 1017, .int 1017, .int 1017, .int 1017, .int 1017, .int 1017, .int 1017, .int 1017, .int 1017, .int 1017, .int 1017, .int 1017, .int 1017, .int 1017, .int 1017, .int 1017, .int 1017, .int 1017, .int 1017, .int 1017, .int 0, .int 0, .int 0, .int 1008, .int 0], vm := .none }]
def classes : Array Class := #[k0, k1, k2, k3, k4, k5, k6, k7, k8]
def interned : List (Array UInt16 × Addr) := []
def slotsUsed : Nat := 140
def theMethod : MethodId := ⟨1, 1⟩
def args0 : Array Value := #[.int 5, .int 1, .int 1]
def aboutOver (below : List Frame) : State where
  vm := { classes := classes, interned := interned.toArray }
  heap := heap
  slotsUsed := slotsUsed
  threads := #[{ frames := .invoking theMethod args0 :: below }]
def below0 : List Frame := [.native { method := ⟨0, 0⟩, args := #[] }]
def about1 : State := aboutOver below0
def p0 : Program := .bare "" "" ""
def e0 : Env := launch0.env 0 0 0
theorem w_frames : about1.frames = Frame.invoking theMethod args0 :: below0 := rfl
set_option maxRecDepth 65536 in
theorem w_args : argsFit about1.vm theMethod args0 = true := by decide +kernel
set_option maxRecDepth 65536 in
theorem w_heap : heapFits about1 = true := by decide +kernel
set_option maxRecDepth 65536 in
theorem w_runnable : about1.curStatus? = some .runnable := by decide +kernel
set_option maxRecDepth 65536 in
theorem w_alone : about1.alone = true := by decide +kernel
set_option maxRecDepth 65536 in
theorem w_named : about1.methodNamed? x = some theMethod := by decide +kernel
set_option maxRecDepth 65536 in
theorem w_hears : about1.hears theMethod below0 = true := by decide +kernel
set_option maxRecDepth 65536 in
theorem w_ripe : about1.ripe theMethod args0 below0 = true := by decide +kernel
theorem w_running : about1.status = .running := rfl
set_option maxRecDepth 65536 in
theorem w_room : about1.hasRoom e0.platform room_1 = true :=
  launch0.hasRoom_least _ room_1 (by decide +kernel) (by decide +kernel) (by decide +kernel) (by decide +kernel) (by decide +kernel) (by decide +kernel)
theorem allAtoms_all (ts : List Jvm.Cond) (a : Array Jvm.Value) (st : Jvm.State) : (allAtoms ts).before a st = ts.all (fun c => c.before a st) := by
  induction ts with
  | nil => rfl
  | cons c t ih =>
    show (Jvm.Cond.and c (allAtoms t)).before a st = _
    rw [Jvm.Cond.before_and, ih, List.all_cons]
def words1 : List Jvm.Cond := Jvm.Cond.code x code maxLocals ret :: tables_1
/-- a 'code' word, met by the world's own term for the bytes: nothing is compared byte by byte -/
theorem code_word {y : MethodName} {bytes : ByteArray} {mx : Nat} {rt : Option FieldType} {a : Array Value} {s : State} {m : MethodId} {meth : Method} {c : Code} (h1 : s.methodNamed? y = some m) (h2 : s.vm.method? m = some meth) (h3 : meth.code = some c) (h4 : c.code = bytes)
    (h5 : (c.maxLocals == mx && c.exceptionTable.isEmpty && decide (c.maxStack ≤ mostOperands) && decide (meth.sig.returnType = rt) && !meth.locks && decide (parseMethodDescriptor y.desc = some meth.sig)) = true) : (Jvm.Cond.code y bytes mx rt).before a s = true := by
  simp only [Bool.and_eq_true, beq_iff_eq, Bool.not_eq_true', decide_eq_true_eq] at h5
  obtain ⟨⟨⟨⟨⟨g1, g2⟩, g3⟩, g4⟩, g5⟩, g6⟩ := h5
  simp [Cond.before, Cond.holds, Cond.value, h1, h2, h3, h4, g1, g2, g3, g4, g5, g6]
def isCode : Jvm.Cond → Bool
  | .code _ _ _ _ => true
  | _ => false
theorem all_split {L : List Jvm.Cond} {P : Jvm.Cond → Bool} (h1 : L.all (fun c => isCode c || P c) = true) (h2 : ∀ c ∈ L.filter isCode, P c = true) : L.all P = true := by
  refine List.all_eq_true.mpr fun c hc => ?_
  have h := List.all_eq_true.mp h1 c hc
  rcases Bool.eq_false_or_eq_true (isCode c) with hi | hi
  · exact h2 c (List.mem_filter.mpr ⟨hc, hi⟩)
  · simpa [hi] using h
set_option maxRecDepth 65536 in
theorem w_c0 : (Jvm.Cond.code x code maxLocals ret).before args0 about1 = true := code_word (m := ⟨1, 1⟩) (meth := k1m1) (c := k1c1) (by decide +kernel) rfl rfl rfl (by decide +kernel)
set_option maxRecDepth 65536 in
theorem w_c1 : (Jvm.Cond.code ({ cls := "com/example/kuri/kuri/CharClassIsPinLaw", name := "mask", desc := "(C)I" } : Jvm.MethodName) method_3_code (14 : Nat) (Option.some Jvm.ClassFile.FieldType.int)).before args0 about1 = true := code_word (m := ⟨1, 2⟩) (meth := k1m2) (c := k1c2) (by decide +kernel) rfl rfl rfl (by decide +kernel)
set_option maxRecDepth 65536 in
theorem w_c2 : (Jvm.Cond.code ({ cls := "com/example/kuri/kuri/CharClass", name := "is", desc := "(CI)Z" } : Jvm.MethodName) prog_2_method_3_code (2 : Nat) (Option.some Jvm.ClassFile.FieldType.boolean)).before args0 about1 = true := code_word (m := ⟨2, 1⟩) (meth := k2m1) (c := k2c1) (by decide +kernel) rfl rfl rfl (by decide +kernel)
def codes1 : List Jvm.Cond := [Jvm.Cond.code x code maxLocals ret, Jvm.Cond.code ({ cls := "com/example/kuri/kuri/CharClassIsPinLaw", name := "mask", desc := "(C)I" } : Jvm.MethodName) method_3_code (14 : Nat) (Option.some Jvm.ClassFile.FieldType.int), Jvm.Cond.code ({ cls := "com/example/kuri/kuri/CharClass", name := "is", desc := "(CI)Z" } : Jvm.MethodName) prog_2_method_3_code (2 : Nat) (Option.some Jvm.ClassFile.FieldType.boolean)]
set_option maxRecDepth 65536 in
theorem codes_eq : words1.filter isCode = codes1 := rfl
theorem w_codes : ∀ c ∈ words1.filter isCode, c.before args0 about1 = true := by
  rw [codes_eq]
  intro c hc
  simp only [codes1, List.mem_cons, List.not_mem_nil, or_false] at hc
  rcases hc with rfl | rfl | rfl
  · exact w_c0
  · exact w_c1
  · exact w_c2
set_option maxRecDepth 65536 in
theorem w_t1 : words1.all (fun c => isCode c || c.before args0 about1) = true := by decide +kernel
theorem w_tables : (allAtoms (Jvm.Cond.code x code maxLocals ret :: tables_1)).before args0 about1 = true := by
  rw [allAtoms_all]
  show words1.all (fun c => c.before args0 about1) = true
  refine all_split ?_ w_codes
  rw [w_t1]
set_option maxRecDepth 65536 in
theorem w_case : (Jvm.Cond.and given_1 narrow_1).before args0 about1 = true := by decide +kernel
theorem w_applies : (headSpec (Jvm.Cond.code x code maxLocals ret :: tables_1) room_1).applies x e0.platform about1 = true :=
  (Spec.applies_iff w_frames).mpr ⟨w_running, w_runnable, w_alone, w_named, w_hears, w_ripe, w_room, w_tables⟩
theorem atStart : AtStart classFile x code maxLocals ret World_1 tables_1 room_1 Calls_1 rest_1 Pre_1 launch0 p0 e0 about1 theMethod args0 below0 :=
  ⟨lists_1, trivial, launch0.admits_env _ _ _, launch0.least_env, fairChoices_fair.cas, fairChoices_fair.clock, w_frames, w_args, w_heap, w_applies, trivial, trivial, w_case⟩
end start1
theorem witness_1 : WitnessClaimed_1 := ⟨start1.p0, start1.e0, start1.about1, start1.theMethod, start1.args0, start1.below0, start1.atStart⟩
end Jvm.Pilot.@@N@@
