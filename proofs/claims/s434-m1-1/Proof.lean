import JvmDerived
import JvmDerived.Pilot.@@N@@Statement
import JvmDerived.Pilot.@@N@@Code
set_option linter.unusedVariables false
set_option linter.unusedSimpArgs false
namespace Jvm.Wk
open Sem ClassFile Op Lib Jvm.Stand Jvm.Free Jvm.LawKit Jvm.RoadKit
section W
variable {p : Program} {l : Launch} {e : Env} {R : Room} {s : State} {m : MethodId} {args : Array Value} {below : List Frame} {meth : Method} {c : Code} {T T' : State} {locs : List Loc} {cells slots : Nat} {Q : Option Value → Heap → List Loc → Prop} {K N pc n t : Nat} {Ls l' : Array Slot} {st rest : List Value} {Z : State} {a0 : Array Value} {h : Heap}
/-- the walk stands at the frame g over T and comes to an end that Q allows -/
def Go (p : Program) (e : Env) (below : List Frame) (s : State) (Q : Option Value → Heap → List Loc → Prop) (K N : Nat) (T : State) (g : JFrame) : Prop :=
  ∃ s₂ o, Steps p.tables e below (T.setTop g) s₂ ∧ s₂.status = .running ∧ Ended s₂ below o ∧ ∃ v L, o = .returned v ∧ Q v s₂.heap L ∧ FrameEnd s o s₂ L K N
theorem cut {A B : Prop} (h1 : A → B) (h2 : A) : B := h1 h2
theorem go {g g' : JFrame} (h : ∀ target, Steps p.tables e below (T'.setTop g') target → Steps p.tables e below (T.setTop g) target) (F : Go p e below s Q K N T' g') : Go p e below s Q K N T g := by
  obtain ⟨s₂, o, h1, r⟩ := F
  exact ⟨s₂, o, h _ h1, r⟩
/-- a boolean as an int -/
def b (P : Prop) [Decidable P] : Int32 := if P then 1 else 0
theorem b_t {P : Prop} [Decidable P] (h : P) : b P = 1 := if_pos h
theorem b_f {P : Prop} [Decidable P] (h : ¬ P) : b P = 0 := if_neg h
theorem b_iff {P P' : Prop} [Decidable P] [Decidable P'] (h : P ↔ P') : b P = b P' := by
  by_cases q : P
  · rw [b_t q, b_t (h.mp q)]
  · rw [b_f q, b_f (fun z => q (h.mpr z))]
theorem b_inj {P P' : Prop} [Decidable P] [Decidable P'] (h : b P = b P') : P ↔ P' := by
  by_cases q : P <;> by_cases q' : P' <;> simp_all [b]
/-- a mask with one more bit, or as it is -/
def ob (P : Prop) [Decidable P] (k x : Int32) : Int32 := if P then x ||| k else x
theorem ob_t {P : Prop} [Decidable P] {k x : Int32} (h : P) : ob P k x = x ||| k := if_pos h
theorem ob_f {P : Prop} [Decidable P] {k x : Int32} (h : ¬ P) : ob P k x = x := if_neg h
theorem goB1 {P : Prop} [Decidable P] (H : Go p e below s Q K N T (mkF m pc Ls (.int (b P) :: st))) (hP : P) : Go p e below s Q K N T (mkF m pc Ls (.int 1 :: st)) := by rw [b_t hP] at H; exact H
theorem goB0 {P : Prop} [Decidable P] (H : Go p e below s Q K N T (mkF m pc Ls (.int (b P) :: st))) (hP : ¬ P) : Go p e below s Q K N T (mkF m pc Ls (.int 0 :: st)) := by rw [b_f hP] at H; exact H

theorem iloadN (X : Stand p l e R s m args below meth c T locs cells slots) (hx : p.tables.exec = Jvm.exec) {k : Fin 4} {v : Int32} (hd : decode c.code pc = .ok (.iload_n k, 1)) (hl : Ls[k.val]? = some (.val (.int v))) (hn : pc + 1 = n) (F : Go p e below s Q K N T (mkF m n Ls (.int v :: st))) : Go p e below s Q K N T (mkF m pc Ls st) := by
  subst hn
  exact go (fun _ h => XS.iloadN X.here hx rfl hd hl h) F
theorem iload (X : Stand p l e R s m args below meth c T locs cells slots) (hx : p.tables.exec = Jvm.exec) {k : Nat} {v : Int32} (hd : decode c.code pc = .ok (.iload k, 2)) (hl : Ls[k]? = some (.val (.int v))) (hn : pc + 2 = n) (F : Go p e below s Q K N T (mkF m n Ls (.int v :: st))) : Go p e below s Q K N T (mkF m pc Ls st) := by
  subst hn
  exact go (fun _ h => XS.iload X.here hx rfl hd hl h) F
theorem aloadN (X : Stand p l e R s m args below meth c T locs cells slots) (hx : p.tables.exec = Jvm.exec) {k : Fin 4} {v : Value} (hd : decode c.code pc = .ok (.aload_n k, 1)) (hl : Ls[k.val]? = some (.val v)) (hv : v.isRef = true) (hn : pc + 1 = n) (F : Go p e below s Q K N T (mkF m n Ls (v :: st))) : Go p e below s Q K N T (mkF m pc Ls st) := by
  subst hn
  exact go (fun _ h => XS.aloadN X.here hx rfl hd hl hv h) F
theorem aload (X : Stand p l e R s m args below meth c T locs cells slots) (hx : p.tables.exec = Jvm.exec) {k : Nat} {v : Value} (hd : decode c.code pc = .ok (.aload k, 2)) (hl : Ls[k]? = some (.val v)) (hv : v.isRef = true) (hn : pc + 2 = n) (F : Go p e below s Q K N T (mkF m n Ls (v :: st))) : Go p e below s Q K N T (mkF m pc Ls st) := by
  subst hn
  exact go (fun _ h => XS.aload X.here hx rfl hd hl hv h) F
theorem lloadN (X : Stand p l e R s m args below meth c T locs cells slots) (hx : p.tables.exec = Jvm.exec) {k : Fin 4} {v : Int64} (hd : decode c.code pc = .ok (.lload_n k, 1)) (hl : Ls[k.val]? = some (.val (.long v))) (hn : pc + 1 = n) (F : Go p e below s Q K N T (mkF m n Ls (.long v :: st))) : Go p e below s Q K N T (mkF m pc Ls st) := by
  subst hn
  exact go (fun _ h => XT.lloadN X.here hx rfl hd hl h) F
theorem lload (X : Stand p l e R s m args below meth c T locs cells slots) (hx : p.tables.exec = Jvm.exec) {k : Nat} {v : Int64} (hd : decode c.code pc = .ok (.lload k, 2)) (hl : Ls[k]? = some (.val (.long v))) (hn : pc + 2 = n) (F : Go p e below s Q K N T (mkF m n Ls (.long v :: st))) : Go p e below s Q K N T (mkF m pc Ls st) := by
  subst hn
  exact go (fun _ h => XT.lload X.here hx rfl hd hl h) F
theorem istoreN (X : Stand p l e R s m args below meth c T locs cells slots) (hx : p.tables.exec = Jvm.exec) {k : Fin 4} {x : Int32} (hd : decode c.code pc = .ok (.istore_n k, 1)) (hl : storeLocals Ls k.val (.int x) = some l') (hn : pc + 1 = n) (F : Go p e below s Q K N T (mkF m n l' st)) : Go p e below s Q K N T (mkF m pc Ls (.int x :: st)) := by
  subst hn
  exact go (fun _ h => XS.istoreN X.here hx rfl hd rfl hl h) F
theorem istore (X : Stand p l e R s m args below meth c T locs cells slots) (hx : p.tables.exec = Jvm.exec) {k : Nat} {x : Int32} (hd : decode c.code pc = .ok (.istore k, 2)) (hl : storeLocals Ls k (.int x) = some l') (hn : pc + 2 = n) (F : Go p e below s Q K N T (mkF m n l' st)) : Go p e below s Q K N T (mkF m pc Ls (.int x :: st)) := by
  subst hn
  exact go (fun _ h => XS.istore X.here hx rfl hd rfl hl h) F
theorem astoreN (X : Stand p l e R s m args below meth c T locs cells slots) (hx : p.tables.exec = Jvm.exec) {k : Fin 4} {x : Value} (hd : decode c.code pc = .ok (.astore_n k, 1)) (hv : x.isRef = true) (hl : storeLocals Ls k.val x = some l') (hn : pc + 1 = n) (F : Go p e below s Q K N T (mkF m n l' st)) : Go p e below s Q K N T (mkF m pc Ls (x :: st)) := by
  subst hn
  exact go (fun _ h => XS.astoreN X.here hx rfl hd rfl hv hl h) F
theorem astore (X : Stand p l e R s m args below meth c T locs cells slots) (hx : p.tables.exec = Jvm.exec) {k : Nat} {x : Value} (hd : decode c.code pc = .ok (.astore k, 2)) (hv : x.isRef = true) (hl : storeLocals Ls k x = some l') (hn : pc + 2 = n) (F : Go p e below s Q K N T (mkF m n l' st)) : Go p e below s Q K N T (mkF m pc Ls (x :: st)) := by
  subst hn
  exact go (fun _ h => XS.astore X.here hx rfl hd rfl hv hl h) F
theorem lstoreN (X : Stand p l e R s m args below meth c T locs cells slots) (hx : p.tables.exec = Jvm.exec) {k : Fin 4} {x : Int64} (hd : decode c.code pc = .ok (.lstore_n k, 1)) (hl : storeLocals Ls k.val (.long x) = some l') (hn : pc + 1 = n) (F : Go p e below s Q K N T (mkF m n l' st)) : Go p e below s Q K N T (mkF m pc Ls (.long x :: st)) := by
  subst hn
  exact go (fun _ h => XT.lstoreN X.here hx rfl hd rfl hl h) F
theorem lstore (X : Stand p l e R s m args below meth c T locs cells slots) (hx : p.tables.exec = Jvm.exec) {k : Nat} {x : Int64} (hd : decode c.code pc = .ok (.lstore k, 2)) (hl : storeLocals Ls k (.long x) = some l') (hn : pc + 2 = n) (F : Go p e below s Q K N T (mkF m n l' st)) : Go p e below s Q K N T (mkF m pc Ls (.long x :: st)) := by
  subst hn
  exact go (fun _ h => XT.lstore X.here hx rfl hd rfl hl h) F
theorem iinc (X : Stand p l e R s m args below meth c T locs cells slots) (hx : p.tables.exec = Jvm.exec) {k : Nat} {cst : Int} {x : Int32} (v : Int32) (hd : decode c.code pc = .ok (.iinc k cst, 3)) (hv : Int32.ofInt cst = v) (hl : Ls[k]? = some (.val (.int x))) (hl' : storeLocals Ls k (.int (x + v)) = some l') (hn : pc + 3 = n) (F : Go p e below s Q K N T (mkF m n l' st)) : Go p e below s Q K N T (mkF m pc Ls st) := by
  subst hn
  exact go (fun _ h => XT.iincV X.here hx rfl v hd hv hl hl' h) F
theorem iconst (X : Stand p l e R s m args below meth c T locs cells slots) (hx : p.tables.exec = Jvm.exec) {i : Int} (v : Int32) (hd : decode c.code pc = .ok (.iconst i, 1)) (hv : Int32.ofInt i = v) (hn : pc + 1 = n) (F : Go p e below s Q K N T (mkF m n Ls (.int v :: st))) : Go p e below s Q K N T (mkF m pc Ls st) := by
  subst hn
  exact go (fun _ h => XT.iconstV X.here hx rfl v hd hv h) F
theorem bipush (X : Stand p l e R s m args below meth c T locs cells slots) (hx : p.tables.exec = Jvm.exec) {i : Int} (v : Int32) (hd : decode c.code pc = .ok (.bipush i, 2)) (hv : (Int8.ofInt i).toInt32 = v) (hn : pc + 2 = n) (F : Go p e below s Q K N T (mkF m n Ls (.int v :: st))) : Go p e below s Q K N T (mkF m pc Ls st) := by
  subst hn
  exact go (fun _ h => XT.bipushV X.here hx rfl v hd hv h) F
theorem sipush (X : Stand p l e R s m args below meth c T locs cells slots) (hx : p.tables.exec = Jvm.exec) {i : Int} (v : Int32) (hd : decode c.code pc = .ok (.sipush i, 3)) (hv : (Int16.ofInt i).toInt32 = v) (hn : pc + 3 = n) (F : Go p e below s Q K N T (mkF m n Ls (.int v :: st))) : Go p e below s Q K N T (mkF m pc Ls st) := by
  subst hn
  exact go (fun _ h => XT.sipushV X.here hx rfl v hd hv h) F
theorem lconst (X : Stand p l e R s m args below meth c T locs cells slots) (hx : p.tables.exec = Jvm.exec) {k : Fin 2} (v : Int64) (hd : decode c.code pc = .ok (.lconst k, 1)) (hv : Int64.ofNat k = v) (hn : pc + 1 = n) (F : Go p e below s Q K N T (mkF m n Ls (.long v :: st))) : Go p e below s Q K N T (mkF m pc Ls st) := by
  subst hn
  exact go (fun _ h => XT.lconstV X.here hx rfl v hd hv h) F
theorem anull (X : Stand p l e R s m args below meth c T locs cells slots) (hx : p.tables.exec = Jvm.exec)  (hd : decode c.code pc = .ok (.aconst_null, 1)) (hn : pc + 1 = n) (F : Go p e below s Q K N T (mkF m n Ls (.null :: st))) : Go p e below s Q K N T (mkF m pc Ls st) := by
  subst hn
  exact go (fun _ h => XS.aconstNull X.here hx rfl hd h) F
theorem ldcI (X : Stand p l e R s m args below meth c T locs cells slots) (hx : p.tables.exec = Jvm.exec) {own : String} {index : Nat} {v : Int32} (hZ : Z.Warmed39 s.vm) (hown : s.vm.findClass own = some m.cls) (wd : (Cond.constant own index v).before a0 Z = true) (hd : decode c.code pc = .ok (.ldc index, 2)) (hn : pc + 2 = n) (F : Go p e below s Q K N T (mkF m n Ls (.int v :: st))) : Go p e below s Q K N T (mkF m pc Ls st) := by
  subst hn
  exact go (fun _ h => X.ldcInt hx hown (mvT hZ wd) (g := mkF m pc Ls st) rfl hd _ h) F
theorem ldcW (X : Stand p l e R s m args below meth c T locs cells slots) (hx : p.tables.exec = Jvm.exec) {own : String} {index : Nat} {v : Int32} (hZ : Z.Warmed39 s.vm) (hown : s.vm.findClass own = some m.cls) (wd : (Cond.constant own index v).before a0 Z = true) (hd : decode c.code pc = .ok (.ldc_w index, 3)) (hn : pc + 3 = n) (F : Go p e below s Q K N T (mkF m n Ls (.int v :: st))) : Go p e below s Q K N T (mkF m pc Ls st) := by
  subst hn
  exact go (fun _ h => X.ldcwInt hx hown (mvT hZ wd) (g := mkF m pc Ls st) rfl hd _ h) F
theorem ldcJ (X : Stand p l e R s m args below meth c T locs cells slots) (hx : p.tables.exec = Jvm.exec) {own : String} {index : Nat} {v : Int64} (hZ : Z.Warmed39 s.vm) (hown : s.vm.findClass own = some m.cls) (wd : (Cond.constantLong own index v).before a0 Z = true) (hd : decode c.code pc = .ok (.ldc2_w index, 3)) (hn : pc + 3 = n) (F : Go p e below s Q K N T (mkF m n Ls (.long v :: st))) : Go p e below s Q K N T (mkF m pc Ls st) := by
  subst hn
  exact go (fun _ h => X.ldc2Long hx hown (mvT hZ wd) (g := mkF m pc Ls st) rfl hd _ h) F
theorem iadd (X : Stand p l e R s m args below meth c T locs cells slots) (hx : p.tables.exec = Jvm.exec) {x y : Int32} (hd : decode c.code pc = .ok (.iadd, 1)) (hn : pc + 1 = n) (F : Go p e below s Q K N T (mkF m n Ls (.int (x + y) :: st))) : Go p e below s Q K N T (mkF m pc Ls (.int y :: .int x :: st)) := by
  subst hn
  exact go (fun _ h => XS.iadd X.here hx rfl hd rfl h) F
theorem isub (X : Stand p l e R s m args below meth c T locs cells slots) (hx : p.tables.exec = Jvm.exec) {x y : Int32} (hd : decode c.code pc = .ok (.isub, 1)) (hn : pc + 1 = n) (F : Go p e below s Q K N T (mkF m n Ls (.int (x - y) :: st))) : Go p e below s Q K N T (mkF m pc Ls (.int y :: .int x :: st)) := by
  subst hn
  exact go (fun _ h => XS.isub X.here hx rfl hd rfl h) F
theorem iand (X : Stand p l e R s m args below meth c T locs cells slots) (hx : p.tables.exec = Jvm.exec) {x y : Int32} (hd : decode c.code pc = .ok (.iand, 1)) (hn : pc + 1 = n) (F : Go p e below s Q K N T (mkF m n Ls (.int (x &&& y) :: st))) : Go p e below s Q K N T (mkF m pc Ls (.int y :: .int x :: st)) := by
  subst hn
  exact go (fun _ h => XS.iand X.here hx rfl hd rfl h) F
theorem imul (X : Stand p l e R s m args below meth c T locs cells slots) (hx : p.tables.exec = Jvm.exec) {x y : Int32} (hd : decode c.code pc = .ok (.imul, 1)) (hn : pc + 1 = n) (F : Go p e below s Q K N T (mkF m n Ls (.int (x * y) :: st))) : Go p e below s Q K N T (mkF m pc Ls (.int y :: .int x :: st)) := by
  subst hn
  exact go (fun _ h => XS.imul X.here hx rfl hd rfl h) F
theorem ixor (X : Stand p l e R s m args below meth c T locs cells slots) (hx : p.tables.exec = Jvm.exec) {x y : Int32} (hd : decode c.code pc = .ok (.ixor, 1)) (hn : pc + 1 = n) (F : Go p e below s Q K N T (mkF m n Ls (.int (x ^^^ y) :: st))) : Go p e below s Q K N T (mkF m pc Ls (.int y :: .int x :: st)) := by
  subst hn
  exact go (fun _ h => XT.ixor X.here hx rfl hd rfl h) F
theorem ior (X : Stand p l e R s m args below meth c T locs cells slots) (hx : p.tables.exec = Jvm.exec) {x y : Int32} (hd : decode c.code pc = .ok (.ior, 1)) (hn : pc + 1 = n) (F : Go p e below s Q K N T (mkF m n Ls (.int (x ||| y) :: st))) : Go p e below s Q K N T (mkF m pc Ls (.int y :: .int x :: st)) := by
  subst hn
  exact go (fun _ h => XT.ior X.here hx rfl hd rfl h) F
theorem i2c (X : Stand p l e R s m args below meth c T locs cells slots) (hx : p.tables.exec = Jvm.exec) {x : Int32} (hd : decode c.code pc = .ok (.i2c, 1)) (hn : pc + 1 = n) (F : Go p e below s Q K N T (mkF m n Ls (.int x.toUInt32.toUInt16.toUInt32.toInt32 :: st))) : Go p e below s Q K N T (mkF m pc Ls (.int x :: st)) := by
  subst hn
  exact go (fun _ h => XT.i2c X.here hx rfl hd rfl h) F
theorem i2b (X : Stand p l e R s m args below meth c T locs cells slots) (hx : p.tables.exec = Jvm.exec) {x : Int32} (hd : decode c.code pc = .ok (.i2b, 1)) (hn : pc + 1 = n) (F : Go p e below s Q K N T (mkF m n Ls (.int x.toInt8.toInt32 :: st))) : Go p e below s Q K N T (mkF m pc Ls (.int x :: st)) := by
  subst hn
  exact go (fun _ h => XT.i2b X.here hx rfl hd rfl h) F
theorem i2l (X : Stand p l e R s m args below meth c T locs cells slots) (hx : p.tables.exec = Jvm.exec) {x : Int32} (hd : decode c.code pc = .ok (.i2l, 1)) (hn : pc + 1 = n) (F : Go p e below s Q K N T (mkF m n Ls (.long x.toInt64 :: st))) : Go p e below s Q K N T (mkF m pc Ls (.int x :: st)) := by
  subst hn
  exact go (fun _ h => XT.i2l X.here hx rfl hd rfl h) F
theorem l2i (X : Stand p l e R s m args below meth c T locs cells slots) (hx : p.tables.exec = Jvm.exec) {x : Int64} (hd : decode c.code pc = .ok (.l2i, 1)) (hn : pc + 1 = n) (F : Go p e below s Q K N T (mkF m n Ls (.int x.toInt32 :: st))) : Go p e below s Q K N T (mkF m pc Ls (.long x :: st)) := by
  subst hn
  exact go (fun _ h => XT.l2i X.here hx rfl hd rfl h) F
theorem ladd (X : Stand p l e R s m args below meth c T locs cells slots) (hx : p.tables.exec = Jvm.exec) {x y : Int64} (hd : decode c.code pc = .ok (.ladd, 1)) (hn : pc + 1 = n) (F : Go p e below s Q K N T (mkF m n Ls (.long (x + y) :: st))) : Go p e below s Q K N T (mkF m pc Ls (.long y :: .long x :: st)) := by
  subst hn
  exact go (fun _ h => XT.ladd X.here hx rfl hd rfl h) F
theorem lsub (X : Stand p l e R s m args below meth c T locs cells slots) (hx : p.tables.exec = Jvm.exec) {x y : Int64} (hd : decode c.code pc = .ok (.lsub, 1)) (hn : pc + 1 = n) (F : Go p e below s Q K N T (mkF m n Ls (.long (x - y) :: st))) : Go p e below s Q K N T (mkF m pc Ls (.long y :: .long x :: st)) := by
  subst hn
  exact go (fun _ h => XT.lsub X.here hx rfl hd rfl h) F
theorem lmul (X : Stand p l e R s m args below meth c T locs cells slots) (hx : p.tables.exec = Jvm.exec) {x y : Int64} (hd : decode c.code pc = .ok (.lmul, 1)) (hn : pc + 1 = n) (F : Go p e below s Q K N T (mkF m n Ls (.long (x * y) :: st))) : Go p e below s Q K N T (mkF m pc Ls (.long y :: .long x :: st)) := by
  subst hn
  exact go (fun _ h => XT.lmul X.here hx rfl hd rfl h) F
theorem land (X : Stand p l e R s m args below meth c T locs cells slots) (hx : p.tables.exec = Jvm.exec) {x y : Int64} (hd : decode c.code pc = .ok (.land, 1)) (hn : pc + 1 = n) (F : Go p e below s Q K N T (mkF m n Ls (.long (x &&& y) :: st))) : Go p e below s Q K N T (mkF m pc Ls (.long y :: .long x :: st)) := by
  subst hn
  exact go (fun _ h => XT.land X.here hx rfl hd rfl h) F
theorem lor (X : Stand p l e R s m args below meth c T locs cells slots) (hx : p.tables.exec = Jvm.exec) {x y : Int64} (hd : decode c.code pc = .ok (.lor, 1)) (hn : pc + 1 = n) (F : Go p e below s Q K N T (mkF m n Ls (.long (x ||| y) :: st))) : Go p e below s Q K N T (mkF m pc Ls (.long y :: .long x :: st)) := by
  subst hn
  exact go (fun _ h => XT.lor X.here hx rfl hd rfl h) F
theorem lxor (X : Stand p l e R s m args below meth c T locs cells slots) (hx : p.tables.exec = Jvm.exec) {x y : Int64} (hd : decode c.code pc = .ok (.lxor, 1)) (hn : pc + 1 = n) (F : Go p e below s Q K N T (mkF m n Ls (.long (x ^^^ y) :: st))) : Go p e below s Q K N T (mkF m pc Ls (.long y :: .long x :: st)) := by
  subst hn
  exact go (fun _ h => XT.lxor X.here hx rfl hd rfl h) F
theorem irem (X : Stand p l e R s m args below meth c T locs cells slots) (hx : p.tables.exec = Jvm.exec) {x y : Int32} (hd : decode c.code pc = .ok (.irem, 1)) (hy : y ≠ 0) (hn : pc + 1 = n) (F : Go p e below s Q K N T (mkF m n Ls (.int (x % y) :: st))) : Go p e below s Q K N T (mkF m pc Ls (.int y :: .int x :: st)) := by
  subst hn
  exact go (fun _ h => iremM X hx rfl hd rfl hy h) F
theorem idiv (X : Stand p l e R s m args below meth c T locs cells slots) (hx : p.tables.exec = Jvm.exec) {x y : Int32} (hd : decode c.code pc = .ok (.idiv, 1)) (hy : y ≠ 0) (hn : pc + 1 = n) (F : Go p e below s Q K N T (mkF m n Ls (.int (x / y) :: st))) : Go p e below s Q K N T (mkF m pc Ls (.int y :: .int x :: st)) := by
  subst hn
  exact go (fun _ h => XS.idiv X.here hx rfl hd rfl hy h) F
theorem dup (X : Stand p l e R s m args below meth c T locs cells slots) (hx : p.tables.exec = Jvm.exec) {x : Value} (hd : decode c.code pc = .ok (.dup, 1)) (hc : x.category = 1) (hn : pc + 1 = n) (F : Go p e below s Q K N T (mkF m n Ls (x :: x :: st))) : Go p e below s Q K N T (mkF m pc Ls (x :: st)) := by
  subst hn
  exact go (fun _ h => XS.dup X.here hx rfl hd rfl hc h) F
theorem pop (X : Stand p l e R s m args below meth c T locs cells slots) (hx : p.tables.exec = Jvm.exec) {x : Value} (hd : decode c.code pc = .ok (.pop, 1)) (hc : x.category = 1) (hn : pc + 1 = n) (F : Go p e below s Q K N T (mkF m n Ls st)) : Go p e below s Q K N T (mkF m pc Ls (x :: st)) := by
  subst hn
  exact go (fun _ h => XT.pop X.here hx rfl hd rfl hc h) F
theorem pop2L (X : Stand p l e R s m args below meth c T locs cells slots) (hx : p.tables.exec = Jvm.exec) {x : Int64} (hd : decode c.code pc = .ok (.pop2, 1)) (hn : pc + 1 = n) (F : Go p e below s Q K N T (mkF m n Ls st)) : Go p e below s Q K N T (mkF m pc Ls (.long x :: st)) := by
  subst hn
  refine go (fun _ h => ?_) F
  have ht := X.here
  jvm_step ht [ht.top, hx, hd, Value.category]
  exact h
theorem lshl (X : Stand p l e R s m args below meth c T locs cells slots) (hx : p.tables.exec = Jvm.exec) {x : Int64} {y : Int32} (hd : decode c.code pc = .ok (.lshl, 1)) (hn : pc + 1 = n) (F : Go p e below s Q K N T (mkF m n Ls (.long (x <<< (y.toInt64 &&& 63)) :: st))) : Go p e below s Q K N T (mkF m pc Ls (.int y :: .long x :: st)) := by
  subst hn
  exact go (fun _ h => XT.lshl X.here hx rfl hd rfl h) F
theorem lushr (X : Stand p l e R s m args below meth c T locs cells slots) (hx : p.tables.exec = Jvm.exec) {x : Int64} {y : Int32} (hd : decode c.code pc = .ok (.lushr, 1)) (hn : pc + 1 = n) (F : Go p e below s Q K N T (mkF m n Ls (.long (XT.ushrL x y) :: st))) : Go p e below s Q K N T (mkF m pc Ls (.int y :: .long x :: st)) := by
  subst hn
  exact go (fun _ h => XT.lushr X.here hx rfl hd rfl h) F
theorem iushr (X : Stand p l e R s m args below meth c T locs cells slots) (hx : p.tables.exec = Jvm.exec) {x y : Int32} (hd : decode c.code pc = .ok (.iushr, 1)) (hn : pc + 1 = n) (F : Go p e below s Q K N T (mkF m n Ls (.int (XT.ushr x y) :: st))) : Go p e below s Q K N T (mkF m pc Ls (.int y :: .int x :: st)) := by
  subst hn
  exact go (fun _ h => XT.iushr X.here hx rfl hd rfl h) F
theorem ishr (X : Stand p l e R s m args below meth c T locs cells slots) (hx : p.tables.exec = Jvm.exec) {x y : Int32} (hd : decode c.code pc = .ok (.ishr, 1)) (hn : pc + 1 = n) (F : Go p e below s Q K N T (mkF m n Ls (.int (x >>> (y &&& 31)) :: st))) : Go p e below s Q K N T (mkF m pc Ls (.int y :: .int x :: st)) := by
  subst hn
  exact go (fun _ h => XT.ishr X.here hx rfl hd rfl h) F
theorem ishl (X : Stand p l e R s m args below meth c T locs cells slots) (hx : p.tables.exec = Jvm.exec) {x y : Int32} (hd : decode c.code pc = .ok (.ishl, 1)) (hn : pc + 1 = n) (F : Go p e below s Q K N T (mkF m n Ls (.int (x <<< (y &&& 31)) :: st))) : Go p e below s Q K N T (mkF m pc Ls (.int y :: .int x :: st)) := by
  subst hn
  exact go (fun _ h => XT.ishl X.here hx rfl hd rfl h) F
theorem i2s (X : Stand p l e R s m args below meth c T locs cells slots) (hx : p.tables.exec = Jvm.exec) {x : Int32} (hd : decode c.code pc = .ok (.i2s, 1)) (hn : pc + 1 = n) (F : Go p e below s Q K N T (mkF m n Ls (.int x.toInt16.toInt32 :: st))) : Go p e below s Q K N T (mkF m pc Ls (.int x :: st)) := by
  subst hn
  exact go (fun _ h => XT.i2s X.here hx rfl hd rfl h) F
theorem goto (X : Stand p l e R s m args below meth c T locs cells slots) (hx : p.tables.exec = Jvm.exec) {o : Int} (t : Nat) (hd : decode c.code pc = .ok (.goto o, 3)) (ht : (pc : Int) + o = t) (F : Go p e below s Q K N T (mkF m t Ls st)) : Go p e below s Q K N T (mkF m pc Ls st) := go (fun _ h => XS.goto X.here hx rfl (pc0 := pc) (pc' := t) rfl hd (by rw [ht]; exact Int.natCast_nonneg _) (by rw [ht]; rfl) h) F
theorem holds_t {cd : ClassFile.Cond} {x y : Int32} : if_icmp.holds cd x y = true ↔ match cd with | .eq => x.toInt = y.toInt | .ne => ¬ x.toInt = y.toInt | .lt => x.toInt < y.toInt | .ge => y.toInt ≤ x.toInt | .gt => y.toInt < x.toInt | .le => x.toInt ≤ y.toInt := by
  cases cd <;> simp [if_icmp.holds, Int32.lt_iff_toInt_lt, Int32.le_iff_toInt_le, Int32.toInt_inj]
theorem icmp (X : Stand p l e R s m args below meth c T locs cells slots) (hx : p.tables.exec = Jvm.exec) {cd : ClassFile.Cond} {x y : Int32} {o : Int} (hd : decode c.code pc = .ok (.if_icmp cd o, 3)) (ht : (pc : Int) + o = t) (hn : pc + 3 = n) (FT : if_icmp.holds cd x y = true → Go p e below s Q K N T (mkF m t Ls rest)) (FF : ¬ if_icmp.holds cd x y = true → Go p e below s Q K N T (mkF m n Ls rest)) : Go p e below s Q K N T (mkF m pc Ls (.int y :: .int x :: rest)) := by
  subst hn
  by_cases q : if_icmp.holds cd x y = true
  · exact go (fun _ h => XS.icmpYes X.here hx rfl (pc0 := pc) (pc' := t) rfl hd rfl q (by rw [ht]; exact Int.natCast_nonneg _) (by rw [ht]; rfl) h) (FT q)
  · exact go (fun _ h => XS.icmpNo X.here hx rfl hd rfl (by simpa using q) h) (FF q)
theorem ifc (X : Stand p l e R s m args below meth c T locs cells slots) (hx : p.tables.exec = Jvm.exec) {cd : ClassFile.Cond} {x : Int32} {o : Int} (hd : decode c.code pc = .ok (.ifCond cd o, 3)) (ht : (pc : Int) + o = t) (hn : pc + 3 = n) (FT : if_icmp.holds cd x 0 = true → Go p e below s Q K N T (mkF m t Ls rest)) (FF : ¬ if_icmp.holds cd x 0 = true → Go p e below s Q K N T (mkF m n Ls rest)) : Go p e below s Q K N T (mkF m pc Ls (.int x :: rest)) := by
  subst hn
  by_cases q : if_icmp.holds cd x 0 = true
  · exact go (fun _ h => XS.ifYes X.here hx rfl (pc0 := pc) (pc' := t) rfl hd rfl ((if0 _ _).trans q) (by rw [ht]; exact Int.natCast_nonneg _) (by rw [ht]; rfl) h) (FT q)
  · exact go (fun _ h => XS.ifNo X.here hx rfl hd rfl ((if0 _ _).trans (by simpa using q)) h) (FF q)
theorem icmp_eq (X : Stand p l e R s m args below meth c T locs cells slots) (hx : p.tables.exec = Jvm.exec) {x y : Int32} {o : Int} (t n : Nat) (hd : decode c.code pc = .ok (.if_icmp .eq o, 3)) (ht : (pc : Int) + o = t) (hn : pc + 3 = n) {a b' : Int} (ha : x.toInt = a) (hb : y.toInt = b') (FT : a = b' → Go p e below s Q K N T (mkF m t Ls rest)) (FF : ¬ a = b' → Go p e below s Q K N T (mkF m n Ls rest)) : Go p e below s Q K N T (mkF m pc Ls (.int y :: .int x :: rest)) := by
  subst ha hb
  exact icmp X hx hd ht hn (fun q => FT (holds_t.mp q)) (fun q => FF (by have := mt holds_t.mpr q; first | exact this | exact Int.not_lt.mp this | exact Int.not_le.mp this | exact Classical.not_not.mp this))
theorem if_eq (X : Stand p l e R s m args below meth c T locs cells slots) (hx : p.tables.exec = Jvm.exec) {x : Int32} {o : Int} (t n : Nat) (hd : decode c.code pc = .ok (.ifCond .eq o, 3)) (ht : (pc : Int) + o = t) (hn : pc + 3 = n) {a : Int} (ha : x.toInt = a) (FT : a = 0 → Go p e below s Q K N T (mkF m t Ls rest)) (FF : ¬ a = 0 → Go p e below s Q K N T (mkF m n Ls rest)) : Go p e below s Q K N T (mkF m pc Ls (.int x :: rest)) := by
  subst ha
  exact ifc X hx hd ht hn (fun q => FT (holds_t.mp q)) (fun q => FF (by have := mt holds_t.mpr q; first | exact this | exact Int.not_lt.mp this | exact Int.not_le.mp this | exact Classical.not_not.mp this))
theorem icmp_ne (X : Stand p l e R s m args below meth c T locs cells slots) (hx : p.tables.exec = Jvm.exec) {x y : Int32} {o : Int} (t n : Nat) (hd : decode c.code pc = .ok (.if_icmp .ne o, 3)) (ht : (pc : Int) + o = t) (hn : pc + 3 = n) {a b' : Int} (ha : x.toInt = a) (hb : y.toInt = b') (FT : ¬ a = b' → Go p e below s Q K N T (mkF m t Ls rest)) (FF : a = b' → Go p e below s Q K N T (mkF m n Ls rest)) : Go p e below s Q K N T (mkF m pc Ls (.int y :: .int x :: rest)) := by
  subst ha hb
  exact icmp X hx hd ht hn (fun q => FT (holds_t.mp q)) (fun q => FF (by have := mt holds_t.mpr q; first | exact this | exact Int.not_lt.mp this | exact Int.not_le.mp this | exact Classical.not_not.mp this))
theorem if_ne (X : Stand p l e R s m args below meth c T locs cells slots) (hx : p.tables.exec = Jvm.exec) {x : Int32} {o : Int} (t n : Nat) (hd : decode c.code pc = .ok (.ifCond .ne o, 3)) (ht : (pc : Int) + o = t) (hn : pc + 3 = n) {a : Int} (ha : x.toInt = a) (FT : ¬ a = 0 → Go p e below s Q K N T (mkF m t Ls rest)) (FF : a = 0 → Go p e below s Q K N T (mkF m n Ls rest)) : Go p e below s Q K N T (mkF m pc Ls (.int x :: rest)) := by
  subst ha
  exact ifc X hx hd ht hn (fun q => FT (holds_t.mp q)) (fun q => FF (by have := mt holds_t.mpr q; first | exact this | exact Int.not_lt.mp this | exact Int.not_le.mp this | exact Classical.not_not.mp this))
theorem icmp_lt (X : Stand p l e R s m args below meth c T locs cells slots) (hx : p.tables.exec = Jvm.exec) {x y : Int32} {o : Int} (t n : Nat) (hd : decode c.code pc = .ok (.if_icmp .lt o, 3)) (ht : (pc : Int) + o = t) (hn : pc + 3 = n) {a b' : Int} (ha : x.toInt = a) (hb : y.toInt = b') (FT : a < b' → Go p e below s Q K N T (mkF m t Ls rest)) (FF : b' ≤ a → Go p e below s Q K N T (mkF m n Ls rest)) : Go p e below s Q K N T (mkF m pc Ls (.int y :: .int x :: rest)) := by
  subst ha hb
  exact icmp X hx hd ht hn (fun q => FT (holds_t.mp q)) (fun q => FF (by have := mt holds_t.mpr q; first | exact this | exact Int.not_lt.mp this | exact Int.not_le.mp this | exact Classical.not_not.mp this))
theorem if_lt (X : Stand p l e R s m args below meth c T locs cells slots) (hx : p.tables.exec = Jvm.exec) {x : Int32} {o : Int} (t n : Nat) (hd : decode c.code pc = .ok (.ifCond .lt o, 3)) (ht : (pc : Int) + o = t) (hn : pc + 3 = n) {a : Int} (ha : x.toInt = a) (FT : a < 0 → Go p e below s Q K N T (mkF m t Ls rest)) (FF : 0 ≤ a → Go p e below s Q K N T (mkF m n Ls rest)) : Go p e below s Q K N T (mkF m pc Ls (.int x :: rest)) := by
  subst ha
  exact ifc X hx hd ht hn (fun q => FT (holds_t.mp q)) (fun q => FF (by have := mt holds_t.mpr q; first | exact this | exact Int.not_lt.mp this | exact Int.not_le.mp this | exact Classical.not_not.mp this))
theorem icmp_ge (X : Stand p l e R s m args below meth c T locs cells slots) (hx : p.tables.exec = Jvm.exec) {x y : Int32} {o : Int} (t n : Nat) (hd : decode c.code pc = .ok (.if_icmp .ge o, 3)) (ht : (pc : Int) + o = t) (hn : pc + 3 = n) {a b' : Int} (ha : x.toInt = a) (hb : y.toInt = b') (FT : b' ≤ a → Go p e below s Q K N T (mkF m t Ls rest)) (FF : a < b' → Go p e below s Q K N T (mkF m n Ls rest)) : Go p e below s Q K N T (mkF m pc Ls (.int y :: .int x :: rest)) := by
  subst ha hb
  exact icmp X hx hd ht hn (fun q => FT (holds_t.mp q)) (fun q => FF (by have := mt holds_t.mpr q; first | exact this | exact Int.not_lt.mp this | exact Int.not_le.mp this | exact Classical.not_not.mp this))
theorem if_ge (X : Stand p l e R s m args below meth c T locs cells slots) (hx : p.tables.exec = Jvm.exec) {x : Int32} {o : Int} (t n : Nat) (hd : decode c.code pc = .ok (.ifCond .ge o, 3)) (ht : (pc : Int) + o = t) (hn : pc + 3 = n) {a : Int} (ha : x.toInt = a) (FT : 0 ≤ a → Go p e below s Q K N T (mkF m t Ls rest)) (FF : a < 0 → Go p e below s Q K N T (mkF m n Ls rest)) : Go p e below s Q K N T (mkF m pc Ls (.int x :: rest)) := by
  subst ha
  exact ifc X hx hd ht hn (fun q => FT (holds_t.mp q)) (fun q => FF (by have := mt holds_t.mpr q; first | exact this | exact Int.not_lt.mp this | exact Int.not_le.mp this | exact Classical.not_not.mp this))
theorem icmp_gt (X : Stand p l e R s m args below meth c T locs cells slots) (hx : p.tables.exec = Jvm.exec) {x y : Int32} {o : Int} (t n : Nat) (hd : decode c.code pc = .ok (.if_icmp .gt o, 3)) (ht : (pc : Int) + o = t) (hn : pc + 3 = n) {a b' : Int} (ha : x.toInt = a) (hb : y.toInt = b') (FT : b' < a → Go p e below s Q K N T (mkF m t Ls rest)) (FF : a ≤ b' → Go p e below s Q K N T (mkF m n Ls rest)) : Go p e below s Q K N T (mkF m pc Ls (.int y :: .int x :: rest)) := by
  subst ha hb
  exact icmp X hx hd ht hn (fun q => FT (holds_t.mp q)) (fun q => FF (by have := mt holds_t.mpr q; first | exact this | exact Int.not_lt.mp this | exact Int.not_le.mp this | exact Classical.not_not.mp this))
theorem if_gt (X : Stand p l e R s m args below meth c T locs cells slots) (hx : p.tables.exec = Jvm.exec) {x : Int32} {o : Int} (t n : Nat) (hd : decode c.code pc = .ok (.ifCond .gt o, 3)) (ht : (pc : Int) + o = t) (hn : pc + 3 = n) {a : Int} (ha : x.toInt = a) (FT : 0 < a → Go p e below s Q K N T (mkF m t Ls rest)) (FF : a ≤ 0 → Go p e below s Q K N T (mkF m n Ls rest)) : Go p e below s Q K N T (mkF m pc Ls (.int x :: rest)) := by
  subst ha
  exact ifc X hx hd ht hn (fun q => FT (holds_t.mp q)) (fun q => FF (by have := mt holds_t.mpr q; first | exact this | exact Int.not_lt.mp this | exact Int.not_le.mp this | exact Classical.not_not.mp this))
theorem icmp_le (X : Stand p l e R s m args below meth c T locs cells slots) (hx : p.tables.exec = Jvm.exec) {x y : Int32} {o : Int} (t n : Nat) (hd : decode c.code pc = .ok (.if_icmp .le o, 3)) (ht : (pc : Int) + o = t) (hn : pc + 3 = n) {a b' : Int} (ha : x.toInt = a) (hb : y.toInt = b') (FT : a ≤ b' → Go p e below s Q K N T (mkF m t Ls rest)) (FF : b' < a → Go p e below s Q K N T (mkF m n Ls rest)) : Go p e below s Q K N T (mkF m pc Ls (.int y :: .int x :: rest)) := by
  subst ha hb
  exact icmp X hx hd ht hn (fun q => FT (holds_t.mp q)) (fun q => FF (by have := mt holds_t.mpr q; first | exact this | exact Int.not_lt.mp this | exact Int.not_le.mp this | exact Classical.not_not.mp this))
theorem if_le (X : Stand p l e R s m args below meth c T locs cells slots) (hx : p.tables.exec = Jvm.exec) {x : Int32} {o : Int} (t n : Nat) (hd : decode c.code pc = .ok (.ifCond .le o, 3)) (ht : (pc : Int) + o = t) (hn : pc + 3 = n) {a : Int} (ha : x.toInt = a) (FT : a ≤ 0 → Go p e below s Q K N T (mkF m t Ls rest)) (FF : 0 < a → Go p e below s Q K N T (mkF m n Ls rest)) : Go p e below s Q K N T (mkF m pc Ls (.int x :: rest)) := by
  subst ha
  exact ifc X hx hd ht hn (fun q => FT (holds_t.mp q)) (fun q => FF (by have := mt holds_t.mpr q; first | exact this | exact Int.not_lt.mp this | exact Int.not_le.mp this | exact Classical.not_not.mp this))
theorem if_neB (X : Stand p l e R s m args below meth c T locs cells slots) (hx : p.tables.exec = Jvm.exec) {P : Prop} [Decidable P] {o : Int} (t n : Nat) (hd : decode c.code pc = .ok (.ifCond .ne o, 3)) (ht : (pc : Int) + o = t) (hn : pc + 3 = n) (FT : P → Go p e below s Q K N T (mkF m t Ls rest)) (FF : ¬ P → Go p e below s Q K N T (mkF m n Ls rest)) : Go p e below s Q K N T (mkF m pc Ls (.int (b P) :: rest)) := by
  refine ifc X hx hd ht hn (fun q => FT ?_) (fun q => FF ?_)
  · by_cases z : P
    · exact z
    · rw [b_f z] at q; exact absurd q (by decide)
  · intro z; rw [b_t z] at q; exact q (by decide)
theorem if_eqB (X : Stand p l e R s m args below meth c T locs cells slots) (hx : p.tables.exec = Jvm.exec) {P : Prop} [Decidable P] {o : Int} (t n : Nat) (hd : decode c.code pc = .ok (.ifCond .eq o, 3)) (ht : (pc : Int) + o = t) (hn : pc + 3 = n) (FT : ¬ P → Go p e below s Q K N T (mkF m t Ls rest)) (FF : P → Go p e below s Q K N T (mkF m n Ls rest)) : Go p e below s Q K N T (mkF m pc Ls (.int (b P) :: rest)) := by
  refine ifc X hx hd ht hn (fun q => FT ?_) (fun q => FF ?_)
  · intro z; rw [b_t z] at q; exact absurd q (by decide)
  · by_cases z : P
    · exact z
    · rw [b_f z] at q; exact absurd (by decide) q
theorem icmp_neB (X : Stand p l e R s m args below meth c T locs cells slots) (hx : p.tables.exec = Jvm.exec) {P P' : Prop} [Decidable P] [Decidable P'] {o : Int} (t n : Nat) (hd : decode c.code pc = .ok (.if_icmp .ne o, 3)) (ht : (pc : Int) + o = t) (hn : pc + 3 = n) (FT : ¬ (P ↔ P') → Go p e below s Q K N T (mkF m t Ls rest)) (FF : (P ↔ P') → Go p e below s Q K N T (mkF m n Ls rest)) : Go p e below s Q K N T (mkF m pc Ls (.int (b P') :: .int (b P) :: rest)) :=
  icmp_ne X hx t n hd ht hn rfl rfl (fun q => FT fun z => q (by rw [b_iff z])) (fun q => FF (b_inj (Int32.toInt_inj.mp q)))
theorem lcmp (X : Stand p l e R s m args below meth c T locs cells slots) (hx : p.tables.exec = Jvm.exec) {x y : Int64} (hd : decode c.code pc = .ok (.lcmp, 1)) (hn : pc + 1 = n) (F : Go p e below s Q K N T (mkF m n Ls (.int (lcmpW x y) :: st))) : Go p e below s Q K N T (mkF m pc Ls (.long y :: .long x :: st)) := by
  subst hn
  exact go (fun _ h => XT.lcmp X.here hx rfl hd rfl h) F
theorem lc_t {cd : ClassFile.Cond} {x y : Int64} : if_icmp.holds cd (lcmpW x y) 0 = true ↔ match cd with | .eq => x.toInt = y.toInt | .ne => ¬ x.toInt = y.toInt | .lt => x.toInt < y.toInt | .ge => y.toInt ≤ x.toInt | .gt => y.toInt < x.toInt | .le => x.toInt ≤ y.toInt := by
  have hgt : (x > y) ↔ y.toInt < x.toInt := Int64.lt_iff_toInt_lt
  have heq : (x = y) ↔ x.toInt = y.toInt := Int64.toInt_inj.symm
  by_cases q : x > y
  · have := hgt.mp q
    cases cd <;> simp [if_icmp.holds, lcmpW, q] <;> omega
  · have q1 := mt hgt.mpr q
    by_cases r : x = y
    · have := heq.mp r
      cases cd <;> simp [if_icmp.holds, lcmpW, r] 
    · have r1 := mt heq.mpr r
      cases cd <;> simp [if_icmp.holds, lcmpW, q, r] <;> omega
theorem lif_eq (X : Stand p l e R s m args below meth c T locs cells slots) (hx : p.tables.exec = Jvm.exec) {x y : Int64} {o : Int} (t n : Nat) (hd : decode c.code pc = .ok (.ifCond .eq o, 3)) (ht : (pc : Int) + o = t) (hn : pc + 3 = n) {a b' : Int} (ha : x.toInt = a) (hb : y.toInt = b') (FT : a = b' → Go p e below s Q K N T (mkF m t Ls rest)) (FF : ¬ a = b' → Go p e below s Q K N T (mkF m n Ls rest)) : Go p e below s Q K N T (mkF m pc Ls (.int (lcmpW x y) :: rest)) := by
  subst ha hb
  exact ifc X hx hd ht hn (fun q => FT (lc_t.mp q)) (fun q => FF (by have := mt lc_t.mpr q; first | exact this | exact Int.not_lt.mp this | exact Int.not_le.mp this | exact Classical.not_not.mp this))
theorem lif_ne (X : Stand p l e R s m args below meth c T locs cells slots) (hx : p.tables.exec = Jvm.exec) {x y : Int64} {o : Int} (t n : Nat) (hd : decode c.code pc = .ok (.ifCond .ne o, 3)) (ht : (pc : Int) + o = t) (hn : pc + 3 = n) {a b' : Int} (ha : x.toInt = a) (hb : y.toInt = b') (FT : ¬ a = b' → Go p e below s Q K N T (mkF m t Ls rest)) (FF : a = b' → Go p e below s Q K N T (mkF m n Ls rest)) : Go p e below s Q K N T (mkF m pc Ls (.int (lcmpW x y) :: rest)) := by
  subst ha hb
  exact ifc X hx hd ht hn (fun q => FT (lc_t.mp q)) (fun q => FF (by have := mt lc_t.mpr q; first | exact this | exact Int.not_lt.mp this | exact Int.not_le.mp this | exact Classical.not_not.mp this))
theorem lif_lt (X : Stand p l e R s m args below meth c T locs cells slots) (hx : p.tables.exec = Jvm.exec) {x y : Int64} {o : Int} (t n : Nat) (hd : decode c.code pc = .ok (.ifCond .lt o, 3)) (ht : (pc : Int) + o = t) (hn : pc + 3 = n) {a b' : Int} (ha : x.toInt = a) (hb : y.toInt = b') (FT : a < b' → Go p e below s Q K N T (mkF m t Ls rest)) (FF : b' ≤ a → Go p e below s Q K N T (mkF m n Ls rest)) : Go p e below s Q K N T (mkF m pc Ls (.int (lcmpW x y) :: rest)) := by
  subst ha hb
  exact ifc X hx hd ht hn (fun q => FT (lc_t.mp q)) (fun q => FF (by have := mt lc_t.mpr q; first | exact this | exact Int.not_lt.mp this | exact Int.not_le.mp this | exact Classical.not_not.mp this))
theorem lif_ge (X : Stand p l e R s m args below meth c T locs cells slots) (hx : p.tables.exec = Jvm.exec) {x y : Int64} {o : Int} (t n : Nat) (hd : decode c.code pc = .ok (.ifCond .ge o, 3)) (ht : (pc : Int) + o = t) (hn : pc + 3 = n) {a b' : Int} (ha : x.toInt = a) (hb : y.toInt = b') (FT : b' ≤ a → Go p e below s Q K N T (mkF m t Ls rest)) (FF : a < b' → Go p e below s Q K N T (mkF m n Ls rest)) : Go p e below s Q K N T (mkF m pc Ls (.int (lcmpW x y) :: rest)) := by
  subst ha hb
  exact ifc X hx hd ht hn (fun q => FT (lc_t.mp q)) (fun q => FF (by have := mt lc_t.mpr q; first | exact this | exact Int.not_lt.mp this | exact Int.not_le.mp this | exact Classical.not_not.mp this))
theorem lif_gt (X : Stand p l e R s m args below meth c T locs cells slots) (hx : p.tables.exec = Jvm.exec) {x y : Int64} {o : Int} (t n : Nat) (hd : decode c.code pc = .ok (.ifCond .gt o, 3)) (ht : (pc : Int) + o = t) (hn : pc + 3 = n) {a b' : Int} (ha : x.toInt = a) (hb : y.toInt = b') (FT : b' < a → Go p e below s Q K N T (mkF m t Ls rest)) (FF : a ≤ b' → Go p e below s Q K N T (mkF m n Ls rest)) : Go p e below s Q K N T (mkF m pc Ls (.int (lcmpW x y) :: rest)) := by
  subst ha hb
  exact ifc X hx hd ht hn (fun q => FT (lc_t.mp q)) (fun q => FF (by have := mt lc_t.mpr q; first | exact this | exact Int.not_lt.mp this | exact Int.not_le.mp this | exact Classical.not_not.mp this))
theorem lif_le (X : Stand p l e R s m args below meth c T locs cells slots) (hx : p.tables.exec = Jvm.exec) {x y : Int64} {o : Int} (t n : Nat) (hd : decode c.code pc = .ok (.ifCond .le o, 3)) (ht : (pc : Int) + o = t) (hn : pc + 3 = n) {a b' : Int} (ha : x.toInt = a) (hb : y.toInt = b') (FT : a ≤ b' → Go p e below s Q K N T (mkF m t Ls rest)) (FF : b' < a → Go p e below s Q K N T (mkF m n Ls rest)) : Go p e below s Q K N T (mkF m pc Ls (.int (lcmpW x y) :: rest)) := by
  subst ha hb
  exact ifc X hx hd ht hn (fun q => FT (lc_t.mp q)) (fun q => FF (by have := mt lc_t.mpr q; first | exact this | exact Int.not_lt.mp this | exact Int.not_le.mp this | exact Classical.not_not.mp this))
theorem acmp_ne (X : Stand p l e R s m args below meth c T locs cells slots) (hx : p.tables.exec = Jvm.exec) {x y : Value} {o : Int} (t n : Nat) (hd : decode c.code pc = .ok (.if_acmp .ne o, 3)) (ht : (pc : Int) + o = t) (hn : pc + 3 = n) (h1 : x.isRef = true) (h2 : y.isRef = true) (FT : ¬ x = y → Go p e below s Q K N T (mkF m t Ls rest)) (FF : x = y → Go p e below s Q K N T (mkF m n Ls rest)) : Go p e below s Q K N T (mkF m pc Ls (y :: x :: rest)) := by
  subst hn
  by_cases q : x = y
  · exact go (fun _ h => XT.acmpNo X.here hx rfl hd rfl h1 h2 (XT.aa_ne_f q) h) (FF q)
  · exact go (fun _ h => XT.acmpYes X.here hx rfl (pc0 := pc) (pc' := t) rfl hd rfl h1 h2 (XT.aa_ne_t q) (by rw [ht]; exact Int.natCast_nonneg _) (by rw [ht]; rfl) h) (FT q)
theorem acmp_eq (X : Stand p l e R s m args below meth c T locs cells slots) (hx : p.tables.exec = Jvm.exec) {x y : Value} {o : Int} (t n : Nat) (hd : decode c.code pc = .ok (.if_acmp .eq o, 3)) (ht : (pc : Int) + o = t) (hn : pc + 3 = n) (h1 : x.isRef = true) (h2 : y.isRef = true) (FT : x = y → Go p e below s Q K N T (mkF m t Ls rest)) (FF : ¬ x = y → Go p e below s Q K N T (mkF m n Ls rest)) : Go p e below s Q K N T (mkF m pc Ls (y :: x :: rest)) := by
  subst hn
  by_cases q : x = y
  · exact go (fun _ h => XT.acmpYes X.here hx rfl (pc0 := pc) (pc' := t) rfl hd rfl h1 h2 (XT.aa_eq_t q) (by rw [ht]; exact Int.natCast_nonneg _) (by rw [ht]; rfl) h) (FT q)
  · exact go (fun _ h => XT.acmpNo X.here hx rfl hd rfl h1 h2 (XT.aa_eq_f q) h) (FF q)
theorem nonnullR (X : Stand p l e R s m args below meth c T locs cells slots) (hx : p.tables.exec = Jvm.exec) {a : Addr} {o : Int} (t : Nat) (hd : decode c.code pc = .ok (.ifnonnull o, 3)) (ht : (pc : Int) + o = t) (F : Go p e below s Q K N T (mkF m t Ls rest)) : Go p e below s Q K N T (mkF m pc Ls (.ref a :: rest)) :=
  go (fun _ h => XT.ifnonnullYes X.here hx rfl (pc0 := pc) (pc' := t) rfl hd rfl (by rw [ht]; exact Int.natCast_nonneg _) (by rw [ht]; rfl) h) F
theorem nonnullN (X : Stand p l e R s m args below meth c T locs cells slots) (hx : p.tables.exec = Jvm.exec) {o : Int} (hd : decode c.code pc = .ok (.ifnonnull o, 3)) (hn : pc + 3 = n) (F : Go p e below s Q K N T (mkF m n Ls rest)) : Go p e below s Q K N T (mkF m pc Ls (.null :: rest)) := by
  subst hn
  exact go (fun _ h => XT.ifnonnullNo X.here hx rfl hd rfl h) F
theorem nullR (X : Stand p l e R s m args below meth c T locs cells slots) (hx : p.tables.exec = Jvm.exec) {a : Addr} {o : Int} (hd : decode c.code pc = .ok (.ifnull o, 3)) (hn : pc + 3 = n) (F : Go p e below s Q K N T (mkF m n Ls rest)) : Go p e below s Q K N T (mkF m pc Ls (.ref a :: rest)) := by
  subst hn
  exact go (fun _ h => XT.nullNo X.here hx rfl hd rfl rfl (by simp) h) F
theorem nullN (X : Stand p l e R s m args below meth c T locs cells slots) (hx : p.tables.exec = Jvm.exec) {o : Int} (t : Nat) (hd : decode c.code pc = .ok (.ifnull o, 3)) (ht : (pc : Int) + o = t) (F : Go p e below s Q K N T (mkF m t Ls rest)) : Go p e below s Q K N T (mkF m pc Ls (.null :: rest)) :=
  go (fun _ h => XT.nullYes X.here hx rfl (pc0 := pc) (pc' := t) rfl hd rfl rfl (by rw [ht]; exact Int.natCast_nonneg _) (by rw [ht]; rfl) h) F
theorem getS (X : Stand p l e R s m args below meth c T locs cells slots) (hx : p.tables.exec = Jvm.exec) (hZ : Z.Warmed39 s.vm) {own O f d host : String} {index : Nat} (hown : s.vm.findClass own = some m.cls) (w : (Cond.fieldLink own index O f d).before a0 Z = true ∨ (Cond.fieldLinkNest own index O f d host).before a0 Z = true) (eT : T.heap = h) {v : Value} (S : Sta Z h O f d v) (hd : decode c.code pc = .ok (.getstatic index, 3)) (hn : pc + 3 = n)
    (F : ∀ T', Stand p l e R s m args below meth c T' locs cells slots → T'.heap = h → Go p e below s Q K N T' (mkF m n Ls (v :: st))) : Go p e below s Q K N T (mkF m pc Ls st) := by
  subst hn
  obtain ⟨T', X', e', st'⟩ := getS2 X hx hZ hown (host := host) w Via.refl eT S (g := mkF m pc Ls st) rfl hd
  exact go (fun _ h => st' _ h) (F T' X' e')
theorem getF (X : Stand p l e R s m args below meth c T locs cells slots) (hx : p.tables.exec = Jvm.exec) (hZ : Z.Warmed39 s.vm) {own O f d host : String} {index : Nat} (hown : s.vm.findClass own = some m.cls) (w : (Cond.fieldLink own index O f d).before a0 Z = true ∨ (Cond.fieldLinkNest own index O f d host).before a0 Z = true) (eT : T.heap = h) {a : Addr} {v : Value} (S : Fld Z h a O f d v) (hd : decode c.code pc = .ok (.getfield index, 3)) (hn : pc + 3 = n)
    (F : ∀ T', Stand p l e R s m args below meth c T' locs cells slots → T'.heap = h → Go p e below s Q K N T' (mkF m n Ls (v :: st))) : Go p e below s Q K N T (mkF m pc Ls (.ref a :: st)) := by
  subst hn
  obtain ⟨T', X', e', st'⟩ := RoadKit.getF X hx hZ hown (host := host) w Via.refl eT S (g := mkF m pc Ls (.ref a :: st)) rfl rfl hd
  exact go (fun _ h => st' _ h) (F T' X' e')
theorem in_of {cl : Cell} {z j : Int32} (S : cl.slots.size = z.toNatClampNeg) (N : ¬ z < 0) (h1 : 0 ≤ j.toInt) (h2 : j.toInt < z.toInt) : ¬ (j < 0 ∨ cl.slots.size ≤ j.toNatClampNeg) := by
  rw [S, Int32.lt_iff_toInt_lt]
  rw [Int32.lt_iff_toInt_lt] at N
  have e0 : (0 : Int32).toInt = 0 := rfl
  have q1 : z.toNatClampNeg = z.toInt.toNat := rfl
  have q2 : j.toNatClampNeg = j.toInt.toNat := rfl
  omega
theorem alen (X : Stand p l e R s m args below meth c T locs cells slots) (hx : p.tables.exec = Jvm.exec) (hZ : Z.Warmed39 s.vm) {a : Addr} {k : ClassId} {ty : FieldType} {z : Int32} {vs : List Value} {d : Value} (eT : T.heap = h) (A : Arv Z h a k ty z vs d) (hd : decode c.code pc = .ok (.arraylength, 1)) (hn : pc + 1 = n) (F : Go p e below s Q K N T (mkF m n Ls (.int z :: st))) : Go p e below s Q K N T (mkF m pc Ls (.ref a :: st)) := by
  subst hn
  obtain ⟨cl, Ar, -, S, N, -, -⟩ := A
  refine go (fun _ h => X.arraylength hx (by rw [eT]; exact Ar.1) (State.isArrayOf_alike hZ.alike Ar.2.1) (g := mkF m pc Ls (.ref a :: st)) rfl rfl hd _ h) ?_
  rw [len_of S N]
  exact F
theorem iaload (X : Stand p l e R s m args below meth c T locs cells slots) (hx : p.tables.exec = Jvm.exec) (hZ : Z.Warmed39 s.vm) {a : Addr} {k : ClassId} {z j : Int32} {vs : List Value} {d v : Value} (eT : T.heap = h) (A : Arv Z h a k .int z vs d) (h1 : 0 ≤ j.toInt) (h2 : j.toInt < z.toInt) (hv : vs.getD j.toNatClampNeg d = v) (hd : decode c.code pc = .ok (.iaload, 1)) (hn : pc + 1 = n) (F : Go p e below s Q K N T (mkF m n Ls (v :: st))) : Go p e below s Q K N T (mkF m pc Ls (.int j :: .ref a :: st)) := by
  subst hn
  obtain ⟨cl, Ar, -, S, N, H, -⟩ := A
  have hin := in_of S N h1 h2
  exact go (fun _ h => X.iaload hx (j := j) (v := v) (by rw [eT]; exact Ar.1) (State.isArrayOf_alike hZ.alike Ar.2.1) Ar.2.2 hin (H.at hin hv) (g := mkF m pc Ls (.int j :: .ref a :: st)) rfl rfl hd _ h) F
theorem caload (X : Stand p l e R s m args below meth c T locs cells slots) (hx : p.tables.exec = Jvm.exec) (hZ : Z.Warmed39 s.vm) {a : Addr} {k : ClassId} {z j : Int32} {vs : List Value} {d v : Value} (eT : T.heap = h) (A : Arv Z h a k .char z vs d) (h1 : 0 ≤ j.toInt) (h2 : j.toInt < z.toInt) (hv : vs.getD j.toNatClampNeg d = v) (hd : decode c.code pc = .ok (.caload, 1)) (hn : pc + 1 = n) (F : Go p e below s Q K N T (mkF m n Ls (v :: st))) : Go p e below s Q K N T (mkF m pc Ls (.int j :: .ref a :: st)) := by
  subst hn
  obtain ⟨cl, Ar, -, S, N, H, -⟩ := A
  have hin := in_of S N h1 h2
  exact go (fun _ h => X.caload hx (j := j) (v := v) (by rw [eT]; exact Ar.1) (State.isArrayOf_alike hZ.alike Ar.2.1) Ar.2.2 hin (H.at hin hv) (g := mkF m pc Ls (.int j :: .ref a :: st)) rfl rfl hd _ h) F
theorem laload (X : Stand p l e R s m args below meth c T locs cells slots) (hx : p.tables.exec = Jvm.exec) (hZ : Z.Warmed39 s.vm) {a : Addr} {k : ClassId} {z j : Int32} {vs : List Value} {d v : Value} (eT : T.heap = h) (A : Arv Z h a k .long z vs d) (h1 : 0 ≤ j.toInt) (h2 : j.toInt < z.toInt) (hv : vs.getD j.toNatClampNeg d = v) (hd : decode c.code pc = .ok (.laload, 1)) (hn : pc + 1 = n) (F : Go p e below s Q K N T (mkF m n Ls (v :: st))) : Go p e below s Q K N T (mkF m pc Ls (.int j :: .ref a :: st)) := by
  subst hn
  obtain ⟨cl, Ar, -, S, N, H, -⟩ := A
  have hin := in_of S N h1 h2
  exact go (fun _ h => X.laload hx (j := j) (v := v) (by rw [eT]; exact Ar.1) (State.isArrayOf_alike hZ.alike Ar.2.1) Ar.2.2 hin (H.at hin hv) (g := mkF m pc Ls (.int j :: .ref a :: st)) rfl rfl hd _ h) F
theorem baload (X : Stand p l e R s m args below meth c T locs cells slots) (hx : p.tables.exec = Jvm.exec) (hZ : Z.Warmed39 s.vm) {a : Addr} {k : ClassId} {z j : Int32} {vs : List Value} {d v : Value} (eT : T.heap = h) (A : Arv Z h a k .byte z vs d) (h1 : 0 ≤ j.toInt) (h2 : j.toInt < z.toInt) (hv : vs.getD j.toNatClampNeg d = v) (hd : decode c.code pc = .ok (.baload, 1)) (hn : pc + 1 = n) (F : Go p e below s Q K N T (mkF m n Ls (v :: st))) : Go p e below s Q K N T (mkF m pc Ls (.int j :: .ref a :: st)) := by
  subst hn
  obtain ⟨cl, Ar, -, S, N, H, -⟩ := A
  have hin := in_of S N h1 h2
  exact go (fun _ h => X.baloadBytes hx (j := j) (v := v) (by rw [eT]; exact Ar.1) (State.isArrayOf_alike hZ.alike Ar.2.1) Ar.2.2 hin (H.at hin hv) (g := mkF m pc Ls (.int j :: .ref a :: st)) rfl rfl hd _ h) F
theorem aaload (X : Stand p l e R s m args below meth c T locs cells slots) (hx : p.tables.exec = Jvm.exec) (hZ : Z.Warmed39 s.vm) {a : Addr} {k : ClassId} {ty : FieldType} {z j : Int32} {vs : List Value} {d v : Value} (eT : T.heap = h) (A : Arv Z h a k ty z vs d) (hty : ty.isReference = true) (h1 : 0 ≤ j.toInt) (h2 : j.toInt < z.toInt) (hv : vs.getD j.toNatClampNeg d = v) (hd : decode c.code pc = .ok (.aaload, 1)) (hn : pc + 1 = n) (F : Go p e below s Q K N T (mkF m n Ls (v :: st))) : Go p e below s Q K N T (mkF m pc Ls (.int j :: .ref a :: st)) := by
  subst hn
  obtain ⟨cl, Ar, -, S, N, H, -⟩ := A
  have hin := in_of S N h1 h2
  exact go (fun _ h => X.aaload hx (j := j) (v := v) (by rw [eT]; exact Ar.1) (State.isArrayOf_alike hZ.alike Ar.2.1) hty Ar.2.2 hin (H.at hin hv) (g := mkF m pc Ls (.int j :: .ref a :: st)) rfl rfl hd _ h) F
theorem fin {w : Option Value} {g : JFrame} (X : Stand p l e R s m args below meth c T locs cells slots) (hlk : meth.locks = false) (hv : meth.sig.returnType = none → w = none) (hc : cells ≤ K) (hs : slots ≤ N) (hQ : Q w T.heap locs) (step : ∀ fs, (∀ (f : JFrame) (acts : List Action), f.method = m → f.locked = none → f.entered = [] → (doReturn e (T.setTop f) acts w).1 = T.setFrames fs) → Steps p.tables e below (T.setTop g) (T.setFrames fs)) : Go p e below s Q K N T g := by
  obtain ⟨fs, hr, hrun, hended, hW, hsame⟩ := X.leave (v := w) hv hlk
  exact ⟨_, _, step fs hr, hrun, hended, _, _, rfl, hQ, ⟨_, rfl⟩, hW, hsame.mono hc hs⟩
theorem retI (X : Stand p l e R s m args below meth c T locs cells slots) (hx : p.tables.exec = Jvm.exec) (hlk : meth.locks = false) (hret : meth.sig.returnType = some .int) {z : Int32} (hd : decode c.code pc = .ok (.ireturn, 1)) (hc : cells ≤ K) (hs : slots ≤ N) (hQ : Q (some (.int z)) T.heap locs) : Go p e below s Q K N T (mkF m pc Ls (.int z :: rest)) :=
  fin X hlk (fun h => by rw [hret] at h; cases h) hc hs hQ (fun _ hr => retOut X hx hret rfl (Or.inl ⟨rfl, Or.inl rfl, _, rfl⟩) hd hr)
theorem retZ (X : Stand p l e R s m args below meth c T locs cells slots) (hx : p.tables.exec = Jvm.exec) (hlk : meth.locks = false) (hret : meth.sig.returnType = some .boolean) {z : Int32} (hd : decode c.code pc = .ok (.ireturn, 1)) (hz : z = 0 ∨ z = 1) (hc : cells ≤ K) (hs : slots ≤ N) (hQ : Q (some (.int z)) T.heap locs) : Go p e below s Q K N T (mkF m pc Ls (.int z :: rest)) :=
  fin X hlk (fun h => by rw [hret] at h; cases h) hc hs hQ (fun _ hr => retOut X hx hret (by rcases hz with rfl | rfl <;> rfl) (Or.inl ⟨rfl, Or.inr (Or.inl rfl), _, rfl⟩) hd hr)
theorem b01 {P : Prop} [Decidable P] : b P = 0 ∨ b P = 1 := by by_cases q : P <;> simp [b, q]
theorem retC (X : Stand p l e R s m args below meth c T locs cells slots) (hx : p.tables.exec = Jvm.exec) (hlk : meth.locks = false) (hret : meth.sig.returnType = some .char) {z : Int32} (hd : decode c.code pc = .ok (.ireturn, 1)) (hz : narrow .char (.int z) = .int z) (hc : cells ≤ K) (hs : slots ≤ N) (hQ : Q (some (.int z)) T.heap locs) : Go p e below s Q K N T (mkF m pc Ls (.int z :: rest)) :=
  fin X hlk (fun h => by rw [hret] at h; cases h) hc hs hQ (fun _ hr => retOut X hx hret hz (Or.inl ⟨rfl, Or.inr (Or.inr (Or.inr (Or.inl rfl))), _, rfl⟩) hd hr)
theorem retB (X : Stand p l e R s m args below meth c T locs cells slots) (hx : p.tables.exec = Jvm.exec) (hlk : meth.locks = false) (hret : meth.sig.returnType = some .byte) {z : Int32} (hd : decode c.code pc = .ok (.ireturn, 1)) (hz : narrow .byte (.int z) = .int z) (hc : cells ≤ K) (hs : slots ≤ N) (hQ : Q (some (.int z)) T.heap locs) : Go p e below s Q K N T (mkF m pc Ls (.int z :: rest)) :=
  fin X hlk (fun h => by rw [hret] at h; cases h) hc hs hQ (fun _ hr => retOut X hx hret hz (Or.inl ⟨rfl, Or.inr (Or.inr (Or.inl rfl)), _, rfl⟩) hd hr)
theorem retL (X : Stand p l e R s m args below meth c T locs cells slots) (hx : p.tables.exec = Jvm.exec) (hlk : meth.locks = false) (hret : meth.sig.returnType = some .long) {z : Int64} (hd : decode c.code pc = .ok (.lreturn, 1)) (hc : cells ≤ K) (hs : slots ≤ N) (hQ : Q (some (.long z)) T.heap locs) : Go p e below s Q K N T (mkF m pc Ls (.long z :: rest)) :=
  fin X hlk (fun h => by rw [hret] at h; cases h) hc hs hQ (fun _ hr => retOut X hx hret rfl (Or.inr (Or.inl ⟨rfl, rfl, _, rfl⟩)) hd hr)
theorem retA (X : Stand p l e R s m args below meth c T locs cells slots) (hx : p.tables.exec = Jvm.exec) (hlk : meth.locks = false) {ty : FieldType} (hret : meth.sig.returnType = some ty) (hty : ty.isReference = true) {v : Value} (hv : v.isRef = true) (hd : decode c.code pc = .ok (.areturn, 1)) (hc : cells ≤ K) (hs : slots ≤ N) (hQ : Q (some v) T.heap locs) : Go p e below s Q K N T (mkF m pc Ls (v :: rest)) :=
  fin X hlk (fun h => by rw [hret] at h; cases h) hc hs hQ (fun _ hr => retOut X hx hret (by cases ty <;> cases v <;> first | rfl | simp [Value.isRef] at hv | simp [FieldType.isReference] at hty) (Or.inr (Or.inr (Or.inr (Or.inr ⟨rfl, hty, hv⟩)))) hd hr)
theorem retV (X : Stand p l e R s m args below meth c T locs cells slots) (hx : p.tables.exec = Jvm.exec) (hlk : meth.locks = false) (hret : meth.sig.returnType = none) (hd : decode c.code pc = .ok (.return_, 1)) (hc : cells ≤ K) (hs : slots ≤ N) (hQ : Q none T.heap locs) : Go p e below s Q K N T (mkF m pc Ls []) :=
  fin X hlk (fun _ => rfl) hc hs hQ (fun _ hr => X.returnOut hx hret hd hr)
/-- a method's contract: with the arguments as', over the heap h0, it comes back and Q holds -/
def Met (l : Launch) (Z : State) (y : MethodName) (bytes : ByteArray) (maxL : Nat) (ret : Option FieldType) (ws : List Cond) (rm : Room) (as' : Array Value) (h0 : Heap) (Q : Option Value → Heap → List Loc → Prop) : Prop :=
  MetFree l y (head1 (Cond.code y bytes maxL ret :: ws) rm) (fun a U => a = as' ∧ Z.Warmed39 U.vm ∧ U.heap = h0) (fun _ _ _ _ _ => True) (fun _ U o U' => ∃ v L, o = .returned v ∧ Q v U'.heap L ∧ FrameEnd U o U' L rm.cells rm.slots)
/-- nothing written, nothing made: it returns w -/
def Pu (w : Value) (h0 : Heap) (v : Option Value) (h : Heap) (L : List Loc) : Prop := v = some w ∧ L = [] ∧ h = h0
theorem start {y : MethodName} {bytes : ByteArray} {maxL : Nat} {ret : Option FieldType} {ws : List Cond} {rm : Room} {as' : Array Value} {h0 : Heap} (pn : plainName y.cls = true)
    (body : ∀ (p : Program) (e : Env) (s : State) (m : MethodId) (below : List Frame) (meth : Method) (c : Code) (s₁ : State), Stand p l e rm s m as' below meth c s₁ [] 0 0 → p.tables.exec = Jvm.exec → c.code = bytes → c.maxLocals = maxL → s.vm.findClass y.cls = some m.cls → meth.name = y.name → meth.sig.returnType = ret → meth.locks = false → Z.Warmed39 s.vm → s₁.heap = h0 → Go p e below s Q rm.cells rm.slots s₁ (entryFrame m as' maxL)) : Met l Z y bytes maxL ret ws rm as' h0 Q := by
  refine MetFree.of_bodySF (plainFor_of_name pn) hisR ?_
  intro p e s m args below meth c s₁ Bd hml0 hP hK
  obtain ⟨rfl, hZ, hh⟩ := hP
  exact body p e s m below meth c s₁ (Stand.of_body Bd) Bd.exec Bd.bytes hml0 (findClass_of_methodNamed Bd.named) (name_of_methodNamed Bd.named Bd.method).1 Bd.returns Bd.notSynchronized hZ (by rw [← hh, Bd.state]; rfl)
theorem enter {g g' : JFrame} (q : g = g') (F : Go p e below s Q K N T g') : Go p e below s Q K N T g := q ▸ F
theorem callS (X : Stand p l e R s m args below meth c T locs cells slots) (hx : p.tables.exec = Jvm.exec) (hZ : Z.Warmed39 s.vm) {own : String} {index : Nat} {y : MethodName} {bytes : ByteArray} {maxL W : Nat} {ret : Option FieldType} {rm : Room} {Qc : Option Value → Heap → List Loc → Prop} {argsL : List Value} (hown : s.vm.findClass own = some m.cls)
    (wl : (Cond.methodLink own index y).before a0 Z = true) (ws : (Cond.static y).before a0 Z = true) (wi : (Cond.initialized y.cls).before a0 Z = true) (wc : (Cond.code y bytes maxL ret).before a0 Z = true) (hy : y.cls ≠ "java/lang/invoke/MethodHandle" ∧ y.cls ≠ "java/lang/invoke/VarHandle")
    (hM : Met l Z y bytes maxL ret [] rm argsL.toArray h Qc) (eT : T.heap = h) (hf : rm.frames + 1 ≤ R.frames) (hl : W + (maxL + 11) + rm.locals ≤ R.locals) (hck : cells + rm.cells ≤ R.cells) (hsk : slots + rm.slots ≤ R.slots) (hsz : Ls.size = c.maxLocals)
    (hlen : ∀ sig, parseMethodDescriptor y.desc = some sig → argsL.length = sig.parameters.length) (hst : st = argsL.reverse ++ rest) (hW : (rest.map fun v => v.category).sum ≤ W) (hd : decode c.code pc = .ok (.invokestatic index, 3)) (hn : pc + 3 = n)
    (F : ∀ T' v L, Stand p l e R s m args below meth c T' (locs ++ L) (cells + rm.cells) (slots + rm.slots) → Qc v T'.heap L → Go p e below s Q K N T' (mkF m n Ls (v.toList ++ rest))) : Go p e below s Q K N T (mkF m pc Ls st) := by
  subst hn
  obtain ⟨v, _, ⟨T18, L18, k18, n18⟩, -, X18, ⟨Lc18, hQ18, l18, y18, z18⟩, st18⟩ := Jvm.LawKit.callS X hx (y := y) hown (mvT hZ wl) (mvT hZ ws) (mvT hZ wi) (mvT hZ wc) hy (backOf (W := W) hM hZ wc wi hf hl) (g := mkF m pc Ls st) rfl hsz (argsL := argsL) (rest := rest) hlen hst (by show 2 * 0 + _ ≤ _; omega) hd (fun _ _ => ⟨rfl, eT, hck, hsk⟩)
  dsimp only [Pt.U, Pt.locs, Pt.cells, Pt.slots] at X18 l18 y18 z18 st18 hQ18
  subst l18 y18 z18
  exact go (fun _ h => st18 _ h) (F T18 v Lc18 X18 hQ18)
theorem callP (X : Stand p l e R s m args below meth c T locs cells slots) (hx : p.tables.exec = Jvm.exec) (hZ : Z.Warmed39 s.vm) {own : String} {index : Nat} {y : MethodName} {bytes : ByteArray} {maxL W : Nat} {ret : Option FieldType} {fr lo : Nat} {w : Value} {argsL : List Value} (hown : s.vm.findClass own = some m.cls)
    (wl : (Cond.methodLink own index y).before a0 Z = true) (ws : (Cond.static y).before a0 Z = true) (wi : (Cond.initialized y.cls).before a0 Z = true) (wc : (Cond.code y bytes maxL ret).before a0 Z = true) (hy : y.cls ≠ "java/lang/invoke/MethodHandle" ∧ y.cls ≠ "java/lang/invoke/VarHandle")
    (hM : Met l Z y bytes maxL ret [] { frames := fr, cells := 0, slots := 0, locals := lo } argsL.toArray h (Pu w h)) (eT : T.heap = h) (hf : fr + 1 ≤ R.frames) (hl : W + (maxL + 11) + lo ≤ R.locals) (hck : cells ≤ R.cells) (hsk : slots ≤ R.slots) (hsz : Ls.size = c.maxLocals)
    (hlen : ∀ sig, parseMethodDescriptor y.desc = some sig → argsL.length = sig.parameters.length) (hst : st = argsL.reverse ++ rest) (hW : (rest.map fun v => v.category).sum ≤ W) (hd : decode c.code pc = .ok (.invokestatic index, 3)) (hn : pc + 3 = n)
    (F : ∀ T', Stand p l e R s m args below meth c T' locs cells slots → T'.heap = h → Go p e below s Q K N T' (mkF m n Ls (w :: rest))) : Go p e below s Q K N T (mkF m pc Ls st) := by
  refine callS X hx hZ hown wl ws wi wc hy hM eT hf hl hck hsk hsz hlen hst hW hd hn ?_
  rintro T' v L X' ⟨rfl, rfl, hh⟩
  rw [List.append_nil] at X'
  exact F T' X' hh
theorem callV (X : Stand p l e R s m args below meth c T locs cells slots) (hx : p.tables.exec = Jvm.exec) (hZ : Z.Warmed39 s.vm) {own C : String} {index : Nat} {y z : MethodName} {bytes : ByteArray} {maxL W : Nat} {ret : Option FieldType} {rm : Room} {Qc : Option Value → Heap → List Loc → Prop} {argsL : List Value} {a : Addr} (hown : s.vm.findClass own = some m.cls)
    (wl : (Cond.methodLink own index y).before a0 Z = true) (wd : (Cond.declares y).before a0 Z = true) (wsel : (Cond.selects C y z).before a0 Z = true) (wm : (Cond.instanceMethod z).before a0 Z = true) (wi : (Cond.initialized z.cls).before a0 Z = true) (wc : (Cond.code z bytes maxL ret).before a0 Z = true) (hnf : NotFace s y) (hy : y.cls ≠ "java/lang/invoke/MethodHandle" ∧ y.cls ≠ "java/lang/invoke/VarHandle")
    (hM : Met l Z z bytes maxL ret [] rm (Value.ref a :: argsL).toArray h Qc) (eT : T.heap = h) (E : Exa Z h a C) (hf : rm.frames + 1 ≤ R.frames) (hl : W + (maxL + 11) + rm.locals ≤ R.locals) (hck : cells + rm.cells ≤ R.cells) (hsk : slots + rm.slots ≤ R.slots) (hsz : Ls.size = c.maxLocals)
    (hlen : ∀ sig, parseMethodDescriptor y.desc = some sig → argsL.length = sig.parameters.length) (hst : st = argsL.reverse ++ .ref a :: rest) (hW : (rest.map fun v => v.category).sum ≤ W) (hd : decode c.code pc = .ok (.invokevirtual index, 3)) (hn : pc + 3 = n)
    (F : ∀ T' v L, Stand p l e R s m args below meth c T' (locs ++ L) (cells + rm.cells) (slots + rm.slots) → Qc v T'.heap L → Go p e below s Q K N T' (mkF m n Ls (v.toList ++ rest))) : Go p e below s Q K N T (mkF m pc Ls st) := by
  subst hn
  obtain ⟨cq, kq, qa, qb, qc⟩ := isOf hZ eT E
  obtain ⟨v, _, ⟨T18, L18, k18, n18⟩, -, X18, ⟨Lc18, hQ18, l18, y18, z18⟩, st18⟩ := X.virtualBack hx (y := y) (z := z) hown (mvT hZ wl) (mvT hZ wd) hnf (mvT hZ wsel) (mvT hZ wm) hy (backOf (W := W) hM hZ wc wi hf hl) qa qc (g := mkF m pc Ls st) rfl hsz (Steps.refl _) (argsL := argsL) (rest := rest) hlen hst (by show 2 * 0 + _ ≤ _; omega) hd (fun _ _ => ⟨rfl, eT, hck, hsk⟩)
  dsimp only [Pt.U, Pt.locs, Pt.cells, Pt.slots] at X18 l18 y18 z18 st18 hQ18
  subst l18 y18 z18
  exact go (fun _ h => st18.trans h) (F T18 v Lc18 X18 hQ18)
theorem callVP (X : Stand p l e R s m args below meth c T locs cells slots) (hx : p.tables.exec = Jvm.exec) (hZ : Z.Warmed39 s.vm) {own C : String} {index : Nat} {y z : MethodName} {bytes : ByteArray} {maxL W : Nat} {ret : Option FieldType} {fr lo : Nat} {w : Value} {argsL : List Value} {a : Addr} (hown : s.vm.findClass own = some m.cls)
    (wl : (Cond.methodLink own index y).before a0 Z = true) (wd : (Cond.declares y).before a0 Z = true) (wsel : (Cond.selects C y z).before a0 Z = true) (wm : (Cond.instanceMethod z).before a0 Z = true) (wi : (Cond.initialized z.cls).before a0 Z = true) (wc : (Cond.code z bytes maxL ret).before a0 Z = true) (hnf : NotFace s y) (hy : y.cls ≠ "java/lang/invoke/MethodHandle" ∧ y.cls ≠ "java/lang/invoke/VarHandle")
    (hM : Met l Z z bytes maxL ret [] { frames := fr, cells := 0, slots := 0, locals := lo } (Value.ref a :: argsL).toArray h (Pu w h)) (eT : T.heap = h) (E : Exa Z h a C) (hf : fr + 1 ≤ R.frames) (hl : W + (maxL + 11) + lo ≤ R.locals) (hck : cells ≤ R.cells) (hsk : slots ≤ R.slots) (hsz : Ls.size = c.maxLocals)
    (hlen : ∀ sig, parseMethodDescriptor y.desc = some sig → argsL.length = sig.parameters.length) (hst : st = argsL.reverse ++ .ref a :: rest) (hW : (rest.map fun v => v.category).sum ≤ W) (hd : decode c.code pc = .ok (.invokevirtual index, 3)) (hn : pc + 3 = n)
    (F : ∀ T', Stand p l e R s m args below meth c T' locs cells slots → T'.heap = h → Go p e below s Q K N T' (mkF m n Ls (w :: rest))) : Go p e below s Q K N T (mkF m pc Ls st) := by
  refine callV X hx hZ hown wl wd wsel wm wi wc hnf hy hM eT E hf hl hck hsk hsz hlen hst hW hd hn ?_
  rintro T' v L X' ⟨rfl, rfl, hh⟩
  rw [List.append_nil] at X'
  exact F T' X' hh
theorem icmp_eqB (X : Stand p l e R s m args below meth c T locs cells slots) (hx : p.tables.exec = Jvm.exec) {P P' : Prop} [Decidable P] [Decidable P'] {o : Int} (t n : Nat) (hd : decode c.code pc = .ok (.if_icmp .eq o, 3)) (ht : (pc : Int) + o = t) (hn : pc + 3 = n) (FT : (P ↔ P') → Go p e below s Q K N T (mkF m t Ls rest)) (FF : ¬ (P ↔ P') → Go p e below s Q K N T (mkF m n Ls rest)) : Go p e below s Q K N T (mkF m pc Ls (.int (b P') :: .int (b P) :: rest)) :=
  icmp_eq X hx t n hd ht hn rfl rfl (fun q => FT (b_inj (Int32.toInt_inj.mp q))) (fun q => FF fun z => q (by rw [b_iff z]))
theorem tsw (X : Stand p l e R s m args below meth c T locs cells slots) (hx : p.tables.exec = Jvm.exec) {dflt low high : Int} {offs : Array Int} {len : Nat} {o : Int} {i : Int32} (t : Nat) (hd : decode c.code pc = .ok (.tableswitch dflt low high offs, len)) (hin : ¬ (i.toInt < low ∨ i.toInt > high)) (hoff : offs[(i.toInt - low).toNat]? = some o) (ht : (pc : Int) + o = t) (F : Go p e below s Q K N T (mkF m t Ls rest)) : Go p e below s Q K N T (mkF m pc Ls (.int i :: rest)) :=
  go (fun _ h => XS.tswIn X.here hx rfl (pc0 := pc) (pc' := t) rfl hd rfl hin hoff (by rw [ht]; exact Int.natCast_nonneg _) (by rw [ht]; rfl) h) F
theorem callVU (X : Stand p l e R s m args below meth c T locs cells slots) (hx : p.tables.exec = Jvm.exec) (hZ : Z.Warmed39 s.vm) {own C owner : String} {index : Nat} {y z : MethodName} {bytes : ByteArray} {maxL W : Nat} {ret : Option FieldType} {rm : Room} {Qc : Option Value → Heap → List Loc → Prop} {argsL : List Value} {a : Addr} (hown : s.vm.findClass own = some m.cls)
    (wl : (Cond.methodLink own index y).before a0 Z = true) (wsm : (Cond.sameMethod y.cls owner y.name y.desc).before a0 Z = true) (wd : (Cond.declares ⟨owner, y.name, y.desc⟩).before a0 Z = true) (wsel : (Cond.selects C y z).before a0 Z = true) (wm : (Cond.instanceMethod z).before a0 Z = true) (wi : (Cond.initialized z.cls).before a0 Z = true) (wc : (Cond.code z bytes maxL ret).before a0 Z = true) (hy : owner ≠ "java/lang/invoke/MethodHandle" ∧ owner ≠ "java/lang/invoke/VarHandle")
    (hM : Met l Z z bytes maxL ret [] rm (Value.ref a :: argsL).toArray h Qc) (eT : T.heap = h) (E : Exa Z h a C) (hf : rm.frames + 1 ≤ R.frames) (hl : W + (maxL + 11) + rm.locals ≤ R.locals) (hck : cells + rm.cells ≤ R.cells) (hsk : slots + rm.slots ≤ R.slots) (hsz : Ls.size = c.maxLocals)
    (hlen : ∀ sig, parseMethodDescriptor y.desc = some sig → argsL.length = sig.parameters.length) (hst : st = argsL.reverse ++ .ref a :: rest) (hW : (rest.map fun v => v.category).sum ≤ W) (hd : decode c.code pc = .ok (.invokevirtual index, 3)) (hn : pc + 3 = n)
    (F : ∀ T' v L, Stand p l e R s m args below meth c T' (locs ++ L) (cells + rm.cells) (slots + rm.slots) → Qc v T'.heap L → Go p e below s Q K N T' (mkF m n Ls (v.toList ++ rest))) : Go p e below s Q K N T (mkF m pc Ls st) := by
  subst hn
  obtain ⟨cq, kq, qa, qb, qc⟩ := isOf hZ eT E
  obtain ⟨v, _, ⟨T18, L18, k18, n18⟩, -, X18, ⟨Lc18, hQ18, l18, y18, z18⟩, st18⟩ := X.virtualBackUp hx (x := y) (y := z) hown (mvT hZ wl) (mvT hZ wsm) (mvT hZ wd) hy (mvT hZ wsel) (mvT hZ wm) (backOf (W := W) hM hZ wc wi hf hl) qa qc (g := mkF m pc Ls st) rfl hsz (Steps.refl _) (argsL := argsL) (rest := rest) hlen hst (by show 2 * 0 + _ ≤ _; omega) hd (fun _ _ => ⟨rfl, eT, hck, hsk⟩)
  dsimp only [Pt.U, Pt.locs, Pt.cells, Pt.slots] at X18 l18 y18 z18 st18 hQ18
  subst l18 y18 z18
  exact go (fun _ h => st18.trans h) (F T18 v Lc18 X18 hQ18)
theorem callVUP (X : Stand p l e R s m args below meth c T locs cells slots) (hx : p.tables.exec = Jvm.exec) (hZ : Z.Warmed39 s.vm) {own C owner : String} {index : Nat} {y z : MethodName} {bytes : ByteArray} {maxL W : Nat} {ret : Option FieldType} {fr lo : Nat} {w : Value} {argsL : List Value} {a : Addr} (hown : s.vm.findClass own = some m.cls)
    (wl : (Cond.methodLink own index y).before a0 Z = true) (wsm : (Cond.sameMethod y.cls owner y.name y.desc).before a0 Z = true) (wd : (Cond.declares ⟨owner, y.name, y.desc⟩).before a0 Z = true) (wsel : (Cond.selects C y z).before a0 Z = true) (wm : (Cond.instanceMethod z).before a0 Z = true) (wi : (Cond.initialized z.cls).before a0 Z = true) (wc : (Cond.code z bytes maxL ret).before a0 Z = true) (hy : owner ≠ "java/lang/invoke/MethodHandle" ∧ owner ≠ "java/lang/invoke/VarHandle")
    (hM : Met l Z z bytes maxL ret [] { frames := fr, cells := 0, slots := 0, locals := lo } (Value.ref a :: argsL).toArray h (Pu w h)) (eT : T.heap = h) (E : Exa Z h a C) (hf : fr + 1 ≤ R.frames) (hl : W + (maxL + 11) + lo ≤ R.locals) (hck : cells ≤ R.cells) (hsk : slots ≤ R.slots) (hsz : Ls.size = c.maxLocals)
    (hlen : ∀ sig, parseMethodDescriptor y.desc = some sig → argsL.length = sig.parameters.length) (hst : st = argsL.reverse ++ .ref a :: rest) (hW : (rest.map fun v => v.category).sum ≤ W) (hd : decode c.code pc = .ok (.invokevirtual index, 3)) (hn : pc + 3 = n)
    (F : ∀ T', Stand p l e R s m args below meth c T' locs cells slots → T'.heap = h → Go p e below s Q K N T' (mkF m n Ls (w :: rest))) : Go p e below s Q K N T (mkF m pc Ls st) := by
  refine callVU X hx hZ hown wl wsm wd wsel wm wi wc hy hM eT E hf hl hck hsk hsz hlen hst hW hd hn ?_
  rintro T' v L X' ⟨rfl, rfl, hh⟩
  rw [List.append_nil] at X'
  exact F T' X' hh
theorem cutF (g' : JFrame) {g : JFrame} (h1 : Go p e below s Q K N T g' → Go p e below s Q K N T g) (h2 : Go p e below s Q K N T g') : Go p e below s Q K N T g := h1 h2
theorem cutJ (g' : Int32 → JFrame) {g : JFrame} (h1 : (∀ j, Go p e below s Q K N T (g' j)) → Go p e below s Q K N T g) (h2 : ∀ j, Go p e below s Q K N T (g' j)) : Go p e below s Q K N T g := h1 h2
theorem cutX (X : Stand p l e R s m args below meth c T locs cells slots) (eT : T.heap = h) (g' : JFrame) {g : JFrame} (h1 : (∀ T', Stand p l e R s m args below meth c T' locs cells slots → T'.heap = h → Go p e below s Q K N T' g') → Go p e below s Q K N T g) (h2 : ∀ T', Stand p l e R s m args below meth c T' locs cells slots → T'.heap = h → Go p e below s Q K N T' g') : Go p e below s Q K N T g := h1 h2
theorem pu {w : Value} {h' : Heap} (e : h' = h) : Pu w h (some w) h' [] := ⟨rfl, rfl, e⟩
theorem puE {w w' : Value} {h' : Heap} (q : w' = w) (e : h' = h) : Pu w h (some w') h' [] := ⟨by rw [q], rfl, e⟩
theorem puB1 {P : Prop} [Decidable P] {h' : Heap} (hP : P) (e : h' = h) : Pu (.int (b P)) h (some (.int 1)) h' [] := ⟨by rw [b_t hP], rfl, e⟩
theorem puB0 {P : Prop} [Decidable P] {h' : Heap} (hP : ¬ P) (e : h' = h) : Pu (.int (b P)) h (some (.int 0)) h' [] := ⟨by rw [b_f hP], rfl, e⟩
end W
section A
theorem t_add {x y : Int32} {a b' : Int} (ha : x.toInt = a) (hb : y.toInt = b') (h1 : -2147483648 ≤ a + b') (h2 : a + b' < 2147483648) : (x + y).toInt = a + b' := by
  subst ha hb; rw [Int32.toInt_add]; exact Int.bmod_eq_of_le (by omega) (by omega)
theorem t_sub {x y : Int32} {a b' : Int} (ha : x.toInt = a) (hb : y.toInt = b') (h1 : -2147483648 ≤ a - b') (h2 : a - b' < 2147483648) : (x - y).toInt = a - b' := by
  subst ha hb; rw [Int32.toInt_sub]; exact Int.bmod_eq_of_le (by omega) (by omega)
theorem t_mul {x y : Int32} {a b' : Int} (ha : x.toInt = a) (hb : y.toInt = b') (h1 : -2147483648 ≤ a * b') (h2 : a * b' < 2147483648) : (x * y).toInt = a * b' := by
  subst ha hb; rw [Int32.toInt_mul]; exact Int.bmod_eq_of_le (by omega) (by omega)
theorem t_div {x y : Int32} {a d : Int} (ha : x.toInt = a) (hb : y.toInt = d) (h0 : 0 ≤ a) (hd : 0 < d) : (x / y).toInt = a / d := by
  subst ha hb
  have hy : y ≠ -1 := fun q => by rw [q] at hd; exact absurd hd (by decide)
  exact (c_idiv x y _ rfl hy).1 h0
theorem t_rem {x y : Int32} {a d : Int} (ha : x.toInt = a) (hb : y.toInt = d) (h0 : 0 ≤ a) : (x % y).toInt = a % d := by
  subst ha hb; exact (c_irem x y _ rfl).1 h0
theorem s_add {x y : Int64} {a b' : Int} (ha : x.toInt = a) (hb : y.toInt = b') (h1 : -9223372036854775808 ≤ a + b') (h2 : a + b' < 9223372036854775808) : (x + y).toInt = a + b' := by
  subst ha hb; rw [Int64.toInt_add]; exact Int.bmod_eq_of_le (by omega) (by omega)
theorem s_sub {x y : Int64} {a b' : Int} (ha : x.toInt = a) (hb : y.toInt = b') (h1 : -9223372036854775808 ≤ a - b') (h2 : a - b' < 9223372036854775808) : (x - y).toInt = a - b' := by
  subst ha hb; rw [Int64.toInt_sub]; exact Int.bmod_eq_of_le (by omega) (by omega)
theorem t_i2l {x : Int32} {a : Int} (ha : x.toInt = a) : x.toInt64.toInt = a := by rw [Int32.toInt_toInt64]; exact ha
theorem s_l2i {x : Int64} {a : Int} (ha : x.toInt = a) (h1 : -2147483648 ≤ a) (h2 : a < 2147483648) : x.toInt32.toInt = a := by
  have := c_l2i x; have h3 := x.toInt32.toInt_lt; have h4 := x.toInt32.le_toInt; omega
theorem t_i2s {x : Int32} {a : Int} (ha : x.toInt = a) (h1 : -32768 ≤ a) (h2 : a < 32768) : x.toInt16.toInt32.toInt = a := by
  have := c_i2s x; omega
end A
section V
variable {args : Array Value} {first s : State} {o : Option Outcome} {idx : List Nat} {t : Term}
theorem eqI_v {k : Int32} (h : (Cond.eq t (.int k)).value args first o s idx = some true) : t.eval args first o idx s = some (.int k) := by
  simp only [Cond.value, Term.eval] at h
  cases ht : t.eval args first o idx s with
  | none => simp [ht] at h
  | some x => cases x <;> simp [ht] at h ⊢; exact h
theorem eqJ_v {k : Int64} (h : (Cond.eq t (.long k)).value args first o s idx = some true) : t.eval args first o idx s = some (.long k) := by
  simp only [Cond.value, Term.eval] at h
  cases ht : t.eval args first o idx s with
  | none => simp [ht] at h
  | some x => cases x <;> simp [ht] at h ⊢; exact h
theorem foldl_all {f : Nat → Option Bool} : ∀ (L : List Nat) (acc : Option Bool), L.foldl (fun acc i => match acc with | some true => f i | x => x) acc = some true → acc = some true ∧ ∀ i ∈ L, f i = some true
  | [], acc, h => ⟨h, fun _ q => nomatch q⟩
  | i :: L, acc, h => by
    obtain ⟨h1, h2⟩ := foldl_all L _ h
    match acc, h1 with
    | some true, h1 => exact ⟨rfl, fun j q => (List.mem_cons.mp q).elim (fun z => z ▸ h1) (h2 j)⟩
theorem all_v {c : Cond} {a : Addr} {cell : Cell} (h : (Cond.all t c).value args first o s idx = some true) (ht : t.eval args first o idx s = some (.ref a)) (hc : s.arrayAt? a = some cell) : ∀ i, i < cell.slots.size → c.value args first o s (i :: idx) = some true := by
  simp only [Cond.value, ht, hc] at h
  exact fun i hi => (foldl_all _ _ h).2 i (List.mem_range.mpr hi)
theorem elI {x : Addr} {j k : Int32} {cl : Cell} {i : Nat} (h : (Cond.eq (.elem t (.int j)) (.int k)).value args first o s idx = some true) (ht : t.eval args first o idx s = some (.ref x)) (hc : s.heap[x]? = some cl) (hi : j.toNatClampNeg = i) : cl.slots[i]? = some (.int k) := by
  subst hi; exact (elem_in (eqI_v h) ht rfl hc).2
theorem elN {x : Addr} {j : Int32} {cl : Cell} {i : Nat} (h : (Cond.eq (.elem t (.int j)) .null).value args first o s idx = some true) (ht : t.eval args first o idx s = some (.ref x)) (hc : s.heap[x]? = some cl) (hi : j.toNatClampNeg = i) : cl.slots[i]? = some .null := by
  subst hi; exact (elem_in (null_v h) ht rfl hc).2
theorem eqR_v {t' : Term} {v : Value} (hv : v.isRef = true) (h : (Cond.eq t t').value args first o s idx = some true) (ht : t'.eval args first o idx s = some v) : t.eval args first o idx s = some v := by
  obtain ⟨x, y, e1, e2, k1, k2⟩ := cmp_v (Or.inl h)
  cases ht.symm.trans e2
  have hx : x.isRef = true := by rcases ref_cases hv with rfl | ⟨z, rfl⟩ <;> exact k2.2
  rw [e1, gotT (eq_R e1 e2 hx hv) h]
theorem elR {x y : Addr} {j : Int32} {cl : Cell} {i : Nat} {t' : Term} (h : (Cond.eq (.elem t (.int j)) t').value args first o s idx = some true) (hy : t'.eval args first o idx s = some (.ref y)) (ht : t.eval args first o idx s = some (.ref x)) (hc : s.heap[x]? = some cl) (hi : j.toNatClampNeg = i) : cl.slots[i]? = some (.ref y) := by
  subst hi; exact (elem_in (eqR_v rfl h hy) ht rfl hc).2
theorem or_f {c d : Cond} (h : (Cond.or c d).value args first o s idx = some true) (hc : c.value args first o s idx = some false) : d.value args first o s idx = some true := by
  simpa only [Cond.value, hc] using h
theorem len_fit {x : Addr} {cl : Cell} {ty : FieldType} {k : Int32} {Z : State} (h : (Cond.eq (.length t) (.int k)).value args Z none Z [] = some true) (ht : t.eval args Z none [] Z = some (.ref x)) (A : Arr Z Z.heap x cl ty) : cl.slots.size < 2 ^ 31 ∧ cl.slots.size.toInt32 = k := by
  have h1 := eqI_v h
  have h2 : Z.arrayAt? x = some cl := A.fin (Vm.Alike.refl _)
  simp only [Term.eval, ht, h2, Option.bind_eq_bind, Option.bind_some] at h1
  by_cases q : cl.slots.size < 2 ^ 31
  · simp [q] at h1; exact ⟨q, h1⟩
  · simp [q] at h1
theorem fldI {Z : State} {a : Addr} {C n d : String} {k : Int32} (ev : t.eval args Z none [] Z = some (.ref a)) (h : (Cond.eq (.field t C n d) (.int k)).value args Z none Z [] = some true) : Fld Z Z.heap a C n d (.int k) := Fld.start ((fld_at ev).symm.trans (eqI_v h))
theorem fldJ {Z : State} {a : Addr} {C n d : String} {k : Int64} (ev : t.eval args Z none [] Z = some (.ref a)) (h : (Cond.eq (.field t C n d) (.long k)).value args Z none Z [] = some true) : Fld Z Z.heap a C n d (.long k) := Fld.start ((fld_at ev).symm.trans (eqJ_v h))
end V

section H
variable {p : Program} {l : Launch} {e : Env} {R : Room} {s : State} {m : MethodId} {args : Array Value} {below : List Frame} {meth : Method} {c : Code} {T T' : State} {locs : List Loc} {cells slots : Nat} {Q : Option Value → Heap → List Loc → Prop} {K N pc n t : Nat} {Ls l' : Array Slot} {st rest : List Value} {Z : State} {a0 : Array Value} {h : Heap}
/-- a law that writes only what it made -/
def Fq (w : Value) (n0 : Nat) (v : Option Value) (h : Heap) (L : List Loc) : Prop := v = some w ∧ Fr n0 L
theorem newO (X : Stand p l e R s m args below meth c T locs cells slots) (hx : p.tables.exec = Jvm.exec) (hZ : Z.Warmed39 s.vm) {own C : String} {index k : Nat} (hown : s.vm.findClass own = some m.cls) (w : (Cond.classLink own index C).before a0 Z = true) (wi : (Cond.instantiable C k).before a0 Z = true) (wz : (Cond.initialized C).before a0 Z = true) (eT : T.heap = h) (hd : decode c.code pc = .ok (.new index, 3)) (hc : cells + 1 ≤ R.cells) (hl : slots + k ≤ R.slots) (hn : pc + 3 = n)
    (F : ∀ T' h', Stand p l e R s m args below meth c T' locs (cells + 1) (slots + k) → T'.heap = h' → Ext h h' → Exa Z h' h.size C → (∀ {O nm d : String} {ty : FieldType}, Laid Z a0 C O nm d → parseFieldDescriptor d = some ty → Fld Z h' h.size O nm d (defaultValue ty)) → Go p e below s Q K N T' (mkF m n Ls (.ref h.size :: st))) : Go p e below s Q K N T (mkF m pc Ls st) := by
  subst hn
  obtain ⟨T2, h2, X2, e2, E2, A2, D2, -, st2⟩ := RoadKit.newO X hx hZ hown w wi wz eT (g := mkF m pc Ls st) rfl hd hc hl
  exact go (fun _ h => st2 _ h) (F T2 h2 X2 e2 E2 A2 D2)
theorem putF (X : Stand p l e R s m args below meth c T locs cells slots) (hx : p.tables.exec = Jvm.exec) (hZ : Z.Warmed39 s.vm) {own O f d host C : String} {index kk : Nat} {ty : FieldType} (hown : s.vm.findClass own = some m.cls) (w : (Cond.fieldLink own index O f d).before a0 Z = true ∨ (Cond.fieldLinkNest own index O f d host).before a0 Z = true) (eT : T.heap = h) {a : Addr} {v old : Value} (S : Fld Z h a O f d old) (E : Exa Z h a C)
    (L : (Cond.lays C O f d).before a0 Z = true ∨ ((Cond.laysFinal C O f d).before a0 Z = true ∧ own = O ∧ meth.name = "<init>")) (wi : (Cond.instantiable C kk).before a0 Z = true) (hty : parseFieldDescriptor d = some ty) (hnr : narrow ty v = v) (hf : fits ty v = true) (hd : decode c.code pc = .ok (.putfield index, 3)) (hn : pc + 3 = n)
    (F : ∀ T' h', Stand p l e R s m args below meth c T' (locs ++ [⟨a, RoadKit.slotOf Z O f d⟩]) cells slots → T'.heap = h' → Wr h h' a (RoadKit.slotOf Z O f d) v → Go p e below s Q K N T' (mkF m n Ls st)) : Go p e below s Q K N T (mkF m pc Ls (v :: .ref a :: st)) := by
  subst hn
  obtain ⟨T2, h2, X2, e2, W2, st2⟩ := RoadKit.putF X hx hZ hown (host := host) w Via.refl eT S E L wi hty hnr hf (g := mkF m pc Ls (v :: .ref a :: st)) rfl rfl hd
  exact go (fun _ h => st2 _ h) (F T2 h2 X2 e2 W2)
theorem initO (X : Stand p l e R s m args below meth c T locs cells slots) (hx : p.tables.exec = Jvm.exec) (hZ : Z.Warmed39 s.vm) {own : String} {idx W : Nat} (hown : s.vm.findClass own = some m.cls) (w1 : (Cond.methodLink own idx Lib.objectInit).before a0 Z = true) (w2 : (Cond.instanceMethod Lib.objectInit).before a0 Z = true) (w3 : (Cond.code Lib.objectInit ⟨#[0xb1]⟩ 1 none).before a0 Z = true) (eT : T.heap = h) {a : Addr} (hsz : Ls.size = c.maxLocals) (hf : 1 ≤ R.frames) (hW : (st.map fun v => v.category).sum ≤ W) (hl : W + 12 ≤ R.locals) (hd : decode c.code pc = .ok (.invokespecial idx, 3)) (hn : pc + 3 = n)
    (F : ∀ T', Stand p l e R s m args below meth c T' locs cells slots → T'.heap = h → Go p e below s Q K N T' (mkF m n Ls st)) : Go p e below s Q K N T (mkF m pc Ls (.ref a :: st)) := by
  subst hn
  obtain ⟨T2, X2, e2, st2⟩ := RoadKit.initO X hx hZ hown w1 w2 w3 eT (g := mkF m pc Ls (.ref a :: st)) rfl hsz rfl hd hf (W := W) (by show 2 * 0 + _ ≤ _; omega) hl
  exact go (fun _ h => st2 _ h) (F T2 X2 e2)
theorem callI (X : Stand p l e R s m args below meth c T locs cells slots) (hx : p.tables.exec = Jvm.exec) (hZ : Z.Warmed39 s.vm) {own : String} {index : Nat} {y : MethodName} {bytes : ByteArray} {maxL W : Nat} {rm : Room} {Qc : Option Value → Heap → List Loc → Prop} {argsL : List Value} {a : Addr} (hy1 : y.name = "<init>") (hown : s.vm.findClass own = some m.cls)
    (wl : (Cond.methodLink own index y).before a0 Z = true) (wm : (Cond.instanceMethod y).before a0 Z = true) (wi : (Cond.initialized y.cls).before a0 Z = true) (wc : (Cond.code y bytes maxL none).before a0 Z = true) (hy : y.cls ≠ "java/lang/invoke/MethodHandle" ∧ y.cls ≠ "java/lang/invoke/VarHandle")
    (hM : Met l Z y bytes maxL none [] rm (Value.ref a :: argsL).toArray h Qc) (eT : T.heap = h) (hf : rm.frames + 1 ≤ R.frames) (hl : W + (maxL + 11) + rm.locals ≤ R.locals) (hck : cells + rm.cells ≤ R.cells) (hsk : slots + rm.slots ≤ R.slots) (hsz : Ls.size = c.maxLocals)
    (hlen : ∀ sig, parseMethodDescriptor y.desc = some sig → argsL.length = sig.parameters.length) (hst : st = argsL.reverse ++ .ref a :: rest) (hW : (rest.map fun v => v.category).sum ≤ W) (hd : decode c.code pc = .ok (.invokespecial index, 3)) (hn : pc + 3 = n)
    (F : ∀ T' v L, Stand p l e R s m args below meth c T' (locs ++ L) (cells + rm.cells) (slots + rm.slots) → Qc v T'.heap L → Go p e below s Q K N T' (mkF m n Ls (v.toList ++ rest))) : Go p e below s Q K N T (mkF m pc Ls st) := by
  subst hn
  obtain ⟨v, _, ⟨T18, L18, k18, n18⟩, -, X18, ⟨Lc18, hQ18, l18, y18, z18⟩, st18⟩ := X.specialBack hx (y := y) hy1 hown (mvT hZ wl) (mvT hZ wm) (mvT hZ wc) hy (backOf (W := W) hM hZ wc wi hf hl) (g := mkF m pc Ls st) rfl hsz (Steps.refl _) (a := a) (argsL := argsL) (rest := rest) hlen hst (by show 2 * 0 + _ ≤ _; omega) hd (fun _ _ => ⟨rfl, eT, hck, hsk⟩)
  dsimp only [Pt.U, Pt.locs, Pt.cells, Pt.slots] at X18 l18 y18 z18 st18 hQ18
  subst l18 y18 z18
  exact go (fun _ h => st18.trans h) (F T18 v Lc18 X18 hQ18)
theorem instY (X : Stand p l e R s m args below meth c T locs cells slots) (hx : p.tables.exec = Jvm.exec) (hZ : Z.Warmed39 s.vm) {own C : String} {index : Nat} (hown : s.vm.findClass own = some m.cls) (w : (Cond.classLink own index C).before a0 Z = true) (eT : T.heap = h) {a : Addr} (E : Exa Z h a C) (hd : decode c.code pc = .ok (.instanceof index, 3)) (hn : pc + 3 = n)
    (F : ∀ T', Stand p l e R s m args below meth c T' locs cells slots → T'.heap = h → Go p e below s Q K N T' (mkF m n Ls (.int 1 :: st))) : Go p e below s Q K N T (mkF m pc Ls (.ref a :: st)) := by
  subst hn
  obtain ⟨T2, X2, e2, st2⟩ := RoadKit.instY X hx hZ hown w eT (Ins.self E) (g := mkF m pc Ls (.ref a :: st)) rfl rfl hd
  exact go (fun _ h => st2 _ h) (F T2 X2 e2)
theorem castY (X : Stand p l e R s m args below meth c T locs cells slots) (hx : p.tables.exec = Jvm.exec) (hZ : Z.Warmed39 s.vm) {own C : String} {index : Nat} (hown : s.vm.findClass own = some m.cls) (w : (Cond.classLink own index C).before a0 Z = true) (eT : T.heap = h) {a : Addr} (E : Exa Z h a C) (hd : decode c.code pc = .ok (.checkcast index, 3)) (hn : pc + 3 = n)
    (F : ∀ T', Stand p l e R s m args below meth c T' locs cells slots → T'.heap = h → Go p e below s Q K N T' (mkF m n Ls (.ref a :: st))) : Go p e below s Q K N T (mkF m pc Ls (.ref a :: st)) := by
  subst hn
  obtain ⟨T2, X2, e2, st2⟩ := RoadKit.castY X hx hZ hown w eT (Ins.self E) (g := mkF m pc Ls (.ref a :: st)) rfl rfl hd
  exact go (fun _ h => st2 _ h) (F T2 X2 e2)
theorem newP (X : Stand p l e R s m args below meth c T locs cells slots) (hx : p.tables.exec = Jvm.exec) (hZ : Z.Warmed39 s.vm) {aty : ArrayType} {ty : FieldType} (hty : newarray.typeOf aty = ty) (w : (Cond.arrayClass ty).before a0 Z = true) (eT : T.heap = h) {z : Int32} (hz : ¬ z < 0) (cap : Nat) (hcap : z.toNatClampNeg = cap) (hb : cap * 8 ≤ 536870912) (hc : cells + 1 ≤ R.cells) (hl : slots + cap ≤ R.slots) (hd : decode c.code pc = .ok (.newarray aty, 2)) (hn : pc + 2 = n)
    (F : ∀ T' h' cA, Stand p l e R s m args below meth c T' locs (cells + 1) (slots + cap) → T'.heap = h' → Ext h h' → Arv Z h' h.size cA ty z (List.replicate cap (defaultValue ty)) (defaultValue ty) → Go p e below s Q K N T' (mkF m n Ls (.ref h.size :: st))) : Go p e below s Q K N T (mkF m pc Ls (.int z :: st)) := by
  subst hn hty
  obtain ⟨T2, h2, cA, X2, e2, E2, A2, st2⟩ := RoadKit.newP X hx hZ w eT (g := mkF m pc Ls (.int z :: st)) rfl hd rfl hz (cap := cap) (Nat.le_of_eq hcap) hb hc hl
  exact go (fun _ h => st2 _ h) (F T2 h2 cA X2 e2 E2 ((Arv.new A2 hz).pad (pad_rep [] _ cap)))

theorem bastore (X : Stand p l e R s m args below meth c T locs cells slots) (hx : p.tables.exec = Jvm.exec) (hZ : Z.Warmed39 s.vm) {a : Addr} {k : ClassId} {z j x : Int32} {vs : List Value} {d : Value} (eT : T.heap = h) (A : Arv Z h a k .byte z vs d) (h1 : 0 ≤ j.toInt) (h2 : j.toInt < z.toInt) (i : Nat) (hj : j.toNatClampNeg = i) (hi : i < vs.length) (hd : decode c.code pc = .ok (.bastore, 1)) (hn : pc + 1 = n)
    (F : ∀ T' h', Stand p l e R s m args below meth c T' (locs ++ [⟨a, j.toNatClampNeg⟩]) cells slots → T'.heap = h' → Wr h h' a j.toNatClampNeg (.int (nar .byte x)) → Arv Z h' a k .byte z (vs.set i (.int (nar .byte x))) d → Go p e below s Q K N T' (mkF m n Ls st)) : Go p e below s Q K N T (mkF m pc Ls (.int x :: .int j :: .ref a :: st)) := by
  subst hn
  obtain ⟨cl, Ar, q1, S, q3, H, G'⟩ := A
  obtain ⟨T2, h2', X2, e2, W2, st2⟩ := RoadKit.stB X hx hZ eT Ar (in_of S q3 h1 h2) (g := mkF m pc Ls (.int x :: .int j :: .ref a :: st)) rfl rfl hd
  exact go (fun _ h => st2 _ h) (F T2 h2' X2 e2 W2 (Arv.set Ar q1 S q3 H G' (fits_nar_byte x) W2 i hj hi))
theorem castore (X : Stand p l e R s m args below meth c T locs cells slots) (hx : p.tables.exec = Jvm.exec) (hZ : Z.Warmed39 s.vm) {a : Addr} {k : ClassId} {z j x : Int32} {vs : List Value} {d : Value} (eT : T.heap = h) (A : Arv Z h a k .char z vs d) (h1 : 0 ≤ j.toInt) (h2 : j.toInt < z.toInt) (i : Nat) (hj : j.toNatClampNeg = i) (hi : i < vs.length) (hd : decode c.code pc = .ok (.castore, 1)) (hn : pc + 1 = n)
    (F : ∀ T' h', Stand p l e R s m args below meth c T' (locs ++ [⟨a, j.toNatClampNeg⟩]) cells slots → T'.heap = h' → Wr h h' a j.toNatClampNeg (.int (nar .char x)) → Arv Z h' a k .char z (vs.set i (.int (nar .char x))) d → Go p e below s Q K N T' (mkF m n Ls st)) : Go p e below s Q K N T (mkF m pc Ls (.int x :: .int j :: .ref a :: st)) := by
  subst hn
  obtain ⟨cl, Ar, q1, S, q3, H, G'⟩ := A
  obtain ⟨T2, h2', X2, e2, W2, st2⟩ := RoadKit.stC X hx hZ eT Ar (in_of S q3 h1 h2) (g := mkF m pc Ls (.int x :: .int j :: .ref a :: st)) rfl rfl hd
  exact go (fun _ h => st2 _ h) (F T2 h2' X2 e2 W2 (Arv.set Ar q1 S q3 H G' (fits_nar_char x) W2 i hj hi))
theorem iastore (X : Stand p l e R s m args below meth c T locs cells slots) (hx : p.tables.exec = Jvm.exec) (hZ : Z.Warmed39 s.vm) {a : Addr} {k : ClassId} {z j x : Int32} {vs : List Value} {d : Value} (eT : T.heap = h) (A : Arv Z h a k .int z vs d) (h1 : 0 ≤ j.toInt) (h2 : j.toInt < z.toInt) (i : Nat) (hj : j.toNatClampNeg = i) (hi : i < vs.length) (hd : decode c.code pc = .ok (.iastore, 1)) (hn : pc + 1 = n)
    (F : ∀ T' h', Stand p l e R s m args below meth c T' (locs ++ [⟨a, j.toNatClampNeg⟩]) cells slots → T'.heap = h' → Wr h h' a j.toNatClampNeg (.int (x)) → Arv Z h' a k .int z (vs.set i (.int (x))) d → Go p e below s Q K N T' (mkF m n Ls st)) : Go p e below s Q K N T (mkF m pc Ls (.int x :: .int j :: .ref a :: st)) := by
  subst hn
  obtain ⟨cl, Ar, q1, S, q3, H, G'⟩ := A
  obtain ⟨T2, h2', X2, e2, W2, st2⟩ := RoadKit.stI X hx hZ eT Ar (in_of S q3 h1 h2) (g := mkF m pc Ls (.int x :: .int j :: .ref a :: st)) rfl rfl hd
  exact go (fun _ h => st2 _ h) (F T2 h2' X2 e2 W2 (Arv.set Ar q1 S q3 H G' (rfl) W2 i hj hi))
def FldE (Z : State) (h : Heap) (a : Addr) (C n d : String) : Prop := ∃ v, Fld Z h a C n d v
theorem FldE.of {Z : State} {h : Heap} {a : Addr} {C n d : String} {v : Value} (F : Fld Z h a C n d v) : FldE Z h a C n d := ⟨v, F⟩
theorem FldE.ext {Z : State} {h h' : Heap} {a : Addr} {C n d : String} (F : FldE Z h a C n d) (E : Ext h h') : FldE Z h' a C n d := by obtain ⟨v, F⟩ := F; exact ⟨v, F.ext E⟩
theorem FldE.keep {Z : State} {h h' : Heap} {ws : List Addr} {a : Addr} {C n d : String} (F : FldE Z h a C n d) (K : Keep h h' ws) : FldE Z h' a C n d := by
  obtain ⟨v, cell, cf, k, i, f, h1, h2, h3, h4, h5, h6, h7⟩ := F
  obtain ⟨c', q, r1, r2, r3⟩ := K.2.2 a cell h1
  have hlt := (Array.getElem?_eq_some_iff.mp h7).1
  exact ⟨_, c', cf, k, i, f, q, h2, h3, r2 ▸ h4, r2 ▸ h5, r1 ▸ h6, Array.getElem?_eq_getElem (r3 ▸ hlt)⟩
theorem FldE.wr {Z : State} {h h' : Heap} {a b' : Addr} {C n d : String} {sl : Nat} {v : Value} (F : FldE Z h b' C n d) (W : Wr h h' a sl v) : FldE Z h' b' C n d := F.keep (Keep.of_wr W)
theorem nfOf {args : Array Value} {s : State} {C : String} {y y' z' : MethodName} (hsel : (Cond.selects C y' z').before args s = true) (hc : z'.cls = y.cls) : NotFace s y := fun r0 h0 => by
  obtain ⟨c2, r2, m2, q1, q2, q3, q4, kP, hkP, hkPi⟩ := Cond.selects_spec hsel
  have h1 := findClass_of_methodNamed q3
  have h2 := findClass_of_methodNamed h0
  rw [hc] at h1
  have e : m2.cls = r0.cls := Option.some.inj (h1.symm.trans h2)
  exact ⟨kP, e ▸ hkP, hkPi⟩
theorem acopy (X : Stand p l e R s m args below meth c T locs cells slots) (hx : p.tables.exec = Jvm.exec) (hZ : Z.Warmed39 s.vm) {own : String} {index : Nat} (hown : s.vm.findClass own = some m.cls) (wl : (Cond.methodLink own index Stand.acN).before a0 Z = true) (wn : (Cond.native Stand.acN).before a0 Z = true) (ws : (Cond.static Stand.acN).before a0 Z = true) (wi : (Cond.initialized "java/lang/System").before a0 Z = true) (eT : T.heap = h)
    {src dst : Addr} {k1 k2 : ClassId} {z1 z2 p1 p2 q : Int32} {vs1 vs2 : List Value} {d1 d2 : Value} (A1 : Arv Z h src k1 .int z1 vs1 d1) (A2 : Arv Z h dst k2 .int z2 vs2 d2) (h1 : 0 ≤ p1.toInt) (h2 : 0 ≤ p2.toInt) (h3 : 0 ≤ q.toInt) (h4 : p1.toInt + q.toInt ≤ z1.toInt) (h5 : p2.toInt + q.toInt ≤ z2.toInt)
    {W : Nat} (hsz : Ls.size = c.maxLocals) (hf : 1 ≤ R.frames) (hW : (st.map fun v => v.category).sum ≤ W) (hl : W + (nativeFrameWords "java/lang/System" "arraycopy" 5 + 11) ≤ R.locals) (hd : decode c.code pc = .ok (.invokestatic index, 3)) (hn : pc + 3 = n)
    (F : ∀ T' h', Stand p l e R s m args below meth c T' (locs ++ Stand.copyLocs dst p2.toNatClampNeg q.toNatClampNeg) cells slots → T'.heap = h' → Keep h h' [dst] → Go p e below s Q K N T' (mkF m n Ls st)) : Go p e below s Q K N T (mkF m pc Ls (.int q :: .int p2 :: .ref dst :: .int p1 :: .ref src :: st)) := by
  subst hn
  subst eT
  obtain ⟨cs, As, -, Ss, Ns, Hs, Gs⟩ := A1
  obtain ⟨cd, Ad, -, Sd, Nd, Hd, Gd⟩ := A2
  have isA := State.isArrayOf_alike hZ.alike As.2.1
  have idA := State.isArrayOf_alike hZ.alike Ad.2.1
  obtain ⟨-, ks, hks, sC, hsk⟩ := isA
  obtain ⟨-, kd, hkd, dC, hdk⟩ := idA
  have en : ∀ x : Int32, 0 ≤ x.toInt → ¬ x < 0 := fun x hx0 => by rw [Int32.lt_iff_toInt_lt]; have e0 : (0 : Int32).toInt = 0 := rfl; omega
  have ez : ∀ x : Int32, ¬ x < 0 → (x.toNatClampNeg : Int) = x.toInt := fun x hx0 => by
    rw [Int32.lt_iff_toInt_lt] at hx0; have e0 : (0 : Int32).toInt = 0 := rfl; have e1 : x.toNatClampNeg = x.toInt.toNat := rfl; omega
  have e1 := ez z1 Ns; have e2 := ez z2 Nd; have e3 := ez p1 (en p1 h1); have e4 := ez q (en q h3); have e5 := ez p2 (en p2 h2)
  obtain ⟨vm₁, -, X', st'⟩ := X.arraycopyK hx hown (mvT hZ wl) (mvT hZ wn) (mvT hZ ws) (mvT hZ wi) (src := src) (dst := dst) (srcPos := p1) (destPos := p2) (n := q) (cs := cs) (cd := cd) As.1 Ad.1
    (fun z e => by have := As.plain; rw [e] at this; cases this) (fun z e => by have := Ad.plain; rw [e] at this; cases this) As.2.2 Ad.2.2 hks hkd hsk hdk rfl (en p1 h1) (en p2 h2) (en q h3) (by rw [Ss]; omega) (by rw [Sd]; omega)
    (fun vm' _ i hi => by
      have hlt : p1.toNatClampNeg + i < cs.slots.size := by rw [Ss]; omega
      have hh := Hs _ hlt
      have hg := Gs _ hlt
      have hgd : cs.slots.getD (p1.toNatClampNeg + i) .null = vs1.getD (p1.toNatClampNeg + i) d1 := by rw [Array.getD_eq_getD_getElem?, hh]; rfl
      rw [hgd]
      refine ⟨hg, ?_⟩
      obtain ⟨x, hx'⟩ := fit_I hg (Or.inl rfl)
      rw [hx']; trivial)
    (g := mkF m pc Ls (.int q :: .int p2 :: .ref dst :: .int p1 :: .ref src :: st)) rfl hsz rfl hd hf (by show 2 * 0 + _ + _ ≤ _; omega)
  refine go (fun _ h => st' _ h) (F _ _ X' rfl ?_)
  have cf := SB.copied_facts cs cd p1 p2 q
  have hb : dst < T.heap.size := (Array.getElem?_eq_some_iff.mp Ad.1).1
  refine ⟨by show T.heap.size ≤ (T.heap.setIfInBounds dst _).size; simp, fun x c hc hx' => ?_, fun x c hc => ?_⟩
  · show (T.heap.setIfInBounds dst _)[x]? = _
    have hne : dst ≠ x := fun z => hx' (by simp [z])
    rw [Array.getElem?_setIfInBounds_ne hne]; exact hc
  · show ∃ c', (T.heap.setIfInBounds dst _)[x]? = some c' ∧ _
    by_cases z : dst = x
    · subst z; cases Ad.1.symm.trans hc
      exact ⟨_, Array.getElem?_setIfInBounds_self_of_lt hb, cf⟩
    · exact ⟨c, by rw [Array.getElem?_setIfInBounds_ne z]; exact hc, rfl, rfl, rfl⟩
theorem ext_of_keep {h h' : Heap} (K : Keep h h' []) : Ext h h' := ⟨K.1, fun a c q => K.2.1 a c q nin0⟩
theorem keep_of_ext {h h' : Heap} (E : Ext h h') : Keep h h' [] := (Keep.refl _ _).ext E
theorem ext_refl (h : Heap) : Ext h h := ⟨Nat.le_refl _, fun _ _ q => q⟩
theorem ext_trans {h h' h'' : Heap} (E : Ext h h') (E' : Ext h' h'') : Ext h h'' := ⟨Nat.le_trans E.1 E'.1, fun a c q => E'.2 a c (E.2 a c q)⟩
end H
end Jvm.Wk
namespace Jvm.Pilot.@@N@@
open Jvm Jvm.ClassFile Sem Op Lib Jvm.Free Jvm.Stand Jvm.LawKit Jvm.RoadKit Bundle Jvm.Pilot.@@N@@.Jvm.D
abbrev pc12 (x : Int) : Prop := (x = 160) ∨ (x = 5760) ∨ (8192 ≤ x ∧ x ≤ 8203) ∨ (x = 8239) ∨ (x = 8287) ∨ (x = 12288)
abbrev pc21 (x : Int) : Prop := (0 ≤ x ∧ x ≤ 31) ∨ (x = 127)
abbrev pc22 (x : Int) : Prop := (128 ≤ x ∧ x ≤ 159) ∨ (x = 1757) ∨ (x = 1807) ∨ (x = 6158) ∨ (x = 8204) ∨ (x = 8205) ∨ (x = 8232) ∨ (x = 8233) ∨ (8288 ≤ x ∧ x ≤ 8291) ∨ (8298 ≤ x ∧ x ≤ 8303) ∨ (x = 65279) ∨ (65529 ≤ x ∧ x ≤ 65532) ∨ (119155 ≤ x ∧ x ≤ 119162)
abbrev pc3 (x : Int) : Prop := (57344 ≤ x ∧ x ≤ 63743) ∨ (983040 ≤ x ∧ x ≤ 1048573) ∨ (1048576 ≤ x ∧ x ≤ 1114109)
abbrev pc4 (x : Int) : Prop := (64976 ≤ x ∧ x ≤ 65007) ∨ (x % 65536 = 65534) ∨ (x % 65536 = 65535)
abbrev pc5 (x : Int) : Prop := (55296 ≤ x ∧ x ≤ 57343)
abbrev pc6 (x : Int) : Prop := (65529 ≤ x ∧ x ≤ 65533)
abbrev pc7 (x : Int) : Prop := (12272 ≤ x ∧ x ≤ 12283)
abbrev pc8 (x : Int) : Prop := (x = 832) ∨ (x = 833) ∨ (x = 8206) ∨ (x = 8207) ∨ (8234 ≤ x ∧ x ≤ 8238) ∨ (8298 ≤ x ∧ x ≤ 8303)
abbrev pc9 (x : Int) : Prop := (x = 917505) ∨ (917536 ≤ x ∧ x ≤ 917631)
abbrev pE (x : Int) : Prop := pc12 x ∨ pc21 x ∨ pc22 x ∨ pc3 x ∨ pc4 x ∨ pc5 x ∨ pc6 x ∨ pc7 x ∨ pc8 x ∨ pc9 x
def inRb : List Int → Int → Bool
  | a :: b' :: r, x => (decide (a ≤ x) && decide (x ≤ b')) || inRb r x
  | _, _ => false
theorem and_even (n : Nat) : n &&& 65534 = 2 * (n / 2 % 32768) := by
  apply Nat.eq_of_testBit_eq
  intro i
  rw [Nat.testBit_and]
  cases i with
  | zero => simp
  | succ i =>
    rw [Nat.testBit_succ, Nat.testBit_succ (x := 65534), Nat.testBit_succ (x := 2 * _)]
    rw [Nat.mul_div_cancel_left _ (by decide : 0 < 2), show (32768 : Nat) = 2 ^ 15 from rfl, ← Nat.and_two_pow_sub_one_eq_mod, Nat.testBit_and]
theorem and_evenI (x : Int32) (h : 0 ≤ x.toInt) : (x &&& (65534 : Int32)).toInt = 2 * (x.toInt / 2 % 32768) := by
  have e1 : (x &&& (65534 : Int32)).toBitVec.toNat = x.toBitVec.toNat &&& 65534 := by rw [Int32.toBitVec_and, BitVec.toNat_and]; rfl
  have hx : 2 * x.toBitVec.toNat < 2 ^ 32 := by
    have h' : 0 ≤ x.toBitVec.toInt := h
    rw [BitVec.toInt_eq_toNat_cond] at h'
    have := x.toBitVec.isLt
    split at h' <;> omega
  have hi : x.toInt = (x.toBitVec.toNat : Int) := by
    show x.toBitVec.toInt = _
    rw [BitVec.toInt_eq_toNat_cond, if_pos hx]
  rw [and_even] at e1
  have hy : 2 * (x &&& (65534 : Int32)).toBitVec.toNat < 2 ^ 32 := by omega
  show (x &&& (65534 : Int32)).toBitVec.toInt = _
  rw [BitVec.toInt_eq_toNat_cond, if_pos hy, e1, hi]
  omega
theorem d1_0 : decode prog_35_method_6_code 0 = .ok (.iload_n 0, 1) := by decide +kernel
theorem d1_1 : decode prog_35_method_6_code 1 = .ok (.invokestatic 85, 3) := by decide +kernel
theorem d1_4 : decode prog_35_method_6_code 4 = .ok (.ifCond .ne 22, 3) := by decide +kernel
theorem d1_7 : decode prog_35_method_6_code 7 = .ok (.getstatic 88, 3) := by decide +kernel
theorem d1_10 : decode prog_35_method_6_code 10 = .ok (.iload_n 0, 1) := by decide +kernel
theorem d1_11 : decode prog_35_method_6_code 11 = .ok (.invokestatic 78, 3) := by decide +kernel
theorem d1_14 : decode prog_35_method_6_code 14 = .ok (.ifCond .ne 12, 3) := by decide +kernel
theorem d1_17 : decode prog_35_method_6_code 17 = .ok (.iload_n 0, 1) := by decide +kernel
theorem d1_18 : decode prog_35_method_6_code 18 = .ok (.ldc 91, 2) := by decide +kernel
theorem d1_20 : decode prog_35_method_6_code 20 = .ok (.iand, 1) := by decide +kernel
theorem d1_21 : decode prog_35_method_6_code 21 = .ok (.ldc 91, 2) := by decide +kernel
theorem d1_23 : decode prog_35_method_6_code 23 = .ok (.if_icmp .ne 7, 3) := by decide +kernel
theorem d1_26 : decode prog_35_method_6_code 26 = .ok (.iconst 1, 1) := by decide +kernel
theorem d1_27 : decode prog_35_method_6_code 27 = .ok (.goto 4, 3) := by decide +kernel
theorem d1_30 : decode prog_35_method_6_code 30 = .ok (.iconst 0, 1) := by decide +kernel
theorem d1_31 : decode prog_35_method_6_code 31 = .ok (.ireturn, 1) := by decide +kernel
theorem pd1 : parseMethodDescriptor "(I)Z" = some ⟨[.int], some .boolean⟩ := by decide +kernel
theorem pn1 : plainName "com/example/rillet/rillet/postgresql/SaslPrep" = true := by first | (simp [plainName, overriddenIn]; done) | decide +kernel
theorem d2_0 : decode prog_35_method_4_code 0 = .ok (.getstatic 74, 3) := by decide +kernel
theorem d2_3 : decode prog_35_method_4_code 3 = .ok (.iload_n 0, 1) := by decide +kernel
theorem d2_4 : decode prog_35_method_4_code 4 = .ok (.invokestatic 78, 3) := by decide +kernel
theorem d2_7 : decode prog_35_method_4_code 7 = .ok (.ireturn, 1) := by decide +kernel
theorem pd2 : parseMethodDescriptor "(I)Z" = some ⟨[.int], some .boolean⟩ := by decide +kernel
theorem pn2 : plainName "com/example/rillet/rillet/postgresql/SaslPrep" = true := by first | (simp [plainName, overriddenIn]; done) | decide +kernel
theorem d3_0 : decode prog_35_method_11_code 0 = .ok (.iconst 0, 1) := by decide +kernel
theorem d3_1 : decode prog_35_method_11_code 1 = .ok (.istore_n 2, 1) := by decide +kernel
theorem d3_2 : decode prog_35_method_11_code 2 = .ok (.iload_n 2, 1) := by decide +kernel
theorem d3_3 : decode prog_35_method_11_code 3 = .ok (.aload_n 0, 1) := by decide +kernel
theorem d3_4 : decode prog_35_method_11_code 4 = .ok (.arraylength, 1) := by decide +kernel
theorem d3_5 : decode prog_35_method_11_code 5 = .ok (.if_icmp .ge 27, 3) := by decide +kernel
theorem d3_8 : decode prog_35_method_11_code 8 = .ok (.iload_n 1, 1) := by decide +kernel
theorem d3_9 : decode prog_35_method_11_code 9 = .ok (.aload_n 0, 1) := by decide +kernel
theorem d3_10 : decode prog_35_method_11_code 10 = .ok (.iload_n 2, 1) := by decide +kernel
theorem d3_11 : decode prog_35_method_11_code 11 = .ok (.iaload, 1) := by decide +kernel
theorem d3_12 : decode prog_35_method_11_code 12 = .ok (.if_icmp .lt 14, 3) := by decide +kernel
theorem d3_15 : decode prog_35_method_11_code 15 = .ok (.iload_n 1, 1) := by decide +kernel
theorem d3_16 : decode prog_35_method_11_code 16 = .ok (.aload_n 0, 1) := by decide +kernel
theorem d3_17 : decode prog_35_method_11_code 17 = .ok (.iload_n 2, 1) := by decide +kernel
theorem d3_18 : decode prog_35_method_11_code 18 = .ok (.iconst 1, 1) := by decide +kernel
theorem d3_19 : decode prog_35_method_11_code 19 = .ok (.iadd, 1) := by decide +kernel
theorem d3_20 : decode prog_35_method_11_code 20 = .ok (.iaload, 1) := by decide +kernel
theorem d3_21 : decode prog_35_method_11_code 21 = .ok (.if_icmp .gt 5, 3) := by decide +kernel
theorem d3_24 : decode prog_35_method_11_code 24 = .ok (.iconst 1, 1) := by decide +kernel
theorem d3_25 : decode prog_35_method_11_code 25 = .ok (.ireturn, 1) := by decide +kernel
theorem d3_26 : decode prog_35_method_11_code 26 = .ok (.iinc 2 2, 3) := by decide +kernel
theorem d3_29 : decode prog_35_method_11_code 29 = .ok (.goto (-27), 3) := by decide +kernel
theorem d3_32 : decode prog_35_method_11_code 32 = .ok (.iconst 0, 1) := by decide +kernel
theorem d3_33 : decode prog_35_method_11_code 33 = .ok (.ireturn, 1) := by decide +kernel
theorem pd3 : parseMethodDescriptor "([II)Z" = some ⟨[(.array .int), .int], some .boolean⟩ := by decide +kernel
theorem pn3 : plainName "com/example/rillet/rillet/postgresql/SaslPrep" = true := by first | (simp [plainName, overriddenIn]; done) | decide +kernel
theorem d4_0 : decode method_14_code 0 = .ok (.iload_n 0, 1) := by decide +kernel
theorem d4_1 : decode method_14_code 1 = .ok (.invokestatic 46, 3) := by decide +kernel
theorem d4_4 : decode method_14_code 4 = .ok (.ifCond .ne 66, 3) := by decide +kernel
theorem d4_7 : decode method_14_code 7 = .ok (.iload_n 0, 1) := by decide +kernel
theorem d4_8 : decode method_14_code 8 = .ok (.invokestatic 49, 3) := by decide +kernel
theorem d4_11 : decode method_14_code 11 = .ok (.ifCond .ne 59, 3) := by decide +kernel
theorem d4_14 : decode method_14_code 14 = .ok (.iload_n 0, 1) := by decide +kernel
theorem d4_15 : decode method_14_code 15 = .ok (.invokestatic 52, 3) := by decide +kernel
theorem d4_18 : decode method_14_code 18 = .ok (.ifCond .ne 52, 3) := by decide +kernel
theorem d4_21 : decode method_14_code 21 = .ok (.iload_n 0, 1) := by decide +kernel
theorem d4_22 : decode method_14_code 22 = .ok (.invokestatic 55, 3) := by decide +kernel
theorem d4_25 : decode method_14_code 25 = .ok (.ifCond .ne 45, 3) := by decide +kernel
theorem d4_28 : decode method_14_code 28 = .ok (.iload_n 0, 1) := by decide +kernel
theorem d4_29 : decode method_14_code 29 = .ok (.invokestatic 58, 3) := by decide +kernel
theorem d4_32 : decode method_14_code 32 = .ok (.ifCond .ne 38, 3) := by decide +kernel
theorem d4_35 : decode method_14_code 35 = .ok (.iload_n 0, 1) := by decide +kernel
theorem d4_36 : decode method_14_code 36 = .ok (.invokestatic 61, 3) := by decide +kernel
theorem d4_39 : decode method_14_code 39 = .ok (.ifCond .ne 31, 3) := by decide +kernel
theorem d4_42 : decode method_14_code 42 = .ok (.iload_n 0, 1) := by decide +kernel
theorem d4_43 : decode method_14_code 43 = .ok (.invokestatic 64, 3) := by decide +kernel
theorem d4_46 : decode method_14_code 46 = .ok (.ifCond .ne 24, 3) := by decide +kernel
theorem d4_49 : decode method_14_code 49 = .ok (.iload_n 0, 1) := by decide +kernel
theorem d4_50 : decode method_14_code 50 = .ok (.invokestatic 67, 3) := by decide +kernel
theorem d4_53 : decode method_14_code 53 = .ok (.ifCond .ne 17, 3) := by decide +kernel
theorem d4_56 : decode method_14_code 56 = .ok (.iload_n 0, 1) := by decide +kernel
theorem d4_57 : decode method_14_code 57 = .ok (.invokestatic 70, 3) := by decide +kernel
theorem d4_60 : decode method_14_code 60 = .ok (.ifCond .ne 10, 3) := by decide +kernel
theorem d4_63 : decode method_14_code 63 = .ok (.iload_n 0, 1) := by decide +kernel
theorem d4_64 : decode method_14_code 64 = .ok (.invokestatic 73, 3) := by decide +kernel
theorem d4_67 : decode method_14_code 67 = .ok (.ifCond .eq 7, 3) := by decide +kernel
theorem d4_70 : decode method_14_code 70 = .ok (.iconst 1, 1) := by decide +kernel
theorem d4_71 : decode method_14_code 71 = .ok (.goto 4, 3) := by decide +kernel
theorem d4_74 : decode method_14_code 74 = .ok (.iconst 0, 1) := by decide +kernel
theorem d4_75 : decode method_14_code 75 = .ok (.ireturn, 1) := by decide +kernel
theorem pd4 : parseMethodDescriptor "(I)Z" = some ⟨[.int], some .boolean⟩ := by decide +kernel
theorem pn4 : plainName "com/example/rillet/rillet/postgresql/SaslPrepIsProhibitedPinLaw" = true := by first | (simp [plainName, overriddenIn]; done) | decide +kernel
theorem d5_0 : decode method_4_code 0 = .ok (.iload_n 0, 1) := by decide +kernel
theorem d5_1 : decode method_4_code 1 = .ok (.sipush 160, 3) := by decide +kernel
theorem d5_4 : decode method_4_code 4 = .ok (.if_icmp .eq 44, 3) := by decide +kernel
theorem d5_7 : decode method_4_code 7 = .ok (.iload_n 0, 1) := by decide +kernel
theorem d5_8 : decode method_4_code 8 = .ok (.sipush 5760, 3) := by decide +kernel
theorem d5_11 : decode method_4_code 11 = .ok (.if_icmp .eq 37, 3) := by decide +kernel
theorem d5_14 : decode method_4_code 14 = .ok (.iload_n 0, 1) := by decide +kernel
theorem d5_15 : decode method_4_code 15 = .ok (.sipush 8192, 3) := by decide +kernel
theorem d5_18 : decode method_4_code 18 = .ok (.sipush 8203, 3) := by decide +kernel
theorem d5_21 : decode method_4_code 21 = .ok (.invokestatic 20, 3) := by decide +kernel
theorem d5_24 : decode method_4_code 24 = .ok (.ifCond .ne 24, 3) := by decide +kernel
theorem d5_27 : decode method_4_code 27 = .ok (.iload_n 0, 1) := by decide +kernel
theorem d5_28 : decode method_4_code 28 = .ok (.sipush 8239, 3) := by decide +kernel
theorem d5_31 : decode method_4_code 31 = .ok (.if_icmp .eq 17, 3) := by decide +kernel
theorem d5_34 : decode method_4_code 34 = .ok (.iload_n 0, 1) := by decide +kernel
theorem d5_35 : decode method_4_code 35 = .ok (.sipush 8287, 3) := by decide +kernel
theorem d5_38 : decode method_4_code 38 = .ok (.if_icmp .eq 10, 3) := by decide +kernel
theorem d5_41 : decode method_4_code 41 = .ok (.iload_n 0, 1) := by decide +kernel
theorem d5_42 : decode method_4_code 42 = .ok (.sipush 12288, 3) := by decide +kernel
theorem d5_45 : decode method_4_code 45 = .ok (.if_icmp .ne 7, 3) := by decide +kernel
theorem d5_48 : decode method_4_code 48 = .ok (.iconst 1, 1) := by decide +kernel
theorem d5_49 : decode method_4_code 49 = .ok (.goto 4, 3) := by decide +kernel
theorem d5_52 : decode method_4_code 52 = .ok (.iconst 0, 1) := by decide +kernel
theorem d5_53 : decode method_4_code 53 = .ok (.ireturn, 1) := by decide +kernel
theorem pd5 : parseMethodDescriptor "(I)Z" = some ⟨[.int], some .boolean⟩ := by decide +kernel
theorem pn5 : plainName "com/example/rillet/rillet/postgresql/SaslPrepIsProhibitedPinLaw" = true := by first | (simp [plainName, overriddenIn]; done) | decide +kernel
theorem d6_0 : decode method_3_code 0 = .ok (.iload_n 0, 1) := by decide +kernel
theorem d6_1 : decode method_3_code 1 = .ok (.iload_n 1, 1) := by decide +kernel
theorem d6_2 : decode method_3_code 2 = .ok (.if_icmp .lt 12, 3) := by decide +kernel
theorem d6_5 : decode method_3_code 5 = .ok (.iload_n 0, 1) := by decide +kernel
theorem d6_6 : decode method_3_code 6 = .ok (.iload_n 2, 1) := by decide +kernel
theorem d6_7 : decode method_3_code 7 = .ok (.if_icmp .gt 7, 3) := by decide +kernel
theorem d6_10 : decode method_3_code 10 = .ok (.iconst 1, 1) := by decide +kernel
theorem d6_11 : decode method_3_code 11 = .ok (.goto 4, 3) := by decide +kernel
theorem d6_14 : decode method_3_code 14 = .ok (.iconst 0, 1) := by decide +kernel
theorem d6_15 : decode method_3_code 15 = .ok (.ireturn, 1) := by decide +kernel
theorem pd6 : parseMethodDescriptor "(III)Z" = some ⟨[.int, .int, .int], some .boolean⟩ := by decide +kernel
theorem pn6 : plainName "com/example/rillet/rillet/postgresql/SaslPrepIsProhibitedPinLaw" = true := by first | (simp [plainName, overriddenIn]; done) | decide +kernel
theorem d7_0 : decode method_5_code 0 = .ok (.iload_n 0, 1) := by decide +kernel
theorem d7_1 : decode method_5_code 1 = .ok (.iconst 0, 1) := by decide +kernel
theorem d7_2 : decode method_5_code 2 = .ok (.bipush 31, 2) := by decide +kernel
theorem d7_4 : decode method_5_code 4 = .ok (.invokestatic 20, 3) := by decide +kernel
theorem d7_7 : decode method_5_code 7 = .ok (.ifCond .ne 9, 3) := by decide +kernel
theorem d7_10 : decode method_5_code 10 = .ok (.iload_n 0, 1) := by decide +kernel
theorem d7_11 : decode method_5_code 11 = .ok (.bipush 127, 2) := by decide +kernel
theorem d7_13 : decode method_5_code 13 = .ok (.if_icmp .ne 7, 3) := by decide +kernel
theorem d7_16 : decode method_5_code 16 = .ok (.iconst 1, 1) := by decide +kernel
theorem d7_17 : decode method_5_code 17 = .ok (.goto 4, 3) := by decide +kernel
theorem d7_20 : decode method_5_code 20 = .ok (.iconst 0, 1) := by decide +kernel
theorem d7_21 : decode method_5_code 21 = .ok (.ireturn, 1) := by decide +kernel
theorem pd7 : parseMethodDescriptor "(I)Z" = some ⟨[.int], some .boolean⟩ := by decide +kernel
theorem pn7 : plainName "com/example/rillet/rillet/postgresql/SaslPrepIsProhibitedPinLaw" = true := by first | (simp [plainName, overriddenIn]; done) | decide +kernel
theorem d8_0 : decode method_6_code 0 = .ok (.iload_n 0, 1) := by decide +kernel
theorem d8_1 : decode method_6_code 1 = .ok (.sipush 128, 3) := by decide +kernel
theorem d8_4 : decode method_6_code 4 = .ok (.sipush 159, 3) := by decide +kernel
theorem d8_7 : decode method_6_code 7 = .ok (.invokestatic 20, 3) := by decide +kernel
theorem d8_10 : decode method_6_code 10 = .ok (.ifCond .ne 106, 3) := by decide +kernel
theorem d8_13 : decode method_6_code 13 = .ok (.iload_n 0, 1) := by decide +kernel
theorem d8_14 : decode method_6_code 14 = .ok (.sipush 1757, 3) := by decide +kernel
theorem d8_17 : decode method_6_code 17 = .ok (.if_icmp .eq 99, 3) := by decide +kernel
theorem d8_20 : decode method_6_code 20 = .ok (.iload_n 0, 1) := by decide +kernel
theorem d8_21 : decode method_6_code 21 = .ok (.sipush 1807, 3) := by decide +kernel
theorem d8_24 : decode method_6_code 24 = .ok (.if_icmp .eq 92, 3) := by decide +kernel
theorem d8_27 : decode method_6_code 27 = .ok (.iload_n 0, 1) := by decide +kernel
theorem d8_28 : decode method_6_code 28 = .ok (.sipush 6158, 3) := by decide +kernel
theorem d8_31 : decode method_6_code 31 = .ok (.if_icmp .eq 85, 3) := by decide +kernel
theorem d8_34 : decode method_6_code 34 = .ok (.iload_n 0, 1) := by decide +kernel
theorem d8_35 : decode method_6_code 35 = .ok (.sipush 8204, 3) := by decide +kernel
theorem d8_38 : decode method_6_code 38 = .ok (.if_icmp .eq 78, 3) := by decide +kernel
theorem d8_41 : decode method_6_code 41 = .ok (.iload_n 0, 1) := by decide +kernel
theorem d8_42 : decode method_6_code 42 = .ok (.sipush 8205, 3) := by decide +kernel
theorem d8_45 : decode method_6_code 45 = .ok (.if_icmp .eq 71, 3) := by decide +kernel
theorem d8_48 : decode method_6_code 48 = .ok (.iload_n 0, 1) := by decide +kernel
theorem d8_49 : decode method_6_code 49 = .ok (.sipush 8232, 3) := by decide +kernel
theorem d8_52 : decode method_6_code 52 = .ok (.if_icmp .eq 64, 3) := by decide +kernel
theorem d8_55 : decode method_6_code 55 = .ok (.iload_n 0, 1) := by decide +kernel
theorem d8_56 : decode method_6_code 56 = .ok (.sipush 8233, 3) := by decide +kernel
theorem d8_59 : decode method_6_code 59 = .ok (.if_icmp .eq 57, 3) := by decide +kernel
theorem d8_62 : decode method_6_code 62 = .ok (.iload_n 0, 1) := by decide +kernel
theorem d8_63 : decode method_6_code 63 = .ok (.sipush 8288, 3) := by decide +kernel
theorem d8_66 : decode method_6_code 66 = .ok (.sipush 8291, 3) := by decide +kernel
theorem d8_69 : decode method_6_code 69 = .ok (.invokestatic 20, 3) := by decide +kernel
theorem d8_72 : decode method_6_code 72 = .ok (.ifCond .ne 44, 3) := by decide +kernel
theorem d8_75 : decode method_6_code 75 = .ok (.iload_n 0, 1) := by decide +kernel
theorem d8_76 : decode method_6_code 76 = .ok (.sipush 8298, 3) := by decide +kernel
theorem d8_79 : decode method_6_code 79 = .ok (.sipush 8303, 3) := by decide +kernel
theorem d8_82 : decode method_6_code 82 = .ok (.invokestatic 20, 3) := by decide +kernel
theorem d8_85 : decode method_6_code 85 = .ok (.ifCond .ne 31, 3) := by decide +kernel
theorem d8_88 : decode method_6_code 88 = .ok (.iload_n 0, 1) := by decide +kernel
theorem d8_89 : decode method_6_code 89 = .ok (.ldc 24, 2) := by decide +kernel
theorem d8_91 : decode method_6_code 91 = .ok (.if_icmp .eq 25, 3) := by decide +kernel
theorem d8_94 : decode method_6_code 94 = .ok (.iload_n 0, 1) := by decide +kernel
theorem d8_95 : decode method_6_code 95 = .ok (.ldc 25, 2) := by decide +kernel
theorem d8_97 : decode method_6_code 97 = .ok (.ldc 26, 2) := by decide +kernel
theorem d8_99 : decode method_6_code 99 = .ok (.invokestatic 20, 3) := by decide +kernel
theorem d8_102 : decode method_6_code 102 = .ok (.ifCond .ne 14, 3) := by decide +kernel
theorem d8_105 : decode method_6_code 105 = .ok (.iload_n 0, 1) := by decide +kernel
theorem d8_106 : decode method_6_code 106 = .ok (.ldc 27, 2) := by decide +kernel
theorem d8_108 : decode method_6_code 108 = .ok (.ldc 28, 2) := by decide +kernel
theorem d8_110 : decode method_6_code 110 = .ok (.invokestatic 20, 3) := by decide +kernel
theorem d8_113 : decode method_6_code 113 = .ok (.ifCond .eq 7, 3) := by decide +kernel
theorem d8_116 : decode method_6_code 116 = .ok (.iconst 1, 1) := by decide +kernel
theorem d8_117 : decode method_6_code 117 = .ok (.goto 4, 3) := by decide +kernel
theorem d8_120 : decode method_6_code 120 = .ok (.iconst 0, 1) := by decide +kernel
theorem d8_121 : decode method_6_code 121 = .ok (.ireturn, 1) := by decide +kernel
theorem pd8 : parseMethodDescriptor "(I)Z" = some ⟨[.int], some .boolean⟩ := by decide +kernel
theorem pn8 : plainName "com/example/rillet/rillet/postgresql/SaslPrepIsProhibitedPinLaw" = true := by first | (simp [plainName, overriddenIn]; done) | decide +kernel
theorem d9_0 : decode method_7_code 0 = .ok (.iload_n 0, 1) := by decide +kernel
theorem d9_1 : decode method_7_code 1 = .ok (.ldc 29, 2) := by decide +kernel
theorem d9_3 : decode method_7_code 3 = .ok (.ldc 30, 2) := by decide +kernel
theorem d9_5 : decode method_7_code 5 = .ok (.invokestatic 20, 3) := by decide +kernel
theorem d9_8 : decode method_7_code 8 = .ok (.ifCond .ne 25, 3) := by decide +kernel
theorem d9_11 : decode method_7_code 11 = .ok (.iload_n 0, 1) := by decide +kernel
theorem d9_12 : decode method_7_code 12 = .ok (.ldc 31, 2) := by decide +kernel
theorem d9_14 : decode method_7_code 14 = .ok (.ldc 32, 2) := by decide +kernel
theorem d9_16 : decode method_7_code 16 = .ok (.invokestatic 20, 3) := by decide +kernel
theorem d9_19 : decode method_7_code 19 = .ok (.ifCond .ne 14, 3) := by decide +kernel
theorem d9_22 : decode method_7_code 22 = .ok (.iload_n 0, 1) := by decide +kernel
theorem d9_23 : decode method_7_code 23 = .ok (.ldc 33, 2) := by decide +kernel
theorem d9_25 : decode method_7_code 25 = .ok (.ldc 34, 2) := by decide +kernel
theorem d9_27 : decode method_7_code 27 = .ok (.invokestatic 20, 3) := by decide +kernel
theorem d9_30 : decode method_7_code 30 = .ok (.ifCond .eq 7, 3) := by decide +kernel
theorem d9_33 : decode method_7_code 33 = .ok (.iconst 1, 1) := by decide +kernel
theorem d9_34 : decode method_7_code 34 = .ok (.goto 4, 3) := by decide +kernel
theorem d9_37 : decode method_7_code 37 = .ok (.iconst 0, 1) := by decide +kernel
theorem d9_38 : decode method_7_code 38 = .ok (.ireturn, 1) := by decide +kernel
theorem pd9 : parseMethodDescriptor "(I)Z" = some ⟨[.int], some .boolean⟩ := by decide +kernel
theorem pn9 : plainName "com/example/rillet/rillet/postgresql/SaslPrepIsProhibitedPinLaw" = true := by first | (simp [plainName, overriddenIn]; done) | decide +kernel
theorem d10_0 : decode method_8_code 0 = .ok (.iload_n 0, 1) := by decide +kernel
theorem d10_1 : decode method_8_code 1 = .ok (.ldc 35, 2) := by decide +kernel
theorem d10_3 : decode method_8_code 3 = .ok (.irem, 1) := by decide +kernel
theorem d10_4 : decode method_8_code 4 = .ok (.istore_n 1, 1) := by decide +kernel
theorem d10_5 : decode method_8_code 5 = .ok (.iload_n 0, 1) := by decide +kernel
theorem d10_6 : decode method_8_code 6 = .ok (.ldc 36, 2) := by decide +kernel
theorem d10_8 : decode method_8_code 8 = .ok (.ldc 37, 2) := by decide +kernel
theorem d10_10 : decode method_8_code 10 = .ok (.invokestatic 20, 3) := by decide +kernel
theorem d10_13 : decode method_8_code 13 = .ok (.ifCond .ne 15, 3) := by decide +kernel
theorem d10_16 : decode method_8_code 16 = .ok (.iload_n 1, 1) := by decide +kernel
theorem d10_17 : decode method_8_code 17 = .ok (.ldc 38, 2) := by decide +kernel
theorem d10_19 : decode method_8_code 19 = .ok (.if_icmp .eq 9, 3) := by decide +kernel
theorem d10_22 : decode method_8_code 22 = .ok (.iload_n 1, 1) := by decide +kernel
theorem d10_23 : decode method_8_code 23 = .ok (.ldc 39, 2) := by decide +kernel
theorem d10_25 : decode method_8_code 25 = .ok (.if_icmp .ne 7, 3) := by decide +kernel
theorem d10_28 : decode method_8_code 28 = .ok (.iconst 1, 1) := by decide +kernel
theorem d10_29 : decode method_8_code 29 = .ok (.goto 4, 3) := by decide +kernel
theorem d10_32 : decode method_8_code 32 = .ok (.iconst 0, 1) := by decide +kernel
theorem d10_33 : decode method_8_code 33 = .ok (.ireturn, 1) := by decide +kernel
theorem pd10 : parseMethodDescriptor "(I)Z" = some ⟨[.int], some .boolean⟩ := by decide +kernel
theorem pn10 : plainName "com/example/rillet/rillet/postgresql/SaslPrepIsProhibitedPinLaw" = true := by first | (simp [plainName, overriddenIn]; done) | decide +kernel
theorem d11_0 : decode method_9_code 0 = .ok (.iload_n 0, 1) := by decide +kernel
theorem d11_1 : decode method_9_code 1 = .ok (.ldc 40, 2) := by decide +kernel
theorem d11_3 : decode method_9_code 3 = .ok (.ldc 41, 2) := by decide +kernel
theorem d11_5 : decode method_9_code 5 = .ok (.invokestatic 20, 3) := by decide +kernel
theorem d11_8 : decode method_9_code 8 = .ok (.ireturn, 1) := by decide +kernel
theorem pd11 : parseMethodDescriptor "(I)Z" = some ⟨[.int], some .boolean⟩ := by decide +kernel
theorem pn11 : plainName "com/example/rillet/rillet/postgresql/SaslPrepIsProhibitedPinLaw" = true := by first | (simp [plainName, overriddenIn]; done) | decide +kernel
theorem d12_0 : decode method_10_code 0 = .ok (.iload_n 0, 1) := by decide +kernel
theorem d12_1 : decode method_10_code 1 = .ok (.ldc 25, 2) := by decide +kernel
theorem d12_3 : decode method_10_code 3 = .ok (.ldc 42, 2) := by decide +kernel
theorem d12_5 : decode method_10_code 5 = .ok (.invokestatic 20, 3) := by decide +kernel
theorem d12_8 : decode method_10_code 8 = .ok (.ireturn, 1) := by decide +kernel
theorem pd12 : parseMethodDescriptor "(I)Z" = some ⟨[.int], some .boolean⟩ := by decide +kernel
theorem pn12 : plainName "com/example/rillet/rillet/postgresql/SaslPrepIsProhibitedPinLaw" = true := by first | (simp [plainName, overriddenIn]; done) | decide +kernel
theorem d13_0 : decode method_11_code 0 = .ok (.iload_n 0, 1) := by decide +kernel
theorem d13_1 : decode method_11_code 1 = .ok (.sipush 12272, 3) := by decide +kernel
theorem d13_4 : decode method_11_code 4 = .ok (.sipush 12283, 3) := by decide +kernel
theorem d13_7 : decode method_11_code 7 = .ok (.invokestatic 20, 3) := by decide +kernel
theorem d13_10 : decode method_11_code 10 = .ok (.ireturn, 1) := by decide +kernel
theorem pd13 : parseMethodDescriptor "(I)Z" = some ⟨[.int], some .boolean⟩ := by decide +kernel
theorem pn13 : plainName "com/example/rillet/rillet/postgresql/SaslPrepIsProhibitedPinLaw" = true := by first | (simp [plainName, overriddenIn]; done) | decide +kernel
theorem d14_0 : decode method_12_code 0 = .ok (.iload_n 0, 1) := by decide +kernel
theorem d14_1 : decode method_12_code 1 = .ok (.sipush 832, 3) := by decide +kernel
theorem d14_4 : decode method_12_code 4 = .ok (.if_icmp .eq 50, 3) := by decide +kernel
theorem d14_7 : decode method_12_code 7 = .ok (.iload_n 0, 1) := by decide +kernel
theorem d14_8 : decode method_12_code 8 = .ok (.sipush 833, 3) := by decide +kernel
theorem d14_11 : decode method_12_code 11 = .ok (.if_icmp .eq 43, 3) := by decide +kernel
theorem d14_14 : decode method_12_code 14 = .ok (.iload_n 0, 1) := by decide +kernel
theorem d14_15 : decode method_12_code 15 = .ok (.sipush 8206, 3) := by decide +kernel
theorem d14_18 : decode method_12_code 18 = .ok (.if_icmp .eq 36, 3) := by decide +kernel
theorem d14_21 : decode method_12_code 21 = .ok (.iload_n 0, 1) := by decide +kernel
theorem d14_22 : decode method_12_code 22 = .ok (.sipush 8207, 3) := by decide +kernel
theorem d14_25 : decode method_12_code 25 = .ok (.if_icmp .eq 29, 3) := by decide +kernel
theorem d14_28 : decode method_12_code 28 = .ok (.iload_n 0, 1) := by decide +kernel
theorem d14_29 : decode method_12_code 29 = .ok (.sipush 8234, 3) := by decide +kernel
theorem d14_32 : decode method_12_code 32 = .ok (.sipush 8238, 3) := by decide +kernel
theorem d14_35 : decode method_12_code 35 = .ok (.invokestatic 20, 3) := by decide +kernel
theorem d14_38 : decode method_12_code 38 = .ok (.ifCond .ne 16, 3) := by decide +kernel
theorem d14_41 : decode method_12_code 41 = .ok (.iload_n 0, 1) := by decide +kernel
theorem d14_42 : decode method_12_code 42 = .ok (.sipush 8298, 3) := by decide +kernel
theorem d14_45 : decode method_12_code 45 = .ok (.sipush 8303, 3) := by decide +kernel
theorem d14_48 : decode method_12_code 48 = .ok (.invokestatic 20, 3) := by decide +kernel
theorem d14_51 : decode method_12_code 51 = .ok (.ifCond .eq 7, 3) := by decide +kernel
theorem d14_54 : decode method_12_code 54 = .ok (.iconst 1, 1) := by decide +kernel
theorem d14_55 : decode method_12_code 55 = .ok (.goto 4, 3) := by decide +kernel
theorem d14_58 : decode method_12_code 58 = .ok (.iconst 0, 1) := by decide +kernel
theorem d14_59 : decode method_12_code 59 = .ok (.ireturn, 1) := by decide +kernel
theorem pd14 : parseMethodDescriptor "(I)Z" = some ⟨[.int], some .boolean⟩ := by decide +kernel
theorem pn14 : plainName "com/example/rillet/rillet/postgresql/SaslPrepIsProhibitedPinLaw" = true := by first | (simp [plainName, overriddenIn]; done) | decide +kernel
theorem d15_0 : decode method_13_code 0 = .ok (.iload_n 0, 1) := by decide +kernel
theorem d15_1 : decode method_13_code 1 = .ok (.ldc 43, 2) := by decide +kernel
theorem d15_3 : decode method_13_code 3 = .ok (.if_icmp .eq 14, 3) := by decide +kernel
theorem d15_6 : decode method_13_code 6 = .ok (.iload_n 0, 1) := by decide +kernel
theorem d15_7 : decode method_13_code 7 = .ok (.ldc 44, 2) := by decide +kernel
theorem d15_9 : decode method_13_code 9 = .ok (.ldc 45, 2) := by decide +kernel
theorem d15_11 : decode method_13_code 11 = .ok (.invokestatic 20, 3) := by decide +kernel
theorem d15_14 : decode method_13_code 14 = .ok (.ifCond .eq 7, 3) := by decide +kernel
theorem d15_17 : decode method_13_code 17 = .ok (.iconst 1, 1) := by decide +kernel
theorem d15_18 : decode method_13_code 18 = .ok (.goto 4, 3) := by decide +kernel
theorem d15_21 : decode method_13_code 21 = .ok (.iconst 0, 1) := by decide +kernel
theorem d15_22 : decode method_13_code 22 = .ok (.ireturn, 1) := by decide +kernel
theorem pd15 : parseMethodDescriptor "(I)Z" = some ⟨[.int], some .boolean⟩ := by decide +kernel
theorem pn15 : plainName "com/example/rillet/rillet/postgresql/SaslPrepIsProhibitedPinLaw" = true := by first | (simp [plainName, overriddenIn]; done) | decide +kernel
theorem pnL : plainName "com/example/rillet/rillet/postgresql/SaslPrepIsProhibitedPinLaw" = true := by first | (simp [plainName, overriddenIn]; done) | decide +kernel
set_option maxRecDepth 65536 in
set_option maxHeartbeats 40000000 in
theorem inn (l : Launch) (Z : State) (a0 : Array Value) (hw : ∀ d ∈ tables_1, d.before a0 Z = true) (cc lo hi : Int32) (lo' hi' : Int) (hlo : lo.toInt = lo') (hhi : hi.toInt = hi') (h0 : Heap)  : Wk.Met l Z (⟨"com/example/rillet/rillet/postgresql/SaslPrepIsProhibitedPinLaw", "in", "(III)Z"⟩ : MethodName) method_3_code 3 (some .boolean) [] { frames := 0, cells := 0, slots := 0, locals := 0 } #[(.int cc), (.int lo), (.int hi)] h0 (Wk.Pu (.int (Wk.b (lo' ≤ cc.toInt ∧ cc.toInt ≤ hi'))) h0) := by
  refine Wk.start pn6 ?_
  intro p e s m below meth c s₁ X0 hx hby hml hown0 hnm hret hlk hZ e0
  have hown : s.vm.findClass "com/example/rillet/rillet/postgresql/SaslPrepIsProhibitedPinLaw" = some m.cls := hown0
  refine Wk.enter (g' := (mkF m 0 #[.val (.int cc), .val (.int lo), .val (.int hi)] [])) (by first | rfl | (simp [entryFrame, mkF, argsToLocals, Value.category, maxLocals]; done)) ?_
  refine Wk.iloadN X0 hx (hb hby d6_0) rfl rfl ?_
  refine Wk.iloadN X0 hx (hb hby d6_1) rfl rfl ?_
  refine Wk.icmp_lt X0 hx 14 5 (hb hby d6_2) rfl rfl (show (cc : Int32).toInt = (cc).toInt from rfl) (show (lo : Int32).toInt = lo' from hlo) (fun h1 => ?_) (fun h1 => ?_)
  · skip
    refine Wk.iconst X0 hx (0 : Int32) (hb hby d6_14) rfl rfl ?_
    exact Wk.retZ X0 hx hlk hret (hb hby d6_15) (by decide) (Nat.zero_le _) (Nat.zero_le _) (Wk.puB0 (by omega) e0)
  · skip
    refine Wk.iloadN X0 hx (hb hby d6_5) rfl rfl ?_
    refine Wk.iloadN X0 hx (hb hby d6_6) rfl rfl ?_
    refine Wk.icmp_gt X0 hx 14 10 (hb hby d6_7) rfl rfl (show (cc : Int32).toInt = (cc).toInt from rfl) (show (hi : Int32).toInt = hi' from hhi) (fun h2 => ?_) (fun h2 => ?_)
    · skip
      refine Wk.iconst X0 hx (0 : Int32) (hb hby d6_14) rfl rfl ?_
      exact Wk.retZ X0 hx hlk hret (hb hby d6_15) (by decide) (Nat.zero_le _) (Nat.zero_le _) (Wk.puB0 (by omega) e0)
    · skip
      refine Wk.iconst X0 hx (1 : Int32) (hb hby d6_10) rfl rfl ?_
      refine Wk.goto X0 hx 15 (hb hby d6_11) rfl ?_
      exact Wk.retZ X0 hx hlk hret (hb hby d6_15) (by decide) (Nat.zero_le _) (Nat.zero_le _) (Wk.puB1 (by omega) e0)
set_option maxRecDepth 65536 in
set_option maxHeartbeats 40000000 in
theorem mc12 (l : Launch) (Z : State) (a0 : Array Value) (hw : ∀ d ∈ tables_1, d.before a0 Z = true) (cc : Int32) (hc0 : 0 ≤ cc.toInt) (h0 : Heap)  : Wk.Met l Z (⟨"com/example/rillet/rillet/postgresql/SaslPrepIsProhibitedPinLaw", "c12", "(I)Z"⟩ : MethodName) method_4_code 1 (some .boolean) [] { frames := 1, cells := 0, slots := 0, locals := 14 } #[(.int cc)] h0 (Wk.Pu (.int (Wk.b (pc12 cc.toInt))) h0) := by
  refine Wk.start pn5 ?_
  intro p e s m below meth c s₁ X0 hx hby hml hown0 hnm hret hlk hZ e0
  have hown : s.vm.findClass "com/example/rillet/rillet/postgresql/SaslPrepIsProhibitedPinLaw" = some m.cls := hown0
  refine Wk.enter (g' := (mkF m 0 #[.val (.int cc)] [])) (by first | rfl | (simp [entryFrame, mkF, argsToLocals, Value.category, maxLocals]; done)) ?_
  refine Wk.iloadN X0 hx (hb hby d5_0) rfl rfl ?_
  refine Wk.sipush X0 hx (160 : Int32) (hb hby d5_1) rfl rfl ?_
  refine Wk.icmp_eq X0 hx 48 7 (hb hby d5_4) rfl rfl (show (cc : Int32).toInt = (cc).toInt from rfl) (show ((160 : Int32) : Int32).toInt = 160 from (by decide)) (fun h1 => ?_) (fun h1 => ?_)
  · skip
    refine Wk.iconst X0 hx (1 : Int32) (hb hby d5_48) rfl rfl ?_
    refine Wk.goto X0 hx 53 (hb hby d5_49) rfl ?_
    exact Wk.retZ X0 hx hlk hret (hb hby d5_53) (by decide) (Nat.zero_le _) (Nat.zero_le _) (Wk.puB1 (by first | exact (Or.inl ‹_›) | exact (Or.inr (Or.inl ‹_›)) | exact (Or.inr (Or.inr (Or.inl ‹_›))) | exact (Or.inr (Or.inr (Or.inr (Or.inl ‹_›)))) | exact (Or.inr (Or.inr (Or.inr (Or.inr (Or.inl ‹_›))))) | exact (Or.inr (Or.inr (Or.inr (Or.inr (Or.inr ‹_›))))) | omega) e0)
  · skip
    refine Wk.iloadN X0 hx (hb hby d5_7) rfl rfl ?_
    refine Wk.sipush X0 hx (5760 : Int32) (hb hby d5_8) rfl rfl ?_
    refine Wk.icmp_eq X0 hx 48 14 (hb hby d5_11) rfl rfl (show (cc : Int32).toInt = (cc).toInt from rfl) (show ((5760 : Int32) : Int32).toInt = 5760 from (by decide)) (fun h2 => ?_) (fun h2 => ?_)
    · skip
      refine Wk.iconst X0 hx (1 : Int32) (hb hby d5_48) rfl rfl ?_
      refine Wk.goto X0 hx 53 (hb hby d5_49) rfl ?_
      exact Wk.retZ X0 hx hlk hret (hb hby d5_53) (by decide) (Nat.zero_le _) (Nat.zero_le _) (Wk.puB1 (by first | exact (Or.inl ‹_›) | exact (Or.inr (Or.inl ‹_›)) | exact (Or.inr (Or.inr (Or.inl ‹_›))) | exact (Or.inr (Or.inr (Or.inr (Or.inl ‹_›)))) | exact (Or.inr (Or.inr (Or.inr (Or.inr (Or.inl ‹_›))))) | exact (Or.inr (Or.inr (Or.inr (Or.inr (Or.inr ‹_›))))) | omega) e0)
    · skip
      refine Wk.iloadN X0 hx (hb hby d5_14) rfl rfl ?_
      refine Wk.sipush X0 hx (8192 : Int32) (hb hby d5_15) rfl rfl ?_
      refine Wk.sipush X0 hx (8203 : Int32) (hb hby d5_18) rfl rfl ?_
      refine Wk.callP (W := 0) X0 hx hZ (argsL := [(.int cc), (.int (8192 : Int32)), (.int (8203 : Int32))]) (rest := []) hown (hw _ (List.mem_of_getElem? (i := 23) rfl)) (hw _ (List.mem_of_getElem? (i := 24) rfl)) (hw _ (List.mem_of_getElem? (i := 18) rfl)) (hw _ (List.mem_of_getElem? (i := 25) rfl)) (by decide) (inn l Z a0 hw cc (8192 : Int32) (8203 : Int32) 8192 8203 (by decide) (by decide) h0) e0 (by decide) (by decide) (by decide) (by decide) (by rw [hml]; rfl) (lenOf pd6 rfl) rfl (Nat.le_of_eq rfl) (hb hby d5_21) rfl (fun T3 X3 e3 => ?_)
      refine Wk.if_neB X3 hx 48 27 (hb hby d5_24) rfl rfl (fun h4 => ?_) (fun h4 => ?_)
      · skip
        refine Wk.iconst X3 hx (1 : Int32) (hb hby d5_48) rfl rfl ?_
        refine Wk.goto X3 hx 53 (hb hby d5_49) rfl ?_
        exact Wk.retZ X3 hx hlk hret (hb hby d5_53) (by decide) (Nat.zero_le _) (Nat.zero_le _) (Wk.puB1 (by first | exact (Or.inl ‹_›) | exact (Or.inr (Or.inl ‹_›)) | exact (Or.inr (Or.inr (Or.inl ‹_›))) | exact (Or.inr (Or.inr (Or.inr (Or.inl ‹_›)))) | exact (Or.inr (Or.inr (Or.inr (Or.inr (Or.inl ‹_›))))) | exact (Or.inr (Or.inr (Or.inr (Or.inr (Or.inr ‹_›))))) | omega) e3)
      · skip
        refine Wk.iloadN X3 hx (hb hby d5_27) rfl rfl ?_
        refine Wk.sipush X3 hx (8239 : Int32) (hb hby d5_28) rfl rfl ?_
        refine Wk.icmp_eq X3 hx 48 34 (hb hby d5_31) rfl rfl (show (cc : Int32).toInt = (cc).toInt from rfl) (show ((8239 : Int32) : Int32).toInt = 8239 from (by decide)) (fun h5 => ?_) (fun h5 => ?_)
        · skip
          refine Wk.iconst X3 hx (1 : Int32) (hb hby d5_48) rfl rfl ?_
          refine Wk.goto X3 hx 53 (hb hby d5_49) rfl ?_
          exact Wk.retZ X3 hx hlk hret (hb hby d5_53) (by decide) (Nat.zero_le _) (Nat.zero_le _) (Wk.puB1 (by first | exact (Or.inl ‹_›) | exact (Or.inr (Or.inl ‹_›)) | exact (Or.inr (Or.inr (Or.inl ‹_›))) | exact (Or.inr (Or.inr (Or.inr (Or.inl ‹_›)))) | exact (Or.inr (Or.inr (Or.inr (Or.inr (Or.inl ‹_›))))) | exact (Or.inr (Or.inr (Or.inr (Or.inr (Or.inr ‹_›))))) | omega) e3)
        · skip
          refine Wk.iloadN X3 hx (hb hby d5_34) rfl rfl ?_
          refine Wk.sipush X3 hx (8287 : Int32) (hb hby d5_35) rfl rfl ?_
          refine Wk.icmp_eq X3 hx 48 41 (hb hby d5_38) rfl rfl (show (cc : Int32).toInt = (cc).toInt from rfl) (show ((8287 : Int32) : Int32).toInt = 8287 from (by decide)) (fun h6 => ?_) (fun h6 => ?_)
          · skip
            refine Wk.iconst X3 hx (1 : Int32) (hb hby d5_48) rfl rfl ?_
            refine Wk.goto X3 hx 53 (hb hby d5_49) rfl ?_
            exact Wk.retZ X3 hx hlk hret (hb hby d5_53) (by decide) (Nat.zero_le _) (Nat.zero_le _) (Wk.puB1 (by first | exact (Or.inl ‹_›) | exact (Or.inr (Or.inl ‹_›)) | exact (Or.inr (Or.inr (Or.inl ‹_›))) | exact (Or.inr (Or.inr (Or.inr (Or.inl ‹_›)))) | exact (Or.inr (Or.inr (Or.inr (Or.inr (Or.inl ‹_›))))) | exact (Or.inr (Or.inr (Or.inr (Or.inr (Or.inr ‹_›))))) | omega) e3)
          · skip
            refine Wk.iloadN X3 hx (hb hby d5_41) rfl rfl ?_
            refine Wk.sipush X3 hx (12288 : Int32) (hb hby d5_42) rfl rfl ?_
            refine Wk.icmp_ne X3 hx 52 48 (hb hby d5_45) rfl rfl (show (cc : Int32).toInt = (cc).toInt from rfl) (show ((12288 : Int32) : Int32).toInt = 12288 from (by decide)) (fun h7 => ?_) (fun h7 => ?_)
            · skip
              refine Wk.iconst X3 hx (0 : Int32) (hb hby d5_52) rfl rfl ?_
              exact Wk.retZ X3 hx hlk hret (hb hby d5_53) (by decide) (Nat.zero_le _) (Nat.zero_le _) (Wk.puB0 (by first | (rintro (z | z | z | z | z | z) <;> exact absurd z ‹_›) | omega) e3)
            · skip
              refine Wk.iconst X3 hx (1 : Int32) (hb hby d5_48) rfl rfl ?_
              refine Wk.goto X3 hx 53 (hb hby d5_49) rfl ?_
              exact Wk.retZ X3 hx hlk hret (hb hby d5_53) (by decide) (Nat.zero_le _) (Nat.zero_le _) (Wk.puB1 (by first | exact (Or.inl ‹_›) | exact (Or.inr (Or.inl ‹_›)) | exact (Or.inr (Or.inr (Or.inl ‹_›))) | exact (Or.inr (Or.inr (Or.inr (Or.inl ‹_›)))) | exact (Or.inr (Or.inr (Or.inr (Or.inr (Or.inl ‹_›))))) | exact (Or.inr (Or.inr (Or.inr (Or.inr (Or.inr ‹_›))))) | omega) e3)
set_option maxRecDepth 65536 in
set_option maxHeartbeats 40000000 in
theorem mc21 (l : Launch) (Z : State) (a0 : Array Value) (hw : ∀ d ∈ tables_1, d.before a0 Z = true) (cc : Int32) (hc0 : 0 ≤ cc.toInt) (h0 : Heap)  : Wk.Met l Z (⟨"com/example/rillet/rillet/postgresql/SaslPrepIsProhibitedPinLaw", "c21", "(I)Z"⟩ : MethodName) method_5_code 1 (some .boolean) [] { frames := 1, cells := 0, slots := 0, locals := 14 } #[(.int cc)] h0 (Wk.Pu (.int (Wk.b (pc21 cc.toInt))) h0) := by
  refine Wk.start pn7 ?_
  intro p e s m below meth c s₁ X0 hx hby hml hown0 hnm hret hlk hZ e0
  have hown : s.vm.findClass "com/example/rillet/rillet/postgresql/SaslPrepIsProhibitedPinLaw" = some m.cls := hown0
  refine Wk.enter (g' := (mkF m 0 #[.val (.int cc)] [])) (by first | rfl | (simp [entryFrame, mkF, argsToLocals, Value.category, maxLocals]; done)) ?_
  refine Wk.iloadN X0 hx (hb hby d7_0) rfl rfl ?_
  refine Wk.iconst X0 hx (0 : Int32) (hb hby d7_1) rfl rfl ?_
  refine Wk.bipush X0 hx (31 : Int32) (hb hby d7_2) rfl rfl ?_
  refine Wk.callP (W := 0) X0 hx hZ (argsL := [(.int cc), (.int (0 : Int32)), (.int (31 : Int32))]) (rest := []) hown (hw _ (List.mem_of_getElem? (i := 23) rfl)) (hw _ (List.mem_of_getElem? (i := 24) rfl)) (hw _ (List.mem_of_getElem? (i := 18) rfl)) (hw _ (List.mem_of_getElem? (i := 25) rfl)) (by decide) (inn l Z a0 hw cc (0 : Int32) (31 : Int32) 0 31 (by decide) (by decide) h0) e0 (by decide) (by decide) (by decide) (by decide) (by rw [hml]; rfl) (lenOf pd6 rfl) rfl (Nat.le_of_eq rfl) (hb hby d7_4) rfl (fun T1 X1 e1 => ?_)
  refine Wk.if_neB X1 hx 16 10 (hb hby d7_7) rfl rfl (fun h2 => ?_) (fun h2 => ?_)
  · skip
    refine Wk.iconst X1 hx (1 : Int32) (hb hby d7_16) rfl rfl ?_
    refine Wk.goto X1 hx 21 (hb hby d7_17) rfl ?_
    exact Wk.retZ X1 hx hlk hret (hb hby d7_21) (by decide) (Nat.zero_le _) (Nat.zero_le _) (Wk.puB1 (by first | exact (Or.inl ‹_›) | exact (Or.inr ‹_›) | omega) e1)
  · skip
    refine Wk.iloadN X1 hx (hb hby d7_10) rfl rfl ?_
    refine Wk.bipush X1 hx (127 : Int32) (hb hby d7_11) rfl rfl ?_
    refine Wk.icmp_ne X1 hx 20 16 (hb hby d7_13) rfl rfl (show (cc : Int32).toInt = (cc).toInt from rfl) (show ((127 : Int32) : Int32).toInt = 127 from (by decide)) (fun h3 => ?_) (fun h3 => ?_)
    · skip
      refine Wk.iconst X1 hx (0 : Int32) (hb hby d7_20) rfl rfl ?_
      exact Wk.retZ X1 hx hlk hret (hb hby d7_21) (by decide) (Nat.zero_le _) (Nat.zero_le _) (Wk.puB0 (by first | (rintro (z | z) <;> exact absurd z ‹_›) | omega) e1)
    · skip
      refine Wk.iconst X1 hx (1 : Int32) (hb hby d7_16) rfl rfl ?_
      refine Wk.goto X1 hx 21 (hb hby d7_17) rfl ?_
      exact Wk.retZ X1 hx hlk hret (hb hby d7_21) (by decide) (Nat.zero_le _) (Nat.zero_le _) (Wk.puB1 (by first | exact (Or.inl ‹_›) | exact (Or.inr ‹_›) | omega) e1)
set_option maxRecDepth 65536 in
set_option maxHeartbeats 40000000 in
theorem mc22 (l : Launch) (Z : State) (a0 : Array Value) (hw : ∀ d ∈ tables_1, d.before a0 Z = true) (cc : Int32) (hc0 : 0 ≤ cc.toInt) (h0 : Heap)  : Wk.Met l Z (⟨"com/example/rillet/rillet/postgresql/SaslPrepIsProhibitedPinLaw", "c22", "(I)Z"⟩ : MethodName) method_6_code 1 (some .boolean) [] { frames := 1, cells := 0, slots := 0, locals := 14 } #[(.int cc)] h0 (Wk.Pu (.int (Wk.b (pc22 cc.toInt))) h0) := by
  refine Wk.start pn8 ?_
  intro p e s m below meth c s₁ X0 hx hby hml hown0 hnm hret hlk hZ e0
  have hown : s.vm.findClass "com/example/rillet/rillet/postgresql/SaslPrepIsProhibitedPinLaw" = some m.cls := hown0
  refine Wk.enter (g' := (mkF m 0 #[.val (.int cc)] [])) (by first | rfl | (simp [entryFrame, mkF, argsToLocals, Value.category, maxLocals]; done)) ?_
  refine Wk.iloadN X0 hx (hb hby d8_0) rfl rfl ?_
  refine Wk.sipush X0 hx (128 : Int32) (hb hby d8_1) rfl rfl ?_
  refine Wk.sipush X0 hx (159 : Int32) (hb hby d8_4) rfl rfl ?_
  refine Wk.callP (W := 0) X0 hx hZ (argsL := [(.int cc), (.int (128 : Int32)), (.int (159 : Int32))]) (rest := []) hown (hw _ (List.mem_of_getElem? (i := 23) rfl)) (hw _ (List.mem_of_getElem? (i := 24) rfl)) (hw _ (List.mem_of_getElem? (i := 18) rfl)) (hw _ (List.mem_of_getElem? (i := 25) rfl)) (by decide) (inn l Z a0 hw cc (128 : Int32) (159 : Int32) 128 159 (by decide) (by decide) h0) e0 (by decide) (by decide) (by decide) (by decide) (by rw [hml]; rfl) (lenOf pd6 rfl) rfl (Nat.le_of_eq rfl) (hb hby d8_7) rfl (fun T1 X1 e1 => ?_)
  refine Wk.if_neB X1 hx 116 13 (hb hby d8_10) rfl rfl (fun h2 => ?_) (fun h2 => ?_)
  · skip
    refine Wk.iconst X1 hx (1 : Int32) (hb hby d8_116) rfl rfl ?_
    refine Wk.goto X1 hx 121 (hb hby d8_117) rfl ?_
    exact Wk.retZ X1 hx hlk hret (hb hby d8_121) (by decide) (Nat.zero_le _) (Nat.zero_le _) (Wk.puB1 (by first | exact (Or.inl ‹_›) | exact (Or.inr (Or.inl ‹_›)) | exact (Or.inr (Or.inr (Or.inl ‹_›))) | exact (Or.inr (Or.inr (Or.inr (Or.inl ‹_›)))) | exact (Or.inr (Or.inr (Or.inr (Or.inr (Or.inl ‹_›))))) | exact (Or.inr (Or.inr (Or.inr (Or.inr (Or.inr (Or.inl ‹_›)))))) | exact (Or.inr (Or.inr (Or.inr (Or.inr (Or.inr (Or.inr (Or.inl ‹_›))))))) | exact (Or.inr (Or.inr (Or.inr (Or.inr (Or.inr (Or.inr (Or.inr (Or.inl ‹_›)))))))) | exact (Or.inr (Or.inr (Or.inr (Or.inr (Or.inr (Or.inr (Or.inr (Or.inr (Or.inl ‹_›))))))))) | exact (Or.inr (Or.inr (Or.inr (Or.inr (Or.inr (Or.inr (Or.inr (Or.inr (Or.inr (Or.inl ‹_›)))))))))) | exact (Or.inr (Or.inr (Or.inr (Or.inr (Or.inr (Or.inr (Or.inr (Or.inr (Or.inr (Or.inr (Or.inl ‹_›))))))))))) | exact (Or.inr (Or.inr (Or.inr (Or.inr (Or.inr (Or.inr (Or.inr (Or.inr (Or.inr (Or.inr (Or.inr (Or.inl ‹_›)))))))))))) | exact (Or.inr (Or.inr (Or.inr (Or.inr (Or.inr (Or.inr (Or.inr (Or.inr (Or.inr (Or.inr (Or.inr (Or.inr ‹_›)))))))))))) | omega) e1)
  · skip
    refine Wk.iloadN X1 hx (hb hby d8_13) rfl rfl ?_
    refine Wk.sipush X1 hx (1757 : Int32) (hb hby d8_14) rfl rfl ?_
    refine Wk.icmp_eq X1 hx 116 20 (hb hby d8_17) rfl rfl (show (cc : Int32).toInt = (cc).toInt from rfl) (show ((1757 : Int32) : Int32).toInt = 1757 from (by decide)) (fun h3 => ?_) (fun h3 => ?_)
    · skip
      refine Wk.iconst X1 hx (1 : Int32) (hb hby d8_116) rfl rfl ?_
      refine Wk.goto X1 hx 121 (hb hby d8_117) rfl ?_
      exact Wk.retZ X1 hx hlk hret (hb hby d8_121) (by decide) (Nat.zero_le _) (Nat.zero_le _) (Wk.puB1 (by first | exact (Or.inl ‹_›) | exact (Or.inr (Or.inl ‹_›)) | exact (Or.inr (Or.inr (Or.inl ‹_›))) | exact (Or.inr (Or.inr (Or.inr (Or.inl ‹_›)))) | exact (Or.inr (Or.inr (Or.inr (Or.inr (Or.inl ‹_›))))) | exact (Or.inr (Or.inr (Or.inr (Or.inr (Or.inr (Or.inl ‹_›)))))) | exact (Or.inr (Or.inr (Or.inr (Or.inr (Or.inr (Or.inr (Or.inl ‹_›))))))) | exact (Or.inr (Or.inr (Or.inr (Or.inr (Or.inr (Or.inr (Or.inr (Or.inl ‹_›)))))))) | exact (Or.inr (Or.inr (Or.inr (Or.inr (Or.inr (Or.inr (Or.inr (Or.inr (Or.inl ‹_›))))))))) | exact (Or.inr (Or.inr (Or.inr (Or.inr (Or.inr (Or.inr (Or.inr (Or.inr (Or.inr (Or.inl ‹_›)))))))))) | exact (Or.inr (Or.inr (Or.inr (Or.inr (Or.inr (Or.inr (Or.inr (Or.inr (Or.inr (Or.inr (Or.inl ‹_›))))))))))) | exact (Or.inr (Or.inr (Or.inr (Or.inr (Or.inr (Or.inr (Or.inr (Or.inr (Or.inr (Or.inr (Or.inr (Or.inl ‹_›)))))))))))) | exact (Or.inr (Or.inr (Or.inr (Or.inr (Or.inr (Or.inr (Or.inr (Or.inr (Or.inr (Or.inr (Or.inr (Or.inr ‹_›)))))))))))) | omega) e1)
    · skip
      refine Wk.iloadN X1 hx (hb hby d8_20) rfl rfl ?_
      refine Wk.sipush X1 hx (1807 : Int32) (hb hby d8_21) rfl rfl ?_
      refine Wk.icmp_eq X1 hx 116 27 (hb hby d8_24) rfl rfl (show (cc : Int32).toInt = (cc).toInt from rfl) (show ((1807 : Int32) : Int32).toInt = 1807 from (by decide)) (fun h4 => ?_) (fun h4 => ?_)
      · skip
        refine Wk.iconst X1 hx (1 : Int32) (hb hby d8_116) rfl rfl ?_
        refine Wk.goto X1 hx 121 (hb hby d8_117) rfl ?_
        exact Wk.retZ X1 hx hlk hret (hb hby d8_121) (by decide) (Nat.zero_le _) (Nat.zero_le _) (Wk.puB1 (by first | exact (Or.inl ‹_›) | exact (Or.inr (Or.inl ‹_›)) | exact (Or.inr (Or.inr (Or.inl ‹_›))) | exact (Or.inr (Or.inr (Or.inr (Or.inl ‹_›)))) | exact (Or.inr (Or.inr (Or.inr (Or.inr (Or.inl ‹_›))))) | exact (Or.inr (Or.inr (Or.inr (Or.inr (Or.inr (Or.inl ‹_›)))))) | exact (Or.inr (Or.inr (Or.inr (Or.inr (Or.inr (Or.inr (Or.inl ‹_›))))))) | exact (Or.inr (Or.inr (Or.inr (Or.inr (Or.inr (Or.inr (Or.inr (Or.inl ‹_›)))))))) | exact (Or.inr (Or.inr (Or.inr (Or.inr (Or.inr (Or.inr (Or.inr (Or.inr (Or.inl ‹_›))))))))) | exact (Or.inr (Or.inr (Or.inr (Or.inr (Or.inr (Or.inr (Or.inr (Or.inr (Or.inr (Or.inl ‹_›)))))))))) | exact (Or.inr (Or.inr (Or.inr (Or.inr (Or.inr (Or.inr (Or.inr (Or.inr (Or.inr (Or.inr (Or.inl ‹_›))))))))))) | exact (Or.inr (Or.inr (Or.inr (Or.inr (Or.inr (Or.inr (Or.inr (Or.inr (Or.inr (Or.inr (Or.inr (Or.inl ‹_›)))))))))))) | exact (Or.inr (Or.inr (Or.inr (Or.inr (Or.inr (Or.inr (Or.inr (Or.inr (Or.inr (Or.inr (Or.inr (Or.inr ‹_›)))))))))))) | omega) e1)
      · skip
        refine Wk.iloadN X1 hx (hb hby d8_27) rfl rfl ?_
        refine Wk.sipush X1 hx (6158 : Int32) (hb hby d8_28) rfl rfl ?_
        refine Wk.icmp_eq X1 hx 116 34 (hb hby d8_31) rfl rfl (show (cc : Int32).toInt = (cc).toInt from rfl) (show ((6158 : Int32) : Int32).toInt = 6158 from (by decide)) (fun h5 => ?_) (fun h5 => ?_)
        · skip
          refine Wk.iconst X1 hx (1 : Int32) (hb hby d8_116) rfl rfl ?_
          refine Wk.goto X1 hx 121 (hb hby d8_117) rfl ?_
          exact Wk.retZ X1 hx hlk hret (hb hby d8_121) (by decide) (Nat.zero_le _) (Nat.zero_le _) (Wk.puB1 (by first | exact (Or.inl ‹_›) | exact (Or.inr (Or.inl ‹_›)) | exact (Or.inr (Or.inr (Or.inl ‹_›))) | exact (Or.inr (Or.inr (Or.inr (Or.inl ‹_›)))) | exact (Or.inr (Or.inr (Or.inr (Or.inr (Or.inl ‹_›))))) | exact (Or.inr (Or.inr (Or.inr (Or.inr (Or.inr (Or.inl ‹_›)))))) | exact (Or.inr (Or.inr (Or.inr (Or.inr (Or.inr (Or.inr (Or.inl ‹_›))))))) | exact (Or.inr (Or.inr (Or.inr (Or.inr (Or.inr (Or.inr (Or.inr (Or.inl ‹_›)))))))) | exact (Or.inr (Or.inr (Or.inr (Or.inr (Or.inr (Or.inr (Or.inr (Or.inr (Or.inl ‹_›))))))))) | exact (Or.inr (Or.inr (Or.inr (Or.inr (Or.inr (Or.inr (Or.inr (Or.inr (Or.inr (Or.inl ‹_›)))))))))) | exact (Or.inr (Or.inr (Or.inr (Or.inr (Or.inr (Or.inr (Or.inr (Or.inr (Or.inr (Or.inr (Or.inl ‹_›))))))))))) | exact (Or.inr (Or.inr (Or.inr (Or.inr (Or.inr (Or.inr (Or.inr (Or.inr (Or.inr (Or.inr (Or.inr (Or.inl ‹_›)))))))))))) | exact (Or.inr (Or.inr (Or.inr (Or.inr (Or.inr (Or.inr (Or.inr (Or.inr (Or.inr (Or.inr (Or.inr (Or.inr ‹_›)))))))))))) | omega) e1)
        · skip
          refine Wk.iloadN X1 hx (hb hby d8_34) rfl rfl ?_
          refine Wk.sipush X1 hx (8204 : Int32) (hb hby d8_35) rfl rfl ?_
          refine Wk.icmp_eq X1 hx 116 41 (hb hby d8_38) rfl rfl (show (cc : Int32).toInt = (cc).toInt from rfl) (show ((8204 : Int32) : Int32).toInt = 8204 from (by decide)) (fun h6 => ?_) (fun h6 => ?_)
          · skip
            refine Wk.iconst X1 hx (1 : Int32) (hb hby d8_116) rfl rfl ?_
            refine Wk.goto X1 hx 121 (hb hby d8_117) rfl ?_
            exact Wk.retZ X1 hx hlk hret (hb hby d8_121) (by decide) (Nat.zero_le _) (Nat.zero_le _) (Wk.puB1 (by first | exact (Or.inl ‹_›) | exact (Or.inr (Or.inl ‹_›)) | exact (Or.inr (Or.inr (Or.inl ‹_›))) | exact (Or.inr (Or.inr (Or.inr (Or.inl ‹_›)))) | exact (Or.inr (Or.inr (Or.inr (Or.inr (Or.inl ‹_›))))) | exact (Or.inr (Or.inr (Or.inr (Or.inr (Or.inr (Or.inl ‹_›)))))) | exact (Or.inr (Or.inr (Or.inr (Or.inr (Or.inr (Or.inr (Or.inl ‹_›))))))) | exact (Or.inr (Or.inr (Or.inr (Or.inr (Or.inr (Or.inr (Or.inr (Or.inl ‹_›)))))))) | exact (Or.inr (Or.inr (Or.inr (Or.inr (Or.inr (Or.inr (Or.inr (Or.inr (Or.inl ‹_›))))))))) | exact (Or.inr (Or.inr (Or.inr (Or.inr (Or.inr (Or.inr (Or.inr (Or.inr (Or.inr (Or.inl ‹_›)))))))))) | exact (Or.inr (Or.inr (Or.inr (Or.inr (Or.inr (Or.inr (Or.inr (Or.inr (Or.inr (Or.inr (Or.inl ‹_›))))))))))) | exact (Or.inr (Or.inr (Or.inr (Or.inr (Or.inr (Or.inr (Or.inr (Or.inr (Or.inr (Or.inr (Or.inr (Or.inl ‹_›)))))))))))) | exact (Or.inr (Or.inr (Or.inr (Or.inr (Or.inr (Or.inr (Or.inr (Or.inr (Or.inr (Or.inr (Or.inr (Or.inr ‹_›)))))))))))) | omega) e1)
          · skip
            refine Wk.iloadN X1 hx (hb hby d8_41) rfl rfl ?_
            refine Wk.sipush X1 hx (8205 : Int32) (hb hby d8_42) rfl rfl ?_
            refine Wk.icmp_eq X1 hx 116 48 (hb hby d8_45) rfl rfl (show (cc : Int32).toInt = (cc).toInt from rfl) (show ((8205 : Int32) : Int32).toInt = 8205 from (by decide)) (fun h7 => ?_) (fun h7 => ?_)
            · skip
              refine Wk.iconst X1 hx (1 : Int32) (hb hby d8_116) rfl rfl ?_
              refine Wk.goto X1 hx 121 (hb hby d8_117) rfl ?_
              exact Wk.retZ X1 hx hlk hret (hb hby d8_121) (by decide) (Nat.zero_le _) (Nat.zero_le _) (Wk.puB1 (by first | exact (Or.inl ‹_›) | exact (Or.inr (Or.inl ‹_›)) | exact (Or.inr (Or.inr (Or.inl ‹_›))) | exact (Or.inr (Or.inr (Or.inr (Or.inl ‹_›)))) | exact (Or.inr (Or.inr (Or.inr (Or.inr (Or.inl ‹_›))))) | exact (Or.inr (Or.inr (Or.inr (Or.inr (Or.inr (Or.inl ‹_›)))))) | exact (Or.inr (Or.inr (Or.inr (Or.inr (Or.inr (Or.inr (Or.inl ‹_›))))))) | exact (Or.inr (Or.inr (Or.inr (Or.inr (Or.inr (Or.inr (Or.inr (Or.inl ‹_›)))))))) | exact (Or.inr (Or.inr (Or.inr (Or.inr (Or.inr (Or.inr (Or.inr (Or.inr (Or.inl ‹_›))))))))) | exact (Or.inr (Or.inr (Or.inr (Or.inr (Or.inr (Or.inr (Or.inr (Or.inr (Or.inr (Or.inl ‹_›)))))))))) | exact (Or.inr (Or.inr (Or.inr (Or.inr (Or.inr (Or.inr (Or.inr (Or.inr (Or.inr (Or.inr (Or.inl ‹_›))))))))))) | exact (Or.inr (Or.inr (Or.inr (Or.inr (Or.inr (Or.inr (Or.inr (Or.inr (Or.inr (Or.inr (Or.inr (Or.inl ‹_›)))))))))))) | exact (Or.inr (Or.inr (Or.inr (Or.inr (Or.inr (Or.inr (Or.inr (Or.inr (Or.inr (Or.inr (Or.inr (Or.inr ‹_›)))))))))))) | omega) e1)
            · skip
              refine Wk.iloadN X1 hx (hb hby d8_48) rfl rfl ?_
              refine Wk.sipush X1 hx (8232 : Int32) (hb hby d8_49) rfl rfl ?_
              refine Wk.icmp_eq X1 hx 116 55 (hb hby d8_52) rfl rfl (show (cc : Int32).toInt = (cc).toInt from rfl) (show ((8232 : Int32) : Int32).toInt = 8232 from (by decide)) (fun h8 => ?_) (fun h8 => ?_)
              · skip
                refine Wk.iconst X1 hx (1 : Int32) (hb hby d8_116) rfl rfl ?_
                refine Wk.goto X1 hx 121 (hb hby d8_117) rfl ?_
                exact Wk.retZ X1 hx hlk hret (hb hby d8_121) (by decide) (Nat.zero_le _) (Nat.zero_le _) (Wk.puB1 (by first | exact (Or.inl ‹_›) | exact (Or.inr (Or.inl ‹_›)) | exact (Or.inr (Or.inr (Or.inl ‹_›))) | exact (Or.inr (Or.inr (Or.inr (Or.inl ‹_›)))) | exact (Or.inr (Or.inr (Or.inr (Or.inr (Or.inl ‹_›))))) | exact (Or.inr (Or.inr (Or.inr (Or.inr (Or.inr (Or.inl ‹_›)))))) | exact (Or.inr (Or.inr (Or.inr (Or.inr (Or.inr (Or.inr (Or.inl ‹_›))))))) | exact (Or.inr (Or.inr (Or.inr (Or.inr (Or.inr (Or.inr (Or.inr (Or.inl ‹_›)))))))) | exact (Or.inr (Or.inr (Or.inr (Or.inr (Or.inr (Or.inr (Or.inr (Or.inr (Or.inl ‹_›))))))))) | exact (Or.inr (Or.inr (Or.inr (Or.inr (Or.inr (Or.inr (Or.inr (Or.inr (Or.inr (Or.inl ‹_›)))))))))) | exact (Or.inr (Or.inr (Or.inr (Or.inr (Or.inr (Or.inr (Or.inr (Or.inr (Or.inr (Or.inr (Or.inl ‹_›))))))))))) | exact (Or.inr (Or.inr (Or.inr (Or.inr (Or.inr (Or.inr (Or.inr (Or.inr (Or.inr (Or.inr (Or.inr (Or.inl ‹_›)))))))))))) | exact (Or.inr (Or.inr (Or.inr (Or.inr (Or.inr (Or.inr (Or.inr (Or.inr (Or.inr (Or.inr (Or.inr (Or.inr ‹_›)))))))))))) | omega) e1)
              · skip
                refine Wk.iloadN X1 hx (hb hby d8_55) rfl rfl ?_
                refine Wk.sipush X1 hx (8233 : Int32) (hb hby d8_56) rfl rfl ?_
                refine Wk.icmp_eq X1 hx 116 62 (hb hby d8_59) rfl rfl (show (cc : Int32).toInt = (cc).toInt from rfl) (show ((8233 : Int32) : Int32).toInt = 8233 from (by decide)) (fun h9 => ?_) (fun h9 => ?_)
                · skip
                  refine Wk.iconst X1 hx (1 : Int32) (hb hby d8_116) rfl rfl ?_
                  refine Wk.goto X1 hx 121 (hb hby d8_117) rfl ?_
                  exact Wk.retZ X1 hx hlk hret (hb hby d8_121) (by decide) (Nat.zero_le _) (Nat.zero_le _) (Wk.puB1 (by first | exact (Or.inl ‹_›) | exact (Or.inr (Or.inl ‹_›)) | exact (Or.inr (Or.inr (Or.inl ‹_›))) | exact (Or.inr (Or.inr (Or.inr (Or.inl ‹_›)))) | exact (Or.inr (Or.inr (Or.inr (Or.inr (Or.inl ‹_›))))) | exact (Or.inr (Or.inr (Or.inr (Or.inr (Or.inr (Or.inl ‹_›)))))) | exact (Or.inr (Or.inr (Or.inr (Or.inr (Or.inr (Or.inr (Or.inl ‹_›))))))) | exact (Or.inr (Or.inr (Or.inr (Or.inr (Or.inr (Or.inr (Or.inr (Or.inl ‹_›)))))))) | exact (Or.inr (Or.inr (Or.inr (Or.inr (Or.inr (Or.inr (Or.inr (Or.inr (Or.inl ‹_›))))))))) | exact (Or.inr (Or.inr (Or.inr (Or.inr (Or.inr (Or.inr (Or.inr (Or.inr (Or.inr (Or.inl ‹_›)))))))))) | exact (Or.inr (Or.inr (Or.inr (Or.inr (Or.inr (Or.inr (Or.inr (Or.inr (Or.inr (Or.inr (Or.inl ‹_›))))))))))) | exact (Or.inr (Or.inr (Or.inr (Or.inr (Or.inr (Or.inr (Or.inr (Or.inr (Or.inr (Or.inr (Or.inr (Or.inl ‹_›)))))))))))) | exact (Or.inr (Or.inr (Or.inr (Or.inr (Or.inr (Or.inr (Or.inr (Or.inr (Or.inr (Or.inr (Or.inr (Or.inr ‹_›)))))))))))) | omega) e1)
                · skip
                  refine Wk.iloadN X1 hx (hb hby d8_62) rfl rfl ?_
                  refine Wk.sipush X1 hx (8288 : Int32) (hb hby d8_63) rfl rfl ?_
                  refine Wk.sipush X1 hx (8291 : Int32) (hb hby d8_66) rfl rfl ?_
                  refine Wk.callP (W := 0) X1 hx hZ (argsL := [(.int cc), (.int (8288 : Int32)), (.int (8291 : Int32))]) (rest := []) hown (hw _ (List.mem_of_getElem? (i := 23) rfl)) (hw _ (List.mem_of_getElem? (i := 24) rfl)) (hw _ (List.mem_of_getElem? (i := 18) rfl)) (hw _ (List.mem_of_getElem? (i := 25) rfl)) (by decide) (inn l Z a0 hw cc (8288 : Int32) (8291 : Int32) 8288 8291 (by decide) (by decide) h0) e1 (by decide) (by decide) (by decide) (by decide) (by rw [hml]; rfl) (lenOf pd6 rfl) rfl (Nat.le_of_eq rfl) (hb hby d8_69) rfl (fun T10 X10 e10 => ?_)
                  refine Wk.if_neB X10 hx 116 75 (hb hby d8_72) rfl rfl (fun h11 => ?_) (fun h11 => ?_)
                  · skip
                    refine Wk.iconst X10 hx (1 : Int32) (hb hby d8_116) rfl rfl ?_
                    refine Wk.goto X10 hx 121 (hb hby d8_117) rfl ?_
                    exact Wk.retZ X10 hx hlk hret (hb hby d8_121) (by decide) (Nat.zero_le _) (Nat.zero_le _) (Wk.puB1 (by first | exact (Or.inl ‹_›) | exact (Or.inr (Or.inl ‹_›)) | exact (Or.inr (Or.inr (Or.inl ‹_›))) | exact (Or.inr (Or.inr (Or.inr (Or.inl ‹_›)))) | exact (Or.inr (Or.inr (Or.inr (Or.inr (Or.inl ‹_›))))) | exact (Or.inr (Or.inr (Or.inr (Or.inr (Or.inr (Or.inl ‹_›)))))) | exact (Or.inr (Or.inr (Or.inr (Or.inr (Or.inr (Or.inr (Or.inl ‹_›))))))) | exact (Or.inr (Or.inr (Or.inr (Or.inr (Or.inr (Or.inr (Or.inr (Or.inl ‹_›)))))))) | exact (Or.inr (Or.inr (Or.inr (Or.inr (Or.inr (Or.inr (Or.inr (Or.inr (Or.inl ‹_›))))))))) | exact (Or.inr (Or.inr (Or.inr (Or.inr (Or.inr (Or.inr (Or.inr (Or.inr (Or.inr (Or.inl ‹_›)))))))))) | exact (Or.inr (Or.inr (Or.inr (Or.inr (Or.inr (Or.inr (Or.inr (Or.inr (Or.inr (Or.inr (Or.inl ‹_›))))))))))) | exact (Or.inr (Or.inr (Or.inr (Or.inr (Or.inr (Or.inr (Or.inr (Or.inr (Or.inr (Or.inr (Or.inr (Or.inl ‹_›)))))))))))) | exact (Or.inr (Or.inr (Or.inr (Or.inr (Or.inr (Or.inr (Or.inr (Or.inr (Or.inr (Or.inr (Or.inr (Or.inr ‹_›)))))))))))) | omega) e10)
                  · skip
                    refine Wk.iloadN X10 hx (hb hby d8_75) rfl rfl ?_
                    refine Wk.sipush X10 hx (8298 : Int32) (hb hby d8_76) rfl rfl ?_
                    refine Wk.sipush X10 hx (8303 : Int32) (hb hby d8_79) rfl rfl ?_
                    refine Wk.callP (W := 0) X10 hx hZ (argsL := [(.int cc), (.int (8298 : Int32)), (.int (8303 : Int32))]) (rest := []) hown (hw _ (List.mem_of_getElem? (i := 23) rfl)) (hw _ (List.mem_of_getElem? (i := 24) rfl)) (hw _ (List.mem_of_getElem? (i := 18) rfl)) (hw _ (List.mem_of_getElem? (i := 25) rfl)) (by decide) (inn l Z a0 hw cc (8298 : Int32) (8303 : Int32) 8298 8303 (by decide) (by decide) h0) e10 (by decide) (by decide) (by decide) (by decide) (by rw [hml]; rfl) (lenOf pd6 rfl) rfl (Nat.le_of_eq rfl) (hb hby d8_82) rfl (fun T12 X12 e12 => ?_)
                    refine Wk.if_neB X12 hx 116 88 (hb hby d8_85) rfl rfl (fun h13 => ?_) (fun h13 => ?_)
                    · skip
                      refine Wk.iconst X12 hx (1 : Int32) (hb hby d8_116) rfl rfl ?_
                      refine Wk.goto X12 hx 121 (hb hby d8_117) rfl ?_
                      exact Wk.retZ X12 hx hlk hret (hb hby d8_121) (by decide) (Nat.zero_le _) (Nat.zero_le _) (Wk.puB1 (by first | exact (Or.inl ‹_›) | exact (Or.inr (Or.inl ‹_›)) | exact (Or.inr (Or.inr (Or.inl ‹_›))) | exact (Or.inr (Or.inr (Or.inr (Or.inl ‹_›)))) | exact (Or.inr (Or.inr (Or.inr (Or.inr (Or.inl ‹_›))))) | exact (Or.inr (Or.inr (Or.inr (Or.inr (Or.inr (Or.inl ‹_›)))))) | exact (Or.inr (Or.inr (Or.inr (Or.inr (Or.inr (Or.inr (Or.inl ‹_›))))))) | exact (Or.inr (Or.inr (Or.inr (Or.inr (Or.inr (Or.inr (Or.inr (Or.inl ‹_›)))))))) | exact (Or.inr (Or.inr (Or.inr (Or.inr (Or.inr (Or.inr (Or.inr (Or.inr (Or.inl ‹_›))))))))) | exact (Or.inr (Or.inr (Or.inr (Or.inr (Or.inr (Or.inr (Or.inr (Or.inr (Or.inr (Or.inl ‹_›)))))))))) | exact (Or.inr (Or.inr (Or.inr (Or.inr (Or.inr (Or.inr (Or.inr (Or.inr (Or.inr (Or.inr (Or.inl ‹_›))))))))))) | exact (Or.inr (Or.inr (Or.inr (Or.inr (Or.inr (Or.inr (Or.inr (Or.inr (Or.inr (Or.inr (Or.inr (Or.inl ‹_›)))))))))))) | exact (Or.inr (Or.inr (Or.inr (Or.inr (Or.inr (Or.inr (Or.inr (Or.inr (Or.inr (Or.inr (Or.inr (Or.inr ‹_›)))))))))))) | omega) e12)
                    · skip
                      refine Wk.iloadN X12 hx (hb hby d8_88) rfl rfl ?_
                      refine Wk.ldcI X12 hx hZ hown (hw _ (List.mem_of_getElem? (i := 33) rfl)) (hb hby d8_89) rfl ?_
                      refine Wk.icmp_eq X12 hx 116 94 (hb hby d8_91) rfl rfl (show (cc : Int32).toInt = (cc).toInt from rfl) (show ((65279 : Int32) : Int32).toInt = 65279 from (by decide)) (fun h14 => ?_) (fun h14 => ?_)
                      · skip
                        refine Wk.iconst X12 hx (1 : Int32) (hb hby d8_116) rfl rfl ?_
                        refine Wk.goto X12 hx 121 (hb hby d8_117) rfl ?_
                        exact Wk.retZ X12 hx hlk hret (hb hby d8_121) (by decide) (Nat.zero_le _) (Nat.zero_le _) (Wk.puB1 (by first | exact (Or.inl ‹_›) | exact (Or.inr (Or.inl ‹_›)) | exact (Or.inr (Or.inr (Or.inl ‹_›))) | exact (Or.inr (Or.inr (Or.inr (Or.inl ‹_›)))) | exact (Or.inr (Or.inr (Or.inr (Or.inr (Or.inl ‹_›))))) | exact (Or.inr (Or.inr (Or.inr (Or.inr (Or.inr (Or.inl ‹_›)))))) | exact (Or.inr (Or.inr (Or.inr (Or.inr (Or.inr (Or.inr (Or.inl ‹_›))))))) | exact (Or.inr (Or.inr (Or.inr (Or.inr (Or.inr (Or.inr (Or.inr (Or.inl ‹_›)))))))) | exact (Or.inr (Or.inr (Or.inr (Or.inr (Or.inr (Or.inr (Or.inr (Or.inr (Or.inl ‹_›))))))))) | exact (Or.inr (Or.inr (Or.inr (Or.inr (Or.inr (Or.inr (Or.inr (Or.inr (Or.inr (Or.inl ‹_›)))))))))) | exact (Or.inr (Or.inr (Or.inr (Or.inr (Or.inr (Or.inr (Or.inr (Or.inr (Or.inr (Or.inr (Or.inl ‹_›))))))))))) | exact (Or.inr (Or.inr (Or.inr (Or.inr (Or.inr (Or.inr (Or.inr (Or.inr (Or.inr (Or.inr (Or.inr (Or.inl ‹_›)))))))))))) | exact (Or.inr (Or.inr (Or.inr (Or.inr (Or.inr (Or.inr (Or.inr (Or.inr (Or.inr (Or.inr (Or.inr (Or.inr ‹_›)))))))))))) | omega) e12)
                      · skip
                        refine Wk.iloadN X12 hx (hb hby d8_94) rfl rfl ?_
                        refine Wk.ldcI X12 hx hZ hown (hw _ (List.mem_of_getElem? (i := 34) rfl)) (hb hby d8_95) rfl ?_
                        refine Wk.ldcI X12 hx hZ hown (hw _ (List.mem_of_getElem? (i := 35) rfl)) (hb hby d8_97) rfl ?_
                        refine Wk.callP (W := 0) X12 hx hZ (argsL := [(.int cc), (.int (65529 : Int32)), (.int (65532 : Int32))]) (rest := []) hown (hw _ (List.mem_of_getElem? (i := 23) rfl)) (hw _ (List.mem_of_getElem? (i := 24) rfl)) (hw _ (List.mem_of_getElem? (i := 18) rfl)) (hw _ (List.mem_of_getElem? (i := 25) rfl)) (by decide) (inn l Z a0 hw cc (65529 : Int32) (65532 : Int32) 65529 65532 (by decide) (by decide) h0) e12 (by decide) (by decide) (by decide) (by decide) (by rw [hml]; rfl) (lenOf pd6 rfl) rfl (Nat.le_of_eq rfl) (hb hby d8_99) rfl (fun T15 X15 e15 => ?_)
                        refine Wk.if_neB X15 hx 116 105 (hb hby d8_102) rfl rfl (fun h16 => ?_) (fun h16 => ?_)
                        · skip
                          refine Wk.iconst X15 hx (1 : Int32) (hb hby d8_116) rfl rfl ?_
                          refine Wk.goto X15 hx 121 (hb hby d8_117) rfl ?_
                          exact Wk.retZ X15 hx hlk hret (hb hby d8_121) (by decide) (Nat.zero_le _) (Nat.zero_le _) (Wk.puB1 (by first | exact (Or.inl ‹_›) | exact (Or.inr (Or.inl ‹_›)) | exact (Or.inr (Or.inr (Or.inl ‹_›))) | exact (Or.inr (Or.inr (Or.inr (Or.inl ‹_›)))) | exact (Or.inr (Or.inr (Or.inr (Or.inr (Or.inl ‹_›))))) | exact (Or.inr (Or.inr (Or.inr (Or.inr (Or.inr (Or.inl ‹_›)))))) | exact (Or.inr (Or.inr (Or.inr (Or.inr (Or.inr (Or.inr (Or.inl ‹_›))))))) | exact (Or.inr (Or.inr (Or.inr (Or.inr (Or.inr (Or.inr (Or.inr (Or.inl ‹_›)))))))) | exact (Or.inr (Or.inr (Or.inr (Or.inr (Or.inr (Or.inr (Or.inr (Or.inr (Or.inl ‹_›))))))))) | exact (Or.inr (Or.inr (Or.inr (Or.inr (Or.inr (Or.inr (Or.inr (Or.inr (Or.inr (Or.inl ‹_›)))))))))) | exact (Or.inr (Or.inr (Or.inr (Or.inr (Or.inr (Or.inr (Or.inr (Or.inr (Or.inr (Or.inr (Or.inl ‹_›))))))))))) | exact (Or.inr (Or.inr (Or.inr (Or.inr (Or.inr (Or.inr (Or.inr (Or.inr (Or.inr (Or.inr (Or.inr (Or.inl ‹_›)))))))))))) | exact (Or.inr (Or.inr (Or.inr (Or.inr (Or.inr (Or.inr (Or.inr (Or.inr (Or.inr (Or.inr (Or.inr (Or.inr ‹_›)))))))))))) | omega) e15)
                        · skip
                          refine Wk.iloadN X15 hx (hb hby d8_105) rfl rfl ?_
                          refine Wk.ldcI X15 hx hZ hown (hw _ (List.mem_of_getElem? (i := 36) rfl)) (hb hby d8_106) rfl ?_
                          refine Wk.ldcI X15 hx hZ hown (hw _ (List.mem_of_getElem? (i := 37) rfl)) (hb hby d8_108) rfl ?_
                          refine Wk.callP (W := 0) X15 hx hZ (argsL := [(.int cc), (.int (119155 : Int32)), (.int (119162 : Int32))]) (rest := []) hown (hw _ (List.mem_of_getElem? (i := 23) rfl)) (hw _ (List.mem_of_getElem? (i := 24) rfl)) (hw _ (List.mem_of_getElem? (i := 18) rfl)) (hw _ (List.mem_of_getElem? (i := 25) rfl)) (by decide) (inn l Z a0 hw cc (119155 : Int32) (119162 : Int32) 119155 119162 (by decide) (by decide) h0) e15 (by decide) (by decide) (by decide) (by decide) (by rw [hml]; rfl) (lenOf pd6 rfl) rfl (Nat.le_of_eq rfl) (hb hby d8_110) rfl (fun T17 X17 e17 => ?_)
                          refine Wk.if_eqB X17 hx 120 116 (hb hby d8_113) rfl rfl (fun h18 => ?_) (fun h18 => ?_)
                          · skip
                            refine Wk.iconst X17 hx (0 : Int32) (hb hby d8_120) rfl rfl ?_
                            exact Wk.retZ X17 hx hlk hret (hb hby d8_121) (by decide) (Nat.zero_le _) (Nat.zero_le _) (Wk.puB0 (by first | (rintro (z | z | z | z | z | z | z | z | z | z | z | z | z) <;> exact absurd z ‹_›) | omega) e17)
                          · skip
                            refine Wk.iconst X17 hx (1 : Int32) (hb hby d8_116) rfl rfl ?_
                            refine Wk.goto X17 hx 121 (hb hby d8_117) rfl ?_
                            exact Wk.retZ X17 hx hlk hret (hb hby d8_121) (by decide) (Nat.zero_le _) (Nat.zero_le _) (Wk.puB1 (by first | exact (Or.inl ‹_›) | exact (Or.inr (Or.inl ‹_›)) | exact (Or.inr (Or.inr (Or.inl ‹_›))) | exact (Or.inr (Or.inr (Or.inr (Or.inl ‹_›)))) | exact (Or.inr (Or.inr (Or.inr (Or.inr (Or.inl ‹_›))))) | exact (Or.inr (Or.inr (Or.inr (Or.inr (Or.inr (Or.inl ‹_›)))))) | exact (Or.inr (Or.inr (Or.inr (Or.inr (Or.inr (Or.inr (Or.inl ‹_›))))))) | exact (Or.inr (Or.inr (Or.inr (Or.inr (Or.inr (Or.inr (Or.inr (Or.inl ‹_›)))))))) | exact (Or.inr (Or.inr (Or.inr (Or.inr (Or.inr (Or.inr (Or.inr (Or.inr (Or.inl ‹_›))))))))) | exact (Or.inr (Or.inr (Or.inr (Or.inr (Or.inr (Or.inr (Or.inr (Or.inr (Or.inr (Or.inl ‹_›)))))))))) | exact (Or.inr (Or.inr (Or.inr (Or.inr (Or.inr (Or.inr (Or.inr (Or.inr (Or.inr (Or.inr (Or.inl ‹_›))))))))))) | exact (Or.inr (Or.inr (Or.inr (Or.inr (Or.inr (Or.inr (Or.inr (Or.inr (Or.inr (Or.inr (Or.inr (Or.inl ‹_›)))))))))))) | exact (Or.inr (Or.inr (Or.inr (Or.inr (Or.inr (Or.inr (Or.inr (Or.inr (Or.inr (Or.inr (Or.inr (Or.inr ‹_›)))))))))))) | omega) e17)
set_option maxRecDepth 65536 in
set_option maxHeartbeats 40000000 in
theorem mc3 (l : Launch) (Z : State) (a0 : Array Value) (hw : ∀ d ∈ tables_1, d.before a0 Z = true) (cc : Int32) (hc0 : 0 ≤ cc.toInt) (h0 : Heap)  : Wk.Met l Z (⟨"com/example/rillet/rillet/postgresql/SaslPrepIsProhibitedPinLaw", "c3", "(I)Z"⟩ : MethodName) method_7_code 1 (some .boolean) [] { frames := 1, cells := 0, slots := 0, locals := 14 } #[(.int cc)] h0 (Wk.Pu (.int (Wk.b (pc3 cc.toInt))) h0) := by
  refine Wk.start pn9 ?_
  intro p e s m below meth c s₁ X0 hx hby hml hown0 hnm hret hlk hZ e0
  have hown : s.vm.findClass "com/example/rillet/rillet/postgresql/SaslPrepIsProhibitedPinLaw" = some m.cls := hown0
  refine Wk.enter (g' := (mkF m 0 #[.val (.int cc)] [])) (by first | rfl | (simp [entryFrame, mkF, argsToLocals, Value.category, maxLocals]; done)) ?_
  refine Wk.iloadN X0 hx (hb hby d9_0) rfl rfl ?_
  refine Wk.ldcI X0 hx hZ hown (hw _ (List.mem_of_getElem? (i := 41) rfl)) (hb hby d9_1) rfl ?_
  refine Wk.ldcI X0 hx hZ hown (hw _ (List.mem_of_getElem? (i := 42) rfl)) (hb hby d9_3) rfl ?_
  refine Wk.callP (W := 0) X0 hx hZ (argsL := [(.int cc), (.int (57344 : Int32)), (.int (63743 : Int32))]) (rest := []) hown (hw _ (List.mem_of_getElem? (i := 23) rfl)) (hw _ (List.mem_of_getElem? (i := 24) rfl)) (hw _ (List.mem_of_getElem? (i := 18) rfl)) (hw _ (List.mem_of_getElem? (i := 25) rfl)) (by decide) (inn l Z a0 hw cc (57344 : Int32) (63743 : Int32) 57344 63743 (by decide) (by decide) h0) e0 (by decide) (by decide) (by decide) (by decide) (by rw [hml]; rfl) (lenOf pd6 rfl) rfl (Nat.le_of_eq rfl) (hb hby d9_5) rfl (fun T1 X1 e1 => ?_)
  refine Wk.if_neB X1 hx 33 11 (hb hby d9_8) rfl rfl (fun h2 => ?_) (fun h2 => ?_)
  · skip
    refine Wk.iconst X1 hx (1 : Int32) (hb hby d9_33) rfl rfl ?_
    refine Wk.goto X1 hx 38 (hb hby d9_34) rfl ?_
    exact Wk.retZ X1 hx hlk hret (hb hby d9_38) (by decide) (Nat.zero_le _) (Nat.zero_le _) (Wk.puB1 (by first | exact (Or.inl ‹_›) | exact (Or.inr (Or.inl ‹_›)) | exact (Or.inr (Or.inr ‹_›)) | omega) e1)
  · skip
    refine Wk.iloadN X1 hx (hb hby d9_11) rfl rfl ?_
    refine Wk.ldcI X1 hx hZ hown (hw _ (List.mem_of_getElem? (i := 43) rfl)) (hb hby d9_12) rfl ?_
    refine Wk.ldcI X1 hx hZ hown (hw _ (List.mem_of_getElem? (i := 44) rfl)) (hb hby d9_14) rfl ?_
    refine Wk.callP (W := 0) X1 hx hZ (argsL := [(.int cc), (.int (983040 : Int32)), (.int (1048573 : Int32))]) (rest := []) hown (hw _ (List.mem_of_getElem? (i := 23) rfl)) (hw _ (List.mem_of_getElem? (i := 24) rfl)) (hw _ (List.mem_of_getElem? (i := 18) rfl)) (hw _ (List.mem_of_getElem? (i := 25) rfl)) (by decide) (inn l Z a0 hw cc (983040 : Int32) (1048573 : Int32) 983040 1048573 (by decide) (by decide) h0) e1 (by decide) (by decide) (by decide) (by decide) (by rw [hml]; rfl) (lenOf pd6 rfl) rfl (Nat.le_of_eq rfl) (hb hby d9_16) rfl (fun T3 X3 e3 => ?_)
    refine Wk.if_neB X3 hx 33 22 (hb hby d9_19) rfl rfl (fun h4 => ?_) (fun h4 => ?_)
    · skip
      refine Wk.iconst X3 hx (1 : Int32) (hb hby d9_33) rfl rfl ?_
      refine Wk.goto X3 hx 38 (hb hby d9_34) rfl ?_
      exact Wk.retZ X3 hx hlk hret (hb hby d9_38) (by decide) (Nat.zero_le _) (Nat.zero_le _) (Wk.puB1 (by first | exact (Or.inl ‹_›) | exact (Or.inr (Or.inl ‹_›)) | exact (Or.inr (Or.inr ‹_›)) | omega) e3)
    · skip
      refine Wk.iloadN X3 hx (hb hby d9_22) rfl rfl ?_
      refine Wk.ldcI X3 hx hZ hown (hw _ (List.mem_of_getElem? (i := 45) rfl)) (hb hby d9_23) rfl ?_
      refine Wk.ldcI X3 hx hZ hown (hw _ (List.mem_of_getElem? (i := 46) rfl)) (hb hby d9_25) rfl ?_
      refine Wk.callP (W := 0) X3 hx hZ (argsL := [(.int cc), (.int (1048576 : Int32)), (.int (1114109 : Int32))]) (rest := []) hown (hw _ (List.mem_of_getElem? (i := 23) rfl)) (hw _ (List.mem_of_getElem? (i := 24) rfl)) (hw _ (List.mem_of_getElem? (i := 18) rfl)) (hw _ (List.mem_of_getElem? (i := 25) rfl)) (by decide) (inn l Z a0 hw cc (1048576 : Int32) (1114109 : Int32) 1048576 1114109 (by decide) (by decide) h0) e3 (by decide) (by decide) (by decide) (by decide) (by rw [hml]; rfl) (lenOf pd6 rfl) rfl (Nat.le_of_eq rfl) (hb hby d9_27) rfl (fun T5 X5 e5 => ?_)
      refine Wk.if_eqB X5 hx 37 33 (hb hby d9_30) rfl rfl (fun h6 => ?_) (fun h6 => ?_)
      · skip
        refine Wk.iconst X5 hx (0 : Int32) (hb hby d9_37) rfl rfl ?_
        exact Wk.retZ X5 hx hlk hret (hb hby d9_38) (by decide) (Nat.zero_le _) (Nat.zero_le _) (Wk.puB0 (by first | (rintro (z | z | z) <;> exact absurd z ‹_›) | omega) e5)
      · skip
        refine Wk.iconst X5 hx (1 : Int32) (hb hby d9_33) rfl rfl ?_
        refine Wk.goto X5 hx 38 (hb hby d9_34) rfl ?_
        exact Wk.retZ X5 hx hlk hret (hb hby d9_38) (by decide) (Nat.zero_le _) (Nat.zero_le _) (Wk.puB1 (by first | exact (Or.inl ‹_›) | exact (Or.inr (Or.inl ‹_›)) | exact (Or.inr (Or.inr ‹_›)) | omega) e5)
set_option maxRecDepth 65536 in
set_option maxHeartbeats 40000000 in
theorem mc4 (l : Launch) (Z : State) (a0 : Array Value) (hw : ∀ d ∈ tables_1, d.before a0 Z = true) (cc : Int32) (hc0 : 0 ≤ cc.toInt) (h0 : Heap)  : Wk.Met l Z (⟨"com/example/rillet/rillet/postgresql/SaslPrepIsProhibitedPinLaw", "c4", "(I)Z"⟩ : MethodName) method_8_code 2 (some .boolean) [] { frames := 1, cells := 0, slots := 0, locals := 14 } #[(.int cc)] h0 (Wk.Pu (.int (Wk.b (pc4 cc.toInt))) h0) := by
  refine Wk.start pn10 ?_
  intro p e s m below meth c s₁ X0 hx hby hml hown0 hnm hret hlk hZ e0
  have hown : s.vm.findClass "com/example/rillet/rillet/postgresql/SaslPrepIsProhibitedPinLaw" = some m.cls := hown0
  refine Wk.enter (g' := (mkF m 0 #[.val (.int cc), .unset] [])) (by first | rfl | (simp [entryFrame, mkF, argsToLocals, Value.category, maxLocals]; done)) ?_
  refine Wk.iloadN X0 hx (hb hby d10_0) rfl rfl ?_
  refine Wk.ldcI X0 hx hZ hown (hw _ (List.mem_of_getElem? (i := 50) rfl)) (hb hby d10_1) rfl ?_
  refine Wk.irem X0 hx (hb hby d10_3) (by decide) rfl ?_
  refine Wk.istoreN (l' := #[.val (.int cc), .val (.int (cc % (65536 : Int32)))]) X0 hx (hb hby d10_4) rfl rfl ?_
  refine Wk.iloadN X0 hx (hb hby d10_5) rfl rfl ?_
  refine Wk.ldcI X0 hx hZ hown (hw _ (List.mem_of_getElem? (i := 51) rfl)) (hb hby d10_6) rfl ?_
  refine Wk.ldcI X0 hx hZ hown (hw _ (List.mem_of_getElem? (i := 52) rfl)) (hb hby d10_8) rfl ?_
  refine Wk.callP (W := 0) X0 hx hZ (argsL := [(.int cc), (.int (64976 : Int32)), (.int (65007 : Int32))]) (rest := []) hown (hw _ (List.mem_of_getElem? (i := 23) rfl)) (hw _ (List.mem_of_getElem? (i := 24) rfl)) (hw _ (List.mem_of_getElem? (i := 18) rfl)) (hw _ (List.mem_of_getElem? (i := 25) rfl)) (by decide) (inn l Z a0 hw cc (64976 : Int32) (65007 : Int32) 64976 65007 (by decide) (by decide) h0) e0 (by decide) (by decide) (by decide) (by decide) (by rw [hml]; rfl) (lenOf pd6 rfl) rfl (Nat.le_of_eq rfl) (hb hby d10_10) rfl (fun T1 X1 e1 => ?_)
  refine Wk.if_neB X1 hx 28 16 (hb hby d10_13) rfl rfl (fun h2 => ?_) (fun h2 => ?_)
  · skip
    refine Wk.iconst X1 hx (1 : Int32) (hb hby d10_28) rfl rfl ?_
    refine Wk.goto X1 hx 33 (hb hby d10_29) rfl ?_
    exact Wk.retZ X1 hx hlk hret (hb hby d10_33) (by decide) (Nat.zero_le _) (Nat.zero_le _) (Wk.puB1 (by first | exact (Or.inl ‹_›) | exact (Or.inr (Or.inl ‹_›)) | exact (Or.inr (Or.inr ‹_›)) | omega) e1)
  · skip
    refine Wk.iloadN X1 hx (hb hby d10_16) rfl rfl ?_
    refine Wk.ldcI X1 hx hZ hown (hw _ (List.mem_of_getElem? (i := 53) rfl)) (hb hby d10_17) rfl ?_
    refine Wk.icmp_eq X1 hx 28 22 (hb hby d10_19) rfl rfl (show (cc % (65536 : Int32) : Int32).toInt = cc.toInt % 65536 from (c_irem cc (65536 : Int32) 65536 (by decide)).1 hc0) (show ((65534 : Int32) : Int32).toInt = 65534 from (by decide)) (fun h3 => ?_) (fun h3 => ?_)
    · skip
      refine Wk.iconst X1 hx (1 : Int32) (hb hby d10_28) rfl rfl ?_
      refine Wk.goto X1 hx 33 (hb hby d10_29) rfl ?_
      exact Wk.retZ X1 hx hlk hret (hb hby d10_33) (by decide) (Nat.zero_le _) (Nat.zero_le _) (Wk.puB1 (by first | exact (Or.inl ‹_›) | exact (Or.inr (Or.inl ‹_›)) | exact (Or.inr (Or.inr ‹_›)) | omega) e1)
    · skip
      refine Wk.iloadN X1 hx (hb hby d10_22) rfl rfl ?_
      refine Wk.ldcI X1 hx hZ hown (hw _ (List.mem_of_getElem? (i := 54) rfl)) (hb hby d10_23) rfl ?_
      refine Wk.icmp_ne X1 hx 32 28 (hb hby d10_25) rfl rfl (show (cc % (65536 : Int32) : Int32).toInt = cc.toInt % 65536 from (c_irem cc (65536 : Int32) 65536 (by decide)).1 hc0) (show ((65535 : Int32) : Int32).toInt = 65535 from (by decide)) (fun h4 => ?_) (fun h4 => ?_)
      · skip
        refine Wk.iconst X1 hx (0 : Int32) (hb hby d10_32) rfl rfl ?_
        exact Wk.retZ X1 hx hlk hret (hb hby d10_33) (by decide) (Nat.zero_le _) (Nat.zero_le _) (Wk.puB0 (by first | (rintro (z | z | z) <;> exact absurd z ‹_›) | omega) e1)
      · skip
        refine Wk.iconst X1 hx (1 : Int32) (hb hby d10_28) rfl rfl ?_
        refine Wk.goto X1 hx 33 (hb hby d10_29) rfl ?_
        exact Wk.retZ X1 hx hlk hret (hb hby d10_33) (by decide) (Nat.zero_le _) (Nat.zero_le _) (Wk.puB1 (by first | exact (Or.inl ‹_›) | exact (Or.inr (Or.inl ‹_›)) | exact (Or.inr (Or.inr ‹_›)) | omega) e1)
set_option maxRecDepth 65536 in
set_option maxHeartbeats 40000000 in
theorem mc5 (l : Launch) (Z : State) (a0 : Array Value) (hw : ∀ d ∈ tables_1, d.before a0 Z = true) (cc : Int32) (hc0 : 0 ≤ cc.toInt) (h0 : Heap)  : Wk.Met l Z (⟨"com/example/rillet/rillet/postgresql/SaslPrepIsProhibitedPinLaw", "c5", "(I)Z"⟩ : MethodName) method_9_code 1 (some .boolean) [] { frames := 1, cells := 0, slots := 0, locals := 14 } #[(.int cc)] h0 (Wk.Pu (.int (Wk.b (pc5 cc.toInt))) h0) := by
  refine Wk.start pn11 ?_
  intro p e s m below meth c s₁ X0 hx hby hml hown0 hnm hret hlk hZ e0
  have hown : s.vm.findClass "com/example/rillet/rillet/postgresql/SaslPrepIsProhibitedPinLaw" = some m.cls := hown0
  refine Wk.enter (g' := (mkF m 0 #[.val (.int cc)] [])) (by first | rfl | (simp [entryFrame, mkF, argsToLocals, Value.category, maxLocals]; done)) ?_
  refine Wk.iloadN X0 hx (hb hby d11_0) rfl rfl ?_
  refine Wk.ldcI X0 hx hZ hown (hw _ (List.mem_of_getElem? (i := 58) rfl)) (hb hby d11_1) rfl ?_
  refine Wk.ldcI X0 hx hZ hown (hw _ (List.mem_of_getElem? (i := 59) rfl)) (hb hby d11_3) rfl ?_
  refine Wk.callP (W := 0) X0 hx hZ (argsL := [(.int cc), (.int (55296 : Int32)), (.int (57343 : Int32))]) (rest := []) hown (hw _ (List.mem_of_getElem? (i := 23) rfl)) (hw _ (List.mem_of_getElem? (i := 24) rfl)) (hw _ (List.mem_of_getElem? (i := 18) rfl)) (hw _ (List.mem_of_getElem? (i := 25) rfl)) (by decide) (inn l Z a0 hw cc (55296 : Int32) (57343 : Int32) 55296 57343 (by decide) (by decide) h0) e0 (by decide) (by decide) (by decide) (by decide) (by rw [hml]; rfl) (lenOf pd6 rfl) rfl (Nat.le_of_eq rfl) (hb hby d11_5) rfl (fun T1 X1 e1 => ?_)
  exact Wk.retZ X1 hx hlk hret (hb hby d11_8) Wk.b01 (Nat.zero_le _) (Nat.zero_le _) (Wk.puE (by rfl) e1)
set_option maxRecDepth 65536 in
set_option maxHeartbeats 40000000 in
theorem mc6 (l : Launch) (Z : State) (a0 : Array Value) (hw : ∀ d ∈ tables_1, d.before a0 Z = true) (cc : Int32) (hc0 : 0 ≤ cc.toInt) (h0 : Heap)  : Wk.Met l Z (⟨"com/example/rillet/rillet/postgresql/SaslPrepIsProhibitedPinLaw", "c6", "(I)Z"⟩ : MethodName) method_10_code 1 (some .boolean) [] { frames := 1, cells := 0, slots := 0, locals := 14 } #[(.int cc)] h0 (Wk.Pu (.int (Wk.b (pc6 cc.toInt))) h0) := by
  refine Wk.start pn12 ?_
  intro p e s m below meth c s₁ X0 hx hby hml hown0 hnm hret hlk hZ e0
  have hown : s.vm.findClass "com/example/rillet/rillet/postgresql/SaslPrepIsProhibitedPinLaw" = some m.cls := hown0
  refine Wk.enter (g' := (mkF m 0 #[.val (.int cc)] [])) (by first | rfl | (simp [entryFrame, mkF, argsToLocals, Value.category, maxLocals]; done)) ?_
  refine Wk.iloadN X0 hx (hb hby d12_0) rfl rfl ?_
  refine Wk.ldcI X0 hx hZ hown (hw _ (List.mem_of_getElem? (i := 34) rfl)) (hb hby d12_1) rfl ?_
  refine Wk.ldcI X0 hx hZ hown (hw _ (List.mem_of_getElem? (i := 63) rfl)) (hb hby d12_3) rfl ?_
  refine Wk.callP (W := 0) X0 hx hZ (argsL := [(.int cc), (.int (65529 : Int32)), (.int (65533 : Int32))]) (rest := []) hown (hw _ (List.mem_of_getElem? (i := 23) rfl)) (hw _ (List.mem_of_getElem? (i := 24) rfl)) (hw _ (List.mem_of_getElem? (i := 18) rfl)) (hw _ (List.mem_of_getElem? (i := 25) rfl)) (by decide) (inn l Z a0 hw cc (65529 : Int32) (65533 : Int32) 65529 65533 (by decide) (by decide) h0) e0 (by decide) (by decide) (by decide) (by decide) (by rw [hml]; rfl) (lenOf pd6 rfl) rfl (Nat.le_of_eq rfl) (hb hby d12_5) rfl (fun T1 X1 e1 => ?_)
  exact Wk.retZ X1 hx hlk hret (hb hby d12_8) Wk.b01 (Nat.zero_le _) (Nat.zero_le _) (Wk.puE (by rfl) e1)
set_option maxRecDepth 65536 in
set_option maxHeartbeats 40000000 in
theorem mc7 (l : Launch) (Z : State) (a0 : Array Value) (hw : ∀ d ∈ tables_1, d.before a0 Z = true) (cc : Int32) (hc0 : 0 ≤ cc.toInt) (h0 : Heap)  : Wk.Met l Z (⟨"com/example/rillet/rillet/postgresql/SaslPrepIsProhibitedPinLaw", "c7", "(I)Z"⟩ : MethodName) method_11_code 1 (some .boolean) [] { frames := 1, cells := 0, slots := 0, locals := 14 } #[(.int cc)] h0 (Wk.Pu (.int (Wk.b (pc7 cc.toInt))) h0) := by
  refine Wk.start pn13 ?_
  intro p e s m below meth c s₁ X0 hx hby hml hown0 hnm hret hlk hZ e0
  have hown : s.vm.findClass "com/example/rillet/rillet/postgresql/SaslPrepIsProhibitedPinLaw" = some m.cls := hown0
  refine Wk.enter (g' := (mkF m 0 #[.val (.int cc)] [])) (by first | rfl | (simp [entryFrame, mkF, argsToLocals, Value.category, maxLocals]; done)) ?_
  refine Wk.iloadN X0 hx (hb hby d13_0) rfl rfl ?_
  refine Wk.sipush X0 hx (12272 : Int32) (hb hby d13_1) rfl rfl ?_
  refine Wk.sipush X0 hx (12283 : Int32) (hb hby d13_4) rfl rfl ?_
  refine Wk.callP (W := 0) X0 hx hZ (argsL := [(.int cc), (.int (12272 : Int32)), (.int (12283 : Int32))]) (rest := []) hown (hw _ (List.mem_of_getElem? (i := 23) rfl)) (hw _ (List.mem_of_getElem? (i := 24) rfl)) (hw _ (List.mem_of_getElem? (i := 18) rfl)) (hw _ (List.mem_of_getElem? (i := 25) rfl)) (by decide) (inn l Z a0 hw cc (12272 : Int32) (12283 : Int32) 12272 12283 (by decide) (by decide) h0) e0 (by decide) (by decide) (by decide) (by decide) (by rw [hml]; rfl) (lenOf pd6 rfl) rfl (Nat.le_of_eq rfl) (hb hby d13_7) rfl (fun T1 X1 e1 => ?_)
  exact Wk.retZ X1 hx hlk hret (hb hby d13_10) Wk.b01 (Nat.zero_le _) (Nat.zero_le _) (Wk.puE (by rfl) e1)
set_option maxRecDepth 65536 in
set_option maxHeartbeats 40000000 in
theorem mc8 (l : Launch) (Z : State) (a0 : Array Value) (hw : ∀ d ∈ tables_1, d.before a0 Z = true) (cc : Int32) (hc0 : 0 ≤ cc.toInt) (h0 : Heap)  : Wk.Met l Z (⟨"com/example/rillet/rillet/postgresql/SaslPrepIsProhibitedPinLaw", "c8", "(I)Z"⟩ : MethodName) method_12_code 1 (some .boolean) [] { frames := 1, cells := 0, slots := 0, locals := 14 } #[(.int cc)] h0 (Wk.Pu (.int (Wk.b (pc8 cc.toInt))) h0) := by
  refine Wk.start pn14 ?_
  intro p e s m below meth c s₁ X0 hx hby hml hown0 hnm hret hlk hZ e0
  have hown : s.vm.findClass "com/example/rillet/rillet/postgresql/SaslPrepIsProhibitedPinLaw" = some m.cls := hown0
  refine Wk.enter (g' := (mkF m 0 #[.val (.int cc)] [])) (by first | rfl | (simp [entryFrame, mkF, argsToLocals, Value.category, maxLocals]; done)) ?_
  refine Wk.iloadN X0 hx (hb hby d14_0) rfl rfl ?_
  refine Wk.sipush X0 hx (832 : Int32) (hb hby d14_1) rfl rfl ?_
  refine Wk.icmp_eq X0 hx 54 7 (hb hby d14_4) rfl rfl (show (cc : Int32).toInt = (cc).toInt from rfl) (show ((832 : Int32) : Int32).toInt = 832 from (by decide)) (fun h1 => ?_) (fun h1 => ?_)
  · skip
    refine Wk.iconst X0 hx (1 : Int32) (hb hby d14_54) rfl rfl ?_
    refine Wk.goto X0 hx 59 (hb hby d14_55) rfl ?_
    exact Wk.retZ X0 hx hlk hret (hb hby d14_59) (by decide) (Nat.zero_le _) (Nat.zero_le _) (Wk.puB1 (by first | exact (Or.inl ‹_›) | exact (Or.inr (Or.inl ‹_›)) | exact (Or.inr (Or.inr (Or.inl ‹_›))) | exact (Or.inr (Or.inr (Or.inr (Or.inl ‹_›)))) | exact (Or.inr (Or.inr (Or.inr (Or.inr (Or.inl ‹_›))))) | exact (Or.inr (Or.inr (Or.inr (Or.inr (Or.inr ‹_›))))) | omega) e0)
  · skip
    refine Wk.iloadN X0 hx (hb hby d14_7) rfl rfl ?_
    refine Wk.sipush X0 hx (833 : Int32) (hb hby d14_8) rfl rfl ?_
    refine Wk.icmp_eq X0 hx 54 14 (hb hby d14_11) rfl rfl (show (cc : Int32).toInt = (cc).toInt from rfl) (show ((833 : Int32) : Int32).toInt = 833 from (by decide)) (fun h2 => ?_) (fun h2 => ?_)
    · skip
      refine Wk.iconst X0 hx (1 : Int32) (hb hby d14_54) rfl rfl ?_
      refine Wk.goto X0 hx 59 (hb hby d14_55) rfl ?_
      exact Wk.retZ X0 hx hlk hret (hb hby d14_59) (by decide) (Nat.zero_le _) (Nat.zero_le _) (Wk.puB1 (by first | exact (Or.inl ‹_›) | exact (Or.inr (Or.inl ‹_›)) | exact (Or.inr (Or.inr (Or.inl ‹_›))) | exact (Or.inr (Or.inr (Or.inr (Or.inl ‹_›)))) | exact (Or.inr (Or.inr (Or.inr (Or.inr (Or.inl ‹_›))))) | exact (Or.inr (Or.inr (Or.inr (Or.inr (Or.inr ‹_›))))) | omega) e0)
    · skip
      refine Wk.iloadN X0 hx (hb hby d14_14) rfl rfl ?_
      refine Wk.sipush X0 hx (8206 : Int32) (hb hby d14_15) rfl rfl ?_
      refine Wk.icmp_eq X0 hx 54 21 (hb hby d14_18) rfl rfl (show (cc : Int32).toInt = (cc).toInt from rfl) (show ((8206 : Int32) : Int32).toInt = 8206 from (by decide)) (fun h3 => ?_) (fun h3 => ?_)
      · skip
        refine Wk.iconst X0 hx (1 : Int32) (hb hby d14_54) rfl rfl ?_
        refine Wk.goto X0 hx 59 (hb hby d14_55) rfl ?_
        exact Wk.retZ X0 hx hlk hret (hb hby d14_59) (by decide) (Nat.zero_le _) (Nat.zero_le _) (Wk.puB1 (by first | exact (Or.inl ‹_›) | exact (Or.inr (Or.inl ‹_›)) | exact (Or.inr (Or.inr (Or.inl ‹_›))) | exact (Or.inr (Or.inr (Or.inr (Or.inl ‹_›)))) | exact (Or.inr (Or.inr (Or.inr (Or.inr (Or.inl ‹_›))))) | exact (Or.inr (Or.inr (Or.inr (Or.inr (Or.inr ‹_›))))) | omega) e0)
      · skip
        refine Wk.iloadN X0 hx (hb hby d14_21) rfl rfl ?_
        refine Wk.sipush X0 hx (8207 : Int32) (hb hby d14_22) rfl rfl ?_
        refine Wk.icmp_eq X0 hx 54 28 (hb hby d14_25) rfl rfl (show (cc : Int32).toInt = (cc).toInt from rfl) (show ((8207 : Int32) : Int32).toInt = 8207 from (by decide)) (fun h4 => ?_) (fun h4 => ?_)
        · skip
          refine Wk.iconst X0 hx (1 : Int32) (hb hby d14_54) rfl rfl ?_
          refine Wk.goto X0 hx 59 (hb hby d14_55) rfl ?_
          exact Wk.retZ X0 hx hlk hret (hb hby d14_59) (by decide) (Nat.zero_le _) (Nat.zero_le _) (Wk.puB1 (by first | exact (Or.inl ‹_›) | exact (Or.inr (Or.inl ‹_›)) | exact (Or.inr (Or.inr (Or.inl ‹_›))) | exact (Or.inr (Or.inr (Or.inr (Or.inl ‹_›)))) | exact (Or.inr (Or.inr (Or.inr (Or.inr (Or.inl ‹_›))))) | exact (Or.inr (Or.inr (Or.inr (Or.inr (Or.inr ‹_›))))) | omega) e0)
        · skip
          refine Wk.iloadN X0 hx (hb hby d14_28) rfl rfl ?_
          refine Wk.sipush X0 hx (8234 : Int32) (hb hby d14_29) rfl rfl ?_
          refine Wk.sipush X0 hx (8238 : Int32) (hb hby d14_32) rfl rfl ?_
          refine Wk.callP (W := 0) X0 hx hZ (argsL := [(.int cc), (.int (8234 : Int32)), (.int (8238 : Int32))]) (rest := []) hown (hw _ (List.mem_of_getElem? (i := 23) rfl)) (hw _ (List.mem_of_getElem? (i := 24) rfl)) (hw _ (List.mem_of_getElem? (i := 18) rfl)) (hw _ (List.mem_of_getElem? (i := 25) rfl)) (by decide) (inn l Z a0 hw cc (8234 : Int32) (8238 : Int32) 8234 8238 (by decide) (by decide) h0) e0 (by decide) (by decide) (by decide) (by decide) (by rw [hml]; rfl) (lenOf pd6 rfl) rfl (Nat.le_of_eq rfl) (hb hby d14_35) rfl (fun T5 X5 e5 => ?_)
          refine Wk.if_neB X5 hx 54 41 (hb hby d14_38) rfl rfl (fun h6 => ?_) (fun h6 => ?_)
          · skip
            refine Wk.iconst X5 hx (1 : Int32) (hb hby d14_54) rfl rfl ?_
            refine Wk.goto X5 hx 59 (hb hby d14_55) rfl ?_
            exact Wk.retZ X5 hx hlk hret (hb hby d14_59) (by decide) (Nat.zero_le _) (Nat.zero_le _) (Wk.puB1 (by first | exact (Or.inl ‹_›) | exact (Or.inr (Or.inl ‹_›)) | exact (Or.inr (Or.inr (Or.inl ‹_›))) | exact (Or.inr (Or.inr (Or.inr (Or.inl ‹_›)))) | exact (Or.inr (Or.inr (Or.inr (Or.inr (Or.inl ‹_›))))) | exact (Or.inr (Or.inr (Or.inr (Or.inr (Or.inr ‹_›))))) | omega) e5)
          · skip
            refine Wk.iloadN X5 hx (hb hby d14_41) rfl rfl ?_
            refine Wk.sipush X5 hx (8298 : Int32) (hb hby d14_42) rfl rfl ?_
            refine Wk.sipush X5 hx (8303 : Int32) (hb hby d14_45) rfl rfl ?_
            refine Wk.callP (W := 0) X5 hx hZ (argsL := [(.int cc), (.int (8298 : Int32)), (.int (8303 : Int32))]) (rest := []) hown (hw _ (List.mem_of_getElem? (i := 23) rfl)) (hw _ (List.mem_of_getElem? (i := 24) rfl)) (hw _ (List.mem_of_getElem? (i := 18) rfl)) (hw _ (List.mem_of_getElem? (i := 25) rfl)) (by decide) (inn l Z a0 hw cc (8298 : Int32) (8303 : Int32) 8298 8303 (by decide) (by decide) h0) e5 (by decide) (by decide) (by decide) (by decide) (by rw [hml]; rfl) (lenOf pd6 rfl) rfl (Nat.le_of_eq rfl) (hb hby d14_48) rfl (fun T7 X7 e7 => ?_)
            refine Wk.if_eqB X7 hx 58 54 (hb hby d14_51) rfl rfl (fun h8 => ?_) (fun h8 => ?_)
            · skip
              refine Wk.iconst X7 hx (0 : Int32) (hb hby d14_58) rfl rfl ?_
              exact Wk.retZ X7 hx hlk hret (hb hby d14_59) (by decide) (Nat.zero_le _) (Nat.zero_le _) (Wk.puB0 (by first | (rintro (z | z | z | z | z | z) <;> exact absurd z ‹_›) | omega) e7)
            · skip
              refine Wk.iconst X7 hx (1 : Int32) (hb hby d14_54) rfl rfl ?_
              refine Wk.goto X7 hx 59 (hb hby d14_55) rfl ?_
              exact Wk.retZ X7 hx hlk hret (hb hby d14_59) (by decide) (Nat.zero_le _) (Nat.zero_le _) (Wk.puB1 (by first | exact (Or.inl ‹_›) | exact (Or.inr (Or.inl ‹_›)) | exact (Or.inr (Or.inr (Or.inl ‹_›))) | exact (Or.inr (Or.inr (Or.inr (Or.inl ‹_›)))) | exact (Or.inr (Or.inr (Or.inr (Or.inr (Or.inl ‹_›))))) | exact (Or.inr (Or.inr (Or.inr (Or.inr (Or.inr ‹_›))))) | omega) e7)
set_option maxRecDepth 65536 in
set_option maxHeartbeats 40000000 in
theorem mc9 (l : Launch) (Z : State) (a0 : Array Value) (hw : ∀ d ∈ tables_1, d.before a0 Z = true) (cc : Int32) (hc0 : 0 ≤ cc.toInt) (h0 : Heap)  : Wk.Met l Z (⟨"com/example/rillet/rillet/postgresql/SaslPrepIsProhibitedPinLaw", "c9", "(I)Z"⟩ : MethodName) method_13_code 1 (some .boolean) [] { frames := 1, cells := 0, slots := 0, locals := 14 } #[(.int cc)] h0 (Wk.Pu (.int (Wk.b (pc9 cc.toInt))) h0) := by
  refine Wk.start pn15 ?_
  intro p e s m below meth c s₁ X0 hx hby hml hown0 hnm hret hlk hZ e0
  have hown : s.vm.findClass "com/example/rillet/rillet/postgresql/SaslPrepIsProhibitedPinLaw" = some m.cls := hown0
  refine Wk.enter (g' := (mkF m 0 #[.val (.int cc)] [])) (by first | rfl | (simp [entryFrame, mkF, argsToLocals, Value.category, maxLocals]; done)) ?_
  refine Wk.iloadN X0 hx (hb hby d15_0) rfl rfl ?_
  refine Wk.ldcI X0 hx hZ hown (hw _ (List.mem_of_getElem? (i := 73) rfl)) (hb hby d15_1) rfl ?_
  refine Wk.icmp_eq X0 hx 17 6 (hb hby d15_3) rfl rfl (show (cc : Int32).toInt = (cc).toInt from rfl) (show ((917505 : Int32) : Int32).toInt = 917505 from (by decide)) (fun h1 => ?_) (fun h1 => ?_)
  · skip
    refine Wk.iconst X0 hx (1 : Int32) (hb hby d15_17) rfl rfl ?_
    refine Wk.goto X0 hx 22 (hb hby d15_18) rfl ?_
    exact Wk.retZ X0 hx hlk hret (hb hby d15_22) (by decide) (Nat.zero_le _) (Nat.zero_le _) (Wk.puB1 (by first | exact (Or.inl ‹_›) | exact (Or.inr ‹_›) | omega) e0)
  · skip
    refine Wk.iloadN X0 hx (hb hby d15_6) rfl rfl ?_
    refine Wk.ldcI X0 hx hZ hown (hw _ (List.mem_of_getElem? (i := 74) rfl)) (hb hby d15_7) rfl ?_
    refine Wk.ldcI X0 hx hZ hown (hw _ (List.mem_of_getElem? (i := 75) rfl)) (hb hby d15_9) rfl ?_
    refine Wk.callP (W := 0) X0 hx hZ (argsL := [(.int cc), (.int (917536 : Int32)), (.int (917631 : Int32))]) (rest := []) hown (hw _ (List.mem_of_getElem? (i := 23) rfl)) (hw _ (List.mem_of_getElem? (i := 24) rfl)) (hw _ (List.mem_of_getElem? (i := 18) rfl)) (hw _ (List.mem_of_getElem? (i := 25) rfl)) (by decide) (inn l Z a0 hw cc (917536 : Int32) (917631 : Int32) 917536 917631 (by decide) (by decide) h0) e0 (by decide) (by decide) (by decide) (by decide) (by rw [hml]; rfl) (lenOf pd6 rfl) rfl (Nat.le_of_eq rfl) (hb hby d15_11) rfl (fun T2 X2 e2 => ?_)
    refine Wk.if_eqB X2 hx 21 17 (hb hby d15_14) rfl rfl (fun h3 => ?_) (fun h3 => ?_)
    · skip
      refine Wk.iconst X2 hx (0 : Int32) (hb hby d15_21) rfl rfl ?_
      exact Wk.retZ X2 hx hlk hret (hb hby d15_22) (by decide) (Nat.zero_le _) (Nat.zero_le _) (Wk.puB0 (by first | (rintro (z | z) <;> exact absurd z ‹_›) | omega) e2)
    · skip
      refine Wk.iconst X2 hx (1 : Int32) (hb hby d15_17) rfl rfl ?_
      refine Wk.goto X2 hx 22 (hb hby d15_18) rfl ?_
      exact Wk.retZ X2 hx hlk hret (hb hby d15_22) (by decide) (Nat.zero_le _) (Nat.zero_le _) (Wk.puB1 (by first | exact (Or.inl ‹_›) | exact (Or.inr ‹_›) | omega) e2)
set_option maxRecDepth 65536 in
set_option maxHeartbeats 40000000 in
theorem mexp (l : Launch) (Z : State) (a0 : Array Value) (hw : ∀ d ∈ tables_1, d.before a0 Z = true) (cc : Int32) (hc0 : 0 ≤ cc.toInt) (h0 : Heap)  : Wk.Met l Z (⟨"com/example/rillet/rillet/postgresql/SaslPrepIsProhibitedPinLaw", "expected", "(I)Z"⟩ : MethodName) method_14_code 1 (some .boolean) [] { frames := 2, cells := 0, slots := 0, locals := 27 } #[(.int cc)] h0 (Wk.Pu (.int (Wk.b (pE cc.toInt))) h0) := by
  refine Wk.start pn4 ?_
  intro p e s m below meth c s₁ X0 hx hby hml hown0 hnm hret hlk hZ e0
  have hown : s.vm.findClass "com/example/rillet/rillet/postgresql/SaslPrepIsProhibitedPinLaw" = some m.cls := hown0
  refine Wk.enter (g' := (mkF m 0 #[.val (.int cc)] [])) (by first | rfl | (simp [entryFrame, mkF, argsToLocals, Value.category, maxLocals]; done)) ?_
  refine Wk.iloadN X0 hx (hb hby d4_0) rfl rfl ?_
  refine Wk.callP (W := 0) X0 hx hZ (argsL := [(.int cc)]) (rest := []) hown (hw _ (List.mem_of_getElem? (i := 20) rfl)) (hw _ (List.mem_of_getElem? (i := 21) rfl)) (hw _ (List.mem_of_getElem? (i := 18) rfl)) (hw _ (List.mem_of_getElem? (i := 22) rfl)) (by decide) (mc12 l Z a0 hw cc hc0 h0) e0 (by decide) (by decide) (by decide) (by decide) (by rw [hml]; rfl) (lenOf pd5 rfl) rfl (Nat.le_of_eq rfl) (hb hby d4_1) rfl (fun T1 X1 e1 => ?_)
  refine Wk.if_neB X1 hx 70 7 (hb hby d4_4) rfl rfl (fun h2 => ?_) (fun h2 => ?_)
  · skip
    refine Wk.iconst X1 hx (1 : Int32) (hb hby d4_70) rfl rfl ?_
    refine Wk.goto X1 hx 75 (hb hby d4_71) rfl ?_
    exact Wk.retZ X1 hx hlk hret (hb hby d4_75) (by decide) (Nat.zero_le _) (Nat.zero_le _) (Wk.puB1 (by first | exact (Or.inl ‹_›) | exact (Or.inr (Or.inl ‹_›)) | exact (Or.inr (Or.inr (Or.inl ‹_›))) | exact (Or.inr (Or.inr (Or.inr (Or.inl ‹_›)))) | exact (Or.inr (Or.inr (Or.inr (Or.inr (Or.inl ‹_›))))) | exact (Or.inr (Or.inr (Or.inr (Or.inr (Or.inr (Or.inl ‹_›)))))) | exact (Or.inr (Or.inr (Or.inr (Or.inr (Or.inr (Or.inr (Or.inl ‹_›))))))) | exact (Or.inr (Or.inr (Or.inr (Or.inr (Or.inr (Or.inr (Or.inr (Or.inl ‹_›)))))))) | exact (Or.inr (Or.inr (Or.inr (Or.inr (Or.inr (Or.inr (Or.inr (Or.inr (Or.inl ‹_›))))))))) | exact (Or.inr (Or.inr (Or.inr (Or.inr (Or.inr (Or.inr (Or.inr (Or.inr (Or.inr ‹_›))))))))) | omega) e1)
  · skip
    refine Wk.iloadN X1 hx (hb hby d4_7) rfl rfl ?_
    refine Wk.callP (W := 0) X1 hx hZ (argsL := [(.int cc)]) (rest := []) hown (hw _ (List.mem_of_getElem? (i := 26) rfl)) (hw _ (List.mem_of_getElem? (i := 27) rfl)) (hw _ (List.mem_of_getElem? (i := 18) rfl)) (hw _ (List.mem_of_getElem? (i := 28) rfl)) (by decide) (mc21 l Z a0 hw cc hc0 h0) e1 (by decide) (by decide) (by decide) (by decide) (by rw [hml]; rfl) (lenOf pd7 rfl) rfl (Nat.le_of_eq rfl) (hb hby d4_8) rfl (fun T3 X3 e3 => ?_)
    refine Wk.if_neB X3 hx 70 14 (hb hby d4_11) rfl rfl (fun h4 => ?_) (fun h4 => ?_)
    · skip
      refine Wk.iconst X3 hx (1 : Int32) (hb hby d4_70) rfl rfl ?_
      refine Wk.goto X3 hx 75 (hb hby d4_71) rfl ?_
      exact Wk.retZ X3 hx hlk hret (hb hby d4_75) (by decide) (Nat.zero_le _) (Nat.zero_le _) (Wk.puB1 (by first | exact (Or.inl ‹_›) | exact (Or.inr (Or.inl ‹_›)) | exact (Or.inr (Or.inr (Or.inl ‹_›))) | exact (Or.inr (Or.inr (Or.inr (Or.inl ‹_›)))) | exact (Or.inr (Or.inr (Or.inr (Or.inr (Or.inl ‹_›))))) | exact (Or.inr (Or.inr (Or.inr (Or.inr (Or.inr (Or.inl ‹_›)))))) | exact (Or.inr (Or.inr (Or.inr (Or.inr (Or.inr (Or.inr (Or.inl ‹_›))))))) | exact (Or.inr (Or.inr (Or.inr (Or.inr (Or.inr (Or.inr (Or.inr (Or.inl ‹_›)))))))) | exact (Or.inr (Or.inr (Or.inr (Or.inr (Or.inr (Or.inr (Or.inr (Or.inr (Or.inl ‹_›))))))))) | exact (Or.inr (Or.inr (Or.inr (Or.inr (Or.inr (Or.inr (Or.inr (Or.inr (Or.inr ‹_›))))))))) | omega) e3)
    · skip
      refine Wk.iloadN X3 hx (hb hby d4_14) rfl rfl ?_
      refine Wk.callP (W := 0) X3 hx hZ (argsL := [(.int cc)]) (rest := []) hown (hw _ (List.mem_of_getElem? (i := 30) rfl)) (hw _ (List.mem_of_getElem? (i := 31) rfl)) (hw _ (List.mem_of_getElem? (i := 18) rfl)) (hw _ (List.mem_of_getElem? (i := 32) rfl)) (by decide) (mc22 l Z a0 hw cc hc0 h0) e3 (by decide) (by decide) (by decide) (by decide) (by rw [hml]; rfl) (lenOf pd8 rfl) rfl (Nat.le_of_eq rfl) (hb hby d4_15) rfl (fun T5 X5 e5 => ?_)
      refine Wk.if_neB X5 hx 70 21 (hb hby d4_18) rfl rfl (fun h6 => ?_) (fun h6 => ?_)
      · skip
        refine Wk.iconst X5 hx (1 : Int32) (hb hby d4_70) rfl rfl ?_
        refine Wk.goto X5 hx 75 (hb hby d4_71) rfl ?_
        exact Wk.retZ X5 hx hlk hret (hb hby d4_75) (by decide) (Nat.zero_le _) (Nat.zero_le _) (Wk.puB1 (by first | exact (Or.inl ‹_›) | exact (Or.inr (Or.inl ‹_›)) | exact (Or.inr (Or.inr (Or.inl ‹_›))) | exact (Or.inr (Or.inr (Or.inr (Or.inl ‹_›)))) | exact (Or.inr (Or.inr (Or.inr (Or.inr (Or.inl ‹_›))))) | exact (Or.inr (Or.inr (Or.inr (Or.inr (Or.inr (Or.inl ‹_›)))))) | exact (Or.inr (Or.inr (Or.inr (Or.inr (Or.inr (Or.inr (Or.inl ‹_›))))))) | exact (Or.inr (Or.inr (Or.inr (Or.inr (Or.inr (Or.inr (Or.inr (Or.inl ‹_›)))))))) | exact (Or.inr (Or.inr (Or.inr (Or.inr (Or.inr (Or.inr (Or.inr (Or.inr (Or.inl ‹_›))))))))) | exact (Or.inr (Or.inr (Or.inr (Or.inr (Or.inr (Or.inr (Or.inr (Or.inr (Or.inr ‹_›))))))))) | omega) e5)
      · skip
        refine Wk.iloadN X5 hx (hb hby d4_21) rfl rfl ?_
        refine Wk.callP (W := 0) X5 hx hZ (argsL := [(.int cc)]) (rest := []) hown (hw _ (List.mem_of_getElem? (i := 38) rfl)) (hw _ (List.mem_of_getElem? (i := 39) rfl)) (hw _ (List.mem_of_getElem? (i := 18) rfl)) (hw _ (List.mem_of_getElem? (i := 40) rfl)) (by decide) (mc3 l Z a0 hw cc hc0 h0) e5 (by decide) (by decide) (by decide) (by decide) (by rw [hml]; rfl) (lenOf pd9 rfl) rfl (Nat.le_of_eq rfl) (hb hby d4_22) rfl (fun T7 X7 e7 => ?_)
        refine Wk.if_neB X7 hx 70 28 (hb hby d4_25) rfl rfl (fun h8 => ?_) (fun h8 => ?_)
        · skip
          refine Wk.iconst X7 hx (1 : Int32) (hb hby d4_70) rfl rfl ?_
          refine Wk.goto X7 hx 75 (hb hby d4_71) rfl ?_
          exact Wk.retZ X7 hx hlk hret (hb hby d4_75) (by decide) (Nat.zero_le _) (Nat.zero_le _) (Wk.puB1 (by first | exact (Or.inl ‹_›) | exact (Or.inr (Or.inl ‹_›)) | exact (Or.inr (Or.inr (Or.inl ‹_›))) | exact (Or.inr (Or.inr (Or.inr (Or.inl ‹_›)))) | exact (Or.inr (Or.inr (Or.inr (Or.inr (Or.inl ‹_›))))) | exact (Or.inr (Or.inr (Or.inr (Or.inr (Or.inr (Or.inl ‹_›)))))) | exact (Or.inr (Or.inr (Or.inr (Or.inr (Or.inr (Or.inr (Or.inl ‹_›))))))) | exact (Or.inr (Or.inr (Or.inr (Or.inr (Or.inr (Or.inr (Or.inr (Or.inl ‹_›)))))))) | exact (Or.inr (Or.inr (Or.inr (Or.inr (Or.inr (Or.inr (Or.inr (Or.inr (Or.inl ‹_›))))))))) | exact (Or.inr (Or.inr (Or.inr (Or.inr (Or.inr (Or.inr (Or.inr (Or.inr (Or.inr ‹_›))))))))) | omega) e7)
        · skip
          refine Wk.iloadN X7 hx (hb hby d4_28) rfl rfl ?_
          refine Wk.callP (W := 0) X7 hx hZ (argsL := [(.int cc)]) (rest := []) hown (hw _ (List.mem_of_getElem? (i := 47) rfl)) (hw _ (List.mem_of_getElem? (i := 48) rfl)) (hw _ (List.mem_of_getElem? (i := 18) rfl)) (hw _ (List.mem_of_getElem? (i := 49) rfl)) (by decide) (mc4 l Z a0 hw cc hc0 h0) e7 (by decide) (by decide) (by decide) (by decide) (by rw [hml]; rfl) (lenOf pd10 rfl) rfl (Nat.le_of_eq rfl) (hb hby d4_29) rfl (fun T9 X9 e9 => ?_)
          refine Wk.if_neB X9 hx 70 35 (hb hby d4_32) rfl rfl (fun h10 => ?_) (fun h10 => ?_)
          · skip
            refine Wk.iconst X9 hx (1 : Int32) (hb hby d4_70) rfl rfl ?_
            refine Wk.goto X9 hx 75 (hb hby d4_71) rfl ?_
            exact Wk.retZ X9 hx hlk hret (hb hby d4_75) (by decide) (Nat.zero_le _) (Nat.zero_le _) (Wk.puB1 (by first | exact (Or.inl ‹_›) | exact (Or.inr (Or.inl ‹_›)) | exact (Or.inr (Or.inr (Or.inl ‹_›))) | exact (Or.inr (Or.inr (Or.inr (Or.inl ‹_›)))) | exact (Or.inr (Or.inr (Or.inr (Or.inr (Or.inl ‹_›))))) | exact (Or.inr (Or.inr (Or.inr (Or.inr (Or.inr (Or.inl ‹_›)))))) | exact (Or.inr (Or.inr (Or.inr (Or.inr (Or.inr (Or.inr (Or.inl ‹_›))))))) | exact (Or.inr (Or.inr (Or.inr (Or.inr (Or.inr (Or.inr (Or.inr (Or.inl ‹_›)))))))) | exact (Or.inr (Or.inr (Or.inr (Or.inr (Or.inr (Or.inr (Or.inr (Or.inr (Or.inl ‹_›))))))))) | exact (Or.inr (Or.inr (Or.inr (Or.inr (Or.inr (Or.inr (Or.inr (Or.inr (Or.inr ‹_›))))))))) | omega) e9)
          · skip
            refine Wk.iloadN X9 hx (hb hby d4_35) rfl rfl ?_
            refine Wk.callP (W := 0) X9 hx hZ (argsL := [(.int cc)]) (rest := []) hown (hw _ (List.mem_of_getElem? (i := 55) rfl)) (hw _ (List.mem_of_getElem? (i := 56) rfl)) (hw _ (List.mem_of_getElem? (i := 18) rfl)) (hw _ (List.mem_of_getElem? (i := 57) rfl)) (by decide) (mc5 l Z a0 hw cc hc0 h0) e9 (by decide) (by decide) (by decide) (by decide) (by rw [hml]; rfl) (lenOf pd11 rfl) rfl (Nat.le_of_eq rfl) (hb hby d4_36) rfl (fun T11 X11 e11 => ?_)
            refine Wk.if_neB X11 hx 70 42 (hb hby d4_39) rfl rfl (fun h12 => ?_) (fun h12 => ?_)
            · skip
              refine Wk.iconst X11 hx (1 : Int32) (hb hby d4_70) rfl rfl ?_
              refine Wk.goto X11 hx 75 (hb hby d4_71) rfl ?_
              exact Wk.retZ X11 hx hlk hret (hb hby d4_75) (by decide) (Nat.zero_le _) (Nat.zero_le _) (Wk.puB1 (by first | exact (Or.inl ‹_›) | exact (Or.inr (Or.inl ‹_›)) | exact (Or.inr (Or.inr (Or.inl ‹_›))) | exact (Or.inr (Or.inr (Or.inr (Or.inl ‹_›)))) | exact (Or.inr (Or.inr (Or.inr (Or.inr (Or.inl ‹_›))))) | exact (Or.inr (Or.inr (Or.inr (Or.inr (Or.inr (Or.inl ‹_›)))))) | exact (Or.inr (Or.inr (Or.inr (Or.inr (Or.inr (Or.inr (Or.inl ‹_›))))))) | exact (Or.inr (Or.inr (Or.inr (Or.inr (Or.inr (Or.inr (Or.inr (Or.inl ‹_›)))))))) | exact (Or.inr (Or.inr (Or.inr (Or.inr (Or.inr (Or.inr (Or.inr (Or.inr (Or.inl ‹_›))))))))) | exact (Or.inr (Or.inr (Or.inr (Or.inr (Or.inr (Or.inr (Or.inr (Or.inr (Or.inr ‹_›))))))))) | omega) e11)
            · skip
              refine Wk.iloadN X11 hx (hb hby d4_42) rfl rfl ?_
              refine Wk.callP (W := 0) X11 hx hZ (argsL := [(.int cc)]) (rest := []) hown (hw _ (List.mem_of_getElem? (i := 60) rfl)) (hw _ (List.mem_of_getElem? (i := 61) rfl)) (hw _ (List.mem_of_getElem? (i := 18) rfl)) (hw _ (List.mem_of_getElem? (i := 62) rfl)) (by decide) (mc6 l Z a0 hw cc hc0 h0) e11 (by decide) (by decide) (by decide) (by decide) (by rw [hml]; rfl) (lenOf pd12 rfl) rfl (Nat.le_of_eq rfl) (hb hby d4_43) rfl (fun T13 X13 e13 => ?_)
              refine Wk.if_neB X13 hx 70 49 (hb hby d4_46) rfl rfl (fun h14 => ?_) (fun h14 => ?_)
              · skip
                refine Wk.iconst X13 hx (1 : Int32) (hb hby d4_70) rfl rfl ?_
                refine Wk.goto X13 hx 75 (hb hby d4_71) rfl ?_
                exact Wk.retZ X13 hx hlk hret (hb hby d4_75) (by decide) (Nat.zero_le _) (Nat.zero_le _) (Wk.puB1 (by first | exact (Or.inl ‹_›) | exact (Or.inr (Or.inl ‹_›)) | exact (Or.inr (Or.inr (Or.inl ‹_›))) | exact (Or.inr (Or.inr (Or.inr (Or.inl ‹_›)))) | exact (Or.inr (Or.inr (Or.inr (Or.inr (Or.inl ‹_›))))) | exact (Or.inr (Or.inr (Or.inr (Or.inr (Or.inr (Or.inl ‹_›)))))) | exact (Or.inr (Or.inr (Or.inr (Or.inr (Or.inr (Or.inr (Or.inl ‹_›))))))) | exact (Or.inr (Or.inr (Or.inr (Or.inr (Or.inr (Or.inr (Or.inr (Or.inl ‹_›)))))))) | exact (Or.inr (Or.inr (Or.inr (Or.inr (Or.inr (Or.inr (Or.inr (Or.inr (Or.inl ‹_›))))))))) | exact (Or.inr (Or.inr (Or.inr (Or.inr (Or.inr (Or.inr (Or.inr (Or.inr (Or.inr ‹_›))))))))) | omega) e13)
              · skip
                refine Wk.iloadN X13 hx (hb hby d4_49) rfl rfl ?_
                refine Wk.callP (W := 0) X13 hx hZ (argsL := [(.int cc)]) (rest := []) hown (hw _ (List.mem_of_getElem? (i := 64) rfl)) (hw _ (List.mem_of_getElem? (i := 65) rfl)) (hw _ (List.mem_of_getElem? (i := 18) rfl)) (hw _ (List.mem_of_getElem? (i := 66) rfl)) (by decide) (mc7 l Z a0 hw cc hc0 h0) e13 (by decide) (by decide) (by decide) (by decide) (by rw [hml]; rfl) (lenOf pd13 rfl) rfl (Nat.le_of_eq rfl) (hb hby d4_50) rfl (fun T15 X15 e15 => ?_)
                refine Wk.if_neB X15 hx 70 56 (hb hby d4_53) rfl rfl (fun h16 => ?_) (fun h16 => ?_)
                · skip
                  refine Wk.iconst X15 hx (1 : Int32) (hb hby d4_70) rfl rfl ?_
                  refine Wk.goto X15 hx 75 (hb hby d4_71) rfl ?_
                  exact Wk.retZ X15 hx hlk hret (hb hby d4_75) (by decide) (Nat.zero_le _) (Nat.zero_le _) (Wk.puB1 (by first | exact (Or.inl ‹_›) | exact (Or.inr (Or.inl ‹_›)) | exact (Or.inr (Or.inr (Or.inl ‹_›))) | exact (Or.inr (Or.inr (Or.inr (Or.inl ‹_›)))) | exact (Or.inr (Or.inr (Or.inr (Or.inr (Or.inl ‹_›))))) | exact (Or.inr (Or.inr (Or.inr (Or.inr (Or.inr (Or.inl ‹_›)))))) | exact (Or.inr (Or.inr (Or.inr (Or.inr (Or.inr (Or.inr (Or.inl ‹_›))))))) | exact (Or.inr (Or.inr (Or.inr (Or.inr (Or.inr (Or.inr (Or.inr (Or.inl ‹_›)))))))) | exact (Or.inr (Or.inr (Or.inr (Or.inr (Or.inr (Or.inr (Or.inr (Or.inr (Or.inl ‹_›))))))))) | exact (Or.inr (Or.inr (Or.inr (Or.inr (Or.inr (Or.inr (Or.inr (Or.inr (Or.inr ‹_›))))))))) | omega) e15)
                · skip
                  refine Wk.iloadN X15 hx (hb hby d4_56) rfl rfl ?_
                  refine Wk.callP (W := 0) X15 hx hZ (argsL := [(.int cc)]) (rest := []) hown (hw _ (List.mem_of_getElem? (i := 67) rfl)) (hw _ (List.mem_of_getElem? (i := 68) rfl)) (hw _ (List.mem_of_getElem? (i := 18) rfl)) (hw _ (List.mem_of_getElem? (i := 69) rfl)) (by decide) (mc8 l Z a0 hw cc hc0 h0) e15 (by decide) (by decide) (by decide) (by decide) (by rw [hml]; rfl) (lenOf pd14 rfl) rfl (Nat.le_of_eq rfl) (hb hby d4_57) rfl (fun T17 X17 e17 => ?_)
                  refine Wk.if_neB X17 hx 70 63 (hb hby d4_60) rfl rfl (fun h18 => ?_) (fun h18 => ?_)
                  · skip
                    refine Wk.iconst X17 hx (1 : Int32) (hb hby d4_70) rfl rfl ?_
                    refine Wk.goto X17 hx 75 (hb hby d4_71) rfl ?_
                    exact Wk.retZ X17 hx hlk hret (hb hby d4_75) (by decide) (Nat.zero_le _) (Nat.zero_le _) (Wk.puB1 (by first | exact (Or.inl ‹_›) | exact (Or.inr (Or.inl ‹_›)) | exact (Or.inr (Or.inr (Or.inl ‹_›))) | exact (Or.inr (Or.inr (Or.inr (Or.inl ‹_›)))) | exact (Or.inr (Or.inr (Or.inr (Or.inr (Or.inl ‹_›))))) | exact (Or.inr (Or.inr (Or.inr (Or.inr (Or.inr (Or.inl ‹_›)))))) | exact (Or.inr (Or.inr (Or.inr (Or.inr (Or.inr (Or.inr (Or.inl ‹_›))))))) | exact (Or.inr (Or.inr (Or.inr (Or.inr (Or.inr (Or.inr (Or.inr (Or.inl ‹_›)))))))) | exact (Or.inr (Or.inr (Or.inr (Or.inr (Or.inr (Or.inr (Or.inr (Or.inr (Or.inl ‹_›))))))))) | exact (Or.inr (Or.inr (Or.inr (Or.inr (Or.inr (Or.inr (Or.inr (Or.inr (Or.inr ‹_›))))))))) | omega) e17)
                  · skip
                    refine Wk.iloadN X17 hx (hb hby d4_63) rfl rfl ?_
                    refine Wk.callP (W := 0) X17 hx hZ (argsL := [(.int cc)]) (rest := []) hown (hw _ (List.mem_of_getElem? (i := 70) rfl)) (hw _ (List.mem_of_getElem? (i := 71) rfl)) (hw _ (List.mem_of_getElem? (i := 18) rfl)) (hw _ (List.mem_of_getElem? (i := 72) rfl)) (by decide) (mc9 l Z a0 hw cc hc0 h0) e17 (by decide) (by decide) (by decide) (by decide) (by rw [hml]; rfl) (lenOf pd15 rfl) rfl (Nat.le_of_eq rfl) (hb hby d4_64) rfl (fun T19 X19 e19 => ?_)
                    refine Wk.if_eqB X19 hx 74 70 (hb hby d4_67) rfl rfl (fun h20 => ?_) (fun h20 => ?_)
                    · skip
                      refine Wk.iconst X19 hx (0 : Int32) (hb hby d4_74) rfl rfl ?_
                      exact Wk.retZ X19 hx hlk hret (hb hby d4_75) (by decide) (Nat.zero_le _) (Nat.zero_le _) (Wk.puB0 (by first | (rintro (z | z | z | z | z | z | z | z | z | z) <;> exact absurd z ‹_›) | omega) e19)
                    · skip
                      refine Wk.iconst X19 hx (1 : Int32) (hb hby d4_70) rfl rfl ?_
                      refine Wk.goto X19 hx 75 (hb hby d4_71) rfl ?_
                      exact Wk.retZ X19 hx hlk hret (hb hby d4_75) (by decide) (Nat.zero_le _) (Nat.zero_le _) (Wk.puB1 (by first | exact (Or.inl ‹_›) | exact (Or.inr (Or.inl ‹_›)) | exact (Or.inr (Or.inr (Or.inl ‹_›))) | exact (Or.inr (Or.inr (Or.inr (Or.inl ‹_›)))) | exact (Or.inr (Or.inr (Or.inr (Or.inr (Or.inl ‹_›))))) | exact (Or.inr (Or.inr (Or.inr (Or.inr (Or.inr (Or.inl ‹_›)))))) | exact (Or.inr (Or.inr (Or.inr (Or.inr (Or.inr (Or.inr (Or.inl ‹_›))))))) | exact (Or.inr (Or.inr (Or.inr (Or.inr (Or.inr (Or.inr (Or.inr (Or.inl ‹_›)))))))) | exact (Or.inr (Or.inr (Or.inr (Or.inr (Or.inr (Or.inr (Or.inr (Or.inr (Or.inl ‹_›))))))))) | exact (Or.inr (Or.inr (Or.inr (Or.inr (Or.inr (Or.inr (Or.inr (Or.inr (Or.inr ‹_›))))))))) | omega) e19)
set_option maxRecDepth 65536 in
set_option maxHeartbeats 40000000 in
theorem loopR {l : Launch} {Z : State} {p : Program} {e : Env} {R : Room} {s : State} {m : MethodId} {args : Array Value} {below : List Frame} {meth : Method} {c : Code} {s₁ : State} {K N : Nat} (X0 : Stand p l e R s m args below meth c s₁ [] 0 0) (hx : p.tables.exec = Jvm.exec) (hby : c.code = prog_35_method_11_code) (hret : meth.sig.returnType = some .boolean) (hlk : meth.locks = false) (hZ : Z.Warmed39 s.vm) (h0 : Heap) (e0 : s₁.heap = h0) (r : Addr) (kc : ClassId) (ys : List Int) (z : Int32) (hz : z.toInt = (ys.length : Int)) (hys : ∀ y ∈ ys, -2147483648 ≤ y ∧ y < 2147483648) (A : Arv Z h0 r kc .int z (ys.map fun y => .int (Int32.ofInt y)) (.int 0)) (cc : Int32) :
    ∀ (rem pre : List Int) (i : Int32), ys = pre ++ rem → i.toInt = (pre.length : Int) → rem.length % 2 = 0 → inRb ys cc.toInt = inRb rem cc.toInt → Wk.Go p e below s (Wk.Pu (.int (Wk.b (inRb ys cc.toInt = true))) h0) K N s₁ (mkF m 2 #[.val (.ref r), .val (.int cc), .val (.int i)] [])
  | [], pre, i, hx0, hi, hev, hin => by
    have hl : ys.length = pre.length := by rw [hx0]; simp
    refine Wk.iloadN X0 hx (hb hby d3_2) rfl rfl ?_
    refine Wk.aloadN X0 hx (hb hby d3_3) rfl rfl rfl ?_
    refine Wk.alen X0 hx hZ e0 A (hb hby d3_4) rfl ?_
    refine Wk.icmp_ge X0 hx 32 8 (hb hby d3_5) rfl rfl (show (i : Int32).toInt = (i).toInt from rfl) (show (z : Int32).toInt = (ys.length : Int) from hz) (fun h1 => ?_) (fun h1 => absurd h1 (by omega))
    refine Wk.iconst X0 hx (0 : Int32) (hb hby d3_32) rfl rfl ?_
    exact Wk.retZ X0 hx hlk hret (hb hby d3_33) (by decide) (Nat.zero_le _) (Nat.zero_le _) (Wk.puB0 (by rw [hin]; simp [inRb]) e0)
  | [a], pre, i, hx0, hi, hev, hin => by simp at hev
  | a :: b' :: rem, pre, i, hx0, hi, hev, hin => by
    have hl : ys.length = pre.length + (rem.length + 2) := by rw [hx0]; simp
    have ha : (Int32.ofInt a).toInt = a := Int32.toInt_ofInt_of_le (hys a (by rw [hx0]; simp)).1 (hys a (by rw [hx0]; simp)).2
    have hb' : (Int32.ofInt b').toInt = b' := Int32.toInt_ofInt_of_le (hys b' (by rw [hx0]; simp)).1 (hys b' (by rw [hx0]; simp)).2
    have hzl := z.toInt_lt
    have hi1 : (i + 1).toInt = i.toInt + 1 := by have := c_iadd i 1; have h1 := (i + 1).toInt_lt; have h2 := (i + 1).le_toInt; have : (1 : Int32).toInt = 1 := rfl; omega
    have hi2 : (i + 2).toInt = i.toInt + 2 := by have := c_iadd i 2; have h1 := (i + 2).toInt_lt; have h2 := (i + 2).le_toInt; have : (2 : Int32).toInt = 2 := rfl; omega
    have el1 : (ys.map fun y => Value.int (Int32.ofInt y)).getD i.toNatClampNeg (.int 0) = .int (Int32.ofInt a) := by
      have : i.toNatClampNeg = pre.length := by show i.toInt.toNat = _; omega
      rw [this, hx0]; simp [List.getD]
    have el2 : (ys.map fun y => Value.int (Int32.ofInt y)).getD (i + 1).toNatClampNeg (.int 0) = .int (Int32.ofInt b') := by
      have : (i + 1).toNatClampNeg = pre.length + 1 := by show (i + 1).toInt.toNat = _; omega
      rw [this, hx0]; simp [List.getD]
    refine Wk.iloadN X0 hx (hb hby d3_2) rfl rfl ?_
    refine Wk.aloadN X0 hx (hb hby d3_3) rfl rfl rfl ?_
    refine Wk.alen X0 hx hZ e0 A (hb hby d3_4) rfl ?_
    refine Wk.icmp_ge X0 hx 32 8 (hb hby d3_5) rfl rfl (show (i : Int32).toInt = (i).toInt from rfl) (show (z : Int32).toInt = (ys.length : Int) from hz) (fun h1 => absurd h1 (by omega)) (fun h1 => ?_)
    refine Wk.iloadN X0 hx (hb hby d3_8) rfl rfl ?_
    refine Wk.aloadN X0 hx (hb hby d3_9) rfl rfl rfl ?_
    refine Wk.iloadN X0 hx (hb hby d3_10) rfl rfl ?_
    refine Wk.iaload X0 hx hZ e0 A (by omega) (by omega) (el1) (hb hby d3_11) rfl ?_
    refine Wk.icmp_lt X0 hx 26 15 (hb hby d3_12) rfl rfl (show (cc : Int32).toInt = (cc).toInt from rfl) (show (Int32.ofInt a : Int32).toInt = a from ha) (fun h2 => ?_) (fun h2 => ?_)
    · skip
      refine Wk.iinc (l' := #[.val (.ref r), .val (.int cc), .val (.int (i + (2 : Int32)))]) X0 hx (2 : Int32) (hb hby d3_26) rfl rfl rfl rfl ?_
      refine Wk.goto X0 hx 2 (hb hby d3_29) rfl ?_
      exact loopR X0 hx hby hret hlk hZ h0 e0 r kc ys z hz hys A cc rem (pre ++ [a, b']) (i + 2) (by rw [hx0]; simp) (by rw [List.length_append]; simp only [List.length_cons, List.length_nil]; omega) (by simp only [List.length_cons] at hev; omega) (by rw [hin]; simp only [inRb, Bool.or_eq_true, Bool.and_eq_true, decide_eq_true_eq]; rw [Bool.or_eq_right_iff_imp.mpr]; simp only [Bool.and_eq_true, decide_eq_true_eq]; omega)
    · skip
      refine Wk.iloadN X0 hx (hb hby d3_15) rfl rfl ?_
      refine Wk.aloadN X0 hx (hb hby d3_16) rfl rfl rfl ?_
      refine Wk.iloadN X0 hx (hb hby d3_17) rfl rfl ?_
      refine Wk.iconst X0 hx (1 : Int32) (hb hby d3_18) rfl rfl ?_
      refine Wk.iadd X0 hx (hb hby d3_19) rfl ?_
      refine Wk.iaload X0 hx hZ e0 A (by omega) (by omega) (el2) (hb hby d3_20) rfl ?_
      refine Wk.icmp_gt X0 hx 26 24 (hb hby d3_21) rfl rfl (show (cc : Int32).toInt = (cc).toInt from rfl) (show (Int32.ofInt b' : Int32).toInt = b' from hb') (fun h3 => ?_) (fun h3 => ?_)
      · skip
        refine Wk.iinc (l' := #[.val (.ref r), .val (.int cc), .val (.int (i + (2 : Int32)))]) X0 hx (2 : Int32) (hb hby d3_26) rfl rfl rfl rfl ?_
        refine Wk.goto X0 hx 2 (hb hby d3_29) rfl ?_
        exact loopR X0 hx hby hret hlk hZ h0 e0 r kc ys z hz hys A cc rem (pre ++ [a, b']) (i + 2) (by rw [hx0]; simp) (by rw [List.length_append]; simp only [List.length_cons, List.length_nil]; omega) (by simp only [List.length_cons] at hev; omega) (by rw [hin]; simp only [inRb, Bool.or_eq_true, Bool.and_eq_true, decide_eq_true_eq]; rw [Bool.or_eq_right_iff_imp.mpr]; simp only [Bool.and_eq_true, decide_eq_true_eq]; omega)
      · skip
        refine Wk.iconst X0 hx (1 : Int32) (hb hby d3_24) rfl rfl ?_
        exact Wk.retZ X0 hx hlk hret (hb hby d3_25) (by decide) (Nat.zero_le _) (Nat.zero_le _) (Wk.puB1 (by rw [hin]; simp only [inRb, Bool.or_eq_true, Bool.and_eq_true, decide_eq_true_eq]; exact Or.inl ⟨by omega, by omega⟩) e0)
set_option maxRecDepth 65536 in
set_option maxHeartbeats 40000000 in
theorem mir (l : Launch) (Z : State) (a0 : Array Value) (hw : ∀ d ∈ tables_1, d.before a0 Z = true) (r : Addr) (kc : ClassId) (ys : List Int) (z : Int32) (hz : z.toInt = (ys.length : Int)) (hev : ys.length % 2 = 0) (hys : ∀ y ∈ ys, -2147483648 ≤ y ∧ y < 2147483648) (cc : Int32) (h0 : Heap) (A : Arv Z h0 r kc .int z (ys.map fun y => .int (Int32.ofInt y)) (.int 0)) : Wk.Met l Z (⟨"com/example/rillet/rillet/postgresql/SaslPrep", "inRanges", "([II)Z"⟩ : MethodName) prog_35_method_11_code 3 (some .boolean) [] { frames := 0, cells := 0, slots := 0, locals := 0 } #[(.ref r), (.int cc)] h0 (Wk.Pu (.int (Wk.b (inRb ys cc.toInt = true))) h0) := by
  refine Wk.start pn3 ?_
  intro p e s m below meth c s₁ X0 hx hby hml hown0 hnm hret hlk hZ e0
  have hown : s.vm.findClass "com/example/rillet/rillet/postgresql/SaslPrep" = some m.cls := hown0
  refine Wk.enter (g' := (mkF m 0 #[.val (.ref r), .val (.int cc), .unset] [])) (by first | rfl | (simp [entryFrame, mkF, argsToLocals, Value.category, maxLocals]; done)) ?_
  refine Wk.iconst X0 hx (0 : Int32) (hb hby d3_0) rfl rfl ?_
  refine Wk.istoreN (l' := #[.val (.ref r), .val (.int cc), .val (.int (0 : Int32))]) X0 hx (hb hby d3_1) rfl rfl ?_
  exact loopR X0 hx hby hret hlk hZ h0 e0 r kc ys z hz hys A cc ys [] 0 rfl rfl hev rfl
def yN : List Int := [160, 160, 5760, 5760, 8192, 8203, 8239, 8239, 8287, 8287, 12288, 12288]
def yP : List Int := [0, 31, 127, 127, 128, 159, 1757, 1757, 1807, 1807, 6158, 6158, 8204, 8205, 8232, 8233, 8288, 8291, 8298, 8303, 65279, 65279, 65529, 65532, 119155, 119162, 57344, 63743, 983040, 1048573, 1048576, 1114109, 64976, 65007, 55296, 57343, 65529, 65533, 12272, 12283, 832, 833, 8206, 8207, 8234, 8238, 8298, 8303, 917505, 917505, 917536, 917631]
set_option maxRecDepth 65536 in
set_option maxHeartbeats 40000000 in
theorem mna (l : Launch) (Z : State) (a0 : Array Value) (hw : ∀ d ∈ tables_1, d.before a0 Z = true) (rN : Addr) (kN : ClassId) (cc : Int32) (h0 : Heap) (SN : Sta Z h0 "com/example/rillet/rillet/postgresql/SaslPrep" "NON_ASCII_SPACE" "[I" (.ref rN)) (AN : Arv Z h0 rN kN .int 12 (yN.map fun y => .int (Int32.ofInt y)) (.int 0)) : Wk.Met l Z (⟨"com/example/rillet/rillet/postgresql/SaslPrep", "isNonAsciiSpace", "(I)Z"⟩ : MethodName) prog_35_method_4_code 1 (some .boolean) [] { frames := 1, cells := 0, slots := 0, locals := 14 } #[(.int cc)] h0 (Wk.Pu (.int (Wk.b (inRb yN cc.toInt = true))) h0) := by
  refine Wk.start pn2 ?_
  intro p e s m below meth c s₁ X0 hx hby hml hown0 hnm hret hlk hZ e0
  have hown : s.vm.findClass "com/example/rillet/rillet/postgresql/SaslPrep" = some m.cls := hown0
  refine Wk.enter (g' := (mkF m 0 #[.val (.int cc)] [])) (by first | rfl | (simp [entryFrame, mkF, argsToLocals, Value.category, maxLocals]; done)) ?_
  refine Wk.getS (host := "") X0 hx hZ hown (Or.inl (hw _ (List.mem_of_getElem? (i := 9) rfl))) e0 SN (hb hby d2_0) rfl (fun T1 X1 e1 => ?_)
  refine Wk.iloadN X1 hx (hb hby d2_3) rfl rfl ?_
  refine Wk.callP (W := 0) X1 hx hZ (argsL := [(.ref rN), (.int cc)]) (rest := []) hown (hw _ (List.mem_of_getElem? (i := 11) rfl)) (hw _ (List.mem_of_getElem? (i := 12) rfl)) (hw _ (List.mem_of_getElem? (i := 4) rfl)) (hw _ (List.mem_of_getElem? (i := 13) rfl)) (by decide) (mir l Z a0 hw rN kN yN 12 (by decide) (by decide) (by decide) cc h0 AN) e1 (by decide) (by decide) (by decide) (by decide) (by rw [hml]; rfl) (lenOf pd3 rfl) rfl (Nat.le_of_eq rfl) (hb hby d2_4) rfl (fun T2 X2 e2 => ?_)
  exact Wk.retZ X2 hx hlk hret (hb hby d2_7) Wk.b01 (Nat.zero_le _) (Nat.zero_le _) (Wk.puE (by rfl) e2)
set_option maxRecDepth 65536 in
set_option maxHeartbeats 40000000 in
theorem mpr (l : Launch) (Z : State) (a0 : Array Value) (hw : ∀ d ∈ tables_1, d.before a0 Z = true) (rN rP : Addr) (kN kP : ClassId) (cc : Int32) (hc0 : 0 ≤ cc.toInt) (h0 : Heap) (SN : Sta Z h0 "com/example/rillet/rillet/postgresql/SaslPrep" "NON_ASCII_SPACE" "[I" (.ref rN)) (AN : Arv Z h0 rN kN .int 12 (yN.map fun y => .int (Int32.ofInt y)) (.int 0)) (SP : Sta Z h0 "com/example/rillet/rillet/postgresql/SaslPrep" "PROHIBITED" "[I" (.ref rP)) (AP : Arv Z h0 rP kP .int 52 (yP.map fun y => .int (Int32.ofInt y)) (.int 0)) : Wk.Met l Z (⟨"com/example/rillet/rillet/postgresql/SaslPrep", "isProhibited", "(I)Z"⟩ : MethodName) prog_35_method_6_code 1 (some .boolean) [] { frames := 2, cells := 0, slots := 0, locals := 26 } #[(.int cc)] h0 (Wk.Pu (.int (Wk.b (inRb yN cc.toInt = true ∨ inRb yP cc.toInt = true ∨ 2 * (cc.toInt / 2 % 32768) = 65534))) h0) := by
  refine Wk.start pn1 ?_
  intro p e s m below meth c s₁ X0 hx hby hml hown0 hnm hret hlk hZ e0
  have hown : s.vm.findClass "com/example/rillet/rillet/postgresql/SaslPrep" = some m.cls := hown0
  refine Wk.enter (g' := (mkF m 0 #[.val (.int cc)] [])) (by first | rfl | (simp [entryFrame, mkF, argsToLocals, Value.category, maxLocals]; done)) ?_
  refine Wk.iloadN X0 hx (hb hby d1_0) rfl rfl ?_
  refine Wk.callP (W := 0) X0 hx hZ (argsL := [(.int cc)]) (rest := []) hown (hw _ (List.mem_of_getElem? (i := 6) rfl)) (hw _ (List.mem_of_getElem? (i := 7) rfl)) (hw _ (List.mem_of_getElem? (i := 4) rfl)) (hw _ (List.mem_of_getElem? (i := 8) rfl)) (by decide) (mna l Z a0 hw rN kN cc h0 SN AN) e0 (by decide) (by decide) (by decide) (by decide) (by rw [hml]; rfl) (lenOf pd2 rfl) rfl (Nat.le_of_eq rfl) (hb hby d1_1) rfl (fun T1 X1 e1 => ?_)
  refine Wk.if_neB X1 hx 26 7 (hb hby d1_4) rfl rfl (fun h2 => ?_) (fun h2 => ?_)
  · skip
    refine Wk.iconst X1 hx (1 : Int32) (hb hby d1_26) rfl rfl ?_
    refine Wk.goto X1 hx 31 (hb hby d1_27) rfl ?_
    exact Wk.retZ X1 hx hlk hret (hb hby d1_31) (by decide) (Nat.zero_le _) (Nat.zero_le _) (Wk.puB1 (by first | exact (Or.inl ‹_›) | exact (Or.inr (Or.inl ‹_›)) | exact (Or.inr (Or.inr ‹_›)) | omega) e1)
  · skip
    refine Wk.getS (host := "") X1 hx hZ hown (Or.inl (hw _ (List.mem_of_getElem? (i := 14) rfl))) e1 SP (hb hby d1_7) rfl (fun T3 X3 e3 => ?_)
    refine Wk.iloadN X3 hx (hb hby d1_10) rfl rfl ?_
    refine Wk.callP (W := 0) X3 hx hZ (argsL := [(.ref rP), (.int cc)]) (rest := []) hown (hw _ (List.mem_of_getElem? (i := 11) rfl)) (hw _ (List.mem_of_getElem? (i := 12) rfl)) (hw _ (List.mem_of_getElem? (i := 4) rfl)) (hw _ (List.mem_of_getElem? (i := 13) rfl)) (by decide) (mir l Z a0 hw rP kP yP 52 (by decide) (by decide) (by decide) cc h0 AP) e3 (by decide) (by decide) (by decide) (by decide) (by rw [hml]; rfl) (lenOf pd3 rfl) rfl (Nat.le_of_eq rfl) (hb hby d1_11) rfl (fun T4 X4 e4 => ?_)
    refine Wk.if_neB X4 hx 26 17 (hb hby d1_14) rfl rfl (fun h5 => ?_) (fun h5 => ?_)
    · skip
      refine Wk.iconst X4 hx (1 : Int32) (hb hby d1_26) rfl rfl ?_
      refine Wk.goto X4 hx 31 (hb hby d1_27) rfl ?_
      exact Wk.retZ X4 hx hlk hret (hb hby d1_31) (by decide) (Nat.zero_le _) (Nat.zero_le _) (Wk.puB1 (by first | exact (Or.inl ‹_›) | exact (Or.inr (Or.inl ‹_›)) | exact (Or.inr (Or.inr ‹_›)) | omega) e4)
    · skip
      refine Wk.iloadN X4 hx (hb hby d1_17) rfl rfl ?_
      refine Wk.ldcI X4 hx hZ hown (hw _ (List.mem_of_getElem? (i := 29) rfl)) (hb hby d1_18) rfl ?_
      refine Wk.iand X4 hx (hb hby d1_20) rfl ?_
      refine Wk.ldcI X4 hx hZ hown (hw _ (List.mem_of_getElem? (i := 29) rfl)) (hb hby d1_21) rfl ?_
      refine Wk.icmp_ne X4 hx 30 26 (hb hby d1_23) rfl rfl (show (cc &&& (65534 : Int32) : Int32).toInt = 2 * (cc.toInt / 2 % 32768) from and_evenI cc hc0) (show ((65534 : Int32) : Int32).toInt = 65534 from (by decide)) (fun h6 => ?_) (fun h6 => ?_)
      · skip
        refine Wk.iconst X4 hx (0 : Int32) (hb hby d1_30) rfl rfl ?_
        exact Wk.retZ X4 hx hlk hret (hb hby d1_31) (by decide) (Nat.zero_le _) (Nat.zero_le _) (Wk.puB0 (by first | (rintro (z | z | z) <;> exact absurd z ‹_›) | omega) e4)
      · skip
        refine Wk.iconst X4 hx (1 : Int32) (hb hby d1_26) rfl rfl ?_
        refine Wk.goto X4 hx 31 (hb hby d1_27) rfl ?_
        exact Wk.retZ X4 hx hlk hret (hb hby d1_31) (by decide) (Nat.zero_le _) (Nat.zero_le _) (Wk.puB1 (by first | exact (Or.inl ‹_›) | exact (Or.inr (Or.inl ‹_›)) | exact (Or.inr (Or.inr ‹_›)) | omega) e4)
set_option maxRecDepth 65536 in
set_option maxHeartbeats 40000000 in
theorem plain (x : Int) (h0 : 0 ≤ x) (h1 : x < 1114112) : (inRb yN x = true ∨ inRb yP x = true ∨ 2 * (x / 2 % 32768) = 65534) ↔ pE x := by
  simp only [inRb, yN, yP, Bool.or_eq_true, Bool.and_eq_true, decide_eq_true_eq, Bool.false_eq_true, or_false]
  constructor
  · intro h
    rcases h with (h | h | h | h | h | h) | (h | h | h | h | h | h | h | h | h | h | h | h | h | h | h | h | h | h | h | h | h | h | h | h | h | h) | h
    · exact (Or.inl (by show pc12 x; omega))
    · exact (Or.inl (by show pc12 x; omega))
    · exact (Or.inl (by show pc12 x; omega))
    · exact (Or.inl (by show pc12 x; omega))
    · exact (Or.inl (by show pc12 x; omega))
    · exact (Or.inl (by show pc12 x; omega))
    · exact (Or.inr (Or.inl (by show pc21 x; omega)))
    · exact (Or.inr (Or.inl (by show pc21 x; omega)))
    · exact (Or.inr (Or.inr (Or.inl (by show pc22 x; omega))))
    · exact (Or.inr (Or.inr (Or.inl (by show pc22 x; omega))))
    · exact (Or.inr (Or.inr (Or.inl (by show pc22 x; omega))))
    · exact (Or.inr (Or.inr (Or.inl (by show pc22 x; omega))))
    · exact (Or.inr (Or.inr (Or.inl (by show pc22 x; omega))))
    · exact (Or.inr (Or.inr (Or.inl (by show pc22 x; omega))))
    · exact (Or.inr (Or.inr (Or.inl (by show pc22 x; omega))))
    · exact (Or.inr (Or.inr (Or.inl (by show pc22 x; omega))))
    · exact (Or.inr (Or.inr (Or.inl (by show pc22 x; omega))))
    · exact (Or.inr (Or.inr (Or.inl (by show pc22 x; omega))))
    · exact (Or.inr (Or.inr (Or.inl (by show pc22 x; omega))))
    · exact (Or.inr (Or.inr (Or.inr (Or.inl (by show pc3 x; omega)))))
    · exact (Or.inr (Or.inr (Or.inr (Or.inl (by show pc3 x; omega)))))
    · exact (Or.inr (Or.inr (Or.inr (Or.inl (by show pc3 x; omega)))))
    · exact (Or.inr (Or.inr (Or.inr (Or.inr (Or.inl (by show pc4 x; omega))))))
    · exact (Or.inr (Or.inr (Or.inr (Or.inr (Or.inr (Or.inl (by show pc5 x; omega)))))))
    · exact (Or.inr (Or.inr (Or.inr (Or.inr (Or.inr (Or.inr (Or.inl (by show pc6 x; omega))))))))
    · exact (Or.inr (Or.inr (Or.inr (Or.inr (Or.inr (Or.inr (Or.inr (Or.inl (by show pc7 x; omega)))))))))
    · exact (Or.inr (Or.inr (Or.inr (Or.inr (Or.inr (Or.inr (Or.inr (Or.inr (Or.inl (by show pc8 x; omega))))))))))
    · exact (Or.inr (Or.inr (Or.inr (Or.inr (Or.inr (Or.inr (Or.inr (Or.inr (Or.inl (by show pc8 x; omega))))))))))
    · exact (Or.inr (Or.inr (Or.inr (Or.inr (Or.inr (Or.inr (Or.inr (Or.inr (Or.inl (by show pc8 x; omega))))))))))
    · exact (Or.inr (Or.inr (Or.inl (by show pc22 x; omega))))
    · exact (Or.inr (Or.inr (Or.inr (Or.inr (Or.inr (Or.inr (Or.inr (Or.inr (Or.inr (by show pc9 x; omega))))))))))
    · exact (Or.inr (Or.inr (Or.inr (Or.inr (Or.inr (Or.inr (Or.inr (Or.inr (Or.inr (by show pc9 x; omega))))))))))
    · exact (Or.inr (Or.inr (Or.inr (Or.inr (Or.inl (by show pc4 x; omega))))))
  · intro h
    rcases h with (h | h | h | h | h | h) | (h | h) | (h | h | h | h | h | h | h | h | h | h | h | h | h) | (h | h | h) | (h | h | h) | h | h | h | (h | h | h | h | h | h) | (h | h)
    · exact Or.inl (Or.inl (by omega))
    · exact Or.inl (Or.inr (Or.inl (by omega)))
    · exact Or.inl (Or.inr (Or.inr (Or.inl (by omega))))
    · exact Or.inl (Or.inr (Or.inr (Or.inr (Or.inl (by omega)))))
    · exact Or.inl (Or.inr (Or.inr (Or.inr (Or.inr (Or.inl (by omega))))))
    · exact Or.inl (Or.inr (Or.inr (Or.inr (Or.inr (Or.inr (by omega))))))
    · exact Or.inr (Or.inl (Or.inl (by omega)))
    · exact Or.inr (Or.inl (Or.inr (Or.inl (by omega))))
    · exact Or.inr (Or.inl (Or.inr (Or.inr (Or.inl (by omega)))))
    · exact Or.inr (Or.inl (Or.inr (Or.inr (Or.inr (Or.inl (by omega))))))
    · exact Or.inr (Or.inl (Or.inr (Or.inr (Or.inr (Or.inr (Or.inl (by omega)))))))
    · exact Or.inr (Or.inl (Or.inr (Or.inr (Or.inr (Or.inr (Or.inr (Or.inl (by omega))))))))
    · exact Or.inr (Or.inl (Or.inr (Or.inr (Or.inr (Or.inr (Or.inr (Or.inr (Or.inl (by omega)))))))))
    · exact Or.inr (Or.inl (Or.inr (Or.inr (Or.inr (Or.inr (Or.inr (Or.inr (Or.inl (by omega)))))))))
    · exact Or.inr (Or.inl (Or.inr (Or.inr (Or.inr (Or.inr (Or.inr (Or.inr (Or.inr (Or.inl (by omega))))))))))
    · exact Or.inr (Or.inl (Or.inr (Or.inr (Or.inr (Or.inr (Or.inr (Or.inr (Or.inr (Or.inl (by omega))))))))))
    · exact Or.inr (Or.inl (Or.inr (Or.inr (Or.inr (Or.inr (Or.inr (Or.inr (Or.inr (Or.inr (Or.inl (by omega)))))))))))
    · exact Or.inr (Or.inl (Or.inr (Or.inr (Or.inr (Or.inr (Or.inr (Or.inr (Or.inr (Or.inr (Or.inr (Or.inl (by omega))))))))))))
    · exact Or.inr (Or.inl (Or.inr (Or.inr (Or.inr (Or.inr (Or.inr (Or.inr (Or.inr (Or.inr (Or.inr (Or.inr (Or.inl (by omega)))))))))))))
    · exact Or.inr (Or.inl (Or.inr (Or.inr (Or.inr (Or.inr (Or.inr (Or.inr (Or.inr (Or.inr (Or.inr (Or.inr (Or.inr (Or.inl (by omega))))))))))))))
    · exact Or.inr (Or.inl (Or.inr (Or.inr (Or.inr (Or.inr (Or.inr (Or.inr (Or.inr (Or.inr (Or.inr (Or.inr (Or.inr (Or.inr (Or.inl (by omega)))))))))))))))
    · exact Or.inr (Or.inl (Or.inr (Or.inr (Or.inr (Or.inr (Or.inr (Or.inr (Or.inr (Or.inr (Or.inr (Or.inr (Or.inr (Or.inr (Or.inr (Or.inl (by omega))))))))))))))))
    · exact Or.inr (Or.inl (Or.inr (Or.inr (Or.inr (Or.inr (Or.inr (Or.inr (Or.inr (Or.inr (Or.inr (Or.inr (Or.inr (Or.inr (Or.inr (Or.inr (Or.inl (by omega)))))))))))))))))
    · exact Or.inr (Or.inl (Or.inr (Or.inr (Or.inr (Or.inr (Or.inr (Or.inr (Or.inr (Or.inr (Or.inr (Or.inr (Or.inr (Or.inr (Or.inr (Or.inr (Or.inr (Or.inl (by omega))))))))))))))))))
    · exact Or.inr (Or.inl (Or.inr (Or.inr (Or.inr (Or.inr (Or.inr (Or.inr (Or.inr (Or.inr (Or.inr (Or.inr (Or.inr (Or.inr (Or.inr (Or.inr (Or.inr (Or.inr (Or.inl (by omega)))))))))))))))))))
    · exact Or.inr (Or.inr (by omega))
    · exact Or.inr (Or.inr (by omega))
    · exact Or.inr (Or.inl (Or.inr (Or.inr (Or.inr (Or.inr (Or.inr (Or.inr (Or.inr (Or.inr (Or.inr (Or.inr (Or.inr (Or.inr (Or.inr (Or.inr (Or.inr (Or.inr (Or.inr (Or.inl (by omega))))))))))))))))))))
    · exact Or.inr (Or.inl (Or.inr (Or.inr (Or.inr (Or.inr (Or.inr (Or.inr (Or.inr (Or.inr (Or.inr (Or.inr (Or.inr (Or.inr (Or.inr (Or.inr (Or.inr (Or.inr (Or.inr (Or.inr (Or.inl (by omega)))))))))))))))))))))
    · exact Or.inr (Or.inl (Or.inr (Or.inr (Or.inr (Or.inr (Or.inr (Or.inr (Or.inr (Or.inr (Or.inr (Or.inr (Or.inr (Or.inr (Or.inr (Or.inr (Or.inr (Or.inr (Or.inr (Or.inr (Or.inr (Or.inl (by omega))))))))))))))))))))))
    · exact Or.inr (Or.inl (Or.inr (Or.inr (Or.inr (Or.inr (Or.inr (Or.inr (Or.inr (Or.inr (Or.inr (Or.inr (Or.inr (Or.inr (Or.inr (Or.inr (Or.inr (Or.inr (Or.inr (Or.inr (Or.inr (Or.inr (Or.inl (by omega)))))))))))))))))))))))
    · exact Or.inr (Or.inl (Or.inr (Or.inr (Or.inr (Or.inr (Or.inr (Or.inr (Or.inr (Or.inr (Or.inr (Or.inr (Or.inr (Or.inr (Or.inr (Or.inr (Or.inr (Or.inr (Or.inr (Or.inr (Or.inr (Or.inr (Or.inl (by omega)))))))))))))))))))))))
    · exact Or.inr (Or.inl (Or.inr (Or.inr (Or.inr (Or.inr (Or.inr (Or.inr (Or.inr (Or.inr (Or.inr (Or.inr (Or.inr (Or.inr (Or.inr (Or.inr (Or.inr (Or.inr (Or.inr (Or.inr (Or.inr (Or.inr (Or.inr (Or.inl (by omega))))))))))))))))))))))))
    · exact Or.inr (Or.inl (Or.inr (Or.inr (Or.inr (Or.inr (Or.inr (Or.inr (Or.inr (Or.inr (Or.inr (Or.inr (Or.inr (Or.inr (Or.inr (Or.inr (Or.inr (Or.inr (Or.inr (Or.inr (Or.inr (Or.inr (Or.inr (Or.inl (by omega))))))))))))))))))))))))
    · exact Or.inr (Or.inl (Or.inr (Or.inr (Or.inr (Or.inr (Or.inr (Or.inr (Or.inr (Or.inr (Or.inr (Or.inr (Or.inr (Or.inr (Or.inr (Or.inr (Or.inr (Or.inr (Or.inr (Or.inr (Or.inr (Or.inr (Or.inr (Or.inr (Or.inl (by omega)))))))))))))))))))))))))
    · exact Or.inr (Or.inl (Or.inr (Or.inr (Or.inr (Or.inr (Or.inr (Or.inr (Or.inr (Or.inr (Or.inr (Or.inl (by omega))))))))))))
    · exact Or.inr (Or.inl (Or.inr (Or.inr (Or.inr (Or.inr (Or.inr (Or.inr (Or.inr (Or.inr (Or.inr (Or.inr (Or.inr (Or.inr (Or.inr (Or.inr (Or.inr (Or.inr (Or.inr (Or.inr (Or.inr (Or.inr (Or.inr (Or.inr (Or.inr (Or.inr (Or.inl (by omega)))))))))))))))))))))))))))
    · exact Or.inr (Or.inl (Or.inr (Or.inr (Or.inr (Or.inr (Or.inr (Or.inr (Or.inr (Or.inr (Or.inr (Or.inr (Or.inr (Or.inr (Or.inr (Or.inr (Or.inr (Or.inr (Or.inr (Or.inr (Or.inr (Or.inr (Or.inr (Or.inr (Or.inr (Or.inr (Or.inr (by omega)))))))))))))))))))))))))))
set_option maxRecDepth 65536 in
set_option maxHeartbeats 40000000 in
theorem rmL (l : Launch) (Z : State) (a0 : Array Value) (hw : ∀ d ∈ tables_1, d.before a0 Z = true) (i0 : Int32) (rN rP : Addr) (kN kP : ClassId) (h0 : Heap) (SN : Sta Z h0 "com/example/rillet/rillet/postgresql/SaslPrep" "NON_ASCII_SPACE" "[I" (.ref rN)) (AN : Arv Z h0 rN kN .int 12 (yN.map fun y => .int (Int32.ofInt y)) (.int 0)) (SP : Sta Z h0 "com/example/rillet/rillet/postgresql/SaslPrep" "PROHIBITED" "[I" (.ref rP)) (AP : Arv Z h0 rP kP .int 52 (yP.map fun y => .int (Int32.ofInt y)) (.int 0)) : Wk.Met l Z x code maxLocals ret tables_1 room_1 #[(.int i0)] h0 (Wk.Pu (.int 1) h0) := by
  refine Wk.start pnL ?_
  intro p e s m below meth c s₁ X0 hx hby hml hown0 hnm hret hlk hZ e0
  have hown : s.vm.findClass "com/example/rillet/rillet/postgresql/SaslPrepIsProhibitedPinLaw" = some m.cls := hown0
  refine Wk.enter (g' := (mkF m 0 #[.val (.int i0), .unset] [])) (by first | rfl | (simp [entryFrame, mkF, argsToLocals, Value.category, maxLocals]; done)) ?_
  refine Wk.iloadN X0 hx (hb hby at_0) rfl rfl ?_
  refine Wk.ldcI X0 hx hZ hown (hw _ (List.mem_of_getElem? (i := 0) rfl)) (hb hby at_1) rfl ?_
  refine Wk.iand X0 hx (hb hby at_3) rfl ?_
  refine Wk.ldcI X0 hx hZ hown (hw _ (List.mem_of_getElem? (i := 1) rfl)) (hb hby at_4) rfl ?_
  refine Wk.irem X0 hx (hb hby at_6) (by decide) rfl ?_
  refine Wk.istoreN (l' := #[.val (.int i0), .val (.int ((i0 &&& (2147483647 : Int32)) % (1114112 : Int32)))]) X0 hx (hb hby at_7) rfl rfl ?_
  have b1 := c_mask i0 (2147483647 : Int32) 31 (by decide) (by decide)
  have b2 := (c_irem (i0 &&& (2147483647 : Int32)) (1114112 : Int32) 1114112 (by decide)).1 (by omega)
  have hc0 : 0 ≤ ((i0 &&& (2147483647 : Int32)) % (1114112 : Int32)).toInt := by omega
  have hc1 : ((i0 &&& (2147483647 : Int32)) % (1114112 : Int32)).toInt < 1114112 := by omega
  generalize hcc : (i0 &&& (2147483647 : Int32)) % (1114112 : Int32) = cc at hc0 hc1 ⊢
  clear hcc b1 b2
  refine Wk.iloadN X0 hx (hb hby at_8) rfl rfl ?_
  refine Wk.callP (W := 0) X0 hx hZ (argsL := [(.int cc)]) (rest := []) hown (hw _ (List.mem_of_getElem? (i := 2) rfl)) (hw _ (List.mem_of_getElem? (i := 3) rfl)) (hw _ (List.mem_of_getElem? (i := 4) rfl)) (hw _ (List.mem_of_getElem? (i := 5) rfl)) (by decide) (mpr l Z a0 hw rN rP kN kP cc hc0 h0 SN AN SP AP) e0 (by decide) (by decide) (by decide) (by decide) (by rw [hml]; rfl) (lenOf pd1 rfl) rfl (Nat.le_of_eq rfl) (hb hby at_9) rfl (fun T1 X1 e1 => ?_)
  refine Wk.iloadN X1 hx (hb hby at_12) rfl rfl ?_
  refine Wk.callP (W := 1) X1 hx hZ (argsL := [(.int cc)]) (rest := [(.int (Wk.b (inRb yN cc.toInt = true ∨ inRb yP cc.toInt = true ∨ 2 * (cc.toInt / 2 % 32768) = 65534)))]) hown (hw _ (List.mem_of_getElem? (i := 16) rfl)) (hw _ (List.mem_of_getElem? (i := 17) rfl)) (hw _ (List.mem_of_getElem? (i := 18) rfl)) (hw _ (List.mem_of_getElem? (i := 19) rfl)) (by decide) (mexp l Z a0 hw cc hc0 h0) e1 (by decide) (by decide) (by decide) (by decide) (by rw [hml]; rfl) (lenOf pd4 rfl) rfl (Nat.le_of_eq rfl) (hb hby at_13) rfl (fun T2 X2 e2 => ?_)
  refine Wk.icmp_neB X2 hx 23 19 (hb hby at_16) rfl rfl (fun h3 => absurd h3 (by exact fun q => q (plain _ hc0 hc1))) (fun h3 => ?_)
  refine Wk.iconst X2 hx (1 : Int32) (hb hby at_19) rfl rfl ?_
  refine Wk.goto X2 hx 24 (hb hby at_20) rfl ?_
  exact Wk.retZ X2 hx hlk hret (hb hby at_24) (by decide) (Nat.zero_le _) (Nat.zero_le _) (Wk.pu e2)
set_option maxRecDepth 65536 in
set_option maxHeartbeats 40000000 in
theorem comes_1 {Post : Tables → Env → Array Value → State → Outcome → State → Prop} (hpost : ∀ tb e args s v u, (limb_1_1.after args s (.returned v) u = true ∧ limb_1_2.after args s (.returned v) u = true ∧ True) → FrameEnd s (.returned v) u (Jvm.fieldLocs frame_1_writes args s ++ Jvm.arrayLocs frame_1_arrays args s ++ Jvm.staticLocs frame_1_statics s) 0 0 → Post tb e args s (.returned v) u) :
    ArmFor flags0 classFile x code maxLocals ret World_1 tables_1 room_1 Calls_1 rest_1 Pre_1 Post := by
  intro l hfl _ _ p e ha hc hk s m args below hf hA hF happ hP
  obtain ⟨hcalls, hrest, hpre⟩ := hP
  obtain ⟨-, -, -, hnamed, -, -, -, hat⟩ := (Spec.applies_iff hf).mp happ
  obtain ⟨hg, hn⟩ := and_e (Cond.before_iff.mp (show (Jvm.Cond.and given_1 narrow_1).before args s = true from hpre))
  obtain ⟨hg0, hg⟩ := and_e hg
  obtain ⟨w0, rfl⟩ : ∃ w0 : Value, args = #[w0] := by
    have hs : args.size = 1 := by simpa [Cond.value, given_1] using hg0
    obtain ⟨L⟩ := args
    match L, hs with
    | [w0], _ => exact ⟨w0, rfl⟩
  have hw := fun d (hd : d ∈ tables_1) => atoms_spec (ws := Jvm.Cond.code x code maxLocals ret :: tables_1) hat d (List.mem_cons_of_mem _ hd)
  have hfit : Fit s := fun {y c} hc i hi => by
    obtain ⟨ha, rfl⟩ := Array.getElem?_eq_some_iff.mp hc
    have q := List.all_eq_true.mp ((Array.all_eq_true_iff_forall_mem.mp hF) _ (Array.getElem_mem ha)) i (List.mem_range.mpr hi)
    simpa [Array.getElem?_eq_getElem hi] using q
  have hg1 := hg
  obtain ⟨i0, ei0⟩ := is_v hg1
  obtain rfl : w0 = (.int i0) := Option.some.inj ei0
  obtain ⟨q0, hn⟩ := and_e hn
  obtain ⟨q1, hn⟩ := and_e hn
  obtain ⟨q2, hn⟩ := and_e hn
  obtain ⟨q3, hn⟩ := and_e hn
  obtain ⟨q4, hn⟩ := and_e hn
  obtain ⟨q5, hn⟩ := and_e hn
  obtain ⟨q6, hn⟩ := and_e hn
  obtain ⟨q7, hn⟩ := and_e hn
  obtain ⟨q8, hn⟩ := and_e hn
  obtain ⟨q9, hn⟩ := and_e hn
  obtain ⟨q10, hn⟩ := and_e hn
  obtain ⟨q11, hn⟩ := and_e hn
  obtain ⟨q12, hn⟩ := and_e hn
  obtain ⟨q13, hn⟩ := and_e hn
  obtain ⟨q14, hn⟩ := and_e hn
  obtain ⟨q15, hn⟩ := and_e hn
  obtain ⟨q16, hn⟩ := and_e hn
  obtain ⟨q17, hn⟩ := and_e hn
  obtain ⟨q18, hn⟩ := and_e hn
  obtain ⟨q19, hn⟩ := and_e hn
  obtain ⟨q20, hn⟩ := and_e hn
  obtain ⟨q21, hn⟩ := and_e hn
  obtain ⟨q22, hn⟩ := and_e hn
  obtain ⟨q23, hn⟩ := and_e hn
  obtain ⟨q24, hn⟩ := and_e hn
  obtain ⟨q25, hn⟩ := and_e hn
  obtain ⟨q26, hn⟩ := and_e hn
  obtain ⟨q27, hn⟩ := and_e hn
  obtain ⟨q28, hn⟩ := and_e hn
  obtain ⟨q29, hn⟩ := and_e hn
  obtain ⟨q30, hn⟩ := and_e hn
  obtain ⟨q31, hn⟩ := and_e hn
  obtain ⟨q32, hn⟩ := and_e hn
  obtain ⟨q33, hn⟩ := and_e hn
  obtain ⟨q34, hn⟩ := and_e hn
  obtain ⟨q35, hn⟩ := and_e hn
  obtain ⟨q36, hn⟩ := and_e hn
  obtain ⟨q37, hn⟩ := and_e hn
  obtain ⟨q38, hn⟩ := and_e hn
  obtain ⟨q39, hn⟩ := and_e hn
  obtain ⟨q40, hn⟩ := and_e hn
  obtain ⟨q41, hn⟩ := and_e hn
  obtain ⟨q42, hn⟩ := and_e hn
  obtain ⟨q43, hn⟩ := and_e hn
  obtain ⟨q44, hn⟩ := and_e hn
  obtain ⟨q45, hn⟩ := and_e hn
  obtain ⟨q46, hn⟩ := and_e hn
  obtain ⟨q47, hn⟩ := and_e hn
  obtain ⟨q48, hn⟩ := and_e hn
  obtain ⟨q49, hn⟩ := and_e hn
  obtain ⟨q50, hn⟩ := and_e hn
  obtain ⟨q51, hn⟩ := and_e hn
  obtain ⟨q52, hn⟩ := and_e hn
  obtain ⟨q53, hn⟩ := and_e hn
  obtain ⟨q54, hn⟩ := and_e hn
  obtain ⟨q55, hn⟩ := and_e hn
  obtain ⟨q56, hn⟩ := and_e hn
  obtain ⟨q57, hn⟩ := and_e hn
  obtain ⟨q58, hn⟩ := and_e hn
  obtain ⟨q59, hn⟩ := and_e hn
  obtain ⟨q60, hn⟩ := and_e hn
  obtain ⟨q61, hn⟩ := and_e hn
  obtain ⟨q62, hn⟩ := and_e hn
  obtain ⟨q63, hn⟩ := and_e hn
  obtain ⟨q64, hn⟩ := and_e hn
  obtain ⟨q65, hn⟩ := and_e hn
  obtain ⟨q66, hn⟩ := and_e hn
  have q67 := hn
  obtain ⟨rN, vN⟩ := arr_v q0
  obtain ⟨clN, ArN⟩ := Arr.start vN q0
  obtain ⟨hz1N, hz2N⟩ := Wk.len_fit q1 vN ArN
  have AN : Arv s s.heap rN clN.cls .int 12 (yN.map fun y => .int (Int32.ofInt y)) (.int 0) := Arv.start hfit ArN hz1N hz2N (by decide) (by decide) ⟨Wk.elI q4 vN ArN.1 (by decide), Wk.elI q5 vN ArN.1 (by decide), Wk.elI q6 vN ArN.1 (by decide), Wk.elI q7 vN ArN.1 (by decide), Wk.elI q8 vN ArN.1 (by decide), Wk.elI q9 vN ArN.1 (by decide), Wk.elI q10 vN ArN.1 (by decide), Wk.elI q11 vN ArN.1 (by decide), Wk.elI q12 vN ArN.1 (by decide), Wk.elI q13 vN ArN.1 (by decide), Wk.elI q14 vN ArN.1 (by decide), Wk.elI q15 vN ArN.1 (by decide), trivial⟩
  have SN : Sta s s.heap "com/example/rillet/rillet/postgresql/SaslPrep" "NON_ASCII_SPACE" "[I" (.ref rN) := Sta.start vN (Or.inr ⟨(hw _ (List.mem_of_getElem? (i := 4) rfl)), (hw _ (List.mem_of_getElem? (i := 10) rfl))⟩)
  obtain ⟨rP, vP⟩ := arr_v q2
  obtain ⟨clP, ArP⟩ := Arr.start vP q2
  obtain ⟨hz1P, hz2P⟩ := Wk.len_fit q3 vP ArP
  have AP : Arv s s.heap rP clP.cls .int 52 (yP.map fun y => .int (Int32.ofInt y)) (.int 0) := Arv.start hfit ArP hz1P hz2P (by decide) (by decide) ⟨Wk.elI q16 vP ArP.1 (by decide), Wk.elI q17 vP ArP.1 (by decide), Wk.elI q18 vP ArP.1 (by decide), Wk.elI q19 vP ArP.1 (by decide), Wk.elI q20 vP ArP.1 (by decide), Wk.elI q21 vP ArP.1 (by decide), Wk.elI q22 vP ArP.1 (by decide), Wk.elI q23 vP ArP.1 (by decide), Wk.elI q24 vP ArP.1 (by decide), Wk.elI q25 vP ArP.1 (by decide), Wk.elI q26 vP ArP.1 (by decide), Wk.elI q27 vP ArP.1 (by decide), Wk.elI q28 vP ArP.1 (by decide), Wk.elI q29 vP ArP.1 (by decide), Wk.elI q30 vP ArP.1 (by decide), Wk.elI q31 vP ArP.1 (by decide), Wk.elI q32 vP ArP.1 (by decide), Wk.elI q33 vP ArP.1 (by decide), Wk.elI q34 vP ArP.1 (by decide), Wk.elI q35 vP ArP.1 (by decide), Wk.elI q36 vP ArP.1 (by decide), Wk.elI q37 vP ArP.1 (by decide), Wk.elI q38 vP ArP.1 (by decide), Wk.elI q39 vP ArP.1 (by decide), Wk.elI q40 vP ArP.1 (by decide), Wk.elI q41 vP ArP.1 (by decide), Wk.elI q42 vP ArP.1 (by decide), Wk.elI q43 vP ArP.1 (by decide), Wk.elI q44 vP ArP.1 (by decide), Wk.elI q45 vP ArP.1 (by decide), Wk.elI q46 vP ArP.1 (by decide), Wk.elI q47 vP ArP.1 (by decide), Wk.elI q48 vP ArP.1 (by decide), Wk.elI q49 vP ArP.1 (by decide), Wk.elI q50 vP ArP.1 (by decide), Wk.elI q51 vP ArP.1 (by decide), Wk.elI q52 vP ArP.1 (by decide), Wk.elI q53 vP ArP.1 (by decide), Wk.elI q54 vP ArP.1 (by decide), Wk.elI q55 vP ArP.1 (by decide), Wk.elI q56 vP ArP.1 (by decide), Wk.elI q57 vP ArP.1 (by decide), Wk.elI q58 vP ArP.1 (by decide), Wk.elI q59 vP ArP.1 (by decide), Wk.elI q60 vP ArP.1 (by decide), Wk.elI q61 vP ArP.1 (by decide), Wk.elI q62 vP ArP.1 (by decide), Wk.elI q63 vP ArP.1 (by decide), Wk.elI q64 vP ArP.1 (by decide), Wk.elI q65 vP ArP.1 (by decide), Wk.elI q66 vP ArP.1 (by decide), Wk.elI q67 vP ArP.1 (by decide), trivial⟩
  have SP : Sta s s.heap "com/example/rillet/rillet/postgresql/SaslPrep" "PROHIBITED" "[I" (.ref rP) := Sta.start vP (Or.inr ⟨(hw _ (List.mem_of_getElem? (i := 4) rfl)), (hw _ (List.mem_of_getElem? (i := 15) rfl))⟩)
  have H := rmL l s _ hw i0 rN rP _ _ s.heap SN AN SP AP
  obtain ⟨n, o, h1, h2, h3, _, L, rfl, ⟨rfl, rfl, -⟩, hq⟩ := H p e ha hc hk s m _ below hf ((Spec.applies_iff_loose hf).mp happ).1 ⟨rfl, State.Warmed39.refl s, rfl⟩ trivial
  refine ⟨n, _, h1, h2, h3, hpost _ _ _ _ _ _ ⟨Cond.after_iff.mpr rfl, Cond.after_iff.mpr (eq_i res_at (Term.int_eval (1)) rfl), trivial⟩ ⟨hq.1, hq.2.1, (hq.2.2.sift fun y hy => nomatch hy).mono (by decide) (by decide)⟩⟩
theorem main_1_1 : Claimed_1_1 := comes_1 fun _ _ _ _ _ _ h hF => ⟨h.1, hF⟩
theorem main_1_2 : Claimed_1_2 := comes_1 fun _ _ _ _ _ _ h hF => ⟨h.2.1, hF⟩
end Jvm.Pilot.@@N@@
namespace Jvm.Pilot.@@N@@
open Jvm Jvm.ClassFile Sem Op Lib Jvm.Free Jvm.Stand Jvm.Pilot.@@N@@.Jvm.D
/-! MADE BY PROGRAM (witnessworld.py) out of the Statement's table words and the real class files: 9 classes; the members and pool entries that the words name. The judged class is class 1, her method 1. -/
namespace start1
open Jvm.ClassFile
def u (s : String) : CpInfo := .utf8 (stringToUtf16 s)
/-- a pool by its gaps: so many unusable entries, then the entry; so many at the end -/
def gap : Nat → List CpInfo → List CpInfo
  | 0, r => r
  | n + 1, r => .unusable :: gap n r
def poolList (es : List (Nat × CpInfo)) (last : Nat) : List CpInfo := es.foldr (fun e r => gap e.1 (e.2 :: r)) (gap last [])
def pool (es : List (Nat × CpInfo)) (last : Nat) : Array CpInfo := ⟨poolList es last⟩
def fileOf (pool : Array CpInfo) (this : Nat) (attrs : Array Attribute := #[]) (ms : Array MethodInfo := #[]) (fl : Nat := 33) (sup : Nat := 0) (ifs : Array Nat := #[]) (fds : Array FieldInfo := #[]) : ClassFile where
  minorVersion := 0
  majorVersion := 65
  constantPool := pool
  accessFlags := fl
  thisClass := this
  superClass := sup
  interfaces := ifs
  fields := fds
  methods := ms
  attributes := attrs
def plain (name : String) (sup : Option ClassId) : Class where
  name := name
  kind := .ordinary
  loader := none
  accessFlags := 33
  super := sup
  interfaces := #[]
  cf := none
  fields := #[]
  methods := #[]
  instanceTypes := #[]
  staticTypes := #[]
  resolved := #[]
  callSites := []
  init := .initialized
  statics := none
  mirror := none

def pool0 : Array CpInfo := pool [(5, u "<init>"), (0, u "()V"), (1, .class_ 10), (1, u "java/lang/Object")] 113

def k0m0 : Method := { name := "<init>", desc := "()V", sig := { parameters := [], returnType := none }, accessFlags := 1, code := none }
/-- java/lang/Object -/
def k0 : Class := { plain "java/lang/Object" none with
  accessFlags := 33
  interfaces := #[]
  cf := some (fileOf pool0 8 #[] #[{ accessFlags := 1, nameIndex := 5, descriptorIndex := 6, attributes := #[] }] 33 0 #[] #[])
  fields := #[]
  methods := #[k0m0]
  instanceTypes := #[]
  staticTypes := #[]
  resolved := Array.replicate 124 none
  statics := none }

def pool1 : Array CpInfo := pool [(2, .class_ 4), (1, u "java/lang/Object"), (0, u "<init>"), (0, u "()V"), (0, .integer 2147483647), (0, .integer 1114112), (0, .methodref 10 11), (0, .class_ 12), (0, .nameAndType 13 14), (0, u "com/example/rillet/rillet/postgresql/SaslPrep"), (0, u "isProhibited"), (0, u "(I)Z"), (0, .methodref 16 17), (0, .class_ 18), (0, .nameAndType 19 14), (0, u "com/example/rillet/rillet/postgresql/SaslPrepIsProhibitedPinLaw"), (0, u "expected"), (0, .methodref 16 21), (0, .nameAndType 22 23), (0, u "in"), (0, u "(III)Z"), (0, .integer 65279), (0, .integer 65529), (0, .integer 65532), (0, .integer 119155), (0, .integer 119162), (0, .integer 57344), (0, .integer 63743), (0, .integer 983040), (0, .integer 1048573), (0, .integer 1048576), (0, .integer 1114109), (0, .integer 65536), (0, .integer 64976), (0, .integer 65007), (0, .integer 65534), (0, .integer 65535), (0, .integer 55296), (0, .integer 57343), (0, .integer 65533), (0, .integer 917505), (0, .integer 917536), (0, .integer 917631), (0, .methodref 16 47), (0, .nameAndType 48 14), (0, u "c12"), (0, .methodref 16 50), (0, .nameAndType 51 14), (0, u "c21"), (0, .methodref 16 53), (0, .nameAndType 54 14), (0, u "c22"), (0, .methodref 16 56), (0, .nameAndType 57 14), (0, u "c3"), (0, .methodref 16 59), (0, .nameAndType 60 14), (0, u "c4"), (0, .methodref 16 62), (0, .nameAndType 63 14), (0, u "c5"), (0, .methodref 16 65), (0, .nameAndType 66 14), (0, u "c6"), (0, .methodref 16 68), (0, .nameAndType 69 14), (0, u "c7"), (0, .methodref 16 71), (0, .nameAndType 72 14), (0, u "c8"), (0, .methodref 16 74), (0, .nameAndType 75 14), (0, u "c9"), (2, u "law")] 3

def k1m0 : Method := { name := "<init>", desc := "()V", sig := { parameters := [], returnType := none }, accessFlags := 1, code := none }
def k1c1 : Code := { maxStack := 2, maxLocals := 2, code := code, exceptionTable := #[], attributes := #[] }
def k1m1 : Method := { name := "law", desc := "(I)Z", sig := { parameters := [.int], returnType := some .boolean }, accessFlags := 9, code := some k1c1 }
def k1c2 : Code := { maxStack := 2, maxLocals := 3, code := method_3_code, exceptionTable := #[], attributes := #[] }
def k1m2 : Method := { name := "in", desc := "(III)Z", sig := { parameters := [.int, .int, .int], returnType := some .boolean }, accessFlags := 10, code := some k1c2 }
def k1c3 : Code := { maxStack := 3, maxLocals := 1, code := method_4_code, exceptionTable := #[], attributes := #[] }
def k1m3 : Method := { name := "c12", desc := "(I)Z", sig := { parameters := [.int], returnType := some .boolean }, accessFlags := 10, code := some k1c3 }
def k1c4 : Code := { maxStack := 3, maxLocals := 1, code := method_5_code, exceptionTable := #[], attributes := #[] }
def k1m4 : Method := { name := "c21", desc := "(I)Z", sig := { parameters := [.int], returnType := some .boolean }, accessFlags := 10, code := some k1c4 }
def k1c5 : Code := { maxStack := 3, maxLocals := 1, code := method_6_code, exceptionTable := #[], attributes := #[] }
def k1m5 : Method := { name := "c22", desc := "(I)Z", sig := { parameters := [.int], returnType := some .boolean }, accessFlags := 10, code := some k1c5 }
def k1c6 : Code := { maxStack := 3, maxLocals := 1, code := method_7_code, exceptionTable := #[], attributes := #[] }
def k1m6 : Method := { name := "c3", desc := "(I)Z", sig := { parameters := [.int], returnType := some .boolean }, accessFlags := 10, code := some k1c6 }
def k1c7 : Code := { maxStack := 3, maxLocals := 2, code := method_8_code, exceptionTable := #[], attributes := #[] }
def k1m7 : Method := { name := "c4", desc := "(I)Z", sig := { parameters := [.int], returnType := some .boolean }, accessFlags := 10, code := some k1c7 }
def k1c8 : Code := { maxStack := 3, maxLocals := 1, code := method_9_code, exceptionTable := #[], attributes := #[] }
def k1m8 : Method := { name := "c5", desc := "(I)Z", sig := { parameters := [.int], returnType := some .boolean }, accessFlags := 10, code := some k1c8 }
def k1c9 : Code := { maxStack := 3, maxLocals := 1, code := method_10_code, exceptionTable := #[], attributes := #[] }
def k1m9 : Method := { name := "c6", desc := "(I)Z", sig := { parameters := [.int], returnType := some .boolean }, accessFlags := 10, code := some k1c9 }
def k1c10 : Code := { maxStack := 3, maxLocals := 1, code := method_11_code, exceptionTable := #[], attributes := #[] }
def k1m10 : Method := { name := "c7", desc := "(I)Z", sig := { parameters := [.int], returnType := some .boolean }, accessFlags := 10, code := some k1c10 }
def k1c11 : Code := { maxStack := 3, maxLocals := 1, code := method_12_code, exceptionTable := #[], attributes := #[] }
def k1m11 : Method := { name := "c8", desc := "(I)Z", sig := { parameters := [.int], returnType := some .boolean }, accessFlags := 10, code := some k1c11 }
def k1c12 : Code := { maxStack := 3, maxLocals := 1, code := method_13_code, exceptionTable := #[], attributes := #[] }
def k1m12 : Method := { name := "c9", desc := "(I)Z", sig := { parameters := [.int], returnType := some .boolean }, accessFlags := 10, code := some k1c12 }
def k1c13 : Code := { maxStack := 1, maxLocals := 1, code := method_14_code, exceptionTable := #[], attributes := #[] }
def k1m13 : Method := { name := "expected", desc := "(I)Z", sig := { parameters := [.int], returnType := some .boolean }, accessFlags := 10, code := some k1c13 }
/-- com/example/rillet/rillet/postgresql/SaslPrepIsProhibitedPinLaw -/
def k1 : Class := { plain "com/example/rillet/rillet/postgresql/SaslPrepIsProhibitedPinLaw" (some 0) with
  accessFlags := 49
  interfaces := #[]
  cf := some (fileOf pool1 16 #[] #[{ accessFlags := 1, nameIndex := 5, descriptorIndex := 6, attributes := #[] }, { accessFlags := 9, nameIndex := 78, descriptorIndex := 14, attributes := #[] }, { accessFlags := 10, nameIndex := 22, descriptorIndex := 23, attributes := #[] }, { accessFlags := 10, nameIndex := 48, descriptorIndex := 14, attributes := #[] }, { accessFlags := 10, nameIndex := 51, descriptorIndex := 14, attributes := #[] }, { accessFlags := 10, nameIndex := 54, descriptorIndex := 14, attributes := #[] }, { accessFlags := 10, nameIndex := 57, descriptorIndex := 14, attributes := #[] }, { accessFlags := 10, nameIndex := 60, descriptorIndex := 14, attributes := #[] }, { accessFlags := 10, nameIndex := 63, descriptorIndex := 14, attributes := #[] }, { accessFlags := 10, nameIndex := 66, descriptorIndex := 14, attributes := #[] }, { accessFlags := 10, nameIndex := 69, descriptorIndex := 14, attributes := #[] }, { accessFlags := 10, nameIndex := 72, descriptorIndex := 14, attributes := #[] }, { accessFlags := 10, nameIndex := 75, descriptorIndex := 14, attributes := #[] }, { accessFlags := 10, nameIndex := 19, descriptorIndex := 14, attributes := #[] }] 49 2 #[] #[])
  fields := #[]
  methods := #[k1m0, k1m1, k1m2, k1m3, k1m4, k1m5, k1m6, k1m7, k1m8, k1m9, k1m10, k1m11, k1m12, k1m13]
  instanceTypes := #[]
  staticTypes := #[]
  resolved := Array.replicate 82 none
  statics := none }

def pool2 : Array CpInfo := pool [(2, .class_ 4), (1, u "java/lang/Object"), (0, u "<init>"), (0, u "()V"), (1, .class_ 10), (1, u "com/example/rillet/rillet/postgresql/SaslPrep"), (45, u "isProhibited"), (0, u "(I)Z"), (16, .fieldref 8 75), (0, .nameAndType 76 77), (0, u "NON_ASCII_SPACE"), (0, u "[I"), (0, .methodref 8 79), (0, .nameAndType 80 81), (0, u "inRanges"), (0, u "([II)Z"), (2, u "MAPPED_TO_NOTHING"), (0, .methodref 8 86), (0, .nameAndType 87 57), (0, u "isNonAsciiSpace"), (0, .fieldref 8 89), (0, .nameAndType 90 77), (0, u "PROHIBITED"), (0, .integer 65534), (18, u "LEFT_TO_RIGHT_SINCE_3_2"), (2, u "LEFT_TO_RIGHT_UNTIL_3_2")] 71

def k2m0 : Method := { name := "<init>", desc := "()V", sig := { parameters := [], returnType := none }, accessFlags := 2, code := none }
def k2c1 : Code := { maxStack := 2, maxLocals := 1, code := prog_35_method_4_code, exceptionTable := #[], attributes := #[] }
def k2m1 : Method := { name := "isNonAsciiSpace", desc := "(I)Z", sig := { parameters := [.int], returnType := some .boolean }, accessFlags := 8, code := some k2c1 }
def k2c2 : Code := { maxStack := 2, maxLocals := 1, code := prog_35_method_6_code, exceptionTable := #[], attributes := #[] }
def k2m2 : Method := { name := "isProhibited", desc := "(I)Z", sig := { parameters := [.int], returnType := some .boolean }, accessFlags := 8, code := some k2c2 }
def k2c3 : Code := { maxStack := 4, maxLocals := 3, code := prog_35_method_11_code, exceptionTable := #[], attributes := #[] }
def k2m3 : Method := { name := "inRanges", desc := "([II)Z", sig := { parameters := [(.array .int), .int], returnType := some .boolean }, accessFlags := 10, code := some k2c3 }
/-- com/example/rillet/rillet/postgresql/SaslPrep -/
def k2 : Class := { plain "com/example/rillet/rillet/postgresql/SaslPrep" (some 0) with
  accessFlags := 48
  interfaces := #[]
  cf := some (fileOf pool2 8 #[] #[{ accessFlags := 2, nameIndex := 5, descriptorIndex := 6, attributes := #[] }, { accessFlags := 8, nameIndex := 87, descriptorIndex := 57, attributes := #[] }, { accessFlags := 8, nameIndex := 56, descriptorIndex := 57, attributes := #[] }, { accessFlags := 10, nameIndex := 80, descriptorIndex := 81, attributes := #[] }] 48 2 #[] #[{ accessFlags := 26, nameIndex := 76, descriptorIndex := 77, attributes := #[] }, { accessFlags := 26, nameIndex := 84, descriptorIndex := 77, attributes := #[] }, { accessFlags := 26, nameIndex := 90, descriptorIndex := 77, attributes := #[] }, { accessFlags := 26, nameIndex := 110, descriptorIndex := 77, attributes := #[] }, { accessFlags := 26, nameIndex := 113, descriptorIndex := 77, attributes := #[] }])
  fields := #[{ name := "NON_ASCII_SPACE", type := (.array .int), accessFlags := 26, slot := 0, constantValue := 0 }, { name := "MAPPED_TO_NOTHING", type := (.array .int), accessFlags := 26, slot := 1, constantValue := 0 }, { name := "PROHIBITED", type := (.array .int), accessFlags := 26, slot := 2, constantValue := 0 }, { name := "LEFT_TO_RIGHT_SINCE_3_2", type := (.array .int), accessFlags := 26, slot := 3, constantValue := 0 }, { name := "LEFT_TO_RIGHT_UNTIL_3_2", type := (.array .int), accessFlags := 26, slot := 4, constantValue := 0 }]
  methods := #[k2m0, k2m1, k2m2, k2m3]
  instanceTypes := #[]
  staticTypes := #[(.array .int), (.array .int), (.array .int), (.array .int), (.array .int)]
  resolved := Array.replicate 185 none
  statics := some 0 }

def pool3 : Array CpInfo := pool [(1, u "java/lang/Cloneable"), (0, .class_ 1), (0, u "java/lang/Object"), (0, .class_ 3)] 3

/-- java/lang/Cloneable -/
def k3 : Class := { plain "java/lang/Cloneable" (some 0) with
  accessFlags := 1537
  interfaces := #[]
  cf := some (fileOf pool3 2 #[] #[] 1537 4 #[] #[])
  fields := #[]
  methods := #[]
  instanceTypes := #[]
  staticTypes := #[]
  resolved := Array.replicate 8 none
  statics := none }

def pool4 : Array CpInfo := pool [(1, u "java/io/Serializable"), (0, .class_ 1), (0, u "java/lang/Object"), (0, .class_ 3)] 3

/-- java/io/Serializable -/
def k4 : Class := { plain "java/io/Serializable" (some 0) with
  accessFlags := 1537
  interfaces := #[]
  cf := some (fileOf pool4 2 #[] #[] 1537 4 #[] #[])
  fields := #[]
  methods := #[]
  instanceTypes := #[]
  staticTypes := #[]
  resolved := Array.replicate 8 none
  statics := none }

/-- the primitive byte -/
def k5 : Class := { plain "byte" none with kind := .primitive 'B', accessFlags := 0x411 }
/-- [B -/
def k6 : Class := { plain "[B" (some 0) with kind := .array 5 .byte, interfaces := #[3, 4], accessFlags := 1041 }

/-- the primitive int -/
def k7 : Class := { plain "int" none with kind := .primitive 'I', accessFlags := 0x411 }
/-- [I -/
def k8 : Class := { plain "[I" (some 0) with kind := .array 7 .int, interfaces := #[3, 4], accessFlags := 1041 }

def heap : Heap := #[{ cls := 2, slots := #[.ref 1, .null, .ref 2, .null, .null], vm := .statics 2 },
  { cls := 8, slots := #[.int 160, .int 160, .int 5760, .int 5760, .int 8192, .int 8203, .int 8239, .int 8239, .int 8287, .int 8287, .int 12288, .int 12288], vm := .none },
  { cls := 8, slots := #[.int 0, .int 31, .int 127, .int 127, .int 128, .int 159, .int 1757, .int 1757, .int 1807, .int 1807, .int 6158, .int 6158, .int 8204, .int 8205, .int 8232, .int 8233, .int 8288, .int 8291, .int 8298, .int 8303, .int 65279, .int 65279, .int 65529, .int 65532, .int 119155, .int 119162, .int 57344, .int 63743, .int 983040, .int 1048573, .int 1048576, .int 1114109, .int 64976, .int 65007, .int 55296, .int 57343, .int 65529, .int 65533, .int 12272, .int 12283, .int 832, .int 833, .int 8206, .int 8207, .int 8234, .int 8238, .int 8298, .int 8303, .int 917505, .int 917505, .int 917536, .int 917631], vm := .none }]
def classes : Array Class := #[k0, k1, k2, k3, k4, k5, k6, k7, k8]
def interned : List (Array UInt16 × Addr) := []
def slotsUsed : Nat := 69
def theMethod : MethodId := ⟨1, 1⟩
def args0 : Array Value := #[.int 5]
def aboutOver (below : List Frame) : State where
  vm := { classes := classes, interned := interned.toArray }
  heap := heap
  slotsUsed := slotsUsed
  threads := #[{ frames := .invoking theMethod args0 :: below }]
def below0 : List Frame := [.native { method := ⟨0, 0⟩, args := #[] }]
def about1 : State := aboutOver below0
def p0 : Program := .bare "" "" ""
def e0 : Env := launch0.env 0 0 0
theorem w_frames : about1.frames = Frame.invoking theMethod args0 :: below0 := rfl
set_option maxRecDepth 65536 in
theorem w_args : argsFit about1.vm theMethod args0 = true := by decide +kernel
set_option maxRecDepth 65536 in
theorem w_heap : heapFits about1 = true := by decide +kernel
set_option maxRecDepth 65536 in
theorem w_runnable : about1.curStatus? = some .runnable := by decide +kernel
set_option maxRecDepth 65536 in
theorem w_alone : about1.alone = true := by decide +kernel
set_option maxRecDepth 65536 in
theorem w_named : about1.methodNamed? x = some theMethod := by decide +kernel
set_option maxRecDepth 65536 in
theorem w_hears : about1.hears theMethod below0 = true := by decide +kernel
set_option maxRecDepth 65536 in
theorem w_ripe : about1.ripe theMethod args0 below0 = true := by decide +kernel
theorem w_running : about1.status = .running := rfl
set_option maxRecDepth 65536 in
theorem w_room : about1.hasRoom e0.platform room_1 = true :=
  launch0.hasRoom_least _ room_1 (by decide +kernel) (by decide +kernel) (by decide +kernel) (by decide +kernel) (by decide +kernel) (by decide +kernel)
theorem allAtoms_all (ts : List Jvm.Cond) (a : Array Jvm.Value) (st : Jvm.State) : (allAtoms ts).before a st = ts.all (fun c => c.before a st) := by
  induction ts with
  | nil => rfl
  | cons c t ih =>
    show (Jvm.Cond.and c (allAtoms t)).before a st = _
    rw [Jvm.Cond.before_and, ih, List.all_cons]
def words1 : List Jvm.Cond := Jvm.Cond.code x code maxLocals ret :: tables_1
/-- a 'code' word, met by the world's own term for the bytes: nothing is compared byte by byte -/
theorem code_word {y : MethodName} {bytes : ByteArray} {mx : Nat} {rt : Option FieldType} {a : Array Value} {s : State} {m : MethodId} {meth : Method} {c : Code} (h1 : s.methodNamed? y = some m) (h2 : s.vm.method? m = some meth) (h3 : meth.code = some c) (h4 : c.code = bytes)
    (h5 : (c.maxLocals == mx && c.exceptionTable.isEmpty && decide (c.maxStack ≤ mostOperands) && decide (meth.sig.returnType = rt) && !meth.locks && decide (parseMethodDescriptor y.desc = some meth.sig)) = true) : (Jvm.Cond.code y bytes mx rt).before a s = true := by
  simp only [Bool.and_eq_true, beq_iff_eq, Bool.not_eq_true', decide_eq_true_eq] at h5
  obtain ⟨⟨⟨⟨⟨g1, g2⟩, g3⟩, g4⟩, g5⟩, g6⟩ := h5
  simp [Cond.before, Cond.holds, Cond.value, h1, h2, h3, h4, g1, g2, g3, g4, g5, g6]
def isCode : Jvm.Cond → Bool
  | .code _ _ _ _ => true
  | _ => false
theorem all_split {L : List Jvm.Cond} {P : Jvm.Cond → Bool} (h1 : L.all (fun c => isCode c || P c) = true) (h2 : ∀ c ∈ L.filter isCode, P c = true) : L.all P = true := by
  refine List.all_eq_true.mpr fun c hc => ?_
  have h := List.all_eq_true.mp h1 c hc
  rcases Bool.eq_false_or_eq_true (isCode c) with hi | hi
  · exact h2 c (List.mem_filter.mpr ⟨hc, hi⟩)
  · simpa [hi] using h
set_option maxRecDepth 65536 in
theorem w_c0 : (Jvm.Cond.code x code maxLocals ret).before args0 about1 = true := code_word (m := ⟨1, 1⟩) (meth := k1m1) (c := k1c1) (by decide +kernel) rfl rfl rfl (by decide +kernel)
set_option maxRecDepth 65536 in
theorem w_c1 : (Jvm.Cond.code ({ cls := "com/example/rillet/rillet/postgresql/SaslPrep", name := "isProhibited", desc := "(I)Z" } : Jvm.MethodName) prog_35_method_6_code (1 : Nat) (Option.some Jvm.ClassFile.FieldType.boolean)).before args0 about1 = true := code_word (m := ⟨2, 2⟩) (meth := k2m2) (c := k2c2) (by decide +kernel) rfl rfl rfl (by decide +kernel)
set_option maxRecDepth 65536 in
theorem w_c2 : (Jvm.Cond.code ({ cls := "com/example/rillet/rillet/postgresql/SaslPrep", name := "isNonAsciiSpace", desc := "(I)Z" } : Jvm.MethodName) prog_35_method_4_code (1 : Nat) (Option.some Jvm.ClassFile.FieldType.boolean)).before args0 about1 = true := code_word (m := ⟨2, 1⟩) (meth := k2m1) (c := k2c1) (by decide +kernel) rfl rfl rfl (by decide +kernel)
set_option maxRecDepth 65536 in
theorem w_c3 : (Jvm.Cond.code ({ cls := "com/example/rillet/rillet/postgresql/SaslPrep", name := "inRanges", desc := "([II)Z" } : Jvm.MethodName) prog_35_method_11_code (3 : Nat) (Option.some Jvm.ClassFile.FieldType.boolean)).before args0 about1 = true := code_word (m := ⟨2, 3⟩) (meth := k2m3) (c := k2c3) (by decide +kernel) rfl rfl rfl (by decide +kernel)
set_option maxRecDepth 65536 in
theorem w_c4 : (Jvm.Cond.code ({ cls := "com/example/rillet/rillet/postgresql/SaslPrepIsProhibitedPinLaw", name := "expected", desc := "(I)Z" } : Jvm.MethodName) method_14_code (1 : Nat) (Option.some Jvm.ClassFile.FieldType.boolean)).before args0 about1 = true := code_word (m := ⟨1, 13⟩) (meth := k1m13) (c := k1c13) (by decide +kernel) rfl rfl rfl (by decide +kernel)
set_option maxRecDepth 65536 in
theorem w_c5 : (Jvm.Cond.code ({ cls := "com/example/rillet/rillet/postgresql/SaslPrepIsProhibitedPinLaw", name := "c12", desc := "(I)Z" } : Jvm.MethodName) method_4_code (1 : Nat) (Option.some Jvm.ClassFile.FieldType.boolean)).before args0 about1 = true := code_word (m := ⟨1, 3⟩) (meth := k1m3) (c := k1c3) (by decide +kernel) rfl rfl rfl (by decide +kernel)
set_option maxRecDepth 65536 in
theorem w_c6 : (Jvm.Cond.code ({ cls := "com/example/rillet/rillet/postgresql/SaslPrepIsProhibitedPinLaw", name := "in", desc := "(III)Z" } : Jvm.MethodName) method_3_code (3 : Nat) (Option.some Jvm.ClassFile.FieldType.boolean)).before args0 about1 = true := code_word (m := ⟨1, 2⟩) (meth := k1m2) (c := k1c2) (by decide +kernel) rfl rfl rfl (by decide +kernel)
set_option maxRecDepth 65536 in
theorem w_c7 : (Jvm.Cond.code ({ cls := "com/example/rillet/rillet/postgresql/SaslPrepIsProhibitedPinLaw", name := "c21", desc := "(I)Z" } : Jvm.MethodName) method_5_code (1 : Nat) (Option.some Jvm.ClassFile.FieldType.boolean)).before args0 about1 = true := code_word (m := ⟨1, 4⟩) (meth := k1m4) (c := k1c4) (by decide +kernel) rfl rfl rfl (by decide +kernel)
set_option maxRecDepth 65536 in
theorem w_c8 : (Jvm.Cond.code ({ cls := "com/example/rillet/rillet/postgresql/SaslPrepIsProhibitedPinLaw", name := "c22", desc := "(I)Z" } : Jvm.MethodName) method_6_code (1 : Nat) (Option.some Jvm.ClassFile.FieldType.boolean)).before args0 about1 = true := code_word (m := ⟨1, 5⟩) (meth := k1m5) (c := k1c5) (by decide +kernel) rfl rfl rfl (by decide +kernel)
set_option maxRecDepth 65536 in
theorem w_c9 : (Jvm.Cond.code ({ cls := "com/example/rillet/rillet/postgresql/SaslPrepIsProhibitedPinLaw", name := "c3", desc := "(I)Z" } : Jvm.MethodName) method_7_code (1 : Nat) (Option.some Jvm.ClassFile.FieldType.boolean)).before args0 about1 = true := code_word (m := ⟨1, 6⟩) (meth := k1m6) (c := k1c6) (by decide +kernel) rfl rfl rfl (by decide +kernel)
set_option maxRecDepth 65536 in
theorem w_c10 : (Jvm.Cond.code ({ cls := "com/example/rillet/rillet/postgresql/SaslPrepIsProhibitedPinLaw", name := "c4", desc := "(I)Z" } : Jvm.MethodName) method_8_code (2 : Nat) (Option.some Jvm.ClassFile.FieldType.boolean)).before args0 about1 = true := code_word (m := ⟨1, 7⟩) (meth := k1m7) (c := k1c7) (by decide +kernel) rfl rfl rfl (by decide +kernel)
set_option maxRecDepth 65536 in
theorem w_c11 : (Jvm.Cond.code ({ cls := "com/example/rillet/rillet/postgresql/SaslPrepIsProhibitedPinLaw", name := "c5", desc := "(I)Z" } : Jvm.MethodName) method_9_code (1 : Nat) (Option.some Jvm.ClassFile.FieldType.boolean)).before args0 about1 = true := code_word (m := ⟨1, 8⟩) (meth := k1m8) (c := k1c8) (by decide +kernel) rfl rfl rfl (by decide +kernel)
set_option maxRecDepth 65536 in
theorem w_c12 : (Jvm.Cond.code ({ cls := "com/example/rillet/rillet/postgresql/SaslPrepIsProhibitedPinLaw", name := "c6", desc := "(I)Z" } : Jvm.MethodName) method_10_code (1 : Nat) (Option.some Jvm.ClassFile.FieldType.boolean)).before args0 about1 = true := code_word (m := ⟨1, 9⟩) (meth := k1m9) (c := k1c9) (by decide +kernel) rfl rfl rfl (by decide +kernel)
set_option maxRecDepth 65536 in
theorem w_c13 : (Jvm.Cond.code ({ cls := "com/example/rillet/rillet/postgresql/SaslPrepIsProhibitedPinLaw", name := "c7", desc := "(I)Z" } : Jvm.MethodName) method_11_code (1 : Nat) (Option.some Jvm.ClassFile.FieldType.boolean)).before args0 about1 = true := code_word (m := ⟨1, 10⟩) (meth := k1m10) (c := k1c10) (by decide +kernel) rfl rfl rfl (by decide +kernel)
set_option maxRecDepth 65536 in
theorem w_c14 : (Jvm.Cond.code ({ cls := "com/example/rillet/rillet/postgresql/SaslPrepIsProhibitedPinLaw", name := "c8", desc := "(I)Z" } : Jvm.MethodName) method_12_code (1 : Nat) (Option.some Jvm.ClassFile.FieldType.boolean)).before args0 about1 = true := code_word (m := ⟨1, 11⟩) (meth := k1m11) (c := k1c11) (by decide +kernel) rfl rfl rfl (by decide +kernel)
set_option maxRecDepth 65536 in
theorem w_c15 : (Jvm.Cond.code ({ cls := "com/example/rillet/rillet/postgresql/SaslPrepIsProhibitedPinLaw", name := "c9", desc := "(I)Z" } : Jvm.MethodName) method_13_code (1 : Nat) (Option.some Jvm.ClassFile.FieldType.boolean)).before args0 about1 = true := code_word (m := ⟨1, 12⟩) (meth := k1m12) (c := k1c12) (by decide +kernel) rfl rfl rfl (by decide +kernel)
def codes1 : List Jvm.Cond := [Jvm.Cond.code x code maxLocals ret, Jvm.Cond.code ({ cls := "com/example/rillet/rillet/postgresql/SaslPrep", name := "isProhibited", desc := "(I)Z" } : Jvm.MethodName) prog_35_method_6_code (1 : Nat) (Option.some Jvm.ClassFile.FieldType.boolean), Jvm.Cond.code ({ cls := "com/example/rillet/rillet/postgresql/SaslPrep", name := "isNonAsciiSpace", desc := "(I)Z" } : Jvm.MethodName) prog_35_method_4_code (1 : Nat) (Option.some Jvm.ClassFile.FieldType.boolean), Jvm.Cond.code ({ cls := "com/example/rillet/rillet/postgresql/SaslPrep", name := "inRanges", desc := "([II)Z" } : Jvm.MethodName) prog_35_method_11_code (3 : Nat) (Option.some Jvm.ClassFile.FieldType.boolean), Jvm.Cond.code ({ cls := "com/example/rillet/rillet/postgresql/SaslPrepIsProhibitedPinLaw", name := "expected", desc := "(I)Z" } : Jvm.MethodName) method_14_code (1 : Nat) (Option.some Jvm.ClassFile.FieldType.boolean), Jvm.Cond.code ({ cls := "com/example/rillet/rillet/postgresql/SaslPrepIsProhibitedPinLaw", name := "c12", desc := "(I)Z" } : Jvm.MethodName) method_4_code (1 : Nat) (Option.some Jvm.ClassFile.FieldType.boolean), Jvm.Cond.code ({ cls := "com/example/rillet/rillet/postgresql/SaslPrepIsProhibitedPinLaw", name := "in", desc := "(III)Z" } : Jvm.MethodName) method_3_code (3 : Nat) (Option.some Jvm.ClassFile.FieldType.boolean), Jvm.Cond.code ({ cls := "com/example/rillet/rillet/postgresql/SaslPrepIsProhibitedPinLaw", name := "c21", desc := "(I)Z" } : Jvm.MethodName) method_5_code (1 : Nat) (Option.some Jvm.ClassFile.FieldType.boolean), Jvm.Cond.code ({ cls := "com/example/rillet/rillet/postgresql/SaslPrepIsProhibitedPinLaw", name := "c22", desc := "(I)Z" } : Jvm.MethodName) method_6_code (1 : Nat) (Option.some Jvm.ClassFile.FieldType.boolean), Jvm.Cond.code ({ cls := "com/example/rillet/rillet/postgresql/SaslPrepIsProhibitedPinLaw", name := "c3", desc := "(I)Z" } : Jvm.MethodName) method_7_code (1 : Nat) (Option.some Jvm.ClassFile.FieldType.boolean), Jvm.Cond.code ({ cls := "com/example/rillet/rillet/postgresql/SaslPrepIsProhibitedPinLaw", name := "c4", desc := "(I)Z" } : Jvm.MethodName) method_8_code (2 : Nat) (Option.some Jvm.ClassFile.FieldType.boolean), Jvm.Cond.code ({ cls := "com/example/rillet/rillet/postgresql/SaslPrepIsProhibitedPinLaw", name := "c5", desc := "(I)Z" } : Jvm.MethodName) method_9_code (1 : Nat) (Option.some Jvm.ClassFile.FieldType.boolean), Jvm.Cond.code ({ cls := "com/example/rillet/rillet/postgresql/SaslPrepIsProhibitedPinLaw", name := "c6", desc := "(I)Z" } : Jvm.MethodName) method_10_code (1 : Nat) (Option.some Jvm.ClassFile.FieldType.boolean), Jvm.Cond.code ({ cls := "com/example/rillet/rillet/postgresql/SaslPrepIsProhibitedPinLaw", name := "c7", desc := "(I)Z" } : Jvm.MethodName) method_11_code (1 : Nat) (Option.some Jvm.ClassFile.FieldType.boolean), Jvm.Cond.code ({ cls := "com/example/rillet/rillet/postgresql/SaslPrepIsProhibitedPinLaw", name := "c8", desc := "(I)Z" } : Jvm.MethodName) method_12_code (1 : Nat) (Option.some Jvm.ClassFile.FieldType.boolean), Jvm.Cond.code ({ cls := "com/example/rillet/rillet/postgresql/SaslPrepIsProhibitedPinLaw", name := "c9", desc := "(I)Z" } : Jvm.MethodName) method_13_code (1 : Nat) (Option.some Jvm.ClassFile.FieldType.boolean)]
set_option maxRecDepth 65536 in
theorem codes_eq : words1.filter isCode = codes1 := rfl
theorem w_codes : ∀ c ∈ words1.filter isCode, c.before args0 about1 = true := by
  rw [codes_eq]
  intro c hc
  simp only [codes1, List.mem_cons, List.not_mem_nil, or_false] at hc
  rcases hc with rfl | rfl | rfl | rfl | rfl | rfl | rfl | rfl | rfl | rfl | rfl | rfl | rfl | rfl | rfl | rfl
  · exact w_c0
  · exact w_c1
  · exact w_c2
  · exact w_c3
  · exact w_c4
  · exact w_c5
  · exact w_c6
  · exact w_c7
  · exact w_c8
  · exact w_c9
  · exact w_c10
  · exact w_c11
  · exact w_c12
  · exact w_c13
  · exact w_c14
  · exact w_c15
set_option maxRecDepth 65536 in
theorem w_t1 : (words1.take 24).all (fun c => isCode c || c.before args0 about1) = true := by decide +kernel
set_option maxRecDepth 65536 in
theorem w_t2 : ((words1.drop 24).take 24).all (fun c => isCode c || c.before args0 about1) = true := by decide +kernel
set_option maxRecDepth 65536 in
theorem w_t3 : (((words1.drop 24).drop 24).take 24).all (fun c => isCode c || c.before args0 about1) = true := by decide +kernel
set_option maxRecDepth 65536 in
theorem w_t4 : (((words1.drop 24).drop 24).drop 24).all (fun c => isCode c || c.before args0 about1) = true := by decide +kernel
theorem w_tables : (allAtoms (Jvm.Cond.code x code maxLocals ret :: tables_1)).before args0 about1 = true := by
  rw [allAtoms_all]
  show words1.all (fun c => c.before args0 about1) = true
  refine all_split ?_ w_codes
  rw [← List.take_append_drop 24 words1, List.all_append, w_t1, ← List.take_append_drop 24 (words1.drop 24), List.all_append, w_t2, ← List.take_append_drop 24 ((words1.drop 24).drop 24), List.all_append, w_t3, w_t4]
  rfl
set_option maxRecDepth 65536 in
theorem w_case : (Jvm.Cond.and given_1 narrow_1).before args0 about1 = true := by decide +kernel
theorem w_applies : (headSpec (Jvm.Cond.code x code maxLocals ret :: tables_1) room_1).applies x e0.platform about1 = true :=
  (Spec.applies_iff w_frames).mpr ⟨w_running, w_runnable, w_alone, w_named, w_hears, w_ripe, w_room, w_tables⟩
theorem atStart : AtStart classFile x code maxLocals ret World_1 tables_1 room_1 Calls_1 rest_1 Pre_1 launch0 p0 e0 about1 theMethod args0 below0 :=
  ⟨lists_1, trivial, launch0.admits_env _ _ _, launch0.least_env, fairChoices_fair.cas, fairChoices_fair.clock, w_frames, w_args, w_heap, w_applies, trivial, trivial, w_case⟩
end start1
theorem witness_1 : WitnessClaimed_1 := ⟨start1.p0, start1.e0, start1.about1, start1.theMethod, start1.args0, start1.below0, start1.atStart⟩
end Jvm.Pilot.@@N@@
