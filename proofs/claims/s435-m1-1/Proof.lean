import JvmDerived
import JvmDerived.Pilot.@@N@@Statement
import JvmDerived.Pilot.@@N@@Code
set_option linter.unusedVariables false
set_option linter.unusedSimpArgs false
namespace Jvm.Wk
open Sem ClassFile Op Lib Jvm.Stand Jvm.Free Jvm.LawKit Jvm.RoadKit
section W
variable {p : Program} {l : Launch} {e : Env} {R : Room} {s : State} {m : MethodId} {args : Array Value} {below : List Frame} {meth : Method} {c : Code} {T T' : State} {locs : List Loc} {cells slots : Nat} {Q : Option Value → Heap → List Loc → Prop} {K N pc n t : Nat} {Ls l' : Array Slot} {st rest : List Value} {Z : State} {a0 : Array Value} {h : Heap}
/-- the walk stands at the frame g over T and comes to an end that Q allows -/
def Go (p : Program) (e : Env) (below : List Frame) (s : State) (Q : Option Value → Heap → List Loc → Prop) (K N : Nat) (T : State) (g : JFrame) : Prop :=
  ∃ s₂ o, Steps p.tables e below (T.setTop g) s₂ ∧ s₂.status = .running ∧ Ended s₂ below o ∧ ∃ v L, o = .returned v ∧ Q v s₂.heap L ∧ FrameEnd s o s₂ L K N
theorem cut {A B : Prop} (h1 : A → B) (h2 : A) : B := h1 h2
theorem go {g g' : JFrame} (h : ∀ target, Steps p.tables e below (T'.setTop g') target → Steps p.tables e below (T.setTop g) target) (F : Go p e below s Q K N T' g') : Go p e below s Q K N T g := by
  obtain ⟨s₂, o, h1, r⟩ := F
  exact ⟨s₂, o, h _ h1, r⟩
/-- a boolean as an int -/
def b (P : Prop) [Decidable P] : Int32 := if P then 1 else 0
theorem b_t {P : Prop} [Decidable P] (h : P) : b P = 1 := if_pos h
theorem b_f {P : Prop} [Decidable P] (h : ¬ P) : b P = 0 := if_neg h
theorem b_iff {P P' : Prop} [Decidable P] [Decidable P'] (h : P ↔ P') : b P = b P' := by
  by_cases q : P
  · rw [b_t q, b_t (h.mp q)]
  · rw [b_f q, b_f (fun z => q (h.mpr z))]
theorem b_inj {P P' : Prop} [Decidable P] [Decidable P'] (h : b P = b P') : P ↔ P' := by
  by_cases q : P <;> by_cases q' : P' <;> simp_all [b]
/-- a mask with one more bit, or as it is -/
def ob (P : Prop) [Decidable P] (k x : Int32) : Int32 := if P then x ||| k else x
theorem ob_t {P : Prop} [Decidable P] {k x : Int32} (h : P) : ob P k x = x ||| k := if_pos h
theorem ob_f {P : Prop} [Decidable P] {k x : Int32} (h : ¬ P) : ob P k x = x := if_neg h
theorem goB1 {P : Prop} [Decidable P] (H : Go p e below s Q K N T (mkF m pc Ls (.int (b P) :: st))) (hP : P) : Go p e below s Q K N T (mkF m pc Ls (.int 1 :: st)) := by rw [b_t hP] at H; exact H
theorem goB0 {P : Prop} [Decidable P] (H : Go p e below s Q K N T (mkF m pc Ls (.int (b P) :: st))) (hP : ¬ P) : Go p e below s Q K N T (mkF m pc Ls (.int 0 :: st)) := by rw [b_f hP] at H; exact H

theorem iloadN (X : Stand p l e R s m args below meth c T locs cells slots) (hx : p.tables.exec = Jvm.exec) {k : Fin 4} {v : Int32} (hd : decode c.code pc = .ok (.iload_n k, 1)) (hl : Ls[k.val]? = some (.val (.int v))) (hn : pc + 1 = n) (F : Go p e below s Q K N T (mkF m n Ls (.int v :: st))) : Go p e below s Q K N T (mkF m pc Ls st) := by
  subst hn
  exact go (fun _ h => XS.iloadN X.here hx rfl hd hl h) F
theorem iload (X : Stand p l e R s m args below meth c T locs cells slots) (hx : p.tables.exec = Jvm.exec) {k : Nat} {v : Int32} (hd : decode c.code pc = .ok (.iload k, 2)) (hl : Ls[k]? = some (.val (.int v))) (hn : pc + 2 = n) (F : Go p e below s Q K N T (mkF m n Ls (.int v :: st))) : Go p e below s Q K N T (mkF m pc Ls st) := by
  subst hn
  exact go (fun _ h => XS.iload X.here hx rfl hd hl h) F
theorem aloadN (X : Stand p l e R s m args below meth c T locs cells slots) (hx : p.tables.exec = Jvm.exec) {k : Fin 4} {v : Value} (hd : decode c.code pc = .ok (.aload_n k, 1)) (hl : Ls[k.val]? = some (.val v)) (hv : v.isRef = true) (hn : pc + 1 = n) (F : Go p e below s Q K N T (mkF m n Ls (v :: st))) : Go p e below s Q K N T (mkF m pc Ls st) := by
  subst hn
  exact go (fun _ h => XS.aloadN X.here hx rfl hd hl hv h) F
theorem aload (X : Stand p l e R s m args below meth c T locs cells slots) (hx : p.tables.exec = Jvm.exec) {k : Nat} {v : Value} (hd : decode c.code pc = .ok (.aload k, 2)) (hl : Ls[k]? = some (.val v)) (hv : v.isRef = true) (hn : pc + 2 = n) (F : Go p e below s Q K N T (mkF m n Ls (v :: st))) : Go p e below s Q K N T (mkF m pc Ls st) := by
  subst hn
  exact go (fun _ h => XS.aload X.here hx rfl hd hl hv h) F
theorem lloadN (X : Stand p l e R s m args below meth c T locs cells slots) (hx : p.tables.exec = Jvm.exec) {k : Fin 4} {v : Int64} (hd : decode c.code pc = .ok (.lload_n k, 1)) (hl : Ls[k.val]? = some (.val (.long v))) (hn : pc + 1 = n) (F : Go p e below s Q K N T (mkF m n Ls (.long v :: st))) : Go p e below s Q K N T (mkF m pc Ls st) := by
  subst hn
  exact go (fun _ h => XT.lloadN X.here hx rfl hd hl h) F
theorem lload (X : Stand p l e R s m args below meth c T locs cells slots) (hx : p.tables.exec = Jvm.exec) {k : Nat} {v : Int64} (hd : decode c.code pc = .ok (.lload k, 2)) (hl : Ls[k]? = some (.val (.long v))) (hn : pc + 2 = n) (F : Go p e below s Q K N T (mkF m n Ls (.long v :: st))) : Go p e below s Q K N T (mkF m pc Ls st) := by
  subst hn
  exact go (fun _ h => XT.lload X.here hx rfl hd hl h) F
theorem istoreN (X : Stand p l e R s m args below meth c T locs cells slots) (hx : p.tables.exec = Jvm.exec) {k : Fin 4} {x : Int32} (hd : decode c.code pc = .ok (.istore_n k, 1)) (hl : storeLocals Ls k.val (.int x) = some l') (hn : pc + 1 = n) (F : Go p e below s Q K N T (mkF m n l' st)) : Go p e below s Q K N T (mkF m pc Ls (.int x :: st)) := by
  subst hn
  exact go (fun _ h => XS.istoreN X.here hx rfl hd rfl hl h) F
theorem istore (X : Stand p l e R s m args below meth c T locs cells slots) (hx : p.tables.exec = Jvm.exec) {k : Nat} {x : Int32} (hd : decode c.code pc = .ok (.istore k, 2)) (hl : storeLocals Ls k (.int x) = some l') (hn : pc + 2 = n) (F : Go p e below s Q K N T (mkF m n l' st)) : Go p e below s Q K N T (mkF m pc Ls (.int x :: st)) := by
  subst hn
  exact go (fun _ h => XS.istore X.here hx rfl hd rfl hl h) F
theorem astoreN (X : Stand p l e R s m args below meth c T locs cells slots) (hx : p.tables.exec = Jvm.exec) {k : Fin 4} {x : Value} (hd : decode c.code pc = .ok (.astore_n k, 1)) (hv : x.isRef = true) (hl : storeLocals Ls k.val x = some l') (hn : pc + 1 = n) (F : Go p e below s Q K N T (mkF m n l' st)) : Go p e below s Q K N T (mkF m pc Ls (x :: st)) := by
  subst hn
  exact go (fun _ h => XS.astoreN X.here hx rfl hd rfl hv hl h) F
theorem astore (X : Stand p l e R s m args below meth c T locs cells slots) (hx : p.tables.exec = Jvm.exec) {k : Nat} {x : Value} (hd : decode c.code pc = .ok (.astore k, 2)) (hv : x.isRef = true) (hl : storeLocals Ls k x = some l') (hn : pc + 2 = n) (F : Go p e below s Q K N T (mkF m n l' st)) : Go p e below s Q K N T (mkF m pc Ls (x :: st)) := by
  subst hn
  exact go (fun _ h => XS.astore X.here hx rfl hd rfl hv hl h) F
theorem lstoreN (X : Stand p l e R s m args below meth c T locs cells slots) (hx : p.tables.exec = Jvm.exec) {k : Fin 4} {x : Int64} (hd : decode c.code pc = .ok (.lstore_n k, 1)) (hl : storeLocals Ls k.val (.long x) = some l') (hn : pc + 1 = n) (F : Go p e below s Q K N T (mkF m n l' st)) : Go p e below s Q K N T (mkF m pc Ls (.long x :: st)) := by
  subst hn
  exact go (fun _ h => XT.lstoreN X.here hx rfl hd rfl hl h) F
theorem lstore (X : Stand p l e R s m args below meth c T locs cells slots) (hx : p.tables.exec = Jvm.exec) {k : Nat} {x : Int64} (hd : decode c.code pc = .ok (.lstore k, 2)) (hl : storeLocals Ls k (.long x) = some l') (hn : pc + 2 = n) (F : Go p e below s Q K N T (mkF m n l' st)) : Go p e below s Q K N T (mkF m pc Ls (.long x :: st)) := by
  subst hn
  exact go (fun _ h => XT.lstore X.here hx rfl hd rfl hl h) F
theorem iinc (X : Stand p l e R s m args below meth c T locs cells slots) (hx : p.tables.exec = Jvm.exec) {k : Nat} {cst : Int} {x : Int32} (v : Int32) (hd : decode c.code pc = .ok (.iinc k cst, 3)) (hv : Int32.ofInt cst = v) (hl : Ls[k]? = some (.val (.int x))) (hl' : storeLocals Ls k (.int (x + v)) = some l') (hn : pc + 3 = n) (F : Go p e below s Q K N T (mkF m n l' st)) : Go p e below s Q K N T (mkF m pc Ls st) := by
  subst hn
  exact go (fun _ h => XT.iincV X.here hx rfl v hd hv hl hl' h) F
theorem iconst (X : Stand p l e R s m args below meth c T locs cells slots) (hx : p.tables.exec = Jvm.exec) {i : Int} (v : Int32) (hd : decode c.code pc = .ok (.iconst i, 1)) (hv : Int32.ofInt i = v) (hn : pc + 1 = n) (F : Go p e below s Q K N T (mkF m n Ls (.int v :: st))) : Go p e below s Q K N T (mkF m pc Ls st) := by
  subst hn
  exact go (fun _ h => XT.iconstV X.here hx rfl v hd hv h) F
theorem bipush (X : Stand p l e R s m args below meth c T locs cells slots) (hx : p.tables.exec = Jvm.exec) {i : Int} (v : Int32) (hd : decode c.code pc = .ok (.bipush i, 2)) (hv : (Int8.ofInt i).toInt32 = v) (hn : pc + 2 = n) (F : Go p e below s Q K N T (mkF m n Ls (.int v :: st))) : Go p e below s Q K N T (mkF m pc Ls st) := by
  subst hn
  exact go (fun _ h => XT.bipushV X.here hx rfl v hd hv h) F
theorem sipush (X : Stand p l e R s m args below meth c T locs cells slots) (hx : p.tables.exec = Jvm.exec) {i : Int} (v : Int32) (hd : decode c.code pc = .ok (.sipush i, 3)) (hv : (Int16.ofInt i).toInt32 = v) (hn : pc + 3 = n) (F : Go p e below s Q K N T (mkF m n Ls (.int v :: st))) : Go p e below s Q K N T (mkF m pc Ls st) := by
  subst hn
  exact go (fun _ h => XT.sipushV X.here hx rfl v hd hv h) F
theorem lconst (X : Stand p l e R s m args below meth c T locs cells slots) (hx : p.tables.exec = Jvm.exec) {k : Fin 2} (v : Int64) (hd : decode c.code pc = .ok (.lconst k, 1)) (hv : Int64.ofNat k = v) (hn : pc + 1 = n) (F : Go p e below s Q K N T (mkF m n Ls (.long v :: st))) : Go p e below s Q K N T (mkF m pc Ls st) := by
  subst hn
  exact go (fun _ h => XT.lconstV X.here hx rfl v hd hv h) F
theorem anull (X : Stand p l e R s m args below meth c T locs cells slots) (hx : p.tables.exec = Jvm.exec)  (hd : decode c.code pc = .ok (.aconst_null, 1)) (hn : pc + 1 = n) (F : Go p e below s Q K N T (mkF m n Ls (.null :: st))) : Go p e below s Q K N T (mkF m pc Ls st) := by
  subst hn
  exact go (fun _ h => XS.aconstNull X.here hx rfl hd h) F
theorem ldcI (X : Stand p l e R s m args below meth c T locs cells slots) (hx : p.tables.exec = Jvm.exec) {own : String} {index : Nat} {v : Int32} (hZ : Z.Warmed39 s.vm) (hown : s.vm.findClass own = some m.cls) (wd : (Cond.constant own index v).before a0 Z = true) (hd : decode c.code pc = .ok (.ldc index, 2)) (hn : pc + 2 = n) (F : Go p e below s Q K N T (mkF m n Ls (.int v :: st))) : Go p e below s Q K N T (mkF m pc Ls st) := by
  subst hn
  exact go (fun _ h => X.ldcInt hx hown (mvT hZ wd) (g := mkF m pc Ls st) rfl hd _ h) F
theorem ldcW (X : Stand p l e R s m args below meth c T locs cells slots) (hx : p.tables.exec = Jvm.exec) {own : String} {index : Nat} {v : Int32} (hZ : Z.Warmed39 s.vm) (hown : s.vm.findClass own = some m.cls) (wd : (Cond.constant own index v).before a0 Z = true) (hd : decode c.code pc = .ok (.ldc_w index, 3)) (hn : pc + 3 = n) (F : Go p e below s Q K N T (mkF m n Ls (.int v :: st))) : Go p e below s Q K N T (mkF m pc Ls st) := by
  subst hn
  exact go (fun _ h => X.ldcwInt hx hown (mvT hZ wd) (g := mkF m pc Ls st) rfl hd _ h) F
theorem ldcJ (X : Stand p l e R s m args below meth c T locs cells slots) (hx : p.tables.exec = Jvm.exec) {own : String} {index : Nat} {v : Int64} (hZ : Z.Warmed39 s.vm) (hown : s.vm.findClass own = some m.cls) (wd : (Cond.constantLong own index v).before a0 Z = true) (hd : decode c.code pc = .ok (.ldc2_w index, 3)) (hn : pc + 3 = n) (F : Go p e below s Q K N T (mkF m n Ls (.long v :: st))) : Go p e below s Q K N T (mkF m pc Ls st) := by
  subst hn
  exact go (fun _ h => X.ldc2Long hx hown (mvT hZ wd) (g := mkF m pc Ls st) rfl hd _ h) F
theorem iadd (X : Stand p l e R s m args below meth c T locs cells slots) (hx : p.tables.exec = Jvm.exec) {x y : Int32} (hd : decode c.code pc = .ok (.iadd, 1)) (hn : pc + 1 = n) (F : Go p e below s Q K N T (mkF m n Ls (.int (x + y) :: st))) : Go p e below s Q K N T (mkF m pc Ls (.int y :: .int x :: st)) := by
  subst hn
  exact go (fun _ h => XS.iadd X.here hx rfl hd rfl h) F
theorem isub (X : Stand p l e R s m args below meth c T locs cells slots) (hx : p.tables.exec = Jvm.exec) {x y : Int32} (hd : decode c.code pc = .ok (.isub, 1)) (hn : pc + 1 = n) (F : Go p e below s Q K N T (mkF m n Ls (.int (x - y) :: st))) : Go p e below s Q K N T (mkF m pc Ls (.int y :: .int x :: st)) := by
  subst hn
  exact go (fun _ h => XS.isub X.here hx rfl hd rfl h) F
theorem iand (X : Stand p l e R s m args below meth c T locs cells slots) (hx : p.tables.exec = Jvm.exec) {x y : Int32} (hd : decode c.code pc = .ok (.iand, 1)) (hn : pc + 1 = n) (F : Go p e below s Q K N T (mkF m n Ls (.int (x &&& y) :: st))) : Go p e below s Q K N T (mkF m pc Ls (.int y :: .int x :: st)) := by
  subst hn
  exact go (fun _ h => XS.iand X.here hx rfl hd rfl h) F
theorem imul (X : Stand p l e R s m args below meth c T locs cells slots) (hx : p.tables.exec = Jvm.exec) {x y : Int32} (hd : decode c.code pc = .ok (.imul, 1)) (hn : pc + 1 = n) (F : Go p e below s Q K N T (mkF m n Ls (.int (x * y) :: st))) : Go p e below s Q K N T (mkF m pc Ls (.int y :: .int x :: st)) := by
  subst hn
  exact go (fun _ h => XS.imul X.here hx rfl hd rfl h) F
theorem ixor (X : Stand p l e R s m args below meth c T locs cells slots) (hx : p.tables.exec = Jvm.exec) {x y : Int32} (hd : decode c.code pc = .ok (.ixor, 1)) (hn : pc + 1 = n) (F : Go p e below s Q K N T (mkF m n Ls (.int (x ^^^ y) :: st))) : Go p e below s Q K N T (mkF m pc Ls (.int y :: .int x :: st)) := by
  subst hn
  exact go (fun _ h => XT.ixor X.here hx rfl hd rfl h) F
theorem ior (X : Stand p l e R s m args below meth c T locs cells slots) (hx : p.tables.exec = Jvm.exec) {x y : Int32} (hd : decode c.code pc = .ok (.ior, 1)) (hn : pc + 1 = n) (F : Go p e below s Q K N T (mkF m n Ls (.int (x ||| y) :: st))) : Go p e below s Q K N T (mkF m pc Ls (.int y :: .int x :: st)) := by
  subst hn
  exact go (fun _ h => XT.ior X.here hx rfl hd rfl h) F
theorem i2c (X : Stand p l e R s m args below meth c T locs cells slots) (hx : p.tables.exec = Jvm.exec) {x : Int32} (hd : decode c.code pc = .ok (.i2c, 1)) (hn : pc + 1 = n) (F : Go p e below s Q K N T (mkF m n Ls (.int x.toUInt32.toUInt16.toUInt32.toInt32 :: st))) : Go p e below s Q K N T (mkF m pc Ls (.int x :: st)) := by
  subst hn
  exact go (fun _ h => XT.i2c X.here hx rfl hd rfl h) F
theorem i2b (X : Stand p l e R s m args below meth c T locs cells slots) (hx : p.tables.exec = Jvm.exec) {x : Int32} (hd : decode c.code pc = .ok (.i2b, 1)) (hn : pc + 1 = n) (F : Go p e below s Q K N T (mkF m n Ls (.int x.toInt8.toInt32 :: st))) : Go p e below s Q K N T (mkF m pc Ls (.int x :: st)) := by
  subst hn
  exact go (fun _ h => XT.i2b X.here hx rfl hd rfl h) F
theorem i2l (X : Stand p l e R s m args below meth c T locs cells slots) (hx : p.tables.exec = Jvm.exec) {x : Int32} (hd : decode c.code pc = .ok (.i2l, 1)) (hn : pc + 1 = n) (F : Go p e below s Q K N T (mkF m n Ls (.long x.toInt64 :: st))) : Go p e below s Q K N T (mkF m pc Ls (.int x :: st)) := by
  subst hn
  exact go (fun _ h => XT.i2l X.here hx rfl hd rfl h) F
theorem l2i (X : Stand p l e R s m args below meth c T locs cells slots) (hx : p.tables.exec = Jvm.exec) {x : Int64} (hd : decode c.code pc = .ok (.l2i, 1)) (hn : pc + 1 = n) (F : Go p e below s Q K N T (mkF m n Ls (.int x.toInt32 :: st))) : Go p e below s Q K N T (mkF m pc Ls (.long x :: st)) := by
  subst hn
  exact go (fun _ h => XT.l2i X.here hx rfl hd rfl h) F
theorem ladd (X : Stand p l e R s m args below meth c T locs cells slots) (hx : p.tables.exec = Jvm.exec) {x y : Int64} (hd : decode c.code pc = .ok (.ladd, 1)) (hn : pc + 1 = n) (F : Go p e below s Q K N T (mkF m n Ls (.long (x + y) :: st))) : Go p e below s Q K N T (mkF m pc Ls (.long y :: .long x :: st)) := by
  subst hn
  exact go (fun _ h => XT.ladd X.here hx rfl hd rfl h) F
theorem lsub (X : Stand p l e R s m args below meth c T locs cells slots) (hx : p.tables.exec = Jvm.exec) {x y : Int64} (hd : decode c.code pc = .ok (.lsub, 1)) (hn : pc + 1 = n) (F : Go p e below s Q K N T (mkF m n Ls (.long (x - y) :: st))) : Go p e below s Q K N T (mkF m pc Ls (.long y :: .long x :: st)) := by
  subst hn
  exact go (fun _ h => XT.lsub X.here hx rfl hd rfl h) F
theorem lmul (X : Stand p l e R s m args below meth c T locs cells slots) (hx : p.tables.exec = Jvm.exec) {x y : Int64} (hd : decode c.code pc = .ok (.lmul, 1)) (hn : pc + 1 = n) (F : Go p e below s Q K N T (mkF m n Ls (.long (x * y) :: st))) : Go p e below s Q K N T (mkF m pc Ls (.long y :: .long x :: st)) := by
  subst hn
  exact go (fun _ h => XT.lmul X.here hx rfl hd rfl h) F
theorem land (X : Stand p l e R s m args below meth c T locs cells slots) (hx : p.tables.exec = Jvm.exec) {x y : Int64} (hd : decode c.code pc = .ok (.land, 1)) (hn : pc + 1 = n) (F : Go p e below s Q K N T (mkF m n Ls (.long (x &&& y) :: st))) : Go p e below s Q K N T (mkF m pc Ls (.long y :: .long x :: st)) := by
  subst hn
  exact go (fun _ h => XT.land X.here hx rfl hd rfl h) F
theorem lor (X : Stand p l e R s m args below meth c T locs cells slots) (hx : p.tables.exec = Jvm.exec) {x y : Int64} (hd : decode c.code pc = .ok (.lor, 1)) (hn : pc + 1 = n) (F : Go p e below s Q K N T (mkF m n Ls (.long (x ||| y) :: st))) : Go p e below s Q K N T (mkF m pc Ls (.long y :: .long x :: st)) := by
  subst hn
  exact go (fun _ h => XT.lor X.here hx rfl hd rfl h) F
theorem lxor (X : Stand p l e R s m args below meth c T locs cells slots) (hx : p.tables.exec = Jvm.exec) {x y : Int64} (hd : decode c.code pc = .ok (.lxor, 1)) (hn : pc + 1 = n) (F : Go p e below s Q K N T (mkF m n Ls (.long (x ^^^ y) :: st))) : Go p e below s Q K N T (mkF m pc Ls (.long y :: .long x :: st)) := by
  subst hn
  exact go (fun _ h => XT.lxor X.here hx rfl hd rfl h) F
theorem irem (X : Stand p l e R s m args below meth c T locs cells slots) (hx : p.tables.exec = Jvm.exec) {x y : Int32} (hd : decode c.code pc = .ok (.irem, 1)) (hy : y ≠ 0) (hn : pc + 1 = n) (F : Go p e below s Q K N T (mkF m n Ls (.int (x % y) :: st))) : Go p e below s Q K N T (mkF m pc Ls (.int y :: .int x :: st)) := by
  subst hn
  exact go (fun _ h => iremM X hx rfl hd rfl hy h) F
theorem idiv (X : Stand p l e R s m args below meth c T locs cells slots) (hx : p.tables.exec = Jvm.exec) {x y : Int32} (hd : decode c.code pc = .ok (.idiv, 1)) (hy : y ≠ 0) (hn : pc + 1 = n) (F : Go p e below s Q K N T (mkF m n Ls (.int (x / y) :: st))) : Go p e below s Q K N T (mkF m pc Ls (.int y :: .int x :: st)) := by
  subst hn
  exact go (fun _ h => XS.idiv X.here hx rfl hd rfl hy h) F
theorem dup (X : Stand p l e R s m args below meth c T locs cells slots) (hx : p.tables.exec = Jvm.exec) {x : Value} (hd : decode c.code pc = .ok (.dup, 1)) (hc : x.category = 1) (hn : pc + 1 = n) (F : Go p e below s Q K N T (mkF m n Ls (x :: x :: st))) : Go p e below s Q K N T (mkF m pc Ls (x :: st)) := by
  subst hn
  exact go (fun _ h => XS.dup X.here hx rfl hd rfl hc h) F
theorem pop (X : Stand p l e R s m args below meth c T locs cells slots) (hx : p.tables.exec = Jvm.exec) {x : Value} (hd : decode c.code pc = .ok (.pop, 1)) (hc : x.category = 1) (hn : pc + 1 = n) (F : Go p e below s Q K N T (mkF m n Ls st)) : Go p e below s Q K N T (mkF m pc Ls (x :: st)) := by
  subst hn
  exact go (fun _ h => XT.pop X.here hx rfl hd rfl hc h) F
theorem pop2L (X : Stand p l e R s m args below meth c T locs cells slots) (hx : p.tables.exec = Jvm.exec) {x : Int64} (hd : decode c.code pc = .ok (.pop2, 1)) (hn : pc + 1 = n) (F : Go p e below s Q K N T (mkF m n Ls st)) : Go p e below s Q K N T (mkF m pc Ls (.long x :: st)) := by
  subst hn
  refine go (fun _ h => ?_) F
  have ht := X.here
  jvm_step ht [ht.top, hx, hd, Value.category]
  exact h
theorem lshl (X : Stand p l e R s m args below meth c T locs cells slots) (hx : p.tables.exec = Jvm.exec) {x : Int64} {y : Int32} (hd : decode c.code pc = .ok (.lshl, 1)) (hn : pc + 1 = n) (F : Go p e below s Q K N T (mkF m n Ls (.long (x <<< (y.toInt64 &&& 63)) :: st))) : Go p e below s Q K N T (mkF m pc Ls (.int y :: .long x :: st)) := by
  subst hn
  exact go (fun _ h => XT.lshl X.here hx rfl hd rfl h) F
theorem lushr (X : Stand p l e R s m args below meth c T locs cells slots) (hx : p.tables.exec = Jvm.exec) {x : Int64} {y : Int32} (hd : decode c.code pc = .ok (.lushr, 1)) (hn : pc + 1 = n) (F : Go p e below s Q K N T (mkF m n Ls (.long (XT.ushrL x y) :: st))) : Go p e below s Q K N T (mkF m pc Ls (.int y :: .long x :: st)) := by
  subst hn
  exact go (fun _ h => XT.lushr X.here hx rfl hd rfl h) F
theorem iushr (X : Stand p l e R s m args below meth c T locs cells slots) (hx : p.tables.exec = Jvm.exec) {x y : Int32} (hd : decode c.code pc = .ok (.iushr, 1)) (hn : pc + 1 = n) (F : Go p e below s Q K N T (mkF m n Ls (.int (XT.ushr x y) :: st))) : Go p e below s Q K N T (mkF m pc Ls (.int y :: .int x :: st)) := by
  subst hn
  exact go (fun _ h => XT.iushr X.here hx rfl hd rfl h) F
theorem ishr (X : Stand p l e R s m args below meth c T locs cells slots) (hx : p.tables.exec = Jvm.exec) {x y : Int32} (hd : decode c.code pc = .ok (.ishr, 1)) (hn : pc + 1 = n) (F : Go p e below s Q K N T (mkF m n Ls (.int (x >>> (y &&& 31)) :: st))) : Go p e below s Q K N T (mkF m pc Ls (.int y :: .int x :: st)) := by
  subst hn
  exact go (fun _ h => XT.ishr X.here hx rfl hd rfl h) F
theorem ishl (X : Stand p l e R s m args below meth c T locs cells slots) (hx : p.tables.exec = Jvm.exec) {x y : Int32} (hd : decode c.code pc = .ok (.ishl, 1)) (hn : pc + 1 = n) (F : Go p e below s Q K N T (mkF m n Ls (.int (x <<< (y &&& 31)) :: st))) : Go p e below s Q K N T (mkF m pc Ls (.int y :: .int x :: st)) := by
  subst hn
  exact go (fun _ h => XT.ishl X.here hx rfl hd rfl h) F
theorem i2s (X : Stand p l e R s m args below meth c T locs cells slots) (hx : p.tables.exec = Jvm.exec) {x : Int32} (hd : decode c.code pc = .ok (.i2s, 1)) (hn : pc + 1 = n) (F : Go p e below s Q K N T (mkF m n Ls (.int x.toInt16.toInt32 :: st))) : Go p e below s Q K N T (mkF m pc Ls (.int x :: st)) := by
  subst hn
  exact go (fun _ h => XT.i2s X.here hx rfl hd rfl h) F
theorem goto (X : Stand p l e R s m args below meth c T locs cells slots) (hx : p.tables.exec = Jvm.exec) {o : Int} (t : Nat) (hd : decode c.code pc = .ok (.goto o, 3)) (ht : (pc : Int) + o = t) (F : Go p e below s Q K N T (mkF m t Ls st)) : Go p e below s Q K N T (mkF m pc Ls st) := go (fun _ h => XS.goto X.here hx rfl (pc0 := pc) (pc' := t) rfl hd (by rw [ht]; exact Int.natCast_nonneg _) (by rw [ht]; rfl) h) F
theorem holds_t {cd : ClassFile.Cond} {x y : Int32} : if_icmp.holds cd x y = true ↔ match cd with | .eq => x.toInt = y.toInt | .ne => ¬ x.toInt = y.toInt | .lt => x.toInt < y.toInt | .ge => y.toInt ≤ x.toInt | .gt => y.toInt < x.toInt | .le => x.toInt ≤ y.toInt := by
  cases cd <;> simp [if_icmp.holds, Int32.lt_iff_toInt_lt, Int32.le_iff_toInt_le, Int32.toInt_inj]
theorem icmp (X : Stand p l e R s m args below meth c T locs cells slots) (hx : p.tables.exec = Jvm.exec) {cd : ClassFile.Cond} {x y : Int32} {o : Int} (hd : decode c.code pc = .ok (.if_icmp cd o, 3)) (ht : (pc : Int) + o = t) (hn : pc + 3 = n) (FT : if_icmp.holds cd x y = true → Go p e below s Q K N T (mkF m t Ls rest)) (FF : ¬ if_icmp.holds cd x y = true → Go p e below s Q K N T (mkF m n Ls rest)) : Go p e below s Q K N T (mkF m pc Ls (.int y :: .int x :: rest)) := by
  subst hn
  by_cases q : if_icmp.holds cd x y = true
  · exact go (fun _ h => XS.icmpYes X.here hx rfl (pc0 := pc) (pc' := t) rfl hd rfl q (by rw [ht]; exact Int.natCast_nonneg _) (by rw [ht]; rfl) h) (FT q)
  · exact go (fun _ h => XS.icmpNo X.here hx rfl hd rfl (by simpa using q) h) (FF q)
theorem ifc (X : Stand p l e R s m args below meth c T locs cells slots) (hx : p.tables.exec = Jvm.exec) {cd : ClassFile.Cond} {x : Int32} {o : Int} (hd : decode c.code pc = .ok (.ifCond cd o, 3)) (ht : (pc : Int) + o = t) (hn : pc + 3 = n) (FT : if_icmp.holds cd x 0 = true → Go p e below s Q K N T (mkF m t Ls rest)) (FF : ¬ if_icmp.holds cd x 0 = true → Go p e below s Q K N T (mkF m n Ls rest)) : Go p e below s Q K N T (mkF m pc Ls (.int x :: rest)) := by
  subst hn
  by_cases q : if_icmp.holds cd x 0 = true
  · exact go (fun _ h => XS.ifYes X.here hx rfl (pc0 := pc) (pc' := t) rfl hd rfl ((if0 _ _).trans q) (by rw [ht]; exact Int.natCast_nonneg _) (by rw [ht]; rfl) h) (FT q)
  · exact go (fun _ h => XS.ifNo X.here hx rfl hd rfl ((if0 _ _).trans (by simpa using q)) h) (FF q)
theorem icmp_eq (X : Stand p l e R s m args below meth c T locs cells slots) (hx : p.tables.exec = Jvm.exec) {x y : Int32} {o : Int} (t n : Nat) (hd : decode c.code pc = .ok (.if_icmp .eq o, 3)) (ht : (pc : Int) + o = t) (hn : pc + 3 = n) {a b' : Int} (ha : x.toInt = a) (hb : y.toInt = b') (FT : a = b' → Go p e below s Q K N T (mkF m t Ls rest)) (FF : ¬ a = b' → Go p e below s Q K N T (mkF m n Ls rest)) : Go p e below s Q K N T (mkF m pc Ls (.int y :: .int x :: rest)) := by
  subst ha hb
  exact icmp X hx hd ht hn (fun q => FT (holds_t.mp q)) (fun q => FF (by have := mt holds_t.mpr q; first | exact this | exact Int.not_lt.mp this | exact Int.not_le.mp this | exact Classical.not_not.mp this))
theorem if_eq (X : Stand p l e R s m args below meth c T locs cells slots) (hx : p.tables.exec = Jvm.exec) {x : Int32} {o : Int} (t n : Nat) (hd : decode c.code pc = .ok (.ifCond .eq o, 3)) (ht : (pc : Int) + o = t) (hn : pc + 3 = n) {a : Int} (ha : x.toInt = a) (FT : a = 0 → Go p e below s Q K N T (mkF m t Ls rest)) (FF : ¬ a = 0 → Go p e below s Q K N T (mkF m n Ls rest)) : Go p e below s Q K N T (mkF m pc Ls (.int x :: rest)) := by
  subst ha
  exact ifc X hx hd ht hn (fun q => FT (holds_t.mp q)) (fun q => FF (by have := mt holds_t.mpr q; first | exact this | exact Int.not_lt.mp this | exact Int.not_le.mp this | exact Classical.not_not.mp this))
theorem icmp_ne (X : Stand p l e R s m args below meth c T locs cells slots) (hx : p.tables.exec = Jvm.exec) {x y : Int32} {o : Int} (t n : Nat) (hd : decode c.code pc = .ok (.if_icmp .ne o, 3)) (ht : (pc : Int) + o = t) (hn : pc + 3 = n) {a b' : Int} (ha : x.toInt = a) (hb : y.toInt = b') (FT : ¬ a = b' → Go p e below s Q K N T (mkF m t Ls rest)) (FF : a = b' → Go p e below s Q K N T (mkF m n Ls rest)) : Go p e below s Q K N T (mkF m pc Ls (.int y :: .int x :: rest)) := by
  subst ha hb
  exact icmp X hx hd ht hn (fun q => FT (holds_t.mp q)) (fun q => FF (by have := mt holds_t.mpr q; first | exact this | exact Int.not_lt.mp this | exact Int.not_le.mp this | exact Classical.not_not.mp this))
theorem if_ne (X : Stand p l e R s m args below meth c T locs cells slots) (hx : p.tables.exec = Jvm.exec) {x : Int32} {o : Int} (t n : Nat) (hd : decode c.code pc = .ok (.ifCond .ne o, 3)) (ht : (pc : Int) + o = t) (hn : pc + 3 = n) {a : Int} (ha : x.toInt = a) (FT : ¬ a = 0 → Go p e below s Q K N T (mkF m t Ls rest)) (FF : a = 0 → Go p e below s Q K N T (mkF m n Ls rest)) : Go p e below s Q K N T (mkF m pc Ls (.int x :: rest)) := by
  subst ha
  exact ifc X hx hd ht hn (fun q => FT (holds_t.mp q)) (fun q => FF (by have := mt holds_t.mpr q; first | exact this | exact Int.not_lt.mp this | exact Int.not_le.mp this | exact Classical.not_not.mp this))
theorem icmp_lt (X : Stand p l e R s m args below meth c T locs cells slots) (hx : p.tables.exec = Jvm.exec) {x y : Int32} {o : Int} (t n : Nat) (hd : decode c.code pc = .ok (.if_icmp .lt o, 3)) (ht : (pc : Int) + o = t) (hn : pc + 3 = n) {a b' : Int} (ha : x.toInt = a) (hb : y.toInt = b') (FT : a < b' → Go p e below s Q K N T (mkF m t Ls rest)) (FF : b' ≤ a → Go p e below s Q K N T (mkF m n Ls rest)) : Go p e below s Q K N T (mkF m pc Ls (.int y :: .int x :: rest)) := by
  subst ha hb
  exact icmp X hx hd ht hn (fun q => FT (holds_t.mp q)) (fun q => FF (by have := mt holds_t.mpr q; first | exact this | exact Int.not_lt.mp this | exact Int.not_le.mp this | exact Classical.not_not.mp this))
theorem if_lt (X : Stand p l e R s m args below meth c T locs cells slots) (hx : p.tables.exec = Jvm.exec) {x : Int32} {o : Int} (t n : Nat) (hd : decode c.code pc = .ok (.ifCond .lt o, 3)) (ht : (pc : Int) + o = t) (hn : pc + 3 = n) {a : Int} (ha : x.toInt = a) (FT : a < 0 → Go p e below s Q K N T (mkF m t Ls rest)) (FF : 0 ≤ a → Go p e below s Q K N T (mkF m n Ls rest)) : Go p e below s Q K N T (mkF m pc Ls (.int x :: rest)) := by
  subst ha
  exact ifc X hx hd ht hn (fun q => FT (holds_t.mp q)) (fun q => FF (by have := mt holds_t.mpr q; first | exact this | exact Int.not_lt.mp this | exact Int.not_le.mp this | exact Classical.not_not.mp this))
theorem icmp_ge (X : Stand p l e R s m args below meth c T locs cells slots) (hx : p.tables.exec = Jvm.exec) {x y : Int32} {o : Int} (t n : Nat) (hd : decode c.code pc = .ok (.if_icmp .ge o, 3)) (ht : (pc : Int) + o = t) (hn : pc + 3 = n) {a b' : Int} (ha : x.toInt = a) (hb : y.toInt = b') (FT : b' ≤ a → Go p e below s Q K N T (mkF m t Ls rest)) (FF : a < b' → Go p e below s Q K N T (mkF m n Ls rest)) : Go p e below s Q K N T (mkF m pc Ls (.int y :: .int x :: rest)) := by
  subst ha hb
  exact icmp X hx hd ht hn (fun q => FT (holds_t.mp q)) (fun q => FF (by have := mt holds_t.mpr q; first | exact this | exact Int.not_lt.mp this | exact Int.not_le.mp this | exact Classical.not_not.mp this))
theorem if_ge (X : Stand p l e R s m args below meth c T locs cells slots) (hx : p.tables.exec = Jvm.exec) {x : Int32} {o : Int} (t n : Nat) (hd : decode c.code pc = .ok (.ifCond .ge o, 3)) (ht : (pc : Int) + o = t) (hn : pc + 3 = n) {a : Int} (ha : x.toInt = a) (FT : 0 ≤ a → Go p e below s Q K N T (mkF m t Ls rest)) (FF : a < 0 → Go p e below s Q K N T (mkF m n Ls rest)) : Go p e below s Q K N T (mkF m pc Ls (.int x :: rest)) := by
  subst ha
  exact ifc X hx hd ht hn (fun q => FT (holds_t.mp q)) (fun q => FF (by have := mt holds_t.mpr q; first | exact this | exact Int.not_lt.mp this | exact Int.not_le.mp this | exact Classical.not_not.mp this))
theorem icmp_gt (X : Stand p l e R s m args below meth c T locs cells slots) (hx : p.tables.exec = Jvm.exec) {x y : Int32} {o : Int} (t n : Nat) (hd : decode c.code pc = .ok (.if_icmp .gt o, 3)) (ht : (pc : Int) + o = t) (hn : pc + 3 = n) {a b' : Int} (ha : x.toInt = a) (hb : y.toInt = b') (FT : b' < a → Go p e below s Q K N T (mkF m t Ls rest)) (FF : a ≤ b' → Go p e below s Q K N T (mkF m n Ls rest)) : Go p e below s Q K N T (mkF m pc Ls (.int y :: .int x :: rest)) := by
  subst ha hb
  exact icmp X hx hd ht hn (fun q => FT (holds_t.mp q)) (fun q => FF (by have := mt holds_t.mpr q; first | exact this | exact Int.not_lt.mp this | exact Int.not_le.mp this | exact Classical.not_not.mp this))
theorem if_gt (X : Stand p l e R s m args below meth c T locs cells slots) (hx : p.tables.exec = Jvm.exec) {x : Int32} {o : Int} (t n : Nat) (hd : decode c.code pc = .ok (.ifCond .gt o, 3)) (ht : (pc : Int) + o = t) (hn : pc + 3 = n) {a : Int} (ha : x.toInt = a) (FT : 0 < a → Go p e below s Q K N T (mkF m t Ls rest)) (FF : a ≤ 0 → Go p e below s Q K N T (mkF m n Ls rest)) : Go p e below s Q K N T (mkF m pc Ls (.int x :: rest)) := by
  subst ha
  exact ifc X hx hd ht hn (fun q => FT (holds_t.mp q)) (fun q => FF (by have := mt holds_t.mpr q; first | exact this | exact Int.not_lt.mp this | exact Int.not_le.mp this | exact Classical.not_not.mp this))
theorem icmp_le (X : Stand p l e R s m args below meth c T locs cells slots) (hx : p.tables.exec = Jvm.exec) {x y : Int32} {o : Int} (t n : Nat) (hd : decode c.code pc = .ok (.if_icmp .le o, 3)) (ht : (pc : Int) + o = t) (hn : pc + 3 = n) {a b' : Int} (ha : x.toInt = a) (hb : y.toInt = b') (FT : a ≤ b' → Go p e below s Q K N T (mkF m t Ls rest)) (FF : b' < a → Go p e below s Q K N T (mkF m n Ls rest)) : Go p e below s Q K N T (mkF m pc Ls (.int y :: .int x :: rest)) := by
  subst ha hb
  exact icmp X hx hd ht hn (fun q => FT (holds_t.mp q)) (fun q => FF (by have := mt holds_t.mpr q; first | exact this | exact Int.not_lt.mp this | exact Int.not_le.mp this | exact Classical.not_not.mp this))
theorem if_le (X : Stand p l e R s m args below meth c T locs cells slots) (hx : p.tables.exec = Jvm.exec) {x : Int32} {o : Int} (t n : Nat) (hd : decode c.code pc = .ok (.ifCond .le o, 3)) (ht : (pc : Int) + o = t) (hn : pc + 3 = n) {a : Int} (ha : x.toInt = a) (FT : a ≤ 0 → Go p e below s Q K N T (mkF m t Ls rest)) (FF : 0 < a → Go p e below s Q K N T (mkF m n Ls rest)) : Go p e below s Q K N T (mkF m pc Ls (.int x :: rest)) := by
  subst ha
  exact ifc X hx hd ht hn (fun q => FT (holds_t.mp q)) (fun q => FF (by have := mt holds_t.mpr q; first | exact this | exact Int.not_lt.mp this | exact Int.not_le.mp this | exact Classical.not_not.mp this))
theorem if_neB (X : Stand p l e R s m args below meth c T locs cells slots) (hx : p.tables.exec = Jvm.exec) {P : Prop} [Decidable P] {o : Int} (t n : Nat) (hd : decode c.code pc = .ok (.ifCond .ne o, 3)) (ht : (pc : Int) + o = t) (hn : pc + 3 = n) (FT : P → Go p e below s Q K N T (mkF m t Ls rest)) (FF : ¬ P → Go p e below s Q K N T (mkF m n Ls rest)) : Go p e below s Q K N T (mkF m pc Ls (.int (b P) :: rest)) := by
  refine ifc X hx hd ht hn (fun q => FT ?_) (fun q => FF ?_)
  · by_cases z : P
    · exact z
    · rw [b_f z] at q; exact absurd q (by decide)
  · intro z; rw [b_t z] at q; exact q (by decide)
theorem if_eqB (X : Stand p l e R s m args below meth c T locs cells slots) (hx : p.tables.exec = Jvm.exec) {P : Prop} [Decidable P] {o : Int} (t n : Nat) (hd : decode c.code pc = .ok (.ifCond .eq o, 3)) (ht : (pc : Int) + o = t) (hn : pc + 3 = n) (FT : ¬ P → Go p e below s Q K N T (mkF m t Ls rest)) (FF : P → Go p e below s Q K N T (mkF m n Ls rest)) : Go p e below s Q K N T (mkF m pc Ls (.int (b P) :: rest)) := by
  refine ifc X hx hd ht hn (fun q => FT ?_) (fun q => FF ?_)
  · intro z; rw [b_t z] at q; exact absurd q (by decide)
  · by_cases z : P
    · exact z
    · rw [b_f z] at q; exact absurd (by decide) q
theorem icmp_neB (X : Stand p l e R s m args below meth c T locs cells slots) (hx : p.tables.exec = Jvm.exec) {P P' : Prop} [Decidable P] [Decidable P'] {o : Int} (t n : Nat) (hd : decode c.code pc = .ok (.if_icmp .ne o, 3)) (ht : (pc : Int) + o = t) (hn : pc + 3 = n) (FT : ¬ (P ↔ P') → Go p e below s Q K N T (mkF m t Ls rest)) (FF : (P ↔ P') → Go p e below s Q K N T (mkF m n Ls rest)) : Go p e below s Q K N T (mkF m pc Ls (.int (b P') :: .int (b P) :: rest)) :=
  icmp_ne X hx t n hd ht hn rfl rfl (fun q => FT fun z => q (by rw [b_iff z])) (fun q => FF (b_inj (Int32.toInt_inj.mp q)))
theorem lcmp (X : Stand p l e R s m args below meth c T locs cells slots) (hx : p.tables.exec = Jvm.exec) {x y : Int64} (hd : decode c.code pc = .ok (.lcmp, 1)) (hn : pc + 1 = n) (F : Go p e below s Q K N T (mkF m n Ls (.int (lcmpW x y) :: st))) : Go p e below s Q K N T (mkF m pc Ls (.long y :: .long x :: st)) := by
  subst hn
  exact go (fun _ h => XT.lcmp X.here hx rfl hd rfl h) F
theorem lc_t {cd : ClassFile.Cond} {x y : Int64} : if_icmp.holds cd (lcmpW x y) 0 = true ↔ match cd with | .eq => x.toInt = y.toInt | .ne => ¬ x.toInt = y.toInt | .lt => x.toInt < y.toInt | .ge => y.toInt ≤ x.toInt | .gt => y.toInt < x.toInt | .le => x.toInt ≤ y.toInt := by
  have hgt : (x > y) ↔ y.toInt < x.toInt := Int64.lt_iff_toInt_lt
  have heq : (x = y) ↔ x.toInt = y.toInt := Int64.toInt_inj.symm
  by_cases q : x > y
  · have := hgt.mp q
    cases cd <;> simp [if_icmp.holds, lcmpW, q] <;> omega
  · have q1 := mt hgt.mpr q
    by_cases r : x = y
    · have := heq.mp r
      cases cd <;> simp [if_icmp.holds, lcmpW, r] 
    · have r1 := mt heq.mpr r
      cases cd <;> simp [if_icmp.holds, lcmpW, q, r] <;> omega
theorem lif_eq (X : Stand p l e R s m args below meth c T locs cells slots) (hx : p.tables.exec = Jvm.exec) {x y : Int64} {o : Int} (t n : Nat) (hd : decode c.code pc = .ok (.ifCond .eq o, 3)) (ht : (pc : Int) + o = t) (hn : pc + 3 = n) {a b' : Int} (ha : x.toInt = a) (hb : y.toInt = b') (FT : a = b' → Go p e below s Q K N T (mkF m t Ls rest)) (FF : ¬ a = b' → Go p e below s Q K N T (mkF m n Ls rest)) : Go p e below s Q K N T (mkF m pc Ls (.int (lcmpW x y) :: rest)) := by
  subst ha hb
  exact ifc X hx hd ht hn (fun q => FT (lc_t.mp q)) (fun q => FF (by have := mt lc_t.mpr q; first | exact this | exact Int.not_lt.mp this | exact Int.not_le.mp this | exact Classical.not_not.mp this))
theorem lif_ne (X : Stand p l e R s m args below meth c T locs cells slots) (hx : p.tables.exec = Jvm.exec) {x y : Int64} {o : Int} (t n : Nat) (hd : decode c.code pc = .ok (.ifCond .ne o, 3)) (ht : (pc : Int) + o = t) (hn : pc + 3 = n) {a b' : Int} (ha : x.toInt = a) (hb : y.toInt = b') (FT : ¬ a = b' → Go p e below s Q K N T (mkF m t Ls rest)) (FF : a = b' → Go p e below s Q K N T (mkF m n Ls rest)) : Go p e below s Q K N T (mkF m pc Ls (.int (lcmpW x y) :: rest)) := by
  subst ha hb
  exact ifc X hx hd ht hn (fun q => FT (lc_t.mp q)) (fun q => FF (by have := mt lc_t.mpr q; first | exact this | exact Int.not_lt.mp this | exact Int.not_le.mp this | exact Classical.not_not.mp this))
theorem lif_lt (X : Stand p l e R s m args below meth c T locs cells slots) (hx : p.tables.exec = Jvm.exec) {x y : Int64} {o : Int} (t n : Nat) (hd : decode c.code pc = .ok (.ifCond .lt o, 3)) (ht : (pc : Int) + o = t) (hn : pc + 3 = n) {a b' : Int} (ha : x.toInt = a) (hb : y.toInt = b') (FT : a < b' → Go p e below s Q K N T (mkF m t Ls rest)) (FF : b' ≤ a → Go p e below s Q K N T (mkF m n Ls rest)) : Go p e below s Q K N T (mkF m pc Ls (.int (lcmpW x y) :: rest)) := by
  subst ha hb
  exact ifc X hx hd ht hn (fun q => FT (lc_t.mp q)) (fun q => FF (by have := mt lc_t.mpr q; first | exact this | exact Int.not_lt.mp this | exact Int.not_le.mp this | exact Classical.not_not.mp this))
theorem lif_ge (X : Stand p l e R s m args below meth c T locs cells slots) (hx : p.tables.exec = Jvm.exec) {x y : Int64} {o : Int} (t n : Nat) (hd : decode c.code pc = .ok (.ifCond .ge o, 3)) (ht : (pc : Int) + o = t) (hn : pc + 3 = n) {a b' : Int} (ha : x.toInt = a) (hb : y.toInt = b') (FT : b' ≤ a → Go p e below s Q K N T (mkF m t Ls rest)) (FF : a < b' → Go p e below s Q K N T (mkF m n Ls rest)) : Go p e below s Q K N T (mkF m pc Ls (.int (lcmpW x y) :: rest)) := by
  subst ha hb
  exact ifc X hx hd ht hn (fun q => FT (lc_t.mp q)) (fun q => FF (by have := mt lc_t.mpr q; first | exact this | exact Int.not_lt.mp this | exact Int.not_le.mp this | exact Classical.not_not.mp this))
theorem lif_gt (X : Stand p l e R s m args below meth c T locs cells slots) (hx : p.tables.exec = Jvm.exec) {x y : Int64} {o : Int} (t n : Nat) (hd : decode c.code pc = .ok (.ifCond .gt o, 3)) (ht : (pc : Int) + o = t) (hn : pc + 3 = n) {a b' : Int} (ha : x.toInt = a) (hb : y.toInt = b') (FT : b' < a → Go p e below s Q K N T (mkF m t Ls rest)) (FF : a ≤ b' → Go p e below s Q K N T (mkF m n Ls rest)) : Go p e below s Q K N T (mkF m pc Ls (.int (lcmpW x y) :: rest)) := by
  subst ha hb
  exact ifc X hx hd ht hn (fun q => FT (lc_t.mp q)) (fun q => FF (by have := mt lc_t.mpr q; first | exact this | exact Int.not_lt.mp this | exact Int.not_le.mp this | exact Classical.not_not.mp this))
theorem lif_le (X : Stand p l e R s m args below meth c T locs cells slots) (hx : p.tables.exec = Jvm.exec) {x y : Int64} {o : Int} (t n : Nat) (hd : decode c.code pc = .ok (.ifCond .le o, 3)) (ht : (pc : Int) + o = t) (hn : pc + 3 = n) {a b' : Int} (ha : x.toInt = a) (hb : y.toInt = b') (FT : a ≤ b' → Go p e below s Q K N T (mkF m t Ls rest)) (FF : b' < a → Go p e below s Q K N T (mkF m n Ls rest)) : Go p e below s Q K N T (mkF m pc Ls (.int (lcmpW x y) :: rest)) := by
  subst ha hb
  exact ifc X hx hd ht hn (fun q => FT (lc_t.mp q)) (fun q => FF (by have := mt lc_t.mpr q; first | exact this | exact Int.not_lt.mp this | exact Int.not_le.mp this | exact Classical.not_not.mp this))
theorem acmp_ne (X : Stand p l e R s m args below meth c T locs cells slots) (hx : p.tables.exec = Jvm.exec) {x y : Value} {o : Int} (t n : Nat) (hd : decode c.code pc = .ok (.if_acmp .ne o, 3)) (ht : (pc : Int) + o = t) (hn : pc + 3 = n) (h1 : x.isRef = true) (h2 : y.isRef = true) (FT : ¬ x = y → Go p e below s Q K N T (mkF m t Ls rest)) (FF : x = y → Go p e below s Q K N T (mkF m n Ls rest)) : Go p e below s Q K N T (mkF m pc Ls (y :: x :: rest)) := by
  subst hn
  by_cases q : x = y
  · exact go (fun _ h => XT.acmpNo X.here hx rfl hd rfl h1 h2 (XT.aa_ne_f q) h) (FF q)
  · exact go (fun _ h => XT.acmpYes X.here hx rfl (pc0 := pc) (pc' := t) rfl hd rfl h1 h2 (XT.aa_ne_t q) (by rw [ht]; exact Int.natCast_nonneg _) (by rw [ht]; rfl) h) (FT q)
theorem acmp_eq (X : Stand p l e R s m args below meth c T locs cells slots) (hx : p.tables.exec = Jvm.exec) {x y : Value} {o : Int} (t n : Nat) (hd : decode c.code pc = .ok (.if_acmp .eq o, 3)) (ht : (pc : Int) + o = t) (hn : pc + 3 = n) (h1 : x.isRef = true) (h2 : y.isRef = true) (FT : x = y → Go p e below s Q K N T (mkF m t Ls rest)) (FF : ¬ x = y → Go p e below s Q K N T (mkF m n Ls rest)) : Go p e below s Q K N T (mkF m pc Ls (y :: x :: rest)) := by
  subst hn
  by_cases q : x = y
  · exact go (fun _ h => XT.acmpYes X.here hx rfl (pc0 := pc) (pc' := t) rfl hd rfl h1 h2 (XT.aa_eq_t q) (by rw [ht]; exact Int.natCast_nonneg _) (by rw [ht]; rfl) h) (FT q)
  · exact go (fun _ h => XT.acmpNo X.here hx rfl hd rfl h1 h2 (XT.aa_eq_f q) h) (FF q)
theorem nonnullR (X : Stand p l e R s m args below meth c T locs cells slots) (hx : p.tables.exec = Jvm.exec) {a : Addr} {o : Int} (t : Nat) (hd : decode c.code pc = .ok (.ifnonnull o, 3)) (ht : (pc : Int) + o = t) (F : Go p e below s Q K N T (mkF m t Ls rest)) : Go p e below s Q K N T (mkF m pc Ls (.ref a :: rest)) :=
  go (fun _ h => XT.ifnonnullYes X.here hx rfl (pc0 := pc) (pc' := t) rfl hd rfl (by rw [ht]; exact Int.natCast_nonneg _) (by rw [ht]; rfl) h) F
theorem nonnullN (X : Stand p l e R s m args below meth c T locs cells slots) (hx : p.tables.exec = Jvm.exec) {o : Int} (hd : decode c.code pc = .ok (.ifnonnull o, 3)) (hn : pc + 3 = n) (F : Go p e below s Q K N T (mkF m n Ls rest)) : Go p e below s Q K N T (mkF m pc Ls (.null :: rest)) := by
  subst hn
  exact go (fun _ h => XT.ifnonnullNo X.here hx rfl hd rfl h) F
theorem nullR (X : Stand p l e R s m args below meth c T locs cells slots) (hx : p.tables.exec = Jvm.exec) {a : Addr} {o : Int} (hd : decode c.code pc = .ok (.ifnull o, 3)) (hn : pc + 3 = n) (F : Go p e below s Q K N T (mkF m n Ls rest)) : Go p e below s Q K N T (mkF m pc Ls (.ref a :: rest)) := by
  subst hn
  exact go (fun _ h => XT.nullNo X.here hx rfl hd rfl rfl (by simp) h) F
theorem nullN (X : Stand p l e R s m args below meth c T locs cells slots) (hx : p.tables.exec = Jvm.exec) {o : Int} (t : Nat) (hd : decode c.code pc = .ok (.ifnull o, 3)) (ht : (pc : Int) + o = t) (F : Go p e below s Q K N T (mkF m t Ls rest)) : Go p e below s Q K N T (mkF m pc Ls (.null :: rest)) :=
  go (fun _ h => XT.nullYes X.here hx rfl (pc0 := pc) (pc' := t) rfl hd rfl rfl (by rw [ht]; exact Int.natCast_nonneg _) (by rw [ht]; rfl) h) F
theorem getS (X : Stand p l e R s m args below meth c T locs cells slots) (hx : p.tables.exec = Jvm.exec) (hZ : Z.Warmed39 s.vm) {own O f d host : String} {index : Nat} (hown : s.vm.findClass own = some m.cls) (w : (Cond.fieldLink own index O f d).before a0 Z = true ∨ (Cond.fieldLinkNest own index O f d host).before a0 Z = true) (eT : T.heap = h) {v : Value} (S : Sta Z h O f d v) (hd : decode c.code pc = .ok (.getstatic index, 3)) (hn : pc + 3 = n)
    (F : ∀ T', Stand p l e R s m args below meth c T' locs cells slots → T'.heap = h → Go p e below s Q K N T' (mkF m n Ls (v :: st))) : Go p e below s Q K N T (mkF m pc Ls st) := by
  subst hn
  obtain ⟨T', X', e', st'⟩ := getS2 X hx hZ hown (host := host) w Via.refl eT S (g := mkF m pc Ls st) rfl hd
  exact go (fun _ h => st' _ h) (F T' X' e')
theorem getF (X : Stand p l e R s m args below meth c T locs cells slots) (hx : p.tables.exec = Jvm.exec) (hZ : Z.Warmed39 s.vm) {own O f d host : String} {index : Nat} (hown : s.vm.findClass own = some m.cls) (w : (Cond.fieldLink own index O f d).before a0 Z = true ∨ (Cond.fieldLinkNest own index O f d host).before a0 Z = true) (eT : T.heap = h) {a : Addr} {v : Value} (S : Fld Z h a O f d v) (hd : decode c.code pc = .ok (.getfield index, 3)) (hn : pc + 3 = n)
    (F : ∀ T', Stand p l e R s m args below meth c T' locs cells slots → T'.heap = h → Go p e below s Q K N T' (mkF m n Ls (v :: st))) : Go p e below s Q K N T (mkF m pc Ls (.ref a :: st)) := by
  subst hn
  obtain ⟨T', X', e', st'⟩ := RoadKit.getF X hx hZ hown (host := host) w Via.refl eT S (g := mkF m pc Ls (.ref a :: st)) rfl rfl hd
  exact go (fun _ h => st' _ h) (F T' X' e')
theorem in_of {cl : Cell} {z j : Int32} (S : cl.slots.size = z.toNatClampNeg) (N : ¬ z < 0) (h1 : 0 ≤ j.toInt) (h2 : j.toInt < z.toInt) : ¬ (j < 0 ∨ cl.slots.size ≤ j.toNatClampNeg) := by
  rw [S, Int32.lt_iff_toInt_lt]
  rw [Int32.lt_iff_toInt_lt] at N
  have e0 : (0 : Int32).toInt = 0 := rfl
  have q1 : z.toNatClampNeg = z.toInt.toNat := rfl
  have q2 : j.toNatClampNeg = j.toInt.toNat := rfl
  omega
theorem alen (X : Stand p l e R s m args below meth c T locs cells slots) (hx : p.tables.exec = Jvm.exec) (hZ : Z.Warmed39 s.vm) {a : Addr} {k : ClassId} {ty : FieldType} {z : Int32} {vs : List Value} {d : Value} (eT : T.heap = h) (A : Arv Z h a k ty z vs d) (hd : decode c.code pc = .ok (.arraylength, 1)) (hn : pc + 1 = n) (F : Go p e below s Q K N T (mkF m n Ls (.int z :: st))) : Go p e below s Q K N T (mkF m pc Ls (.ref a :: st)) := by
  subst hn
  obtain ⟨cl, Ar, -, S, N, -, -⟩ := A
  refine go (fun _ h => X.arraylength hx (by rw [eT]; exact Ar.1) (State.isArrayOf_alike hZ.alike Ar.2.1) (g := mkF m pc Ls (.ref a :: st)) rfl rfl hd _ h) ?_
  rw [len_of S N]
  exact F
theorem iaload (X : Stand p l e R s m args below meth c T locs cells slots) (hx : p.tables.exec = Jvm.exec) (hZ : Z.Warmed39 s.vm) {a : Addr} {k : ClassId} {z j : Int32} {vs : List Value} {d v : Value} (eT : T.heap = h) (A : Arv Z h a k .int z vs d) (h1 : 0 ≤ j.toInt) (h2 : j.toInt < z.toInt) (hv : vs.getD j.toNatClampNeg d = v) (hd : decode c.code pc = .ok (.iaload, 1)) (hn : pc + 1 = n) (F : Go p e below s Q K N T (mkF m n Ls (v :: st))) : Go p e below s Q K N T (mkF m pc Ls (.int j :: .ref a :: st)) := by
  subst hn
  obtain ⟨cl, Ar, -, S, N, H, -⟩ := A
  have hin := in_of S N h1 h2
  exact go (fun _ h => X.iaload hx (j := j) (v := v) (by rw [eT]; exact Ar.1) (State.isArrayOf_alike hZ.alike Ar.2.1) Ar.2.2 hin (H.at hin hv) (g := mkF m pc Ls (.int j :: .ref a :: st)) rfl rfl hd _ h) F
theorem caload (X : Stand p l e R s m args below meth c T locs cells slots) (hx : p.tables.exec = Jvm.exec) (hZ : Z.Warmed39 s.vm) {a : Addr} {k : ClassId} {z j : Int32} {vs : List Value} {d v : Value} (eT : T.heap = h) (A : Arv Z h a k .char z vs d) (h1 : 0 ≤ j.toInt) (h2 : j.toInt < z.toInt) (hv : vs.getD j.toNatClampNeg d = v) (hd : decode c.code pc = .ok (.caload, 1)) (hn : pc + 1 = n) (F : Go p e below s Q K N T (mkF m n Ls (v :: st))) : Go p e below s Q K N T (mkF m pc Ls (.int j :: .ref a :: st)) := by
  subst hn
  obtain ⟨cl, Ar, -, S, N, H, -⟩ := A
  have hin := in_of S N h1 h2
  exact go (fun _ h => X.caload hx (j := j) (v := v) (by rw [eT]; exact Ar.1) (State.isArrayOf_alike hZ.alike Ar.2.1) Ar.2.2 hin (H.at hin hv) (g := mkF m pc Ls (.int j :: .ref a :: st)) rfl rfl hd _ h) F
theorem laload (X : Stand p l e R s m args below meth c T locs cells slots) (hx : p.tables.exec = Jvm.exec) (hZ : Z.Warmed39 s.vm) {a : Addr} {k : ClassId} {z j : Int32} {vs : List Value} {d v : Value} (eT : T.heap = h) (A : Arv Z h a k .long z vs d) (h1 : 0 ≤ j.toInt) (h2 : j.toInt < z.toInt) (hv : vs.getD j.toNatClampNeg d = v) (hd : decode c.code pc = .ok (.laload, 1)) (hn : pc + 1 = n) (F : Go p e below s Q K N T (mkF m n Ls (v :: st))) : Go p e below s Q K N T (mkF m pc Ls (.int j :: .ref a :: st)) := by
  subst hn
  obtain ⟨cl, Ar, -, S, N, H, -⟩ := A
  have hin := in_of S N h1 h2
  exact go (fun _ h => X.laload hx (j := j) (v := v) (by rw [eT]; exact Ar.1) (State.isArrayOf_alike hZ.alike Ar.2.1) Ar.2.2 hin (H.at hin hv) (g := mkF m pc Ls (.int j :: .ref a :: st)) rfl rfl hd _ h) F
theorem baload (X : Stand p l e R s m args below meth c T locs cells slots) (hx : p.tables.exec = Jvm.exec) (hZ : Z.Warmed39 s.vm) {a : Addr} {k : ClassId} {z j : Int32} {vs : List Value} {d v : Value} (eT : T.heap = h) (A : Arv Z h a k .byte z vs d) (h1 : 0 ≤ j.toInt) (h2 : j.toInt < z.toInt) (hv : vs.getD j.toNatClampNeg d = v) (hd : decode c.code pc = .ok (.baload, 1)) (hn : pc + 1 = n) (F : Go p e below s Q K N T (mkF m n Ls (v :: st))) : Go p e below s Q K N T (mkF m pc Ls (.int j :: .ref a :: st)) := by
  subst hn
  obtain ⟨cl, Ar, -, S, N, H, -⟩ := A
  have hin := in_of S N h1 h2
  exact go (fun _ h => X.baloadBytes hx (j := j) (v := v) (by rw [eT]; exact Ar.1) (State.isArrayOf_alike hZ.alike Ar.2.1) Ar.2.2 hin (H.at hin hv) (g := mkF m pc Ls (.int j :: .ref a :: st)) rfl rfl hd _ h) F
theorem aaload (X : Stand p l e R s m args below meth c T locs cells slots) (hx : p.tables.exec = Jvm.exec) (hZ : Z.Warmed39 s.vm) {a : Addr} {k : ClassId} {ty : FieldType} {z j : Int32} {vs : List Value} {d v : Value} (eT : T.heap = h) (A : Arv Z h a k ty z vs d) (hty : ty.isReference = true) (h1 : 0 ≤ j.toInt) (h2 : j.toInt < z.toInt) (hv : vs.getD j.toNatClampNeg d = v) (hd : decode c.code pc = .ok (.aaload, 1)) (hn : pc + 1 = n) (F : Go p e below s Q K N T (mkF m n Ls (v :: st))) : Go p e below s Q K N T (mkF m pc Ls (.int j :: .ref a :: st)) := by
  subst hn
  obtain ⟨cl, Ar, -, S, N, H, -⟩ := A
  have hin := in_of S N h1 h2
  exact go (fun _ h => X.aaload hx (j := j) (v := v) (by rw [eT]; exact Ar.1) (State.isArrayOf_alike hZ.alike Ar.2.1) hty Ar.2.2 hin (H.at hin hv) (g := mkF m pc Ls (.int j :: .ref a :: st)) rfl rfl hd _ h) F
theorem fin {w : Option Value} {g : JFrame} (X : Stand p l e R s m args below meth c T locs cells slots) (hlk : meth.locks = false) (hv : meth.sig.returnType = none → w = none) (hc : cells ≤ K) (hs : slots ≤ N) (hQ : Q w T.heap locs) (step : ∀ fs, (∀ (f : JFrame) (acts : List Action), f.method = m → f.locked = none → f.entered = [] → (doReturn e (T.setTop f) acts w).1 = T.setFrames fs) → Steps p.tables e below (T.setTop g) (T.setFrames fs)) : Go p e below s Q K N T g := by
  obtain ⟨fs, hr, hrun, hended, hW, hsame⟩ := X.leave (v := w) hv hlk
  exact ⟨_, _, step fs hr, hrun, hended, _, _, rfl, hQ, ⟨_, rfl⟩, hW, hsame.mono hc hs⟩
theorem retI (X : Stand p l e R s m args below meth c T locs cells slots) (hx : p.tables.exec = Jvm.exec) (hlk : meth.locks = false) (hret : meth.sig.returnType = some .int) {z : Int32} (hd : decode c.code pc = .ok (.ireturn, 1)) (hc : cells ≤ K) (hs : slots ≤ N) (hQ : Q (some (.int z)) T.heap locs) : Go p e below s Q K N T (mkF m pc Ls (.int z :: rest)) :=
  fin X hlk (fun h => by rw [hret] at h; cases h) hc hs hQ (fun _ hr => retOut X hx hret rfl (Or.inl ⟨rfl, Or.inl rfl, _, rfl⟩) hd hr)
theorem retZ (X : Stand p l e R s m args below meth c T locs cells slots) (hx : p.tables.exec = Jvm.exec) (hlk : meth.locks = false) (hret : meth.sig.returnType = some .boolean) {z : Int32} (hd : decode c.code pc = .ok (.ireturn, 1)) (hz : z = 0 ∨ z = 1) (hc : cells ≤ K) (hs : slots ≤ N) (hQ : Q (some (.int z)) T.heap locs) : Go p e below s Q K N T (mkF m pc Ls (.int z :: rest)) :=
  fin X hlk (fun h => by rw [hret] at h; cases h) hc hs hQ (fun _ hr => retOut X hx hret (by rcases hz with rfl | rfl <;> rfl) (Or.inl ⟨rfl, Or.inr (Or.inl rfl), _, rfl⟩) hd hr)
theorem b01 {P : Prop} [Decidable P] : b P = 0 ∨ b P = 1 := by by_cases q : P <;> simp [b, q]
theorem retC (X : Stand p l e R s m args below meth c T locs cells slots) (hx : p.tables.exec = Jvm.exec) (hlk : meth.locks = false) (hret : meth.sig.returnType = some .char) {z : Int32} (hd : decode c.code pc = .ok (.ireturn, 1)) (hz : narrow .char (.int z) = .int z) (hc : cells ≤ K) (hs : slots ≤ N) (hQ : Q (some (.int z)) T.heap locs) : Go p e below s Q K N T (mkF m pc Ls (.int z :: rest)) :=
  fin X hlk (fun h => by rw [hret] at h; cases h) hc hs hQ (fun _ hr => retOut X hx hret hz (Or.inl ⟨rfl, Or.inr (Or.inr (Or.inr (Or.inl rfl))), _, rfl⟩) hd hr)
theorem retB (X : Stand p l e R s m args below meth c T locs cells slots) (hx : p.tables.exec = Jvm.exec) (hlk : meth.locks = false) (hret : meth.sig.returnType = some .byte) {z : Int32} (hd : decode c.code pc = .ok (.ireturn, 1)) (hz : narrow .byte (.int z) = .int z) (hc : cells ≤ K) (hs : slots ≤ N) (hQ : Q (some (.int z)) T.heap locs) : Go p e below s Q K N T (mkF m pc Ls (.int z :: rest)) :=
  fin X hlk (fun h => by rw [hret] at h; cases h) hc hs hQ (fun _ hr => retOut X hx hret hz (Or.inl ⟨rfl, Or.inr (Or.inr (Or.inl rfl)), _, rfl⟩) hd hr)
theorem retL (X : Stand p l e R s m args below meth c T locs cells slots) (hx : p.tables.exec = Jvm.exec) (hlk : meth.locks = false) (hret : meth.sig.returnType = some .long) {z : Int64} (hd : decode c.code pc = .ok (.lreturn, 1)) (hc : cells ≤ K) (hs : slots ≤ N) (hQ : Q (some (.long z)) T.heap locs) : Go p e below s Q K N T (mkF m pc Ls (.long z :: rest)) :=
  fin X hlk (fun h => by rw [hret] at h; cases h) hc hs hQ (fun _ hr => retOut X hx hret rfl (Or.inr (Or.inl ⟨rfl, rfl, _, rfl⟩)) hd hr)
theorem retA (X : Stand p l e R s m args below meth c T locs cells slots) (hx : p.tables.exec = Jvm.exec) (hlk : meth.locks = false) {ty : FieldType} (hret : meth.sig.returnType = some ty) (hty : ty.isReference = true) {v : Value} (hv : v.isRef = true) (hd : decode c.code pc = .ok (.areturn, 1)) (hc : cells ≤ K) (hs : slots ≤ N) (hQ : Q (some v) T.heap locs) : Go p e below s Q K N T (mkF m pc Ls (v :: rest)) :=
  fin X hlk (fun h => by rw [hret] at h; cases h) hc hs hQ (fun _ hr => retOut X hx hret (by cases ty <;> cases v <;> first | rfl | simp [Value.isRef] at hv | simp [FieldType.isReference] at hty) (Or.inr (Or.inr (Or.inr (Or.inr ⟨rfl, hty, hv⟩)))) hd hr)
theorem retV (X : Stand p l e R s m args below meth c T locs cells slots) (hx : p.tables.exec = Jvm.exec) (hlk : meth.locks = false) (hret : meth.sig.returnType = none) (hd : decode c.code pc = .ok (.return_, 1)) (hc : cells ≤ K) (hs : slots ≤ N) (hQ : Q none T.heap locs) : Go p e below s Q K N T (mkF m pc Ls []) :=
  fin X hlk (fun _ => rfl) hc hs hQ (fun _ hr => X.returnOut hx hret hd hr)
/-- a method's contract: with the arguments as', over the heap h0, it comes back and Q holds -/
def Met (l : Launch) (Z : State) (y : MethodName) (bytes : ByteArray) (maxL : Nat) (ret : Option FieldType) (ws : List Cond) (rm : Room) (as' : Array Value) (h0 : Heap) (Q : Option Value → Heap → List Loc → Prop) : Prop :=
  MetFree l y (head1 (Cond.code y bytes maxL ret :: ws) rm) (fun a U => a = as' ∧ Z.Warmed39 U.vm ∧ U.heap = h0) (fun _ _ _ _ _ => True) (fun _ U o U' => ∃ v L, o = .returned v ∧ Q v U'.heap L ∧ FrameEnd U o U' L rm.cells rm.slots)
/-- nothing written, nothing made: it returns w -/
def Pu (w : Value) (h0 : Heap) (v : Option Value) (h : Heap) (L : List Loc) : Prop := v = some w ∧ L = [] ∧ h = h0
theorem start {y : MethodName} {bytes : ByteArray} {maxL : Nat} {ret : Option FieldType} {ws : List Cond} {rm : Room} {as' : Array Value} {h0 : Heap} (pn : plainName y.cls = true)
    (body : ∀ (p : Program) (e : Env) (s : State) (m : MethodId) (below : List Frame) (meth : Method) (c : Code) (s₁ : State), Stand p l e rm s m as' below meth c s₁ [] 0 0 → p.tables.exec = Jvm.exec → c.code = bytes → c.maxLocals = maxL → s.vm.findClass y.cls = some m.cls → meth.name = y.name → meth.sig.returnType = ret → meth.locks = false → Z.Warmed39 s.vm → s₁.heap = h0 → Go p e below s Q rm.cells rm.slots s₁ (entryFrame m as' maxL)) : Met l Z y bytes maxL ret ws rm as' h0 Q := by
  refine MetFree.of_bodySF (plainFor_of_name pn) hisR ?_
  intro p e s m args below meth c s₁ Bd hml0 hP hK
  obtain ⟨rfl, hZ, hh⟩ := hP
  exact body p e s m below meth c s₁ (Stand.of_body Bd) Bd.exec Bd.bytes hml0 (findClass_of_methodNamed Bd.named) (name_of_methodNamed Bd.named Bd.method).1 Bd.returns Bd.notSynchronized hZ (by rw [← hh, Bd.state]; rfl)
theorem enter {g g' : JFrame} (q : g = g') (F : Go p e below s Q K N T g') : Go p e below s Q K N T g := q ▸ F
theorem callS (X : Stand p l e R s m args below meth c T locs cells slots) (hx : p.tables.exec = Jvm.exec) (hZ : Z.Warmed39 s.vm) {own : String} {index : Nat} {y : MethodName} {bytes : ByteArray} {maxL W : Nat} {ret : Option FieldType} {rm : Room} {Qc : Option Value → Heap → List Loc → Prop} {argsL : List Value} (hown : s.vm.findClass own = some m.cls)
    (wl : (Cond.methodLink own index y).before a0 Z = true) (ws : (Cond.static y).before a0 Z = true) (wi : (Cond.initialized y.cls).before a0 Z = true) (wc : (Cond.code y bytes maxL ret).before a0 Z = true) (hy : y.cls ≠ "java/lang/invoke/MethodHandle" ∧ y.cls ≠ "java/lang/invoke/VarHandle")
    (hM : Met l Z y bytes maxL ret [] rm argsL.toArray h Qc) (eT : T.heap = h) (hf : rm.frames + 1 ≤ R.frames) (hl : W + (maxL + 11) + rm.locals ≤ R.locals) (hck : cells + rm.cells ≤ R.cells) (hsk : slots + rm.slots ≤ R.slots) (hsz : Ls.size = c.maxLocals)
    (hlen : ∀ sig, parseMethodDescriptor y.desc = some sig → argsL.length = sig.parameters.length) (hst : st = argsL.reverse ++ rest) (hW : (rest.map fun v => v.category).sum ≤ W) (hd : decode c.code pc = .ok (.invokestatic index, 3)) (hn : pc + 3 = n)
    (F : ∀ T' v L, Stand p l e R s m args below meth c T' (locs ++ L) (cells + rm.cells) (slots + rm.slots) → Qc v T'.heap L → Go p e below s Q K N T' (mkF m n Ls (v.toList ++ rest))) : Go p e below s Q K N T (mkF m pc Ls st) := by
  subst hn
  obtain ⟨v, _, ⟨T18, L18, k18, n18⟩, -, X18, ⟨Lc18, hQ18, l18, y18, z18⟩, st18⟩ := Jvm.LawKit.callS X hx (y := y) hown (mvT hZ wl) (mvT hZ ws) (mvT hZ wi) (mvT hZ wc) hy (backOf (W := W) hM hZ wc wi hf hl) (g := mkF m pc Ls st) rfl hsz (argsL := argsL) (rest := rest) hlen hst (by show 2 * 0 + _ ≤ _; omega) hd (fun _ _ => ⟨rfl, eT, hck, hsk⟩)
  dsimp only [Pt.U, Pt.locs, Pt.cells, Pt.slots] at X18 l18 y18 z18 st18 hQ18
  subst l18 y18 z18
  exact go (fun _ h => st18 _ h) (F T18 v Lc18 X18 hQ18)
theorem callP (X : Stand p l e R s m args below meth c T locs cells slots) (hx : p.tables.exec = Jvm.exec) (hZ : Z.Warmed39 s.vm) {own : String} {index : Nat} {y : MethodName} {bytes : ByteArray} {maxL W : Nat} {ret : Option FieldType} {fr lo : Nat} {w : Value} {argsL : List Value} (hown : s.vm.findClass own = some m.cls)
    (wl : (Cond.methodLink own index y).before a0 Z = true) (ws : (Cond.static y).before a0 Z = true) (wi : (Cond.initialized y.cls).before a0 Z = true) (wc : (Cond.code y bytes maxL ret).before a0 Z = true) (hy : y.cls ≠ "java/lang/invoke/MethodHandle" ∧ y.cls ≠ "java/lang/invoke/VarHandle")
    (hM : Met l Z y bytes maxL ret [] { frames := fr, cells := 0, slots := 0, locals := lo } argsL.toArray h (Pu w h)) (eT : T.heap = h) (hf : fr + 1 ≤ R.frames) (hl : W + (maxL + 11) + lo ≤ R.locals) (hck : cells ≤ R.cells) (hsk : slots ≤ R.slots) (hsz : Ls.size = c.maxLocals)
    (hlen : ∀ sig, parseMethodDescriptor y.desc = some sig → argsL.length = sig.parameters.length) (hst : st = argsL.reverse ++ rest) (hW : (rest.map fun v => v.category).sum ≤ W) (hd : decode c.code pc = .ok (.invokestatic index, 3)) (hn : pc + 3 = n)
    (F : ∀ T', Stand p l e R s m args below meth c T' locs cells slots → T'.heap = h → Go p e below s Q K N T' (mkF m n Ls (w :: rest))) : Go p e below s Q K N T (mkF m pc Ls st) := by
  refine callS X hx hZ hown wl ws wi wc hy hM eT hf hl hck hsk hsz hlen hst hW hd hn ?_
  rintro T' v L X' ⟨rfl, rfl, hh⟩
  rw [List.append_nil] at X'
  exact F T' X' hh
theorem callV (X : Stand p l e R s m args below meth c T locs cells slots) (hx : p.tables.exec = Jvm.exec) (hZ : Z.Warmed39 s.vm) {own C : String} {index : Nat} {y z : MethodName} {bytes : ByteArray} {maxL W : Nat} {ret : Option FieldType} {rm : Room} {Qc : Option Value → Heap → List Loc → Prop} {argsL : List Value} {a : Addr} (hown : s.vm.findClass own = some m.cls)
    (wl : (Cond.methodLink own index y).before a0 Z = true) (wd : (Cond.declares y).before a0 Z = true) (wsel : (Cond.selects C y z).before a0 Z = true) (wm : (Cond.instanceMethod z).before a0 Z = true) (wi : (Cond.initialized z.cls).before a0 Z = true) (wc : (Cond.code z bytes maxL ret).before a0 Z = true) (hnf : NotFace s y) (hy : y.cls ≠ "java/lang/invoke/MethodHandle" ∧ y.cls ≠ "java/lang/invoke/VarHandle")
    (hM : Met l Z z bytes maxL ret [] rm (Value.ref a :: argsL).toArray h Qc) (eT : T.heap = h) (E : Exa Z h a C) (hf : rm.frames + 1 ≤ R.frames) (hl : W + (maxL + 11) + rm.locals ≤ R.locals) (hck : cells + rm.cells ≤ R.cells) (hsk : slots + rm.slots ≤ R.slots) (hsz : Ls.size = c.maxLocals)
    (hlen : ∀ sig, parseMethodDescriptor y.desc = some sig → argsL.length = sig.parameters.length) (hst : st = argsL.reverse ++ .ref a :: rest) (hW : (rest.map fun v => v.category).sum ≤ W) (hd : decode c.code pc = .ok (.invokevirtual index, 3)) (hn : pc + 3 = n)
    (F : ∀ T' v L, Stand p l e R s m args below meth c T' (locs ++ L) (cells + rm.cells) (slots + rm.slots) → Qc v T'.heap L → Go p e below s Q K N T' (mkF m n Ls (v.toList ++ rest))) : Go p e below s Q K N T (mkF m pc Ls st) := by
  subst hn
  obtain ⟨cq, kq, qa, qb, qc⟩ := isOf hZ eT E
  obtain ⟨v, _, ⟨T18, L18, k18, n18⟩, -, X18, ⟨Lc18, hQ18, l18, y18, z18⟩, st18⟩ := X.virtualBack hx (y := y) (z := z) hown (mvT hZ wl) (mvT hZ wd) hnf (mvT hZ wsel) (mvT hZ wm) hy (backOf (W := W) hM hZ wc wi hf hl) qa qc (g := mkF m pc Ls st) rfl hsz (Steps.refl _) (argsL := argsL) (rest := rest) hlen hst (by show 2 * 0 + _ ≤ _; omega) hd (fun _ _ => ⟨rfl, eT, hck, hsk⟩)
  dsimp only [Pt.U, Pt.locs, Pt.cells, Pt.slots] at X18 l18 y18 z18 st18 hQ18
  subst l18 y18 z18
  exact go (fun _ h => st18.trans h) (F T18 v Lc18 X18 hQ18)
theorem callVP (X : Stand p l e R s m args below meth c T locs cells slots) (hx : p.tables.exec = Jvm.exec) (hZ : Z.Warmed39 s.vm) {own C : String} {index : Nat} {y z : MethodName} {bytes : ByteArray} {maxL W : Nat} {ret : Option FieldType} {fr lo : Nat} {w : Value} {argsL : List Value} {a : Addr} (hown : s.vm.findClass own = some m.cls)
    (wl : (Cond.methodLink own index y).before a0 Z = true) (wd : (Cond.declares y).before a0 Z = true) (wsel : (Cond.selects C y z).before a0 Z = true) (wm : (Cond.instanceMethod z).before a0 Z = true) (wi : (Cond.initialized z.cls).before a0 Z = true) (wc : (Cond.code z bytes maxL ret).before a0 Z = true) (hnf : NotFace s y) (hy : y.cls ≠ "java/lang/invoke/MethodHandle" ∧ y.cls ≠ "java/lang/invoke/VarHandle")
    (hM : Met l Z z bytes maxL ret [] { frames := fr, cells := 0, slots := 0, locals := lo } (Value.ref a :: argsL).toArray h (Pu w h)) (eT : T.heap = h) (E : Exa Z h a C) (hf : fr + 1 ≤ R.frames) (hl : W + (maxL + 11) + lo ≤ R.locals) (hck : cells ≤ R.cells) (hsk : slots ≤ R.slots) (hsz : Ls.size = c.maxLocals)
    (hlen : ∀ sig, parseMethodDescriptor y.desc = some sig → argsL.length = sig.parameters.length) (hst : st = argsL.reverse ++ .ref a :: rest) (hW : (rest.map fun v => v.category).sum ≤ W) (hd : decode c.code pc = .ok (.invokevirtual index, 3)) (hn : pc + 3 = n)
    (F : ∀ T', Stand p l e R s m args below meth c T' locs cells slots → T'.heap = h → Go p e below s Q K N T' (mkF m n Ls (w :: rest))) : Go p e below s Q K N T (mkF m pc Ls st) := by
  refine callV X hx hZ hown wl wd wsel wm wi wc hnf hy hM eT E hf hl hck hsk hsz hlen hst hW hd hn ?_
  rintro T' v L X' ⟨rfl, rfl, hh⟩
  rw [List.append_nil] at X'
  exact F T' X' hh
theorem icmp_eqB (X : Stand p l e R s m args below meth c T locs cells slots) (hx : p.tables.exec = Jvm.exec) {P P' : Prop} [Decidable P] [Decidable P'] {o : Int} (t n : Nat) (hd : decode c.code pc = .ok (.if_icmp .eq o, 3)) (ht : (pc : Int) + o = t) (hn : pc + 3 = n) (FT : (P ↔ P') → Go p e below s Q K N T (mkF m t Ls rest)) (FF : ¬ (P ↔ P') → Go p e below s Q K N T (mkF m n Ls rest)) : Go p e below s Q K N T (mkF m pc Ls (.int (b P') :: .int (b P) :: rest)) :=
  icmp_eq X hx t n hd ht hn rfl rfl (fun q => FT (b_inj (Int32.toInt_inj.mp q))) (fun q => FF fun z => q (by rw [b_iff z]))
theorem tsw (X : Stand p l e R s m args below meth c T locs cells slots) (hx : p.tables.exec = Jvm.exec) {dflt low high : Int} {offs : Array Int} {len : Nat} {o : Int} {i : Int32} (t : Nat) (hd : decode c.code pc = .ok (.tableswitch dflt low high offs, len)) (hin : ¬ (i.toInt < low ∨ i.toInt > high)) (hoff : offs[(i.toInt - low).toNat]? = some o) (ht : (pc : Int) + o = t) (F : Go p e below s Q K N T (mkF m t Ls rest)) : Go p e below s Q K N T (mkF m pc Ls (.int i :: rest)) :=
  go (fun _ h => XS.tswIn X.here hx rfl (pc0 := pc) (pc' := t) rfl hd rfl hin hoff (by rw [ht]; exact Int.natCast_nonneg _) (by rw [ht]; rfl) h) F
theorem callVU (X : Stand p l e R s m args below meth c T locs cells slots) (hx : p.tables.exec = Jvm.exec) (hZ : Z.Warmed39 s.vm) {own C owner : String} {index : Nat} {y z : MethodName} {bytes : ByteArray} {maxL W : Nat} {ret : Option FieldType} {rm : Room} {Qc : Option Value → Heap → List Loc → Prop} {argsL : List Value} {a : Addr} (hown : s.vm.findClass own = some m.cls)
    (wl : (Cond.methodLink own index y).before a0 Z = true) (wsm : (Cond.sameMethod y.cls owner y.name y.desc).before a0 Z = true) (wd : (Cond.declares ⟨owner, y.name, y.desc⟩).before a0 Z = true) (wsel : (Cond.selects C y z).before a0 Z = true) (wm : (Cond.instanceMethod z).before a0 Z = true) (wi : (Cond.initialized z.cls).before a0 Z = true) (wc : (Cond.code z bytes maxL ret).before a0 Z = true) (hy : owner ≠ "java/lang/invoke/MethodHandle" ∧ owner ≠ "java/lang/invoke/VarHandle")
    (hM : Met l Z z bytes maxL ret [] rm (Value.ref a :: argsL).toArray h Qc) (eT : T.heap = h) (E : Exa Z h a C) (hf : rm.frames + 1 ≤ R.frames) (hl : W + (maxL + 11) + rm.locals ≤ R.locals) (hck : cells + rm.cells ≤ R.cells) (hsk : slots + rm.slots ≤ R.slots) (hsz : Ls.size = c.maxLocals)
    (hlen : ∀ sig, parseMethodDescriptor y.desc = some sig → argsL.length = sig.parameters.length) (hst : st = argsL.reverse ++ .ref a :: rest) (hW : (rest.map fun v => v.category).sum ≤ W) (hd : decode c.code pc = .ok (.invokevirtual index, 3)) (hn : pc + 3 = n)
    (F : ∀ T' v L, Stand p l e R s m args below meth c T' (locs ++ L) (cells + rm.cells) (slots + rm.slots) → Qc v T'.heap L → Go p e below s Q K N T' (mkF m n Ls (v.toList ++ rest))) : Go p e below s Q K N T (mkF m pc Ls st) := by
  subst hn
  obtain ⟨cq, kq, qa, qb, qc⟩ := isOf hZ eT E
  obtain ⟨v, _, ⟨T18, L18, k18, n18⟩, -, X18, ⟨Lc18, hQ18, l18, y18, z18⟩, st18⟩ := X.virtualBackUp hx (x := y) (y := z) hown (mvT hZ wl) (mvT hZ wsm) (mvT hZ wd) hy (mvT hZ wsel) (mvT hZ wm) (backOf (W := W) hM hZ wc wi hf hl) qa qc (g := mkF m pc Ls st) rfl hsz (Steps.refl _) (argsL := argsL) (rest := rest) hlen hst (by show 2 * 0 + _ ≤ _; omega) hd (fun _ _ => ⟨rfl, eT, hck, hsk⟩)
  dsimp only [Pt.U, Pt.locs, Pt.cells, Pt.slots] at X18 l18 y18 z18 st18 hQ18
  subst l18 y18 z18
  exact go (fun _ h => st18.trans h) (F T18 v Lc18 X18 hQ18)
theorem callVUP (X : Stand p l e R s m args below meth c T locs cells slots) (hx : p.tables.exec = Jvm.exec) (hZ : Z.Warmed39 s.vm) {own C owner : String} {index : Nat} {y z : MethodName} {bytes : ByteArray} {maxL W : Nat} {ret : Option FieldType} {fr lo : Nat} {w : Value} {argsL : List Value} {a : Addr} (hown : s.vm.findClass own = some m.cls)
    (wl : (Cond.methodLink own index y).before a0 Z = true) (wsm : (Cond.sameMethod y.cls owner y.name y.desc).before a0 Z = true) (wd : (Cond.declares ⟨owner, y.name, y.desc⟩).before a0 Z = true) (wsel : (Cond.selects C y z).before a0 Z = true) (wm : (Cond.instanceMethod z).before a0 Z = true) (wi : (Cond.initialized z.cls).before a0 Z = true) (wc : (Cond.code z bytes maxL ret).before a0 Z = true) (hy : owner ≠ "java/lang/invoke/MethodHandle" ∧ owner ≠ "java/lang/invoke/VarHandle")
    (hM : Met l Z z bytes maxL ret [] { frames := fr, cells := 0, slots := 0, locals := lo } (Value.ref a :: argsL).toArray h (Pu w h)) (eT : T.heap = h) (E : Exa Z h a C) (hf : fr + 1 ≤ R.frames) (hl : W + (maxL + 11) + lo ≤ R.locals) (hck : cells ≤ R.cells) (hsk : slots ≤ R.slots) (hsz : Ls.size = c.maxLocals)
    (hlen : ∀ sig, parseMethodDescriptor y.desc = some sig → argsL.length = sig.parameters.length) (hst : st = argsL.reverse ++ .ref a :: rest) (hW : (rest.map fun v => v.category).sum ≤ W) (hd : decode c.code pc = .ok (.invokevirtual index, 3)) (hn : pc + 3 = n)
    (F : ∀ T', Stand p l e R s m args below meth c T' locs cells slots → T'.heap = h → Go p e below s Q K N T' (mkF m n Ls (w :: rest))) : Go p e below s Q K N T (mkF m pc Ls st) := by
  refine callVU X hx hZ hown wl wsm wd wsel wm wi wc hy hM eT E hf hl hck hsk hsz hlen hst hW hd hn ?_
  rintro T' v L X' ⟨rfl, rfl, hh⟩
  rw [List.append_nil] at X'
  exact F T' X' hh
theorem cutF (g' : JFrame) {g : JFrame} (h1 : Go p e below s Q K N T g' → Go p e below s Q K N T g) (h2 : Go p e below s Q K N T g') : Go p e below s Q K N T g := h1 h2
theorem cutJ (g' : Int32 → JFrame) {g : JFrame} (h1 : (∀ j, Go p e below s Q K N T (g' j)) → Go p e below s Q K N T g) (h2 : ∀ j, Go p e below s Q K N T (g' j)) : Go p e below s Q K N T g := h1 h2
theorem cutX (X : Stand p l e R s m args below meth c T locs cells slots) (eT : T.heap = h) (g' : JFrame) {g : JFrame} (h1 : (∀ T', Stand p l e R s m args below meth c T' locs cells slots → T'.heap = h → Go p e below s Q K N T' g') → Go p e below s Q K N T g) (h2 : ∀ T', Stand p l e R s m args below meth c T' locs cells slots → T'.heap = h → Go p e below s Q K N T' g') : Go p e below s Q K N T g := h1 h2
theorem pu {w : Value} {h' : Heap} (e : h' = h) : Pu w h (some w) h' [] := ⟨rfl, rfl, e⟩
theorem puE {w w' : Value} {h' : Heap} (q : w' = w) (e : h' = h) : Pu w h (some w') h' [] := ⟨by rw [q], rfl, e⟩
theorem puB1 {P : Prop} [Decidable P] {h' : Heap} (hP : P) (e : h' = h) : Pu (.int (b P)) h (some (.int 1)) h' [] := ⟨by rw [b_t hP], rfl, e⟩
theorem puB0 {P : Prop} [Decidable P] {h' : Heap} (hP : ¬ P) (e : h' = h) : Pu (.int (b P)) h (some (.int 0)) h' [] := ⟨by rw [b_f hP], rfl, e⟩
end W
section A
theorem t_add {x y : Int32} {a b' : Int} (ha : x.toInt = a) (hb : y.toInt = b') (h1 : -2147483648 ≤ a + b') (h2 : a + b' < 2147483648) : (x + y).toInt = a + b' := by
  subst ha hb; rw [Int32.toInt_add]; exact Int.bmod_eq_of_le (by omega) (by omega)
theorem t_sub {x y : Int32} {a b' : Int} (ha : x.toInt = a) (hb : y.toInt = b') (h1 : -2147483648 ≤ a - b') (h2 : a - b' < 2147483648) : (x - y).toInt = a - b' := by
  subst ha hb; rw [Int32.toInt_sub]; exact Int.bmod_eq_of_le (by omega) (by omega)
theorem t_mul {x y : Int32} {a b' : Int} (ha : x.toInt = a) (hb : y.toInt = b') (h1 : -2147483648 ≤ a * b') (h2 : a * b' < 2147483648) : (x * y).toInt = a * b' := by
  subst ha hb; rw [Int32.toInt_mul]; exact Int.bmod_eq_of_le (by omega) (by omega)
theorem t_div {x y : Int32} {a d : Int} (ha : x.toInt = a) (hb : y.toInt = d) (h0 : 0 ≤ a) (hd : 0 < d) : (x / y).toInt = a / d := by
  subst ha hb
  have hy : y ≠ -1 := fun q => by rw [q] at hd; exact absurd hd (by decide)
  exact (c_idiv x y _ rfl hy).1 h0
theorem t_rem {x y : Int32} {a d : Int} (ha : x.toInt = a) (hb : y.toInt = d) (h0 : 0 ≤ a) : (x % y).toInt = a % d := by
  subst ha hb; exact (c_irem x y _ rfl).1 h0
theorem s_add {x y : Int64} {a b' : Int} (ha : x.toInt = a) (hb : y.toInt = b') (h1 : -9223372036854775808 ≤ a + b') (h2 : a + b' < 9223372036854775808) : (x + y).toInt = a + b' := by
  subst ha hb; rw [Int64.toInt_add]; exact Int.bmod_eq_of_le (by omega) (by omega)
theorem s_sub {x y : Int64} {a b' : Int} (ha : x.toInt = a) (hb : y.toInt = b') (h1 : -9223372036854775808 ≤ a - b') (h2 : a - b' < 9223372036854775808) : (x - y).toInt = a - b' := by
  subst ha hb; rw [Int64.toInt_sub]; exact Int.bmod_eq_of_le (by omega) (by omega)
theorem t_i2l {x : Int32} {a : Int} (ha : x.toInt = a) : x.toInt64.toInt = a := by rw [Int32.toInt_toInt64]; exact ha
theorem s_l2i {x : Int64} {a : Int} (ha : x.toInt = a) (h1 : -2147483648 ≤ a) (h2 : a < 2147483648) : x.toInt32.toInt = a := by
  have := c_l2i x; have h3 := x.toInt32.toInt_lt; have h4 := x.toInt32.le_toInt; omega
theorem t_i2s {x : Int32} {a : Int} (ha : x.toInt = a) (h1 : -32768 ≤ a) (h2 : a < 32768) : x.toInt16.toInt32.toInt = a := by
  have := c_i2s x; omega
end A
section V
variable {args : Array Value} {first s : State} {o : Option Outcome} {idx : List Nat} {t : Term}
theorem eqI_v {k : Int32} (h : (Cond.eq t (.int k)).value args first o s idx = some true) : t.eval args first o idx s = some (.int k) := by
  simp only [Cond.value, Term.eval] at h
  cases ht : t.eval args first o idx s with
  | none => simp [ht] at h
  | some x => cases x <;> simp [ht] at h ⊢; exact h
theorem eqJ_v {k : Int64} (h : (Cond.eq t (.long k)).value args first o s idx = some true) : t.eval args first o idx s = some (.long k) := by
  simp only [Cond.value, Term.eval] at h
  cases ht : t.eval args first o idx s with
  | none => simp [ht] at h
  | some x => cases x <;> simp [ht] at h ⊢; exact h
theorem foldl_all {f : Nat → Option Bool} : ∀ (L : List Nat) (acc : Option Bool), L.foldl (fun acc i => match acc with | some true => f i | x => x) acc = some true → acc = some true ∧ ∀ i ∈ L, f i = some true
  | [], acc, h => ⟨h, fun _ q => nomatch q⟩
  | i :: L, acc, h => by
    obtain ⟨h1, h2⟩ := foldl_all L _ h
    match acc, h1 with
    | some true, h1 => exact ⟨rfl, fun j q => (List.mem_cons.mp q).elim (fun z => z ▸ h1) (h2 j)⟩
theorem all_v {c : Cond} {a : Addr} {cell : Cell} (h : (Cond.all t c).value args first o s idx = some true) (ht : t.eval args first o idx s = some (.ref a)) (hc : s.arrayAt? a = some cell) : ∀ i, i < cell.slots.size → c.value args first o s (i :: idx) = some true := by
  simp only [Cond.value, ht, hc] at h
  exact fun i hi => (foldl_all _ _ h).2 i (List.mem_range.mpr hi)
theorem elI {x : Addr} {j k : Int32} {cl : Cell} {i : Nat} (h : (Cond.eq (.elem t (.int j)) (.int k)).value args first o s idx = some true) (ht : t.eval args first o idx s = some (.ref x)) (hc : s.heap[x]? = some cl) (hi : j.toNatClampNeg = i) : cl.slots[i]? = some (.int k) := by
  subst hi; exact (elem_in (eqI_v h) ht rfl hc).2
theorem elN {x : Addr} {j : Int32} {cl : Cell} {i : Nat} (h : (Cond.eq (.elem t (.int j)) .null).value args first o s idx = some true) (ht : t.eval args first o idx s = some (.ref x)) (hc : s.heap[x]? = some cl) (hi : j.toNatClampNeg = i) : cl.slots[i]? = some .null := by
  subst hi; exact (elem_in (null_v h) ht rfl hc).2
theorem eqR_v {t' : Term} {v : Value} (hv : v.isRef = true) (h : (Cond.eq t t').value args first o s idx = some true) (ht : t'.eval args first o idx s = some v) : t.eval args first o idx s = some v := by
  obtain ⟨x, y, e1, e2, k1, k2⟩ := cmp_v (Or.inl h)
  cases ht.symm.trans e2
  have hx : x.isRef = true := by rcases ref_cases hv with rfl | ⟨z, rfl⟩ <;> exact k2.2
  rw [e1, gotT (eq_R e1 e2 hx hv) h]
theorem elR {x y : Addr} {j : Int32} {cl : Cell} {i : Nat} {t' : Term} (h : (Cond.eq (.elem t (.int j)) t').value args first o s idx = some true) (hy : t'.eval args first o idx s = some (.ref y)) (ht : t.eval args first o idx s = some (.ref x)) (hc : s.heap[x]? = some cl) (hi : j.toNatClampNeg = i) : cl.slots[i]? = some (.ref y) := by
  subst hi; exact (elem_in (eqR_v rfl h hy) ht rfl hc).2
theorem or_f {c d : Cond} (h : (Cond.or c d).value args first o s idx = some true) (hc : c.value args first o s idx = some false) : d.value args first o s idx = some true := by
  simpa only [Cond.value, hc] using h
theorem len_fit {x : Addr} {cl : Cell} {ty : FieldType} {k : Int32} {Z : State} (h : (Cond.eq (.length t) (.int k)).value args Z none Z [] = some true) (ht : t.eval args Z none [] Z = some (.ref x)) (A : Arr Z Z.heap x cl ty) : cl.slots.size < 2 ^ 31 ∧ cl.slots.size.toInt32 = k := by
  have h1 := eqI_v h
  have h2 : Z.arrayAt? x = some cl := A.fin (Vm.Alike.refl _)
  simp only [Term.eval, ht, h2, Option.bind_eq_bind, Option.bind_some] at h1
  by_cases q : cl.slots.size < 2 ^ 31
  · simp [q] at h1; exact ⟨q, h1⟩
  · simp [q] at h1
theorem fldI {Z : State} {a : Addr} {C n d : String} {k : Int32} (ev : t.eval args Z none [] Z = some (.ref a)) (h : (Cond.eq (.field t C n d) (.int k)).value args Z none Z [] = some true) : Fld Z Z.heap a C n d (.int k) := Fld.start ((fld_at ev).symm.trans (eqI_v h))
theorem fldJ {Z : State} {a : Addr} {C n d : String} {k : Int64} (ev : t.eval args Z none [] Z = some (.ref a)) (h : (Cond.eq (.field t C n d) (.long k)).value args Z none Z [] = some true) : Fld Z Z.heap a C n d (.long k) := Fld.start ((fld_at ev).symm.trans (eqJ_v h))
end V

section H
variable {p : Program} {l : Launch} {e : Env} {R : Room} {s : State} {m : MethodId} {args : Array Value} {below : List Frame} {meth : Method} {c : Code} {T T' : State} {locs : List Loc} {cells slots : Nat} {Q : Option Value → Heap → List Loc → Prop} {K N pc n t : Nat} {Ls l' : Array Slot} {st rest : List Value} {Z : State} {a0 : Array Value} {h : Heap}
/-- a law that writes only what it made -/
def Fq (w : Value) (n0 : Nat) (v : Option Value) (h : Heap) (L : List Loc) : Prop := v = some w ∧ Fr n0 L
theorem newO (X : Stand p l e R s m args below meth c T locs cells slots) (hx : p.tables.exec = Jvm.exec) (hZ : Z.Warmed39 s.vm) {own C : String} {index k : Nat} (hown : s.vm.findClass own = some m.cls) (w : (Cond.classLink own index C).before a0 Z = true) (wi : (Cond.instantiable C k).before a0 Z = true) (wz : (Cond.initialized C).before a0 Z = true) (eT : T.heap = h) (hd : decode c.code pc = .ok (.new index, 3)) (hc : cells + 1 ≤ R.cells) (hl : slots + k ≤ R.slots) (hn : pc + 3 = n)
    (F : ∀ T' h', Stand p l e R s m args below meth c T' locs (cells + 1) (slots + k) → T'.heap = h' → Ext h h' → Exa Z h' h.size C → (∀ {O nm d : String} {ty : FieldType}, Laid Z a0 C O nm d → parseFieldDescriptor d = some ty → Fld Z h' h.size O nm d (defaultValue ty)) → Go p e below s Q K N T' (mkF m n Ls (.ref h.size :: st))) : Go p e below s Q K N T (mkF m pc Ls st) := by
  subst hn
  obtain ⟨T2, h2, X2, e2, E2, A2, D2, -, st2⟩ := RoadKit.newO X hx hZ hown w wi wz eT (g := mkF m pc Ls st) rfl hd hc hl
  exact go (fun _ h => st2 _ h) (F T2 h2 X2 e2 E2 A2 D2)
theorem putF (X : Stand p l e R s m args below meth c T locs cells slots) (hx : p.tables.exec = Jvm.exec) (hZ : Z.Warmed39 s.vm) {own O f d host C : String} {index kk : Nat} {ty : FieldType} (hown : s.vm.findClass own = some m.cls) (w : (Cond.fieldLink own index O f d).before a0 Z = true ∨ (Cond.fieldLinkNest own index O f d host).before a0 Z = true) (eT : T.heap = h) {a : Addr} {v old : Value} (S : Fld Z h a O f d old) (E : Exa Z h a C)
    (L : (Cond.lays C O f d).before a0 Z = true ∨ ((Cond.laysFinal C O f d).before a0 Z = true ∧ own = O ∧ meth.name = "<init>")) (wi : (Cond.instantiable C kk).before a0 Z = true) (hty : parseFieldDescriptor d = some ty) (hnr : narrow ty v = v) (hf : fits ty v = true) (hd : decode c.code pc = .ok (.putfield index, 3)) (hn : pc + 3 = n)
    (F : ∀ T' h', Stand p l e R s m args below meth c T' (locs ++ [⟨a, RoadKit.slotOf Z O f d⟩]) cells slots → T'.heap = h' → Wr h h' a (RoadKit.slotOf Z O f d) v → Go p e below s Q K N T' (mkF m n Ls st)) : Go p e below s Q K N T (mkF m pc Ls (v :: .ref a :: st)) := by
  subst hn
  obtain ⟨T2, h2, X2, e2, W2, st2⟩ := RoadKit.putF X hx hZ hown (host := host) w Via.refl eT S E L wi hty hnr hf (g := mkF m pc Ls (v :: .ref a :: st)) rfl rfl hd
  exact go (fun _ h => st2 _ h) (F T2 h2 X2 e2 W2)
theorem initO (X : Stand p l e R s m args below meth c T locs cells slots) (hx : p.tables.exec = Jvm.exec) (hZ : Z.Warmed39 s.vm) {own : String} {idx W : Nat} (hown : s.vm.findClass own = some m.cls) (w1 : (Cond.methodLink own idx Lib.objectInit).before a0 Z = true) (w2 : (Cond.instanceMethod Lib.objectInit).before a0 Z = true) (w3 : (Cond.code Lib.objectInit ⟨#[0xb1]⟩ 1 none).before a0 Z = true) (eT : T.heap = h) {a : Addr} (hsz : Ls.size = c.maxLocals) (hf : 1 ≤ R.frames) (hW : (st.map fun v => v.category).sum ≤ W) (hl : W + 12 ≤ R.locals) (hd : decode c.code pc = .ok (.invokespecial idx, 3)) (hn : pc + 3 = n)
    (F : ∀ T', Stand p l e R s m args below meth c T' locs cells slots → T'.heap = h → Go p e below s Q K N T' (mkF m n Ls st)) : Go p e below s Q K N T (mkF m pc Ls (.ref a :: st)) := by
  subst hn
  obtain ⟨T2, X2, e2, st2⟩ := RoadKit.initO X hx hZ hown w1 w2 w3 eT (g := mkF m pc Ls (.ref a :: st)) rfl hsz rfl hd hf (W := W) (by show 2 * 0 + _ ≤ _; omega) hl
  exact go (fun _ h => st2 _ h) (F T2 X2 e2)
theorem callI (X : Stand p l e R s m args below meth c T locs cells slots) (hx : p.tables.exec = Jvm.exec) (hZ : Z.Warmed39 s.vm) {own : String} {index : Nat} {y : MethodName} {bytes : ByteArray} {maxL W : Nat} {rm : Room} {Qc : Option Value → Heap → List Loc → Prop} {argsL : List Value} {a : Addr} (hy1 : y.name = "<init>") (hown : s.vm.findClass own = some m.cls)
    (wl : (Cond.methodLink own index y).before a0 Z = true) (wm : (Cond.instanceMethod y).before a0 Z = true) (wi : (Cond.initialized y.cls).before a0 Z = true) (wc : (Cond.code y bytes maxL none).before a0 Z = true) (hy : y.cls ≠ "java/lang/invoke/MethodHandle" ∧ y.cls ≠ "java/lang/invoke/VarHandle")
    (hM : Met l Z y bytes maxL none [] rm (Value.ref a :: argsL).toArray h Qc) (eT : T.heap = h) (hf : rm.frames + 1 ≤ R.frames) (hl : W + (maxL + 11) + rm.locals ≤ R.locals) (hck : cells + rm.cells ≤ R.cells) (hsk : slots + rm.slots ≤ R.slots) (hsz : Ls.size = c.maxLocals)
    (hlen : ∀ sig, parseMethodDescriptor y.desc = some sig → argsL.length = sig.parameters.length) (hst : st = argsL.reverse ++ .ref a :: rest) (hW : (rest.map fun v => v.category).sum ≤ W) (hd : decode c.code pc = .ok (.invokespecial index, 3)) (hn : pc + 3 = n)
    (F : ∀ T' v L, Stand p l e R s m args below meth c T' (locs ++ L) (cells + rm.cells) (slots + rm.slots) → Qc v T'.heap L → Go p e below s Q K N T' (mkF m n Ls (v.toList ++ rest))) : Go p e below s Q K N T (mkF m pc Ls st) := by
  subst hn
  obtain ⟨v, _, ⟨T18, L18, k18, n18⟩, -, X18, ⟨Lc18, hQ18, l18, y18, z18⟩, st18⟩ := X.specialBack hx (y := y) hy1 hown (mvT hZ wl) (mvT hZ wm) (mvT hZ wc) hy (backOf (W := W) hM hZ wc wi hf hl) (g := mkF m pc Ls st) rfl hsz (Steps.refl _) (a := a) (argsL := argsL) (rest := rest) hlen hst (by show 2 * 0 + _ ≤ _; omega) hd (fun _ _ => ⟨rfl, eT, hck, hsk⟩)
  dsimp only [Pt.U, Pt.locs, Pt.cells, Pt.slots] at X18 l18 y18 z18 st18 hQ18
  subst l18 y18 z18
  exact go (fun _ h => st18.trans h) (F T18 v Lc18 X18 hQ18)
theorem instY (X : Stand p l e R s m args below meth c T locs cells slots) (hx : p.tables.exec = Jvm.exec) (hZ : Z.Warmed39 s.vm) {own C : String} {index : Nat} (hown : s.vm.findClass own = some m.cls) (w : (Cond.classLink own index C).before a0 Z = true) (eT : T.heap = h) {a : Addr} (E : Exa Z h a C) (hd : decode c.code pc = .ok (.instanceof index, 3)) (hn : pc + 3 = n)
    (F : ∀ T', Stand p l e R s m args below meth c T' locs cells slots → T'.heap = h → Go p e below s Q K N T' (mkF m n Ls (.int 1 :: st))) : Go p e below s Q K N T (mkF m pc Ls (.ref a :: st)) := by
  subst hn
  obtain ⟨T2, X2, e2, st2⟩ := RoadKit.instY X hx hZ hown w eT (Ins.self E) (g := mkF m pc Ls (.ref a :: st)) rfl rfl hd
  exact go (fun _ h => st2 _ h) (F T2 X2 e2)
theorem castY (X : Stand p l e R s m args below meth c T locs cells slots) (hx : p.tables.exec = Jvm.exec) (hZ : Z.Warmed39 s.vm) {own C : String} {index : Nat} (hown : s.vm.findClass own = some m.cls) (w : (Cond.classLink own index C).before a0 Z = true) (eT : T.heap = h) {a : Addr} (E : Exa Z h a C) (hd : decode c.code pc = .ok (.checkcast index, 3)) (hn : pc + 3 = n)
    (F : ∀ T', Stand p l e R s m args below meth c T' locs cells slots → T'.heap = h → Go p e below s Q K N T' (mkF m n Ls (.ref a :: st))) : Go p e below s Q K N T (mkF m pc Ls (.ref a :: st)) := by
  subst hn
  obtain ⟨T2, X2, e2, st2⟩ := RoadKit.castY X hx hZ hown w eT (Ins.self E) (g := mkF m pc Ls (.ref a :: st)) rfl rfl hd
  exact go (fun _ h => st2 _ h) (F T2 X2 e2)
theorem newP (X : Stand p l e R s m args below meth c T locs cells slots) (hx : p.tables.exec = Jvm.exec) (hZ : Z.Warmed39 s.vm) {aty : ArrayType} {ty : FieldType} (hty : newarray.typeOf aty = ty) (w : (Cond.arrayClass ty).before a0 Z = true) (eT : T.heap = h) {z : Int32} (hz : ¬ z < 0) (cap : Nat) (hcap : z.toNatClampNeg = cap) (hb : cap * 8 ≤ 536870912) (hc : cells + 1 ≤ R.cells) (hl : slots + cap ≤ R.slots) (hd : decode c.code pc = .ok (.newarray aty, 2)) (hn : pc + 2 = n)
    (F : ∀ T' h' cA, Stand p l e R s m args below meth c T' locs (cells + 1) (slots + cap) → T'.heap = h' → Ext h h' → Arv Z h' h.size cA ty z (List.replicate cap (defaultValue ty)) (defaultValue ty) → Go p e below s Q K N T' (mkF m n Ls (.ref h.size :: st))) : Go p e below s Q K N T (mkF m pc Ls (.int z :: st)) := by
  subst hn hty
  obtain ⟨T2, h2, cA, X2, e2, E2, A2, st2⟩ := RoadKit.newP X hx hZ w eT (g := mkF m pc Ls (.int z :: st)) rfl hd rfl hz (cap := cap) (Nat.le_of_eq hcap) hb hc hl
  exact go (fun _ h => st2 _ h) (F T2 h2 cA X2 e2 E2 ((Arv.new A2 hz).pad (pad_rep [] _ cap)))

theorem bastore (X : Stand p l e R s m args below meth c T locs cells slots) (hx : p.tables.exec = Jvm.exec) (hZ : Z.Warmed39 s.vm) {a : Addr} {k : ClassId} {z j x : Int32} {vs : List Value} {d : Value} (eT : T.heap = h) (A : Arv Z h a k .byte z vs d) (h1 : 0 ≤ j.toInt) (h2 : j.toInt < z.toInt) (i : Nat) (hj : j.toNatClampNeg = i) (hi : i < vs.length) (hd : decode c.code pc = .ok (.bastore, 1)) (hn : pc + 1 = n)
    (F : ∀ T' h', Stand p l e R s m args below meth c T' (locs ++ [⟨a, j.toNatClampNeg⟩]) cells slots → T'.heap = h' → Wr h h' a j.toNatClampNeg (.int (nar .byte x)) → Arv Z h' a k .byte z (vs.set i (.int (nar .byte x))) d → Go p e below s Q K N T' (mkF m n Ls st)) : Go p e below s Q K N T (mkF m pc Ls (.int x :: .int j :: .ref a :: st)) := by
  subst hn
  obtain ⟨cl, Ar, q1, S, q3, H, G'⟩ := A
  obtain ⟨T2, h2', X2, e2, W2, st2⟩ := RoadKit.stB X hx hZ eT Ar (in_of S q3 h1 h2) (g := mkF m pc Ls (.int x :: .int j :: .ref a :: st)) rfl rfl hd
  exact go (fun _ h => st2 _ h) (F T2 h2' X2 e2 W2 (Arv.set Ar q1 S q3 H G' (fits_nar_byte x) W2 i hj hi))
theorem castore (X : Stand p l e R s m args below meth c T locs cells slots) (hx : p.tables.exec = Jvm.exec) (hZ : Z.Warmed39 s.vm) {a : Addr} {k : ClassId} {z j x : Int32} {vs : List Value} {d : Value} (eT : T.heap = h) (A : Arv Z h a k .char z vs d) (h1 : 0 ≤ j.toInt) (h2 : j.toInt < z.toInt) (i : Nat) (hj : j.toNatClampNeg = i) (hi : i < vs.length) (hd : decode c.code pc = .ok (.castore, 1)) (hn : pc + 1 = n)
    (F : ∀ T' h', Stand p l e R s m args below meth c T' (locs ++ [⟨a, j.toNatClampNeg⟩]) cells slots → T'.heap = h' → Wr h h' a j.toNatClampNeg (.int (nar .char x)) → Arv Z h' a k .char z (vs.set i (.int (nar .char x))) d → Go p e below s Q K N T' (mkF m n Ls st)) : Go p e below s Q K N T (mkF m pc Ls (.int x :: .int j :: .ref a :: st)) := by
  subst hn
  obtain ⟨cl, Ar, q1, S, q3, H, G'⟩ := A
  obtain ⟨T2, h2', X2, e2, W2, st2⟩ := RoadKit.stC X hx hZ eT Ar (in_of S q3 h1 h2) (g := mkF m pc Ls (.int x :: .int j :: .ref a :: st)) rfl rfl hd
  exact go (fun _ h => st2 _ h) (F T2 h2' X2 e2 W2 (Arv.set Ar q1 S q3 H G' (fits_nar_char x) W2 i hj hi))
theorem iastore (X : Stand p l e R s m args below meth c T locs cells slots) (hx : p.tables.exec = Jvm.exec) (hZ : Z.Warmed39 s.vm) {a : Addr} {k : ClassId} {z j x : Int32} {vs : List Value} {d : Value} (eT : T.heap = h) (A : Arv Z h a k .int z vs d) (h1 : 0 ≤ j.toInt) (h2 : j.toInt < z.toInt) (i : Nat) (hj : j.toNatClampNeg = i) (hi : i < vs.length) (hd : decode c.code pc = .ok (.iastore, 1)) (hn : pc + 1 = n)
    (F : ∀ T' h', Stand p l e R s m args below meth c T' (locs ++ [⟨a, j.toNatClampNeg⟩]) cells slots → T'.heap = h' → Wr h h' a j.toNatClampNeg (.int (x)) → Arv Z h' a k .int z (vs.set i (.int (x))) d → Go p e below s Q K N T' (mkF m n Ls st)) : Go p e below s Q K N T (mkF m pc Ls (.int x :: .int j :: .ref a :: st)) := by
  subst hn
  obtain ⟨cl, Ar, q1, S, q3, H, G'⟩ := A
  obtain ⟨T2, h2', X2, e2, W2, st2⟩ := RoadKit.stI X hx hZ eT Ar (in_of S q3 h1 h2) (g := mkF m pc Ls (.int x :: .int j :: .ref a :: st)) rfl rfl hd
  exact go (fun _ h => st2 _ h) (F T2 h2' X2 e2 W2 (Arv.set Ar q1 S q3 H G' (rfl) W2 i hj hi))
def FldE (Z : State) (h : Heap) (a : Addr) (C n d : String) : Prop := ∃ v, Fld Z h a C n d v
theorem FldE.of {Z : State} {h : Heap} {a : Addr} {C n d : String} {v : Value} (F : Fld Z h a C n d v) : FldE Z h a C n d := ⟨v, F⟩
theorem FldE.ext {Z : State} {h h' : Heap} {a : Addr} {C n d : String} (F : FldE Z h a C n d) (E : Ext h h') : FldE Z h' a C n d := by obtain ⟨v, F⟩ := F; exact ⟨v, F.ext E⟩
theorem FldE.keep {Z : State} {h h' : Heap} {ws : List Addr} {a : Addr} {C n d : String} (F : FldE Z h a C n d) (K : Keep h h' ws) : FldE Z h' a C n d := by
  obtain ⟨v, cell, cf, k, i, f, h1, h2, h3, h4, h5, h6, h7⟩ := F
  obtain ⟨c', q, r1, r2, r3⟩ := K.2.2 a cell h1
  have hlt := (Array.getElem?_eq_some_iff.mp h7).1
  exact ⟨_, c', cf, k, i, f, q, h2, h3, r2 ▸ h4, r2 ▸ h5, r1 ▸ h6, Array.getElem?_eq_getElem (r3 ▸ hlt)⟩
theorem FldE.wr {Z : State} {h h' : Heap} {a b' : Addr} {C n d : String} {sl : Nat} {v : Value} (F : FldE Z h b' C n d) (W : Wr h h' a sl v) : FldE Z h' b' C n d := F.keep (Keep.of_wr W)
theorem nfOf {args : Array Value} {s : State} {C : String} {y y' z' : MethodName} (hsel : (Cond.selects C y' z').before args s = true) (hc : z'.cls = y.cls) : NotFace s y := fun r0 h0 => by
  obtain ⟨c2, r2, m2, q1, q2, q3, q4, kP, hkP, hkPi⟩ := Cond.selects_spec hsel
  have h1 := findClass_of_methodNamed q3
  have h2 := findClass_of_methodNamed h0
  rw [hc] at h1
  have e : m2.cls = r0.cls := Option.some.inj (h1.symm.trans h2)
  exact ⟨kP, e ▸ hkP, hkPi⟩
theorem acopy (X : Stand p l e R s m args below meth c T locs cells slots) (hx : p.tables.exec = Jvm.exec) (hZ : Z.Warmed39 s.vm) {own : String} {index : Nat} (hown : s.vm.findClass own = some m.cls) (wl : (Cond.methodLink own index Stand.acN).before a0 Z = true) (wn : (Cond.native Stand.acN).before a0 Z = true) (ws : (Cond.static Stand.acN).before a0 Z = true) (wi : (Cond.initialized "java/lang/System").before a0 Z = true) (eT : T.heap = h)
    {src dst : Addr} {k1 k2 : ClassId} {z1 z2 p1 p2 q : Int32} {vs1 vs2 : List Value} {d1 d2 : Value} (A1 : Arv Z h src k1 .int z1 vs1 d1) (A2 : Arv Z h dst k2 .int z2 vs2 d2) (h1 : 0 ≤ p1.toInt) (h2 : 0 ≤ p2.toInt) (h3 : 0 ≤ q.toInt) (h4 : p1.toInt + q.toInt ≤ z1.toInt) (h5 : p2.toInt + q.toInt ≤ z2.toInt)
    {W : Nat} (hsz : Ls.size = c.maxLocals) (hf : 1 ≤ R.frames) (hW : (st.map fun v => v.category).sum ≤ W) (hl : W + (nativeFrameWords "java/lang/System" "arraycopy" 5 + 11) ≤ R.locals) (hd : decode c.code pc = .ok (.invokestatic index, 3)) (hn : pc + 3 = n)
    (F : ∀ T' h', Stand p l e R s m args below meth c T' (locs ++ Stand.copyLocs dst p2.toNatClampNeg q.toNatClampNeg) cells slots → T'.heap = h' → Keep h h' [dst] → Go p e below s Q K N T' (mkF m n Ls st)) : Go p e below s Q K N T (mkF m pc Ls (.int q :: .int p2 :: .ref dst :: .int p1 :: .ref src :: st)) := by
  subst hn
  subst eT
  obtain ⟨cs, As, -, Ss, Ns, Hs, Gs⟩ := A1
  obtain ⟨cd, Ad, -, Sd, Nd, Hd, Gd⟩ := A2
  have isA := State.isArrayOf_alike hZ.alike As.2.1
  have idA := State.isArrayOf_alike hZ.alike Ad.2.1
  obtain ⟨-, ks, hks, sC, hsk⟩ := isA
  obtain ⟨-, kd, hkd, dC, hdk⟩ := idA
  have en : ∀ x : Int32, 0 ≤ x.toInt → ¬ x < 0 := fun x hx0 => by rw [Int32.lt_iff_toInt_lt]; have e0 : (0 : Int32).toInt = 0 := rfl; omega
  have ez : ∀ x : Int32, ¬ x < 0 → (x.toNatClampNeg : Int) = x.toInt := fun x hx0 => by
    rw [Int32.lt_iff_toInt_lt] at hx0; have e0 : (0 : Int32).toInt = 0 := rfl; have e1 : x.toNatClampNeg = x.toInt.toNat := rfl; omega
  have e1 := ez z1 Ns; have e2 := ez z2 Nd; have e3 := ez p1 (en p1 h1); have e4 := ez q (en q h3); have e5 := ez p2 (en p2 h2)
  obtain ⟨vm₁, -, X', st'⟩ := X.arraycopyK hx hown (mvT hZ wl) (mvT hZ wn) (mvT hZ ws) (mvT hZ wi) (src := src) (dst := dst) (srcPos := p1) (destPos := p2) (n := q) (cs := cs) (cd := cd) As.1 Ad.1
    (fun z e => by have := As.plain; rw [e] at this; cases this) (fun z e => by have := Ad.plain; rw [e] at this; cases this) As.2.2 Ad.2.2 hks hkd hsk hdk rfl (en p1 h1) (en p2 h2) (en q h3) (by rw [Ss]; omega) (by rw [Sd]; omega)
    (fun vm' _ i hi => by
      have hlt : p1.toNatClampNeg + i < cs.slots.size := by rw [Ss]; omega
      have hh := Hs _ hlt
      have hg := Gs _ hlt
      have hgd : cs.slots.getD (p1.toNatClampNeg + i) .null = vs1.getD (p1.toNatClampNeg + i) d1 := by rw [Array.getD_eq_getD_getElem?, hh]; rfl
      rw [hgd]
      refine ⟨hg, ?_⟩
      obtain ⟨x, hx'⟩ := fit_I hg (Or.inl rfl)
      rw [hx']; trivial)
    (g := mkF m pc Ls (.int q :: .int p2 :: .ref dst :: .int p1 :: .ref src :: st)) rfl hsz rfl hd hf (by show 2 * 0 + _ + _ ≤ _; omega)
  refine go (fun _ h => st' _ h) (F _ _ X' rfl ?_)
  have cf := SB.copied_facts cs cd p1 p2 q
  have hb : dst < T.heap.size := (Array.getElem?_eq_some_iff.mp Ad.1).1
  refine ⟨by show T.heap.size ≤ (T.heap.setIfInBounds dst _).size; simp, fun x c hc hx' => ?_, fun x c hc => ?_⟩
  · show (T.heap.setIfInBounds dst _)[x]? = _
    have hne : dst ≠ x := fun z => hx' (by simp [z])
    rw [Array.getElem?_setIfInBounds_ne hne]; exact hc
  · show ∃ c', (T.heap.setIfInBounds dst _)[x]? = some c' ∧ _
    by_cases z : dst = x
    · subst z; cases Ad.1.symm.trans hc
      exact ⟨_, Array.getElem?_setIfInBounds_self_of_lt hb, cf⟩
    · exact ⟨c, by rw [Array.getElem?_setIfInBounds_ne z]; exact hc, rfl, rfl, rfl⟩
theorem ext_of_keep {h h' : Heap} (K : Keep h h' []) : Ext h h' := ⟨K.1, fun a c q => K.2.1 a c q nin0⟩
theorem keep_of_ext {h h' : Heap} (E : Ext h h') : Keep h h' [] := (Keep.refl _ _).ext E
theorem ext_refl (h : Heap) : Ext h h := ⟨Nat.le_refl _, fun _ _ q => q⟩
theorem ext_trans {h h' h'' : Heap} (E : Ext h h') (E' : Ext h' h'') : Ext h h'' := ⟨Nat.le_trans E.1 E'.1, fun a c q => E'.2 a c (E.2 a c q)⟩
end H
end Jvm.Wk
namespace Jvm.Pilot.@@N@@
open Jvm Jvm.ClassFile Sem Op Lib Jvm.Free Jvm.Stand Jvm.LawKit Jvm.RoadKit Bundle Jvm.Pilot.@@N@@.Jvm.D
theorem d1_0 : decode method_2_code 0 = .ok (.iload_n 0, 1) := by decide +kernel
theorem d1_1 : decode method_2_code 1 = .ok (.ifCond .ne 7, 3) := by decide +kernel
theorem d1_4 : decode method_2_code 4 = .ok (.getstatic 7, 3) := by decide +kernel
theorem d1_7 : decode method_2_code 7 = .ok (.areturn, 1) := by decide +kernel
theorem d1_8 : decode method_2_code 8 = .ok (.iload_n 0, 1) := by decide +kernel
theorem d1_9 : decode method_2_code 9 = .ok (.iconst 1, 1) := by decide +kernel
theorem d1_10 : decode method_2_code 10 = .ok (.if_icmp .ne 7, 3) := by decide +kernel
theorem d1_13 : decode method_2_code 13 = .ok (.getstatic 13, 3) := by decide +kernel
theorem d1_16 : decode method_2_code 16 = .ok (.areturn, 1) := by decide +kernel
theorem d1_17 : decode method_2_code 17 = .ok (.iload_n 0, 1) := by decide +kernel
theorem d1_18 : decode method_2_code 18 = .ok (.iconst 2, 1) := by decide +kernel
theorem d1_19 : decode method_2_code 19 = .ok (.if_icmp .ne 7, 3) := by decide +kernel
theorem d1_22 : decode method_2_code 22 = .ok (.getstatic 16, 3) := by decide +kernel
theorem d1_25 : decode method_2_code 25 = .ok (.areturn, 1) := by decide +kernel
theorem d1_26 : decode method_2_code 26 = .ok (.iload_n 0, 1) := by decide +kernel
theorem d1_27 : decode method_2_code 27 = .ok (.iconst 3, 1) := by decide +kernel
theorem d1_28 : decode method_2_code 28 = .ok (.if_icmp .ne 7, 3) := by decide +kernel
theorem d1_31 : decode method_2_code 31 = .ok (.getstatic 19, 3) := by decide +kernel
theorem d1_34 : decode method_2_code 34 = .ok (.areturn, 1) := by decide +kernel
theorem d1_35 : decode method_2_code 35 = .ok (.iload_n 0, 1) := by decide +kernel
theorem d1_36 : decode method_2_code 36 = .ok (.iconst 4, 1) := by decide +kernel
theorem d1_37 : decode method_2_code 37 = .ok (.if_icmp .ne 7, 3) := by decide +kernel
theorem d1_40 : decode method_2_code 40 = .ok (.getstatic 22, 3) := by decide +kernel
theorem d1_43 : decode method_2_code 43 = .ok (.areturn, 1) := by decide +kernel
theorem d1_44 : decode method_2_code 44 = .ok (.iload_n 0, 1) := by decide +kernel
theorem d1_45 : decode method_2_code 45 = .ok (.iconst 5, 1) := by decide +kernel
theorem d1_46 : decode method_2_code 46 = .ok (.if_icmp .ne 7, 3) := by decide +kernel
theorem d1_49 : decode method_2_code 49 = .ok (.getstatic 25, 3) := by decide +kernel
theorem d1_52 : decode method_2_code 52 = .ok (.areturn, 1) := by decide +kernel
theorem d1_53 : decode method_2_code 53 = .ok (.iload_n 0, 1) := by decide +kernel
theorem d1_54 : decode method_2_code 54 = .ok (.bipush 6, 2) := by decide +kernel
theorem d1_56 : decode method_2_code 56 = .ok (.if_icmp .ne 7, 3) := by decide +kernel
theorem d1_59 : decode method_2_code 59 = .ok (.getstatic 28, 3) := by decide +kernel
theorem d1_62 : decode method_2_code 62 = .ok (.areturn, 1) := by decide +kernel
theorem d1_63 : decode method_2_code 63 = .ok (.iload_n 0, 1) := by decide +kernel
theorem d1_64 : decode method_2_code 64 = .ok (.bipush 7, 2) := by decide +kernel
theorem d1_66 : decode method_2_code 66 = .ok (.if_icmp .ne 7, 3) := by decide +kernel
theorem d1_69 : decode method_2_code 69 = .ok (.getstatic 31, 3) := by decide +kernel
theorem d1_72 : decode method_2_code 72 = .ok (.areturn, 1) := by decide +kernel
theorem d1_73 : decode method_2_code 73 = .ok (.iload_n 0, 1) := by decide +kernel
theorem d1_74 : decode method_2_code 74 = .ok (.bipush 8, 2) := by decide +kernel
theorem d1_76 : decode method_2_code 76 = .ok (.if_icmp .ne 7, 3) := by decide +kernel
theorem d1_79 : decode method_2_code 79 = .ok (.getstatic 34, 3) := by decide +kernel
theorem d1_82 : decode method_2_code 82 = .ok (.areturn, 1) := by decide +kernel
theorem d1_83 : decode method_2_code 83 = .ok (.iload_n 0, 1) := by decide +kernel
theorem d1_84 : decode method_2_code 84 = .ok (.bipush 9, 2) := by decide +kernel
theorem d1_86 : decode method_2_code 86 = .ok (.if_icmp .ne 7, 3) := by decide +kernel
theorem d1_89 : decode method_2_code 89 = .ok (.getstatic 37, 3) := by decide +kernel
theorem d1_92 : decode method_2_code 92 = .ok (.areturn, 1) := by decide +kernel
theorem d1_93 : decode method_2_code 93 = .ok (.iload_n 0, 1) := by decide +kernel
theorem d1_94 : decode method_2_code 94 = .ok (.bipush 10, 2) := by decide +kernel
theorem d1_96 : decode method_2_code 96 = .ok (.if_icmp .ne 7, 3) := by decide +kernel
theorem d1_99 : decode method_2_code 99 = .ok (.getstatic 40, 3) := by decide +kernel
theorem d1_102 : decode method_2_code 102 = .ok (.areturn, 1) := by decide +kernel
theorem d1_103 : decode method_2_code 103 = .ok (.iload_n 0, 1) := by decide +kernel
theorem d1_104 : decode method_2_code 104 = .ok (.bipush 11, 2) := by decide +kernel
theorem d1_106 : decode method_2_code 106 = .ok (.if_icmp .ne 7, 3) := by decide +kernel
theorem d1_109 : decode method_2_code 109 = .ok (.getstatic 43, 3) := by decide +kernel
theorem d1_112 : decode method_2_code 112 = .ok (.areturn, 1) := by decide +kernel
theorem d1_113 : decode method_2_code 113 = .ok (.getstatic 46, 3) := by decide +kernel
theorem d1_116 : decode method_2_code 116 = .ok (.areturn, 1) := by decide +kernel
theorem pd1 : parseMethodDescriptor "(I)Lcom/example/tunnus/tunnus/model/Setting;" = some ⟨[.int], some (.object "com/example/tunnus/tunnus/model/Setting")⟩ := by decide +kernel
theorem pn1 : plainName "com/example/tunnus/tunnus/model/SettingAcceptsPinLaw" = true := by first | (simp [plainName, overriddenIn]; done) | decide +kernel
theorem d2_0 : decode method_3_code 0 = .ok (.iload_n 0, 1) := by decide +kernel
theorem d2_1 : decode method_3_code 1 = .ok (.iconst 2, 1) := by decide +kernel
theorem d2_2 : decode method_3_code 2 = .ok (.if_icmp .eq 21, 3) := by decide +kernel
theorem d2_5 : decode method_3_code 5 = .ok (.iload_n 0, 1) := by decide +kernel
theorem d2_6 : decode method_3_code 6 = .ok (.bipush 9, 2) := by decide +kernel
theorem d2_8 : decode method_3_code 8 = .ok (.if_icmp .eq 15, 3) := by decide +kernel
theorem d2_11 : decode method_3_code 11 = .ok (.iload_n 0, 1) := by decide +kernel
theorem d2_12 : decode method_3_code 12 = .ok (.bipush 10, 2) := by decide +kernel
theorem d2_14 : decode method_3_code 14 = .ok (.if_icmp .eq 9, 3) := by decide +kernel
theorem d2_17 : decode method_3_code 17 = .ok (.iload_n 0, 1) := by decide +kernel
theorem d2_18 : decode method_3_code 18 = .ok (.bipush 11, 2) := by decide +kernel
theorem d2_20 : decode method_3_code 20 = .ok (.if_icmp .ne 5, 3) := by decide +kernel
theorem d2_23 : decode method_3_code 23 = .ok (.lconst 1, 1) := by decide +kernel
theorem d2_24 : decode method_3_code 24 = .ok (.lreturn, 1) := by decide +kernel
theorem d2_25 : decode method_3_code 25 = .ok (.iload_n 0, 1) := by decide +kernel
theorem d2_26 : decode method_3_code 26 = .ok (.iconst 3, 1) := by decide +kernel
theorem d2_27 : decode method_3_code 27 = .ok (.if_icmp .ne 7, 3) := by decide +kernel
theorem d2_30 : decode method_3_code 30 = .ok (.ldc2_w 49, 3) := by decide +kernel
theorem d2_33 : decode method_3_code 33 = .ok (.lreturn, 1) := by decide +kernel
theorem d2_34 : decode method_3_code 34 = .ok (.lconst 0, 1) := by decide +kernel
theorem d2_35 : decode method_3_code 35 = .ok (.lreturn, 1) := by decide +kernel
theorem pd2 : parseMethodDescriptor "(I)J" = some ⟨[.int], some .long⟩ := by decide +kernel
theorem pn2 : plainName "com/example/tunnus/tunnus/model/SettingAcceptsPinLaw" = true := by first | (simp [plainName, overriddenIn]; done) | decide +kernel
theorem d3_0 : decode method_4_code 0 = .ok (.iload_n 0, 1) := by decide +kernel
theorem d3_1 : decode method_4_code 1 = .ok (.ifCond .eq 9, 3) := by decide +kernel
theorem d3_4 : decode method_4_code 4 = .ok (.iload_n 0, 1) := by decide +kernel
theorem d3_5 : decode method_4_code 5 = .ok (.bipush 8, 2) := by decide +kernel
theorem d3_7 : decode method_4_code 7 = .ok (.if_icmp .ne 7, 3) := by decide +kernel
theorem d3_10 : decode method_4_code 10 = .ok (.ldc2_w 51, 3) := by decide +kernel
theorem d3_13 : decode method_4_code 13 = .ok (.lreturn, 1) := by decide +kernel
theorem d3_14 : decode method_4_code 14 = .ok (.iload_n 0, 1) := by decide +kernel
theorem d3_15 : decode method_4_code 15 = .ok (.iconst 1, 1) := by decide +kernel
theorem d3_16 : decode method_4_code 16 = .ok (.if_icmp .eq 14, 3) := by decide +kernel
theorem d3_19 : decode method_4_code 19 = .ok (.iload_n 0, 1) := by decide +kernel
theorem d3_20 : decode method_4_code 20 = .ok (.iconst 2, 1) := by decide +kernel
theorem d3_21 : decode method_4_code 21 = .ok (.if_icmp .eq 9, 3) := by decide +kernel
theorem d3_24 : decode method_4_code 24 = .ok (.iload_n 0, 1) := by decide +kernel
theorem d3_25 : decode method_4_code 25 = .ok (.bipush 10, 2) := by decide +kernel
theorem d3_27 : decode method_4_code 27 = .ok (.if_icmp .ne 7, 3) := by decide +kernel
theorem d3_30 : decode method_4_code 30 = .ok (.ldc2_w 53, 3) := by decide +kernel
theorem d3_33 : decode method_4_code 33 = .ok (.lreturn, 1) := by decide +kernel
theorem d3_34 : decode method_4_code 34 = .ok (.iload_n 0, 1) := by decide +kernel
theorem d3_35 : decode method_4_code 35 = .ok (.iconst 3, 1) := by decide +kernel
theorem d3_36 : decode method_4_code 36 = .ok (.if_icmp .lt 13, 3) := by decide +kernel
theorem d3_39 : decode method_4_code 39 = .ok (.iload_n 0, 1) := by decide +kernel
theorem d3_40 : decode method_4_code 40 = .ok (.bipush 7, 2) := by decide +kernel
theorem d3_42 : decode method_4_code 42 = .ok (.if_icmp .gt 7, 3) := by decide +kernel
theorem d3_45 : decode method_4_code 45 = .ok (.ldc2_w 55, 3) := by decide +kernel
theorem d3_48 : decode method_4_code 48 = .ok (.lreturn, 1) := by decide +kernel
theorem d3_49 : decode method_4_code 49 = .ok (.iload_n 0, 1) := by decide +kernel
theorem d3_50 : decode method_4_code 50 = .ok (.bipush 9, 2) := by decide +kernel
theorem d3_52 : decode method_4_code 52 = .ok (.if_icmp .eq 9, 3) := by decide +kernel
theorem d3_55 : decode method_4_code 55 = .ok (.iload_n 0, 1) := by decide +kernel
theorem d3_56 : decode method_4_code 56 = .ok (.bipush 11, 2) := by decide +kernel
theorem d3_58 : decode method_4_code 58 = .ok (.if_icmp .ne 7, 3) := by decide +kernel
theorem d3_61 : decode method_4_code 61 = .ok (.ldc2_w 57, 3) := by decide +kernel
theorem d3_64 : decode method_4_code 64 = .ok (.lreturn, 1) := by decide +kernel
theorem d3_65 : decode method_4_code 65 = .ok (.ldc2_w 59, 3) := by decide +kernel
theorem d3_68 : decode method_4_code 68 = .ok (.lreturn, 1) := by decide +kernel
theorem pd3 : parseMethodDescriptor "(I)J" = some ⟨[.int], some .long⟩ := by decide +kernel
theorem pn3 : plainName "com/example/tunnus/tunnus/model/SettingAcceptsPinLaw" = true := by first | (simp [plainName, overriddenIn]; done) | decide +kernel
theorem d4_0 : decode prog_16_method_7_code 0 = .ok (.lload_n 1, 1) := by decide +kernel
theorem d4_1 : decode prog_16_method_7_code 1 = .ok (.aload_n 0, 1) := by decide +kernel
theorem d4_2 : decode prog_16_method_7_code 2 = .ok (.getfield 70, 3) := by decide +kernel
theorem d4_5 : decode prog_16_method_7_code 5 = .ok (.i2l, 1) := by decide +kernel
theorem d4_6 : decode prog_16_method_7_code 6 = .ok (.lcmp, 1) := by decide +kernel
theorem d4_7 : decode prog_16_method_7_code 7 = .ok (.ifCond .lt 17, 3) := by decide +kernel
theorem d4_10 : decode prog_16_method_7_code 10 = .ok (.lload_n 1, 1) := by decide +kernel
theorem d4_11 : decode prog_16_method_7_code 11 = .ok (.aload_n 0, 1) := by decide +kernel
theorem d4_12 : decode prog_16_method_7_code 12 = .ok (.getfield 73, 3) := by decide +kernel
theorem d4_15 : decode prog_16_method_7_code 15 = .ok (.i2l, 1) := by decide +kernel
theorem d4_16 : decode prog_16_method_7_code 16 = .ok (.lcmp, 1) := by decide +kernel
theorem d4_17 : decode prog_16_method_7_code 17 = .ok (.ifCond .gt 7, 3) := by decide +kernel
theorem d4_20 : decode prog_16_method_7_code 20 = .ok (.iconst 1, 1) := by decide +kernel
theorem d4_21 : decode prog_16_method_7_code 21 = .ok (.goto 4, 3) := by decide +kernel
theorem d4_24 : decode prog_16_method_7_code 24 = .ok (.iconst 0, 1) := by decide +kernel
theorem d4_25 : decode prog_16_method_7_code 25 = .ok (.ireturn, 1) := by decide +kernel
theorem pd4 : parseMethodDescriptor "(J)Z" = some ⟨[.long], some .boolean⟩ := by decide +kernel
theorem pn4 : plainName "com/example/tunnus/tunnus/model/Setting" = true := by first | (simp [plainName, overriddenIn]; done) | decide +kernel
theorem pnL : plainName "com/example/tunnus/tunnus/model/SettingAcceptsPinLaw" = true := by first | (simp [plainName, overriddenIn]; done) | decide +kernel
set_option maxRecDepth 65536 in
set_option maxHeartbeats 40000000 in
theorem pick0 (l : Launch) (Z : State) (a0 : Array Value) (hw : ∀ d ∈ tables_1, d.before a0 Z = true) (a : Addr) (h0 : Heap) (S : Sta Z h0 "com/example/tunnus/tunnus/model/Setting" "ACCOUNT_VALIDITY_DAYS" "Lcom/example/tunnus/tunnus/model/Setting;" (.ref a)) : Wk.Met l Z (⟨"com/example/tunnus/tunnus/model/SettingAcceptsPinLaw", "pick", "(I)Lcom/example/tunnus/tunnus/model/Setting;"⟩ : MethodName) method_2_code 1 (some (.object "com/example/tunnus/tunnus/model/Setting")) [] { frames := 0, cells := 0, slots := 0, locals := 0 } #[(.int (0 : Int32))] h0 (Wk.Pu (.ref a) h0) := by
  refine Wk.start pn1 ?_
  intro p e s m below meth c s₁ X0 hx hby hml hown0 hnm hret hlk hZ e0
  have hown : s.vm.findClass "com/example/tunnus/tunnus/model/SettingAcceptsPinLaw" = some m.cls := hown0
  refine Wk.enter (g' := (mkF m 0 #[.val (.int (0 : Int32))] [])) (by first | rfl | (simp [entryFrame, mkF, argsToLocals, Value.category, maxLocals]; done)) ?_
  refine Wk.iloadN X0 hx (hb hby d1_0) rfl rfl ?_
  refine Wk.if_ne X0 hx 8 4 (hb hby d1_1) rfl rfl (show ((0 : Int32) : Int32).toInt = 0 from (by decide)) (fun h1 => absurd h1 (by omega)) (fun h1 => ?_)
  refine Wk.getS (host := "") X0 hx hZ hown (Or.inl (hw _ (List.mem_of_getElem? (i := 5) rfl))) e0 S (hb hby d1_4) rfl (fun T2 X2 e2 => ?_)
  exact Wk.retA X2 hx hlk hret rfl rfl (hb hby d1_7) (Nat.zero_le _) (Nat.zero_le _) (Wk.pu e2)
set_option maxRecDepth 65536 in
set_option maxHeartbeats 40000000 in
theorem lo0 (l : Launch) (Z : State) (a0 : Array Value) (hw : ∀ d ∈ tables_1, d.before a0 Z = true)  (h0 : Heap)  : Wk.Met l Z (⟨"com/example/tunnus/tunnus/model/SettingAcceptsPinLaw", "lo", "(I)J"⟩ : MethodName) method_3_code 1 (some .long) [] { frames := 0, cells := 0, slots := 0, locals := 0 } #[(.int (0 : Int32))] h0 (Wk.Pu (.long (0 : Int32).toInt64) h0) := by
  refine Wk.start pn2 ?_
  intro p e s m below meth c s₁ X0 hx hby hml hown0 hnm hret hlk hZ e0
  have hown : s.vm.findClass "com/example/tunnus/tunnus/model/SettingAcceptsPinLaw" = some m.cls := hown0
  refine Wk.enter (g' := (mkF m 0 #[.val (.int (0 : Int32))] [])) (by first | rfl | (simp [entryFrame, mkF, argsToLocals, Value.category, maxLocals]; done)) ?_
  refine Wk.iloadN X0 hx (hb hby d2_0) rfl rfl ?_
  refine Wk.iconst X0 hx (2 : Int32) (hb hby d2_1) rfl rfl ?_
  refine Wk.icmp_eq X0 hx 23 5 (hb hby d2_2) rfl rfl (show ((0 : Int32) : Int32).toInt = 0 from (by decide)) (show ((2 : Int32) : Int32).toInt = 2 from (by decide)) (fun h1 => absurd h1 (by omega)) (fun h1 => ?_)
  refine Wk.iloadN X0 hx (hb hby d2_5) rfl rfl ?_
  refine Wk.bipush X0 hx (9 : Int32) (hb hby d2_6) rfl rfl ?_
  refine Wk.icmp_eq X0 hx 23 11 (hb hby d2_8) rfl rfl (show ((0 : Int32) : Int32).toInt = 0 from (by decide)) (show ((9 : Int32) : Int32).toInt = 9 from (by decide)) (fun h2 => absurd h2 (by omega)) (fun h2 => ?_)
  refine Wk.iloadN X0 hx (hb hby d2_11) rfl rfl ?_
  refine Wk.bipush X0 hx (10 : Int32) (hb hby d2_12) rfl rfl ?_
  refine Wk.icmp_eq X0 hx 23 17 (hb hby d2_14) rfl rfl (show ((0 : Int32) : Int32).toInt = 0 from (by decide)) (show ((10 : Int32) : Int32).toInt = 10 from (by decide)) (fun h3 => absurd h3 (by omega)) (fun h3 => ?_)
  refine Wk.iloadN X0 hx (hb hby d2_17) rfl rfl ?_
  refine Wk.bipush X0 hx (11 : Int32) (hb hby d2_18) rfl rfl ?_
  refine Wk.icmp_ne X0 hx 25 23 (hb hby d2_20) rfl rfl (show ((0 : Int32) : Int32).toInt = 0 from (by decide)) (show ((11 : Int32) : Int32).toInt = 11 from (by decide)) (fun h4 => ?_) (fun h4 => absurd h4 (by omega))
  refine Wk.iloadN X0 hx (hb hby d2_25) rfl rfl ?_
  refine Wk.iconst X0 hx (3 : Int32) (hb hby d2_26) rfl rfl ?_
  refine Wk.icmp_ne X0 hx 34 30 (hb hby d2_27) rfl rfl (show ((0 : Int32) : Int32).toInt = 0 from (by decide)) (show ((3 : Int32) : Int32).toInt = 3 from (by decide)) (fun h5 => ?_) (fun h5 => absurd h5 (by omega))
  refine Wk.lconst X0 hx (0 : Int64) (hb hby d2_34) rfl rfl ?_
  exact Wk.retL X0 hx hlk hret (hb hby d2_35) (Nat.zero_le _) (Nat.zero_le _) (Wk.puE (by decide) e0)
set_option maxRecDepth 65536 in
set_option maxHeartbeats 40000000 in
theorem hi0 (l : Launch) (Z : State) (a0 : Array Value) (hw : ∀ d ∈ tables_1, d.before a0 Z = true)  (h0 : Heap)  : Wk.Met l Z (⟨"com/example/tunnus/tunnus/model/SettingAcceptsPinLaw", "hi", "(I)J"⟩ : MethodName) method_4_code 1 (some .long) [] { frames := 0, cells := 0, slots := 0, locals := 0 } #[(.int (0 : Int32))] h0 (Wk.Pu (.long (36500 : Int32).toInt64) h0) := by
  refine Wk.start pn3 ?_
  intro p e s m below meth c s₁ X0 hx hby hml hown0 hnm hret hlk hZ e0
  have hown : s.vm.findClass "com/example/tunnus/tunnus/model/SettingAcceptsPinLaw" = some m.cls := hown0
  refine Wk.enter (g' := (mkF m 0 #[.val (.int (0 : Int32))] [])) (by first | rfl | (simp [entryFrame, mkF, argsToLocals, Value.category, maxLocals]; done)) ?_
  refine Wk.iloadN X0 hx (hb hby d3_0) rfl rfl ?_
  refine Wk.if_eq X0 hx 10 4 (hb hby d3_1) rfl rfl (show ((0 : Int32) : Int32).toInt = 0 from (by decide)) (fun h1 => ?_) (fun h1 => absurd h1 (by omega))
  refine Wk.ldcJ X0 hx hZ hown (hw _ (List.mem_of_getElem? (i := 14) rfl)) (hb hby d3_10) rfl ?_
  exact Wk.retL X0 hx hlk hret (hb hby d3_13) (Nat.zero_le _) (Nat.zero_le _) (Wk.puE (by decide) e0)
set_option maxRecDepth 65536 in
set_option maxHeartbeats 40000000 in
theorem pick1 (l : Launch) (Z : State) (a0 : Array Value) (hw : ∀ d ∈ tables_1, d.before a0 Z = true) (a : Addr) (h0 : Heap) (S : Sta Z h0 "com/example/tunnus/tunnus/model/Setting" "FAILED_LOGIN_LIMIT" "Lcom/example/tunnus/tunnus/model/Setting;" (.ref a)) : Wk.Met l Z (⟨"com/example/tunnus/tunnus/model/SettingAcceptsPinLaw", "pick", "(I)Lcom/example/tunnus/tunnus/model/Setting;"⟩ : MethodName) method_2_code 1 (some (.object "com/example/tunnus/tunnus/model/Setting")) [] { frames := 0, cells := 0, slots := 0, locals := 0 } #[(.int (1 : Int32))] h0 (Wk.Pu (.ref a) h0) := by
  refine Wk.start pn1 ?_
  intro p e s m below meth c s₁ X0 hx hby hml hown0 hnm hret hlk hZ e0
  have hown : s.vm.findClass "com/example/tunnus/tunnus/model/SettingAcceptsPinLaw" = some m.cls := hown0
  refine Wk.enter (g' := (mkF m 0 #[.val (.int (1 : Int32))] [])) (by first | rfl | (simp [entryFrame, mkF, argsToLocals, Value.category, maxLocals]; done)) ?_
  refine Wk.iloadN X0 hx (hb hby d1_0) rfl rfl ?_
  refine Wk.if_ne X0 hx 8 4 (hb hby d1_1) rfl rfl (show ((1 : Int32) : Int32).toInt = 1 from (by decide)) (fun h1 => ?_) (fun h1 => absurd h1 (by omega))
  refine Wk.iloadN X0 hx (hb hby d1_8) rfl rfl ?_
  refine Wk.iconst X0 hx (1 : Int32) (hb hby d1_9) rfl rfl ?_
  refine Wk.icmp_ne X0 hx 17 13 (hb hby d1_10) rfl rfl (show ((1 : Int32) : Int32).toInt = 1 from (by decide)) (show ((1 : Int32) : Int32).toInt = 1 from (by decide)) (fun h2 => absurd h2 (by omega)) (fun h2 => ?_)
  refine Wk.getS (host := "") X0 hx hZ hown (Or.inl (hw _ (List.mem_of_getElem? (i := 45) rfl))) e0 S (hb hby d1_13) rfl (fun T3 X3 e3 => ?_)
  exact Wk.retA X3 hx hlk hret rfl rfl (hb hby d1_16) (Nat.zero_le _) (Nat.zero_le _) (Wk.pu e3)
set_option maxRecDepth 65536 in
set_option maxHeartbeats 40000000 in
theorem lo1 (l : Launch) (Z : State) (a0 : Array Value) (hw : ∀ d ∈ tables_1, d.before a0 Z = true)  (h0 : Heap)  : Wk.Met l Z (⟨"com/example/tunnus/tunnus/model/SettingAcceptsPinLaw", "lo", "(I)J"⟩ : MethodName) method_3_code 1 (some .long) [] { frames := 0, cells := 0, slots := 0, locals := 0 } #[(.int (1 : Int32))] h0 (Wk.Pu (.long (0 : Int32).toInt64) h0) := by
  refine Wk.start pn2 ?_
  intro p e s m below meth c s₁ X0 hx hby hml hown0 hnm hret hlk hZ e0
  have hown : s.vm.findClass "com/example/tunnus/tunnus/model/SettingAcceptsPinLaw" = some m.cls := hown0
  refine Wk.enter (g' := (mkF m 0 #[.val (.int (1 : Int32))] [])) (by first | rfl | (simp [entryFrame, mkF, argsToLocals, Value.category, maxLocals]; done)) ?_
  refine Wk.iloadN X0 hx (hb hby d2_0) rfl rfl ?_
  refine Wk.iconst X0 hx (2 : Int32) (hb hby d2_1) rfl rfl ?_
  refine Wk.icmp_eq X0 hx 23 5 (hb hby d2_2) rfl rfl (show ((1 : Int32) : Int32).toInt = 1 from (by decide)) (show ((2 : Int32) : Int32).toInt = 2 from (by decide)) (fun h1 => absurd h1 (by omega)) (fun h1 => ?_)
  refine Wk.iloadN X0 hx (hb hby d2_5) rfl rfl ?_
  refine Wk.bipush X0 hx (9 : Int32) (hb hby d2_6) rfl rfl ?_
  refine Wk.icmp_eq X0 hx 23 11 (hb hby d2_8) rfl rfl (show ((1 : Int32) : Int32).toInt = 1 from (by decide)) (show ((9 : Int32) : Int32).toInt = 9 from (by decide)) (fun h2 => absurd h2 (by omega)) (fun h2 => ?_)
  refine Wk.iloadN X0 hx (hb hby d2_11) rfl rfl ?_
  refine Wk.bipush X0 hx (10 : Int32) (hb hby d2_12) rfl rfl ?_
  refine Wk.icmp_eq X0 hx 23 17 (hb hby d2_14) rfl rfl (show ((1 : Int32) : Int32).toInt = 1 from (by decide)) (show ((10 : Int32) : Int32).toInt = 10 from (by decide)) (fun h3 => absurd h3 (by omega)) (fun h3 => ?_)
  refine Wk.iloadN X0 hx (hb hby d2_17) rfl rfl ?_
  refine Wk.bipush X0 hx (11 : Int32) (hb hby d2_18) rfl rfl ?_
  refine Wk.icmp_ne X0 hx 25 23 (hb hby d2_20) rfl rfl (show ((1 : Int32) : Int32).toInt = 1 from (by decide)) (show ((11 : Int32) : Int32).toInt = 11 from (by decide)) (fun h4 => ?_) (fun h4 => absurd h4 (by omega))
  refine Wk.iloadN X0 hx (hb hby d2_25) rfl rfl ?_
  refine Wk.iconst X0 hx (3 : Int32) (hb hby d2_26) rfl rfl ?_
  refine Wk.icmp_ne X0 hx 34 30 (hb hby d2_27) rfl rfl (show ((1 : Int32) : Int32).toInt = 1 from (by decide)) (show ((3 : Int32) : Int32).toInt = 3 from (by decide)) (fun h5 => ?_) (fun h5 => absurd h5 (by omega))
  refine Wk.lconst X0 hx (0 : Int64) (hb hby d2_34) rfl rfl ?_
  exact Wk.retL X0 hx hlk hret (hb hby d2_35) (Nat.zero_le _) (Nat.zero_le _) (Wk.puE (by decide) e0)
set_option maxRecDepth 65536 in
set_option maxHeartbeats 40000000 in
theorem hi1 (l : Launch) (Z : State) (a0 : Array Value) (hw : ∀ d ∈ tables_1, d.before a0 Z = true)  (h0 : Heap)  : Wk.Met l Z (⟨"com/example/tunnus/tunnus/model/SettingAcceptsPinLaw", "hi", "(I)J"⟩ : MethodName) method_4_code 1 (some .long) [] { frames := 0, cells := 0, slots := 0, locals := 0 } #[(.int (1 : Int32))] h0 (Wk.Pu (.long (2147483647 : Int32).toInt64) h0) := by
  refine Wk.start pn3 ?_
  intro p e s m below meth c s₁ X0 hx hby hml hown0 hnm hret hlk hZ e0
  have hown : s.vm.findClass "com/example/tunnus/tunnus/model/SettingAcceptsPinLaw" = some m.cls := hown0
  refine Wk.enter (g' := (mkF m 0 #[.val (.int (1 : Int32))] [])) (by first | rfl | (simp [entryFrame, mkF, argsToLocals, Value.category, maxLocals]; done)) ?_
  refine Wk.iloadN X0 hx (hb hby d3_0) rfl rfl ?_
  refine Wk.if_eq X0 hx 10 4 (hb hby d3_1) rfl rfl (show ((1 : Int32) : Int32).toInt = 1 from (by decide)) (fun h1 => absurd h1 (by omega)) (fun h1 => ?_)
  refine Wk.iloadN X0 hx (hb hby d3_4) rfl rfl ?_
  refine Wk.bipush X0 hx (8 : Int32) (hb hby d3_5) rfl rfl ?_
  refine Wk.icmp_ne X0 hx 14 10 (hb hby d3_7) rfl rfl (show ((1 : Int32) : Int32).toInt = 1 from (by decide)) (show ((8 : Int32) : Int32).toInt = 8 from (by decide)) (fun h2 => ?_) (fun h2 => absurd h2 (by omega))
  refine Wk.iloadN X0 hx (hb hby d3_14) rfl rfl ?_
  refine Wk.iconst X0 hx (1 : Int32) (hb hby d3_15) rfl rfl ?_
  refine Wk.icmp_eq X0 hx 30 19 (hb hby d3_16) rfl rfl (show ((1 : Int32) : Int32).toInt = 1 from (by decide)) (show ((1 : Int32) : Int32).toInt = 1 from (by decide)) (fun h3 => ?_) (fun h3 => absurd h3 (by omega))
  refine Wk.ldcJ X0 hx hZ hown (hw _ (List.mem_of_getElem? (i := 33) rfl)) (hb hby d3_30) rfl ?_
  exact Wk.retL X0 hx hlk hret (hb hby d3_33) (Nat.zero_le _) (Nat.zero_le _) (Wk.puE (by decide) e0)
set_option maxRecDepth 65536 in
set_option maxHeartbeats 40000000 in
theorem pick2 (l : Launch) (Z : State) (a0 : Array Value) (hw : ∀ d ∈ tables_1, d.before a0 Z = true) (a : Addr) (h0 : Heap) (S : Sta Z h0 "com/example/tunnus/tunnus/model/Setting" "TOKEN_LIFETIME_SECONDS" "Lcom/example/tunnus/tunnus/model/Setting;" (.ref a)) : Wk.Met l Z (⟨"com/example/tunnus/tunnus/model/SettingAcceptsPinLaw", "pick", "(I)Lcom/example/tunnus/tunnus/model/Setting;"⟩ : MethodName) method_2_code 1 (some (.object "com/example/tunnus/tunnus/model/Setting")) [] { frames := 0, cells := 0, slots := 0, locals := 0 } #[(.int (2 : Int32))] h0 (Wk.Pu (.ref a) h0) := by
  refine Wk.start pn1 ?_
  intro p e s m below meth c s₁ X0 hx hby hml hown0 hnm hret hlk hZ e0
  have hown : s.vm.findClass "com/example/tunnus/tunnus/model/SettingAcceptsPinLaw" = some m.cls := hown0
  refine Wk.enter (g' := (mkF m 0 #[.val (.int (2 : Int32))] [])) (by first | rfl | (simp [entryFrame, mkF, argsToLocals, Value.category, maxLocals]; done)) ?_
  refine Wk.iloadN X0 hx (hb hby d1_0) rfl rfl ?_
  refine Wk.if_ne X0 hx 8 4 (hb hby d1_1) rfl rfl (show ((2 : Int32) : Int32).toInt = 2 from (by decide)) (fun h1 => ?_) (fun h1 => absurd h1 (by omega))
  refine Wk.iloadN X0 hx (hb hby d1_8) rfl rfl ?_
  refine Wk.iconst X0 hx (1 : Int32) (hb hby d1_9) rfl rfl ?_
  refine Wk.icmp_ne X0 hx 17 13 (hb hby d1_10) rfl rfl (show ((2 : Int32) : Int32).toInt = 2 from (by decide)) (show ((1 : Int32) : Int32).toInt = 1 from (by decide)) (fun h2 => ?_) (fun h2 => absurd h2 (by omega))
  refine Wk.iloadN X0 hx (hb hby d1_17) rfl rfl ?_
  refine Wk.iconst X0 hx (2 : Int32) (hb hby d1_18) rfl rfl ?_
  refine Wk.icmp_ne X0 hx 26 22 (hb hby d1_19) rfl rfl (show ((2 : Int32) : Int32).toInt = 2 from (by decide)) (show ((2 : Int32) : Int32).toInt = 2 from (by decide)) (fun h3 => absurd h3 (by omega)) (fun h3 => ?_)
  refine Wk.getS (host := "") X0 hx hZ hown (Or.inl (hw _ (List.mem_of_getElem? (i := 31) rfl))) e0 S (hb hby d1_22) rfl (fun T4 X4 e4 => ?_)
  exact Wk.retA X4 hx hlk hret rfl rfl (hb hby d1_25) (Nat.zero_le _) (Nat.zero_le _) (Wk.pu e4)
set_option maxRecDepth 65536 in
set_option maxHeartbeats 40000000 in
theorem lo2 (l : Launch) (Z : State) (a0 : Array Value) (hw : ∀ d ∈ tables_1, d.before a0 Z = true)  (h0 : Heap)  : Wk.Met l Z (⟨"com/example/tunnus/tunnus/model/SettingAcceptsPinLaw", "lo", "(I)J"⟩ : MethodName) method_3_code 1 (some .long) [] { frames := 0, cells := 0, slots := 0, locals := 0 } #[(.int (2 : Int32))] h0 (Wk.Pu (.long (1 : Int32).toInt64) h0) := by
  refine Wk.start pn2 ?_
  intro p e s m below meth c s₁ X0 hx hby hml hown0 hnm hret hlk hZ e0
  have hown : s.vm.findClass "com/example/tunnus/tunnus/model/SettingAcceptsPinLaw" = some m.cls := hown0
  refine Wk.enter (g' := (mkF m 0 #[.val (.int (2 : Int32))] [])) (by first | rfl | (simp [entryFrame, mkF, argsToLocals, Value.category, maxLocals]; done)) ?_
  refine Wk.iloadN X0 hx (hb hby d2_0) rfl rfl ?_
  refine Wk.iconst X0 hx (2 : Int32) (hb hby d2_1) rfl rfl ?_
  refine Wk.icmp_eq X0 hx 23 5 (hb hby d2_2) rfl rfl (show ((2 : Int32) : Int32).toInt = 2 from (by decide)) (show ((2 : Int32) : Int32).toInt = 2 from (by decide)) (fun h1 => ?_) (fun h1 => absurd h1 (by omega))
  refine Wk.lconst X0 hx (1 : Int64) (hb hby d2_23) rfl rfl ?_
  exact Wk.retL X0 hx hlk hret (hb hby d2_24) (Nat.zero_le _) (Nat.zero_le _) (Wk.puE (by decide) e0)
set_option maxRecDepth 65536 in
set_option maxHeartbeats 40000000 in
theorem hi2 (l : Launch) (Z : State) (a0 : Array Value) (hw : ∀ d ∈ tables_1, d.before a0 Z = true)  (h0 : Heap)  : Wk.Met l Z (⟨"com/example/tunnus/tunnus/model/SettingAcceptsPinLaw", "hi", "(I)J"⟩ : MethodName) method_4_code 1 (some .long) [] { frames := 0, cells := 0, slots := 0, locals := 0 } #[(.int (2 : Int32))] h0 (Wk.Pu (.long (2147483647 : Int32).toInt64) h0) := by
  refine Wk.start pn3 ?_
  intro p e s m below meth c s₁ X0 hx hby hml hown0 hnm hret hlk hZ e0
  have hown : s.vm.findClass "com/example/tunnus/tunnus/model/SettingAcceptsPinLaw" = some m.cls := hown0
  refine Wk.enter (g' := (mkF m 0 #[.val (.int (2 : Int32))] [])) (by first | rfl | (simp [entryFrame, mkF, argsToLocals, Value.category, maxLocals]; done)) ?_
  refine Wk.iloadN X0 hx (hb hby d3_0) rfl rfl ?_
  refine Wk.if_eq X0 hx 10 4 (hb hby d3_1) rfl rfl (show ((2 : Int32) : Int32).toInt = 2 from (by decide)) (fun h1 => absurd h1 (by omega)) (fun h1 => ?_)
  refine Wk.iloadN X0 hx (hb hby d3_4) rfl rfl ?_
  refine Wk.bipush X0 hx (8 : Int32) (hb hby d3_5) rfl rfl ?_
  refine Wk.icmp_ne X0 hx 14 10 (hb hby d3_7) rfl rfl (show ((2 : Int32) : Int32).toInt = 2 from (by decide)) (show ((8 : Int32) : Int32).toInt = 8 from (by decide)) (fun h2 => ?_) (fun h2 => absurd h2 (by omega))
  refine Wk.iloadN X0 hx (hb hby d3_14) rfl rfl ?_
  refine Wk.iconst X0 hx (1 : Int32) (hb hby d3_15) rfl rfl ?_
  refine Wk.icmp_eq X0 hx 30 19 (hb hby d3_16) rfl rfl (show ((2 : Int32) : Int32).toInt = 2 from (by decide)) (show ((1 : Int32) : Int32).toInt = 1 from (by decide)) (fun h3 => absurd h3 (by omega)) (fun h3 => ?_)
  refine Wk.iloadN X0 hx (hb hby d3_19) rfl rfl ?_
  refine Wk.iconst X0 hx (2 : Int32) (hb hby d3_20) rfl rfl ?_
  refine Wk.icmp_eq X0 hx 30 24 (hb hby d3_21) rfl rfl (show ((2 : Int32) : Int32).toInt = 2 from (by decide)) (show ((2 : Int32) : Int32).toInt = 2 from (by decide)) (fun h4 => ?_) (fun h4 => absurd h4 (by omega))
  refine Wk.ldcJ X0 hx hZ hown (hw _ (List.mem_of_getElem? (i := 33) rfl)) (hb hby d3_30) rfl ?_
  exact Wk.retL X0 hx hlk hret (hb hby d3_33) (Nat.zero_le _) (Nat.zero_le _) (Wk.puE (by decide) e0)
set_option maxRecDepth 65536 in
set_option maxHeartbeats 40000000 in
theorem pick3 (l : Launch) (Z : State) (a0 : Array Value) (hw : ∀ d ∈ tables_1, d.before a0 Z = true) (a : Addr) (h0 : Heap) (S : Sta Z h0 "com/example/tunnus/tunnus/model/Setting" "PASSWORD_MIN_LENGTH" "Lcom/example/tunnus/tunnus/model/Setting;" (.ref a)) : Wk.Met l Z (⟨"com/example/tunnus/tunnus/model/SettingAcceptsPinLaw", "pick", "(I)Lcom/example/tunnus/tunnus/model/Setting;"⟩ : MethodName) method_2_code 1 (some (.object "com/example/tunnus/tunnus/model/Setting")) [] { frames := 0, cells := 0, slots := 0, locals := 0 } #[(.int (3 : Int32))] h0 (Wk.Pu (.ref a) h0) := by
  refine Wk.start pn1 ?_
  intro p e s m below meth c s₁ X0 hx hby hml hown0 hnm hret hlk hZ e0
  have hown : s.vm.findClass "com/example/tunnus/tunnus/model/SettingAcceptsPinLaw" = some m.cls := hown0
  refine Wk.enter (g' := (mkF m 0 #[.val (.int (3 : Int32))] [])) (by first | rfl | (simp [entryFrame, mkF, argsToLocals, Value.category, maxLocals]; done)) ?_
  refine Wk.iloadN X0 hx (hb hby d1_0) rfl rfl ?_
  refine Wk.if_ne X0 hx 8 4 (hb hby d1_1) rfl rfl (show ((3 : Int32) : Int32).toInt = 3 from (by decide)) (fun h1 => ?_) (fun h1 => absurd h1 (by omega))
  refine Wk.iloadN X0 hx (hb hby d1_8) rfl rfl ?_
  refine Wk.iconst X0 hx (1 : Int32) (hb hby d1_9) rfl rfl ?_
  refine Wk.icmp_ne X0 hx 17 13 (hb hby d1_10) rfl rfl (show ((3 : Int32) : Int32).toInt = 3 from (by decide)) (show ((1 : Int32) : Int32).toInt = 1 from (by decide)) (fun h2 => ?_) (fun h2 => absurd h2 (by omega))
  refine Wk.iloadN X0 hx (hb hby d1_17) rfl rfl ?_
  refine Wk.iconst X0 hx (2 : Int32) (hb hby d1_18) rfl rfl ?_
  refine Wk.icmp_ne X0 hx 26 22 (hb hby d1_19) rfl rfl (show ((3 : Int32) : Int32).toInt = 3 from (by decide)) (show ((2 : Int32) : Int32).toInt = 2 from (by decide)) (fun h3 => ?_) (fun h3 => absurd h3 (by omega))
  refine Wk.iloadN X0 hx (hb hby d1_26) rfl rfl ?_
  refine Wk.iconst X0 hx (3 : Int32) (hb hby d1_27) rfl rfl ?_
  refine Wk.icmp_ne X0 hx 35 31 (hb hby d1_28) rfl rfl (show ((3 : Int32) : Int32).toInt = 3 from (by decide)) (show ((3 : Int32) : Int32).toInt = 3 from (by decide)) (fun h4 => absurd h4 (by omega)) (fun h4 => ?_)
  refine Wk.getS (host := "") X0 hx hZ hown (Or.inl (hw _ (List.mem_of_getElem? (i := 24) rfl))) e0 S (hb hby d1_31) rfl (fun T5 X5 e5 => ?_)
  exact Wk.retA X5 hx hlk hret rfl rfl (hb hby d1_34) (Nat.zero_le _) (Nat.zero_le _) (Wk.pu e5)
set_option maxRecDepth 65536 in
set_option maxHeartbeats 40000000 in
theorem lo3 (l : Launch) (Z : State) (a0 : Array Value) (hw : ∀ d ∈ tables_1, d.before a0 Z = true)  (h0 : Heap)  : Wk.Met l Z (⟨"com/example/tunnus/tunnus/model/SettingAcceptsPinLaw", "lo", "(I)J"⟩ : MethodName) method_3_code 1 (some .long) [] { frames := 0, cells := 0, slots := 0, locals := 0 } #[(.int (3 : Int32))] h0 (Wk.Pu (.long (8 : Int32).toInt64) h0) := by
  refine Wk.start pn2 ?_
  intro p e s m below meth c s₁ X0 hx hby hml hown0 hnm hret hlk hZ e0
  have hown : s.vm.findClass "com/example/tunnus/tunnus/model/SettingAcceptsPinLaw" = some m.cls := hown0
  refine Wk.enter (g' := (mkF m 0 #[.val (.int (3 : Int32))] [])) (by first | rfl | (simp [entryFrame, mkF, argsToLocals, Value.category, maxLocals]; done)) ?_
  refine Wk.iloadN X0 hx (hb hby d2_0) rfl rfl ?_
  refine Wk.iconst X0 hx (2 : Int32) (hb hby d2_1) rfl rfl ?_
  refine Wk.icmp_eq X0 hx 23 5 (hb hby d2_2) rfl rfl (show ((3 : Int32) : Int32).toInt = 3 from (by decide)) (show ((2 : Int32) : Int32).toInt = 2 from (by decide)) (fun h1 => absurd h1 (by omega)) (fun h1 => ?_)
  refine Wk.iloadN X0 hx (hb hby d2_5) rfl rfl ?_
  refine Wk.bipush X0 hx (9 : Int32) (hb hby d2_6) rfl rfl ?_
  refine Wk.icmp_eq X0 hx 23 11 (hb hby d2_8) rfl rfl (show ((3 : Int32) : Int32).toInt = 3 from (by decide)) (show ((9 : Int32) : Int32).toInt = 9 from (by decide)) (fun h2 => absurd h2 (by omega)) (fun h2 => ?_)
  refine Wk.iloadN X0 hx (hb hby d2_11) rfl rfl ?_
  refine Wk.bipush X0 hx (10 : Int32) (hb hby d2_12) rfl rfl ?_
  refine Wk.icmp_eq X0 hx 23 17 (hb hby d2_14) rfl rfl (show ((3 : Int32) : Int32).toInt = 3 from (by decide)) (show ((10 : Int32) : Int32).toInt = 10 from (by decide)) (fun h3 => absurd h3 (by omega)) (fun h3 => ?_)
  refine Wk.iloadN X0 hx (hb hby d2_17) rfl rfl ?_
  refine Wk.bipush X0 hx (11 : Int32) (hb hby d2_18) rfl rfl ?_
  refine Wk.icmp_ne X0 hx 25 23 (hb hby d2_20) rfl rfl (show ((3 : Int32) : Int32).toInt = 3 from (by decide)) (show ((11 : Int32) : Int32).toInt = 11 from (by decide)) (fun h4 => ?_) (fun h4 => absurd h4 (by omega))
  refine Wk.iloadN X0 hx (hb hby d2_25) rfl rfl ?_
  refine Wk.iconst X0 hx (3 : Int32) (hb hby d2_26) rfl rfl ?_
  refine Wk.icmp_ne X0 hx 34 30 (hb hby d2_27) rfl rfl (show ((3 : Int32) : Int32).toInt = 3 from (by decide)) (show ((3 : Int32) : Int32).toInt = 3 from (by decide)) (fun h5 => absurd h5 (by omega)) (fun h5 => ?_)
  refine Wk.ldcJ X0 hx hZ hown (hw _ (List.mem_of_getElem? (i := 26) rfl)) (hb hby d2_30) rfl ?_
  exact Wk.retL X0 hx hlk hret (hb hby d2_33) (Nat.zero_le _) (Nat.zero_le _) (Wk.puE (by decide) e0)
set_option maxRecDepth 65536 in
set_option maxHeartbeats 40000000 in
theorem hi3 (l : Launch) (Z : State) (a0 : Array Value) (hw : ∀ d ∈ tables_1, d.before a0 Z = true)  (h0 : Heap)  : Wk.Met l Z (⟨"com/example/tunnus/tunnus/model/SettingAcceptsPinLaw", "hi", "(I)J"⟩ : MethodName) method_4_code 1 (some .long) [] { frames := 0, cells := 0, slots := 0, locals := 0 } #[(.int (3 : Int32))] h0 (Wk.Pu (.long (1024 : Int32).toInt64) h0) := by
  refine Wk.start pn3 ?_
  intro p e s m below meth c s₁ X0 hx hby hml hown0 hnm hret hlk hZ e0
  have hown : s.vm.findClass "com/example/tunnus/tunnus/model/SettingAcceptsPinLaw" = some m.cls := hown0
  refine Wk.enter (g' := (mkF m 0 #[.val (.int (3 : Int32))] [])) (by first | rfl | (simp [entryFrame, mkF, argsToLocals, Value.category, maxLocals]; done)) ?_
  refine Wk.iloadN X0 hx (hb hby d3_0) rfl rfl ?_
  refine Wk.if_eq X0 hx 10 4 (hb hby d3_1) rfl rfl (show ((3 : Int32) : Int32).toInt = 3 from (by decide)) (fun h1 => absurd h1 (by omega)) (fun h1 => ?_)
  refine Wk.iloadN X0 hx (hb hby d3_4) rfl rfl ?_
  refine Wk.bipush X0 hx (8 : Int32) (hb hby d3_5) rfl rfl ?_
  refine Wk.icmp_ne X0 hx 14 10 (hb hby d3_7) rfl rfl (show ((3 : Int32) : Int32).toInt = 3 from (by decide)) (show ((8 : Int32) : Int32).toInt = 8 from (by decide)) (fun h2 => ?_) (fun h2 => absurd h2 (by omega))
  refine Wk.iloadN X0 hx (hb hby d3_14) rfl rfl ?_
  refine Wk.iconst X0 hx (1 : Int32) (hb hby d3_15) rfl rfl ?_
  refine Wk.icmp_eq X0 hx 30 19 (hb hby d3_16) rfl rfl (show ((3 : Int32) : Int32).toInt = 3 from (by decide)) (show ((1 : Int32) : Int32).toInt = 1 from (by decide)) (fun h3 => absurd h3 (by omega)) (fun h3 => ?_)
  refine Wk.iloadN X0 hx (hb hby d3_19) rfl rfl ?_
  refine Wk.iconst X0 hx (2 : Int32) (hb hby d3_20) rfl rfl ?_
  refine Wk.icmp_eq X0 hx 30 24 (hb hby d3_21) rfl rfl (show ((3 : Int32) : Int32).toInt = 3 from (by decide)) (show ((2 : Int32) : Int32).toInt = 2 from (by decide)) (fun h4 => absurd h4 (by omega)) (fun h4 => ?_)
  refine Wk.iloadN X0 hx (hb hby d3_24) rfl rfl ?_
  refine Wk.bipush X0 hx (10 : Int32) (hb hby d3_25) rfl rfl ?_
  refine Wk.icmp_ne X0 hx 34 30 (hb hby d3_27) rfl rfl (show ((3 : Int32) : Int32).toInt = 3 from (by decide)) (show ((10 : Int32) : Int32).toInt = 10 from (by decide)) (fun h5 => ?_) (fun h5 => absurd h5 (by omega))
  refine Wk.iloadN X0 hx (hb hby d3_34) rfl rfl ?_
  refine Wk.iconst X0 hx (3 : Int32) (hb hby d3_35) rfl rfl ?_
  refine Wk.icmp_lt X0 hx 49 39 (hb hby d3_36) rfl rfl (show ((3 : Int32) : Int32).toInt = 3 from (by decide)) (show ((3 : Int32) : Int32).toInt = 3 from (by decide)) (fun h6 => absurd h6 (by omega)) (fun h6 => ?_)
  refine Wk.iloadN X0 hx (hb hby d3_39) rfl rfl ?_
  refine Wk.bipush X0 hx (7 : Int32) (hb hby d3_40) rfl rfl ?_
  refine Wk.icmp_gt X0 hx 49 45 (hb hby d3_42) rfl rfl (show ((3 : Int32) : Int32).toInt = 3 from (by decide)) (show ((7 : Int32) : Int32).toInt = 7 from (by decide)) (fun h7 => absurd h7 (by omega)) (fun h7 => ?_)
  refine Wk.ldcJ X0 hx hZ hown (hw _ (List.mem_of_getElem? (i := 27) rfl)) (hb hby d3_45) rfl ?_
  exact Wk.retL X0 hx hlk hret (hb hby d3_48) (Nat.zero_le _) (Nat.zero_le _) (Wk.puE (by decide) e0)
set_option maxRecDepth 65536 in
set_option maxHeartbeats 40000000 in
theorem pick4 (l : Launch) (Z : State) (a0 : Array Value) (hw : ∀ d ∈ tables_1, d.before a0 Z = true) (a : Addr) (h0 : Heap) (S : Sta Z h0 "com/example/tunnus/tunnus/model/Setting" "PASSWORD_MIN_DIGITS" "Lcom/example/tunnus/tunnus/model/Setting;" (.ref a)) : Wk.Met l Z (⟨"com/example/tunnus/tunnus/model/SettingAcceptsPinLaw", "pick", "(I)Lcom/example/tunnus/tunnus/model/Setting;"⟩ : MethodName) method_2_code 1 (some (.object "com/example/tunnus/tunnus/model/Setting")) [] { frames := 0, cells := 0, slots := 0, locals := 0 } #[(.int (4 : Int32))] h0 (Wk.Pu (.ref a) h0) := by
  refine Wk.start pn1 ?_
  intro p e s m below meth c s₁ X0 hx hby hml hown0 hnm hret hlk hZ e0
  have hown : s.vm.findClass "com/example/tunnus/tunnus/model/SettingAcceptsPinLaw" = some m.cls := hown0
  refine Wk.enter (g' := (mkF m 0 #[.val (.int (4 : Int32))] [])) (by first | rfl | (simp [entryFrame, mkF, argsToLocals, Value.category, maxLocals]; done)) ?_
  refine Wk.iloadN X0 hx (hb hby d1_0) rfl rfl ?_
  refine Wk.if_ne X0 hx 8 4 (hb hby d1_1) rfl rfl (show ((4 : Int32) : Int32).toInt = 4 from (by decide)) (fun h1 => ?_) (fun h1 => absurd h1 (by omega))
  refine Wk.iloadN X0 hx (hb hby d1_8) rfl rfl ?_
  refine Wk.iconst X0 hx (1 : Int32) (hb hby d1_9) rfl rfl ?_
  refine Wk.icmp_ne X0 hx 17 13 (hb hby d1_10) rfl rfl (show ((4 : Int32) : Int32).toInt = 4 from (by decide)) (show ((1 : Int32) : Int32).toInt = 1 from (by decide)) (fun h2 => ?_) (fun h2 => absurd h2 (by omega))
  refine Wk.iloadN X0 hx (hb hby d1_17) rfl rfl ?_
  refine Wk.iconst X0 hx (2 : Int32) (hb hby d1_18) rfl rfl ?_
  refine Wk.icmp_ne X0 hx 26 22 (hb hby d1_19) rfl rfl (show ((4 : Int32) : Int32).toInt = 4 from (by decide)) (show ((2 : Int32) : Int32).toInt = 2 from (by decide)) (fun h3 => ?_) (fun h3 => absurd h3 (by omega))
  refine Wk.iloadN X0 hx (hb hby d1_26) rfl rfl ?_
  refine Wk.iconst X0 hx (3 : Int32) (hb hby d1_27) rfl rfl ?_
  refine Wk.icmp_ne X0 hx 35 31 (hb hby d1_28) rfl rfl (show ((4 : Int32) : Int32).toInt = 4 from (by decide)) (show ((3 : Int32) : Int32).toInt = 3 from (by decide)) (fun h4 => ?_) (fun h4 => absurd h4 (by omega))
  refine Wk.iloadN X0 hx (hb hby d1_35) rfl rfl ?_
  refine Wk.iconst X0 hx (4 : Int32) (hb hby d1_36) rfl rfl ?_
  refine Wk.icmp_ne X0 hx 44 40 (hb hby d1_37) rfl rfl (show ((4 : Int32) : Int32).toInt = 4 from (by decide)) (show ((4 : Int32) : Int32).toInt = 4 from (by decide)) (fun h5 => absurd h5 (by omega)) (fun h5 => ?_)
  refine Wk.getS (host := "") X0 hx hZ hown (Or.inl (hw _ (List.mem_of_getElem? (i := 43) rfl))) e0 S (hb hby d1_40) rfl (fun T6 X6 e6 => ?_)
  exact Wk.retA X6 hx hlk hret rfl rfl (hb hby d1_43) (Nat.zero_le _) (Nat.zero_le _) (Wk.pu e6)
set_option maxRecDepth 65536 in
set_option maxHeartbeats 40000000 in
theorem lo4 (l : Launch) (Z : State) (a0 : Array Value) (hw : ∀ d ∈ tables_1, d.before a0 Z = true)  (h0 : Heap)  : Wk.Met l Z (⟨"com/example/tunnus/tunnus/model/SettingAcceptsPinLaw", "lo", "(I)J"⟩ : MethodName) method_3_code 1 (some .long) [] { frames := 0, cells := 0, slots := 0, locals := 0 } #[(.int (4 : Int32))] h0 (Wk.Pu (.long (0 : Int32).toInt64) h0) := by
  refine Wk.start pn2 ?_
  intro p e s m below meth c s₁ X0 hx hby hml hown0 hnm hret hlk hZ e0
  have hown : s.vm.findClass "com/example/tunnus/tunnus/model/SettingAcceptsPinLaw" = some m.cls := hown0
  refine Wk.enter (g' := (mkF m 0 #[.val (.int (4 : Int32))] [])) (by first | rfl | (simp [entryFrame, mkF, argsToLocals, Value.category, maxLocals]; done)) ?_
  refine Wk.iloadN X0 hx (hb hby d2_0) rfl rfl ?_
  refine Wk.iconst X0 hx (2 : Int32) (hb hby d2_1) rfl rfl ?_
  refine Wk.icmp_eq X0 hx 23 5 (hb hby d2_2) rfl rfl (show ((4 : Int32) : Int32).toInt = 4 from (by decide)) (show ((2 : Int32) : Int32).toInt = 2 from (by decide)) (fun h1 => absurd h1 (by omega)) (fun h1 => ?_)
  refine Wk.iloadN X0 hx (hb hby d2_5) rfl rfl ?_
  refine Wk.bipush X0 hx (9 : Int32) (hb hby d2_6) rfl rfl ?_
  refine Wk.icmp_eq X0 hx 23 11 (hb hby d2_8) rfl rfl (show ((4 : Int32) : Int32).toInt = 4 from (by decide)) (show ((9 : Int32) : Int32).toInt = 9 from (by decide)) (fun h2 => absurd h2 (by omega)) (fun h2 => ?_)
  refine Wk.iloadN X0 hx (hb hby d2_11) rfl rfl ?_
  refine Wk.bipush X0 hx (10 : Int32) (hb hby d2_12) rfl rfl ?_
  refine Wk.icmp_eq X0 hx 23 17 (hb hby d2_14) rfl rfl (show ((4 : Int32) : Int32).toInt = 4 from (by decide)) (show ((10 : Int32) : Int32).toInt = 10 from (by decide)) (fun h3 => absurd h3 (by omega)) (fun h3 => ?_)
  refine Wk.iloadN X0 hx (hb hby d2_17) rfl rfl ?_
  refine Wk.bipush X0 hx (11 : Int32) (hb hby d2_18) rfl rfl ?_
  refine Wk.icmp_ne X0 hx 25 23 (hb hby d2_20) rfl rfl (show ((4 : Int32) : Int32).toInt = 4 from (by decide)) (show ((11 : Int32) : Int32).toInt = 11 from (by decide)) (fun h4 => ?_) (fun h4 => absurd h4 (by omega))
  refine Wk.iloadN X0 hx (hb hby d2_25) rfl rfl ?_
  refine Wk.iconst X0 hx (3 : Int32) (hb hby d2_26) rfl rfl ?_
  refine Wk.icmp_ne X0 hx 34 30 (hb hby d2_27) rfl rfl (show ((4 : Int32) : Int32).toInt = 4 from (by decide)) (show ((3 : Int32) : Int32).toInt = 3 from (by decide)) (fun h5 => ?_) (fun h5 => absurd h5 (by omega))
  refine Wk.lconst X0 hx (0 : Int64) (hb hby d2_34) rfl rfl ?_
  exact Wk.retL X0 hx hlk hret (hb hby d2_35) (Nat.zero_le _) (Nat.zero_le _) (Wk.puE (by decide) e0)
set_option maxRecDepth 65536 in
set_option maxHeartbeats 40000000 in
theorem hi4 (l : Launch) (Z : State) (a0 : Array Value) (hw : ∀ d ∈ tables_1, d.before a0 Z = true)  (h0 : Heap)  : Wk.Met l Z (⟨"com/example/tunnus/tunnus/model/SettingAcceptsPinLaw", "hi", "(I)J"⟩ : MethodName) method_4_code 1 (some .long) [] { frames := 0, cells := 0, slots := 0, locals := 0 } #[(.int (4 : Int32))] h0 (Wk.Pu (.long (1024 : Int32).toInt64) h0) := by
  refine Wk.start pn3 ?_
  intro p e s m below meth c s₁ X0 hx hby hml hown0 hnm hret hlk hZ e0
  have hown : s.vm.findClass "com/example/tunnus/tunnus/model/SettingAcceptsPinLaw" = some m.cls := hown0
  refine Wk.enter (g' := (mkF m 0 #[.val (.int (4 : Int32))] [])) (by first | rfl | (simp [entryFrame, mkF, argsToLocals, Value.category, maxLocals]; done)) ?_
  refine Wk.iloadN X0 hx (hb hby d3_0) rfl rfl ?_
  refine Wk.if_eq X0 hx 10 4 (hb hby d3_1) rfl rfl (show ((4 : Int32) : Int32).toInt = 4 from (by decide)) (fun h1 => absurd h1 (by omega)) (fun h1 => ?_)
  refine Wk.iloadN X0 hx (hb hby d3_4) rfl rfl ?_
  refine Wk.bipush X0 hx (8 : Int32) (hb hby d3_5) rfl rfl ?_
  refine Wk.icmp_ne X0 hx 14 10 (hb hby d3_7) rfl rfl (show ((4 : Int32) : Int32).toInt = 4 from (by decide)) (show ((8 : Int32) : Int32).toInt = 8 from (by decide)) (fun h2 => ?_) (fun h2 => absurd h2 (by omega))
  refine Wk.iloadN X0 hx (hb hby d3_14) rfl rfl ?_
  refine Wk.iconst X0 hx (1 : Int32) (hb hby d3_15) rfl rfl ?_
  refine Wk.icmp_eq X0 hx 30 19 (hb hby d3_16) rfl rfl (show ((4 : Int32) : Int32).toInt = 4 from (by decide)) (show ((1 : Int32) : Int32).toInt = 1 from (by decide)) (fun h3 => absurd h3 (by omega)) (fun h3 => ?_)
  refine Wk.iloadN X0 hx (hb hby d3_19) rfl rfl ?_
  refine Wk.iconst X0 hx (2 : Int32) (hb hby d3_20) rfl rfl ?_
  refine Wk.icmp_eq X0 hx 30 24 (hb hby d3_21) rfl rfl (show ((4 : Int32) : Int32).toInt = 4 from (by decide)) (show ((2 : Int32) : Int32).toInt = 2 from (by decide)) (fun h4 => absurd h4 (by omega)) (fun h4 => ?_)
  refine Wk.iloadN X0 hx (hb hby d3_24) rfl rfl ?_
  refine Wk.bipush X0 hx (10 : Int32) (hb hby d3_25) rfl rfl ?_
  refine Wk.icmp_ne X0 hx 34 30 (hb hby d3_27) rfl rfl (show ((4 : Int32) : Int32).toInt = 4 from (by decide)) (show ((10 : Int32) : Int32).toInt = 10 from (by decide)) (fun h5 => ?_) (fun h5 => absurd h5 (by omega))
  refine Wk.iloadN X0 hx (hb hby d3_34) rfl rfl ?_
  refine Wk.iconst X0 hx (3 : Int32) (hb hby d3_35) rfl rfl ?_
  refine Wk.icmp_lt X0 hx 49 39 (hb hby d3_36) rfl rfl (show ((4 : Int32) : Int32).toInt = 4 from (by decide)) (show ((3 : Int32) : Int32).toInt = 3 from (by decide)) (fun h6 => absurd h6 (by omega)) (fun h6 => ?_)
  refine Wk.iloadN X0 hx (hb hby d3_39) rfl rfl ?_
  refine Wk.bipush X0 hx (7 : Int32) (hb hby d3_40) rfl rfl ?_
  refine Wk.icmp_gt X0 hx 49 45 (hb hby d3_42) rfl rfl (show ((4 : Int32) : Int32).toInt = 4 from (by decide)) (show ((7 : Int32) : Int32).toInt = 7 from (by decide)) (fun h7 => absurd h7 (by omega)) (fun h7 => ?_)
  refine Wk.ldcJ X0 hx hZ hown (hw _ (List.mem_of_getElem? (i := 27) rfl)) (hb hby d3_45) rfl ?_
  exact Wk.retL X0 hx hlk hret (hb hby d3_48) (Nat.zero_le _) (Nat.zero_le _) (Wk.puE (by decide) e0)
set_option maxRecDepth 65536 in
set_option maxHeartbeats 40000000 in
theorem pick5 (l : Launch) (Z : State) (a0 : Array Value) (hw : ∀ d ∈ tables_1, d.before a0 Z = true) (a : Addr) (h0 : Heap) (S : Sta Z h0 "com/example/tunnus/tunnus/model/Setting" "PASSWORD_MIN_UPPER" "Lcom/example/tunnus/tunnus/model/Setting;" (.ref a)) : Wk.Met l Z (⟨"com/example/tunnus/tunnus/model/SettingAcceptsPinLaw", "pick", "(I)Lcom/example/tunnus/tunnus/model/Setting;"⟩ : MethodName) method_2_code 1 (some (.object "com/example/tunnus/tunnus/model/Setting")) [] { frames := 0, cells := 0, slots := 0, locals := 0 } #[(.int (5 : Int32))] h0 (Wk.Pu (.ref a) h0) := by
  refine Wk.start pn1 ?_
  intro p e s m below meth c s₁ X0 hx hby hml hown0 hnm hret hlk hZ e0
  have hown : s.vm.findClass "com/example/tunnus/tunnus/model/SettingAcceptsPinLaw" = some m.cls := hown0
  refine Wk.enter (g' := (mkF m 0 #[.val (.int (5 : Int32))] [])) (by first | rfl | (simp [entryFrame, mkF, argsToLocals, Value.category, maxLocals]; done)) ?_
  refine Wk.iloadN X0 hx (hb hby d1_0) rfl rfl ?_
  refine Wk.if_ne X0 hx 8 4 (hb hby d1_1) rfl rfl (show ((5 : Int32) : Int32).toInt = 5 from (by decide)) (fun h1 => ?_) (fun h1 => absurd h1 (by omega))
  refine Wk.iloadN X0 hx (hb hby d1_8) rfl rfl ?_
  refine Wk.iconst X0 hx (1 : Int32) (hb hby d1_9) rfl rfl ?_
  refine Wk.icmp_ne X0 hx 17 13 (hb hby d1_10) rfl rfl (show ((5 : Int32) : Int32).toInt = 5 from (by decide)) (show ((1 : Int32) : Int32).toInt = 1 from (by decide)) (fun h2 => ?_) (fun h2 => absurd h2 (by omega))
  refine Wk.iloadN X0 hx (hb hby d1_17) rfl rfl ?_
  refine Wk.iconst X0 hx (2 : Int32) (hb hby d1_18) rfl rfl ?_
  refine Wk.icmp_ne X0 hx 26 22 (hb hby d1_19) rfl rfl (show ((5 : Int32) : Int32).toInt = 5 from (by decide)) (show ((2 : Int32) : Int32).toInt = 2 from (by decide)) (fun h3 => ?_) (fun h3 => absurd h3 (by omega))
  refine Wk.iloadN X0 hx (hb hby d1_26) rfl rfl ?_
  refine Wk.iconst X0 hx (3 : Int32) (hb hby d1_27) rfl rfl ?_
  refine Wk.icmp_ne X0 hx 35 31 (hb hby d1_28) rfl rfl (show ((5 : Int32) : Int32).toInt = 5 from (by decide)) (show ((3 : Int32) : Int32).toInt = 3 from (by decide)) (fun h4 => ?_) (fun h4 => absurd h4 (by omega))
  refine Wk.iloadN X0 hx (hb hby d1_35) rfl rfl ?_
  refine Wk.iconst X0 hx (4 : Int32) (hb hby d1_36) rfl rfl ?_
  refine Wk.icmp_ne X0 hx 44 40 (hb hby d1_37) rfl rfl (show ((5 : Int32) : Int32).toInt = 5 from (by decide)) (show ((4 : Int32) : Int32).toInt = 4 from (by decide)) (fun h5 => ?_) (fun h5 => absurd h5 (by omega))
  refine Wk.iloadN X0 hx (hb hby d1_44) rfl rfl ?_
  refine Wk.iconst X0 hx (5 : Int32) (hb hby d1_45) rfl rfl ?_
  refine Wk.icmp_ne X0 hx 53 49 (hb hby d1_46) rfl rfl (show ((5 : Int32) : Int32).toInt = 5 from (by decide)) (show ((5 : Int32) : Int32).toInt = 5 from (by decide)) (fun h6 => absurd h6 (by omega)) (fun h6 => ?_)
  refine Wk.getS (host := "") X0 hx hZ hown (Or.inl (hw _ (List.mem_of_getElem? (i := 47) rfl))) e0 S (hb hby d1_49) rfl (fun T7 X7 e7 => ?_)
  exact Wk.retA X7 hx hlk hret rfl rfl (hb hby d1_52) (Nat.zero_le _) (Nat.zero_le _) (Wk.pu e7)
set_option maxRecDepth 65536 in
set_option maxHeartbeats 40000000 in
theorem lo5 (l : Launch) (Z : State) (a0 : Array Value) (hw : ∀ d ∈ tables_1, d.before a0 Z = true)  (h0 : Heap)  : Wk.Met l Z (⟨"com/example/tunnus/tunnus/model/SettingAcceptsPinLaw", "lo", "(I)J"⟩ : MethodName) method_3_code 1 (some .long) [] { frames := 0, cells := 0, slots := 0, locals := 0 } #[(.int (5 : Int32))] h0 (Wk.Pu (.long (0 : Int32).toInt64) h0) := by
  refine Wk.start pn2 ?_
  intro p e s m below meth c s₁ X0 hx hby hml hown0 hnm hret hlk hZ e0
  have hown : s.vm.findClass "com/example/tunnus/tunnus/model/SettingAcceptsPinLaw" = some m.cls := hown0
  refine Wk.enter (g' := (mkF m 0 #[.val (.int (5 : Int32))] [])) (by first | rfl | (simp [entryFrame, mkF, argsToLocals, Value.category, maxLocals]; done)) ?_
  refine Wk.iloadN X0 hx (hb hby d2_0) rfl rfl ?_
  refine Wk.iconst X0 hx (2 : Int32) (hb hby d2_1) rfl rfl ?_
  refine Wk.icmp_eq X0 hx 23 5 (hb hby d2_2) rfl rfl (show ((5 : Int32) : Int32).toInt = 5 from (by decide)) (show ((2 : Int32) : Int32).toInt = 2 from (by decide)) (fun h1 => absurd h1 (by omega)) (fun h1 => ?_)
  refine Wk.iloadN X0 hx (hb hby d2_5) rfl rfl ?_
  refine Wk.bipush X0 hx (9 : Int32) (hb hby d2_6) rfl rfl ?_
  refine Wk.icmp_eq X0 hx 23 11 (hb hby d2_8) rfl rfl (show ((5 : Int32) : Int32).toInt = 5 from (by decide)) (show ((9 : Int32) : Int32).toInt = 9 from (by decide)) (fun h2 => absurd h2 (by omega)) (fun h2 => ?_)
  refine Wk.iloadN X0 hx (hb hby d2_11) rfl rfl ?_
  refine Wk.bipush X0 hx (10 : Int32) (hb hby d2_12) rfl rfl ?_
  refine Wk.icmp_eq X0 hx 23 17 (hb hby d2_14) rfl rfl (show ((5 : Int32) : Int32).toInt = 5 from (by decide)) (show ((10 : Int32) : Int32).toInt = 10 from (by decide)) (fun h3 => absurd h3 (by omega)) (fun h3 => ?_)
  refine Wk.iloadN X0 hx (hb hby d2_17) rfl rfl ?_
  refine Wk.bipush X0 hx (11 : Int32) (hb hby d2_18) rfl rfl ?_
  refine Wk.icmp_ne X0 hx 25 23 (hb hby d2_20) rfl rfl (show ((5 : Int32) : Int32).toInt = 5 from (by decide)) (show ((11 : Int32) : Int32).toInt = 11 from (by decide)) (fun h4 => ?_) (fun h4 => absurd h4 (by omega))
  refine Wk.iloadN X0 hx (hb hby d2_25) rfl rfl ?_
  refine Wk.iconst X0 hx (3 : Int32) (hb hby d2_26) rfl rfl ?_
  refine Wk.icmp_ne X0 hx 34 30 (hb hby d2_27) rfl rfl (show ((5 : Int32) : Int32).toInt = 5 from (by decide)) (show ((3 : Int32) : Int32).toInt = 3 from (by decide)) (fun h5 => ?_) (fun h5 => absurd h5 (by omega))
  refine Wk.lconst X0 hx (0 : Int64) (hb hby d2_34) rfl rfl ?_
  exact Wk.retL X0 hx hlk hret (hb hby d2_35) (Nat.zero_le _) (Nat.zero_le _) (Wk.puE (by decide) e0)
set_option maxRecDepth 65536 in
set_option maxHeartbeats 40000000 in
theorem hi5 (l : Launch) (Z : State) (a0 : Array Value) (hw : ∀ d ∈ tables_1, d.before a0 Z = true)  (h0 : Heap)  : Wk.Met l Z (⟨"com/example/tunnus/tunnus/model/SettingAcceptsPinLaw", "hi", "(I)J"⟩ : MethodName) method_4_code 1 (some .long) [] { frames := 0, cells := 0, slots := 0, locals := 0 } #[(.int (5 : Int32))] h0 (Wk.Pu (.long (1024 : Int32).toInt64) h0) := by
  refine Wk.start pn3 ?_
  intro p e s m below meth c s₁ X0 hx hby hml hown0 hnm hret hlk hZ e0
  have hown : s.vm.findClass "com/example/tunnus/tunnus/model/SettingAcceptsPinLaw" = some m.cls := hown0
  refine Wk.enter (g' := (mkF m 0 #[.val (.int (5 : Int32))] [])) (by first | rfl | (simp [entryFrame, mkF, argsToLocals, Value.category, maxLocals]; done)) ?_
  refine Wk.iloadN X0 hx (hb hby d3_0) rfl rfl ?_
  refine Wk.if_eq X0 hx 10 4 (hb hby d3_1) rfl rfl (show ((5 : Int32) : Int32).toInt = 5 from (by decide)) (fun h1 => absurd h1 (by omega)) (fun h1 => ?_)
  refine Wk.iloadN X0 hx (hb hby d3_4) rfl rfl ?_
  refine Wk.bipush X0 hx (8 : Int32) (hb hby d3_5) rfl rfl ?_
  refine Wk.icmp_ne X0 hx 14 10 (hb hby d3_7) rfl rfl (show ((5 : Int32) : Int32).toInt = 5 from (by decide)) (show ((8 : Int32) : Int32).toInt = 8 from (by decide)) (fun h2 => ?_) (fun h2 => absurd h2 (by omega))
  refine Wk.iloadN X0 hx (hb hby d3_14) rfl rfl ?_
  refine Wk.iconst X0 hx (1 : Int32) (hb hby d3_15) rfl rfl ?_
  refine Wk.icmp_eq X0 hx 30 19 (hb hby d3_16) rfl rfl (show ((5 : Int32) : Int32).toInt = 5 from (by decide)) (show ((1 : Int32) : Int32).toInt = 1 from (by decide)) (fun h3 => absurd h3 (by omega)) (fun h3 => ?_)
  refine Wk.iloadN X0 hx (hb hby d3_19) rfl rfl ?_
  refine Wk.iconst X0 hx (2 : Int32) (hb hby d3_20) rfl rfl ?_
  refine Wk.icmp_eq X0 hx 30 24 (hb hby d3_21) rfl rfl (show ((5 : Int32) : Int32).toInt = 5 from (by decide)) (show ((2 : Int32) : Int32).toInt = 2 from (by decide)) (fun h4 => absurd h4 (by omega)) (fun h4 => ?_)
  refine Wk.iloadN X0 hx (hb hby d3_24) rfl rfl ?_
  refine Wk.bipush X0 hx (10 : Int32) (hb hby d3_25) rfl rfl ?_
  refine Wk.icmp_ne X0 hx 34 30 (hb hby d3_27) rfl rfl (show ((5 : Int32) : Int32).toInt = 5 from (by decide)) (show ((10 : Int32) : Int32).toInt = 10 from (by decide)) (fun h5 => ?_) (fun h5 => absurd h5 (by omega))
  refine Wk.iloadN X0 hx (hb hby d3_34) rfl rfl ?_
  refine Wk.iconst X0 hx (3 : Int32) (hb hby d3_35) rfl rfl ?_
  refine Wk.icmp_lt X0 hx 49 39 (hb hby d3_36) rfl rfl (show ((5 : Int32) : Int32).toInt = 5 from (by decide)) (show ((3 : Int32) : Int32).toInt = 3 from (by decide)) (fun h6 => absurd h6 (by omega)) (fun h6 => ?_)
  refine Wk.iloadN X0 hx (hb hby d3_39) rfl rfl ?_
  refine Wk.bipush X0 hx (7 : Int32) (hb hby d3_40) rfl rfl ?_
  refine Wk.icmp_gt X0 hx 49 45 (hb hby d3_42) rfl rfl (show ((5 : Int32) : Int32).toInt = 5 from (by decide)) (show ((7 : Int32) : Int32).toInt = 7 from (by decide)) (fun h7 => absurd h7 (by omega)) (fun h7 => ?_)
  refine Wk.ldcJ X0 hx hZ hown (hw _ (List.mem_of_getElem? (i := 27) rfl)) (hb hby d3_45) rfl ?_
  exact Wk.retL X0 hx hlk hret (hb hby d3_48) (Nat.zero_le _) (Nat.zero_le _) (Wk.puE (by decide) e0)
set_option maxRecDepth 65536 in
set_option maxHeartbeats 40000000 in
theorem pick6 (l : Launch) (Z : State) (a0 : Array Value) (hw : ∀ d ∈ tables_1, d.before a0 Z = true) (a : Addr) (h0 : Heap) (S : Sta Z h0 "com/example/tunnus/tunnus/model/Setting" "PASSWORD_MIN_LOWER" "Lcom/example/tunnus/tunnus/model/Setting;" (.ref a)) : Wk.Met l Z (⟨"com/example/tunnus/tunnus/model/SettingAcceptsPinLaw", "pick", "(I)Lcom/example/tunnus/tunnus/model/Setting;"⟩ : MethodName) method_2_code 1 (some (.object "com/example/tunnus/tunnus/model/Setting")) [] { frames := 0, cells := 0, slots := 0, locals := 0 } #[(.int (6 : Int32))] h0 (Wk.Pu (.ref a) h0) := by
  refine Wk.start pn1 ?_
  intro p e s m below meth c s₁ X0 hx hby hml hown0 hnm hret hlk hZ e0
  have hown : s.vm.findClass "com/example/tunnus/tunnus/model/SettingAcceptsPinLaw" = some m.cls := hown0
  refine Wk.enter (g' := (mkF m 0 #[.val (.int (6 : Int32))] [])) (by first | rfl | (simp [entryFrame, mkF, argsToLocals, Value.category, maxLocals]; done)) ?_
  refine Wk.iloadN X0 hx (hb hby d1_0) rfl rfl ?_
  refine Wk.if_ne X0 hx 8 4 (hb hby d1_1) rfl rfl (show ((6 : Int32) : Int32).toInt = 6 from (by decide)) (fun h1 => ?_) (fun h1 => absurd h1 (by omega))
  refine Wk.iloadN X0 hx (hb hby d1_8) rfl rfl ?_
  refine Wk.iconst X0 hx (1 : Int32) (hb hby d1_9) rfl rfl ?_
  refine Wk.icmp_ne X0 hx 17 13 (hb hby d1_10) rfl rfl (show ((6 : Int32) : Int32).toInt = 6 from (by decide)) (show ((1 : Int32) : Int32).toInt = 1 from (by decide)) (fun h2 => ?_) (fun h2 => absurd h2 (by omega))
  refine Wk.iloadN X0 hx (hb hby d1_17) rfl rfl ?_
  refine Wk.iconst X0 hx (2 : Int32) (hb hby d1_18) rfl rfl ?_
  refine Wk.icmp_ne X0 hx 26 22 (hb hby d1_19) rfl rfl (show ((6 : Int32) : Int32).toInt = 6 from (by decide)) (show ((2 : Int32) : Int32).toInt = 2 from (by decide)) (fun h3 => ?_) (fun h3 => absurd h3 (by omega))
  refine Wk.iloadN X0 hx (hb hby d1_26) rfl rfl ?_
  refine Wk.iconst X0 hx (3 : Int32) (hb hby d1_27) rfl rfl ?_
  refine Wk.icmp_ne X0 hx 35 31 (hb hby d1_28) rfl rfl (show ((6 : Int32) : Int32).toInt = 6 from (by decide)) (show ((3 : Int32) : Int32).toInt = 3 from (by decide)) (fun h4 => ?_) (fun h4 => absurd h4 (by omega))
  refine Wk.iloadN X0 hx (hb hby d1_35) rfl rfl ?_
  refine Wk.iconst X0 hx (4 : Int32) (hb hby d1_36) rfl rfl ?_
  refine Wk.icmp_ne X0 hx 44 40 (hb hby d1_37) rfl rfl (show ((6 : Int32) : Int32).toInt = 6 from (by decide)) (show ((4 : Int32) : Int32).toInt = 4 from (by decide)) (fun h5 => ?_) (fun h5 => absurd h5 (by omega))
  refine Wk.iloadN X0 hx (hb hby d1_44) rfl rfl ?_
  refine Wk.iconst X0 hx (5 : Int32) (hb hby d1_45) rfl rfl ?_
  refine Wk.icmp_ne X0 hx 53 49 (hb hby d1_46) rfl rfl (show ((6 : Int32) : Int32).toInt = 6 from (by decide)) (show ((5 : Int32) : Int32).toInt = 5 from (by decide)) (fun h6 => ?_) (fun h6 => absurd h6 (by omega))
  refine Wk.iloadN X0 hx (hb hby d1_53) rfl rfl ?_
  refine Wk.bipush X0 hx (6 : Int32) (hb hby d1_54) rfl rfl ?_
  refine Wk.icmp_ne X0 hx 63 59 (hb hby d1_56) rfl rfl (show ((6 : Int32) : Int32).toInt = 6 from (by decide)) (show ((6 : Int32) : Int32).toInt = 6 from (by decide)) (fun h7 => absurd h7 (by omega)) (fun h7 => ?_)
  refine Wk.getS (host := "") X0 hx hZ hown (Or.inl (hw _ (List.mem_of_getElem? (i := 39) rfl))) e0 S (hb hby d1_59) rfl (fun T8 X8 e8 => ?_)
  exact Wk.retA X8 hx hlk hret rfl rfl (hb hby d1_62) (Nat.zero_le _) (Nat.zero_le _) (Wk.pu e8)
set_option maxRecDepth 65536 in
set_option maxHeartbeats 40000000 in
theorem lo6 (l : Launch) (Z : State) (a0 : Array Value) (hw : ∀ d ∈ tables_1, d.before a0 Z = true)  (h0 : Heap)  : Wk.Met l Z (⟨"com/example/tunnus/tunnus/model/SettingAcceptsPinLaw", "lo", "(I)J"⟩ : MethodName) method_3_code 1 (some .long) [] { frames := 0, cells := 0, slots := 0, locals := 0 } #[(.int (6 : Int32))] h0 (Wk.Pu (.long (0 : Int32).toInt64) h0) := by
  refine Wk.start pn2 ?_
  intro p e s m below meth c s₁ X0 hx hby hml hown0 hnm hret hlk hZ e0
  have hown : s.vm.findClass "com/example/tunnus/tunnus/model/SettingAcceptsPinLaw" = some m.cls := hown0
  refine Wk.enter (g' := (mkF m 0 #[.val (.int (6 : Int32))] [])) (by first | rfl | (simp [entryFrame, mkF, argsToLocals, Value.category, maxLocals]; done)) ?_
  refine Wk.iloadN X0 hx (hb hby d2_0) rfl rfl ?_
  refine Wk.iconst X0 hx (2 : Int32) (hb hby d2_1) rfl rfl ?_
  refine Wk.icmp_eq X0 hx 23 5 (hb hby d2_2) rfl rfl (show ((6 : Int32) : Int32).toInt = 6 from (by decide)) (show ((2 : Int32) : Int32).toInt = 2 from (by decide)) (fun h1 => absurd h1 (by omega)) (fun h1 => ?_)
  refine Wk.iloadN X0 hx (hb hby d2_5) rfl rfl ?_
  refine Wk.bipush X0 hx (9 : Int32) (hb hby d2_6) rfl rfl ?_
  refine Wk.icmp_eq X0 hx 23 11 (hb hby d2_8) rfl rfl (show ((6 : Int32) : Int32).toInt = 6 from (by decide)) (show ((9 : Int32) : Int32).toInt = 9 from (by decide)) (fun h2 => absurd h2 (by omega)) (fun h2 => ?_)
  refine Wk.iloadN X0 hx (hb hby d2_11) rfl rfl ?_
  refine Wk.bipush X0 hx (10 : Int32) (hb hby d2_12) rfl rfl ?_
  refine Wk.icmp_eq X0 hx 23 17 (hb hby d2_14) rfl rfl (show ((6 : Int32) : Int32).toInt = 6 from (by decide)) (show ((10 : Int32) : Int32).toInt = 10 from (by decide)) (fun h3 => absurd h3 (by omega)) (fun h3 => ?_)
  refine Wk.iloadN X0 hx (hb hby d2_17) rfl rfl ?_
  refine Wk.bipush X0 hx (11 : Int32) (hb hby d2_18) rfl rfl ?_
  refine Wk.icmp_ne X0 hx 25 23 (hb hby d2_20) rfl rfl (show ((6 : Int32) : Int32).toInt = 6 from (by decide)) (show ((11 : Int32) : Int32).toInt = 11 from (by decide)) (fun h4 => ?_) (fun h4 => absurd h4 (by omega))
  refine Wk.iloadN X0 hx (hb hby d2_25) rfl rfl ?_
  refine Wk.iconst X0 hx (3 : Int32) (hb hby d2_26) rfl rfl ?_
  refine Wk.icmp_ne X0 hx 34 30 (hb hby d2_27) rfl rfl (show ((6 : Int32) : Int32).toInt = 6 from (by decide)) (show ((3 : Int32) : Int32).toInt = 3 from (by decide)) (fun h5 => ?_) (fun h5 => absurd h5 (by omega))
  refine Wk.lconst X0 hx (0 : Int64) (hb hby d2_34) rfl rfl ?_
  exact Wk.retL X0 hx hlk hret (hb hby d2_35) (Nat.zero_le _) (Nat.zero_le _) (Wk.puE (by decide) e0)
set_option maxRecDepth 65536 in
set_option maxHeartbeats 40000000 in
theorem hi6 (l : Launch) (Z : State) (a0 : Array Value) (hw : ∀ d ∈ tables_1, d.before a0 Z = true)  (h0 : Heap)  : Wk.Met l Z (⟨"com/example/tunnus/tunnus/model/SettingAcceptsPinLaw", "hi", "(I)J"⟩ : MethodName) method_4_code 1 (some .long) [] { frames := 0, cells := 0, slots := 0, locals := 0 } #[(.int (6 : Int32))] h0 (Wk.Pu (.long (1024 : Int32).toInt64) h0) := by
  refine Wk.start pn3 ?_
  intro p e s m below meth c s₁ X0 hx hby hml hown0 hnm hret hlk hZ e0
  have hown : s.vm.findClass "com/example/tunnus/tunnus/model/SettingAcceptsPinLaw" = some m.cls := hown0
  refine Wk.enter (g' := (mkF m 0 #[.val (.int (6 : Int32))] [])) (by first | rfl | (simp [entryFrame, mkF, argsToLocals, Value.category, maxLocals]; done)) ?_
  refine Wk.iloadN X0 hx (hb hby d3_0) rfl rfl ?_
  refine Wk.if_eq X0 hx 10 4 (hb hby d3_1) rfl rfl (show ((6 : Int32) : Int32).toInt = 6 from (by decide)) (fun h1 => absurd h1 (by omega)) (fun h1 => ?_)
  refine Wk.iloadN X0 hx (hb hby d3_4) rfl rfl ?_
  refine Wk.bipush X0 hx (8 : Int32) (hb hby d3_5) rfl rfl ?_
  refine Wk.icmp_ne X0 hx 14 10 (hb hby d3_7) rfl rfl (show ((6 : Int32) : Int32).toInt = 6 from (by decide)) (show ((8 : Int32) : Int32).toInt = 8 from (by decide)) (fun h2 => ?_) (fun h2 => absurd h2 (by omega))
  refine Wk.iloadN X0 hx (hb hby d3_14) rfl rfl ?_
  refine Wk.iconst X0 hx (1 : Int32) (hb hby d3_15) rfl rfl ?_
  refine Wk.icmp_eq X0 hx 30 19 (hb hby d3_16) rfl rfl (show ((6 : Int32) : Int32).toInt = 6 from (by decide)) (show ((1 : Int32) : Int32).toInt = 1 from (by decide)) (fun h3 => absurd h3 (by omega)) (fun h3 => ?_)
  refine Wk.iloadN X0 hx (hb hby d3_19) rfl rfl ?_
  refine Wk.iconst X0 hx (2 : Int32) (hb hby d3_20) rfl rfl ?_
  refine Wk.icmp_eq X0 hx 30 24 (hb hby d3_21) rfl rfl (show ((6 : Int32) : Int32).toInt = 6 from (by decide)) (show ((2 : Int32) : Int32).toInt = 2 from (by decide)) (fun h4 => absurd h4 (by omega)) (fun h4 => ?_)
  refine Wk.iloadN X0 hx (hb hby d3_24) rfl rfl ?_
  refine Wk.bipush X0 hx (10 : Int32) (hb hby d3_25) rfl rfl ?_
  refine Wk.icmp_ne X0 hx 34 30 (hb hby d3_27) rfl rfl (show ((6 : Int32) : Int32).toInt = 6 from (by decide)) (show ((10 : Int32) : Int32).toInt = 10 from (by decide)) (fun h5 => ?_) (fun h5 => absurd h5 (by omega))
  refine Wk.iloadN X0 hx (hb hby d3_34) rfl rfl ?_
  refine Wk.iconst X0 hx (3 : Int32) (hb hby d3_35) rfl rfl ?_
  refine Wk.icmp_lt X0 hx 49 39 (hb hby d3_36) rfl rfl (show ((6 : Int32) : Int32).toInt = 6 from (by decide)) (show ((3 : Int32) : Int32).toInt = 3 from (by decide)) (fun h6 => absurd h6 (by omega)) (fun h6 => ?_)
  refine Wk.iloadN X0 hx (hb hby d3_39) rfl rfl ?_
  refine Wk.bipush X0 hx (7 : Int32) (hb hby d3_40) rfl rfl ?_
  refine Wk.icmp_gt X0 hx 49 45 (hb hby d3_42) rfl rfl (show ((6 : Int32) : Int32).toInt = 6 from (by decide)) (show ((7 : Int32) : Int32).toInt = 7 from (by decide)) (fun h7 => absurd h7 (by omega)) (fun h7 => ?_)
  refine Wk.ldcJ X0 hx hZ hown (hw _ (List.mem_of_getElem? (i := 27) rfl)) (hb hby d3_45) rfl ?_
  exact Wk.retL X0 hx hlk hret (hb hby d3_48) (Nat.zero_le _) (Nat.zero_le _) (Wk.puE (by decide) e0)
set_option maxRecDepth 65536 in
set_option maxHeartbeats 40000000 in
theorem pick7 (l : Launch) (Z : State) (a0 : Array Value) (hw : ∀ d ∈ tables_1, d.before a0 Z = true) (a : Addr) (h0 : Heap) (S : Sta Z h0 "com/example/tunnus/tunnus/model/Setting" "PASSWORD_MIN_SYMBOLS" "Lcom/example/tunnus/tunnus/model/Setting;" (.ref a)) : Wk.Met l Z (⟨"com/example/tunnus/tunnus/model/SettingAcceptsPinLaw", "pick", "(I)Lcom/example/tunnus/tunnus/model/Setting;"⟩ : MethodName) method_2_code 1 (some (.object "com/example/tunnus/tunnus/model/Setting")) [] { frames := 0, cells := 0, slots := 0, locals := 0 } #[(.int (7 : Int32))] h0 (Wk.Pu (.ref a) h0) := by
  refine Wk.start pn1 ?_
  intro p e s m below meth c s₁ X0 hx hby hml hown0 hnm hret hlk hZ e0
  have hown : s.vm.findClass "com/example/tunnus/tunnus/model/SettingAcceptsPinLaw" = some m.cls := hown0
  refine Wk.enter (g' := (mkF m 0 #[.val (.int (7 : Int32))] [])) (by first | rfl | (simp [entryFrame, mkF, argsToLocals, Value.category, maxLocals]; done)) ?_
  refine Wk.iloadN X0 hx (hb hby d1_0) rfl rfl ?_
  refine Wk.if_ne X0 hx 8 4 (hb hby d1_1) rfl rfl (show ((7 : Int32) : Int32).toInt = 7 from (by decide)) (fun h1 => ?_) (fun h1 => absurd h1 (by omega))
  refine Wk.iloadN X0 hx (hb hby d1_8) rfl rfl ?_
  refine Wk.iconst X0 hx (1 : Int32) (hb hby d1_9) rfl rfl ?_
  refine Wk.icmp_ne X0 hx 17 13 (hb hby d1_10) rfl rfl (show ((7 : Int32) : Int32).toInt = 7 from (by decide)) (show ((1 : Int32) : Int32).toInt = 1 from (by decide)) (fun h2 => ?_) (fun h2 => absurd h2 (by omega))
  refine Wk.iloadN X0 hx (hb hby d1_17) rfl rfl ?_
  refine Wk.iconst X0 hx (2 : Int32) (hb hby d1_18) rfl rfl ?_
  refine Wk.icmp_ne X0 hx 26 22 (hb hby d1_19) rfl rfl (show ((7 : Int32) : Int32).toInt = 7 from (by decide)) (show ((2 : Int32) : Int32).toInt = 2 from (by decide)) (fun h3 => ?_) (fun h3 => absurd h3 (by omega))
  refine Wk.iloadN X0 hx (hb hby d1_26) rfl rfl ?_
  refine Wk.iconst X0 hx (3 : Int32) (hb hby d1_27) rfl rfl ?_
  refine Wk.icmp_ne X0 hx 35 31 (hb hby d1_28) rfl rfl (show ((7 : Int32) : Int32).toInt = 7 from (by decide)) (show ((3 : Int32) : Int32).toInt = 3 from (by decide)) (fun h4 => ?_) (fun h4 => absurd h4 (by omega))
  refine Wk.iloadN X0 hx (hb hby d1_35) rfl rfl ?_
  refine Wk.iconst X0 hx (4 : Int32) (hb hby d1_36) rfl rfl ?_
  refine Wk.icmp_ne X0 hx 44 40 (hb hby d1_37) rfl rfl (show ((7 : Int32) : Int32).toInt = 7 from (by decide)) (show ((4 : Int32) : Int32).toInt = 4 from (by decide)) (fun h5 => ?_) (fun h5 => absurd h5 (by omega))
  refine Wk.iloadN X0 hx (hb hby d1_44) rfl rfl ?_
  refine Wk.iconst X0 hx (5 : Int32) (hb hby d1_45) rfl rfl ?_
  refine Wk.icmp_ne X0 hx 53 49 (hb hby d1_46) rfl rfl (show ((7 : Int32) : Int32).toInt = 7 from (by decide)) (show ((5 : Int32) : Int32).toInt = 5 from (by decide)) (fun h6 => ?_) (fun h6 => absurd h6 (by omega))
  refine Wk.iloadN X0 hx (hb hby d1_53) rfl rfl ?_
  refine Wk.bipush X0 hx (6 : Int32) (hb hby d1_54) rfl rfl ?_
  refine Wk.icmp_ne X0 hx 63 59 (hb hby d1_56) rfl rfl (show ((7 : Int32) : Int32).toInt = 7 from (by decide)) (show ((6 : Int32) : Int32).toInt = 6 from (by decide)) (fun h7 => ?_) (fun h7 => absurd h7 (by omega))
  refine Wk.iloadN X0 hx (hb hby d1_63) rfl rfl ?_
  refine Wk.bipush X0 hx (7 : Int32) (hb hby d1_64) rfl rfl ?_
  refine Wk.icmp_ne X0 hx 73 69 (hb hby d1_66) rfl rfl (show ((7 : Int32) : Int32).toInt = 7 from (by decide)) (show ((7 : Int32) : Int32).toInt = 7 from (by decide)) (fun h8 => absurd h8 (by omega)) (fun h8 => ?_)
  refine Wk.getS (host := "") X0 hx hZ hown (Or.inl (hw _ (List.mem_of_getElem? (i := 49) rfl))) e0 S (hb hby d1_69) rfl (fun T9 X9 e9 => ?_)
  exact Wk.retA X9 hx hlk hret rfl rfl (hb hby d1_72) (Nat.zero_le _) (Nat.zero_le _) (Wk.pu e9)
set_option maxRecDepth 65536 in
set_option maxHeartbeats 40000000 in
theorem lo7 (l : Launch) (Z : State) (a0 : Array Value) (hw : ∀ d ∈ tables_1, d.before a0 Z = true)  (h0 : Heap)  : Wk.Met l Z (⟨"com/example/tunnus/tunnus/model/SettingAcceptsPinLaw", "lo", "(I)J"⟩ : MethodName) method_3_code 1 (some .long) [] { frames := 0, cells := 0, slots := 0, locals := 0 } #[(.int (7 : Int32))] h0 (Wk.Pu (.long (0 : Int32).toInt64) h0) := by
  refine Wk.start pn2 ?_
  intro p e s m below meth c s₁ X0 hx hby hml hown0 hnm hret hlk hZ e0
  have hown : s.vm.findClass "com/example/tunnus/tunnus/model/SettingAcceptsPinLaw" = some m.cls := hown0
  refine Wk.enter (g' := (mkF m 0 #[.val (.int (7 : Int32))] [])) (by first | rfl | (simp [entryFrame, mkF, argsToLocals, Value.category, maxLocals]; done)) ?_
  refine Wk.iloadN X0 hx (hb hby d2_0) rfl rfl ?_
  refine Wk.iconst X0 hx (2 : Int32) (hb hby d2_1) rfl rfl ?_
  refine Wk.icmp_eq X0 hx 23 5 (hb hby d2_2) rfl rfl (show ((7 : Int32) : Int32).toInt = 7 from (by decide)) (show ((2 : Int32) : Int32).toInt = 2 from (by decide)) (fun h1 => absurd h1 (by omega)) (fun h1 => ?_)
  refine Wk.iloadN X0 hx (hb hby d2_5) rfl rfl ?_
  refine Wk.bipush X0 hx (9 : Int32) (hb hby d2_6) rfl rfl ?_
  refine Wk.icmp_eq X0 hx 23 11 (hb hby d2_8) rfl rfl (show ((7 : Int32) : Int32).toInt = 7 from (by decide)) (show ((9 : Int32) : Int32).toInt = 9 from (by decide)) (fun h2 => absurd h2 (by omega)) (fun h2 => ?_)
  refine Wk.iloadN X0 hx (hb hby d2_11) rfl rfl ?_
  refine Wk.bipush X0 hx (10 : Int32) (hb hby d2_12) rfl rfl ?_
  refine Wk.icmp_eq X0 hx 23 17 (hb hby d2_14) rfl rfl (show ((7 : Int32) : Int32).toInt = 7 from (by decide)) (show ((10 : Int32) : Int32).toInt = 10 from (by decide)) (fun h3 => absurd h3 (by omega)) (fun h3 => ?_)
  refine Wk.iloadN X0 hx (hb hby d2_17) rfl rfl ?_
  refine Wk.bipush X0 hx (11 : Int32) (hb hby d2_18) rfl rfl ?_
  refine Wk.icmp_ne X0 hx 25 23 (hb hby d2_20) rfl rfl (show ((7 : Int32) : Int32).toInt = 7 from (by decide)) (show ((11 : Int32) : Int32).toInt = 11 from (by decide)) (fun h4 => ?_) (fun h4 => absurd h4 (by omega))
  refine Wk.iloadN X0 hx (hb hby d2_25) rfl rfl ?_
  refine Wk.iconst X0 hx (3 : Int32) (hb hby d2_26) rfl rfl ?_
  refine Wk.icmp_ne X0 hx 34 30 (hb hby d2_27) rfl rfl (show ((7 : Int32) : Int32).toInt = 7 from (by decide)) (show ((3 : Int32) : Int32).toInt = 3 from (by decide)) (fun h5 => ?_) (fun h5 => absurd h5 (by omega))
  refine Wk.lconst X0 hx (0 : Int64) (hb hby d2_34) rfl rfl ?_
  exact Wk.retL X0 hx hlk hret (hb hby d2_35) (Nat.zero_le _) (Nat.zero_le _) (Wk.puE (by decide) e0)
set_option maxRecDepth 65536 in
set_option maxHeartbeats 40000000 in
theorem hi7 (l : Launch) (Z : State) (a0 : Array Value) (hw : ∀ d ∈ tables_1, d.before a0 Z = true)  (h0 : Heap)  : Wk.Met l Z (⟨"com/example/tunnus/tunnus/model/SettingAcceptsPinLaw", "hi", "(I)J"⟩ : MethodName) method_4_code 1 (some .long) [] { frames := 0, cells := 0, slots := 0, locals := 0 } #[(.int (7 : Int32))] h0 (Wk.Pu (.long (1024 : Int32).toInt64) h0) := by
  refine Wk.start pn3 ?_
  intro p e s m below meth c s₁ X0 hx hby hml hown0 hnm hret hlk hZ e0
  have hown : s.vm.findClass "com/example/tunnus/tunnus/model/SettingAcceptsPinLaw" = some m.cls := hown0
  refine Wk.enter (g' := (mkF m 0 #[.val (.int (7 : Int32))] [])) (by first | rfl | (simp [entryFrame, mkF, argsToLocals, Value.category, maxLocals]; done)) ?_
  refine Wk.iloadN X0 hx (hb hby d3_0) rfl rfl ?_
  refine Wk.if_eq X0 hx 10 4 (hb hby d3_1) rfl rfl (show ((7 : Int32) : Int32).toInt = 7 from (by decide)) (fun h1 => absurd h1 (by omega)) (fun h1 => ?_)
  refine Wk.iloadN X0 hx (hb hby d3_4) rfl rfl ?_
  refine Wk.bipush X0 hx (8 : Int32) (hb hby d3_5) rfl rfl ?_
  refine Wk.icmp_ne X0 hx 14 10 (hb hby d3_7) rfl rfl (show ((7 : Int32) : Int32).toInt = 7 from (by decide)) (show ((8 : Int32) : Int32).toInt = 8 from (by decide)) (fun h2 => ?_) (fun h2 => absurd h2 (by omega))
  refine Wk.iloadN X0 hx (hb hby d3_14) rfl rfl ?_
  refine Wk.iconst X0 hx (1 : Int32) (hb hby d3_15) rfl rfl ?_
  refine Wk.icmp_eq X0 hx 30 19 (hb hby d3_16) rfl rfl (show ((7 : Int32) : Int32).toInt = 7 from (by decide)) (show ((1 : Int32) : Int32).toInt = 1 from (by decide)) (fun h3 => absurd h3 (by omega)) (fun h3 => ?_)
  refine Wk.iloadN X0 hx (hb hby d3_19) rfl rfl ?_
  refine Wk.iconst X0 hx (2 : Int32) (hb hby d3_20) rfl rfl ?_
  refine Wk.icmp_eq X0 hx 30 24 (hb hby d3_21) rfl rfl (show ((7 : Int32) : Int32).toInt = 7 from (by decide)) (show ((2 : Int32) : Int32).toInt = 2 from (by decide)) (fun h4 => absurd h4 (by omega)) (fun h4 => ?_)
  refine Wk.iloadN X0 hx (hb hby d3_24) rfl rfl ?_
  refine Wk.bipush X0 hx (10 : Int32) (hb hby d3_25) rfl rfl ?_
  refine Wk.icmp_ne X0 hx 34 30 (hb hby d3_27) rfl rfl (show ((7 : Int32) : Int32).toInt = 7 from (by decide)) (show ((10 : Int32) : Int32).toInt = 10 from (by decide)) (fun h5 => ?_) (fun h5 => absurd h5 (by omega))
  refine Wk.iloadN X0 hx (hb hby d3_34) rfl rfl ?_
  refine Wk.iconst X0 hx (3 : Int32) (hb hby d3_35) rfl rfl ?_
  refine Wk.icmp_lt X0 hx 49 39 (hb hby d3_36) rfl rfl (show ((7 : Int32) : Int32).toInt = 7 from (by decide)) (show ((3 : Int32) : Int32).toInt = 3 from (by decide)) (fun h6 => absurd h6 (by omega)) (fun h6 => ?_)
  refine Wk.iloadN X0 hx (hb hby d3_39) rfl rfl ?_
  refine Wk.bipush X0 hx (7 : Int32) (hb hby d3_40) rfl rfl ?_
  refine Wk.icmp_gt X0 hx 49 45 (hb hby d3_42) rfl rfl (show ((7 : Int32) : Int32).toInt = 7 from (by decide)) (show ((7 : Int32) : Int32).toInt = 7 from (by decide)) (fun h7 => absurd h7 (by omega)) (fun h7 => ?_)
  refine Wk.ldcJ X0 hx hZ hown (hw _ (List.mem_of_getElem? (i := 27) rfl)) (hb hby d3_45) rfl ?_
  exact Wk.retL X0 hx hlk hret (hb hby d3_48) (Nat.zero_le _) (Nat.zero_le _) (Wk.puE (by decide) e0)
set_option maxRecDepth 65536 in
set_option maxHeartbeats 40000000 in
theorem pick8 (l : Launch) (Z : State) (a0 : Array Value) (hw : ∀ d ∈ tables_1, d.before a0 Z = true) (a : Addr) (h0 : Heap) (S : Sta Z h0 "com/example/tunnus/tunnus/model/Setting" "PASSWORD_VALIDITY_DAYS" "Lcom/example/tunnus/tunnus/model/Setting;" (.ref a)) : Wk.Met l Z (⟨"com/example/tunnus/tunnus/model/SettingAcceptsPinLaw", "pick", "(I)Lcom/example/tunnus/tunnus/model/Setting;"⟩ : MethodName) method_2_code 1 (some (.object "com/example/tunnus/tunnus/model/Setting")) [] { frames := 0, cells := 0, slots := 0, locals := 0 } #[(.int (8 : Int32))] h0 (Wk.Pu (.ref a) h0) := by
  refine Wk.start pn1 ?_
  intro p e s m below meth c s₁ X0 hx hby hml hown0 hnm hret hlk hZ e0
  have hown : s.vm.findClass "com/example/tunnus/tunnus/model/SettingAcceptsPinLaw" = some m.cls := hown0
  refine Wk.enter (g' := (mkF m 0 #[.val (.int (8 : Int32))] [])) (by first | rfl | (simp [entryFrame, mkF, argsToLocals, Value.category, maxLocals]; done)) ?_
  refine Wk.iloadN X0 hx (hb hby d1_0) rfl rfl ?_
  refine Wk.if_ne X0 hx 8 4 (hb hby d1_1) rfl rfl (show ((8 : Int32) : Int32).toInt = 8 from (by decide)) (fun h1 => ?_) (fun h1 => absurd h1 (by omega))
  refine Wk.iloadN X0 hx (hb hby d1_8) rfl rfl ?_
  refine Wk.iconst X0 hx (1 : Int32) (hb hby d1_9) rfl rfl ?_
  refine Wk.icmp_ne X0 hx 17 13 (hb hby d1_10) rfl rfl (show ((8 : Int32) : Int32).toInt = 8 from (by decide)) (show ((1 : Int32) : Int32).toInt = 1 from (by decide)) (fun h2 => ?_) (fun h2 => absurd h2 (by omega))
  refine Wk.iloadN X0 hx (hb hby d1_17) rfl rfl ?_
  refine Wk.iconst X0 hx (2 : Int32) (hb hby d1_18) rfl rfl ?_
  refine Wk.icmp_ne X0 hx 26 22 (hb hby d1_19) rfl rfl (show ((8 : Int32) : Int32).toInt = 8 from (by decide)) (show ((2 : Int32) : Int32).toInt = 2 from (by decide)) (fun h3 => ?_) (fun h3 => absurd h3 (by omega))
  refine Wk.iloadN X0 hx (hb hby d1_26) rfl rfl ?_
  refine Wk.iconst X0 hx (3 : Int32) (hb hby d1_27) rfl rfl ?_
  refine Wk.icmp_ne X0 hx 35 31 (hb hby d1_28) rfl rfl (show ((8 : Int32) : Int32).toInt = 8 from (by decide)) (show ((3 : Int32) : Int32).toInt = 3 from (by decide)) (fun h4 => ?_) (fun h4 => absurd h4 (by omega))
  refine Wk.iloadN X0 hx (hb hby d1_35) rfl rfl ?_
  refine Wk.iconst X0 hx (4 : Int32) (hb hby d1_36) rfl rfl ?_
  refine Wk.icmp_ne X0 hx 44 40 (hb hby d1_37) rfl rfl (show ((8 : Int32) : Int32).toInt = 8 from (by decide)) (show ((4 : Int32) : Int32).toInt = 4 from (by decide)) (fun h5 => ?_) (fun h5 => absurd h5 (by omega))
  refine Wk.iloadN X0 hx (hb hby d1_44) rfl rfl ?_
  refine Wk.iconst X0 hx (5 : Int32) (hb hby d1_45) rfl rfl ?_
  refine Wk.icmp_ne X0 hx 53 49 (hb hby d1_46) rfl rfl (show ((8 : Int32) : Int32).toInt = 8 from (by decide)) (show ((5 : Int32) : Int32).toInt = 5 from (by decide)) (fun h6 => ?_) (fun h6 => absurd h6 (by omega))
  refine Wk.iloadN X0 hx (hb hby d1_53) rfl rfl ?_
  refine Wk.bipush X0 hx (6 : Int32) (hb hby d1_54) rfl rfl ?_
  refine Wk.icmp_ne X0 hx 63 59 (hb hby d1_56) rfl rfl (show ((8 : Int32) : Int32).toInt = 8 from (by decide)) (show ((6 : Int32) : Int32).toInt = 6 from (by decide)) (fun h7 => ?_) (fun h7 => absurd h7 (by omega))
  refine Wk.iloadN X0 hx (hb hby d1_63) rfl rfl ?_
  refine Wk.bipush X0 hx (7 : Int32) (hb hby d1_64) rfl rfl ?_
  refine Wk.icmp_ne X0 hx 73 69 (hb hby d1_66) rfl rfl (show ((8 : Int32) : Int32).toInt = 8 from (by decide)) (show ((7 : Int32) : Int32).toInt = 7 from (by decide)) (fun h8 => ?_) (fun h8 => absurd h8 (by omega))
  refine Wk.iloadN X0 hx (hb hby d1_73) rfl rfl ?_
  refine Wk.bipush X0 hx (8 : Int32) (hb hby d1_74) rfl rfl ?_
  refine Wk.icmp_ne X0 hx 83 79 (hb hby d1_76) rfl rfl (show ((8 : Int32) : Int32).toInt = 8 from (by decide)) (show ((8 : Int32) : Int32).toInt = 8 from (by decide)) (fun h9 => absurd h9 (by omega)) (fun h9 => ?_)
  refine Wk.getS (host := "") X0 hx hZ hown (Or.inl (hw _ (List.mem_of_getElem? (i := 51) rfl))) e0 S (hb hby d1_79) rfl (fun T10 X10 e10 => ?_)
  exact Wk.retA X10 hx hlk hret rfl rfl (hb hby d1_82) (Nat.zero_le _) (Nat.zero_le _) (Wk.pu e10)
set_option maxRecDepth 65536 in
set_option maxHeartbeats 40000000 in
theorem lo8 (l : Launch) (Z : State) (a0 : Array Value) (hw : ∀ d ∈ tables_1, d.before a0 Z = true)  (h0 : Heap)  : Wk.Met l Z (⟨"com/example/tunnus/tunnus/model/SettingAcceptsPinLaw", "lo", "(I)J"⟩ : MethodName) method_3_code 1 (some .long) [] { frames := 0, cells := 0, slots := 0, locals := 0 } #[(.int (8 : Int32))] h0 (Wk.Pu (.long (0 : Int32).toInt64) h0) := by
  refine Wk.start pn2 ?_
  intro p e s m below meth c s₁ X0 hx hby hml hown0 hnm hret hlk hZ e0
  have hown : s.vm.findClass "com/example/tunnus/tunnus/model/SettingAcceptsPinLaw" = some m.cls := hown0
  refine Wk.enter (g' := (mkF m 0 #[.val (.int (8 : Int32))] [])) (by first | rfl | (simp [entryFrame, mkF, argsToLocals, Value.category, maxLocals]; done)) ?_
  refine Wk.iloadN X0 hx (hb hby d2_0) rfl rfl ?_
  refine Wk.iconst X0 hx (2 : Int32) (hb hby d2_1) rfl rfl ?_
  refine Wk.icmp_eq X0 hx 23 5 (hb hby d2_2) rfl rfl (show ((8 : Int32) : Int32).toInt = 8 from (by decide)) (show ((2 : Int32) : Int32).toInt = 2 from (by decide)) (fun h1 => absurd h1 (by omega)) (fun h1 => ?_)
  refine Wk.iloadN X0 hx (hb hby d2_5) rfl rfl ?_
  refine Wk.bipush X0 hx (9 : Int32) (hb hby d2_6) rfl rfl ?_
  refine Wk.icmp_eq X0 hx 23 11 (hb hby d2_8) rfl rfl (show ((8 : Int32) : Int32).toInt = 8 from (by decide)) (show ((9 : Int32) : Int32).toInt = 9 from (by decide)) (fun h2 => absurd h2 (by omega)) (fun h2 => ?_)
  refine Wk.iloadN X0 hx (hb hby d2_11) rfl rfl ?_
  refine Wk.bipush X0 hx (10 : Int32) (hb hby d2_12) rfl rfl ?_
  refine Wk.icmp_eq X0 hx 23 17 (hb hby d2_14) rfl rfl (show ((8 : Int32) : Int32).toInt = 8 from (by decide)) (show ((10 : Int32) : Int32).toInt = 10 from (by decide)) (fun h3 => absurd h3 (by omega)) (fun h3 => ?_)
  refine Wk.iloadN X0 hx (hb hby d2_17) rfl rfl ?_
  refine Wk.bipush X0 hx (11 : Int32) (hb hby d2_18) rfl rfl ?_
  refine Wk.icmp_ne X0 hx 25 23 (hb hby d2_20) rfl rfl (show ((8 : Int32) : Int32).toInt = 8 from (by decide)) (show ((11 : Int32) : Int32).toInt = 11 from (by decide)) (fun h4 => ?_) (fun h4 => absurd h4 (by omega))
  refine Wk.iloadN X0 hx (hb hby d2_25) rfl rfl ?_
  refine Wk.iconst X0 hx (3 : Int32) (hb hby d2_26) rfl rfl ?_
  refine Wk.icmp_ne X0 hx 34 30 (hb hby d2_27) rfl rfl (show ((8 : Int32) : Int32).toInt = 8 from (by decide)) (show ((3 : Int32) : Int32).toInt = 3 from (by decide)) (fun h5 => ?_) (fun h5 => absurd h5 (by omega))
  refine Wk.lconst X0 hx (0 : Int64) (hb hby d2_34) rfl rfl ?_
  exact Wk.retL X0 hx hlk hret (hb hby d2_35) (Nat.zero_le _) (Nat.zero_le _) (Wk.puE (by decide) e0)
set_option maxRecDepth 65536 in
set_option maxHeartbeats 40000000 in
theorem hi8 (l : Launch) (Z : State) (a0 : Array Value) (hw : ∀ d ∈ tables_1, d.before a0 Z = true)  (h0 : Heap)  : Wk.Met l Z (⟨"com/example/tunnus/tunnus/model/SettingAcceptsPinLaw", "hi", "(I)J"⟩ : MethodName) method_4_code 1 (some .long) [] { frames := 0, cells := 0, slots := 0, locals := 0 } #[(.int (8 : Int32))] h0 (Wk.Pu (.long (36500 : Int32).toInt64) h0) := by
  refine Wk.start pn3 ?_
  intro p e s m below meth c s₁ X0 hx hby hml hown0 hnm hret hlk hZ e0
  have hown : s.vm.findClass "com/example/tunnus/tunnus/model/SettingAcceptsPinLaw" = some m.cls := hown0
  refine Wk.enter (g' := (mkF m 0 #[.val (.int (8 : Int32))] [])) (by first | rfl | (simp [entryFrame, mkF, argsToLocals, Value.category, maxLocals]; done)) ?_
  refine Wk.iloadN X0 hx (hb hby d3_0) rfl rfl ?_
  refine Wk.if_eq X0 hx 10 4 (hb hby d3_1) rfl rfl (show ((8 : Int32) : Int32).toInt = 8 from (by decide)) (fun h1 => absurd h1 (by omega)) (fun h1 => ?_)
  refine Wk.iloadN X0 hx (hb hby d3_4) rfl rfl ?_
  refine Wk.bipush X0 hx (8 : Int32) (hb hby d3_5) rfl rfl ?_
  refine Wk.icmp_ne X0 hx 14 10 (hb hby d3_7) rfl rfl (show ((8 : Int32) : Int32).toInt = 8 from (by decide)) (show ((8 : Int32) : Int32).toInt = 8 from (by decide)) (fun h2 => absurd h2 (by omega)) (fun h2 => ?_)
  refine Wk.ldcJ X0 hx hZ hown (hw _ (List.mem_of_getElem? (i := 14) rfl)) (hb hby d3_10) rfl ?_
  exact Wk.retL X0 hx hlk hret (hb hby d3_13) (Nat.zero_le _) (Nat.zero_le _) (Wk.puE (by decide) e0)
set_option maxRecDepth 65536 in
set_option maxHeartbeats 40000000 in
theorem pick9 (l : Launch) (Z : State) (a0 : Array Value) (hw : ∀ d ∈ tables_1, d.before a0 Z = true) (a : Addr) (h0 : Heap) (S : Sta Z h0 "com/example/tunnus/tunnus/model/Setting" "RESET_LINK_SECONDS" "Lcom/example/tunnus/tunnus/model/Setting;" (.ref a)) : Wk.Met l Z (⟨"com/example/tunnus/tunnus/model/SettingAcceptsPinLaw", "pick", "(I)Lcom/example/tunnus/tunnus/model/Setting;"⟩ : MethodName) method_2_code 1 (some (.object "com/example/tunnus/tunnus/model/Setting")) [] { frames := 0, cells := 0, slots := 0, locals := 0 } #[(.int (9 : Int32))] h0 (Wk.Pu (.ref a) h0) := by
  refine Wk.start pn1 ?_
  intro p e s m below meth c s₁ X0 hx hby hml hown0 hnm hret hlk hZ e0
  have hown : s.vm.findClass "com/example/tunnus/tunnus/model/SettingAcceptsPinLaw" = some m.cls := hown0
  refine Wk.enter (g' := (mkF m 0 #[.val (.int (9 : Int32))] [])) (by first | rfl | (simp [entryFrame, mkF, argsToLocals, Value.category, maxLocals]; done)) ?_
  refine Wk.iloadN X0 hx (hb hby d1_0) rfl rfl ?_
  refine Wk.if_ne X0 hx 8 4 (hb hby d1_1) rfl rfl (show ((9 : Int32) : Int32).toInt = 9 from (by decide)) (fun h1 => ?_) (fun h1 => absurd h1 (by omega))
  refine Wk.iloadN X0 hx (hb hby d1_8) rfl rfl ?_
  refine Wk.iconst X0 hx (1 : Int32) (hb hby d1_9) rfl rfl ?_
  refine Wk.icmp_ne X0 hx 17 13 (hb hby d1_10) rfl rfl (show ((9 : Int32) : Int32).toInt = 9 from (by decide)) (show ((1 : Int32) : Int32).toInt = 1 from (by decide)) (fun h2 => ?_) (fun h2 => absurd h2 (by omega))
  refine Wk.iloadN X0 hx (hb hby d1_17) rfl rfl ?_
  refine Wk.iconst X0 hx (2 : Int32) (hb hby d1_18) rfl rfl ?_
  refine Wk.icmp_ne X0 hx 26 22 (hb hby d1_19) rfl rfl (show ((9 : Int32) : Int32).toInt = 9 from (by decide)) (show ((2 : Int32) : Int32).toInt = 2 from (by decide)) (fun h3 => ?_) (fun h3 => absurd h3 (by omega))
  refine Wk.iloadN X0 hx (hb hby d1_26) rfl rfl ?_
  refine Wk.iconst X0 hx (3 : Int32) (hb hby d1_27) rfl rfl ?_
  refine Wk.icmp_ne X0 hx 35 31 (hb hby d1_28) rfl rfl (show ((9 : Int32) : Int32).toInt = 9 from (by decide)) (show ((3 : Int32) : Int32).toInt = 3 from (by decide)) (fun h4 => ?_) (fun h4 => absurd h4 (by omega))
  refine Wk.iloadN X0 hx (hb hby d1_35) rfl rfl ?_
  refine Wk.iconst X0 hx (4 : Int32) (hb hby d1_36) rfl rfl ?_
  refine Wk.icmp_ne X0 hx 44 40 (hb hby d1_37) rfl rfl (show ((9 : Int32) : Int32).toInt = 9 from (by decide)) (show ((4 : Int32) : Int32).toInt = 4 from (by decide)) (fun h5 => ?_) (fun h5 => absurd h5 (by omega))
  refine Wk.iloadN X0 hx (hb hby d1_44) rfl rfl ?_
  refine Wk.iconst X0 hx (5 : Int32) (hb hby d1_45) rfl rfl ?_
  refine Wk.icmp_ne X0 hx 53 49 (hb hby d1_46) rfl rfl (show ((9 : Int32) : Int32).toInt = 9 from (by decide)) (show ((5 : Int32) : Int32).toInt = 5 from (by decide)) (fun h6 => ?_) (fun h6 => absurd h6 (by omega))
  refine Wk.iloadN X0 hx (hb hby d1_53) rfl rfl ?_
  refine Wk.bipush X0 hx (6 : Int32) (hb hby d1_54) rfl rfl ?_
  refine Wk.icmp_ne X0 hx 63 59 (hb hby d1_56) rfl rfl (show ((9 : Int32) : Int32).toInt = 9 from (by decide)) (show ((6 : Int32) : Int32).toInt = 6 from (by decide)) (fun h7 => ?_) (fun h7 => absurd h7 (by omega))
  refine Wk.iloadN X0 hx (hb hby d1_63) rfl rfl ?_
  refine Wk.bipush X0 hx (7 : Int32) (hb hby d1_64) rfl rfl ?_
  refine Wk.icmp_ne X0 hx 73 69 (hb hby d1_66) rfl rfl (show ((9 : Int32) : Int32).toInt = 9 from (by decide)) (show ((7 : Int32) : Int32).toInt = 7 from (by decide)) (fun h8 => ?_) (fun h8 => absurd h8 (by omega))
  refine Wk.iloadN X0 hx (hb hby d1_73) rfl rfl ?_
  refine Wk.bipush X0 hx (8 : Int32) (hb hby d1_74) rfl rfl ?_
  refine Wk.icmp_ne X0 hx 83 79 (hb hby d1_76) rfl rfl (show ((9 : Int32) : Int32).toInt = 9 from (by decide)) (show ((8 : Int32) : Int32).toInt = 8 from (by decide)) (fun h9 => ?_) (fun h9 => absurd h9 (by omega))
  refine Wk.iloadN X0 hx (hb hby d1_83) rfl rfl ?_
  refine Wk.bipush X0 hx (9 : Int32) (hb hby d1_84) rfl rfl ?_
  refine Wk.icmp_ne X0 hx 93 89 (hb hby d1_86) rfl rfl (show ((9 : Int32) : Int32).toInt = 9 from (by decide)) (show ((9 : Int32) : Int32).toInt = 9 from (by decide)) (fun h10 => absurd h10 (by omega)) (fun h10 => ?_)
  refine Wk.getS (host := "") X0 hx hZ hown (Or.inl (hw _ (List.mem_of_getElem? (i := 28) rfl))) e0 S (hb hby d1_89) rfl (fun T11 X11 e11 => ?_)
  exact Wk.retA X11 hx hlk hret rfl rfl (hb hby d1_92) (Nat.zero_le _) (Nat.zero_le _) (Wk.pu e11)
set_option maxRecDepth 65536 in
set_option maxHeartbeats 40000000 in
theorem lo9 (l : Launch) (Z : State) (a0 : Array Value) (hw : ∀ d ∈ tables_1, d.before a0 Z = true)  (h0 : Heap)  : Wk.Met l Z (⟨"com/example/tunnus/tunnus/model/SettingAcceptsPinLaw", "lo", "(I)J"⟩ : MethodName) method_3_code 1 (some .long) [] { frames := 0, cells := 0, slots := 0, locals := 0 } #[(.int (9 : Int32))] h0 (Wk.Pu (.long (1 : Int32).toInt64) h0) := by
  refine Wk.start pn2 ?_
  intro p e s m below meth c s₁ X0 hx hby hml hown0 hnm hret hlk hZ e0
  have hown : s.vm.findClass "com/example/tunnus/tunnus/model/SettingAcceptsPinLaw" = some m.cls := hown0
  refine Wk.enter (g' := (mkF m 0 #[.val (.int (9 : Int32))] [])) (by first | rfl | (simp [entryFrame, mkF, argsToLocals, Value.category, maxLocals]; done)) ?_
  refine Wk.iloadN X0 hx (hb hby d2_0) rfl rfl ?_
  refine Wk.iconst X0 hx (2 : Int32) (hb hby d2_1) rfl rfl ?_
  refine Wk.icmp_eq X0 hx 23 5 (hb hby d2_2) rfl rfl (show ((9 : Int32) : Int32).toInt = 9 from (by decide)) (show ((2 : Int32) : Int32).toInt = 2 from (by decide)) (fun h1 => absurd h1 (by omega)) (fun h1 => ?_)
  refine Wk.iloadN X0 hx (hb hby d2_5) rfl rfl ?_
  refine Wk.bipush X0 hx (9 : Int32) (hb hby d2_6) rfl rfl ?_
  refine Wk.icmp_eq X0 hx 23 11 (hb hby d2_8) rfl rfl (show ((9 : Int32) : Int32).toInt = 9 from (by decide)) (show ((9 : Int32) : Int32).toInt = 9 from (by decide)) (fun h2 => ?_) (fun h2 => absurd h2 (by omega))
  refine Wk.lconst X0 hx (1 : Int64) (hb hby d2_23) rfl rfl ?_
  exact Wk.retL X0 hx hlk hret (hb hby d2_24) (Nat.zero_le _) (Nat.zero_le _) (Wk.puE (by decide) e0)
set_option maxRecDepth 65536 in
set_option maxHeartbeats 40000000 in
theorem hi9 (l : Launch) (Z : State) (a0 : Array Value) (hw : ∀ d ∈ tables_1, d.before a0 Z = true)  (h0 : Heap)  : Wk.Met l Z (⟨"com/example/tunnus/tunnus/model/SettingAcceptsPinLaw", "hi", "(I)J"⟩ : MethodName) method_4_code 1 (some .long) [] { frames := 0, cells := 0, slots := 0, locals := 0 } #[(.int (9 : Int32))] h0 (Wk.Pu (.long (604800 : Int32).toInt64) h0) := by
  refine Wk.start pn3 ?_
  intro p e s m below meth c s₁ X0 hx hby hml hown0 hnm hret hlk hZ e0
  have hown : s.vm.findClass "com/example/tunnus/tunnus/model/SettingAcceptsPinLaw" = some m.cls := hown0
  refine Wk.enter (g' := (mkF m 0 #[.val (.int (9 : Int32))] [])) (by first | rfl | (simp [entryFrame, mkF, argsToLocals, Value.category, maxLocals]; done)) ?_
  refine Wk.iloadN X0 hx (hb hby d3_0) rfl rfl ?_
  refine Wk.if_eq X0 hx 10 4 (hb hby d3_1) rfl rfl (show ((9 : Int32) : Int32).toInt = 9 from (by decide)) (fun h1 => absurd h1 (by omega)) (fun h1 => ?_)
  refine Wk.iloadN X0 hx (hb hby d3_4) rfl rfl ?_
  refine Wk.bipush X0 hx (8 : Int32) (hb hby d3_5) rfl rfl ?_
  refine Wk.icmp_ne X0 hx 14 10 (hb hby d3_7) rfl rfl (show ((9 : Int32) : Int32).toInt = 9 from (by decide)) (show ((8 : Int32) : Int32).toInt = 8 from (by decide)) (fun h2 => ?_) (fun h2 => absurd h2 (by omega))
  refine Wk.iloadN X0 hx (hb hby d3_14) rfl rfl ?_
  refine Wk.iconst X0 hx (1 : Int32) (hb hby d3_15) rfl rfl ?_
  refine Wk.icmp_eq X0 hx 30 19 (hb hby d3_16) rfl rfl (show ((9 : Int32) : Int32).toInt = 9 from (by decide)) (show ((1 : Int32) : Int32).toInt = 1 from (by decide)) (fun h3 => absurd h3 (by omega)) (fun h3 => ?_)
  refine Wk.iloadN X0 hx (hb hby d3_19) rfl rfl ?_
  refine Wk.iconst X0 hx (2 : Int32) (hb hby d3_20) rfl rfl ?_
  refine Wk.icmp_eq X0 hx 30 24 (hb hby d3_21) rfl rfl (show ((9 : Int32) : Int32).toInt = 9 from (by decide)) (show ((2 : Int32) : Int32).toInt = 2 from (by decide)) (fun h4 => absurd h4 (by omega)) (fun h4 => ?_)
  refine Wk.iloadN X0 hx (hb hby d3_24) rfl rfl ?_
  refine Wk.bipush X0 hx (10 : Int32) (hb hby d3_25) rfl rfl ?_
  refine Wk.icmp_ne X0 hx 34 30 (hb hby d3_27) rfl rfl (show ((9 : Int32) : Int32).toInt = 9 from (by decide)) (show ((10 : Int32) : Int32).toInt = 10 from (by decide)) (fun h5 => ?_) (fun h5 => absurd h5 (by omega))
  refine Wk.iloadN X0 hx (hb hby d3_34) rfl rfl ?_
  refine Wk.iconst X0 hx (3 : Int32) (hb hby d3_35) rfl rfl ?_
  refine Wk.icmp_lt X0 hx 49 39 (hb hby d3_36) rfl rfl (show ((9 : Int32) : Int32).toInt = 9 from (by decide)) (show ((3 : Int32) : Int32).toInt = 3 from (by decide)) (fun h6 => absurd h6 (by omega)) (fun h6 => ?_)
  refine Wk.iloadN X0 hx (hb hby d3_39) rfl rfl ?_
  refine Wk.bipush X0 hx (7 : Int32) (hb hby d3_40) rfl rfl ?_
  refine Wk.icmp_gt X0 hx 49 45 (hb hby d3_42) rfl rfl (show ((9 : Int32) : Int32).toInt = 9 from (by decide)) (show ((7 : Int32) : Int32).toInt = 7 from (by decide)) (fun h7 => ?_) (fun h7 => absurd h7 (by omega))
  refine Wk.iloadN X0 hx (hb hby d3_49) rfl rfl ?_
  refine Wk.bipush X0 hx (9 : Int32) (hb hby d3_50) rfl rfl ?_
  refine Wk.icmp_eq X0 hx 61 55 (hb hby d3_52) rfl rfl (show ((9 : Int32) : Int32).toInt = 9 from (by decide)) (show ((9 : Int32) : Int32).toInt = 9 from (by decide)) (fun h8 => ?_) (fun h8 => absurd h8 (by omega))
  refine Wk.ldcJ X0 hx hZ hown (hw _ (List.mem_of_getElem? (i := 30) rfl)) (hb hby d3_61) rfl ?_
  exact Wk.retL X0 hx hlk hret (hb hby d3_64) (Nat.zero_le _) (Nat.zero_le _) (Wk.puE (by decide) e0)
set_option maxRecDepth 65536 in
set_option maxHeartbeats 40000000 in
theorem pick10 (l : Launch) (Z : State) (a0 : Array Value) (hw : ∀ d ∈ tables_1, d.before a0 Z = true) (a : Addr) (h0 : Heap) (S : Sta Z h0 "com/example/tunnus/tunnus/model/Setting" "RESET_LINK_LIMIT" "Lcom/example/tunnus/tunnus/model/Setting;" (.ref a)) : Wk.Met l Z (⟨"com/example/tunnus/tunnus/model/SettingAcceptsPinLaw", "pick", "(I)Lcom/example/tunnus/tunnus/model/Setting;"⟩ : MethodName) method_2_code 1 (some (.object "com/example/tunnus/tunnus/model/Setting")) [] { frames := 0, cells := 0, slots := 0, locals := 0 } #[(.int (10 : Int32))] h0 (Wk.Pu (.ref a) h0) := by
  refine Wk.start pn1 ?_
  intro p e s m below meth c s₁ X0 hx hby hml hown0 hnm hret hlk hZ e0
  have hown : s.vm.findClass "com/example/tunnus/tunnus/model/SettingAcceptsPinLaw" = some m.cls := hown0
  refine Wk.enter (g' := (mkF m 0 #[.val (.int (10 : Int32))] [])) (by first | rfl | (simp [entryFrame, mkF, argsToLocals, Value.category, maxLocals]; done)) ?_
  refine Wk.iloadN X0 hx (hb hby d1_0) rfl rfl ?_
  refine Wk.if_ne X0 hx 8 4 (hb hby d1_1) rfl rfl (show ((10 : Int32) : Int32).toInt = 10 from (by decide)) (fun h1 => ?_) (fun h1 => absurd h1 (by omega))
  refine Wk.iloadN X0 hx (hb hby d1_8) rfl rfl ?_
  refine Wk.iconst X0 hx (1 : Int32) (hb hby d1_9) rfl rfl ?_
  refine Wk.icmp_ne X0 hx 17 13 (hb hby d1_10) rfl rfl (show ((10 : Int32) : Int32).toInt = 10 from (by decide)) (show ((1 : Int32) : Int32).toInt = 1 from (by decide)) (fun h2 => ?_) (fun h2 => absurd h2 (by omega))
  refine Wk.iloadN X0 hx (hb hby d1_17) rfl rfl ?_
  refine Wk.iconst X0 hx (2 : Int32) (hb hby d1_18) rfl rfl ?_
  refine Wk.icmp_ne X0 hx 26 22 (hb hby d1_19) rfl rfl (show ((10 : Int32) : Int32).toInt = 10 from (by decide)) (show ((2 : Int32) : Int32).toInt = 2 from (by decide)) (fun h3 => ?_) (fun h3 => absurd h3 (by omega))
  refine Wk.iloadN X0 hx (hb hby d1_26) rfl rfl ?_
  refine Wk.iconst X0 hx (3 : Int32) (hb hby d1_27) rfl rfl ?_
  refine Wk.icmp_ne X0 hx 35 31 (hb hby d1_28) rfl rfl (show ((10 : Int32) : Int32).toInt = 10 from (by decide)) (show ((3 : Int32) : Int32).toInt = 3 from (by decide)) (fun h4 => ?_) (fun h4 => absurd h4 (by omega))
  refine Wk.iloadN X0 hx (hb hby d1_35) rfl rfl ?_
  refine Wk.iconst X0 hx (4 : Int32) (hb hby d1_36) rfl rfl ?_
  refine Wk.icmp_ne X0 hx 44 40 (hb hby d1_37) rfl rfl (show ((10 : Int32) : Int32).toInt = 10 from (by decide)) (show ((4 : Int32) : Int32).toInt = 4 from (by decide)) (fun h5 => ?_) (fun h5 => absurd h5 (by omega))
  refine Wk.iloadN X0 hx (hb hby d1_44) rfl rfl ?_
  refine Wk.iconst X0 hx (5 : Int32) (hb hby d1_45) rfl rfl ?_
  refine Wk.icmp_ne X0 hx 53 49 (hb hby d1_46) rfl rfl (show ((10 : Int32) : Int32).toInt = 10 from (by decide)) (show ((5 : Int32) : Int32).toInt = 5 from (by decide)) (fun h6 => ?_) (fun h6 => absurd h6 (by omega))
  refine Wk.iloadN X0 hx (hb hby d1_53) rfl rfl ?_
  refine Wk.bipush X0 hx (6 : Int32) (hb hby d1_54) rfl rfl ?_
  refine Wk.icmp_ne X0 hx 63 59 (hb hby d1_56) rfl rfl (show ((10 : Int32) : Int32).toInt = 10 from (by decide)) (show ((6 : Int32) : Int32).toInt = 6 from (by decide)) (fun h7 => ?_) (fun h7 => absurd h7 (by omega))
  refine Wk.iloadN X0 hx (hb hby d1_63) rfl rfl ?_
  refine Wk.bipush X0 hx (7 : Int32) (hb hby d1_64) rfl rfl ?_
  refine Wk.icmp_ne X0 hx 73 69 (hb hby d1_66) rfl rfl (show ((10 : Int32) : Int32).toInt = 10 from (by decide)) (show ((7 : Int32) : Int32).toInt = 7 from (by decide)) (fun h8 => ?_) (fun h8 => absurd h8 (by omega))
  refine Wk.iloadN X0 hx (hb hby d1_73) rfl rfl ?_
  refine Wk.bipush X0 hx (8 : Int32) (hb hby d1_74) rfl rfl ?_
  refine Wk.icmp_ne X0 hx 83 79 (hb hby d1_76) rfl rfl (show ((10 : Int32) : Int32).toInt = 10 from (by decide)) (show ((8 : Int32) : Int32).toInt = 8 from (by decide)) (fun h9 => ?_) (fun h9 => absurd h9 (by omega))
  refine Wk.iloadN X0 hx (hb hby d1_83) rfl rfl ?_
  refine Wk.bipush X0 hx (9 : Int32) (hb hby d1_84) rfl rfl ?_
  refine Wk.icmp_ne X0 hx 93 89 (hb hby d1_86) rfl rfl (show ((10 : Int32) : Int32).toInt = 10 from (by decide)) (show ((9 : Int32) : Int32).toInt = 9 from (by decide)) (fun h10 => ?_) (fun h10 => absurd h10 (by omega))
  refine Wk.iloadN X0 hx (hb hby d1_93) rfl rfl ?_
  refine Wk.bipush X0 hx (10 : Int32) (hb hby d1_94) rfl rfl ?_
  refine Wk.icmp_ne X0 hx 103 99 (hb hby d1_96) rfl rfl (show ((10 : Int32) : Int32).toInt = 10 from (by decide)) (show ((10 : Int32) : Int32).toInt = 10 from (by decide)) (fun h11 => absurd h11 (by omega)) (fun h11 => ?_)
  refine Wk.getS (host := "") X0 hx hZ hown (Or.inl (hw _ (List.mem_of_getElem? (i := 37) rfl))) e0 S (hb hby d1_99) rfl (fun T12 X12 e12 => ?_)
  exact Wk.retA X12 hx hlk hret rfl rfl (hb hby d1_102) (Nat.zero_le _) (Nat.zero_le _) (Wk.pu e12)
set_option maxRecDepth 65536 in
set_option maxHeartbeats 40000000 in
theorem lo10 (l : Launch) (Z : State) (a0 : Array Value) (hw : ∀ d ∈ tables_1, d.before a0 Z = true)  (h0 : Heap)  : Wk.Met l Z (⟨"com/example/tunnus/tunnus/model/SettingAcceptsPinLaw", "lo", "(I)J"⟩ : MethodName) method_3_code 1 (some .long) [] { frames := 0, cells := 0, slots := 0, locals := 0 } #[(.int (10 : Int32))] h0 (Wk.Pu (.long (1 : Int32).toInt64) h0) := by
  refine Wk.start pn2 ?_
  intro p e s m below meth c s₁ X0 hx hby hml hown0 hnm hret hlk hZ e0
  have hown : s.vm.findClass "com/example/tunnus/tunnus/model/SettingAcceptsPinLaw" = some m.cls := hown0
  refine Wk.enter (g' := (mkF m 0 #[.val (.int (10 : Int32))] [])) (by first | rfl | (simp [entryFrame, mkF, argsToLocals, Value.category, maxLocals]; done)) ?_
  refine Wk.iloadN X0 hx (hb hby d2_0) rfl rfl ?_
  refine Wk.iconst X0 hx (2 : Int32) (hb hby d2_1) rfl rfl ?_
  refine Wk.icmp_eq X0 hx 23 5 (hb hby d2_2) rfl rfl (show ((10 : Int32) : Int32).toInt = 10 from (by decide)) (show ((2 : Int32) : Int32).toInt = 2 from (by decide)) (fun h1 => absurd h1 (by omega)) (fun h1 => ?_)
  refine Wk.iloadN X0 hx (hb hby d2_5) rfl rfl ?_
  refine Wk.bipush X0 hx (9 : Int32) (hb hby d2_6) rfl rfl ?_
  refine Wk.icmp_eq X0 hx 23 11 (hb hby d2_8) rfl rfl (show ((10 : Int32) : Int32).toInt = 10 from (by decide)) (show ((9 : Int32) : Int32).toInt = 9 from (by decide)) (fun h2 => absurd h2 (by omega)) (fun h2 => ?_)
  refine Wk.iloadN X0 hx (hb hby d2_11) rfl rfl ?_
  refine Wk.bipush X0 hx (10 : Int32) (hb hby d2_12) rfl rfl ?_
  refine Wk.icmp_eq X0 hx 23 17 (hb hby d2_14) rfl rfl (show ((10 : Int32) : Int32).toInt = 10 from (by decide)) (show ((10 : Int32) : Int32).toInt = 10 from (by decide)) (fun h3 => ?_) (fun h3 => absurd h3 (by omega))
  refine Wk.lconst X0 hx (1 : Int64) (hb hby d2_23) rfl rfl ?_
  exact Wk.retL X0 hx hlk hret (hb hby d2_24) (Nat.zero_le _) (Nat.zero_le _) (Wk.puE (by decide) e0)
set_option maxRecDepth 65536 in
set_option maxHeartbeats 40000000 in
theorem hi10 (l : Launch) (Z : State) (a0 : Array Value) (hw : ∀ d ∈ tables_1, d.before a0 Z = true)  (h0 : Heap)  : Wk.Met l Z (⟨"com/example/tunnus/tunnus/model/SettingAcceptsPinLaw", "hi", "(I)J"⟩ : MethodName) method_4_code 1 (some .long) [] { frames := 0, cells := 0, slots := 0, locals := 0 } #[(.int (10 : Int32))] h0 (Wk.Pu (.long (2147483647 : Int32).toInt64) h0) := by
  refine Wk.start pn3 ?_
  intro p e s m below meth c s₁ X0 hx hby hml hown0 hnm hret hlk hZ e0
  have hown : s.vm.findClass "com/example/tunnus/tunnus/model/SettingAcceptsPinLaw" = some m.cls := hown0
  refine Wk.enter (g' := (mkF m 0 #[.val (.int (10 : Int32))] [])) (by first | rfl | (simp [entryFrame, mkF, argsToLocals, Value.category, maxLocals]; done)) ?_
  refine Wk.iloadN X0 hx (hb hby d3_0) rfl rfl ?_
  refine Wk.if_eq X0 hx 10 4 (hb hby d3_1) rfl rfl (show ((10 : Int32) : Int32).toInt = 10 from (by decide)) (fun h1 => absurd h1 (by omega)) (fun h1 => ?_)
  refine Wk.iloadN X0 hx (hb hby d3_4) rfl rfl ?_
  refine Wk.bipush X0 hx (8 : Int32) (hb hby d3_5) rfl rfl ?_
  refine Wk.icmp_ne X0 hx 14 10 (hb hby d3_7) rfl rfl (show ((10 : Int32) : Int32).toInt = 10 from (by decide)) (show ((8 : Int32) : Int32).toInt = 8 from (by decide)) (fun h2 => ?_) (fun h2 => absurd h2 (by omega))
  refine Wk.iloadN X0 hx (hb hby d3_14) rfl rfl ?_
  refine Wk.iconst X0 hx (1 : Int32) (hb hby d3_15) rfl rfl ?_
  refine Wk.icmp_eq X0 hx 30 19 (hb hby d3_16) rfl rfl (show ((10 : Int32) : Int32).toInt = 10 from (by decide)) (show ((1 : Int32) : Int32).toInt = 1 from (by decide)) (fun h3 => absurd h3 (by omega)) (fun h3 => ?_)
  refine Wk.iloadN X0 hx (hb hby d3_19) rfl rfl ?_
  refine Wk.iconst X0 hx (2 : Int32) (hb hby d3_20) rfl rfl ?_
  refine Wk.icmp_eq X0 hx 30 24 (hb hby d3_21) rfl rfl (show ((10 : Int32) : Int32).toInt = 10 from (by decide)) (show ((2 : Int32) : Int32).toInt = 2 from (by decide)) (fun h4 => absurd h4 (by omega)) (fun h4 => ?_)
  refine Wk.iloadN X0 hx (hb hby d3_24) rfl rfl ?_
  refine Wk.bipush X0 hx (10 : Int32) (hb hby d3_25) rfl rfl ?_
  refine Wk.icmp_ne X0 hx 34 30 (hb hby d3_27) rfl rfl (show ((10 : Int32) : Int32).toInt = 10 from (by decide)) (show ((10 : Int32) : Int32).toInt = 10 from (by decide)) (fun h5 => absurd h5 (by omega)) (fun h5 => ?_)
  refine Wk.ldcJ X0 hx hZ hown (hw _ (List.mem_of_getElem? (i := 33) rfl)) (hb hby d3_30) rfl ?_
  exact Wk.retL X0 hx hlk hret (hb hby d3_33) (Nat.zero_le _) (Nat.zero_le _) (Wk.puE (by decide) e0)
set_option maxRecDepth 65536 in
set_option maxHeartbeats 40000000 in
theorem pick11 (l : Launch) (Z : State) (a0 : Array Value) (hw : ∀ d ∈ tables_1, d.before a0 Z = true) (a : Addr) (h0 : Heap) (S : Sta Z h0 "com/example/tunnus/tunnus/model/Setting" "RESET_LINK_WINDOW_SECONDS" "Lcom/example/tunnus/tunnus/model/Setting;" (.ref a)) : Wk.Met l Z (⟨"com/example/tunnus/tunnus/model/SettingAcceptsPinLaw", "pick", "(I)Lcom/example/tunnus/tunnus/model/Setting;"⟩ : MethodName) method_2_code 1 (some (.object "com/example/tunnus/tunnus/model/Setting")) [] { frames := 0, cells := 0, slots := 0, locals := 0 } #[(.int (11 : Int32))] h0 (Wk.Pu (.ref a) h0) := by
  refine Wk.start pn1 ?_
  intro p e s m below meth c s₁ X0 hx hby hml hown0 hnm hret hlk hZ e0
  have hown : s.vm.findClass "com/example/tunnus/tunnus/model/SettingAcceptsPinLaw" = some m.cls := hown0
  refine Wk.enter (g' := (mkF m 0 #[.val (.int (11 : Int32))] [])) (by first | rfl | (simp [entryFrame, mkF, argsToLocals, Value.category, maxLocals]; done)) ?_
  refine Wk.iloadN X0 hx (hb hby d1_0) rfl rfl ?_
  refine Wk.if_ne X0 hx 8 4 (hb hby d1_1) rfl rfl (show ((11 : Int32) : Int32).toInt = 11 from (by decide)) (fun h1 => ?_) (fun h1 => absurd h1 (by omega))
  refine Wk.iloadN X0 hx (hb hby d1_8) rfl rfl ?_
  refine Wk.iconst X0 hx (1 : Int32) (hb hby d1_9) rfl rfl ?_
  refine Wk.icmp_ne X0 hx 17 13 (hb hby d1_10) rfl rfl (show ((11 : Int32) : Int32).toInt = 11 from (by decide)) (show ((1 : Int32) : Int32).toInt = 1 from (by decide)) (fun h2 => ?_) (fun h2 => absurd h2 (by omega))
  refine Wk.iloadN X0 hx (hb hby d1_17) rfl rfl ?_
  refine Wk.iconst X0 hx (2 : Int32) (hb hby d1_18) rfl rfl ?_
  refine Wk.icmp_ne X0 hx 26 22 (hb hby d1_19) rfl rfl (show ((11 : Int32) : Int32).toInt = 11 from (by decide)) (show ((2 : Int32) : Int32).toInt = 2 from (by decide)) (fun h3 => ?_) (fun h3 => absurd h3 (by omega))
  refine Wk.iloadN X0 hx (hb hby d1_26) rfl rfl ?_
  refine Wk.iconst X0 hx (3 : Int32) (hb hby d1_27) rfl rfl ?_
  refine Wk.icmp_ne X0 hx 35 31 (hb hby d1_28) rfl rfl (show ((11 : Int32) : Int32).toInt = 11 from (by decide)) (show ((3 : Int32) : Int32).toInt = 3 from (by decide)) (fun h4 => ?_) (fun h4 => absurd h4 (by omega))
  refine Wk.iloadN X0 hx (hb hby d1_35) rfl rfl ?_
  refine Wk.iconst X0 hx (4 : Int32) (hb hby d1_36) rfl rfl ?_
  refine Wk.icmp_ne X0 hx 44 40 (hb hby d1_37) rfl rfl (show ((11 : Int32) : Int32).toInt = 11 from (by decide)) (show ((4 : Int32) : Int32).toInt = 4 from (by decide)) (fun h5 => ?_) (fun h5 => absurd h5 (by omega))
  refine Wk.iloadN X0 hx (hb hby d1_44) rfl rfl ?_
  refine Wk.iconst X0 hx (5 : Int32) (hb hby d1_45) rfl rfl ?_
  refine Wk.icmp_ne X0 hx 53 49 (hb hby d1_46) rfl rfl (show ((11 : Int32) : Int32).toInt = 11 from (by decide)) (show ((5 : Int32) : Int32).toInt = 5 from (by decide)) (fun h6 => ?_) (fun h6 => absurd h6 (by omega))
  refine Wk.iloadN X0 hx (hb hby d1_53) rfl rfl ?_
  refine Wk.bipush X0 hx (6 : Int32) (hb hby d1_54) rfl rfl ?_
  refine Wk.icmp_ne X0 hx 63 59 (hb hby d1_56) rfl rfl (show ((11 : Int32) : Int32).toInt = 11 from (by decide)) (show ((6 : Int32) : Int32).toInt = 6 from (by decide)) (fun h7 => ?_) (fun h7 => absurd h7 (by omega))
  refine Wk.iloadN X0 hx (hb hby d1_63) rfl rfl ?_
  refine Wk.bipush X0 hx (7 : Int32) (hb hby d1_64) rfl rfl ?_
  refine Wk.icmp_ne X0 hx 73 69 (hb hby d1_66) rfl rfl (show ((11 : Int32) : Int32).toInt = 11 from (by decide)) (show ((7 : Int32) : Int32).toInt = 7 from (by decide)) (fun h8 => ?_) (fun h8 => absurd h8 (by omega))
  refine Wk.iloadN X0 hx (hb hby d1_73) rfl rfl ?_
  refine Wk.bipush X0 hx (8 : Int32) (hb hby d1_74) rfl rfl ?_
  refine Wk.icmp_ne X0 hx 83 79 (hb hby d1_76) rfl rfl (show ((11 : Int32) : Int32).toInt = 11 from (by decide)) (show ((8 : Int32) : Int32).toInt = 8 from (by decide)) (fun h9 => ?_) (fun h9 => absurd h9 (by omega))
  refine Wk.iloadN X0 hx (hb hby d1_83) rfl rfl ?_
  refine Wk.bipush X0 hx (9 : Int32) (hb hby d1_84) rfl rfl ?_
  refine Wk.icmp_ne X0 hx 93 89 (hb hby d1_86) rfl rfl (show ((11 : Int32) : Int32).toInt = 11 from (by decide)) (show ((9 : Int32) : Int32).toInt = 9 from (by decide)) (fun h10 => ?_) (fun h10 => absurd h10 (by omega))
  refine Wk.iloadN X0 hx (hb hby d1_93) rfl rfl ?_
  refine Wk.bipush X0 hx (10 : Int32) (hb hby d1_94) rfl rfl ?_
  refine Wk.icmp_ne X0 hx 103 99 (hb hby d1_96) rfl rfl (show ((11 : Int32) : Int32).toInt = 11 from (by decide)) (show ((10 : Int32) : Int32).toInt = 10 from (by decide)) (fun h11 => ?_) (fun h11 => absurd h11 (by omega))
  refine Wk.iloadN X0 hx (hb hby d1_103) rfl rfl ?_
  refine Wk.bipush X0 hx (11 : Int32) (hb hby d1_104) rfl rfl ?_
  refine Wk.icmp_ne X0 hx 113 109 (hb hby d1_106) rfl rfl (show ((11 : Int32) : Int32).toInt = 11 from (by decide)) (show ((11 : Int32) : Int32).toInt = 11 from (by decide)) (fun h12 => absurd h12 (by omega)) (fun h12 => ?_)
  refine Wk.getS (host := "") X0 hx hZ hown (Or.inl (hw _ (List.mem_of_getElem? (i := 41) rfl))) e0 S (hb hby d1_109) rfl (fun T13 X13 e13 => ?_)
  exact Wk.retA X13 hx hlk hret rfl rfl (hb hby d1_112) (Nat.zero_le _) (Nat.zero_le _) (Wk.pu e13)
set_option maxRecDepth 65536 in
set_option maxHeartbeats 40000000 in
theorem lo11 (l : Launch) (Z : State) (a0 : Array Value) (hw : ∀ d ∈ tables_1, d.before a0 Z = true)  (h0 : Heap)  : Wk.Met l Z (⟨"com/example/tunnus/tunnus/model/SettingAcceptsPinLaw", "lo", "(I)J"⟩ : MethodName) method_3_code 1 (some .long) [] { frames := 0, cells := 0, slots := 0, locals := 0 } #[(.int (11 : Int32))] h0 (Wk.Pu (.long (1 : Int32).toInt64) h0) := by
  refine Wk.start pn2 ?_
  intro p e s m below meth c s₁ X0 hx hby hml hown0 hnm hret hlk hZ e0
  have hown : s.vm.findClass "com/example/tunnus/tunnus/model/SettingAcceptsPinLaw" = some m.cls := hown0
  refine Wk.enter (g' := (mkF m 0 #[.val (.int (11 : Int32))] [])) (by first | rfl | (simp [entryFrame, mkF, argsToLocals, Value.category, maxLocals]; done)) ?_
  refine Wk.iloadN X0 hx (hb hby d2_0) rfl rfl ?_
  refine Wk.iconst X0 hx (2 : Int32) (hb hby d2_1) rfl rfl ?_
  refine Wk.icmp_eq X0 hx 23 5 (hb hby d2_2) rfl rfl (show ((11 : Int32) : Int32).toInt = 11 from (by decide)) (show ((2 : Int32) : Int32).toInt = 2 from (by decide)) (fun h1 => absurd h1 (by omega)) (fun h1 => ?_)
  refine Wk.iloadN X0 hx (hb hby d2_5) rfl rfl ?_
  refine Wk.bipush X0 hx (9 : Int32) (hb hby d2_6) rfl rfl ?_
  refine Wk.icmp_eq X0 hx 23 11 (hb hby d2_8) rfl rfl (show ((11 : Int32) : Int32).toInt = 11 from (by decide)) (show ((9 : Int32) : Int32).toInt = 9 from (by decide)) (fun h2 => absurd h2 (by omega)) (fun h2 => ?_)
  refine Wk.iloadN X0 hx (hb hby d2_11) rfl rfl ?_
  refine Wk.bipush X0 hx (10 : Int32) (hb hby d2_12) rfl rfl ?_
  refine Wk.icmp_eq X0 hx 23 17 (hb hby d2_14) rfl rfl (show ((11 : Int32) : Int32).toInt = 11 from (by decide)) (show ((10 : Int32) : Int32).toInt = 10 from (by decide)) (fun h3 => absurd h3 (by omega)) (fun h3 => ?_)
  refine Wk.iloadN X0 hx (hb hby d2_17) rfl rfl ?_
  refine Wk.bipush X0 hx (11 : Int32) (hb hby d2_18) rfl rfl ?_
  refine Wk.icmp_ne X0 hx 25 23 (hb hby d2_20) rfl rfl (show ((11 : Int32) : Int32).toInt = 11 from (by decide)) (show ((11 : Int32) : Int32).toInt = 11 from (by decide)) (fun h4 => absurd h4 (by omega)) (fun h4 => ?_)
  refine Wk.lconst X0 hx (1 : Int64) (hb hby d2_23) rfl rfl ?_
  exact Wk.retL X0 hx hlk hret (hb hby d2_24) (Nat.zero_le _) (Nat.zero_le _) (Wk.puE (by decide) e0)
set_option maxRecDepth 65536 in
set_option maxHeartbeats 40000000 in
theorem hi11 (l : Launch) (Z : State) (a0 : Array Value) (hw : ∀ d ∈ tables_1, d.before a0 Z = true)  (h0 : Heap)  : Wk.Met l Z (⟨"com/example/tunnus/tunnus/model/SettingAcceptsPinLaw", "hi", "(I)J"⟩ : MethodName) method_4_code 1 (some .long) [] { frames := 0, cells := 0, slots := 0, locals := 0 } #[(.int (11 : Int32))] h0 (Wk.Pu (.long (604800 : Int32).toInt64) h0) := by
  refine Wk.start pn3 ?_
  intro p e s m below meth c s₁ X0 hx hby hml hown0 hnm hret hlk hZ e0
  have hown : s.vm.findClass "com/example/tunnus/tunnus/model/SettingAcceptsPinLaw" = some m.cls := hown0
  refine Wk.enter (g' := (mkF m 0 #[.val (.int (11 : Int32))] [])) (by first | rfl | (simp [entryFrame, mkF, argsToLocals, Value.category, maxLocals]; done)) ?_
  refine Wk.iloadN X0 hx (hb hby d3_0) rfl rfl ?_
  refine Wk.if_eq X0 hx 10 4 (hb hby d3_1) rfl rfl (show ((11 : Int32) : Int32).toInt = 11 from (by decide)) (fun h1 => absurd h1 (by omega)) (fun h1 => ?_)
  refine Wk.iloadN X0 hx (hb hby d3_4) rfl rfl ?_
  refine Wk.bipush X0 hx (8 : Int32) (hb hby d3_5) rfl rfl ?_
  refine Wk.icmp_ne X0 hx 14 10 (hb hby d3_7) rfl rfl (show ((11 : Int32) : Int32).toInt = 11 from (by decide)) (show ((8 : Int32) : Int32).toInt = 8 from (by decide)) (fun h2 => ?_) (fun h2 => absurd h2 (by omega))
  refine Wk.iloadN X0 hx (hb hby d3_14) rfl rfl ?_
  refine Wk.iconst X0 hx (1 : Int32) (hb hby d3_15) rfl rfl ?_
  refine Wk.icmp_eq X0 hx 30 19 (hb hby d3_16) rfl rfl (show ((11 : Int32) : Int32).toInt = 11 from (by decide)) (show ((1 : Int32) : Int32).toInt = 1 from (by decide)) (fun h3 => absurd h3 (by omega)) (fun h3 => ?_)
  refine Wk.iloadN X0 hx (hb hby d3_19) rfl rfl ?_
  refine Wk.iconst X0 hx (2 : Int32) (hb hby d3_20) rfl rfl ?_
  refine Wk.icmp_eq X0 hx 30 24 (hb hby d3_21) rfl rfl (show ((11 : Int32) : Int32).toInt = 11 from (by decide)) (show ((2 : Int32) : Int32).toInt = 2 from (by decide)) (fun h4 => absurd h4 (by omega)) (fun h4 => ?_)
  refine Wk.iloadN X0 hx (hb hby d3_24) rfl rfl ?_
  refine Wk.bipush X0 hx (10 : Int32) (hb hby d3_25) rfl rfl ?_
  refine Wk.icmp_ne X0 hx 34 30 (hb hby d3_27) rfl rfl (show ((11 : Int32) : Int32).toInt = 11 from (by decide)) (show ((10 : Int32) : Int32).toInt = 10 from (by decide)) (fun h5 => ?_) (fun h5 => absurd h5 (by omega))
  refine Wk.iloadN X0 hx (hb hby d3_34) rfl rfl ?_
  refine Wk.iconst X0 hx (3 : Int32) (hb hby d3_35) rfl rfl ?_
  refine Wk.icmp_lt X0 hx 49 39 (hb hby d3_36) rfl rfl (show ((11 : Int32) : Int32).toInt = 11 from (by decide)) (show ((3 : Int32) : Int32).toInt = 3 from (by decide)) (fun h6 => absurd h6 (by omega)) (fun h6 => ?_)
  refine Wk.iloadN X0 hx (hb hby d3_39) rfl rfl ?_
  refine Wk.bipush X0 hx (7 : Int32) (hb hby d3_40) rfl rfl ?_
  refine Wk.icmp_gt X0 hx 49 45 (hb hby d3_42) rfl rfl (show ((11 : Int32) : Int32).toInt = 11 from (by decide)) (show ((7 : Int32) : Int32).toInt = 7 from (by decide)) (fun h7 => ?_) (fun h7 => absurd h7 (by omega))
  refine Wk.iloadN X0 hx (hb hby d3_49) rfl rfl ?_
  refine Wk.bipush X0 hx (9 : Int32) (hb hby d3_50) rfl rfl ?_
  refine Wk.icmp_eq X0 hx 61 55 (hb hby d3_52) rfl rfl (show ((11 : Int32) : Int32).toInt = 11 from (by decide)) (show ((9 : Int32) : Int32).toInt = 9 from (by decide)) (fun h8 => absurd h8 (by omega)) (fun h8 => ?_)
  refine Wk.iloadN X0 hx (hb hby d3_55) rfl rfl ?_
  refine Wk.bipush X0 hx (11 : Int32) (hb hby d3_56) rfl rfl ?_
  refine Wk.icmp_ne X0 hx 65 61 (hb hby d3_58) rfl rfl (show ((11 : Int32) : Int32).toInt = 11 from (by decide)) (show ((11 : Int32) : Int32).toInt = 11 from (by decide)) (fun h9 => absurd h9 (by omega)) (fun h9 => ?_)
  refine Wk.ldcJ X0 hx hZ hown (hw _ (List.mem_of_getElem? (i := 30) rfl)) (hb hby d3_61) rfl ?_
  exact Wk.retL X0 hx hlk hret (hb hby d3_64) (Nat.zero_le _) (Nat.zero_le _) (Wk.puE (by decide) e0)
set_option maxRecDepth 65536 in
set_option maxHeartbeats 40000000 in
theorem pick12 (l : Launch) (Z : State) (a0 : Array Value) (hw : ∀ d ∈ tables_1, d.before a0 Z = true) (a : Addr) (h0 : Heap) (S : Sta Z h0 "com/example/tunnus/tunnus/model/Setting" "IMPORT_DEACTIVATION_LIMIT_PERCENT" "Lcom/example/tunnus/tunnus/model/Setting;" (.ref a)) : Wk.Met l Z (⟨"com/example/tunnus/tunnus/model/SettingAcceptsPinLaw", "pick", "(I)Lcom/example/tunnus/tunnus/model/Setting;"⟩ : MethodName) method_2_code 1 (some (.object "com/example/tunnus/tunnus/model/Setting")) [] { frames := 0, cells := 0, slots := 0, locals := 0 } #[(.int (12 : Int32))] h0 (Wk.Pu (.ref a) h0) := by
  refine Wk.start pn1 ?_
  intro p e s m below meth c s₁ X0 hx hby hml hown0 hnm hret hlk hZ e0
  have hown : s.vm.findClass "com/example/tunnus/tunnus/model/SettingAcceptsPinLaw" = some m.cls := hown0
  refine Wk.enter (g' := (mkF m 0 #[.val (.int (12 : Int32))] [])) (by first | rfl | (simp [entryFrame, mkF, argsToLocals, Value.category, maxLocals]; done)) ?_
  refine Wk.iloadN X0 hx (hb hby d1_0) rfl rfl ?_
  refine Wk.if_ne X0 hx 8 4 (hb hby d1_1) rfl rfl (show ((12 : Int32) : Int32).toInt = 12 from (by decide)) (fun h1 => ?_) (fun h1 => absurd h1 (by omega))
  refine Wk.iloadN X0 hx (hb hby d1_8) rfl rfl ?_
  refine Wk.iconst X0 hx (1 : Int32) (hb hby d1_9) rfl rfl ?_
  refine Wk.icmp_ne X0 hx 17 13 (hb hby d1_10) rfl rfl (show ((12 : Int32) : Int32).toInt = 12 from (by decide)) (show ((1 : Int32) : Int32).toInt = 1 from (by decide)) (fun h2 => ?_) (fun h2 => absurd h2 (by omega))
  refine Wk.iloadN X0 hx (hb hby d1_17) rfl rfl ?_
  refine Wk.iconst X0 hx (2 : Int32) (hb hby d1_18) rfl rfl ?_
  refine Wk.icmp_ne X0 hx 26 22 (hb hby d1_19) rfl rfl (show ((12 : Int32) : Int32).toInt = 12 from (by decide)) (show ((2 : Int32) : Int32).toInt = 2 from (by decide)) (fun h3 => ?_) (fun h3 => absurd h3 (by omega))
  refine Wk.iloadN X0 hx (hb hby d1_26) rfl rfl ?_
  refine Wk.iconst X0 hx (3 : Int32) (hb hby d1_27) rfl rfl ?_
  refine Wk.icmp_ne X0 hx 35 31 (hb hby d1_28) rfl rfl (show ((12 : Int32) : Int32).toInt = 12 from (by decide)) (show ((3 : Int32) : Int32).toInt = 3 from (by decide)) (fun h4 => ?_) (fun h4 => absurd h4 (by omega))
  refine Wk.iloadN X0 hx (hb hby d1_35) rfl rfl ?_
  refine Wk.iconst X0 hx (4 : Int32) (hb hby d1_36) rfl rfl ?_
  refine Wk.icmp_ne X0 hx 44 40 (hb hby d1_37) rfl rfl (show ((12 : Int32) : Int32).toInt = 12 from (by decide)) (show ((4 : Int32) : Int32).toInt = 4 from (by decide)) (fun h5 => ?_) (fun h5 => absurd h5 (by omega))
  refine Wk.iloadN X0 hx (hb hby d1_44) rfl rfl ?_
  refine Wk.iconst X0 hx (5 : Int32) (hb hby d1_45) rfl rfl ?_
  refine Wk.icmp_ne X0 hx 53 49 (hb hby d1_46) rfl rfl (show ((12 : Int32) : Int32).toInt = 12 from (by decide)) (show ((5 : Int32) : Int32).toInt = 5 from (by decide)) (fun h6 => ?_) (fun h6 => absurd h6 (by omega))
  refine Wk.iloadN X0 hx (hb hby d1_53) rfl rfl ?_
  refine Wk.bipush X0 hx (6 : Int32) (hb hby d1_54) rfl rfl ?_
  refine Wk.icmp_ne X0 hx 63 59 (hb hby d1_56) rfl rfl (show ((12 : Int32) : Int32).toInt = 12 from (by decide)) (show ((6 : Int32) : Int32).toInt = 6 from (by decide)) (fun h7 => ?_) (fun h7 => absurd h7 (by omega))
  refine Wk.iloadN X0 hx (hb hby d1_63) rfl rfl ?_
  refine Wk.bipush X0 hx (7 : Int32) (hb hby d1_64) rfl rfl ?_
  refine Wk.icmp_ne X0 hx 73 69 (hb hby d1_66) rfl rfl (show ((12 : Int32) : Int32).toInt = 12 from (by decide)) (show ((7 : Int32) : Int32).toInt = 7 from (by decide)) (fun h8 => ?_) (fun h8 => absurd h8 (by omega))
  refine Wk.iloadN X0 hx (hb hby d1_73) rfl rfl ?_
  refine Wk.bipush X0 hx (8 : Int32) (hb hby d1_74) rfl rfl ?_
  refine Wk.icmp_ne X0 hx 83 79 (hb hby d1_76) rfl rfl (show ((12 : Int32) : Int32).toInt = 12 from (by decide)) (show ((8 : Int32) : Int32).toInt = 8 from (by decide)) (fun h9 => ?_) (fun h9 => absurd h9 (by omega))
  refine Wk.iloadN X0 hx (hb hby d1_83) rfl rfl ?_
  refine Wk.bipush X0 hx (9 : Int32) (hb hby d1_84) rfl rfl ?_
  refine Wk.icmp_ne X0 hx 93 89 (hb hby d1_86) rfl rfl (show ((12 : Int32) : Int32).toInt = 12 from (by decide)) (show ((9 : Int32) : Int32).toInt = 9 from (by decide)) (fun h10 => ?_) (fun h10 => absurd h10 (by omega))
  refine Wk.iloadN X0 hx (hb hby d1_93) rfl rfl ?_
  refine Wk.bipush X0 hx (10 : Int32) (hb hby d1_94) rfl rfl ?_
  refine Wk.icmp_ne X0 hx 103 99 (hb hby d1_96) rfl rfl (show ((12 : Int32) : Int32).toInt = 12 from (by decide)) (show ((10 : Int32) : Int32).toInt = 10 from (by decide)) (fun h11 => ?_) (fun h11 => absurd h11 (by omega))
  refine Wk.iloadN X0 hx (hb hby d1_103) rfl rfl ?_
  refine Wk.bipush X0 hx (11 : Int32) (hb hby d1_104) rfl rfl ?_
  refine Wk.icmp_ne X0 hx 113 109 (hb hby d1_106) rfl rfl (show ((12 : Int32) : Int32).toInt = 12 from (by decide)) (show ((11 : Int32) : Int32).toInt = 11 from (by decide)) (fun h12 => ?_) (fun h12 => absurd h12 (by omega))
  refine Wk.getS (host := "") X0 hx hZ hown (Or.inl (hw _ (List.mem_of_getElem? (i := 34) rfl))) e0 S (hb hby d1_113) rfl (fun T13 X13 e13 => ?_)
  exact Wk.retA X13 hx hlk hret rfl rfl (hb hby d1_116) (Nat.zero_le _) (Nat.zero_le _) (Wk.pu e13)
set_option maxRecDepth 65536 in
set_option maxHeartbeats 40000000 in
theorem lo12 (l : Launch) (Z : State) (a0 : Array Value) (hw : ∀ d ∈ tables_1, d.before a0 Z = true)  (h0 : Heap)  : Wk.Met l Z (⟨"com/example/tunnus/tunnus/model/SettingAcceptsPinLaw", "lo", "(I)J"⟩ : MethodName) method_3_code 1 (some .long) [] { frames := 0, cells := 0, slots := 0, locals := 0 } #[(.int (12 : Int32))] h0 (Wk.Pu (.long (0 : Int32).toInt64) h0) := by
  refine Wk.start pn2 ?_
  intro p e s m below meth c s₁ X0 hx hby hml hown0 hnm hret hlk hZ e0
  have hown : s.vm.findClass "com/example/tunnus/tunnus/model/SettingAcceptsPinLaw" = some m.cls := hown0
  refine Wk.enter (g' := (mkF m 0 #[.val (.int (12 : Int32))] [])) (by first | rfl | (simp [entryFrame, mkF, argsToLocals, Value.category, maxLocals]; done)) ?_
  refine Wk.iloadN X0 hx (hb hby d2_0) rfl rfl ?_
  refine Wk.iconst X0 hx (2 : Int32) (hb hby d2_1) rfl rfl ?_
  refine Wk.icmp_eq X0 hx 23 5 (hb hby d2_2) rfl rfl (show ((12 : Int32) : Int32).toInt = 12 from (by decide)) (show ((2 : Int32) : Int32).toInt = 2 from (by decide)) (fun h1 => absurd h1 (by omega)) (fun h1 => ?_)
  refine Wk.iloadN X0 hx (hb hby d2_5) rfl rfl ?_
  refine Wk.bipush X0 hx (9 : Int32) (hb hby d2_6) rfl rfl ?_
  refine Wk.icmp_eq X0 hx 23 11 (hb hby d2_8) rfl rfl (show ((12 : Int32) : Int32).toInt = 12 from (by decide)) (show ((9 : Int32) : Int32).toInt = 9 from (by decide)) (fun h2 => absurd h2 (by omega)) (fun h2 => ?_)
  refine Wk.iloadN X0 hx (hb hby d2_11) rfl rfl ?_
  refine Wk.bipush X0 hx (10 : Int32) (hb hby d2_12) rfl rfl ?_
  refine Wk.icmp_eq X0 hx 23 17 (hb hby d2_14) rfl rfl (show ((12 : Int32) : Int32).toInt = 12 from (by decide)) (show ((10 : Int32) : Int32).toInt = 10 from (by decide)) (fun h3 => absurd h3 (by omega)) (fun h3 => ?_)
  refine Wk.iloadN X0 hx (hb hby d2_17) rfl rfl ?_
  refine Wk.bipush X0 hx (11 : Int32) (hb hby d2_18) rfl rfl ?_
  refine Wk.icmp_ne X0 hx 25 23 (hb hby d2_20) rfl rfl (show ((12 : Int32) : Int32).toInt = 12 from (by decide)) (show ((11 : Int32) : Int32).toInt = 11 from (by decide)) (fun h4 => ?_) (fun h4 => absurd h4 (by omega))
  refine Wk.iloadN X0 hx (hb hby d2_25) rfl rfl ?_
  refine Wk.iconst X0 hx (3 : Int32) (hb hby d2_26) rfl rfl ?_
  refine Wk.icmp_ne X0 hx 34 30 (hb hby d2_27) rfl rfl (show ((12 : Int32) : Int32).toInt = 12 from (by decide)) (show ((3 : Int32) : Int32).toInt = 3 from (by decide)) (fun h5 => ?_) (fun h5 => absurd h5 (by omega))
  refine Wk.lconst X0 hx (0 : Int64) (hb hby d2_34) rfl rfl ?_
  exact Wk.retL X0 hx hlk hret (hb hby d2_35) (Nat.zero_le _) (Nat.zero_le _) (Wk.puE (by decide) e0)
set_option maxRecDepth 65536 in
set_option maxHeartbeats 40000000 in
theorem hi12 (l : Launch) (Z : State) (a0 : Array Value) (hw : ∀ d ∈ tables_1, d.before a0 Z = true)  (h0 : Heap)  : Wk.Met l Z (⟨"com/example/tunnus/tunnus/model/SettingAcceptsPinLaw", "hi", "(I)J"⟩ : MethodName) method_4_code 1 (some .long) [] { frames := 0, cells := 0, slots := 0, locals := 0 } #[(.int (12 : Int32))] h0 (Wk.Pu (.long (100 : Int32).toInt64) h0) := by
  refine Wk.start pn3 ?_
  intro p e s m below meth c s₁ X0 hx hby hml hown0 hnm hret hlk hZ e0
  have hown : s.vm.findClass "com/example/tunnus/tunnus/model/SettingAcceptsPinLaw" = some m.cls := hown0
  refine Wk.enter (g' := (mkF m 0 #[.val (.int (12 : Int32))] [])) (by first | rfl | (simp [entryFrame, mkF, argsToLocals, Value.category, maxLocals]; done)) ?_
  refine Wk.iloadN X0 hx (hb hby d3_0) rfl rfl ?_
  refine Wk.if_eq X0 hx 10 4 (hb hby d3_1) rfl rfl (show ((12 : Int32) : Int32).toInt = 12 from (by decide)) (fun h1 => absurd h1 (by omega)) (fun h1 => ?_)
  refine Wk.iloadN X0 hx (hb hby d3_4) rfl rfl ?_
  refine Wk.bipush X0 hx (8 : Int32) (hb hby d3_5) rfl rfl ?_
  refine Wk.icmp_ne X0 hx 14 10 (hb hby d3_7) rfl rfl (show ((12 : Int32) : Int32).toInt = 12 from (by decide)) (show ((8 : Int32) : Int32).toInt = 8 from (by decide)) (fun h2 => ?_) (fun h2 => absurd h2 (by omega))
  refine Wk.iloadN X0 hx (hb hby d3_14) rfl rfl ?_
  refine Wk.iconst X0 hx (1 : Int32) (hb hby d3_15) rfl rfl ?_
  refine Wk.icmp_eq X0 hx 30 19 (hb hby d3_16) rfl rfl (show ((12 : Int32) : Int32).toInt = 12 from (by decide)) (show ((1 : Int32) : Int32).toInt = 1 from (by decide)) (fun h3 => absurd h3 (by omega)) (fun h3 => ?_)
  refine Wk.iloadN X0 hx (hb hby d3_19) rfl rfl ?_
  refine Wk.iconst X0 hx (2 : Int32) (hb hby d3_20) rfl rfl ?_
  refine Wk.icmp_eq X0 hx 30 24 (hb hby d3_21) rfl rfl (show ((12 : Int32) : Int32).toInt = 12 from (by decide)) (show ((2 : Int32) : Int32).toInt = 2 from (by decide)) (fun h4 => absurd h4 (by omega)) (fun h4 => ?_)
  refine Wk.iloadN X0 hx (hb hby d3_24) rfl rfl ?_
  refine Wk.bipush X0 hx (10 : Int32) (hb hby d3_25) rfl rfl ?_
  refine Wk.icmp_ne X0 hx 34 30 (hb hby d3_27) rfl rfl (show ((12 : Int32) : Int32).toInt = 12 from (by decide)) (show ((10 : Int32) : Int32).toInt = 10 from (by decide)) (fun h5 => ?_) (fun h5 => absurd h5 (by omega))
  refine Wk.iloadN X0 hx (hb hby d3_34) rfl rfl ?_
  refine Wk.iconst X0 hx (3 : Int32) (hb hby d3_35) rfl rfl ?_
  refine Wk.icmp_lt X0 hx 49 39 (hb hby d3_36) rfl rfl (show ((12 : Int32) : Int32).toInt = 12 from (by decide)) (show ((3 : Int32) : Int32).toInt = 3 from (by decide)) (fun h6 => absurd h6 (by omega)) (fun h6 => ?_)
  refine Wk.iloadN X0 hx (hb hby d3_39) rfl rfl ?_
  refine Wk.bipush X0 hx (7 : Int32) (hb hby d3_40) rfl rfl ?_
  refine Wk.icmp_gt X0 hx 49 45 (hb hby d3_42) rfl rfl (show ((12 : Int32) : Int32).toInt = 12 from (by decide)) (show ((7 : Int32) : Int32).toInt = 7 from (by decide)) (fun h7 => ?_) (fun h7 => absurd h7 (by omega))
  refine Wk.iloadN X0 hx (hb hby d3_49) rfl rfl ?_
  refine Wk.bipush X0 hx (9 : Int32) (hb hby d3_50) rfl rfl ?_
  refine Wk.icmp_eq X0 hx 61 55 (hb hby d3_52) rfl rfl (show ((12 : Int32) : Int32).toInt = 12 from (by decide)) (show ((9 : Int32) : Int32).toInt = 9 from (by decide)) (fun h8 => absurd h8 (by omega)) (fun h8 => ?_)
  refine Wk.iloadN X0 hx (hb hby d3_55) rfl rfl ?_
  refine Wk.bipush X0 hx (11 : Int32) (hb hby d3_56) rfl rfl ?_
  refine Wk.icmp_ne X0 hx 65 61 (hb hby d3_58) rfl rfl (show ((12 : Int32) : Int32).toInt = 12 from (by decide)) (show ((11 : Int32) : Int32).toInt = 11 from (by decide)) (fun h9 => ?_) (fun h9 => absurd h9 (by omega))
  refine Wk.ldcJ X0 hx hZ hown (hw _ (List.mem_of_getElem? (i := 36) rfl)) (hb hby d3_65) rfl ?_
  exact Wk.retL X0 hx hlk hret (hb hby d3_68) (Nat.zero_le _) (Nat.zero_le _) (Wk.puE (by decide) e0)
set_option maxRecDepth 65536 in
set_option maxHeartbeats 40000000 in
theorem acc (l : Launch) (Z : State) (a0 : Array Value) (hw : ∀ d ∈ tables_1, d.before a0 Z = true) (a : Addr) (mn mx : Int32) (v : Int64) (h0 : Heap) (Fn : Fld Z h0 a "com/example/tunnus/tunnus/model/Setting" "min" "I" (.int mn)) (Fx : Fld Z h0 a "com/example/tunnus/tunnus/model/Setting" "max" "I" (.int mx)) : Wk.Met l Z (⟨"com/example/tunnus/tunnus/model/Setting", "accepts", "(J)Z"⟩ : MethodName) prog_16_method_7_code 3 (some .boolean) [] { frames := 0, cells := 0, slots := 0, locals := 0 } #[(.ref a), (.long v)] h0 (Wk.Pu (.int (Wk.b (mn.toInt ≤ (v).toInt ∧ (v).toInt ≤ mx.toInt))) h0) := by
  refine Wk.start pn4 ?_
  intro p e s m below meth c s₁ X0 hx hby hml hown0 hnm hret hlk hZ e0
  have hown : s.vm.findClass "com/example/tunnus/tunnus/model/Setting" = some m.cls := hown0
  refine Wk.enter (g' := (mkF m 0 #[.val (.ref a), .val (.long v), .second] [])) (by first | rfl | (simp [entryFrame, mkF, argsToLocals, Value.category, maxLocals]; done)) ?_
  refine Wk.lloadN X0 hx (hb hby d4_0) rfl rfl ?_
  refine Wk.aloadN X0 hx (hb hby d4_1) rfl rfl rfl ?_
  refine Wk.getF (host := "") X0 hx hZ hown (Or.inl (hw _ (List.mem_of_getElem? (i := 20) rfl))) e0 Fn (hb hby d4_2) rfl (fun T1 X1 e1 => ?_)
  refine Wk.i2l X1 hx (hb hby d4_5) rfl ?_
  refine Wk.lcmp X1 hx (hb hby d4_6) rfl ?_
  refine Wk.lif_lt X1 hx 24 10 (hb hby d4_7) rfl rfl (show (v : Int64).toInt = (v).toInt from rfl) (show (mn.toInt64 : Int64).toInt = mn.toInt from Int32.toInt_toInt64 _) (fun h2 => ?_) (fun h2 => ?_)
  · skip
    refine Wk.iconst X1 hx (0 : Int32) (hb hby d4_24) rfl rfl ?_
    exact Wk.retZ X1 hx hlk hret (hb hby d4_25) (by decide) (Nat.zero_le _) (Nat.zero_le _) (Wk.puB0 (by omega) e1)
  · skip
    refine Wk.lloadN X1 hx (hb hby d4_10) rfl rfl ?_
    refine Wk.aloadN X1 hx (hb hby d4_11) rfl rfl rfl ?_
    refine Wk.getF (host := "") X1 hx hZ hown (Or.inl (hw _ (List.mem_of_getElem? (i := 22) rfl))) e1 Fx (hb hby d4_12) rfl (fun T3 X3 e3 => ?_)
    refine Wk.i2l X3 hx (hb hby d4_15) rfl ?_
    refine Wk.lcmp X3 hx (hb hby d4_16) rfl ?_
    refine Wk.lif_gt X3 hx 24 20 (hb hby d4_17) rfl rfl (show (v : Int64).toInt = (v).toInt from rfl) (show (mx.toInt64 : Int64).toInt = mx.toInt from Int32.toInt_toInt64 _) (fun h4 => ?_) (fun h4 => ?_)
    · skip
      refine Wk.iconst X3 hx (0 : Int32) (hb hby d4_24) rfl rfl ?_
      exact Wk.retZ X3 hx hlk hret (hb hby d4_25) (by decide) (Nat.zero_le _) (Nat.zero_le _) (Wk.puB0 (by omega) e3)
    · skip
      refine Wk.iconst X3 hx (1 : Int32) (hb hby d4_20) rfl rfl ?_
      refine Wk.goto X3 hx 25 (hb hby d4_21) rfl ?_
      exact Wk.retZ X3 hx hlk hret (hb hby d4_25) (by decide) (Nat.zero_le _) (Nat.zero_le _) (Wk.puB1 (by omega) e3)
set_option maxRecDepth 65536 in
set_option maxHeartbeats 40000000 in
theorem rmL (l : Launch) (Z : State) (a0 : Array Value) (hw : ∀ d ∈ tables_1, d.before a0 Z = true) (i0 : Int32) (i1 : Int64) (i2 i3 : Int32) (a : Addr) (mn mx : Int32) (h0 : Heap) (E : Exa Z h0 a "com/example/tunnus/tunnus/model/Setting") (Fn : Fld Z h0 a "com/example/tunnus/tunnus/model/Setting" "min" "I" (.int mn)) (Fx : Fld Z h0 a "com/example/tunnus/tunnus/model/Setting" "max" "I" (.int mx)) (Mp : Wk.Met l Z (⟨"com/example/tunnus/tunnus/model/SettingAcceptsPinLaw", "pick", "(I)Lcom/example/tunnus/tunnus/model/Setting;"⟩ : MethodName) method_2_code 1 (some (.object "com/example/tunnus/tunnus/model/Setting")) [] { frames := 0, cells := 0, slots := 0, locals := 0 } #[(.int ((i0 &&& (2147483647 : Int32)) % (13 : Int32)))] h0 (Wk.Pu (.ref a) h0)) (Ml : Wk.Met l Z (⟨"com/example/tunnus/tunnus/model/SettingAcceptsPinLaw", "lo", "(I)J"⟩ : MethodName) method_3_code 1 (some .long) [] { frames := 0, cells := 0, slots := 0, locals := 0 } #[(.int ((i0 &&& (2147483647 : Int32)) % (13 : Int32)))] h0 (Wk.Pu (.long mn.toInt64) h0)) (Mh : Wk.Met l Z (⟨"com/example/tunnus/tunnus/model/SettingAcceptsPinLaw", "hi", "(I)J"⟩ : MethodName) method_4_code 1 (some .long) [] { frames := 0, cells := 0, slots := 0, locals := 0 } #[(.int ((i0 &&& (2147483647 : Int32)) % (13 : Int32)))] h0 (Wk.Pu (.long mx.toInt64) h0)) : Wk.Met l Z x code maxLocals ret tables_1 room_1 #[(.int i0), (.long i1), (.int i2), (.int i3)] h0 (Wk.Pu (.int 1) h0) := by
  refine Wk.start pnL ?_
  intro p e s m below meth c s₁ X0 hx hby hml hown0 hnm hret hlk hZ e0
  have hown : s.vm.findClass "com/example/tunnus/tunnus/model/SettingAcceptsPinLaw" = some m.cls := hown0
  refine Wk.enter (g' := (mkF m 0 #[.val (.int i0), .val (.long i1), .second, .val (.int i2), .val (.int i3), .unset, .unset, .unset, .unset, .unset, .unset, .unset, .unset, .unset, .unset] [])) (by first | rfl | (simp [entryFrame, mkF, argsToLocals, Value.category, maxLocals]; done)) ?_
  refine Wk.iloadN X0 hx (hb hby at_0) rfl rfl ?_
  refine Wk.ldcI X0 hx hZ hown (hw _ (List.mem_of_getElem? (i := 0) rfl)) (hb hby at_1) rfl ?_
  refine Wk.iand X0 hx (hb hby at_3) rfl ?_
  refine Wk.bipush X0 hx (13 : Int32) (hb hby at_4) rfl rfl ?_
  refine Wk.irem X0 hx (hb hby at_6) (by decide) rfl ?_
  refine Wk.istore (l' := #[.val (.int i0), .val (.long i1), .second, .val (.int i2), .val (.int i3), .val (.int ((i0 &&& (2147483647 : Int32)) % (13 : Int32))), .unset, .unset, .unset, .unset, .unset, .unset, .unset, .unset, .unset]) X0 hx (hb hby at_7) rfl rfl ?_
  refine Wk.iload X0 hx (hb hby at_9) rfl rfl ?_
  refine Wk.callP (W := 0) X0 hx hZ (argsL := [(.int ((i0 &&& (2147483647 : Int32)) % (13 : Int32)))]) (rest := []) hown (hw _ (List.mem_of_getElem? (i := 1) rfl)) (hw _ (List.mem_of_getElem? (i := 2) rfl)) (hw _ (List.mem_of_getElem? (i := 3) rfl)) (hw _ (List.mem_of_getElem? (i := 4) rfl)) (by decide) (Mp) e0 (by decide) (by decide) (by decide) (by decide) (by rw [hml]; rfl) (lenOf pd1 rfl) rfl (Nat.le_of_eq rfl) (hb hby at_11) rfl (fun T1 X1 e1 => ?_)
  refine Wk.astore (l' := #[.val (.int i0), .val (.long i1), .second, .val (.int i2), .val (.int i3), .val (.int ((i0 &&& (2147483647 : Int32)) % (13 : Int32))), .val (.ref a), .unset, .unset, .unset, .unset, .unset, .unset, .unset, .unset]) X1 hx (hb hby at_14) rfl rfl rfl ?_
  refine Wk.iload X1 hx (hb hby at_16) rfl rfl ?_
  refine Wk.callP (W := 0) X1 hx hZ (argsL := [(.int ((i0 &&& (2147483647 : Int32)) % (13 : Int32)))]) (rest := []) hown (hw _ (List.mem_of_getElem? (i := 8) rfl)) (hw _ (List.mem_of_getElem? (i := 9) rfl)) (hw _ (List.mem_of_getElem? (i := 3) rfl)) (hw _ (List.mem_of_getElem? (i := 10) rfl)) (by decide) (Ml) e1 (by decide) (by decide) (by decide) (by decide) (by rw [hml]; rfl) (lenOf pd2 rfl) rfl (Nat.le_of_eq rfl) (hb hby at_18) rfl (fun T2 X2 e2 => ?_)
  refine Wk.lstore (l' := #[.val (.int i0), .val (.long i1), .second, .val (.int i2), .val (.int i3), .val (.int ((i0 &&& (2147483647 : Int32)) % (13 : Int32))), .val (.ref a), .val (.long mn.toInt64), .second, .unset, .unset, .unset, .unset, .unset, .unset]) X2 hx (hb hby at_21) rfl rfl ?_
  refine Wk.iload X2 hx (hb hby at_23) rfl rfl ?_
  refine Wk.callP (W := 0) X2 hx hZ (argsL := [(.int ((i0 &&& (2147483647 : Int32)) % (13 : Int32)))]) (rest := []) hown (hw _ (List.mem_of_getElem? (i := 11) rfl)) (hw _ (List.mem_of_getElem? (i := 12) rfl)) (hw _ (List.mem_of_getElem? (i := 3) rfl)) (hw _ (List.mem_of_getElem? (i := 13) rfl)) (by decide) (Mh) e2 (by decide) (by decide) (by decide) (by decide) (by rw [hml]; rfl) (lenOf pd3 rfl) rfl (Nat.le_of_eq rfl) (hb hby at_25) rfl (fun T3 X3 e3 => ?_)
  refine Wk.lstore (l' := #[.val (.int i0), .val (.long i1), .second, .val (.int i2), .val (.int i3), .val (.int ((i0 &&& (2147483647 : Int32)) % (13 : Int32))), .val (.ref a), .val (.long mn.toInt64), .second, .val (.long mx.toInt64), .second, .unset, .unset, .unset, .unset]) X3 hx (hb hby at_28) rfl rfl ?_
  refine Wk.iloadN X3 hx (hb hby at_30) rfl rfl ?_
  refine Wk.iconst X3 hx (1 : Int32) (hb hby at_31) rfl rfl ?_
  refine Wk.iand X3 hx (hb hby at_32) rfl ?_
  refine Wk.if_eq X3 hx 42 36 (hb hby at_33) rfl rfl (show (i2 &&& (1 : Int32) : Int32).toInt = (i2 &&& (1 : Int32)).toInt from rfl) (fun h4 => ?_) (fun h4 => ?_)
  · skip
    refine Wk.iloadN X3 hx (hb hby at_42) rfl rfl ?_
    refine Wk.iconst X3 hx (2 : Int32) (hb hby at_43) rfl rfl ?_
    refine Wk.iand X3 hx (hb hby at_44) rfl ?_
    refine Wk.if_eq X3 hx 53 48 (hb hby at_45) rfl rfl (show (i2 &&& (2 : Int32) : Int32).toInt = (i2 &&& (2 : Int32)).toInt from rfl) (fun h5 => ?_) (fun h5 => ?_)
    · skip
      refine Wk.lload X3 hx (hb hby at_53) rfl rfl ?_
      refine Wk.lstore (l' := #[.val (.int i0), .val (.long i1), .second, .val (.int i2), .val (.int i3), .val (.int ((i0 &&& (2147483647 : Int32)) % (13 : Int32))), .val (.ref a), .val (.long mn.toInt64), .second, .val (.long mx.toInt64), .second, .unset, .unset, .val (.long mn.toInt64), .second]) X3 hx (hb hby at_55) rfl rfl ?_
      refine Wk.lload X3 hx (hb hby at_57) rfl rfl ?_
      refine Wk.iload X3 hx (hb hby at_59) rfl rfl ?_
      refine Wk.iconst X3 hx (3 : Int32) (hb hby at_61) rfl rfl ?_
      refine Wk.irem X3 hx (hb hby at_62) (by decide) rfl ?_
      refine Wk.i2l X3 hx (hb hby at_63) rfl ?_
      refine Wk.ladd X3 hx (hb hby at_64) rfl ?_
      refine Wk.lstore (l' := #[.val (.int i0), .val (.long i1), .second, .val (.int i2), .val (.int i3), .val (.int ((i0 &&& (2147483647 : Int32)) % (13 : Int32))), .val (.ref a), .val (.long mn.toInt64), .second, .val (.long mx.toInt64), .second, .val (.long (mn.toInt64 + ((i3 % (3 : Int32)).toInt64))), .second, .val (.long mn.toInt64), .second]) X3 hx (hb hby at_65) rfl rfl ?_
      refine Wk.cutF (mkF m 88 #[.val (.int i0), .val (.long i1), .second, .val (.int i2), .val (.int i3), .val (.int ((i0 &&& (2147483647 : Int32)) % (13 : Int32))), .val (.ref a), .val (.long mn.toInt64), .second, .val (.long mx.toInt64), .second, .val (.long (mn.toInt64 + ((i3 % (3 : Int32)).toInt64))), .second, .val (.long mn.toInt64), .second] [(.int (Wk.b (mn.toInt ≤ (mn.toInt64 + ((i3 % (3 : Int32)).toInt64)).toInt ∧ (mn.toInt64 + ((i3 % (3 : Int32)).toInt64)).toInt ≤ mx.toInt)))]) (fun J6 => ?_) ?_
      · skip
        refine Wk.lload X3 hx (hb hby at_67) rfl rfl ?_
        refine Wk.lload X3 hx (hb hby at_69) rfl rfl ?_
        refine Wk.lcmp X3 hx (hb hby at_71) rfl ?_
        refine Wk.lif_lt X3 hx 87 75 (hb hby at_72) rfl rfl (show (mn.toInt64 + ((i3 % (3 : Int32)).toInt64) : Int64).toInt = (mn.toInt64 + ((i3 % (3 : Int32)).toInt64)).toInt from rfl) (show (mn.toInt64 : Int64).toInt = mn.toInt from Int32.toInt_toInt64 _) (fun h7 => ?_) (fun h7 => ?_)
        · skip
          refine Wk.iconst X3 hx (0 : Int32) (hb hby at_87) rfl rfl ?_
          exact Wk.goB0 J6 (by omega)
        · skip
          refine Wk.lload X3 hx (hb hby at_75) rfl rfl ?_
          refine Wk.lload X3 hx (hb hby at_77) rfl rfl ?_
          refine Wk.lcmp X3 hx (hb hby at_79) rfl ?_
          refine Wk.lif_gt X3 hx 87 83 (hb hby at_80) rfl rfl (show (mn.toInt64 + ((i3 % (3 : Int32)).toInt64) : Int64).toInt = (mn.toInt64 + ((i3 % (3 : Int32)).toInt64)).toInt from rfl) (show (mx.toInt64 : Int64).toInt = mx.toInt from Int32.toInt_toInt64 _) (fun h8 => ?_) (fun h8 => ?_)
          · skip
            refine Wk.iconst X3 hx (0 : Int32) (hb hby at_87) rfl rfl ?_
            exact Wk.goB0 J6 (by omega)
          · skip
            refine Wk.iconst X3 hx (1 : Int32) (hb hby at_83) rfl rfl ?_
            refine Wk.goto X3 hx 88 (hb hby at_84) rfl ?_
            exact Wk.goB1 J6 (by omega)
      skip
      refine Wk.istore (l' := #[.val (.int i0), .val (.long i1), .second, .val (.int i2), .val (.int i3), .val (.int ((i0 &&& (2147483647 : Int32)) % (13 : Int32))), .val (.ref a), .val (.long mn.toInt64), .second, .val (.long mx.toInt64), .second, .val (.long (mn.toInt64 + ((i3 % (3 : Int32)).toInt64))), .second, .val (.int (Wk.b (mn.toInt ≤ (mn.toInt64 + ((i3 % (3 : Int32)).toInt64)).toInt ∧ (mn.toInt64 + ((i3 % (3 : Int32)).toInt64)).toInt ≤ mx.toInt))), .unset]) X3 hx (hb hby at_88) rfl rfl ?_
      refine Wk.aload X3 hx (hb hby at_90) rfl rfl rfl ?_
      refine Wk.lload X3 hx (hb hby at_92) rfl rfl ?_
      refine Wk.callVP (W := 0) X3 hx hZ (argsL := [(.long (mn.toInt64 + ((i3 % (3 : Int32)).toInt64)))]) (rest := []) hown (hw _ (List.mem_of_getElem? (i := 15) rfl)) (hw _ (List.mem_of_getElem? (i := 16) rfl)) (hw _ (List.mem_of_getElem? (i := 18) rfl)) (hw _ (List.mem_of_getElem? (i := 17) rfl)) (hw _ (List.mem_of_getElem? (i := 6) rfl)) (hw _ (List.mem_of_getElem? (i := 19) rfl)) (notFace_of_selects (args := #[]) (mvT hZ (hw _ (List.mem_of_getElem? (i := 18) rfl)))) (by decide) (acc l Z a0 hw a mn mx (mn.toInt64 + ((i3 % (3 : Int32)).toInt64)) h0 Fn Fx) e3 E (by decide) (by decide) (by decide) (by decide) (by rw [hml]; rfl) (lenOf pd4 rfl) rfl (Nat.le_of_eq rfl) (hb hby at_94) rfl (fun T9 X9 e9 => ?_)
      refine Wk.iload X9 hx (hb hby at_97) rfl rfl ?_
      refine Wk.icmp_neB X9 hx 106 102 (hb hby at_99) rfl rfl (fun h10 => absurd h10 (by simp)) (fun h10 => ?_)
      refine Wk.iconst X9 hx (1 : Int32) (hb hby at_102) rfl rfl ?_
      refine Wk.goto X9 hx 107 (hb hby at_103) rfl ?_
      exact Wk.retZ X9 hx hlk hret (hb hby at_107) (by decide) (Nat.zero_le _) (Nat.zero_le _) (Wk.pu e9)
    · skip
      refine Wk.lload X3 hx (hb hby at_48) rfl rfl ?_
      refine Wk.goto X3 hx 55 (hb hby at_50) rfl ?_
      refine Wk.lstore (l' := #[.val (.int i0), .val (.long i1), .second, .val (.int i2), .val (.int i3), .val (.int ((i0 &&& (2147483647 : Int32)) % (13 : Int32))), .val (.ref a), .val (.long mn.toInt64), .second, .val (.long mx.toInt64), .second, .unset, .unset, .val (.long mx.toInt64), .second]) X3 hx (hb hby at_55) rfl rfl ?_
      refine Wk.lload X3 hx (hb hby at_57) rfl rfl ?_
      refine Wk.iload X3 hx (hb hby at_59) rfl rfl ?_
      refine Wk.iconst X3 hx (3 : Int32) (hb hby at_61) rfl rfl ?_
      refine Wk.irem X3 hx (hb hby at_62) (by decide) rfl ?_
      refine Wk.i2l X3 hx (hb hby at_63) rfl ?_
      refine Wk.ladd X3 hx (hb hby at_64) rfl ?_
      refine Wk.lstore (l' := #[.val (.int i0), .val (.long i1), .second, .val (.int i2), .val (.int i3), .val (.int ((i0 &&& (2147483647 : Int32)) % (13 : Int32))), .val (.ref a), .val (.long mn.toInt64), .second, .val (.long mx.toInt64), .second, .val (.long (mx.toInt64 + ((i3 % (3 : Int32)).toInt64))), .second, .val (.long mx.toInt64), .second]) X3 hx (hb hby at_65) rfl rfl ?_
      refine Wk.cutF (mkF m 88 #[.val (.int i0), .val (.long i1), .second, .val (.int i2), .val (.int i3), .val (.int ((i0 &&& (2147483647 : Int32)) % (13 : Int32))), .val (.ref a), .val (.long mn.toInt64), .second, .val (.long mx.toInt64), .second, .val (.long (mx.toInt64 + ((i3 % (3 : Int32)).toInt64))), .second, .val (.long mx.toInt64), .second] [(.int (Wk.b (mn.toInt ≤ (mx.toInt64 + ((i3 % (3 : Int32)).toInt64)).toInt ∧ (mx.toInt64 + ((i3 % (3 : Int32)).toInt64)).toInt ≤ mx.toInt)))]) (fun J11 => ?_) ?_
      · skip
        refine Wk.lload X3 hx (hb hby at_67) rfl rfl ?_
        refine Wk.lload X3 hx (hb hby at_69) rfl rfl ?_
        refine Wk.lcmp X3 hx (hb hby at_71) rfl ?_
        refine Wk.lif_lt X3 hx 87 75 (hb hby at_72) rfl rfl (show (mx.toInt64 + ((i3 % (3 : Int32)).toInt64) : Int64).toInt = (mx.toInt64 + ((i3 % (3 : Int32)).toInt64)).toInt from rfl) (show (mn.toInt64 : Int64).toInt = mn.toInt from Int32.toInt_toInt64 _) (fun h12 => ?_) (fun h12 => ?_)
        · skip
          refine Wk.iconst X3 hx (0 : Int32) (hb hby at_87) rfl rfl ?_
          exact Wk.goB0 J11 (by omega)
        · skip
          refine Wk.lload X3 hx (hb hby at_75) rfl rfl ?_
          refine Wk.lload X3 hx (hb hby at_77) rfl rfl ?_
          refine Wk.lcmp X3 hx (hb hby at_79) rfl ?_
          refine Wk.lif_gt X3 hx 87 83 (hb hby at_80) rfl rfl (show (mx.toInt64 + ((i3 % (3 : Int32)).toInt64) : Int64).toInt = (mx.toInt64 + ((i3 % (3 : Int32)).toInt64)).toInt from rfl) (show (mx.toInt64 : Int64).toInt = mx.toInt from Int32.toInt_toInt64 _) (fun h13 => ?_) (fun h13 => ?_)
          · skip
            refine Wk.iconst X3 hx (0 : Int32) (hb hby at_87) rfl rfl ?_
            exact Wk.goB0 J11 (by omega)
          · skip
            refine Wk.iconst X3 hx (1 : Int32) (hb hby at_83) rfl rfl ?_
            refine Wk.goto X3 hx 88 (hb hby at_84) rfl ?_
            exact Wk.goB1 J11 (by omega)
      skip
      refine Wk.istore (l' := #[.val (.int i0), .val (.long i1), .second, .val (.int i2), .val (.int i3), .val (.int ((i0 &&& (2147483647 : Int32)) % (13 : Int32))), .val (.ref a), .val (.long mn.toInt64), .second, .val (.long mx.toInt64), .second, .val (.long (mx.toInt64 + ((i3 % (3 : Int32)).toInt64))), .second, .val (.int (Wk.b (mn.toInt ≤ (mx.toInt64 + ((i3 % (3 : Int32)).toInt64)).toInt ∧ (mx.toInt64 + ((i3 % (3 : Int32)).toInt64)).toInt ≤ mx.toInt))), .unset]) X3 hx (hb hby at_88) rfl rfl ?_
      refine Wk.aload X3 hx (hb hby at_90) rfl rfl rfl ?_
      refine Wk.lload X3 hx (hb hby at_92) rfl rfl ?_
      refine Wk.callVP (W := 0) X3 hx hZ (argsL := [(.long (mx.toInt64 + ((i3 % (3 : Int32)).toInt64)))]) (rest := []) hown (hw _ (List.mem_of_getElem? (i := 15) rfl)) (hw _ (List.mem_of_getElem? (i := 16) rfl)) (hw _ (List.mem_of_getElem? (i := 18) rfl)) (hw _ (List.mem_of_getElem? (i := 17) rfl)) (hw _ (List.mem_of_getElem? (i := 6) rfl)) (hw _ (List.mem_of_getElem? (i := 19) rfl)) (notFace_of_selects (args := #[]) (mvT hZ (hw _ (List.mem_of_getElem? (i := 18) rfl)))) (by decide) (acc l Z a0 hw a mn mx (mx.toInt64 + ((i3 % (3 : Int32)).toInt64)) h0 Fn Fx) e3 E (by decide) (by decide) (by decide) (by decide) (by rw [hml]; rfl) (lenOf pd4 rfl) rfl (Nat.le_of_eq rfl) (hb hby at_94) rfl (fun T14 X14 e14 => ?_)
      refine Wk.iload X14 hx (hb hby at_97) rfl rfl ?_
      refine Wk.icmp_neB X14 hx 106 102 (hb hby at_99) rfl rfl (fun h15 => absurd h15 (by simp)) (fun h15 => ?_)
      refine Wk.iconst X14 hx (1 : Int32) (hb hby at_102) rfl rfl ?_
      refine Wk.goto X14 hx 107 (hb hby at_103) rfl ?_
      exact Wk.retZ X14 hx hlk hret (hb hby at_107) (by decide) (Nat.zero_le _) (Nat.zero_le _) (Wk.pu e14)
  · skip
    refine Wk.lloadN X3 hx (hb hby at_36) rfl rfl ?_
    refine Wk.lstore (l' := #[.val (.int i0), .val (.long i1), .second, .val (.int i2), .val (.int i3), .val (.int ((i0 &&& (2147483647 : Int32)) % (13 : Int32))), .val (.ref a), .val (.long mn.toInt64), .second, .val (.long mx.toInt64), .second, .val (.long i1), .second, .unset, .unset]) X3 hx (hb hby at_37) rfl rfl ?_
    refine Wk.goto X3 hx 67 (hb hby at_39) rfl ?_
    refine Wk.cutF (mkF m 88 #[.val (.int i0), .val (.long i1), .second, .val (.int i2), .val (.int i3), .val (.int ((i0 &&& (2147483647 : Int32)) % (13 : Int32))), .val (.ref a), .val (.long mn.toInt64), .second, .val (.long mx.toInt64), .second, .val (.long i1), .second, .unset, .unset] [(.int (Wk.b (mn.toInt ≤ (i1).toInt ∧ (i1).toInt ≤ mx.toInt)))]) (fun J16 => ?_) ?_
    · skip
      refine Wk.lload X3 hx (hb hby at_67) rfl rfl ?_
      refine Wk.lload X3 hx (hb hby at_69) rfl rfl ?_
      refine Wk.lcmp X3 hx (hb hby at_71) rfl ?_
      refine Wk.lif_lt X3 hx 87 75 (hb hby at_72) rfl rfl (show (i1 : Int64).toInt = (i1).toInt from rfl) (show (mn.toInt64 : Int64).toInt = mn.toInt from Int32.toInt_toInt64 _) (fun h17 => ?_) (fun h17 => ?_)
      · skip
        refine Wk.iconst X3 hx (0 : Int32) (hb hby at_87) rfl rfl ?_
        exact Wk.goB0 J16 (by omega)
      · skip
        refine Wk.lload X3 hx (hb hby at_75) rfl rfl ?_
        refine Wk.lload X3 hx (hb hby at_77) rfl rfl ?_
        refine Wk.lcmp X3 hx (hb hby at_79) rfl ?_
        refine Wk.lif_gt X3 hx 87 83 (hb hby at_80) rfl rfl (show (i1 : Int64).toInt = (i1).toInt from rfl) (show (mx.toInt64 : Int64).toInt = mx.toInt from Int32.toInt_toInt64 _) (fun h18 => ?_) (fun h18 => ?_)
        · skip
          refine Wk.iconst X3 hx (0 : Int32) (hb hby at_87) rfl rfl ?_
          exact Wk.goB0 J16 (by omega)
        · skip
          refine Wk.iconst X3 hx (1 : Int32) (hb hby at_83) rfl rfl ?_
          refine Wk.goto X3 hx 88 (hb hby at_84) rfl ?_
          exact Wk.goB1 J16 (by omega)
    skip
    refine Wk.istore (l' := #[.val (.int i0), .val (.long i1), .second, .val (.int i2), .val (.int i3), .val (.int ((i0 &&& (2147483647 : Int32)) % (13 : Int32))), .val (.ref a), .val (.long mn.toInt64), .second, .val (.long mx.toInt64), .second, .val (.long i1), .second, .val (.int (Wk.b (mn.toInt ≤ (i1).toInt ∧ (i1).toInt ≤ mx.toInt))), .unset]) X3 hx (hb hby at_88) rfl rfl ?_
    refine Wk.aload X3 hx (hb hby at_90) rfl rfl rfl ?_
    refine Wk.lload X3 hx (hb hby at_92) rfl rfl ?_
    refine Wk.callVP (W := 0) X3 hx hZ (argsL := [(.long i1)]) (rest := []) hown (hw _ (List.mem_of_getElem? (i := 15) rfl)) (hw _ (List.mem_of_getElem? (i := 16) rfl)) (hw _ (List.mem_of_getElem? (i := 18) rfl)) (hw _ (List.mem_of_getElem? (i := 17) rfl)) (hw _ (List.mem_of_getElem? (i := 6) rfl)) (hw _ (List.mem_of_getElem? (i := 19) rfl)) (notFace_of_selects (args := #[]) (mvT hZ (hw _ (List.mem_of_getElem? (i := 18) rfl)))) (by decide) (acc l Z a0 hw a mn mx (i1) h0 Fn Fx) e3 E (by decide) (by decide) (by decide) (by decide) (by rw [hml]; rfl) (lenOf pd4 rfl) rfl (Nat.le_of_eq rfl) (hb hby at_94) rfl (fun T19 X19 e19 => ?_)
    refine Wk.iload X19 hx (hb hby at_97) rfl rfl ?_
    refine Wk.icmp_neB X19 hx 106 102 (hb hby at_99) rfl rfl (fun h20 => absurd h20 (by simp)) (fun h20 => ?_)
    refine Wk.iconst X19 hx (1 : Int32) (hb hby at_102) rfl rfl ?_
    refine Wk.goto X19 hx 107 (hb hby at_103) rfl ?_
    exact Wk.retZ X19 hx hlk hret (hb hby at_107) (by decide) (Nat.zero_le _) (Nat.zero_le _) (Wk.pu e19)
set_option maxRecDepth 65536 in
set_option maxHeartbeats 40000000 in
theorem comes_1 {Post : Tables → Env → Array Value → State → Outcome → State → Prop} (hpost : ∀ tb e args s v u, (limb_1_1.after args s (.returned v) u = true ∧ limb_1_2.after args s (.returned v) u = true ∧ True) → FrameEnd s (.returned v) u (Jvm.fieldLocs frame_1_writes args s ++ Jvm.arrayLocs frame_1_arrays args s ++ Jvm.staticLocs frame_1_statics s) 0 0 → Post tb e args s (.returned v) u) :
    ArmFor flags0 classFile x code maxLocals ret World_1 tables_1 room_1 Calls_1 rest_1 Pre_1 Post := by
  intro l hfl _ _ p e ha hc hk s m args below hf hA hF happ hP
  obtain ⟨hcalls, hrest, hpre⟩ := hP
  obtain ⟨-, -, -, hnamed, -, -, -, hat⟩ := (Spec.applies_iff hf).mp happ
  obtain ⟨hg, hn⟩ := and_e (Cond.before_iff.mp (show (Jvm.Cond.and given_1 narrow_1).before args s = true from hpre))
  obtain ⟨hg0, hg⟩ := and_e hg
  obtain ⟨w0, w1, w2, w3, rfl⟩ : ∃ w0 w1 w2 w3 : Value, args = #[w0, w1, w2, w3] := by
    have hs : args.size = 4 := by simpa [Cond.value, given_1] using hg0
    obtain ⟨L⟩ := args
    match L, hs with
    | [w0, w1, w2, w3], _ => exact ⟨w0, w1, w2, w3, rfl⟩
  have hw := fun d (hd : d ∈ tables_1) => atoms_spec (ws := Jvm.Cond.code x code maxLocals ret :: tables_1) hat d (List.mem_cons_of_mem _ hd)
  have hfit : Fit s := fun {y c} hc i hi => by
    obtain ⟨ha, rfl⟩ := Array.getElem?_eq_some_iff.mp hc
    have q := List.all_eq_true.mp ((Array.all_eq_true_iff_forall_mem.mp hF) _ (Array.getElem_mem ha)) i (List.mem_range.mpr hi)
    simpa [Array.getElem?_eq_getElem hi] using q
  obtain ⟨hg1, hg⟩ := and_e hg
  obtain ⟨i0, ei0⟩ := is_v hg1
  obtain rfl : w0 = (.int i0) := Option.some.inj ei0
  obtain ⟨hg2, hg⟩ := and_e hg
  obtain ⟨i1, ei1⟩ := isL_v hg2
  obtain rfl : w1 = (.long i1) := Option.some.inj ei1
  obtain ⟨hg3, hg⟩ := and_e hg
  obtain ⟨i2, ei2⟩ := is_v hg3
  obtain rfl : w2 = (.int i2) := Option.some.inj ei2
  have hg4 := hg
  obtain ⟨i3, ei3⟩ := is_v hg4
  obtain rfl : w3 = (.int i3) := Option.some.inj ei3
  obtain ⟨q0, hn⟩ := and_e hn
  obtain ⟨q1, hn⟩ := and_e hn
  obtain ⟨q2, hn⟩ := and_e hn
  obtain ⟨q3, hn⟩ := and_e hn
  obtain ⟨q4, hn⟩ := and_e hn
  obtain ⟨q5, hn⟩ := and_e hn
  obtain ⟨q6, hn⟩ := and_e hn
  obtain ⟨q7, hn⟩ := and_e hn
  obtain ⟨q8, hn⟩ := and_e hn
  obtain ⟨q9, hn⟩ := and_e hn
  obtain ⟨q10, hn⟩ := and_e hn
  obtain ⟨q11, hn⟩ := and_e hn
  obtain ⟨q12, hn⟩ := and_e hn
  obtain ⟨q13, hn⟩ := and_e hn
  obtain ⟨q14, hn⟩ := and_e hn
  obtain ⟨q15, hn⟩ := and_e hn
  obtain ⟨q16, hn⟩ := and_e hn
  obtain ⟨q17, hn⟩ := and_e hn
  obtain ⟨q18, hn⟩ := and_e hn
  obtain ⟨q19, hn⟩ := and_e hn
  obtain ⟨q20, hn⟩ := and_e hn
  obtain ⟨q21, hn⟩ := and_e hn
  obtain ⟨q22, hn⟩ := and_e hn
  obtain ⟨q23, hn⟩ := and_e hn
  obtain ⟨q24, hn⟩ := and_e hn
  obtain ⟨q25, hn⟩ := and_e hn
  obtain ⟨q26, hn⟩ := and_e hn
  obtain ⟨q27, hn⟩ := and_e hn
  obtain ⟨q28, hn⟩ := and_e hn
  obtain ⟨q29, hn⟩ := and_e hn
  obtain ⟨q30, hn⟩ := and_e hn
  obtain ⟨q31, hn⟩ := and_e hn
  obtain ⟨q32, hn⟩ := and_e hn
  obtain ⟨q33, hn⟩ := and_e hn
  obtain ⟨q34, hn⟩ := and_e hn
  obtain ⟨q35, hn⟩ := and_e hn
  obtain ⟨q36, hn⟩ := and_e hn
  obtain ⟨q37, hn⟩ := and_e hn
  have q38 := hn
  obtain ⟨a0, v0⟩ := exa_v q0
  obtain ⟨a1, v1⟩ := exa_v q25
  obtain ⟨a2, v2⟩ := exa_v q9
  obtain ⟨a3, v3⟩ := exa_v q3
  obtain ⟨a4, v4⟩ := exa_v q23
  obtain ⟨a5, v5⟩ := exa_v q28
  obtain ⟨a6, v6⟩ := exa_v q18
  obtain ⟨a7, v7⟩ := exa_v q31
  obtain ⟨a8, v8⟩ := exa_v q35
  obtain ⟨a9, v9⟩ := exa_v q6
  obtain ⟨a10, v10⟩ := exa_v q15
  obtain ⟨a11, v11⟩ := exa_v q21
  obtain ⟨a12, v12⟩ := exa_v q12
  have b1 := c_mask i0 (2147483647 : Int32) 31 (by decide) (by decide)
  have b2 := (c_irem (i0 &&& (2147483647 : Int32)) (13 : Int32) 13 (by decide)).1 (by omega)
  have gk : ((i0 &&& (2147483647 : Int32)) % (13 : Int32)).toInt = 0 ∨ ((i0 &&& (2147483647 : Int32)) % (13 : Int32)).toInt = 1 ∨ ((i0 &&& (2147483647 : Int32)) % (13 : Int32)).toInt = 2 ∨ ((i0 &&& (2147483647 : Int32)) % (13 : Int32)).toInt = 3 ∨ ((i0 &&& (2147483647 : Int32)) % (13 : Int32)).toInt = 4 ∨ ((i0 &&& (2147483647 : Int32)) % (13 : Int32)).toInt = 5 ∨ ((i0 &&& (2147483647 : Int32)) % (13 : Int32)).toInt = 6 ∨ ((i0 &&& (2147483647 : Int32)) % (13 : Int32)).toInt = 7 ∨ ((i0 &&& (2147483647 : Int32)) % (13 : Int32)).toInt = 8 ∨ ((i0 &&& (2147483647 : Int32)) % (13 : Int32)).toInt = 9 ∨ ((i0 &&& (2147483647 : Int32)) % (13 : Int32)).toInt = 10 ∨ ((i0 &&& (2147483647 : Int32)) % (13 : Int32)).toInt = 11 ∨ ((i0 &&& (2147483647 : Int32)) % (13 : Int32)).toInt = 12 := by omega
  have H : Wk.Met l s x code maxLocals ret tables_1 room_1 #[.int i0, .long i1, .int i2, .int i3] s.heap (Wk.Pu (.int 1) s.heap) := by
    rcases gk with gk | gk | gk | gk | gk | gk | gk | gk | gk | gk | gk | gk | gk
    · have ek : (i0 &&& (2147483647 : Int32)) % (13 : Int32) = (0 : Int32) := Int32.toInt_inj.mp (gk.trans (by decide))
      exact rmL l s _ hw i0 i1 i2 i3 a0 0 36500 s.heap (Exa.start v0 q0) (Wk.fldI v0 q1) (Wk.fldI v0 q2) (by rw [ek]; exact pick0 l s _ hw a0 s.heap (Sta.start v0 (Or.inr ⟨(hw _ (List.mem_of_getElem? (i := 6) rfl)), (hw _ (List.mem_of_getElem? (i := 7) rfl))⟩))) (by rw [ek]; exact lo0 l s _ hw s.heap) (by rw [ek]; exact hi0 l s _ hw s.heap)
    · have ek : (i0 &&& (2147483647 : Int32)) % (13 : Int32) = (1 : Int32) := Int32.toInt_inj.mp (gk.trans (by decide))
      exact rmL l s _ hw i0 i1 i2 i3 a1 0 2147483647 s.heap (Exa.start v1 q25) (Wk.fldI v1 q26) (Wk.fldI v1 q27) (by rw [ek]; exact pick1 l s _ hw a1 s.heap (Sta.start v1 (Or.inr ⟨(hw _ (List.mem_of_getElem? (i := 6) rfl)), (hw _ (List.mem_of_getElem? (i := 46) rfl))⟩))) (by rw [ek]; exact lo1 l s _ hw s.heap) (by rw [ek]; exact hi1 l s _ hw s.heap)
    · have ek : (i0 &&& (2147483647 : Int32)) % (13 : Int32) = (2 : Int32) := Int32.toInt_inj.mp (gk.trans (by decide))
      exact rmL l s _ hw i0 i1 i2 i3 a2 1 2147483647 s.heap (Exa.start v2 q9) (Wk.fldI v2 q10) (Wk.fldI v2 q11) (by rw [ek]; exact pick2 l s _ hw a2 s.heap (Sta.start v2 (Or.inr ⟨(hw _ (List.mem_of_getElem? (i := 6) rfl)), (hw _ (List.mem_of_getElem? (i := 32) rfl))⟩))) (by rw [ek]; exact lo2 l s _ hw s.heap) (by rw [ek]; exact hi2 l s _ hw s.heap)
    · have ek : (i0 &&& (2147483647 : Int32)) % (13 : Int32) = (3 : Int32) := Int32.toInt_inj.mp (gk.trans (by decide))
      exact rmL l s _ hw i0 i1 i2 i3 a3 8 1024 s.heap (Exa.start v3 q3) (Wk.fldI v3 q4) (Wk.fldI v3 q5) (by rw [ek]; exact pick3 l s _ hw a3 s.heap (Sta.start v3 (Or.inr ⟨(hw _ (List.mem_of_getElem? (i := 6) rfl)), (hw _ (List.mem_of_getElem? (i := 25) rfl))⟩))) (by rw [ek]; exact lo3 l s _ hw s.heap) (by rw [ek]; exact hi3 l s _ hw s.heap)
    · have ek : (i0 &&& (2147483647 : Int32)) % (13 : Int32) = (4 : Int32) := Int32.toInt_inj.mp (gk.trans (by decide))
      exact rmL l s _ hw i0 i1 i2 i3 a4 0 1024 s.heap (Exa.start v4 q23) (Wk.fldI v4 q24) (Wk.fldI v4 q34) (by rw [ek]; exact pick4 l s _ hw a4 s.heap (Sta.start v4 (Or.inr ⟨(hw _ (List.mem_of_getElem? (i := 6) rfl)), (hw _ (List.mem_of_getElem? (i := 44) rfl))⟩))) (by rw [ek]; exact lo4 l s _ hw s.heap) (by rw [ek]; exact hi4 l s _ hw s.heap)
    · have ek : (i0 &&& (2147483647 : Int32)) % (13 : Int32) = (5 : Int32) := Int32.toInt_inj.mp (gk.trans (by decide))
      exact rmL l s _ hw i0 i1 i2 i3 a5 0 1024 s.heap (Exa.start v5 q28) (Wk.fldI v5 q29) (Wk.fldI v5 q30) (by rw [ek]; exact pick5 l s _ hw a5 s.heap (Sta.start v5 (Or.inr ⟨(hw _ (List.mem_of_getElem? (i := 6) rfl)), (hw _ (List.mem_of_getElem? (i := 48) rfl))⟩))) (by rw [ek]; exact lo5 l s _ hw s.heap) (by rw [ek]; exact hi5 l s _ hw s.heap)
    · have ek : (i0 &&& (2147483647 : Int32)) % (13 : Int32) = (6 : Int32) := Int32.toInt_inj.mp (gk.trans (by decide))
      exact rmL l s _ hw i0 i1 i2 i3 a6 0 1024 s.heap (Exa.start v6 q18) (Wk.fldI v6 q19) (Wk.fldI v6 q20) (by rw [ek]; exact pick6 l s _ hw a6 s.heap (Sta.start v6 (Or.inr ⟨(hw _ (List.mem_of_getElem? (i := 6) rfl)), (hw _ (List.mem_of_getElem? (i := 40) rfl))⟩))) (by rw [ek]; exact lo6 l s _ hw s.heap) (by rw [ek]; exact hi6 l s _ hw s.heap)
    · have ek : (i0 &&& (2147483647 : Int32)) % (13 : Int32) = (7 : Int32) := Int32.toInt_inj.mp (gk.trans (by decide))
      exact rmL l s _ hw i0 i1 i2 i3 a7 0 1024 s.heap (Exa.start v7 q31) (Wk.fldI v7 q32) (Wk.fldI v7 q33) (by rw [ek]; exact pick7 l s _ hw a7 s.heap (Sta.start v7 (Or.inr ⟨(hw _ (List.mem_of_getElem? (i := 6) rfl)), (hw _ (List.mem_of_getElem? (i := 50) rfl))⟩))) (by rw [ek]; exact lo7 l s _ hw s.heap) (by rw [ek]; exact hi7 l s _ hw s.heap)
    · have ek : (i0 &&& (2147483647 : Int32)) % (13 : Int32) = (8 : Int32) := Int32.toInt_inj.mp (gk.trans (by decide))
      exact rmL l s _ hw i0 i1 i2 i3 a8 0 36500 s.heap (Exa.start v8 q35) (Wk.fldI v8 q36) (Wk.fldI v8 q37) (by rw [ek]; exact pick8 l s _ hw a8 s.heap (Sta.start v8 (Or.inr ⟨(hw _ (List.mem_of_getElem? (i := 6) rfl)), (hw _ (List.mem_of_getElem? (i := 52) rfl))⟩))) (by rw [ek]; exact lo8 l s _ hw s.heap) (by rw [ek]; exact hi8 l s _ hw s.heap)
    · have ek : (i0 &&& (2147483647 : Int32)) % (13 : Int32) = (9 : Int32) := Int32.toInt_inj.mp (gk.trans (by decide))
      exact rmL l s _ hw i0 i1 i2 i3 a9 1 604800 s.heap (Exa.start v9 q6) (Wk.fldI v9 q7) (Wk.fldI v9 q8) (by rw [ek]; exact pick9 l s _ hw a9 s.heap (Sta.start v9 (Or.inr ⟨(hw _ (List.mem_of_getElem? (i := 6) rfl)), (hw _ (List.mem_of_getElem? (i := 29) rfl))⟩))) (by rw [ek]; exact lo9 l s _ hw s.heap) (by rw [ek]; exact hi9 l s _ hw s.heap)
    · have ek : (i0 &&& (2147483647 : Int32)) % (13 : Int32) = (10 : Int32) := Int32.toInt_inj.mp (gk.trans (by decide))
      exact rmL l s _ hw i0 i1 i2 i3 a10 1 2147483647 s.heap (Exa.start v10 q15) (Wk.fldI v10 q16) (Wk.fldI v10 q17) (by rw [ek]; exact pick10 l s _ hw a10 s.heap (Sta.start v10 (Or.inr ⟨(hw _ (List.mem_of_getElem? (i := 6) rfl)), (hw _ (List.mem_of_getElem? (i := 38) rfl))⟩))) (by rw [ek]; exact lo10 l s _ hw s.heap) (by rw [ek]; exact hi10 l s _ hw s.heap)
    · have ek : (i0 &&& (2147483647 : Int32)) % (13 : Int32) = (11 : Int32) := Int32.toInt_inj.mp (gk.trans (by decide))
      exact rmL l s _ hw i0 i1 i2 i3 a11 1 604800 s.heap (Exa.start v11 q21) (Wk.fldI v11 q22) (Wk.fldI v11 q38) (by rw [ek]; exact pick11 l s _ hw a11 s.heap (Sta.start v11 (Or.inr ⟨(hw _ (List.mem_of_getElem? (i := 6) rfl)), (hw _ (List.mem_of_getElem? (i := 42) rfl))⟩))) (by rw [ek]; exact lo11 l s _ hw s.heap) (by rw [ek]; exact hi11 l s _ hw s.heap)
    · have ek : (i0 &&& (2147483647 : Int32)) % (13 : Int32) = (12 : Int32) := Int32.toInt_inj.mp (gk.trans (by decide))
      exact rmL l s _ hw i0 i1 i2 i3 a12 0 100 s.heap (Exa.start v12 q12) (Wk.fldI v12 q13) (Wk.fldI v12 q14) (by rw [ek]; exact pick12 l s _ hw a12 s.heap (Sta.start v12 (Or.inr ⟨(hw _ (List.mem_of_getElem? (i := 6) rfl)), (hw _ (List.mem_of_getElem? (i := 35) rfl))⟩))) (by rw [ek]; exact lo12 l s _ hw s.heap) (by rw [ek]; exact hi12 l s _ hw s.heap)
  obtain ⟨n, o, h1, h2, h3, _, L, rfl, ⟨rfl, rfl, -⟩, hq⟩ := H p e ha hc hk s m _ below hf ((Spec.applies_iff_loose hf).mp happ).1 ⟨rfl, State.Warmed39.refl s, rfl⟩ trivial
  refine ⟨n, _, h1, h2, h3, hpost _ _ _ _ _ _ ⟨Cond.after_iff.mpr rfl, Cond.after_iff.mpr (eq_i res_at (Term.int_eval (1)) rfl), trivial⟩ ⟨hq.1, hq.2.1, (hq.2.2.sift fun y hy => nomatch hy).mono (by decide) (by decide)⟩⟩
theorem main_1_1 : Claimed_1_1 := comes_1 fun _ _ _ _ _ _ h hF => ⟨h.1, hF⟩
theorem main_1_2 : Claimed_1_2 := comes_1 fun _ _ _ _ _ _ h hF => ⟨h.2.1, hF⟩
end Jvm.Pilot.@@N@@
namespace Jvm.Pilot.@@N@@
open Jvm Jvm.ClassFile Sem Op Lib Jvm.Free Jvm.Stand Jvm.Pilot.@@N@@.Jvm.D
/-! MADE BY PROGRAM (witnessworld.py) out of the Statement's table words and the real class files: 12 classes; the members and pool entries that the words name. The judged class is class 1, her method 4. -/
namespace start1
open Jvm.ClassFile
def u (s : String) : CpInfo := .utf8 (stringToUtf16 s)
/-- a pool by its gaps: so many unusable entries, then the entry; so many at the end -/
def gap : Nat → List CpInfo → List CpInfo
  | 0, r => r
  | n + 1, r => .unusable :: gap n r
def poolList (es : List (Nat × CpInfo)) (last : Nat) : List CpInfo := es.foldr (fun e r => gap e.1 (e.2 :: r)) (gap last [])
def pool (es : List (Nat × CpInfo)) (last : Nat) : Array CpInfo := ⟨poolList es last⟩
def fileOf (pool : Array CpInfo) (this : Nat) (attrs : Array Attribute := #[]) (ms : Array MethodInfo := #[]) (fl : Nat := 33) (sup : Nat := 0) (ifs : Array Nat := #[]) (fds : Array FieldInfo := #[]) : ClassFile where
  minorVersion := 0
  majorVersion := 65
  constantPool := pool
  accessFlags := fl
  thisClass := this
  superClass := sup
  interfaces := ifs
  fields := fds
  methods := ms
  attributes := attrs
def plain (name : String) (sup : Option ClassId) : Class where
  name := name
  kind := .ordinary
  loader := none
  accessFlags := 33
  super := sup
  interfaces := #[]
  cf := none
  fields := #[]
  methods := #[]
  instanceTypes := #[]
  staticTypes := #[]
  resolved := #[]
  callSites := []
  init := .initialized
  statics := none
  mirror := none

def pool0 : Array CpInfo := pool [(5, u "<init>"), (0, u "()V"), (1, .class_ 10), (1, u "java/lang/Object")] 113

def k0m0 : Method := { name := "<init>", desc := "()V", sig := { parameters := [], returnType := none }, accessFlags := 1, code := none }
/-- java/lang/Object -/
def k0 : Class := { plain "java/lang/Object" none with
  accessFlags := 33
  interfaces := #[]
  cf := some (fileOf pool0 8 #[] #[{ accessFlags := 1, nameIndex := 5, descriptorIndex := 6, attributes := #[] }] 33 0 #[] #[])
  fields := #[]
  methods := #[k0m0]
  instanceTypes := #[]
  staticTypes := #[]
  resolved := Array.replicate 124 none
  statics := none }

def pool1 : Array CpInfo := pool [(2, .class_ 4), (1, u "java/lang/Object"), (0, u "<init>"), (0, u "()V"), (0, .fieldref 8 9), (0, .class_ 10), (0, .nameAndType 11 12), (0, u "com/example/tunnus/tunnus/model/Setting"), (0, u "ACCOUNT_VALIDITY_DAYS"), (0, u "Lcom/example/tunnus/tunnus/model/Setting;"), (0, .fieldref 8 14), (0, .nameAndType 15 12), (0, u "FAILED_LOGIN_LIMIT"), (0, .fieldref 8 17), (0, .nameAndType 18 12), (0, u "TOKEN_LIFETIME_SECONDS"), (0, .fieldref 8 20), (0, .nameAndType 21 12), (0, u "PASSWORD_MIN_LENGTH"), (0, .fieldref 8 23), (0, .nameAndType 24 12), (0, u "PASSWORD_MIN_DIGITS"), (0, .fieldref 8 26), (0, .nameAndType 27 12), (0, u "PASSWORD_MIN_UPPER"), (0, .fieldref 8 29), (0, .nameAndType 30 12), (0, u "PASSWORD_MIN_LOWER"), (0, .fieldref 8 32), (0, .nameAndType 33 12), (0, u "PASSWORD_MIN_SYMBOLS"), (0, .fieldref 8 35), (0, .nameAndType 36 12), (0, u "PASSWORD_VALIDITY_DAYS"), (0, .fieldref 8 38), (0, .nameAndType 39 12), (0, u "RESET_LINK_SECONDS"), (0, .fieldref 8 41), (0, .nameAndType 42 12), (0, u "RESET_LINK_LIMIT"), (0, .fieldref 8 44), (0, .nameAndType 45 12), (0, u "RESET_LINK_WINDOW_SECONDS"), (0, .fieldref 8 47), (0, .nameAndType 48 12), (0, u "IMPORT_DEACTIVATION_LIMIT_PERCENT"), (0, .long 8), (1, .long 36500), (1, .long 2147483647), (1, .long 1024), (1, .long 604800), (1, .long 100), (1, .integer 2147483647), (0, .methodref 63 64), (0, .class_ 65), (0, .nameAndType 66 67), (0, u "com/example/tunnus/tunnus/model/SettingAcceptsPinLaw"), (0, u "pick"), (0, u "(I)Lcom/example/tunnus/tunnus/model/Setting;"), (0, .methodref 63 69), (0, .nameAndType 70 71), (0, u "lo"), (0, u "(I)J"), (0, .methodref 63 73), (0, .nameAndType 74 71), (0, u "hi"), (0, .methodref 8 76), (0, .nameAndType 77 78), (0, u "accepts"), (0, u "(J)Z"), (3, u "law"), (0, u "(IJII)Z")] 2

def k1m0 : Method := { name := "<init>", desc := "()V", sig := { parameters := [], returnType := none }, accessFlags := 1, code := none }
def k1c1 : Code := { maxStack := 2, maxLocals := 1, code := method_2_code, exceptionTable := #[], attributes := #[] }
def k1m1 : Method := { name := "pick", desc := "(I)Lcom/example/tunnus/tunnus/model/Setting;", sig := { parameters := [.int], returnType := some (.object "com/example/tunnus/tunnus/model/Setting") }, accessFlags := 10, code := some k1c1 }
def k1c2 : Code := { maxStack := 2, maxLocals := 1, code := method_3_code, exceptionTable := #[], attributes := #[] }
def k1m2 : Method := { name := "lo", desc := "(I)J", sig := { parameters := [.int], returnType := some .long }, accessFlags := 10, code := some k1c2 }
def k1c3 : Code := { maxStack := 2, maxLocals := 1, code := method_4_code, exceptionTable := #[], attributes := #[] }
def k1m3 : Method := { name := "hi", desc := "(I)J", sig := { parameters := [.int], returnType := some .long }, accessFlags := 10, code := some k1c3 }
def k1c4 : Code := { maxStack := 4, maxLocals := 15, code := code, exceptionTable := #[], attributes := #[] }
def k1m4 : Method := { name := "law", desc := "(IJII)Z", sig := { parameters := [.int, .long, .int, .int], returnType := some .boolean }, accessFlags := 9, code := some k1c4 }
/-- com/example/tunnus/tunnus/model/SettingAcceptsPinLaw -/
def k1 : Class := { plain "com/example/tunnus/tunnus/model/SettingAcceptsPinLaw" (some 0) with
  accessFlags := 49
  interfaces := #[]
  cf := some (fileOf pool1 63 #[] #[{ accessFlags := 1, nameIndex := 5, descriptorIndex := 6, attributes := #[] }, { accessFlags := 10, nameIndex := 66, descriptorIndex := 67, attributes := #[] }, { accessFlags := 10, nameIndex := 70, descriptorIndex := 71, attributes := #[] }, { accessFlags := 10, nameIndex := 74, descriptorIndex := 71, attributes := #[] }, { accessFlags := 9, nameIndex := 82, descriptorIndex := 83, attributes := #[] }] 49 2 #[] #[])
  fields := #[]
  methods := #[k1m0, k1m1, k1m2, k1m3, k1m4]
  instanceTypes := #[]
  staticTypes := #[]
  resolved := Array.replicate 86 none
  statics := none }

def pool2 : Array CpInfo := pool [(1, .class_ 2), (0, u "java/lang/constant/Constable"), (0, .class_ 4), (0, u "java/lang/Object")] 6

/-- java/lang/constant/Constable -/
def k2 : Class := { plain "java/lang/constant/Constable" (some 0) with
  accessFlags := 1537
  interfaces := #[]
  cf := some (fileOf pool2 1 #[] #[] 1537 3 #[] #[])
  fields := #[]
  methods := #[]
  instanceTypes := #[]
  staticTypes := #[]
  resolved := Array.replicate 11 none
  statics := none }

def pool3 : Array CpInfo := pool [(1, .class_ 2), (0, u "java/lang/Comparable"), (0, .class_ 4), (0, u "java/lang/Object")] 7

/-- java/lang/Comparable -/
def k3 : Class := { plain "java/lang/Comparable" (some 0) with
  accessFlags := 1537
  interfaces := #[]
  cf := some (fileOf pool3 1 #[] #[] 1537 3 #[] #[])
  fields := #[]
  methods := #[]
  instanceTypes := #[]
  staticTypes := #[]
  resolved := Array.replicate 12 none
  statics := none }

def pool4 : Array CpInfo := pool [(1, .class_ 2), (0, u "java/io/Serializable"), (0, .class_ 4), (0, u "java/lang/Object")] 2

/-- java/io/Serializable -/
def k4 : Class := { plain "java/io/Serializable" (some 0) with
  accessFlags := 1537
  interfaces := #[]
  cf := some (fileOf pool4 1 #[] #[] 1537 3 #[] #[])
  fields := #[]
  methods := #[]
  instanceTypes := #[]
  staticTypes := #[]
  resolved := Array.replicate 7 none
  statics := none }

def pool5 : Array CpInfo := pool [(2, .class_ 4), (1, u "java/lang/Enum"), (0, u "name"), (0, u "Ljava/lang/String;"), (2, u "ordinal"), (0, u "I"), (1, .class_ 14), (1, u "java/lang/Object"), (4, u "hash"), (86, .class_ 108), (1, u "java/lang/Enum$EnumDesc"), (2, .class_ 112), (0, u "java/lang/constant/Constable"), (0, .class_ 114), (0, u "java/lang/Comparable"), (0, .class_ 116), (0, u "java/io/Serializable")] 87

/-- java/lang/Enum -/
def k5 : Class := { plain "java/lang/Enum" (some 0) with
  accessFlags := 1057
  interfaces := #[2, 3, 4]
  cf := some (fileOf pool5 2 #[.nestMembers #[106]] #[] 1057 12 #[111, 113, 115] #[{ accessFlags := 18, nameIndex := 5, descriptorIndex := 6, attributes := #[] }, { accessFlags := 18, nameIndex := 9, descriptorIndex := 10, attributes := #[] }, { accessFlags := 2, nameIndex := 19, descriptorIndex := 10, attributes := #[] }])
  fields := #[{ name := "name", type := (.object "java/lang/String"), accessFlags := 18, slot := 0, constantValue := 0 }, { name := "ordinal", type := .int, accessFlags := 18, slot := 1, constantValue := 0 }, { name := "hash", type := .int, accessFlags := 2, slot := 2, constantValue := 0 }]
  methods := #[]
  instanceTypes := #[(.object "java/lang/String"), .int, .int]
  staticTypes := #[]
  resolved := Array.replicate 204 none
  statics := none }

def pool6 : Array CpInfo := pool [(1, .class_ 2), (0, u "com/example/tunnus/tunnus/model/Setting"), (2, u "ACCOUNT_VALIDITY_DAYS"), (0, u "Lcom/example/tunnus/tunnus/model/Setting;"), (2, u "FAILED_LOGIN_LIMIT"), (2, u "TOKEN_LIFETIME_SECONDS"), (2, u "PASSWORD_MIN_LENGTH"), (2, u "PASSWORD_MIN_DIGITS"), (2, u "PASSWORD_MIN_UPPER"), (2, u "PASSWORD_MIN_LOWER"), (2, u "PASSWORD_MIN_SYMBOLS"), (2, u "PASSWORD_VALIDITY_DAYS"), (2, u "RESET_LINK_SECONDS"), (2, u "RESET_LINK_LIMIT"), (2, u "RESET_LINK_WINDOW_SECONDS"), (2, u "IMPORT_DEACTIVATION_LIMIT_PERCENT"), (2, u "$VALUES"), (0, u "[Lcom/example/tunnus/tunnus/model/Setting;"), (6, .class_ 55), (1, u "java/lang/Enum"), (8, u "key"), (0, u "Ljava/lang/String;"), (2, u "defaultValue"), (0, u "I"), (0, .fieldref 1 71), (0, .nameAndType 72 69), (0, u "min"), (0, .fieldref 1 74), (0, .nameAndType 75 69), (0, u "max"), (60, u "MAX_PASSWORD_LENGTH"), (10, u "accepts"), (0, u "(J)Z")] 7

def k6c0 : Code := { maxStack := 4, maxLocals := 3, code := prog_16_method_7_code, exceptionTable := #[], attributes := #[] }
def k6m0 : Method := { name := "accepts", desc := "(J)Z", sig := { parameters := [.long], returnType := some .boolean }, accessFlags := 1, code := some k6c0 }
/-- com/example/tunnus/tunnus/model/Setting -/
def k6 : Class := { plain "com/example/tunnus/tunnus/model/Setting" (some 5) with
  accessFlags := 16433
  interfaces := #[]
  cf := some (fileOf pool6 1 #[] #[{ accessFlags := 1, nameIndex := 147, descriptorIndex := 148, attributes := #[] }] 16433 53 #[] #[{ accessFlags := 16409, nameIndex := 5, descriptorIndex := 6, attributes := #[] }, { accessFlags := 16409, nameIndex := 9, descriptorIndex := 6, attributes := #[] }, { accessFlags := 16409, nameIndex := 12, descriptorIndex := 6, attributes := #[] }, { accessFlags := 16409, nameIndex := 15, descriptorIndex := 6, attributes := #[] }, { accessFlags := 16409, nameIndex := 18, descriptorIndex := 6, attributes := #[] }, { accessFlags := 16409, nameIndex := 21, descriptorIndex := 6, attributes := #[] }, { accessFlags := 16409, nameIndex := 24, descriptorIndex := 6, attributes := #[] }, { accessFlags := 16409, nameIndex := 27, descriptorIndex := 6, attributes := #[] }, { accessFlags := 16409, nameIndex := 30, descriptorIndex := 6, attributes := #[] }, { accessFlags := 16409, nameIndex := 33, descriptorIndex := 6, attributes := #[] }, { accessFlags := 16409, nameIndex := 36, descriptorIndex := 6, attributes := #[] }, { accessFlags := 16409, nameIndex := 39, descriptorIndex := 6, attributes := #[] }, { accessFlags := 16409, nameIndex := 42, descriptorIndex := 6, attributes := #[] }, { accessFlags := 25, nameIndex := 136, descriptorIndex := 69, attributes := #[] }, { accessFlags := 18, nameIndex := 64, descriptorIndex := 65, attributes := #[] }, { accessFlags := 18, nameIndex := 68, descriptorIndex := 69, attributes := #[] }, { accessFlags := 18, nameIndex := 72, descriptorIndex := 69, attributes := #[] }, { accessFlags := 18, nameIndex := 75, descriptorIndex := 69, attributes := #[] }, { accessFlags := 4122, nameIndex := 45, descriptorIndex := 46, attributes := #[] }])
  fields := #[{ name := "ACCOUNT_VALIDITY_DAYS", type := (.object "com/example/tunnus/tunnus/model/Setting"), accessFlags := 16409, slot := 0, constantValue := 0 }, { name := "FAILED_LOGIN_LIMIT", type := (.object "com/example/tunnus/tunnus/model/Setting"), accessFlags := 16409, slot := 1, constantValue := 0 }, { name := "TOKEN_LIFETIME_SECONDS", type := (.object "com/example/tunnus/tunnus/model/Setting"), accessFlags := 16409, slot := 2, constantValue := 0 }, { name := "PASSWORD_MIN_LENGTH", type := (.object "com/example/tunnus/tunnus/model/Setting"), accessFlags := 16409, slot := 3, constantValue := 0 }, { name := "PASSWORD_MIN_DIGITS", type := (.object "com/example/tunnus/tunnus/model/Setting"), accessFlags := 16409, slot := 4, constantValue := 0 }, { name := "PASSWORD_MIN_UPPER", type := (.object "com/example/tunnus/tunnus/model/Setting"), accessFlags := 16409, slot := 5, constantValue := 0 }, { name := "PASSWORD_MIN_LOWER", type := (.object "com/example/tunnus/tunnus/model/Setting"), accessFlags := 16409, slot := 6, constantValue := 0 }, { name := "PASSWORD_MIN_SYMBOLS", type := (.object "com/example/tunnus/tunnus/model/Setting"), accessFlags := 16409, slot := 7, constantValue := 0 }, { name := "PASSWORD_VALIDITY_DAYS", type := (.object "com/example/tunnus/tunnus/model/Setting"), accessFlags := 16409, slot := 8, constantValue := 0 }, { name := "RESET_LINK_SECONDS", type := (.object "com/example/tunnus/tunnus/model/Setting"), accessFlags := 16409, slot := 9, constantValue := 0 }, { name := "RESET_LINK_LIMIT", type := (.object "com/example/tunnus/tunnus/model/Setting"), accessFlags := 16409, slot := 10, constantValue := 0 }, { name := "RESET_LINK_WINDOW_SECONDS", type := (.object "com/example/tunnus/tunnus/model/Setting"), accessFlags := 16409, slot := 11, constantValue := 0 }, { name := "IMPORT_DEACTIVATION_LIMIT_PERCENT", type := (.object "com/example/tunnus/tunnus/model/Setting"), accessFlags := 16409, slot := 12, constantValue := 0 }, { name := "MAX_PASSWORD_LENGTH", type := .int, accessFlags := 25, slot := 13, constantValue := 0 }, { name := "key", type := (.object "java/lang/String"), accessFlags := 18, slot := 3, constantValue := 0 }, { name := "defaultValue", type := .int, accessFlags := 18, slot := 4, constantValue := 0 }, { name := "min", type := .int, accessFlags := 18, slot := 5, constantValue := 0 }, { name := "max", type := .int, accessFlags := 18, slot := 6, constantValue := 0 }, { name := "$VALUES", type := (.array (.object "com/example/tunnus/tunnus/model/Setting")), accessFlags := 4122, slot := 14, constantValue := 0 }]
  methods := #[k6m0]
  instanceTypes := #[(.object "java/lang/String"), .int, .int, (.object "java/lang/String"), .int, .int, .int]
  staticTypes := #[(.object "com/example/tunnus/tunnus/model/Setting"), (.object "com/example/tunnus/tunnus/model/Setting"), (.object "com/example/tunnus/tunnus/model/Setting"), (.object "com/example/tunnus/tunnus/model/Setting"), (.object "com/example/tunnus/tunnus/model/Setting"), (.object "com/example/tunnus/tunnus/model/Setting"), (.object "com/example/tunnus/tunnus/model/Setting"), (.object "com/example/tunnus/tunnus/model/Setting"), (.object "com/example/tunnus/tunnus/model/Setting"), (.object "com/example/tunnus/tunnus/model/Setting"), (.object "com/example/tunnus/tunnus/model/Setting"), (.object "com/example/tunnus/tunnus/model/Setting"), (.object "com/example/tunnus/tunnus/model/Setting"), .int, (.array (.object "com/example/tunnus/tunnus/model/Setting"))]
  resolved := Array.replicate 156 none
  statics := some 0 }

def pool7 : Array CpInfo := pool [(1, u "java/lang/Cloneable"), (0, .class_ 1), (0, u "java/lang/Object"), (0, .class_ 3)] 3

/-- java/lang/Cloneable -/
def k7 : Class := { plain "java/lang/Cloneable" (some 0) with
  accessFlags := 1537
  interfaces := #[]
  cf := some (fileOf pool7 2 #[] #[] 1537 4 #[] #[])
  fields := #[]
  methods := #[]
  instanceTypes := #[]
  staticTypes := #[]
  resolved := Array.replicate 8 none
  statics := none }

/-- the primitive byte -/
def k8 : Class := { plain "byte" none with kind := .primitive 'B', accessFlags := 0x411 }
/-- [B -/
def k9 : Class := { plain "[B" (some 0) with kind := .array 8 .byte, interfaces := #[7, 4], accessFlags := 1041 }

/-- the primitive int -/
def k10 : Class := { plain "int" none with kind := .primitive 'I', accessFlags := 0x411 }
/-- [I -/
def k11 : Class := { plain "[I" (some 0) with kind := .array 10 .int, interfaces := #[7, 4], accessFlags := 1041 }

def heap : Heap := #[{ cls := 6, slots := #[.ref 1, .ref 2, .ref 3, .ref 4, .ref 5, .ref 6, .ref 7, .ref 8, .ref 9, .ref 10, .ref 11, .ref 12, .ref 13, .int 0, .null], vm := .statics 6 },
  { cls := 6, slots := #[.null, .int 0, .int 0, .null, .int 0, .int 0, .int 36500], vm := .none },
  { cls := 6, slots := #[.null, .int 0, .int 0, .null, .int 0, .int 0, .int 2147483647], vm := .none },
  { cls := 6, slots := #[.null, .int 0, .int 0, .null, .int 0, .int 1, .int 2147483647], vm := .none },
  { cls := 6, slots := #[.null, .int 0, .int 0, .null, .int 0, .int 8, .int 1024], vm := .none },
  { cls := 6, slots := #[.null, .int 0, .int 0, .null, .int 0, .int 0, .int 1024], vm := .none },
  { cls := 6, slots := #[.null, .int 0, .int 0, .null, .int 0, .int 0, .int 1024], vm := .none },
  { cls := 6, slots := #[.null, .int 0, .int 0, .null, .int 0, .int 0, .int 1024], vm := .none },
  { cls := 6, slots := #[.null, .int 0, .int 0, .null, .int 0, .int 0, .int 1024], vm := .none },
  { cls := 6, slots := #[.null, .int 0, .int 0, .null, .int 0, .int 0, .int 36500], vm := .none },
  { cls := 6, slots := #[.null, .int 0, .int 0, .null, .int 0, .int 1, .int 604800], vm := .none },
  { cls := 6, slots := #[.null, .int 0, .int 0, .null, .int 0, .int 1, .int 2147483647], vm := .none },
  { cls := 6, slots := #[.null, .int 0, .int 0, .null, .int 0, .int 1, .int 604800], vm := .none },
  { cls := 6, slots := #[.null, .int 0, .int 0, .null, .int 0, .int 0, .int 100], vm := .none }]
def classes : Array Class := #[k0, k1, k2, k3, k4, k5, k6, k7, k8, k9, k10, k11]
def interned : List (Array UInt16 × Addr) := []
def slotsUsed : Nat := 106
def theMethod : MethodId := ⟨1, 4⟩
def args0 : Array Value := #[.int 5, .long 7, .int 1, .int 2]
def aboutOver (below : List Frame) : State where
  vm := { classes := classes, interned := interned.toArray }
  heap := heap
  slotsUsed := slotsUsed
  threads := #[{ frames := .invoking theMethod args0 :: below }]
def below0 : List Frame := [.native { method := ⟨0, 0⟩, args := #[] }]
def about1 : State := aboutOver below0
def p0 : Program := .bare "" "" ""
def e0 : Env := launch0.env 0 0 0
theorem w_frames : about1.frames = Frame.invoking theMethod args0 :: below0 := rfl
set_option maxRecDepth 65536 in
theorem w_args : argsFit about1.vm theMethod args0 = true := by decide +kernel
set_option maxRecDepth 65536 in
theorem w_heap : heapFits about1 = true := by decide +kernel
set_option maxRecDepth 65536 in
theorem w_runnable : about1.curStatus? = some .runnable := by decide +kernel
set_option maxRecDepth 65536 in
theorem w_alone : about1.alone = true := by decide +kernel
set_option maxRecDepth 65536 in
theorem w_named : about1.methodNamed? x = some theMethod := by decide +kernel
set_option maxRecDepth 65536 in
theorem w_hears : about1.hears theMethod below0 = true := by decide +kernel
set_option maxRecDepth 65536 in
theorem w_ripe : about1.ripe theMethod args0 below0 = true := by decide +kernel
theorem w_running : about1.status = .running := rfl
set_option maxRecDepth 65536 in
theorem w_room : about1.hasRoom e0.platform room_1 = true :=
  launch0.hasRoom_least _ room_1 (by decide +kernel) (by decide +kernel) (by decide +kernel) (by decide +kernel) (by decide +kernel) (by decide +kernel)
theorem allAtoms_all (ts : List Jvm.Cond) (a : Array Jvm.Value) (st : Jvm.State) : (allAtoms ts).before a st = ts.all (fun c => c.before a st) := by
  induction ts with
  | nil => rfl
  | cons c t ih =>
    show (Jvm.Cond.and c (allAtoms t)).before a st = _
    rw [Jvm.Cond.before_and, ih, List.all_cons]
def words1 : List Jvm.Cond := Jvm.Cond.code x code maxLocals ret :: tables_1
/-- a 'code' word, met by the world's own term for the bytes: nothing is compared byte by byte -/
theorem code_word {y : MethodName} {bytes : ByteArray} {mx : Nat} {rt : Option FieldType} {a : Array Value} {s : State} {m : MethodId} {meth : Method} {c : Code} (h1 : s.methodNamed? y = some m) (h2 : s.vm.method? m = some meth) (h3 : meth.code = some c) (h4 : c.code = bytes)
    (h5 : (c.maxLocals == mx && c.exceptionTable.isEmpty && decide (c.maxStack ≤ mostOperands) && decide (meth.sig.returnType = rt) && !meth.locks && decide (parseMethodDescriptor y.desc = some meth.sig)) = true) : (Jvm.Cond.code y bytes mx rt).before a s = true := by
  simp only [Bool.and_eq_true, beq_iff_eq, Bool.not_eq_true', decide_eq_true_eq] at h5
  obtain ⟨⟨⟨⟨⟨g1, g2⟩, g3⟩, g4⟩, g5⟩, g6⟩ := h5
  simp [Cond.before, Cond.holds, Cond.value, h1, h2, h3, h4, g1, g2, g3, g4, g5, g6]
def isCode : Jvm.Cond → Bool
  | .code _ _ _ _ => true
  | _ => false
theorem all_split {L : List Jvm.Cond} {P : Jvm.Cond → Bool} (h1 : L.all (fun c => isCode c || P c) = true) (h2 : ∀ c ∈ L.filter isCode, P c = true) : L.all P = true := by
  refine List.all_eq_true.mpr fun c hc => ?_
  have h := List.all_eq_true.mp h1 c hc
  rcases Bool.eq_false_or_eq_true (isCode c) with hi | hi
  · exact h2 c (List.mem_filter.mpr ⟨hc, hi⟩)
  · simpa [hi] using h
set_option maxRecDepth 65536 in
theorem w_c0 : (Jvm.Cond.code x code maxLocals ret).before args0 about1 = true := code_word (m := ⟨1, 4⟩) (meth := k1m4) (c := k1c4) (by decide +kernel) rfl rfl rfl (by decide +kernel)
set_option maxRecDepth 65536 in
theorem w_c1 : (Jvm.Cond.code ({ cls := "com/example/tunnus/tunnus/model/SettingAcceptsPinLaw", name := "pick", desc := "(I)Lcom/example/tunnus/tunnus/model/Setting;" } : Jvm.MethodName) method_2_code (1 : Nat) (Option.some (Jvm.ClassFile.FieldType.object "com/example/tunnus/tunnus/model/Setting"))).before args0 about1 = true := code_word (m := ⟨1, 1⟩) (meth := k1m1) (c := k1c1) (by decide +kernel) rfl rfl rfl (by decide +kernel)
set_option maxRecDepth 65536 in
theorem w_c2 : (Jvm.Cond.code ({ cls := "com/example/tunnus/tunnus/model/SettingAcceptsPinLaw", name := "lo", desc := "(I)J" } : Jvm.MethodName) method_3_code (1 : Nat) (Option.some Jvm.ClassFile.FieldType.long)).before args0 about1 = true := code_word (m := ⟨1, 2⟩) (meth := k1m2) (c := k1c2) (by decide +kernel) rfl rfl rfl (by decide +kernel)
set_option maxRecDepth 65536 in
theorem w_c3 : (Jvm.Cond.code ({ cls := "com/example/tunnus/tunnus/model/SettingAcceptsPinLaw", name := "hi", desc := "(I)J" } : Jvm.MethodName) method_4_code (1 : Nat) (Option.some Jvm.ClassFile.FieldType.long)).before args0 about1 = true := code_word (m := ⟨1, 3⟩) (meth := k1m3) (c := k1c3) (by decide +kernel) rfl rfl rfl (by decide +kernel)
set_option maxRecDepth 65536 in
theorem w_c4 : (Jvm.Cond.code ({ cls := "com/example/tunnus/tunnus/model/Setting", name := "accepts", desc := "(J)Z" } : Jvm.MethodName) prog_16_method_7_code (3 : Nat) (Option.some Jvm.ClassFile.FieldType.boolean)).before args0 about1 = true := code_word (m := ⟨6, 0⟩) (meth := k6m0) (c := k6c0) (by decide +kernel) rfl rfl rfl (by decide +kernel)
def codes1 : List Jvm.Cond := [Jvm.Cond.code x code maxLocals ret, Jvm.Cond.code ({ cls := "com/example/tunnus/tunnus/model/SettingAcceptsPinLaw", name := "pick", desc := "(I)Lcom/example/tunnus/tunnus/model/Setting;" } : Jvm.MethodName) method_2_code (1 : Nat) (Option.some (Jvm.ClassFile.FieldType.object "com/example/tunnus/tunnus/model/Setting")), Jvm.Cond.code ({ cls := "com/example/tunnus/tunnus/model/SettingAcceptsPinLaw", name := "lo", desc := "(I)J" } : Jvm.MethodName) method_3_code (1 : Nat) (Option.some Jvm.ClassFile.FieldType.long), Jvm.Cond.code ({ cls := "com/example/tunnus/tunnus/model/SettingAcceptsPinLaw", name := "hi", desc := "(I)J" } : Jvm.MethodName) method_4_code (1 : Nat) (Option.some Jvm.ClassFile.FieldType.long), Jvm.Cond.code ({ cls := "com/example/tunnus/tunnus/model/Setting", name := "accepts", desc := "(J)Z" } : Jvm.MethodName) prog_16_method_7_code (3 : Nat) (Option.some Jvm.ClassFile.FieldType.boolean)]
set_option maxRecDepth 65536 in
theorem codes_eq : words1.filter isCode = codes1 := rfl
theorem w_codes : ∀ c ∈ words1.filter isCode, c.before args0 about1 = true := by
  rw [codes_eq]
  intro c hc
  simp only [codes1, List.mem_cons, List.not_mem_nil, or_false] at hc
  rcases hc with rfl | rfl | rfl | rfl | rfl
  · exact w_c0
  · exact w_c1
  · exact w_c2
  · exact w_c3
  · exact w_c4
set_option maxRecDepth 65536 in
theorem w_t1 : (words1.take 24).all (fun c => isCode c || c.before args0 about1) = true := by decide +kernel
set_option maxRecDepth 65536 in
theorem w_t2 : ((words1.drop 24).take 24).all (fun c => isCode c || c.before args0 about1) = true := by decide +kernel
set_option maxRecDepth 65536 in
theorem w_t3 : ((words1.drop 24).drop 24).all (fun c => isCode c || c.before args0 about1) = true := by decide +kernel
theorem w_tables : (allAtoms (Jvm.Cond.code x code maxLocals ret :: tables_1)).before args0 about1 = true := by
  rw [allAtoms_all]
  show words1.all (fun c => c.before args0 about1) = true
  refine all_split ?_ w_codes
  rw [← List.take_append_drop 24 words1, List.all_append, w_t1, ← List.take_append_drop 24 (words1.drop 24), List.all_append, w_t2, w_t3]
  rfl
set_option maxRecDepth 65536 in
theorem w_case : (Jvm.Cond.and given_1 narrow_1).before args0 about1 = true := by decide +kernel
theorem w_applies : (headSpec (Jvm.Cond.code x code maxLocals ret :: tables_1) room_1).applies x e0.platform about1 = true :=
  (Spec.applies_iff w_frames).mpr ⟨w_running, w_runnable, w_alone, w_named, w_hears, w_ripe, w_room, w_tables⟩
theorem atStart : AtStart classFile x code maxLocals ret World_1 tables_1 room_1 Calls_1 rest_1 Pre_1 launch0 p0 e0 about1 theMethod args0 below0 :=
  ⟨lists_1, trivial, launch0.admits_env _ _ _, launch0.least_env, fairChoices_fair.cas, fairChoices_fair.clock, w_frames, w_args, w_heap, w_applies, trivial, trivial, w_case⟩
end start1
theorem witness_1 : WitnessClaimed_1 := ⟨start1.p0, start1.e0, start1.about1, start1.theMethod, start1.args0, start1.below0, start1.atStart⟩
end Jvm.Pilot.@@N@@
