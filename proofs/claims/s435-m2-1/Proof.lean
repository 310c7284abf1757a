import JvmDerived
import JvmDerived.Pilot.@@N@@Statement
import JvmDerived.Pilot.@@N@@Code
set_option linter.unusedVariables false
set_option linter.unusedSimpArgs false
namespace Jvm.Wk
open Sem ClassFile Op Lib Jvm.Stand Jvm.Free Jvm.LawKit Jvm.RoadKit
section W
variable {p : Program} {l : Launch} {e : Env} {R : Room} {s : State} {m : MethodId} {args : Array Value} {below : List Frame} {meth : Method} {c : Code} {T T' : State} {locs : List Loc} {cells slots : Nat} {Q : Option Value → Heap → List Loc → Prop} {K N pc n t : Nat} {Ls l' : Array Slot} {st rest : List Value} {Z : State} {a0 : Array Value} {h : Heap}
/-- the walk stands at the frame g over T and comes to an end that Q allows -/
def Go (p : Program) (e : Env) (below : List Frame) (s : State) (Q : Option Value → Heap → List Loc → Prop) (K N : Nat) (T : State) (g : JFrame) : Prop :=
  ∃ s₂ o, Steps p.tables e below (T.setTop g) s₂ ∧ s₂.status = .running ∧ Ended s₂ below o ∧ ∃ v L, o = .returned v ∧ Q v s₂.heap L ∧ FrameEnd s o s₂ L K N
theorem cut {A B : Prop} (h1 : A → B) (h2 : A) : B := h1 h2
theorem go {g g' : JFrame} (h : ∀ target, Steps p.tables e below (T'.setTop g') target → Steps p.tables e below (T.setTop g) target) (F : Go p e below s Q K N T' g') : Go p e below s Q K N T g := by
  obtain ⟨s₂, o, h1, r⟩ := F
  exact ⟨s₂, o, h _ h1, r⟩
/-- a boolean as an int -/
def b (P : Prop) [Decidable P] : Int32 := if P then 1 else 0
theorem b_t {P : Prop} [Decidable P] (h : P) : b P = 1 := if_pos h
theorem b_f {P : Prop} [Decidable P] (h : ¬ P) : b P = 0 := if_neg h
theorem b_iff {P P' : Prop} [Decidable P] [Decidable P'] (h : P ↔ P') : b P = b P' := by
  by_cases q : P
  · rw [b_t q, b_t (h.mp q)]
  · rw [b_f q, b_f (fun z => q (h.mpr z))]
theorem b_inj {P P' : Prop} [Decidable P] [Decidable P'] (h : b P = b P') : P ↔ P' := by
  by_cases q : P <;> by_cases q' : P' <;> simp_all [b]
/-- a mask with one more bit, or as it is -/
def ob (P : Prop) [Decidable P] (k x : Int32) : Int32 := if P then x ||| k else x
theorem ob_t {P : Prop} [Decidable P] {k x : Int32} (h : P) : ob P k x = x ||| k := if_pos h
theorem ob_f {P : Prop} [Decidable P] {k x : Int32} (h : ¬ P) : ob P k x = x := if_neg h
theorem goB1 {P : Prop} [Decidable P] (H : Go p e below s Q K N T (mkF m pc Ls (.int (b P) :: st))) (hP : P) : Go p e below s Q K N T (mkF m pc Ls (.int 1 :: st)) := by rw [b_t hP] at H; exact H
theorem goB0 {P : Prop} [Decidable P] (H : Go p e below s Q K N T (mkF m pc Ls (.int (b P) :: st))) (hP : ¬ P) : Go p e below s Q K N T (mkF m pc Ls (.int 0 :: st)) := by rw [b_f hP] at H; exact H

theorem iloadN (X : Stand p l e R s m args below meth c T locs cells slots) (hx : p.tables.exec = Jvm.exec) {k : Fin 4} {v : Int32} (hd : decode c.code pc = .ok (.iload_n k, 1)) (hl : Ls[k.val]? = some (.val (.int v))) (hn : pc + 1 = n) (F : Go p e below s Q K N T (mkF m n Ls (.int v :: st))) : Go p e below s Q K N T (mkF m pc Ls st) := by
  subst hn
  exact go (fun _ h => XS.iloadN X.here hx rfl hd hl h) F
theorem iload (X : Stand p l e R s m args below meth c T locs cells slots) (hx : p.tables.exec = Jvm.exec) {k : Nat} {v : Int32} (hd : decode c.code pc = .ok (.iload k, 2)) (hl : Ls[k]? = some (.val (.int v))) (hn : pc + 2 = n) (F : Go p e below s Q K N T (mkF m n Ls (.int v :: st))) : Go p e below s Q K N T (mkF m pc Ls st) := by
  subst hn
  exact go (fun _ h => XS.iload X.here hx rfl hd hl h) F
theorem aloadN (X : Stand p l e R s m args below meth c T locs cells slots) (hx : p.tables.exec = Jvm.exec) {k : Fin 4} {v : Value} (hd : decode c.code pc = .ok (.aload_n k, 1)) (hl : Ls[k.val]? = some (.val v)) (hv : v.isRef = true) (hn : pc + 1 = n) (F : Go p e below s Q K N T (mkF m n Ls (v :: st))) : Go p e below s Q K N T (mkF m pc Ls st) := by
  subst hn
  exact go (fun _ h => XS.aloadN X.here hx rfl hd hl hv h) F
theorem aload (X : Stand p l e R s m args below meth c T locs cells slots) (hx : p.tables.exec = Jvm.exec) {k : Nat} {v : Value} (hd : decode c.code pc = .ok (.aload k, 2)) (hl : Ls[k]? = some (.val v)) (hv : v.isRef = true) (hn : pc + 2 = n) (F : Go p e below s Q K N T (mkF m n Ls (v :: st))) : Go p e below s Q K N T (mkF m pc Ls st) := by
  subst hn
  exact go (fun _ h => XS.aload X.here hx rfl hd hl hv h) F
theorem lloadN (X : Stand p l e R s m args below meth c T locs cells slots) (hx : p.tables.exec = Jvm.exec) {k : Fin 4} {v : Int64} (hd : decode c.code pc = .ok (.lload_n k, 1)) (hl : Ls[k.val]? = some (.val (.long v))) (hn : pc + 1 = n) (F : Go p e below s Q K N T (mkF m n Ls (.long v :: st))) : Go p e below s Q K N T (mkF m pc Ls st) := by
  subst hn
  exact go (fun _ h => XT.lloadN X.here hx rfl hd hl h) F
theorem lload (X : Stand p l e R s m args below meth c T locs cells slots) (hx : p.tables.exec = Jvm.exec) {k : Nat} {v : Int64} (hd : decode c.code pc = .ok (.lload k, 2)) (hl : Ls[k]? = some (.val (.long v))) (hn : pc + 2 = n) (F : Go p e below s Q K N T (mkF m n Ls (.long v :: st))) : Go p e below s Q K N T (mkF m pc Ls st) := by
  subst hn
  exact go (fun _ h => XT.lload X.here hx rfl hd hl h) F
theorem istoreN (X : Stand p l e R s m args below meth c T locs cells slots) (hx : p.tables.exec = Jvm.exec) {k : Fin 4} {x : Int32} (hd : decode c.code pc = .ok (.istore_n k, 1)) (hl : storeLocals Ls k.val (.int x) = some l') (hn : pc + 1 = n) (F : Go p e below s Q K N T (mkF m n l' st)) : Go p e below s Q K N T (mkF m pc Ls (.int x :: st)) := by
  subst hn
  exact go (fun _ h => XS.istoreN X.here hx rfl hd rfl hl h) F
theorem istore (X : Stand p l e R s m args below meth c T locs cells slots) (hx : p.tables.exec = Jvm.exec) {k : Nat} {x : Int32} (hd : decode c.code pc = .ok (.istore k, 2)) (hl : storeLocals Ls k (.int x) = some l') (hn : pc + 2 = n) (F : Go p e below s Q K N T (mkF m n l' st)) : Go p e below s Q K N T (mkF m pc Ls (.int x :: st)) := by
  subst hn
  exact go (fun _ h => XS.istore X.here hx rfl hd rfl hl h) F
theorem astoreN (X : Stand p l e R s m args below meth c T locs cells slots) (hx : p.tables.exec = Jvm.exec) {k : Fin 4} {x : Value} (hd : decode c.code pc = .ok (.astore_n k, 1)) (hv : x.isRef = true) (hl : storeLocals Ls k.val x = some l') (hn : pc + 1 = n) (F : Go p e below s Q K N T (mkF m n l' st)) : Go p e below s Q K N T (mkF m pc Ls (x :: st)) := by
  subst hn
  exact go (fun _ h => XS.astoreN X.here hx rfl hd rfl hv hl h) F
theorem astore (X : Stand p l e R s m args below meth c T locs cells slots) (hx : p.tables.exec = Jvm.exec) {k : Nat} {x : Value} (hd : decode c.code pc = .ok (.astore k, 2)) (hv : x.isRef = true) (hl : storeLocals Ls k x = some l') (hn : pc + 2 = n) (F : Go p e below s Q K N T (mkF m n l' st)) : Go p e below s Q K N T (mkF m pc Ls (x :: st)) := by
  subst hn
  exact go (fun _ h => XS.astore X.here hx rfl hd rfl hv hl h) F
theorem lstoreN (X : Stand p l e R s m args below meth c T locs cells slots) (hx : p.tables.exec = Jvm.exec) {k : Fin 4} {x : Int64} (hd : decode c.code pc = .ok (.lstore_n k, 1)) (hl : storeLocals Ls k.val (.long x) = some l') (hn : pc + 1 = n) (F : Go p e below s Q K N T (mkF m n l' st)) : Go p e below s Q K N T (mkF m pc Ls (.long x :: st)) := by
  subst hn
  exact go (fun _ h => XT.lstoreN X.here hx rfl hd rfl hl h) F
theorem lstore (X : Stand p l e R s m args below meth c T locs cells slots) (hx : p.tables.exec = Jvm.exec) {k : Nat} {x : Int64} (hd : decode c.code pc = .ok (.lstore k, 2)) (hl : storeLocals Ls k (.long x) = some l') (hn : pc + 2 = n) (F : Go p e below s Q K N T (mkF m n l' st)) : Go p e below s Q K N T (mkF m pc Ls (.long x :: st)) := by
  subst hn
  exact go (fun _ h => XT.lstore X.here hx rfl hd rfl hl h) F
theorem iinc (X : Stand p l e R s m args below meth c T locs cells slots) (hx : p.tables.exec = Jvm.exec) {k : Nat} {cst : Int} {x : Int32} (v : Int32) (hd : decode c.code pc = .ok (.iinc k cst, 3)) (hv : Int32.ofInt cst = v) (hl : Ls[k]? = some (.val (.int x))) (hl' : storeLocals Ls k (.int (x + v)) = some l') (hn : pc + 3 = n) (F : Go p e below s Q K N T (mkF m n l' st)) : Go p e below s Q K N T (mkF m pc Ls st) := by
  subst hn
  exact go (fun _ h => XT.iincV X.here hx rfl v hd hv hl hl' h) F
theorem iconst (X : Stand p l e R s m args below meth c T locs cells slots) (hx : p.tables.exec = Jvm.exec) {i : Int} (v : Int32) (hd : decode c.code pc = .ok (.iconst i, 1)) (hv : Int32.ofInt i = v) (hn : pc + 1 = n) (F : Go p e below s Q K N T (mkF m n Ls (.int v :: st))) : Go p e below s Q K N T (mkF m pc Ls st) := by
  subst hn
  exact go (fun _ h => XT.iconstV X.here hx rfl v hd hv h) F
theorem bipush (X : Stand p l e R s m args below meth c T locs cells slots) (hx : p.tables.exec = Jvm.exec) {i : Int} (v : Int32) (hd : decode c.code pc = .ok (.bipush i, 2)) (hv : (Int8.ofInt i).toInt32 = v) (hn : pc + 2 = n) (F : Go p e below s Q K N T (mkF m n Ls (.int v :: st))) : Go p e below s Q K N T (mkF m pc Ls st) := by
  subst hn
  exact go (fun _ h => XT.bipushV X.here hx rfl v hd hv h) F
theorem sipush (X : Stand p l e R s m args below meth c T locs cells slots) (hx : p.tables.exec = Jvm.exec) {i : Int} (v : Int32) (hd : decode c.code pc = .ok (.sipush i, 3)) (hv : (Int16.ofInt i).toInt32 = v) (hn : pc + 3 = n) (F : Go p e below s Q K N T (mkF m n Ls (.int v :: st))) : Go p e below s Q K N T (mkF m pc Ls st) := by
  subst hn
  exact go (fun _ h => XT.sipushV X.here hx rfl v hd hv h) F
theorem lconst (X : Stand p l e R s m args below meth c T locs cells slots) (hx : p.tables.exec = Jvm.exec) {k : Fin 2} (v : Int64) (hd : decode c.code pc = .ok (.lconst k, 1)) (hv : Int64.ofNat k = v) (hn : pc + 1 = n) (F : Go p e below s Q K N T (mkF m n Ls (.long v :: st))) : Go p e below s Q K N T (mkF m pc Ls st) := by
  subst hn
  exact go (fun _ h => XT.lconstV X.here hx rfl v hd hv h) F
theorem anull (X : Stand p l e R s m args below meth c T locs cells slots) (hx : p.tables.exec = Jvm.exec)  (hd : decode c.code pc = .ok (.aconst_null, 1)) (hn : pc + 1 = n) (F : Go p e below s Q K N T (mkF m n Ls (.null :: st))) : Go p e below s Q K N T (mkF m pc Ls st) := by
  subst hn
  exact go (fun _ h => XS.aconstNull X.here hx rfl hd h) F
theorem ldcI (X : Stand p l e R s m args below meth c T locs cells slots) (hx : p.tables.exec = Jvm.exec) {own : String} {index : Nat} {v : Int32} (hZ : Z.Warmed39 s.vm) (hown : s.vm.findClass own = some m.cls) (wd : (Cond.constant own index v).before a0 Z = true) (hd : decode c.code pc = .ok (.ldc index, 2)) (hn : pc + 2 = n) (F : Go p e below s Q K N T (mkF m n Ls (.int v :: st))) : Go p e below s Q K N T (mkF m pc Ls st) := by
  subst hn
  exact go (fun _ h => X.ldcInt hx hown (mvT hZ wd) (g := mkF m pc Ls st) rfl hd _ h) F
theorem ldcW (X : Stand p l e R s m args below meth c T locs cells slots) (hx : p.tables.exec = Jvm.exec) {own : String} {index : Nat} {v : Int32} (hZ : Z.Warmed39 s.vm) (hown : s.vm.findClass own = some m.cls) (wd : (Cond.constant own index v).before a0 Z = true) (hd : decode c.code pc = .ok (.ldc_w index, 3)) (hn : pc + 3 = n) (F : Go p e below s Q K N T (mkF m n Ls (.int v :: st))) : Go p e below s Q K N T (mkF m pc Ls st) := by
  subst hn
  exact go (fun _ h => X.ldcwInt hx hown (mvT hZ wd) (g := mkF m pc Ls st) rfl hd _ h) F
theorem ldcJ (X : Stand p l e R s m args below meth c T locs cells slots) (hx : p.tables.exec = Jvm.exec) {own : String} {index : Nat} {v : Int64} (hZ : Z.Warmed39 s.vm) (hown : s.vm.findClass own = some m.cls) (wd : (Cond.constantLong own index v).before a0 Z = true) (hd : decode c.code pc = .ok (.ldc2_w index, 3)) (hn : pc + 3 = n) (F : Go p e below s Q K N T (mkF m n Ls (.long v :: st))) : Go p e below s Q K N T (mkF m pc Ls st) := by
  subst hn
  exact go (fun _ h => X.ldc2Long hx hown (mvT hZ wd) (g := mkF m pc Ls st) rfl hd _ h) F
theorem iadd (X : Stand p l e R s m args below meth c T locs cells slots) (hx : p.tables.exec = Jvm.exec) {x y : Int32} (hd : decode c.code pc = .ok (.iadd, 1)) (hn : pc + 1 = n) (F : Go p e below s Q K N T (mkF m n Ls (.int (x + y) :: st))) : Go p e below s Q K N T (mkF m pc Ls (.int y :: .int x :: st)) := by
  subst hn
  exact go (fun _ h => XS.iadd X.here hx rfl hd rfl h) F
theorem isub (X : Stand p l e R s m args below meth c T locs cells slots) (hx : p.tables.exec = Jvm.exec) {x y : Int32} (hd : decode c.code pc = .ok (.isub, 1)) (hn : pc + 1 = n) (F : Go p e below s Q K N T (mkF m n Ls (.int (x - y) :: st))) : Go p e below s Q K N T (mkF m pc Ls (.int y :: .int x :: st)) := by
  subst hn
  exact go (fun _ h => XS.isub X.here hx rfl hd rfl h) F
theorem iand (X : Stand p l e R s m args below meth c T locs cells slots) (hx : p.tables.exec = Jvm.exec) {x y : Int32} (hd : decode c.code pc = .ok (.iand, 1)) (hn : pc + 1 = n) (F : Go p e below s Q K N T (mkF m n Ls (.int (x &&& y) :: st))) : Go p e below s Q K N T (mkF m pc Ls (.int y :: .int x :: st)) := by
  subst hn
  exact go (fun _ h => XS.iand X.here hx rfl hd rfl h) F
theorem imul (X : Stand p l e R s m args below meth c T locs cells slots) (hx : p.tables.exec = Jvm.exec) {x y : Int32} (hd : decode c.code pc = .ok (.imul, 1)) (hn : pc + 1 = n) (F : Go p e below s Q K N T (mkF m n Ls (.int (x * y) :: st))) : Go p e below s Q K N T (mkF m pc Ls (.int y :: .int x :: st)) := by
  subst hn
  exact go (fun _ h => XS.imul X.here hx rfl hd rfl h) F
theorem ixor (X : Stand p l e R s m args below meth c T locs cells slots) (hx : p.tables.exec = Jvm.exec) {x y : Int32} (hd : decode c.code pc = .ok (.ixor, 1)) (hn : pc + 1 = n) (F : Go p e below s Q K N T (mkF m n Ls (.int (x ^^^ y) :: st))) : Go p e below s Q K N T (mkF m pc Ls (.int y :: .int x :: st)) := by
  subst hn
  exact go (fun _ h => XT.ixor X.here hx rfl hd rfl h) F
theorem ior (X : Stand p l e R s m args below meth c T locs cells slots) (hx : p.tables.exec = Jvm.exec) {x y : Int32} (hd : decode c.code pc = .ok (.ior, 1)) (hn : pc + 1 = n) (F : Go p e below s Q K N T (mkF m n Ls (.int (x ||| y) :: st))) : Go p e below s Q K N T (mkF m pc Ls (.int y :: .int x :: st)) := by
  subst hn
  exact go (fun _ h => XT.ior X.here hx rfl hd rfl h) F
theorem i2c (X : Stand p l e R s m args below meth c T locs cells slots) (hx : p.tables.exec = Jvm.exec) {x : Int32} (hd : decode c.code pc = .ok (.i2c, 1)) (hn : pc + 1 = n) (F : Go p e below s Q K N T (mkF m n Ls (.int x.toUInt32.toUInt16.toUInt32.toInt32 :: st))) : Go p e below s Q K N T (mkF m pc Ls (.int x :: st)) := by
  subst hn
  exact go (fun _ h => XT.i2c X.here hx rfl hd rfl h) F
theorem i2b (X : Stand p l e R s m args below meth c T locs cells slots) (hx : p.tables.exec = Jvm.exec) {x : Int32} (hd : decode c.code pc = .ok (.i2b, 1)) (hn : pc + 1 = n) (F : Go p e below s Q K N T (mkF m n Ls (.int x.toInt8.toInt32 :: st))) : Go p e below s Q K N T (mkF m pc Ls (.int x :: st)) := by
  subst hn
  exact go (fun _ h => XT.i2b X.here hx rfl hd rfl h) F
theorem i2l (X : Stand p l e R s m args below meth c T locs cells slots) (hx : p.tables.exec = Jvm.exec) {x : Int32} (hd : decode c.code pc = .ok (.i2l, 1)) (hn : pc + 1 = n) (F : Go p e below s Q K N T (mkF m n Ls (.long x.toInt64 :: st))) : Go p e below s Q K N T (mkF m pc Ls (.int x :: st)) := by
  subst hn
  exact go (fun _ h => XT.i2l X.here hx rfl hd rfl h) F
theorem l2i (X : Stand p l e R s m args below meth c T locs cells slots) (hx : p.tables.exec = Jvm.exec) {x : Int64} (hd : decode c.code pc = .ok (.l2i, 1)) (hn : pc + 1 = n) (F : Go p e below s Q K N T (mkF m n Ls (.int x.toInt32 :: st))) : Go p e below s Q K N T (mkF m pc Ls (.long x :: st)) := by
  subst hn
  exact go (fun _ h => XT.l2i X.here hx rfl hd rfl h) F
theorem ladd (X : Stand p l e R s m args below meth c T locs cells slots) (hx : p.tables.exec = Jvm.exec) {x y : Int64} (hd : decode c.code pc = .ok (.ladd, 1)) (hn : pc + 1 = n) (F : Go p e below s Q K N T (mkF m n Ls (.long (x + y) :: st))) : Go p e below s Q K N T (mkF m pc Ls (.long y :: .long x :: st)) := by
  subst hn
  exact go (fun _ h => XT.ladd X.here hx rfl hd rfl h) F
theorem lsub (X : Stand p l e R s m args below meth c T locs cells slots) (hx : p.tables.exec = Jvm.exec) {x y : Int64} (hd : decode c.code pc = .ok (.lsub, 1)) (hn : pc + 1 = n) (F : Go p e below s Q K N T (mkF m n Ls (.long (x - y) :: st))) : Go p e below s Q K N T (mkF m pc Ls (.long y :: .long x :: st)) := by
  subst hn
  exact go (fun _ h => XT.lsub X.here hx rfl hd rfl h) F
theorem lmul (X : Stand p l e R s m args below meth c T locs cells slots) (hx : p.tables.exec = Jvm.exec) {x y : Int64} (hd : decode c.code pc = .ok (.lmul, 1)) (hn : pc + 1 = n) (F : Go p e below s Q K N T (mkF m n Ls (.long (x * y) :: st))) : Go p e below s Q K N T (mkF m pc Ls (.long y :: .long x :: st)) := by
  subst hn
  exact go (fun _ h => XT.lmul X.here hx rfl hd rfl h) F
theorem land (X : Stand p l e R s m args below meth c T locs cells slots) (hx : p.tables.exec = Jvm.exec) {x y : Int64} (hd : decode c.code pc = .ok (.land, 1)) (hn : pc + 1 = n) (F : Go p e below s Q K N T (mkF m n Ls (.long (x &&& y) :: st))) : Go p e below s Q K N T (mkF m pc Ls (.long y :: .long x :: st)) := by
  subst hn
  exact go (fun _ h => XT.land X.here hx rfl hd rfl h) F
theorem lor (X : Stand p l e R s m args below meth c T locs cells slots) (hx : p.tables.exec = Jvm.exec) {x y : Int64} (hd : decode c.code pc = .ok (.lor, 1)) (hn : pc + 1 = n) (F : Go p e below s Q K N T (mkF m n Ls (.long (x ||| y) :: st))) : Go p e below s Q K N T (mkF m pc Ls (.long y :: .long x :: st)) := by
  subst hn
  exact go (fun _ h => XT.lor X.here hx rfl hd rfl h) F
theorem lxor (X : Stand p l e R s m args below meth c T locs cells slots) (hx : p.tables.exec = Jvm.exec) {x y : Int64} (hd : decode c.code pc = .ok (.lxor, 1)) (hn : pc + 1 = n) (F : Go p e below s Q K N T (mkF m n Ls (.long (x ^^^ y) :: st))) : Go p e below s Q K N T (mkF m pc Ls (.long y :: .long x :: st)) := by
  subst hn
  exact go (fun _ h => XT.lxor X.here hx rfl hd rfl h) F
theorem irem (X : Stand p l e R s m args below meth c T locs cells slots) (hx : p.tables.exec = Jvm.exec) {x y : Int32} (hd : decode c.code pc = .ok (.irem, 1)) (hy : y ≠ 0) (hn : pc + 1 = n) (F : Go p e below s Q K N T (mkF m n Ls (.int (x % y) :: st))) : Go p e below s Q K N T (mkF m pc Ls (.int y :: .int x :: st)) := by
  subst hn
  exact go (fun _ h => iremM X hx rfl hd rfl hy h) F
theorem idiv (X : Stand p l e R s m args below meth c T locs cells slots) (hx : p.tables.exec = Jvm.exec) {x y : Int32} (hd : decode c.code pc = .ok (.idiv, 1)) (hy : y ≠ 0) (hn : pc + 1 = n) (F : Go p e below s Q K N T (mkF m n Ls (.int (x / y) :: st))) : Go p e below s Q K N T (mkF m pc Ls (.int y :: .int x :: st)) := by
  subst hn
  exact go (fun _ h => XS.idiv X.here hx rfl hd rfl hy h) F
theorem dup (X : Stand p l e R s m args below meth c T locs cells slots) (hx : p.tables.exec = Jvm.exec) {x : Value} (hd : decode c.code pc = .ok (.dup, 1)) (hc : x.category = 1) (hn : pc + 1 = n) (F : Go p e below s Q K N T (mkF m n Ls (x :: x :: st))) : Go p e below s Q K N T (mkF m pc Ls (x :: st)) := by
  subst hn
  exact go (fun _ h => XS.dup X.here hx rfl hd rfl hc h) F
theorem pop (X : Stand p l e R s m args below meth c T locs cells slots) (hx : p.tables.exec = Jvm.exec) {x : Value} (hd : decode c.code pc = .ok (.pop, 1)) (hc : x.category = 1) (hn : pc + 1 = n) (F : Go p e below s Q K N T (mkF m n Ls st)) : Go p e below s Q K N T (mkF m pc Ls (x :: st)) := by
  subst hn
  exact go (fun _ h => XT.pop X.here hx rfl hd rfl hc h) F
theorem pop2L (X : Stand p l e R s m args below meth c T locs cells slots) (hx : p.tables.exec = Jvm.exec) {x : Int64} (hd : decode c.code pc = .ok (.pop2, 1)) (hn : pc + 1 = n) (F : Go p e below s Q K N T (mkF m n Ls st)) : Go p e below s Q K N T (mkF m pc Ls (.long x :: st)) := by
  subst hn
  refine go (fun _ h => ?_) F
  have ht := X.here
  jvm_step ht [ht.top, hx, hd, Value.category]
  exact h
theorem lshl (X : Stand p l e R s m args below meth c T locs cells slots) (hx : p.tables.exec = Jvm.exec) {x : Int64} {y : Int32} (hd : decode c.code pc = .ok (.lshl, 1)) (hn : pc + 1 = n) (F : Go p e below s Q K N T (mkF m n Ls (.long (x <<< (y.toInt64 &&& 63)) :: st))) : Go p e below s Q K N T (mkF m pc Ls (.int y :: .long x :: st)) := by
  subst hn
  exact go (fun _ h => XT.lshl X.here hx rfl hd rfl h) F
theorem lushr (X : Stand p l e R s m args below meth c T locs cells slots) (hx : p.tables.exec = Jvm.exec) {x : Int64} {y : Int32} (hd : decode c.code pc = .ok (.lushr, 1)) (hn : pc + 1 = n) (F : Go p e below s Q K N T (mkF m n Ls (.long (XT.ushrL x y) :: st))) : Go p e below s Q K N T (mkF m pc Ls (.int y :: .long x :: st)) := by
  subst hn
  exact go (fun _ h => XT.lushr X.here hx rfl hd rfl h) F
theorem iushr (X : Stand p l e R s m args below meth c T locs cells slots) (hx : p.tables.exec = Jvm.exec) {x y : Int32} (hd : decode c.code pc = .ok (.iushr, 1)) (hn : pc + 1 = n) (F : Go p e below s Q K N T (mkF m n Ls (.int (XT.ushr x y) :: st))) : Go p e below s Q K N T (mkF m pc Ls (.int y :: .int x :: st)) := by
  subst hn
  exact go (fun _ h => XT.iushr X.here hx rfl hd rfl h) F
theorem ishr (X : Stand p l e R s m args below meth c T locs cells slots) (hx : p.tables.exec = Jvm.exec) {x y : Int32} (hd : decode c.code pc = .ok (.ishr, 1)) (hn : pc + 1 = n) (F : Go p e below s Q K N T (mkF m n Ls (.int (x >>> (y &&& 31)) :: st))) : Go p e below s Q K N T (mkF m pc Ls (.int y :: .int x :: st)) := by
  subst hn
  exact go (fun _ h => XT.ishr X.here hx rfl hd rfl h) F
theorem ishl (X : Stand p l e R s m args below meth c T locs cells slots) (hx : p.tables.exec = Jvm.exec) {x y : Int32} (hd : decode c.code pc = .ok (.ishl, 1)) (hn : pc + 1 = n) (F : Go p e below s Q K N T (mkF m n Ls (.int (x <<< (y &&& 31)) :: st))) : Go p e below s Q K N T (mkF m pc Ls (.int y :: .int x :: st)) := by
  subst hn
  exact go (fun _ h => XT.ishl X.here hx rfl hd rfl h) F
theorem i2s (X : Stand p l e R s m args below meth c T locs cells slots) (hx : p.tables.exec = Jvm.exec) {x : Int32} (hd : decode c.code pc = .ok (.i2s, 1)) (hn : pc + 1 = n) (F : Go p e below s Q K N T (mkF m n Ls (.int x.toInt16.toInt32 :: st))) : Go p e below s Q K N T (mkF m pc Ls (.int x :: st)) := by
  subst hn
  exact go (fun _ h => XT.i2s X.here hx rfl hd rfl h) F
theorem goto (X : Stand p l e R s m args below meth c T locs cells slots) (hx : p.tables.exec = Jvm.exec) {o : Int} (t : Nat) (hd : decode c.code pc = .ok (.goto o, 3)) (ht : (pc : Int) + o = t) (F : Go p e below s Q K N T (mkF m t Ls st)) : Go p e below s Q K N T (mkF m pc Ls st) := go (fun _ h => XS.goto X.here hx rfl (pc0 := pc) (pc' := t) rfl hd (by rw [ht]; exact Int.natCast_nonneg _) (by rw [ht]; rfl) h) F
theorem holds_t {cd : ClassFile.Cond} {x y : Int32} : if_icmp.holds cd x y = true ↔ match cd with | .eq => x.toInt = y.toInt | .ne => ¬ x.toInt = y.toInt | .lt => x.toInt < y.toInt | .ge => y.toInt ≤ x.toInt | .gt => y.toInt < x.toInt | .le => x.toInt ≤ y.toInt := by
  cases cd <;> simp [if_icmp.holds, Int32.lt_iff_toInt_lt, Int32.le_iff_toInt_le, Int32.toInt_inj]
theorem icmp (X : Stand p l e R s m args below meth c T locs cells slots) (hx : p.tables.exec = Jvm.exec) {cd : ClassFile.Cond} {x y : Int32} {o : Int} (hd : decode c.code pc = .ok (.if_icmp cd o, 3)) (ht : (pc : Int) + o = t) (hn : pc + 3 = n) (FT : if_icmp.holds cd x y = true → Go p e below s Q K N T (mkF m t Ls rest)) (FF : ¬ if_icmp.holds cd x y = true → Go p e below s Q K N T (mkF m n Ls rest)) : Go p e below s Q K N T (mkF m pc Ls (.int y :: .int x :: rest)) := by
  subst hn
  by_cases q : if_icmp.holds cd x y = true
  · exact go (fun _ h => XS.icmpYes X.here hx rfl (pc0 := pc) (pc' := t) rfl hd rfl q (by rw [ht]; exact Int.natCast_nonneg _) (by rw [ht]; rfl) h) (FT q)
  · exact go (fun _ h => XS.icmpNo X.here hx rfl hd rfl (by simpa using q) h) (FF q)
theorem ifc (X : Stand p l e R s m args below meth c T locs cells slots) (hx : p.tables.exec = Jvm.exec) {cd : ClassFile.Cond} {x : Int32} {o : Int} (hd : decode c.code pc = .ok (.ifCond cd o, 3)) (ht : (pc : Int) + o = t) (hn : pc + 3 = n) (FT : if_icmp.holds cd x 0 = true → Go p e below s Q K N T (mkF m t Ls rest)) (FF : ¬ if_icmp.holds cd x 0 = true → Go p e below s Q K N T (mkF m n Ls rest)) : Go p e below s Q K N T (mkF m pc Ls (.int x :: rest)) := by
  subst hn
  by_cases q : if_icmp.holds cd x 0 = true
  · exact go (fun _ h => XS.ifYes X.here hx rfl (pc0 := pc) (pc' := t) rfl hd rfl ((if0 _ _).trans q) (by rw [ht]; exact Int.natCast_nonneg _) (by rw [ht]; rfl) h) (FT q)
  · exact go (fun _ h => XS.ifNo X.here hx rfl hd rfl ((if0 _ _).trans (by simpa using q)) h) (FF q)
theorem icmp_eq (X : Stand p l e R s m args below meth c T locs cells slots) (hx : p.tables.exec = Jvm.exec) {x y : Int32} {o : Int} (t n : Nat) (hd : decode c.code pc = .ok (.if_icmp .eq o, 3)) (ht : (pc : Int) + o = t) (hn : pc + 3 = n) {a b' : Int} (ha : x.toInt = a) (hb : y.toInt = b') (FT : a = b' → Go p e below s Q K N T (mkF m t Ls rest)) (FF : ¬ a = b' → Go p e below s Q K N T (mkF m n Ls rest)) : Go p e below s Q K N T (mkF m pc Ls (.int y :: .int x :: rest)) := by
  subst ha hb
  exact icmp X hx hd ht hn (fun q => FT (holds_t.mp q)) (fun q => FF (by have := mt holds_t.mpr q; first | exact this | exact Int.not_lt.mp this | exact Int.not_le.mp this | exact Classical.not_not.mp this))
theorem if_eq (X : Stand p l e R s m args below meth c T locs cells slots) (hx : p.tables.exec = Jvm.exec) {x : Int32} {o : Int} (t n : Nat) (hd : decode c.code pc = .ok (.ifCond .eq o, 3)) (ht : (pc : Int) + o = t) (hn : pc + 3 = n) {a : Int} (ha : x.toInt = a) (FT : a = 0 → Go p e below s Q K N T (mkF m t Ls rest)) (FF : ¬ a = 0 → Go p e below s Q K N T (mkF m n Ls rest)) : Go p e below s Q K N T (mkF m pc Ls (.int x :: rest)) := by
  subst ha
  exact ifc X hx hd ht hn (fun q => FT (holds_t.mp q)) (fun q => FF (by have := mt holds_t.mpr q; first | exact this | exact Int.not_lt.mp this | exact Int.not_le.mp this | exact Classical.not_not.mp this))
theorem icmp_ne (X : Stand p l e R s m args below meth c T locs cells slots) (hx : p.tables.exec = Jvm.exec) {x y : Int32} {o : Int} (t n : Nat) (hd : decode c.code pc = .ok (.if_icmp .ne o, 3)) (ht : (pc : Int) + o = t) (hn : pc + 3 = n) {a b' : Int} (ha : x.toInt = a) (hb : y.toInt = b') (FT : ¬ a = b' → Go p e below s Q K N T (mkF m t Ls rest)) (FF : a = b' → Go p e below s Q K N T (mkF m n Ls rest)) : Go p e below s Q K N T (mkF m pc Ls (.int y :: .int x :: rest)) := by
  subst ha hb
  exact icmp X hx hd ht hn (fun q => FT (holds_t.mp q)) (fun q => FF (by have := mt holds_t.mpr q; first | exact this | exact Int.not_lt.mp this | exact Int.not_le.mp this | exact Classical.not_not.mp this))
theorem if_ne (X : Stand p l e R s m args below meth c T locs cells slots) (hx : p.tables.exec = Jvm.exec) {x : Int32} {o : Int} (t n : Nat) (hd : decode c.code pc = .ok (.ifCond .ne o, 3)) (ht : (pc : Int) + o = t) (hn : pc + 3 = n) {a : Int} (ha : x.toInt = a) (FT : ¬ a = 0 → Go p e below s Q K N T (mkF m t Ls rest)) (FF : a = 0 → Go p e below s Q K N T (mkF m n Ls rest)) : Go p e below s Q K N T (mkF m pc Ls (.int x :: rest)) := by
  subst ha
  exact ifc X hx hd ht hn (fun q => FT (holds_t.mp q)) (fun q => FF (by have := mt holds_t.mpr q; first | exact this | exact Int.not_lt.mp this | exact Int.not_le.mp this | exact Classical.not_not.mp this))
theorem icmp_lt (X : Stand p l e R s m args below meth c T locs cells slots) (hx : p.tables.exec = Jvm.exec) {x y : Int32} {o : Int} (t n : Nat) (hd : decode c.code pc = .ok (.if_icmp .lt o, 3)) (ht : (pc : Int) + o = t) (hn : pc + 3 = n) {a b' : Int} (ha : x.toInt = a) (hb : y.toInt = b') (FT : a < b' → Go p e below s Q K N T (mkF m t Ls rest)) (FF : b' ≤ a → Go p e below s Q K N T (mkF m n Ls rest)) : Go p e below s Q K N T (mkF m pc Ls (.int y :: .int x :: rest)) := by
  subst ha hb
  exact icmp X hx hd ht hn (fun q => FT (holds_t.mp q)) (fun q => FF (by have := mt holds_t.mpr q; first | exact this | exact Int.not_lt.mp this | exact Int.not_le.mp this | exact Classical.not_not.mp this))
theorem if_lt (X : Stand p l e R s m args below meth c T locs cells slots) (hx : p.tables.exec = Jvm.exec) {x : Int32} {o : Int} (t n : Nat) (hd : decode c.code pc = .ok (.ifCond .lt o, 3)) (ht : (pc : Int) + o = t) (hn : pc + 3 = n) {a : Int} (ha : x.toInt = a) (FT : a < 0 → Go p e below s Q K N T (mkF m t Ls rest)) (FF : 0 ≤ a → Go p e below s Q K N T (mkF m n Ls rest)) : Go p e below s Q K N T (mkF m pc Ls (.int x :: rest)) := by
  subst ha
  exact ifc X hx hd ht hn (fun q => FT (holds_t.mp q)) (fun q => FF (by have := mt holds_t.mpr q; first | exact this | exact Int.not_lt.mp this | exact Int.not_le.mp this | exact Classical.not_not.mp this))
theorem icmp_ge (X : Stand p l e R s m args below meth c T locs cells slots) (hx : p.tables.exec = Jvm.exec) {x y : Int32} {o : Int} (t n : Nat) (hd : decode c.code pc = .ok (.if_icmp .ge o, 3)) (ht : (pc : Int) + o = t) (hn : pc + 3 = n) {a b' : Int} (ha : x.toInt = a) (hb : y.toInt = b') (FT : b' ≤ a → Go p e below s Q K N T (mkF m t Ls rest)) (FF : a < b' → Go p e below s Q K N T (mkF m n Ls rest)) : Go p e below s Q K N T (mkF m pc Ls (.int y :: .int x :: rest)) := by
  subst ha hb
  exact icmp X hx hd ht hn (fun q => FT (holds_t.mp q)) (fun q => FF (by have := mt holds_t.mpr q; first | exact this | exact Int.not_lt.mp this | exact Int.not_le.mp this | exact Classical.not_not.mp this))
theorem if_ge (X : Stand p l e R s m args below meth c T locs cells slots) (hx : p.tables.exec = Jvm.exec) {x : Int32} {o : Int} (t n : Nat) (hd : decode c.code pc = .ok (.ifCond .ge o, 3)) (ht : (pc : Int) + o = t) (hn : pc + 3 = n) {a : Int} (ha : x.toInt = a) (FT : 0 ≤ a → Go p e below s Q K N T (mkF m t Ls rest)) (FF : a < 0 → Go p e below s Q K N T (mkF m n Ls rest)) : Go p e below s Q K N T (mkF m pc Ls (.int x :: rest)) := by
  subst ha
  exact ifc X hx hd ht hn (fun q => FT (holds_t.mp q)) (fun q => FF (by have := mt holds_t.mpr q; first | exact this | exact Int.not_lt.mp this | exact Int.not_le.mp this | exact Classical.not_not.mp this))
theorem icmp_gt (X : Stand p l e R s m args below meth c T locs cells slots) (hx : p.tables.exec = Jvm.exec) {x y : Int32} {o : Int} (t n : Nat) (hd : decode c.code pc = .ok (.if_icmp .gt o, 3)) (ht : (pc : Int) + o = t) (hn : pc + 3 = n) {a b' : Int} (ha : x.toInt = a) (hb : y.toInt = b') (FT : b' < a → Go p e below s Q K N T (mkF m t Ls rest)) (FF : a ≤ b' → Go p e below s Q K N T (mkF m n Ls rest)) : Go p e below s Q K N T (mkF m pc Ls (.int y :: .int x :: rest)) := by
  subst ha hb
  exact icmp X hx hd ht hn (fun q => FT (holds_t.mp q)) (fun q => FF (by have := mt holds_t.mpr q; first | exact this | exact Int.not_lt.mp this | exact Int.not_le.mp this | exact Classical.not_not.mp this))
theorem if_gt (X : Stand p l e R s m args below meth c T locs cells slots) (hx : p.tables.exec = Jvm.exec) {x : Int32} {o : Int} (t n : Nat) (hd : decode c.code pc = .ok (.ifCond .gt o, 3)) (ht : (pc : Int) + o = t) (hn : pc + 3 = n) {a : Int} (ha : x.toInt = a) (FT : 0 < a → Go p e below s Q K N T (mkF m t Ls rest)) (FF : a ≤ 0 → Go p e below s Q K N T (mkF m n Ls rest)) : Go p e below s Q K N T (mkF m pc Ls (.int x :: rest)) := by
  subst ha
  exact ifc X hx hd ht hn (fun q => FT (holds_t.mp q)) (fun q => FF (by have := mt holds_t.mpr q; first | exact this | exact Int.not_lt.mp this | exact Int.not_le.mp this | exact Classical.not_not.mp this))
theorem icmp_le (X : Stand p l e R s m args below meth c T locs cells slots) (hx : p.tables.exec = Jvm.exec) {x y : Int32} {o : Int} (t n : Nat) (hd : decode c.code pc = .ok (.if_icmp .le o, 3)) (ht : (pc : Int) + o = t) (hn : pc + 3 = n) {a b' : Int} (ha : x.toInt = a) (hb : y.toInt = b') (FT : a ≤ b' → Go p e below s Q K N T (mkF m t Ls rest)) (FF : b' < a → Go p e below s Q K N T (mkF m n Ls rest)) : Go p e below s Q K N T (mkF m pc Ls (.int y :: .int x :: rest)) := by
  subst ha hb
  exact icmp X hx hd ht hn (fun q => FT (holds_t.mp q)) (fun q => FF (by have := mt holds_t.mpr q; first | exact this | exact Int.not_lt.mp this | exact Int.not_le.mp this | exact Classical.not_not.mp this))
theorem if_le (X : Stand p l e R s m args below meth c T locs cells slots) (hx : p.tables.exec = Jvm.exec) {x : Int32} {o : Int} (t n : Nat) (hd : decode c.code pc = .ok (.ifCond .le o, 3)) (ht : (pc : Int) + o = t) (hn : pc + 3 = n) {a : Int} (ha : x.toInt = a) (FT : a ≤ 0 → Go p e below s Q K N T (mkF m t Ls rest)) (FF : 0 < a → Go p e below s Q K N T (mkF m n Ls rest)) : Go p e below s Q K N T (mkF m pc Ls (.int x :: rest)) := by
  subst ha
  exact ifc X hx hd ht hn (fun q => FT (holds_t.mp q)) (fun q => FF (by have := mt holds_t.mpr q; first | exact this | exact Int.not_lt.mp this | exact Int.not_le.mp this | exact Classical.not_not.mp this))
theorem if_neB (X : Stand p l e R s m args below meth c T locs cells slots) (hx : p.tables.exec = Jvm.exec) {P : Prop} [Decidable P] {o : Int} (t n : Nat) (hd : decode c.code pc = .ok (.ifCond .ne o, 3)) (ht : (pc : Int) + o = t) (hn : pc + 3 = n) (FT : P → Go p e below s Q K N T (mkF m t Ls rest)) (FF : ¬ P → Go p e below s Q K N T (mkF m n Ls rest)) : Go p e below s Q K N T (mkF m pc Ls (.int (b P) :: rest)) := by
  refine ifc X hx hd ht hn (fun q => FT ?_) (fun q => FF ?_)
  · by_cases z : P
    · exact z
    · rw [b_f z] at q; exact absurd q (by decide)
  · intro z; rw [b_t z] at q; exact q (by decide)
theorem if_eqB (X : Stand p l e R s m args below meth c T locs cells slots) (hx : p.tables.exec = Jvm.exec) {P : Prop} [Decidable P] {o : Int} (t n : Nat) (hd : decode c.code pc = .ok (.ifCond .eq o, 3)) (ht : (pc : Int) + o = t) (hn : pc + 3 = n) (FT : ¬ P → Go p e below s Q K N T (mkF m t Ls rest)) (FF : P → Go p e below s Q K N T (mkF m n Ls rest)) : Go p e below s Q K N T (mkF m pc Ls (.int (b P) :: rest)) := by
  refine ifc X hx hd ht hn (fun q => FT ?_) (fun q => FF ?_)
  · intro z; rw [b_t z] at q; exact absurd q (by decide)
  · by_cases z : P
    · exact z
    · rw [b_f z] at q; exact absurd (by decide) q
theorem icmp_neB (X : Stand p l e R s m args below meth c T locs cells slots) (hx : p.tables.exec = Jvm.exec) {P P' : Prop} [Decidable P] [Decidable P'] {o : Int} (t n : Nat) (hd : decode c.code pc = .ok (.if_icmp .ne o, 3)) (ht : (pc : Int) + o = t) (hn : pc + 3 = n) (FT : ¬ (P ↔ P') → Go p e below s Q K N T (mkF m t Ls rest)) (FF : (P ↔ P') → Go p e below s Q K N T (mkF m n Ls rest)) : Go p e below s Q K N T (mkF m pc Ls (.int (b P') :: .int (b P) :: rest)) :=
  icmp_ne X hx t n hd ht hn rfl rfl (fun q => FT fun z => q (by rw [b_iff z])) (fun q => FF (b_inj (Int32.toInt_inj.mp q)))
theorem lcmp (X : Stand p l e R s m args below meth c T locs cells slots) (hx : p.tables.exec = Jvm.exec) {x y : Int64} (hd : decode c.code pc = .ok (.lcmp, 1)) (hn : pc + 1 = n) (F : Go p e below s Q K N T (mkF m n Ls (.int (lcmpW x y) :: st))) : Go p e below s Q K N T (mkF m pc Ls (.long y :: .long x :: st)) := by
  subst hn
  exact go (fun _ h => XT.lcmp X.here hx rfl hd rfl h) F
theorem lc_t {cd : ClassFile.Cond} {x y : Int64} : if_icmp.holds cd (lcmpW x y) 0 = true ↔ match cd with | .eq => x.toInt = y.toInt | .ne => ¬ x.toInt = y.toInt | .lt => x.toInt < y.toInt | .ge => y.toInt ≤ x.toInt | .gt => y.toInt < x.toInt | .le => x.toInt ≤ y.toInt := by
  have hgt : (x > y) ↔ y.toInt < x.toInt := Int64.lt_iff_toInt_lt
  have heq : (x = y) ↔ x.toInt = y.toInt := Int64.toInt_inj.symm
  by_cases q : x > y
  · have := hgt.mp q
    cases cd <;> simp [if_icmp.holds, lcmpW, q] <;> omega
  · have q1 := mt hgt.mpr q
    by_cases r : x = y
    · have := heq.mp r
      cases cd <;> simp [if_icmp.holds, lcmpW, r] 
    · have r1 := mt heq.mpr r
      cases cd <;> simp [if_icmp.holds, lcmpW, q, r] <;> omega
theorem lif_eq (X : Stand p l e R s m args below meth c T locs cells slots) (hx : p.tables.exec = Jvm.exec) {x y : Int64} {o : Int} (t n : Nat) (hd : decode c.code pc = .ok (.ifCond .eq o, 3)) (ht : (pc : Int) + o = t) (hn : pc + 3 = n) {a b' : Int} (ha : x.toInt = a) (hb : y.toInt = b') (FT : a = b' → Go p e below s Q K N T (mkF m t Ls rest)) (FF : ¬ a = b' → Go p e below s Q K N T (mkF m n Ls rest)) : Go p e below s Q K N T (mkF m pc Ls (.int (lcmpW x y) :: rest)) := by
  subst ha hb
  exact ifc X hx hd ht hn (fun q => FT (lc_t.mp q)) (fun q => FF (by have := mt lc_t.mpr q; first | exact this | exact Int.not_lt.mp this | exact Int.not_le.mp this | exact Classical.not_not.mp this))
theorem lif_ne (X : Stand p l e R s m args below meth c T locs cells slots) (hx : p.tables.exec = Jvm.exec) {x y : Int64} {o : Int} (t n : Nat) (hd : decode c.code pc = .ok (.ifCond .ne o, 3)) (ht : (pc : Int) + o = t) (hn : pc + 3 = n) {a b' : Int} (ha : x.toInt = a) (hb : y.toInt = b') (FT : ¬ a = b' → Go p e below s Q K N T (mkF m t Ls rest)) (FF : a = b' → Go p e below s Q K N T (mkF m n Ls rest)) : Go p e below s Q K N T (mkF m pc Ls (.int (lcmpW x y) :: rest)) := by
  subst ha hb
  exact ifc X hx hd ht hn (fun q => FT (lc_t.mp q)) (fun q => FF (by have := mt lc_t.mpr q; first | exact this | exact Int.not_lt.mp this | exact Int.not_le.mp this | exact Classical.not_not.mp this))
theorem lif_lt (X : Stand p l e R s m args below meth c T locs cells slots) (hx : p.tables.exec = Jvm.exec) {x y : Int64} {o : Int} (t n : Nat) (hd : decode c.code pc = .ok (.ifCond .lt o, 3)) (ht : (pc : Int) + o = t) (hn : pc + 3 = n) {a b' : Int} (ha : x.toInt = a) (hb : y.toInt = b') (FT : a < b' → Go p e below s Q K N T (mkF m t Ls rest)) (FF : b' ≤ a → Go p e below s Q K N T (mkF m n Ls rest)) : Go p e below s Q K N T (mkF m pc Ls (.int (lcmpW x y) :: rest)) := by
  subst ha hb
  exact ifc X hx hd ht hn (fun q => FT (lc_t.mp q)) (fun q => FF (by have := mt lc_t.mpr q; first | exact this | exact Int.not_lt.mp this | exact Int.not_le.mp this | exact Classical.not_not.mp this))
theorem lif_ge (X : Stand p l e R s m args below meth c T locs cells slots) (hx : p.tables.exec = Jvm.exec) {x y : Int64} {o : Int} (t n : Nat) (hd : decode c.code pc = .ok (.ifCond .ge o, 3)) (ht : (pc : Int) + o = t) (hn : pc + 3 = n) {a b' : Int} (ha : x.toInt = a) (hb : y.toInt = b') (FT : b' ≤ a → Go p e below s Q K N T (mkF m t Ls rest)) (FF : a < b' → Go p e below s Q K N T (mkF m n Ls rest)) : Go p e below s Q K N T (mkF m pc Ls (.int (lcmpW x y) :: rest)) := by
  subst ha hb
  exact ifc X hx hd ht hn (fun q => FT (lc_t.mp q)) (fun q => FF (by have := mt lc_t.mpr q; first | exact this | exact Int.not_lt.mp this | exact Int.not_le.mp this | exact Classical.not_not.mp this))
theorem lif_gt (X : Stand p l e R s m args below meth c T locs cells slots) (hx : p.tables.exec = Jvm.exec) {x y : Int64} {o : Int} (t n : Nat) (hd : decode c.code pc = .ok (.ifCond .gt o, 3)) (ht : (pc : Int) + o = t) (hn : pc + 3 = n) {a b' : Int} (ha : x.toInt = a) (hb : y.toInt = b') (FT : b' < a → Go p e below s Q K N T (mkF m t Ls rest)) (FF : a ≤ b' → Go p e below s Q K N T (mkF m n Ls rest)) : Go p e below s Q K N T (mkF m pc Ls (.int (lcmpW x y) :: rest)) := by
  subst ha hb
  exact ifc X hx hd ht hn (fun q => FT (lc_t.mp q)) (fun q => FF (by have := mt lc_t.mpr q; first | exact this | exact Int.not_lt.mp this | exact Int.not_le.mp this | exact Classical.not_not.mp this))
theorem lif_le (X : Stand p l e R s m args below meth c T locs cells slots) (hx : p.tables.exec = Jvm.exec) {x y : Int64} {o : Int} (t n : Nat) (hd : decode c.code pc = .ok (.ifCond .le o, 3)) (ht : (pc : Int) + o = t) (hn : pc + 3 = n) {a b' : Int} (ha : x.toInt = a) (hb : y.toInt = b') (FT : a ≤ b' → Go p e below s Q K N T (mkF m t Ls rest)) (FF : b' < a → Go p e below s Q K N T (mkF m n Ls rest)) : Go p e below s Q K N T (mkF m pc Ls (.int (lcmpW x y) :: rest)) := by
  subst ha hb
  exact ifc X hx hd ht hn (fun q => FT (lc_t.mp q)) (fun q => FF (by have := mt lc_t.mpr q; first | exact this | exact Int.not_lt.mp this | exact Int.not_le.mp this | exact Classical.not_not.mp this))
theorem acmp_ne (X : Stand p l e R s m args below meth c T locs cells slots) (hx : p.tables.exec = Jvm.exec) {x y : Value} {o : Int} (t n : Nat) (hd : decode c.code pc = .ok (.if_acmp .ne o, 3)) (ht : (pc : Int) + o = t) (hn : pc + 3 = n) (h1 : x.isRef = true) (h2 : y.isRef = true) (FT : ¬ x = y → Go p e below s Q K N T (mkF m t Ls rest)) (FF : x = y → Go p e below s Q K N T (mkF m n Ls rest)) : Go p e below s Q K N T (mkF m pc Ls (y :: x :: rest)) := by
  subst hn
  by_cases q : x = y
  · exact go (fun _ h => XT.acmpNo X.here hx rfl hd rfl h1 h2 (XT.aa_ne_f q) h) (FF q)
  · exact go (fun _ h => XT.acmpYes X.here hx rfl (pc0 := pc) (pc' := t) rfl hd rfl h1 h2 (XT.aa_ne_t q) (by rw [ht]; exact Int.natCast_nonneg _) (by rw [ht]; rfl) h) (FT q)
theorem acmp_eq (X : Stand p l e R s m args below meth c T locs cells slots) (hx : p.tables.exec = Jvm.exec) {x y : Value} {o : Int} (t n : Nat) (hd : decode c.code pc = .ok (.if_acmp .eq o, 3)) (ht : (pc : Int) + o = t) (hn : pc + 3 = n) (h1 : x.isRef = true) (h2 : y.isRef = true) (FT : x = y → Go p e below s Q K N T (mkF m t Ls rest)) (FF : ¬ x = y → Go p e below s Q K N T (mkF m n Ls rest)) : Go p e below s Q K N T (mkF m pc Ls (y :: x :: rest)) := by
  subst hn
  by_cases q : x = y
  · exact go (fun _ h => XT.acmpYes X.here hx rfl (pc0 := pc) (pc' := t) rfl hd rfl h1 h2 (XT.aa_eq_t q) (by rw [ht]; exact Int.natCast_nonneg _) (by rw [ht]; rfl) h) (FT q)
  · exact go (fun _ h => XT.acmpNo X.here hx rfl hd rfl h1 h2 (XT.aa_eq_f q) h) (FF q)
theorem nonnullR (X : Stand p l e R s m args below meth c T locs cells slots) (hx : p.tables.exec = Jvm.exec) {a : Addr} {o : Int} (t : Nat) (hd : decode c.code pc = .ok (.ifnonnull o, 3)) (ht : (pc : Int) + o = t) (F : Go p e below s Q K N T (mkF m t Ls rest)) : Go p e below s Q K N T (mkF m pc Ls (.ref a :: rest)) :=
  go (fun _ h => XT.ifnonnullYes X.here hx rfl (pc0 := pc) (pc' := t) rfl hd rfl (by rw [ht]; exact Int.natCast_nonneg _) (by rw [ht]; rfl) h) F
theorem nonnullN (X : Stand p l e R s m args below meth c T locs cells slots) (hx : p.tables.exec = Jvm.exec) {o : Int} (hd : decode c.code pc = .ok (.ifnonnull o, 3)) (hn : pc + 3 = n) (F : Go p e below s Q K N T (mkF m n Ls rest)) : Go p e below s Q K N T (mkF m pc Ls (.null :: rest)) := by
  subst hn
  exact go (fun _ h => XT.ifnonnullNo X.here hx rfl hd rfl h) F
theorem nullR (X : Stand p l e R s m args below meth c T locs cells slots) (hx : p.tables.exec = Jvm.exec) {a : Addr} {o : Int} (hd : decode c.code pc = .ok (.ifnull o, 3)) (hn : pc + 3 = n) (F : Go p e below s Q K N T (mkF m n Ls rest)) : Go p e below s Q K N T (mkF m pc Ls (.ref a :: rest)) := by
  subst hn
  exact go (fun _ h => XT.nullNo X.here hx rfl hd rfl rfl (by simp) h) F
theorem nullN (X : Stand p l e R s m args below meth c T locs cells slots) (hx : p.tables.exec = Jvm.exec) {o : Int} (t : Nat) (hd : decode c.code pc = .ok (.ifnull o, 3)) (ht : (pc : Int) + o = t) (F : Go p e below s Q K N T (mkF m t Ls rest)) : Go p e below s Q K N T (mkF m pc Ls (.null :: rest)) :=
  go (fun _ h => XT.nullYes X.here hx rfl (pc0 := pc) (pc' := t) rfl hd rfl rfl (by rw [ht]; exact Int.natCast_nonneg _) (by rw [ht]; rfl) h) F
theorem getS (X : Stand p l e R s m args below meth c T locs cells slots) (hx : p.tables.exec = Jvm.exec) (hZ : Z.Warmed39 s.vm) {own O f d host : String} {index : Nat} (hown : s.vm.findClass own = some m.cls) (w : (Cond.fieldLink own index O f d).before a0 Z = true ∨ (Cond.fieldLinkNest own index O f d host).before a0 Z = true) (eT : T.heap = h) {v : Value} (S : Sta Z h O f d v) (hd : decode c.code pc = .ok (.getstatic index, 3)) (hn : pc + 3 = n)
    (F : ∀ T', Stand p l e R s m args below meth c T' locs cells slots → T'.heap = h → Go p e below s Q K N T' (mkF m n Ls (v :: st))) : Go p e below s Q K N T (mkF m pc Ls st) := by
  subst hn
  obtain ⟨T', X', e', st'⟩ := getS2 X hx hZ hown (host := host) w Via.refl eT S (g := mkF m pc Ls st) rfl hd
  exact go (fun _ h => st' _ h) (F T' X' e')
theorem getF (X : Stand p l e R s m args below meth c T locs cells slots) (hx : p.tables.exec = Jvm.exec) (hZ : Z.Warmed39 s.vm) {own O f d host : String} {index : Nat} (hown : s.vm.findClass own = some m.cls) (w : (Cond.fieldLink own index O f d).before a0 Z = true ∨ (Cond.fieldLinkNest own index O f d host).before a0 Z = true) (eT : T.heap = h) {a : Addr} {v : Value} (S : Fld Z h a O f d v) (hd : decode c.code pc = .ok (.getfield index, 3)) (hn : pc + 3 = n)
    (F : ∀ T', Stand p l e R s m args below meth c T' locs cells slots → T'.heap = h → Go p e below s Q K N T' (mkF m n Ls (v :: st))) : Go p e below s Q K N T (mkF m pc Ls (.ref a :: st)) := by
  subst hn
  obtain ⟨T', X', e', st'⟩ := RoadKit.getF X hx hZ hown (host := host) w Via.refl eT S (g := mkF m pc Ls (.ref a :: st)) rfl rfl hd
  exact go (fun _ h => st' _ h) (F T' X' e')
theorem in_of {cl : Cell} {z j : Int32} (S : cl.slots.size = z.toNatClampNeg) (N : ¬ z < 0) (h1 : 0 ≤ j.toInt) (h2 : j.toInt < z.toInt) : ¬ (j < 0 ∨ cl.slots.size ≤ j.toNatClampNeg) := by
  rw [S, Int32.lt_iff_toInt_lt]
  rw [Int32.lt_iff_toInt_lt] at N
  have e0 : (0 : Int32).toInt = 0 := rfl
  have q1 : z.toNatClampNeg = z.toInt.toNat := rfl
  have q2 : j.toNatClampNeg = j.toInt.toNat := rfl
  omega
theorem alen (X : Stand p l e R s m args below meth c T locs cells slots) (hx : p.tables.exec = Jvm.exec) (hZ : Z.Warmed39 s.vm) {a : Addr} {k : ClassId} {ty : FieldType} {z : Int32} {vs : List Value} {d : Value} (eT : T.heap = h) (A : Arv Z h a k ty z vs d) (hd : decode c.code pc = .ok (.arraylength, 1)) (hn : pc + 1 = n) (F : Go p e below s Q K N T (mkF m n Ls (.int z :: st))) : Go p e below s Q K N T (mkF m pc Ls (.ref a :: st)) := by
  subst hn
  obtain ⟨cl, Ar, -, S, N, -, -⟩ := A
  refine go (fun _ h => X.arraylength hx (by rw [eT]; exact Ar.1) (State.isArrayOf_alike hZ.alike Ar.2.1) (g := mkF m pc Ls (.ref a :: st)) rfl rfl hd _ h) ?_
  rw [len_of S N]
  exact F
theorem iaload (X : Stand p l e R s m args below meth c T locs cells slots) (hx : p.tables.exec = Jvm.exec) (hZ : Z.Warmed39 s.vm) {a : Addr} {k : ClassId} {z j : Int32} {vs : List Value} {d v : Value} (eT : T.heap = h) (A : Arv Z h a k .int z vs d) (h1 : 0 ≤ j.toInt) (h2 : j.toInt < z.toInt) (hv : vs.getD j.toNatClampNeg d = v) (hd : decode c.code pc = .ok (.iaload, 1)) (hn : pc + 1 = n) (F : Go p e below s Q K N T (mkF m n Ls (v :: st))) : Go p e below s Q K N T (mkF m pc Ls (.int j :: .ref a :: st)) := by
  subst hn
  obtain ⟨cl, Ar, -, S, N, H, -⟩ := A
  have hin := in_of S N h1 h2
  exact go (fun _ h => X.iaload hx (j := j) (v := v) (by rw [eT]; exact Ar.1) (State.isArrayOf_alike hZ.alike Ar.2.1) Ar.2.2 hin (H.at hin hv) (g := mkF m pc Ls (.int j :: .ref a :: st)) rfl rfl hd _ h) F
theorem caload (X : Stand p l e R s m args below meth c T locs cells slots) (hx : p.tables.exec = Jvm.exec) (hZ : Z.Warmed39 s.vm) {a : Addr} {k : ClassId} {z j : Int32} {vs : List Value} {d v : Value} (eT : T.heap = h) (A : Arv Z h a k .char z vs d) (h1 : 0 ≤ j.toInt) (h2 : j.toInt < z.toInt) (hv : vs.getD j.toNatClampNeg d = v) (hd : decode c.code pc = .ok (.caload, 1)) (hn : pc + 1 = n) (F : Go p e below s Q K N T (mkF m n Ls (v :: st))) : Go p e below s Q K N T (mkF m pc Ls (.int j :: .ref a :: st)) := by
  subst hn
  obtain ⟨cl, Ar, -, S, N, H, -⟩ := A
  have hin := in_of S N h1 h2
  exact go (fun _ h => X.caload hx (j := j) (v := v) (by rw [eT]; exact Ar.1) (State.isArrayOf_alike hZ.alike Ar.2.1) Ar.2.2 hin (H.at hin hv) (g := mkF m pc Ls (.int j :: .ref a :: st)) rfl rfl hd _ h) F
theorem laload (X : Stand p l e R s m args below meth c T locs cells slots) (hx : p.tables.exec = Jvm.exec) (hZ : Z.Warmed39 s.vm) {a : Addr} {k : ClassId} {z j : Int32} {vs : List Value} {d v : Value} (eT : T.heap = h) (A : Arv Z h a k .long z vs d) (h1 : 0 ≤ j.toInt) (h2 : j.toInt < z.toInt) (hv : vs.getD j.toNatClampNeg d = v) (hd : decode c.code pc = .ok (.laload, 1)) (hn : pc + 1 = n) (F : Go p e below s Q K N T (mkF m n Ls (v :: st))) : Go p e below s Q K N T (mkF m pc Ls (.int j :: .ref a :: st)) := by
  subst hn
  obtain ⟨cl, Ar, -, S, N, H, -⟩ := A
  have hin := in_of S N h1 h2
  exact go (fun _ h => X.laload hx (j := j) (v := v) (by rw [eT]; exact Ar.1) (State.isArrayOf_alike hZ.alike Ar.2.1) Ar.2.2 hin (H.at hin hv) (g := mkF m pc Ls (.int j :: .ref a :: st)) rfl rfl hd _ h) F
theorem baload (X : Stand p l e R s m args below meth c T locs cells slots) (hx : p.tables.exec = Jvm.exec) (hZ : Z.Warmed39 s.vm) {a : Addr} {k : ClassId} {z j : Int32} {vs : List Value} {d v : Value} (eT : T.heap = h) (A : Arv Z h a k .byte z vs d) (h1 : 0 ≤ j.toInt) (h2 : j.toInt < z.toInt) (hv : vs.getD j.toNatClampNeg d = v) (hd : decode c.code pc = .ok (.baload, 1)) (hn : pc + 1 = n) (F : Go p e below s Q K N T (mkF m n Ls (v :: st))) : Go p e below s Q K N T (mkF m pc Ls (.int j :: .ref a :: st)) := by
  subst hn
  obtain ⟨cl, Ar, -, S, N, H, -⟩ := A
  have hin := in_of S N h1 h2
  exact go (fun _ h => X.baloadBytes hx (j := j) (v := v) (by rw [eT]; exact Ar.1) (State.isArrayOf_alike hZ.alike Ar.2.1) Ar.2.2 hin (H.at hin hv) (g := mkF m pc Ls (.int j :: .ref a :: st)) rfl rfl hd _ h) F
theorem aaload (X : Stand p l e R s m args below meth c T locs cells slots) (hx : p.tables.exec = Jvm.exec) (hZ : Z.Warmed39 s.vm) {a : Addr} {k : ClassId} {ty : FieldType} {z j : Int32} {vs : List Value} {d v : Value} (eT : T.heap = h) (A : Arv Z h a k ty z vs d) (hty : ty.isReference = true) (h1 : 0 ≤ j.toInt) (h2 : j.toInt < z.toInt) (hv : vs.getD j.toNatClampNeg d = v) (hd : decode c.code pc = .ok (.aaload, 1)) (hn : pc + 1 = n) (F : Go p e below s Q K N T (mkF m n Ls (v :: st))) : Go p e below s Q K N T (mkF m pc Ls (.int j :: .ref a :: st)) := by
  subst hn
  obtain ⟨cl, Ar, -, S, N, H, -⟩ := A
  have hin := in_of S N h1 h2
  exact go (fun _ h => X.aaload hx (j := j) (v := v) (by rw [eT]; exact Ar.1) (State.isArrayOf_alike hZ.alike Ar.2.1) hty Ar.2.2 hin (H.at hin hv) (g := mkF m pc Ls (.int j :: .ref a :: st)) rfl rfl hd _ h) F
theorem fin {w : Option Value} {g : JFrame} (X : Stand p l e R s m args below meth c T locs cells slots) (hlk : meth.locks = false) (hv : meth.sig.returnType = none → w = none) (hc : cells ≤ K) (hs : slots ≤ N) (hQ : Q w T.heap locs) (step : ∀ fs, (∀ (f : JFrame) (acts : List Action), f.method = m → f.locked = none → f.entered = [] → (doReturn e (T.setTop f) acts w).1 = T.setFrames fs) → Steps p.tables e below (T.setTop g) (T.setFrames fs)) : Go p e below s Q K N T g := by
  obtain ⟨fs, hr, hrun, hended, hW, hsame⟩ := X.leave (v := w) hv hlk
  exact ⟨_, _, step fs hr, hrun, hended, _, _, rfl, hQ, ⟨_, rfl⟩, hW, hsame.mono hc hs⟩
theorem retI (X : Stand p l e R s m args below meth c T locs cells slots) (hx : p.tables.exec = Jvm.exec) (hlk : meth.locks = false) (hret : meth.sig.returnType = some .int) {z : Int32} (hd : decode c.code pc = .ok (.ireturn, 1)) (hc : cells ≤ K) (hs : slots ≤ N) (hQ : Q (some (.int z)) T.heap locs) : Go p e below s Q K N T (mkF m pc Ls (.int z :: rest)) :=
  fin X hlk (fun h => by rw [hret] at h; cases h) hc hs hQ (fun _ hr => retOut X hx hret rfl (Or.inl ⟨rfl, Or.inl rfl, _, rfl⟩) hd hr)
theorem retZ (X : Stand p l e R s m args below meth c T locs cells slots) (hx : p.tables.exec = Jvm.exec) (hlk : meth.locks = false) (hret : meth.sig.returnType = some .boolean) {z : Int32} (hd : decode c.code pc = .ok (.ireturn, 1)) (hz : z = 0 ∨ z = 1) (hc : cells ≤ K) (hs : slots ≤ N) (hQ : Q (some (.int z)) T.heap locs) : Go p e below s Q K N T (mkF m pc Ls (.int z :: rest)) :=
  fin X hlk (fun h => by rw [hret] at h; cases h) hc hs hQ (fun _ hr => retOut X hx hret (by rcases hz with rfl | rfl <;> rfl) (Or.inl ⟨rfl, Or.inr (Or.inl rfl), _, rfl⟩) hd hr)
theorem b01 {P : Prop} [Decidable P] : b P = 0 ∨ b P = 1 := by by_cases q : P <;> simp [b, q]
theorem retC (X : Stand p l e R s m args below meth c T locs cells slots) (hx : p.tables.exec = Jvm.exec) (hlk : meth.locks = false) (hret : meth.sig.returnType = some .char) {z : Int32} (hd : decode c.code pc = .ok (.ireturn, 1)) (hz : narrow .char (.int z) = .int z) (hc : cells ≤ K) (hs : slots ≤ N) (hQ : Q (some (.int z)) T.heap locs) : Go p e below s Q K N T (mkF m pc Ls (.int z :: rest)) :=
  fin X hlk (fun h => by rw [hret] at h; cases h) hc hs hQ (fun _ hr => retOut X hx hret hz (Or.inl ⟨rfl, Or.inr (Or.inr (Or.inr (Or.inl rfl))), _, rfl⟩) hd hr)
theorem retB (X : Stand p l e R s m args below meth c T locs cells slots) (hx : p.tables.exec = Jvm.exec) (hlk : meth.locks = false) (hret : meth.sig.returnType = some .byte) {z : Int32} (hd : decode c.code pc = .ok (.ireturn, 1)) (hz : narrow .byte (.int z) = .int z) (hc : cells ≤ K) (hs : slots ≤ N) (hQ : Q (some (.int z)) T.heap locs) : Go p e below s Q K N T (mkF m pc Ls (.int z :: rest)) :=
  fin X hlk (fun h => by rw [hret] at h; cases h) hc hs hQ (fun _ hr => retOut X hx hret hz (Or.inl ⟨rfl, Or.inr (Or.inr (Or.inl rfl)), _, rfl⟩) hd hr)
theorem retL (X : Stand p l e R s m args below meth c T locs cells slots) (hx : p.tables.exec = Jvm.exec) (hlk : meth.locks = false) (hret : meth.sig.returnType = some .long) {z : Int64} (hd : decode c.code pc = .ok (.lreturn, 1)) (hc : cells ≤ K) (hs : slots ≤ N) (hQ : Q (some (.long z)) T.heap locs) : Go p e below s Q K N T (mkF m pc Ls (.long z :: rest)) :=
  fin X hlk (fun h => by rw [hret] at h; cases h) hc hs hQ (fun _ hr => retOut X hx hret rfl (Or.inr (Or.inl ⟨rfl, rfl, _, rfl⟩)) hd hr)
theorem retA (X : Stand p l e R s m args below meth c T locs cells slots) (hx : p.tables.exec = Jvm.exec) (hlk : meth.locks = false) {ty : FieldType} (hret : meth.sig.returnType = some ty) (hty : ty.isReference = true) {v : Value} (hv : v.isRef = true) (hd : decode c.code pc = .ok (.areturn, 1)) (hc : cells ≤ K) (hs : slots ≤ N) (hQ : Q (some v) T.heap locs) : Go p e below s Q K N T (mkF m pc Ls (v :: rest)) :=
  fin X hlk (fun h => by rw [hret] at h; cases h) hc hs hQ (fun _ hr => retOut X hx hret (by cases ty <;> cases v <;> first | rfl | simp [Value.isRef] at hv | simp [FieldType.isReference] at hty) (Or.inr (Or.inr (Or.inr (Or.inr ⟨rfl, hty, hv⟩)))) hd hr)
theorem retV (X : Stand p l e R s m args below meth c T locs cells slots) (hx : p.tables.exec = Jvm.exec) (hlk : meth.locks = false) (hret : meth.sig.returnType = none) (hd : decode c.code pc = .ok (.return_, 1)) (hc : cells ≤ K) (hs : slots ≤ N) (hQ : Q none T.heap locs) : Go p e below s Q K N T (mkF m pc Ls []) :=
  fin X hlk (fun _ => rfl) hc hs hQ (fun _ hr => X.returnOut hx hret hd hr)
/-- a method's contract: with the arguments as', over the heap h0, it comes back and Q holds -/
def Met (l : Launch) (Z : State) (y : MethodName) (bytes : ByteArray) (maxL : Nat) (ret : Option FieldType) (ws : List Cond) (rm : Room) (as' : Array Value) (h0 : Heap) (Q : Option Value → Heap → List Loc → Prop) : Prop :=
  MetFree l y (head1 (Cond.code y bytes maxL ret :: ws) rm) (fun a U => a = as' ∧ Z.Warmed39 U.vm ∧ U.heap = h0) (fun _ _ _ _ _ => True) (fun _ U o U' => ∃ v L, o = .returned v ∧ Q v U'.heap L ∧ FrameEnd U o U' L rm.cells rm.slots)
/-- nothing written, nothing made: it returns w -/
def Pu (w : Value) (h0 : Heap) (v : Option Value) (h : Heap) (L : List Loc) : Prop := v = some w ∧ L = [] ∧ h = h0
theorem start {y : MethodName} {bytes : ByteArray} {maxL : Nat} {ret : Option FieldType} {ws : List Cond} {rm : Room} {as' : Array Value} {h0 : Heap} (pn : plainName y.cls = true)
    (body : ∀ (p : Program) (e : Env) (s : State) (m : MethodId) (below : List Frame) (meth : Method) (c : Code) (s₁ : State), Stand p l e rm s m as' below meth c s₁ [] 0 0 → p.tables.exec = Jvm.exec → c.code = bytes → c.maxLocals = maxL → s.vm.findClass y.cls = some m.cls → meth.name = y.name → meth.sig.returnType = ret → meth.locks = false → Z.Warmed39 s.vm → s₁.heap = h0 → Go p e below s Q rm.cells rm.slots s₁ (entryFrame m as' maxL)) : Met l Z y bytes maxL ret ws rm as' h0 Q := by
  refine MetFree.of_bodySF (plainFor_of_name pn) hisR ?_
  intro p e s m args below meth c s₁ Bd hml0 hP hK
  obtain ⟨rfl, hZ, hh⟩ := hP
  exact body p e s m below meth c s₁ (Stand.of_body Bd) Bd.exec Bd.bytes hml0 (findClass_of_methodNamed Bd.named) (name_of_methodNamed Bd.named Bd.method).1 Bd.returns Bd.notSynchronized hZ (by rw [← hh, Bd.state]; rfl)
theorem enter {g g' : JFrame} (q : g = g') (F : Go p e below s Q K N T g') : Go p e below s Q K N T g := q ▸ F
theorem callS (X : Stand p l e R s m args below meth c T locs cells slots) (hx : p.tables.exec = Jvm.exec) (hZ : Z.Warmed39 s.vm) {own : String} {index : Nat} {y : MethodName} {bytes : ByteArray} {maxL W : Nat} {ret : Option FieldType} {rm : Room} {Qc : Option Value → Heap → List Loc → Prop} {argsL : List Value} (hown : s.vm.findClass own = some m.cls)
    (wl : (Cond.methodLink own index y).before a0 Z = true) (ws : (Cond.static y).before a0 Z = true) (wi : (Cond.initialized y.cls).before a0 Z = true) (wc : (Cond.code y bytes maxL ret).before a0 Z = true) (hy : y.cls ≠ "java/lang/invoke/MethodHandle" ∧ y.cls ≠ "java/lang/invoke/VarHandle")
    (hM : Met l Z y bytes maxL ret [] rm argsL.toArray h Qc) (eT : T.heap = h) (hf : rm.frames + 1 ≤ R.frames) (hl : W + (maxL + 11) + rm.locals ≤ R.locals) (hck : cells + rm.cells ≤ R.cells) (hsk : slots + rm.slots ≤ R.slots) (hsz : Ls.size = c.maxLocals)
    (hlen : ∀ sig, parseMethodDescriptor y.desc = some sig → argsL.length = sig.parameters.length) (hst : st = argsL.reverse ++ rest) (hW : (rest.map fun v => v.category).sum ≤ W) (hd : decode c.code pc = .ok (.invokestatic index, 3)) (hn : pc + 3 = n)
    (F : ∀ T' v L, Stand p l e R s m args below meth c T' (locs ++ L) (cells + rm.cells) (slots + rm.slots) → Qc v T'.heap L → Go p e below s Q K N T' (mkF m n Ls (v.toList ++ rest))) : Go p e below s Q K N T (mkF m pc Ls st) := by
  subst hn
  obtain ⟨v, _, ⟨T18, L18, k18, n18⟩, -, X18, ⟨Lc18, hQ18, l18, y18, z18⟩, st18⟩ := Jvm.LawKit.callS X hx (y := y) hown (mvT hZ wl) (mvT hZ ws) (mvT hZ wi) (mvT hZ wc) hy (backOf (W := W) hM hZ wc wi hf hl) (g := mkF m pc Ls st) rfl hsz (argsL := argsL) (rest := rest) hlen hst (by show 2 * 0 + _ ≤ _; omega) hd (fun _ _ => ⟨rfl, eT, hck, hsk⟩)
  dsimp only [Pt.U, Pt.locs, Pt.cells, Pt.slots] at X18 l18 y18 z18 st18 hQ18
  subst l18 y18 z18
  exact go (fun _ h => st18 _ h) (F T18 v Lc18 X18 hQ18)
theorem callP (X : Stand p l e R s m args below meth c T locs cells slots) (hx : p.tables.exec = Jvm.exec) (hZ : Z.Warmed39 s.vm) {own : String} {index : Nat} {y : MethodName} {bytes : ByteArray} {maxL W : Nat} {ret : Option FieldType} {fr lo : Nat} {w : Value} {argsL : List Value} (hown : s.vm.findClass own = some m.cls)
    (wl : (Cond.methodLink own index y).before a0 Z = true) (ws : (Cond.static y).before a0 Z = true) (wi : (Cond.initialized y.cls).before a0 Z = true) (wc : (Cond.code y bytes maxL ret).before a0 Z = true) (hy : y.cls ≠ "java/lang/invoke/MethodHandle" ∧ y.cls ≠ "java/lang/invoke/VarHandle")
    (hM : Met l Z y bytes maxL ret [] { frames := fr, cells := 0, slots := 0, locals := lo } argsL.toArray h (Pu w h)) (eT : T.heap = h) (hf : fr + 1 ≤ R.frames) (hl : W + (maxL + 11) + lo ≤ R.locals) (hck : cells ≤ R.cells) (hsk : slots ≤ R.slots) (hsz : Ls.size = c.maxLocals)
    (hlen : ∀ sig, parseMethodDescriptor y.desc = some sig → argsL.length = sig.parameters.length) (hst : st = argsL.reverse ++ rest) (hW : (rest.map fun v => v.category).sum ≤ W) (hd : decode c.code pc = .ok (.invokestatic index, 3)) (hn : pc + 3 = n)
    (F : ∀ T', Stand p l e R s m args below meth c T' locs cells slots → T'.heap = h → Go p e below s Q K N T' (mkF m n Ls (w :: rest))) : Go p e below s Q K N T (mkF m pc Ls st) := by
  refine callS X hx hZ hown wl ws wi wc hy hM eT hf hl hck hsk hsz hlen hst hW hd hn ?_
  rintro T' v L X' ⟨rfl, rfl, hh⟩
  rw [List.append_nil] at X'
  exact F T' X' hh
theorem callV (X : Stand p l e R s m args below meth c T locs cells slots) (hx : p.tables.exec = Jvm.exec) (hZ : Z.Warmed39 s.vm) {own C : String} {index : Nat} {y z : MethodName} {bytes : ByteArray} {maxL W : Nat} {ret : Option FieldType} {rm : Room} {Qc : Option Value → Heap → List Loc → Prop} {argsL : List Value} {a : Addr} (hown : s.vm.findClass own = some m.cls)
    (wl : (Cond.methodLink own index y).before a0 Z = true) (wd : (Cond.declares y).before a0 Z = true) (wsel : (Cond.selects C y z).before a0 Z = true) (wm : (Cond.instanceMethod z).before a0 Z = true) (wi : (Cond.initialized z.cls).before a0 Z = true) (wc : (Cond.code z bytes maxL ret).before a0 Z = true) (hnf : NotFace s y) (hy : y.cls ≠ "java/lang/invoke/MethodHandle" ∧ y.cls ≠ "java/lang/invoke/VarHandle")
    (hM : Met l Z z bytes maxL ret [] rm (Value.ref a :: argsL).toArray h Qc) (eT : T.heap = h) (E : Exa Z h a C) (hf : rm.frames + 1 ≤ R.frames) (hl : W + (maxL + 11) + rm.locals ≤ R.locals) (hck : cells + rm.cells ≤ R.cells) (hsk : slots + rm.slots ≤ R.slots) (hsz : Ls.size = c.maxLocals)
    (hlen : ∀ sig, parseMethodDescriptor y.desc = some sig → argsL.length = sig.parameters.length) (hst : st = argsL.reverse ++ .ref a :: rest) (hW : (rest.map fun v => v.category).sum ≤ W) (hd : decode c.code pc = .ok (.invokevirtual index, 3)) (hn : pc + 3 = n)
    (F : ∀ T' v L, Stand p l e R s m args below meth c T' (locs ++ L) (cells + rm.cells) (slots + rm.slots) → Qc v T'.heap L → Go p e below s Q K N T' (mkF m n Ls (v.toList ++ rest))) : Go p e below s Q K N T (mkF m pc Ls st) := by
  subst hn
  obtain ⟨cq, kq, qa, qb, qc⟩ := isOf hZ eT E
  obtain ⟨v, _, ⟨T18, L18, k18, n18⟩, -, X18, ⟨Lc18, hQ18, l18, y18, z18⟩, st18⟩ := X.virtualBack hx (y := y) (z := z) hown (mvT hZ wl) (mvT hZ wd) hnf (mvT hZ wsel) (mvT hZ wm) hy (backOf (W := W) hM hZ wc wi hf hl) qa qc (g := mkF m pc Ls st) rfl hsz (Steps.refl _) (argsL := argsL) (rest := rest) hlen hst (by show 2 * 0 + _ ≤ _; omega) hd (fun _ _ => ⟨rfl, eT, hck, hsk⟩)
  dsimp only [Pt.U, Pt.locs, Pt.cells, Pt.slots] at X18 l18 y18 z18 st18 hQ18
  subst l18 y18 z18
  exact go (fun _ h => st18.trans h) (F T18 v Lc18 X18 hQ18)
theorem callVP (X : Stand p l e R s m args below meth c T locs cells slots) (hx : p.tables.exec = Jvm.exec) (hZ : Z.Warmed39 s.vm) {own C : String} {index : Nat} {y z : MethodName} {bytes : ByteArray} {maxL W : Nat} {ret : Option FieldType} {fr lo : Nat} {w : Value} {argsL : List Value} {a : Addr} (hown : s.vm.findClass own = some m.cls)
    (wl : (Cond.methodLink own index y).before a0 Z = true) (wd : (Cond.declares y).before a0 Z = true) (wsel : (Cond.selects C y z).before a0 Z = true) (wm : (Cond.instanceMethod z).before a0 Z = true) (wi : (Cond.initialized z.cls).before a0 Z = true) (wc : (Cond.code z bytes maxL ret).before a0 Z = true) (hnf : NotFace s y) (hy : y.cls ≠ "java/lang/invoke/MethodHandle" ∧ y.cls ≠ "java/lang/invoke/VarHandle")
    (hM : Met l Z z bytes maxL ret [] { frames := fr, cells := 0, slots := 0, locals := lo } (Value.ref a :: argsL).toArray h (Pu w h)) (eT : T.heap = h) (E : Exa Z h a C) (hf : fr + 1 ≤ R.frames) (hl : W + (maxL + 11) + lo ≤ R.locals) (hck : cells ≤ R.cells) (hsk : slots ≤ R.slots) (hsz : Ls.size = c.maxLocals)
    (hlen : ∀ sig, parseMethodDescriptor y.desc = some sig → argsL.length = sig.parameters.length) (hst : st = argsL.reverse ++ .ref a :: rest) (hW : (rest.map fun v => v.category).sum ≤ W) (hd : decode c.code pc = .ok (.invokevirtual index, 3)) (hn : pc + 3 = n)
    (F : ∀ T', Stand p l e R s m args below meth c T' locs cells slots → T'.heap = h → Go p e below s Q K N T' (mkF m n Ls (w :: rest))) : Go p e below s Q K N T (mkF m pc Ls st) := by
  refine callV X hx hZ hown wl wd wsel wm wi wc hnf hy hM eT E hf hl hck hsk hsz hlen hst hW hd hn ?_
  rintro T' v L X' ⟨rfl, rfl, hh⟩
  rw [List.append_nil] at X'
  exact F T' X' hh
theorem icmp_eqB (X : Stand p l e R s m args below meth c T locs cells slots) (hx : p.tables.exec = Jvm.exec) {P P' : Prop} [Decidable P] [Decidable P'] {o : Int} (t n : Nat) (hd : decode c.code pc = .ok (.if_icmp .eq o, 3)) (ht : (pc : Int) + o = t) (hn : pc + 3 = n) (FT : (P ↔ P') → Go p e below s Q K N T (mkF m t Ls rest)) (FF : ¬ (P ↔ P') → Go p e below s Q K N T (mkF m n Ls rest)) : Go p e below s Q K N T (mkF m pc Ls (.int (b P') :: .int (b P) :: rest)) :=
  icmp_eq X hx t n hd ht hn rfl rfl (fun q => FT (b_inj (Int32.toInt_inj.mp q))) (fun q => FF fun z => q (by rw [b_iff z]))
theorem tsw (X : Stand p l e R s m args below meth c T locs cells slots) (hx : p.tables.exec = Jvm.exec) {dflt low high : Int} {offs : Array Int} {len : Nat} {o : Int} {i : Int32} (t : Nat) (hd : decode c.code pc = .ok (.tableswitch dflt low high offs, len)) (hin : ¬ (i.toInt < low ∨ i.toInt > high)) (hoff : offs[(i.toInt - low).toNat]? = some o) (ht : (pc : Int) + o = t) (F : Go p e below s Q K N T (mkF m t Ls rest)) : Go p e below s Q K N T (mkF m pc Ls (.int i :: rest)) :=
  go (fun _ h => XS.tswIn X.here hx rfl (pc0 := pc) (pc' := t) rfl hd rfl hin hoff (by rw [ht]; exact Int.natCast_nonneg _) (by rw [ht]; rfl) h) F
theorem callVU (X : Stand p l e R s m args below meth c T locs cells slots) (hx : p.tables.exec = Jvm.exec) (hZ : Z.Warmed39 s.vm) {own C owner : String} {index : Nat} {y z : MethodName} {bytes : ByteArray} {maxL W : Nat} {ret : Option FieldType} {rm : Room} {Qc : Option Value → Heap → List Loc → Prop} {argsL : List Value} {a : Addr} (hown : s.vm.findClass own = some m.cls)
    (wl : (Cond.methodLink own index y).before a0 Z = true) (wsm : (Cond.sameMethod y.cls owner y.name y.desc).before a0 Z = true) (wd : (Cond.declares ⟨owner, y.name, y.desc⟩).before a0 Z = true) (wsel : (Cond.selects C y z).before a0 Z = true) (wm : (Cond.instanceMethod z).before a0 Z = true) (wi : (Cond.initialized z.cls).before a0 Z = true) (wc : (Cond.code z bytes maxL ret).before a0 Z = true) (hy : owner ≠ "java/lang/invoke/MethodHandle" ∧ owner ≠ "java/lang/invoke/VarHandle")
    (hM : Met l Z z bytes maxL ret [] rm (Value.ref a :: argsL).toArray h Qc) (eT : T.heap = h) (E : Exa Z h a C) (hf : rm.frames + 1 ≤ R.frames) (hl : W + (maxL + 11) + rm.locals ≤ R.locals) (hck : cells + rm.cells ≤ R.cells) (hsk : slots + rm.slots ≤ R.slots) (hsz : Ls.size = c.maxLocals)
    (hlen : ∀ sig, parseMethodDescriptor y.desc = some sig → argsL.length = sig.parameters.length) (hst : st = argsL.reverse ++ .ref a :: rest) (hW : (rest.map fun v => v.category).sum ≤ W) (hd : decode c.code pc = .ok (.invokevirtual index, 3)) (hn : pc + 3 = n)
    (F : ∀ T' v L, Stand p l e R s m args below meth c T' (locs ++ L) (cells + rm.cells) (slots + rm.slots) → Qc v T'.heap L → Go p e below s Q K N T' (mkF m n Ls (v.toList ++ rest))) : Go p e below s Q K N T (mkF m pc Ls st) := by
  subst hn
  obtain ⟨cq, kq, qa, qb, qc⟩ := isOf hZ eT E
  obtain ⟨v, _, ⟨T18, L18, k18, n18⟩, -, X18, ⟨Lc18, hQ18, l18, y18, z18⟩, st18⟩ := X.virtualBackUp hx (x := y) (y := z) hown (mvT hZ wl) (mvT hZ wsm) (mvT hZ wd) hy (mvT hZ wsel) (mvT hZ wm) (backOf (W := W) hM hZ wc wi hf hl) qa qc (g := mkF m pc Ls st) rfl hsz (Steps.refl _) (argsL := argsL) (rest := rest) hlen hst (by show 2 * 0 + _ ≤ _; omega) hd (fun _ _ => ⟨rfl, eT, hck, hsk⟩)
  dsimp only [Pt.U, Pt.locs, Pt.cells, Pt.slots] at X18 l18 y18 z18 st18 hQ18
  subst l18 y18 z18
  exact go (fun _ h => st18.trans h) (F T18 v Lc18 X18 hQ18)
theorem callVUP (X : Stand p l e R s m args below meth c T locs cells slots) (hx : p.tables.exec = Jvm.exec) (hZ : Z.Warmed39 s.vm) {own C owner : String} {index : Nat} {y z : MethodName} {bytes : ByteArray} {maxL W : Nat} {ret : Option FieldType} {fr lo : Nat} {w : Value} {argsL : List Value} {a : Addr} (hown : s.vm.findClass own = some m.cls)
    (wl : (Cond.methodLink own index y).before a0 Z = true) (wsm : (Cond.sameMethod y.cls owner y.name y.desc).before a0 Z = true) (wd : (Cond.declares ⟨owner, y.name, y.desc⟩).before a0 Z = true) (wsel : (Cond.selects C y z).before a0 Z = true) (wm : (Cond.instanceMethod z).before a0 Z = true) (wi : (Cond.initialized z.cls).before a0 Z = true) (wc : (Cond.code z bytes maxL ret).before a0 Z = true) (hy : owner ≠ "java/lang/invoke/MethodHandle" ∧ owner ≠ "java/lang/invoke/VarHandle")
    (hM : Met l Z z bytes maxL ret [] { frames := fr, cells := 0, slots := 0, locals := lo } (Value.ref a :: argsL).toArray h (Pu w h)) (eT : T.heap = h) (E : Exa Z h a C) (hf : fr + 1 ≤ R.frames) (hl : W + (maxL + 11) + lo ≤ R.locals) (hck : cells ≤ R.cells) (hsk : slots ≤ R.slots) (hsz : Ls.size = c.maxLocals)
    (hlen : ∀ sig, parseMethodDescriptor y.desc = some sig → argsL.length = sig.parameters.length) (hst : st = argsL.reverse ++ .ref a :: rest) (hW : (rest.map fun v => v.category).sum ≤ W) (hd : decode c.code pc = .ok (.invokevirtual index, 3)) (hn : pc + 3 = n)
    (F : ∀ T', Stand p l e R s m args below meth c T' locs cells slots → T'.heap = h → Go p e below s Q K N T' (mkF m n Ls (w :: rest))) : Go p e below s Q K N T (mkF m pc Ls st) := by
  refine callVU X hx hZ hown wl wsm wd wsel wm wi wc hy hM eT E hf hl hck hsk hsz hlen hst hW hd hn ?_
  rintro T' v L X' ⟨rfl, rfl, hh⟩
  rw [List.append_nil] at X'
  exact F T' X' hh
theorem cutF (g' : JFrame) {g : JFrame} (h1 : Go p e below s Q K N T g' → Go p e below s Q K N T g) (h2 : Go p e below s Q K N T g') : Go p e below s Q K N T g := h1 h2
theorem cutJ (g' : Int32 → JFrame) {g : JFrame} (h1 : (∀ j, Go p e below s Q K N T (g' j)) → Go p e below s Q K N T g) (h2 : ∀ j, Go p e below s Q K N T (g' j)) : Go p e below s Q K N T g := h1 h2
theorem cutX (X : Stand p l e R s m args below meth c T locs cells slots) (eT : T.heap = h) (g' : JFrame) {g : JFrame} (h1 : (∀ T', Stand p l e R s m args below meth c T' locs cells slots → T'.heap = h → Go p e below s Q K N T' g') → Go p e below s Q K N T g) (h2 : ∀ T', Stand p l e R s m args below meth c T' locs cells slots → T'.heap = h → Go p e below s Q K N T' g') : Go p e below s Q K N T g := h1 h2
theorem pu {w : Value} {h' : Heap} (e : h' = h) : Pu w h (some w) h' [] := ⟨rfl, rfl, e⟩
theorem puE {w w' : Value} {h' : Heap} (q : w' = w) (e : h' = h) : Pu w h (some w') h' [] := ⟨by rw [q], rfl, e⟩
theorem puB1 {P : Prop} [Decidable P] {h' : Heap} (hP : P) (e : h' = h) : Pu (.int (b P)) h (some (.int 1)) h' [] := ⟨by rw [b_t hP], rfl, e⟩
theorem puB0 {P : Prop} [Decidable P] {h' : Heap} (hP : ¬ P) (e : h' = h) : Pu (.int (b P)) h (some (.int 0)) h' [] := ⟨by rw [b_f hP], rfl, e⟩
end W
section A
theorem t_add {x y : Int32} {a b' : Int} (ha : x.toInt = a) (hb : y.toInt = b') (h1 : -2147483648 ≤ a + b') (h2 : a + b' < 2147483648) : (x + y).toInt = a + b' := by
  subst ha hb; rw [Int32.toInt_add]; exact Int.bmod_eq_of_le (by omega) (by omega)
theorem t_sub {x y : Int32} {a b' : Int} (ha : x.toInt = a) (hb : y.toInt = b') (h1 : -2147483648 ≤ a - b') (h2 : a - b' < 2147483648) : (x - y).toInt = a - b' := by
  subst ha hb; rw [Int32.toInt_sub]; exact Int.bmod_eq_of_le (by omega) (by omega)
theorem t_mul {x y : Int32} {a b' : Int} (ha : x.toInt = a) (hb : y.toInt = b') (h1 : -2147483648 ≤ a * b') (h2 : a * b' < 2147483648) : (x * y).toInt = a * b' := by
  subst ha hb; rw [Int32.toInt_mul]; exact Int.bmod_eq_of_le (by omega) (by omega)
theorem t_div {x y : Int32} {a d : Int} (ha : x.toInt = a) (hb : y.toInt = d) (h0 : 0 ≤ a) (hd : 0 < d) : (x / y).toInt = a / d := by
  subst ha hb
  have hy : y ≠ -1 := fun q => by rw [q] at hd; exact absurd hd (by decide)
  exact (c_idiv x y _ rfl hy).1 h0
theorem t_rem {x y : Int32} {a d : Int} (ha : x.toInt = a) (hb : y.toInt = d) (h0 : 0 ≤ a) : (x % y).toInt = a % d := by
  subst ha hb; exact (c_irem x y _ rfl).1 h0
theorem s_add {x y : Int64} {a b' : Int} (ha : x.toInt = a) (hb : y.toInt = b') (h1 : -9223372036854775808 ≤ a + b') (h2 : a + b' < 9223372036854775808) : (x + y).toInt = a + b' := by
  subst ha hb; rw [Int64.toInt_add]; exact Int.bmod_eq_of_le (by omega) (by omega)
theorem s_sub {x y : Int64} {a b' : Int} (ha : x.toInt = a) (hb : y.toInt = b') (h1 : -9223372036854775808 ≤ a - b') (h2 : a - b' < 9223372036854775808) : (x - y).toInt = a - b' := by
  subst ha hb; rw [Int64.toInt_sub]; exact Int.bmod_eq_of_le (by omega) (by omega)
theorem t_i2l {x : Int32} {a : Int} (ha : x.toInt = a) : x.toInt64.toInt = a := by rw [Int32.toInt_toInt64]; exact ha
theorem s_l2i {x : Int64} {a : Int} (ha : x.toInt = a) (h1 : -2147483648 ≤ a) (h2 : a < 2147483648) : x.toInt32.toInt = a := by
  have := c_l2i x; have h3 := x.toInt32.toInt_lt; have h4 := x.toInt32.le_toInt; omega
theorem t_i2s {x : Int32} {a : Int} (ha : x.toInt = a) (h1 : -32768 ≤ a) (h2 : a < 32768) : x.toInt16.toInt32.toInt = a := by
  have := c_i2s x; omega
end A
section V
variable {args : Array Value} {first s : State} {o : Option Outcome} {idx : List Nat} {t : Term}
theorem eqI_v {k : Int32} (h : (Cond.eq t (.int k)).value args first o s idx = some true) : t.eval args first o idx s = some (.int k) := by
  simp only [Cond.value, Term.eval] at h
  cases ht : t.eval args first o idx s with
  | none => simp [ht] at h
  | some x => cases x <;> simp [ht] at h ⊢; exact h
theorem eqJ_v {k : Int64} (h : (Cond.eq t (.long k)).value args first o s idx = some true) : t.eval args first o idx s = some (.long k) := by
  simp only [Cond.value, Term.eval] at h
  cases ht : t.eval args first o idx s with
  | none => simp [ht] at h
  | some x => cases x <;> simp [ht] at h ⊢; exact h
theorem foldl_all {f : Nat → Option Bool} : ∀ (L : List Nat) (acc : Option Bool), L.foldl (fun acc i => match acc with | some true => f i | x => x) acc = some true → acc = some true ∧ ∀ i ∈ L, f i = some true
  | [], acc, h => ⟨h, fun _ q => nomatch q⟩
  | i :: L, acc, h => by
    obtain ⟨h1, h2⟩ := foldl_all L _ h
    match acc, h1 with
    | some true, h1 => exact ⟨rfl, fun j q => (List.mem_cons.mp q).elim (fun z => z ▸ h1) (h2 j)⟩
theorem all_v {c : Cond} {a : Addr} {cell : Cell} (h : (Cond.all t c).value args first o s idx = some true) (ht : t.eval args first o idx s = some (.ref a)) (hc : s.arrayAt? a = some cell) : ∀ i, i < cell.slots.size → c.value args first o s (i :: idx) = some true := by
  simp only [Cond.value, ht, hc] at h
  exact fun i hi => (foldl_all _ _ h).2 i (List.mem_range.mpr hi)
theorem elI {x : Addr} {j k : Int32} {cl : Cell} {i : Nat} (h : (Cond.eq (.elem t (.int j)) (.int k)).value args first o s idx = some true) (ht : t.eval args first o idx s = some (.ref x)) (hc : s.heap[x]? = some cl) (hi : j.toNatClampNeg = i) : cl.slots[i]? = some (.int k) := by
  subst hi; exact (elem_in (eqI_v h) ht rfl hc).2
theorem elN {x : Addr} {j : Int32} {cl : Cell} {i : Nat} (h : (Cond.eq (.elem t (.int j)) .null).value args first o s idx = some true) (ht : t.eval args first o idx s = some (.ref x)) (hc : s.heap[x]? = some cl) (hi : j.toNatClampNeg = i) : cl.slots[i]? = some .null := by
  subst hi; exact (elem_in (null_v h) ht rfl hc).2
theorem eqR_v {t' : Term} {v : Value} (hv : v.isRef = true) (h : (Cond.eq t t').value args first o s idx = some true) (ht : t'.eval args first o idx s = some v) : t.eval args first o idx s = some v := by
  obtain ⟨x, y, e1, e2, k1, k2⟩ := cmp_v (Or.inl h)
  cases ht.symm.trans e2
  have hx : x.isRef = true := by rcases ref_cases hv with rfl | ⟨z, rfl⟩ <;> exact k2.2
  rw [e1, gotT (eq_R e1 e2 hx hv) h]
theorem elR {x y : Addr} {j : Int32} {cl : Cell} {i : Nat} {t' : Term} (h : (Cond.eq (.elem t (.int j)) t').value args first o s idx = some true) (hy : t'.eval args first o idx s = some (.ref y)) (ht : t.eval args first o idx s = some (.ref x)) (hc : s.heap[x]? = some cl) (hi : j.toNatClampNeg = i) : cl.slots[i]? = some (.ref y) := by
  subst hi; exact (elem_in (eqR_v rfl h hy) ht rfl hc).2
theorem or_f {c d : Cond} (h : (Cond.or c d).value args first o s idx = some true) (hc : c.value args first o s idx = some false) : d.value args first o s idx = some true := by
  simpa only [Cond.value, hc] using h
theorem len_fit {x : Addr} {cl : Cell} {ty : FieldType} {k : Int32} {Z : State} (h : (Cond.eq (.length t) (.int k)).value args Z none Z [] = some true) (ht : t.eval args Z none [] Z = some (.ref x)) (A : Arr Z Z.heap x cl ty) : cl.slots.size < 2 ^ 31 ∧ cl.slots.size.toInt32 = k := by
  have h1 := eqI_v h
  have h2 : Z.arrayAt? x = some cl := A.fin (Vm.Alike.refl _)
  simp only [Term.eval, ht, h2, Option.bind_eq_bind, Option.bind_some] at h1
  by_cases q : cl.slots.size < 2 ^ 31
  · simp [q] at h1; exact ⟨q, h1⟩
  · simp [q] at h1
theorem fldI {Z : State} {a : Addr} {C n d : String} {k : Int32} (ev : t.eval args Z none [] Z = some (.ref a)) (h : (Cond.eq (.field t C n d) (.int k)).value args Z none Z [] = some true) : Fld Z Z.heap a C n d (.int k) := Fld.start ((fld_at ev).symm.trans (eqI_v h))
theorem fldJ {Z : State} {a : Addr} {C n d : String} {k : Int64} (ev : t.eval args Z none [] Z = some (.ref a)) (h : (Cond.eq (.field t C n d) (.long k)).value args Z none Z [] = some true) : Fld Z Z.heap a C n d (.long k) := Fld.start ((fld_at ev).symm.trans (eqJ_v h))
end V

section H
variable {p : Program} {l : Launch} {e : Env} {R : Room} {s : State} {m : MethodId} {args : Array Value} {below : List Frame} {meth : Method} {c : Code} {T T' : State} {locs : List Loc} {cells slots : Nat} {Q : Option Value → Heap → List Loc → Prop} {K N pc n t : Nat} {Ls l' : Array Slot} {st rest : List Value} {Z : State} {a0 : Array Value} {h : Heap}
/-- a law that writes only what it made -/
def Fq (w : Value) (n0 : Nat) (v : Option Value) (h : Heap) (L : List Loc) : Prop := v = some w ∧ Fr n0 L
theorem newO (X : Stand p l e R s m args below meth c T locs cells slots) (hx : p.tables.exec = Jvm.exec) (hZ : Z.Warmed39 s.vm) {own C : String} {index k : Nat} (hown : s.vm.findClass own = some m.cls) (w : (Cond.classLink own index C).before a0 Z = true) (wi : (Cond.instantiable C k).before a0 Z = true) (wz : (Cond.initialized C).before a0 Z = true) (eT : T.heap = h) (hd : decode c.code pc = .ok (.new index, 3)) (hc : cells + 1 ≤ R.cells) (hl : slots + k ≤ R.slots) (hn : pc + 3 = n)
    (F : ∀ T' h', Stand p l e R s m args below meth c T' locs (cells + 1) (slots + k) → T'.heap = h' → Ext h h' → Exa Z h' h.size C → (∀ {O nm d : String} {ty : FieldType}, Laid Z a0 C O nm d → parseFieldDescriptor d = some ty → Fld Z h' h.size O nm d (defaultValue ty)) → Go p e below s Q K N T' (mkF m n Ls (.ref h.size :: st))) : Go p e below s Q K N T (mkF m pc Ls st) := by
  subst hn
  obtain ⟨T2, h2, X2, e2, E2, A2, D2, -, st2⟩ := RoadKit.newO X hx hZ hown w wi wz eT (g := mkF m pc Ls st) rfl hd hc hl
  exact go (fun _ h => st2 _ h) (F T2 h2 X2 e2 E2 A2 D2)
theorem putF (X : Stand p l e R s m args below meth c T locs cells slots) (hx : p.tables.exec = Jvm.exec) (hZ : Z.Warmed39 s.vm) {own O f d host C : String} {index kk : Nat} {ty : FieldType} (hown : s.vm.findClass own = some m.cls) (w : (Cond.fieldLink own index O f d).before a0 Z = true ∨ (Cond.fieldLinkNest own index O f d host).before a0 Z = true) (eT : T.heap = h) {a : Addr} {v old : Value} (S : Fld Z h a O f d old) (E : Exa Z h a C)
    (L : (Cond.lays C O f d).before a0 Z = true ∨ ((Cond.laysFinal C O f d).before a0 Z = true ∧ own = O ∧ meth.name = "<init>")) (wi : (Cond.instantiable C kk).before a0 Z = true) (hty : parseFieldDescriptor d = some ty) (hnr : narrow ty v = v) (hf : fits ty v = true) (hd : decode c.code pc = .ok (.putfield index, 3)) (hn : pc + 3 = n)
    (F : ∀ T' h', Stand p l e R s m args below meth c T' (locs ++ [⟨a, RoadKit.slotOf Z O f d⟩]) cells slots → T'.heap = h' → Wr h h' a (RoadKit.slotOf Z O f d) v → Go p e below s Q K N T' (mkF m n Ls st)) : Go p e below s Q K N T (mkF m pc Ls (v :: .ref a :: st)) := by
  subst hn
  obtain ⟨T2, h2, X2, e2, W2, st2⟩ := RoadKit.putF X hx hZ hown (host := host) w Via.refl eT S E L wi hty hnr hf (g := mkF m pc Ls (v :: .ref a :: st)) rfl rfl hd
  exact go (fun _ h => st2 _ h) (F T2 h2 X2 e2 W2)
theorem initO (X : Stand p l e R s m args below meth c T locs cells slots) (hx : p.tables.exec = Jvm.exec) (hZ : Z.Warmed39 s.vm) {own : String} {idx W : Nat} (hown : s.vm.findClass own = some m.cls) (w1 : (Cond.methodLink own idx Lib.objectInit).before a0 Z = true) (w2 : (Cond.instanceMethod Lib.objectInit).before a0 Z = true) (w3 : (Cond.code Lib.objectInit ⟨#[0xb1]⟩ 1 none).before a0 Z = true) (eT : T.heap = h) {a : Addr} (hsz : Ls.size = c.maxLocals) (hf : 1 ≤ R.frames) (hW : (st.map fun v => v.category).sum ≤ W) (hl : W + 12 ≤ R.locals) (hd : decode c.code pc = .ok (.invokespecial idx, 3)) (hn : pc + 3 = n)
    (F : ∀ T', Stand p l e R s m args below meth c T' locs cells slots → T'.heap = h → Go p e below s Q K N T' (mkF m n Ls st)) : Go p e below s Q K N T (mkF m pc Ls (.ref a :: st)) := by
  subst hn
  obtain ⟨T2, X2, e2, st2⟩ := RoadKit.initO X hx hZ hown w1 w2 w3 eT (g := mkF m pc Ls (.ref a :: st)) rfl hsz rfl hd hf (W := W) (by show 2 * 0 + _ ≤ _; omega) hl
  exact go (fun _ h => st2 _ h) (F T2 X2 e2)
theorem callI (X : Stand p l e R s m args below meth c T locs cells slots) (hx : p.tables.exec = Jvm.exec) (hZ : Z.Warmed39 s.vm) {own : String} {index : Nat} {y : MethodName} {bytes : ByteArray} {maxL W : Nat} {rm : Room} {Qc : Option Value → Heap → List Loc → Prop} {argsL : List Value} {a : Addr} (hy1 : y.name = "<init>") (hown : s.vm.findClass own = some m.cls)
    (wl : (Cond.methodLink own index y).before a0 Z = true) (wm : (Cond.instanceMethod y).before a0 Z = true) (wi : (Cond.initialized y.cls).before a0 Z = true) (wc : (Cond.code y bytes maxL none).before a0 Z = true) (hy : y.cls ≠ "java/lang/invoke/MethodHandle" ∧ y.cls ≠ "java/lang/invoke/VarHandle")
    (hM : Met l Z y bytes maxL none [] rm (Value.ref a :: argsL).toArray h Qc) (eT : T.heap = h) (hf : rm.frames + 1 ≤ R.frames) (hl : W + (maxL + 11) + rm.locals ≤ R.locals) (hck : cells + rm.cells ≤ R.cells) (hsk : slots + rm.slots ≤ R.slots) (hsz : Ls.size = c.maxLocals)
    (hlen : ∀ sig, parseMethodDescriptor y.desc = some sig → argsL.length = sig.parameters.length) (hst : st = argsL.reverse ++ .ref a :: rest) (hW : (rest.map fun v => v.category).sum ≤ W) (hd : decode c.code pc = .ok (.invokespecial index, 3)) (hn : pc + 3 = n)
    (F : ∀ T' v L, Stand p l e R s m args below meth c T' (locs ++ L) (cells + rm.cells) (slots + rm.slots) → Qc v T'.heap L → Go p e below s Q K N T' (mkF m n Ls (v.toList ++ rest))) : Go p e below s Q K N T (mkF m pc Ls st) := by
  subst hn
  obtain ⟨v, _, ⟨T18, L18, k18, n18⟩, -, X18, ⟨Lc18, hQ18, l18, y18, z18⟩, st18⟩ := X.specialBack hx (y := y) hy1 hown (mvT hZ wl) (mvT hZ wm) (mvT hZ wc) hy (backOf (W := W) hM hZ wc wi hf hl) (g := mkF m pc Ls st) rfl hsz (Steps.refl _) (a := a) (argsL := argsL) (rest := rest) hlen hst (by show 2 * 0 + _ ≤ _; omega) hd (fun _ _ => ⟨rfl, eT, hck, hsk⟩)
  dsimp only [Pt.U, Pt.locs, Pt.cells, Pt.slots] at X18 l18 y18 z18 st18 hQ18
  subst l18 y18 z18
  exact go (fun _ h => st18.trans h) (F T18 v Lc18 X18 hQ18)
theorem instY (X : Stand p l e R s m args below meth c T locs cells slots) (hx : p.tables.exec = Jvm.exec) (hZ : Z.Warmed39 s.vm) {own C : String} {index : Nat} (hown : s.vm.findClass own = some m.cls) (w : (Cond.classLink own index C).before a0 Z = true) (eT : T.heap = h) {a : Addr} (E : Exa Z h a C) (hd : decode c.code pc = .ok (.instanceof index, 3)) (hn : pc + 3 = n)
    (F : ∀ T', Stand p l e R s m args below meth c T' locs cells slots → T'.heap = h → Go p e below s Q K N T' (mkF m n Ls (.int 1 :: st))) : Go p e below s Q K N T (mkF m pc Ls (.ref a :: st)) := by
  subst hn
  obtain ⟨T2, X2, e2, st2⟩ := RoadKit.instY X hx hZ hown w eT (Ins.self E) (g := mkF m pc Ls (.ref a :: st)) rfl rfl hd
  exact go (fun _ h => st2 _ h) (F T2 X2 e2)
theorem castY (X : Stand p l e R s m args below meth c T locs cells slots) (hx : p.tables.exec = Jvm.exec) (hZ : Z.Warmed39 s.vm) {own C : String} {index : Nat} (hown : s.vm.findClass own = some m.cls) (w : (Cond.classLink own index C).before a0 Z = true) (eT : T.heap = h) {a : Addr} (E : Exa Z h a C) (hd : decode c.code pc = .ok (.checkcast index, 3)) (hn : pc + 3 = n)
    (F : ∀ T', Stand p l e R s m args below meth c T' locs cells slots → T'.heap = h → Go p e below s Q K N T' (mkF m n Ls (.ref a :: st))) : Go p e below s Q K N T (mkF m pc Ls (.ref a :: st)) := by
  subst hn
  obtain ⟨T2, X2, e2, st2⟩ := RoadKit.castY X hx hZ hown w eT (Ins.self E) (g := mkF m pc Ls (.ref a :: st)) rfl rfl hd
  exact go (fun _ h => st2 _ h) (F T2 X2 e2)
theorem newP (X : Stand p l e R s m args below meth c T locs cells slots) (hx : p.tables.exec = Jvm.exec) (hZ : Z.Warmed39 s.vm) {aty : ArrayType} {ty : FieldType} (hty : newarray.typeOf aty = ty) (w : (Cond.arrayClass ty).before a0 Z = true) (eT : T.heap = h) {z : Int32} (hz : ¬ z < 0) (cap : Nat) (hcap : z.toNatClampNeg = cap) (hb : cap * 8 ≤ 536870912) (hc : cells + 1 ≤ R.cells) (hl : slots + cap ≤ R.slots) (hd : decode c.code pc = .ok (.newarray aty, 2)) (hn : pc + 2 = n)
    (F : ∀ T' h' cA, Stand p l e R s m args below meth c T' locs (cells + 1) (slots + cap) → T'.heap = h' → Ext h h' → Arv Z h' h.size cA ty z (List.replicate cap (defaultValue ty)) (defaultValue ty) → Go p e below s Q K N T' (mkF m n Ls (.ref h.size :: st))) : Go p e below s Q K N T (mkF m pc Ls (.int z :: st)) := by
  subst hn hty
  obtain ⟨T2, h2, cA, X2, e2, E2, A2, st2⟩ := RoadKit.newP X hx hZ w eT (g := mkF m pc Ls (.int z :: st)) rfl hd rfl hz (cap := cap) (Nat.le_of_eq hcap) hb hc hl
  exact go (fun _ h => st2 _ h) (F T2 h2 cA X2 e2 E2 ((Arv.new A2 hz).pad (pad_rep [] _ cap)))

theorem bastore (X : Stand p l e R s m args below meth c T locs cells slots) (hx : p.tables.exec = Jvm.exec) (hZ : Z.Warmed39 s.vm) {a : Addr} {k : ClassId} {z j x : Int32} {vs : List Value} {d : Value} (eT : T.heap = h) (A : Arv Z h a k .byte z vs d) (h1 : 0 ≤ j.toInt) (h2 : j.toInt < z.toInt) (i : Nat) (hj : j.toNatClampNeg = i) (hi : i < vs.length) (hd : decode c.code pc = .ok (.bastore, 1)) (hn : pc + 1 = n)
    (F : ∀ T' h', Stand p l e R s m args below meth c T' (locs ++ [⟨a, j.toNatClampNeg⟩]) cells slots → T'.heap = h' → Wr h h' a j.toNatClampNeg (.int (nar .byte x)) → Arv Z h' a k .byte z (vs.set i (.int (nar .byte x))) d → Go p e below s Q K N T' (mkF m n Ls st)) : Go p e below s Q K N T (mkF m pc Ls (.int x :: .int j :: .ref a :: st)) := by
  subst hn
  obtain ⟨cl, Ar, q1, S, q3, H, G'⟩ := A
  obtain ⟨T2, h2', X2, e2, W2, st2⟩ := RoadKit.stB X hx hZ eT Ar (in_of S q3 h1 h2) (g := mkF m pc Ls (.int x :: .int j :: .ref a :: st)) rfl rfl hd
  exact go (fun _ h => st2 _ h) (F T2 h2' X2 e2 W2 (Arv.set Ar q1 S q3 H G' (fits_nar_byte x) W2 i hj hi))
theorem castore (X : Stand p l e R s m args below meth c T locs cells slots) (hx : p.tables.exec = Jvm.exec) (hZ : Z.Warmed39 s.vm) {a : Addr} {k : ClassId} {z j x : Int32} {vs : List Value} {d : Value} (eT : T.heap = h) (A : Arv Z h a k .char z vs d) (h1 : 0 ≤ j.toInt) (h2 : j.toInt < z.toInt) (i : Nat) (hj : j.toNatClampNeg = i) (hi : i < vs.length) (hd : decode c.code pc = .ok (.castore, 1)) (hn : pc + 1 = n)
    (F : ∀ T' h', Stand p l e R s m args below meth c T' (locs ++ [⟨a, j.toNatClampNeg⟩]) cells slots → T'.heap = h' → Wr h h' a j.toNatClampNeg (.int (nar .char x)) → Arv Z h' a k .char z (vs.set i (.int (nar .char x))) d → Go p e below s Q K N T' (mkF m n Ls st)) : Go p e below s Q K N T (mkF m pc Ls (.int x :: .int j :: .ref a :: st)) := by
  subst hn
  obtain ⟨cl, Ar, q1, S, q3, H, G'⟩ := A
  obtain ⟨T2, h2', X2, e2, W2, st2⟩ := RoadKit.stC X hx hZ eT Ar (in_of S q3 h1 h2) (g := mkF m pc Ls (.int x :: .int j :: .ref a :: st)) rfl rfl hd
  exact go (fun _ h => st2 _ h) (F T2 h2' X2 e2 W2 (Arv.set Ar q1 S q3 H G' (fits_nar_char x) W2 i hj hi))
theorem iastore (X : Stand p l e R s m args below meth c T locs cells slots) (hx : p.tables.exec = Jvm.exec) (hZ : Z.Warmed39 s.vm) {a : Addr} {k : ClassId} {z j x : Int32} {vs : List Value} {d : Value} (eT : T.heap = h) (A : Arv Z h a k .int z vs d) (h1 : 0 ≤ j.toInt) (h2 : j.toInt < z.toInt) (i : Nat) (hj : j.toNatClampNeg = i) (hi : i < vs.length) (hd : decode c.code pc = .ok (.iastore, 1)) (hn : pc + 1 = n)
    (F : ∀ T' h', Stand p l e R s m args below meth c T' (locs ++ [⟨a, j.toNatClampNeg⟩]) cells slots → T'.heap = h' → Wr h h' a j.toNatClampNeg (.int (x)) → Arv Z h' a k .int z (vs.set i (.int (x))) d → Go p e below s Q K N T' (mkF m n Ls st)) : Go p e below s Q K N T (mkF m pc Ls (.int x :: .int j :: .ref a :: st)) := by
  subst hn
  obtain ⟨cl, Ar, q1, S, q3, H, G'⟩ := A
  obtain ⟨T2, h2', X2, e2, W2, st2⟩ := RoadKit.stI X hx hZ eT Ar (in_of S q3 h1 h2) (g := mkF m pc Ls (.int x :: .int j :: .ref a :: st)) rfl rfl hd
  exact go (fun _ h => st2 _ h) (F T2 h2' X2 e2 W2 (Arv.set Ar q1 S q3 H G' (rfl) W2 i hj hi))
def FldE (Z : State) (h : Heap) (a : Addr) (C n d : String) : Prop := ∃ v, Fld Z h a C n d v
theorem FldE.of {Z : State} {h : Heap} {a : Addr} {C n d : String} {v : Value} (F : Fld Z h a C n d v) : FldE Z h a C n d := ⟨v, F⟩
theorem FldE.ext {Z : State} {h h' : Heap} {a : Addr} {C n d : String} (F : FldE Z h a C n d) (E : Ext h h') : FldE Z h' a C n d := by obtain ⟨v, F⟩ := F; exact ⟨v, F.ext E⟩
theorem FldE.keep {Z : State} {h h' : Heap} {ws : List Addr} {a : Addr} {C n d : String} (F : FldE Z h a C n d) (K : Keep h h' ws) : FldE Z h' a C n d := by
  obtain ⟨v, cell, cf, k, i, f, h1, h2, h3, h4, h5, h6, h7⟩ := F
  obtain ⟨c', q, r1, r2, r3⟩ := K.2.2 a cell h1
  have hlt := (Array.getElem?_eq_some_iff.mp h7).1
  exact ⟨_, c', cf, k, i, f, q, h2, h3, r2 ▸ h4, r2 ▸ h5, r1 ▸ h6, Array.getElem?_eq_getElem (r3 ▸ hlt)⟩
theorem FldE.wr {Z : State} {h h' : Heap} {a b' : Addr} {C n d : String} {sl : Nat} {v : Value} (F : FldE Z h b' C n d) (W : Wr h h' a sl v) : FldE Z h' b' C n d := F.keep (Keep.of_wr W)
theorem nfOf {args : Array Value} {s : State} {C : String} {y y' z' : MethodName} (hsel : (Cond.selects C y' z').before args s = true) (hc : z'.cls = y.cls) : NotFace s y := fun r0 h0 => by
  obtain ⟨c2, r2, m2, q1, q2, q3, q4, kP, hkP, hkPi⟩ := Cond.selects_spec hsel
  have h1 := findClass_of_methodNamed q3
  have h2 := findClass_of_methodNamed h0
  rw [hc] at h1
  have e : m2.cls = r0.cls := Option.some.inj (h1.symm.trans h2)
  exact ⟨kP, e ▸ hkP, hkPi⟩
theorem acopy (X : Stand p l e R s m args below meth c T locs cells slots) (hx : p.tables.exec = Jvm.exec) (hZ : Z.Warmed39 s.vm) {own : String} {index : Nat} (hown : s.vm.findClass own = some m.cls) (wl : (Cond.methodLink own index Stand.acN).before a0 Z = true) (wn : (Cond.native Stand.acN).before a0 Z = true) (ws : (Cond.static Stand.acN).before a0 Z = true) (wi : (Cond.initialized "java/lang/System").before a0 Z = true) (eT : T.heap = h)
    {src dst : Addr} {k1 k2 : ClassId} {z1 z2 p1 p2 q : Int32} {vs1 vs2 : List Value} {d1 d2 : Value} (A1 : Arv Z h src k1 .int z1 vs1 d1) (A2 : Arv Z h dst k2 .int z2 vs2 d2) (h1 : 0 ≤ p1.toInt) (h2 : 0 ≤ p2.toInt) (h3 : 0 ≤ q.toInt) (h4 : p1.toInt + q.toInt ≤ z1.toInt) (h5 : p2.toInt + q.toInt ≤ z2.toInt)
    {W : Nat} (hsz : Ls.size = c.maxLocals) (hf : 1 ≤ R.frames) (hW : (st.map fun v => v.category).sum ≤ W) (hl : W + (nativeFrameWords "java/lang/System" "arraycopy" 5 + 11) ≤ R.locals) (hd : decode c.code pc = .ok (.invokestatic index, 3)) (hn : pc + 3 = n)
    (F : ∀ T' h', Stand p l e R s m args below meth c T' (locs ++ Stand.copyLocs dst p2.toNatClampNeg q.toNatClampNeg) cells slots → T'.heap = h' → Keep h h' [dst] → Go p e below s Q K N T' (mkF m n Ls st)) : Go p e below s Q K N T (mkF m pc Ls (.int q :: .int p2 :: .ref dst :: .int p1 :: .ref src :: st)) := by
  subst hn
  subst eT
  obtain ⟨cs, As, -, Ss, Ns, Hs, Gs⟩ := A1
  obtain ⟨cd, Ad, -, Sd, Nd, Hd, Gd⟩ := A2
  have isA := State.isArrayOf_alike hZ.alike As.2.1
  have idA := State.isArrayOf_alike hZ.alike Ad.2.1
  obtain ⟨-, ks, hks, sC, hsk⟩ := isA
  obtain ⟨-, kd, hkd, dC, hdk⟩ := idA
  have en : ∀ x : Int32, 0 ≤ x.toInt → ¬ x < 0 := fun x hx0 => by rw [Int32.lt_iff_toInt_lt]; have e0 : (0 : Int32).toInt = 0 := rfl; omega
  have ez : ∀ x : Int32, ¬ x < 0 → (x.toNatClampNeg : Int) = x.toInt := fun x hx0 => by
    rw [Int32.lt_iff_toInt_lt] at hx0; have e0 : (0 : Int32).toInt = 0 := rfl; have e1 : x.toNatClampNeg = x.toInt.toNat := rfl; omega
  have e1 := ez z1 Ns; have e2 := ez z2 Nd; have e3 := ez p1 (en p1 h1); have e4 := ez q (en q h3); have e5 := ez p2 (en p2 h2)
  obtain ⟨vm₁, -, X', st'⟩ := X.arraycopyK hx hown (mvT hZ wl) (mvT hZ wn) (mvT hZ ws) (mvT hZ wi) (src := src) (dst := dst) (srcPos := p1) (destPos := p2) (n := q) (cs := cs) (cd := cd) As.1 Ad.1
    (fun z e => by have := As.plain; rw [e] at this; cases this) (fun z e => by have := Ad.plain; rw [e] at this; cases this) As.2.2 Ad.2.2 hks hkd hsk hdk rfl (en p1 h1) (en p2 h2) (en q h3) (by rw [Ss]; omega) (by rw [Sd]; omega)
    (fun vm' _ i hi => by
      have hlt : p1.toNatClampNeg + i < cs.slots.size := by rw [Ss]; omega
      have hh := Hs _ hlt
      have hg := Gs _ hlt
      have hgd : cs.slots.getD (p1.toNatClampNeg + i) .null = vs1.getD (p1.toNatClampNeg + i) d1 := by rw [Array.getD_eq_getD_getElem?, hh]; rfl
      rw [hgd]
      refine ⟨hg, ?_⟩
      obtain ⟨x, hx'⟩ := fit_I hg (Or.inl rfl)
      rw [hx']; trivial)
    (g := mkF m pc Ls (.int q :: .int p2 :: .ref dst :: .int p1 :: .ref src :: st)) rfl hsz rfl hd hf (by show 2 * 0 + _ + _ ≤ _; omega)
  refine go (fun _ h => st' _ h) (F _ _ X' rfl ?_)
  have cf := SB.copied_facts cs cd p1 p2 q
  have hb : dst < T.heap.size := (Array.getElem?_eq_some_iff.mp Ad.1).1
  refine ⟨by show T.heap.size ≤ (T.heap.setIfInBounds dst _).size; simp, fun x c hc hx' => ?_, fun x c hc => ?_⟩
  · show (T.heap.setIfInBounds dst _)[x]? = _
    have hne : dst ≠ x := fun z => hx' (by simp [z])
    rw [Array.getElem?_setIfInBounds_ne hne]; exact hc
  · show ∃ c', (T.heap.setIfInBounds dst _)[x]? = some c' ∧ _
    by_cases z : dst = x
    · subst z; cases Ad.1.symm.trans hc
      exact ⟨_, Array.getElem?_setIfInBounds_self_of_lt hb, cf⟩
    · exact ⟨c, by rw [Array.getElem?_setIfInBounds_ne z]; exact hc, rfl, rfl, rfl⟩
theorem ext_of_keep {h h' : Heap} (K : Keep h h' []) : Ext h h' := ⟨K.1, fun a c q => K.2.1 a c q nin0⟩
theorem keep_of_ext {h h' : Heap} (E : Ext h h') : Keep h h' [] := (Keep.refl _ _).ext E
theorem ext_refl (h : Heap) : Ext h h := ⟨Nat.le_refl _, fun _ _ q => q⟩
theorem ext_trans {h h' h'' : Heap} (E : Ext h h') (E' : Ext h' h'') : Ext h h'' := ⟨Nat.le_trans E.1 E'.1, fun a c q => E'.2 a c (E.2 a c q)⟩
end H
end Jvm.Wk
namespace Jvm.Pilot.@@N@@
open Jvm Jvm.ClassFile Sem Op Lib Jvm.Free Jvm.Stand Jvm.LawKit Jvm.RoadKit Bundle Jvm.Pilot.@@N@@.Jvm.D
theorem d1_0 : decode jdk_42_method_3_code 0 = .ok (.aload_n 0, 1) := by decide +kernel
theorem d1_1 : decode jdk_42_method_3_code 1 = .ok (.aload_n 1, 1) := by decide +kernel
theorem d1_2 : decode jdk_42_method_3_code 2 = .ok (.iconst 0, 1) := by decide +kernel
theorem d1_3 : decode jdk_42_method_3_code 3 = .ok (.aload_n 1, 1) := by decide +kernel
theorem d1_4 : decode jdk_42_method_3_code 4 = .ok (.arraylength, 1) := by decide +kernel
theorem d1_5 : decode jdk_42_method_3_code 5 = .ok (.aconst_null, 1) := by decide +kernel
theorem d1_6 : decode jdk_42_method_3_code 6 = .ok (.invokespecial 27, 3) := by decide +kernel
theorem d1_9 : decode jdk_42_method_3_code 9 = .ok (.return_, 1) := by decide +kernel
theorem pd1 : parseMethodDescriptor "([C)V" = some ⟨[(.array .char)], none⟩ := by decide +kernel
theorem pn1 : plainName "java/lang/String" = true := by first | (simp [plainName, overriddenIn]; done) | decide +kernel
theorem d2_0 : decode jdk_42_method_149_code 0 = .ok (.aload_n 0, 1) := by decide +kernel
theorem d2_1 : decode jdk_42_method_149_code 1 = .ok (.invokespecial 1, 3) := by decide +kernel
theorem d2_4 : decode jdk_42_method_149_code 4 = .ok (.iload_n 3, 1) := by decide +kernel
theorem d2_5 : decode jdk_42_method_149_code 5 = .ok (.ifCond .ne 22, 3) := by decide +kernel
theorem d2_27 : decode jdk_42_method_149_code 27 = .ok (.getstatic 38, 3) := by decide +kernel
theorem d2_30 : decode jdk_42_method_149_code 30 = .ok (.ifCond .eq 28, 3) := by decide +kernel
theorem d2_33 : decode jdk_42_method_149_code 33 = .ok (.aload_n 1, 1) := by decide +kernel
theorem d2_34 : decode jdk_42_method_149_code 34 = .ok (.iload_n 2, 1) := by decide +kernel
theorem d2_35 : decode jdk_42_method_149_code 35 = .ok (.iload_n 3, 1) := by decide +kernel
theorem d2_36 : decode jdk_42_method_149_code 36 = .ok (.invokestatic 177, 3) := by decide +kernel
theorem d2_39 : decode jdk_42_method_149_code 39 = .ok (.astore 5, 2) := by decide +kernel
theorem d2_41 : decode jdk_42_method_149_code 41 = .ok (.aload_n 0, 1) := by decide +kernel
theorem d2_42 : decode jdk_42_method_149_code 42 = .ok (.aload 5, 2) := by decide +kernel
theorem d2_44 : decode jdk_42_method_149_code 44 = .ok (.iload_n 3, 1) := by decide +kernel
theorem d2_45 : decode jdk_42_method_149_code 45 = .ok (.invokestatic 47, 3) := by decide +kernel
theorem d2_48 : decode jdk_42_method_149_code 48 = .ok (.putfield 15, 3) := by decide +kernel
theorem d2_51 : decode jdk_42_method_149_code 51 = .ok (.aload_n 0, 1) := by decide +kernel
theorem d2_52 : decode jdk_42_method_149_code 52 = .ok (.aload 5, 2) := by decide +kernel
theorem d2_54 : decode jdk_42_method_149_code 54 = .ok (.putfield 9, 3) := by decide +kernel
theorem d2_57 : decode jdk_42_method_149_code 57 = .ok (.return_, 1) := by decide +kernel
theorem pd2 : parseMethodDescriptor "([CIILjava/lang/Void;)V" = some ⟨[(.array .char), .int, .int, (.object "java/lang/Void")], none⟩ := by decide +kernel
theorem pn2 : plainName "java/lang/String" = true := by first | (simp [plainName, overriddenIn]; done) | decide +kernel
theorem d4_0 : decode jdk_52_method_16_code 0 = .ok (.iload_n 2, 1) := by decide +kernel
theorem d4_1 : decode jdk_52_method_16_code 1 = .ok (.newarray .byte, 2) := by decide +kernel
theorem d4_3 : decode jdk_52_method_16_code 3 = .ok (.astore_n 3, 1) := by decide +kernel
theorem d4_4 : decode jdk_52_method_16_code 4 = .ok (.aload_n 0, 1) := by decide +kernel
theorem d4_5 : decode jdk_52_method_16_code 5 = .ok (.iload_n 1, 1) := by decide +kernel
theorem d4_6 : decode jdk_52_method_16_code 6 = .ok (.aload_n 3, 1) := by decide +kernel
theorem d4_7 : decode jdk_52_method_16_code 7 = .ok (.iconst 0, 1) := by decide +kernel
theorem d4_8 : decode jdk_52_method_16_code 8 = .ok (.iload_n 2, 1) := by decide +kernel
theorem d4_9 : decode jdk_52_method_16_code 9 = .ok (.invokestatic 115, 3) := by decide +kernel
theorem d4_12 : decode jdk_52_method_16_code 12 = .ok (.istore 4, 2) := by decide +kernel
theorem d4_14 : decode jdk_52_method_16_code 14 = .ok (.iload 4, 2) := by decide +kernel
theorem d4_16 : decode jdk_52_method_16_code 16 = .ok (.iload_n 2, 1) := by decide +kernel
theorem d4_17 : decode jdk_52_method_16_code 17 = .ok (.if_icmp .eq 40, 3) := by decide +kernel
theorem d4_57 : decode jdk_52_method_16_code 57 = .ok (.aload_n 3, 1) := by decide +kernel
theorem d4_58 : decode jdk_52_method_16_code 58 = .ok (.areturn, 1) := by decide +kernel
theorem pd4 : parseMethodDescriptor "([CII)[B" = some ⟨[(.array .char), .int, .int], some (.array .byte)⟩ := by decide +kernel
theorem pn4 : plainName "java/lang/StringUTF16" = true := by first | (simp [plainName, overriddenIn]; done) | decide +kernel
theorem d5_0 : decode jdk_52_method_21_code 0 = .ok (.iconst 0, 1) := by decide +kernel
theorem d5_1 : decode jdk_52_method_21_code 1 = .ok (.istore 5, 2) := by decide +kernel
theorem d5_3 : decode jdk_52_method_21_code 3 = .ok (.iload 5, 2) := by decide +kernel
theorem d5_5 : decode jdk_52_method_21_code 5 = .ok (.iload 4, 2) := by decide +kernel
theorem d5_7 : decode jdk_52_method_21_code 7 = .ok (.if_icmp .ge 37, 3) := by decide +kernel
theorem d5_10 : decode jdk_52_method_21_code 10 = .ok (.aload_n 0, 1) := by decide +kernel
theorem d5_11 : decode jdk_52_method_21_code 11 = .ok (.iload_n 1, 1) := by decide +kernel
theorem d5_12 : decode jdk_52_method_21_code 12 = .ok (.caload, 1) := by decide +kernel
theorem d5_13 : decode jdk_52_method_21_code 13 = .ok (.istore 6, 2) := by decide +kernel
theorem d5_15 : decode jdk_52_method_21_code 15 = .ok (.iload 6, 2) := by decide +kernel
theorem d5_17 : decode jdk_52_method_21_code 17 = .ok (.sipush 255, 3) := by decide +kernel
theorem d5_20 : decode jdk_52_method_21_code 20 = .ok (.if_icmp .le 6, 3) := by decide +kernel
theorem d5_23 : decode jdk_52_method_21_code 23 = .ok (.iload 5, 2) := by decide +kernel
theorem d5_25 : decode jdk_52_method_21_code 25 = .ok (.ireturn, 1) := by decide +kernel
theorem d5_26 : decode jdk_52_method_21_code 26 = .ok (.aload_n 2, 1) := by decide +kernel
theorem d5_27 : decode jdk_52_method_21_code 27 = .ok (.iload_n 3, 1) := by decide +kernel
theorem d5_28 : decode jdk_52_method_21_code 28 = .ok (.iload 6, 2) := by decide +kernel
theorem d5_30 : decode jdk_52_method_21_code 30 = .ok (.i2b, 1) := by decide +kernel
theorem d5_31 : decode jdk_52_method_21_code 31 = .ok (.bastore, 1) := by decide +kernel
theorem d5_32 : decode jdk_52_method_21_code 32 = .ok (.iinc 1 1, 3) := by decide +kernel
theorem d5_35 : decode jdk_52_method_21_code 35 = .ok (.iinc 3 1, 3) := by decide +kernel
theorem d5_38 : decode jdk_52_method_21_code 38 = .ok (.iinc 5 1, 3) := by decide +kernel
theorem d5_41 : decode jdk_52_method_21_code 41 = .ok (.goto (-38), 3) := by decide +kernel
theorem d5_44 : decode jdk_52_method_21_code 44 = .ok (.iload 4, 2) := by decide +kernel
theorem d5_46 : decode jdk_52_method_21_code 46 = .ok (.ireturn, 1) := by decide +kernel
theorem pd5 : parseMethodDescriptor "([CI[BII)I" = some ⟨[(.array .char), .int, (.array .byte), .int, .int], some .int⟩ := by decide +kernel
theorem pn5 : plainName "java/lang/StringUTF16" = true := by first | (simp [plainName, overriddenIn]; done) | decide +kernel
theorem d6_0 : decode jdk_52_method_15_code 0 = .ok (.iload_n 1, 1) := by decide +kernel
theorem d6_1 : decode jdk_52_method_15_code 1 = .ok (.aload_n 0, 1) := by decide +kernel
theorem d6_2 : decode jdk_52_method_15_code 2 = .ok (.arraylength, 1) := by decide +kernel
theorem d6_3 : decode jdk_52_method_15_code 3 = .ok (.isub, 1) := by decide +kernel
theorem d6_4 : decode jdk_52_method_15_code 4 = .ok (.bipush 31, 2) := by decide +kernel
theorem d6_6 : decode jdk_52_method_15_code 6 = .ok (.iushr, 1) := by decide +kernel
theorem d6_7 : decode jdk_52_method_15_code 7 = .ok (.i2b, 1) := by decide +kernel
theorem d6_8 : decode jdk_52_method_15_code 8 = .ok (.ireturn, 1) := by decide +kernel
theorem pd6 : parseMethodDescriptor "([BI)B" = some ⟨[(.array .byte), .int], some .byte⟩ := by decide +kernel
theorem pn6 : plainName "java/lang/StringUTF16" = true := by first | (simp [plainName, overriddenIn]; done) | decide +kernel
theorem d7_0 : decode method_2_code 0 = .ok (.iload_n 0, 1) := by decide +kernel
theorem d7_1 : decode method_2_code 1 = .ok (.ldc 7, 2) := by decide +kernel
theorem d7_3 : decode method_2_code 3 = .ok (.iand, 1) := by decide +kernel
theorem d7_4 : decode method_2_code 4 = .ok (.iconst 5, 1) := by decide +kernel
theorem d7_5 : decode method_2_code 5 = .ok (.irem, 1) := by decide +kernel
theorem d7_6 : decode method_2_code 6 = .ok (.istore_n 1, 1) := by decide +kernel
theorem d7_7 : decode method_2_code 7 = .ok (.iload_n 1, 1) := by decide +kernel
theorem d7_8 : decode method_2_code 8 = .ok (.ifCond .ne 7, 3) := by decide +kernel
theorem d7_11 : decode method_2_code 11 = .ok (.getstatic 8, 3) := by decide +kernel
theorem d7_14 : decode method_2_code 14 = .ok (.areturn, 1) := by decide +kernel
theorem d7_15 : decode method_2_code 15 = .ok (.iload_n 1, 1) := by decide +kernel
theorem d7_16 : decode method_2_code 16 = .ok (.iconst 1, 1) := by decide +kernel
theorem d7_17 : decode method_2_code 17 = .ok (.if_icmp .ne 7, 3) := by decide +kernel
theorem d7_20 : decode method_2_code 20 = .ok (.getstatic 14, 3) := by decide +kernel
theorem d7_23 : decode method_2_code 23 = .ok (.areturn, 1) := by decide +kernel
theorem d7_24 : decode method_2_code 24 = .ok (.iload_n 1, 1) := by decide +kernel
theorem d7_25 : decode method_2_code 25 = .ok (.iconst 2, 1) := by decide +kernel
theorem d7_26 : decode method_2_code 26 = .ok (.if_icmp .ne 7, 3) := by decide +kernel
theorem d7_29 : decode method_2_code 29 = .ok (.getstatic 17, 3) := by decide +kernel
theorem d7_32 : decode method_2_code 32 = .ok (.areturn, 1) := by decide +kernel
theorem d7_33 : decode method_2_code 33 = .ok (.iload_n 1, 1) := by decide +kernel
theorem d7_34 : decode method_2_code 34 = .ok (.iconst 3, 1) := by decide +kernel
theorem d7_35 : decode method_2_code 35 = .ok (.if_icmp .ne 7, 3) := by decide +kernel
theorem d7_38 : decode method_2_code 38 = .ok (.getstatic 20, 3) := by decide +kernel
theorem d7_41 : decode method_2_code 41 = .ok (.areturn, 1) := by decide +kernel
theorem d7_42 : decode method_2_code 42 = .ok (.getstatic 23, 3) := by decide +kernel
theorem d7_45 : decode method_2_code 45 = .ok (.areturn, 1) := by decide +kernel
theorem pd7 : parseMethodDescriptor "(I)Lcom/example/tunnus/tunnus/service/LoginOutcome$Refusal;" = some ⟨[.int], some (.object "com/example/tunnus/tunnus/service/LoginOutcome$Refusal")⟩ := by decide +kernel
theorem pn7 : plainName "com/example/tunnus/tunnus/service/LoginOutcomeIsAcceptedPinLaw" = true := by first | (simp [plainName, overriddenIn]; done) | decide +kernel
theorem d8_0 : decode prog_31_method_1_code 0 = .ok (.aload_n 0, 1) := by decide +kernel
theorem d8_1 : decode prog_31_method_1_code 1 = .ok (.invokespecial 1, 3) := by decide +kernel
theorem d8_4 : decode prog_31_method_1_code 4 = .ok (.aload_n 1, 1) := by decide +kernel
theorem d8_5 : decode prog_31_method_1_code 5 = .ok (.ifnonnull 7, 3) := by decide +kernel
theorem d8_8 : decode prog_31_method_1_code 8 = .ok (.iconst 1, 1) := by decide +kernel
theorem d8_9 : decode prog_31_method_1_code 9 = .ok (.goto 4, 3) := by decide +kernel
theorem d8_12 : decode prog_31_method_1_code 12 = .ok (.iconst 0, 1) := by decide +kernel
theorem d8_13 : decode prog_31_method_1_code 13 = .ok (.aload_n 2, 1) := by decide +kernel
theorem d8_14 : decode prog_31_method_1_code 14 = .ok (.ifnonnull 7, 3) := by decide +kernel
theorem d8_17 : decode prog_31_method_1_code 17 = .ok (.iconst 1, 1) := by decide +kernel
theorem d8_18 : decode prog_31_method_1_code 18 = .ok (.goto 4, 3) := by decide +kernel
theorem d8_21 : decode prog_31_method_1_code 21 = .ok (.iconst 0, 1) := by decide +kernel
theorem d8_22 : decode prog_31_method_1_code 22 = .ok (.if_icmp .ne 13, 3) := by decide +kernel
theorem d8_35 : decode prog_31_method_1_code 35 = .ok (.aload_n 0, 1) := by decide +kernel
theorem d8_36 : decode prog_31_method_1_code 36 = .ok (.aload_n 1, 1) := by decide +kernel
theorem d8_37 : decode prog_31_method_1_code 37 = .ok (.putfield 14, 3) := by decide +kernel
theorem d8_40 : decode prog_31_method_1_code 40 = .ok (.aload_n 0, 1) := by decide +kernel
theorem d8_41 : decode prog_31_method_1_code 41 = .ok (.aload_n 2, 1) := by decide +kernel
theorem d8_42 : decode prog_31_method_1_code 42 = .ok (.putfield 20, 3) := by decide +kernel
theorem d8_45 : decode prog_31_method_1_code 45 = .ok (.return_, 1) := by decide +kernel
theorem pd8 : parseMethodDescriptor "(Ljava/lang/String;Lcom/example/tunnus/tunnus/service/LoginOutcome$Refusal;)V" = some ⟨[(.object "java/lang/String"), (.object "com/example/tunnus/tunnus/service/LoginOutcome$Refusal")], none⟩ := by decide +kernel
theorem pn8 : plainName "com/example/tunnus/tunnus/service/LoginOutcome" = true := by first | (simp [plainName, overriddenIn]; done) | decide +kernel
theorem d9_0 : decode jdk_30_method_1_code 0 = .ok (.aload_n 0, 1) := by decide +kernel
theorem d9_1 : decode jdk_30_method_1_code 1 = .ok (.invokespecial 1, 3) := by decide +kernel
theorem d9_4 : decode jdk_30_method_1_code 4 = .ok (.return_, 1) := by decide +kernel
theorem pd9 : parseMethodDescriptor "()V" = some ⟨[], none⟩ := by decide +kernel
theorem pn9 : plainName "java/lang/Record" = true := by first | (simp [plainName, overriddenIn]; done) | decide +kernel
theorem d10_0 : decode prog_31_method_4_code 0 = .ok (.aload_n 0, 1) := by decide +kernel
theorem d10_1 : decode prog_31_method_4_code 1 = .ok (.getfield 20, 3) := by decide +kernel
theorem d10_4 : decode prog_31_method_4_code 4 = .ok (.ifnonnull 7, 3) := by decide +kernel
theorem d10_7 : decode prog_31_method_4_code 7 = .ok (.iconst 1, 1) := by decide +kernel
theorem d10_8 : decode prog_31_method_4_code 8 = .ok (.goto 4, 3) := by decide +kernel
theorem d10_11 : decode prog_31_method_4_code 11 = .ok (.iconst 0, 1) := by decide +kernel
theorem d10_12 : decode prog_31_method_4_code 12 = .ok (.ireturn, 1) := by decide +kernel
theorem pd10 : parseMethodDescriptor "()Z" = some ⟨[], some .boolean⟩ := by decide +kernel
theorem pn10 : plainName "com/example/tunnus/tunnus/service/LoginOutcome" = true := by first | (simp [plainName, overriddenIn]; done) | decide +kernel
theorem d11_0 : decode prog_31_method_8_code 0 = .ok (.aload_n 0, 1) := by decide +kernel
theorem d11_1 : decode prog_31_method_8_code 1 = .ok (.getfield 14, 3) := by decide +kernel
theorem d11_4 : decode prog_31_method_8_code 4 = .ok (.areturn, 1) := by decide +kernel
theorem pd11 : parseMethodDescriptor "()Ljava/lang/String;" = some ⟨[], some (.object "java/lang/String")⟩ := by decide +kernel
theorem pn11 : plainName "com/example/tunnus/tunnus/service/LoginOutcome" = true := by first | (simp [plainName, overriddenIn]; done) | decide +kernel
theorem d12_0 : decode prog_31_method_9_code 0 = .ok (.aload_n 0, 1) := by decide +kernel
theorem d12_1 : decode prog_31_method_9_code 1 = .ok (.getfield 20, 3) := by decide +kernel
theorem d12_4 : decode prog_31_method_9_code 4 = .ok (.areturn, 1) := by decide +kernel
theorem pd12 : parseMethodDescriptor "()Lcom/example/tunnus/tunnus/service/LoginOutcome$Refusal;" = some ⟨[], some (.object "com/example/tunnus/tunnus/service/LoginOutcome$Refusal")⟩ := by decide +kernel
theorem pn12 : plainName "com/example/tunnus/tunnus/service/LoginOutcome" = true := by first | (simp [plainName, overriddenIn]; done) | decide +kernel
theorem d13_0 : decode jdk_42_method_139_code 0 = .ok (.getstatic 38, 3) := by decide +kernel
theorem d13_3 : decode jdk_42_method_139_code 3 = .ok (.ifCond .eq 23, 3) := by decide +kernel
theorem d13_6 : decode jdk_42_method_139_code 6 = .ok (.iload_n 0, 1) := by decide +kernel
theorem d13_7 : decode jdk_42_method_139_code 7 = .ok (.invokestatic 1015, 3) := by decide +kernel
theorem d13_10 : decode jdk_42_method_139_code 10 = .ok (.ifCond .eq 16, 3) := by decide +kernel
theorem d13_13 : decode jdk_42_method_139_code 13 = .ok (.new 10, 3) := by decide +kernel
theorem d13_16 : decode jdk_42_method_139_code 16 = .ok (.dup, 1) := by decide +kernel
theorem d13_17 : decode jdk_42_method_139_code 17 = .ok (.iload_n 0, 1) := by decide +kernel
theorem d13_18 : decode jdk_42_method_139_code 18 = .ok (.invokestatic 1018, 3) := by decide +kernel
theorem d13_21 : decode jdk_42_method_139_code 21 = .ok (.iconst 0, 1) := by decide +kernel
theorem d13_22 : decode jdk_42_method_139_code 22 = .ok (.invokespecial 209, 3) := by decide +kernel
theorem d13_25 : decode jdk_42_method_139_code 25 = .ok (.areturn, 1) := by decide +kernel
theorem pd13 : parseMethodDescriptor "(C)Ljava/lang/String;" = some ⟨[.char], some (.object "java/lang/String")⟩ := by decide +kernel
theorem pn13 : plainName "java/lang/String" = true := by first | (simp [plainName, overriddenIn]; done) | decide +kernel
theorem d14_0 : decode jdk_43_method_3_code 0 = .ok (.iload_n 0, 1) := by decide +kernel
theorem d14_1 : decode jdk_43_method_3_code 1 = .ok (.sipush 255, 3) := by decide +kernel
theorem d14_4 : decode jdk_43_method_3_code 4 = .ok (.if_icmp .gt 7, 3) := by decide +kernel
theorem d14_7 : decode jdk_43_method_3_code 7 = .ok (.iconst 1, 1) := by decide +kernel
theorem d14_8 : decode jdk_43_method_3_code 8 = .ok (.goto 4, 3) := by decide +kernel
theorem d14_11 : decode jdk_43_method_3_code 11 = .ok (.iconst 0, 1) := by decide +kernel
theorem d14_12 : decode jdk_43_method_3_code 12 = .ok (.ireturn, 1) := by decide +kernel
theorem pd14 : parseMethodDescriptor "(C)Z" = some ⟨[.char], some .boolean⟩ := by decide +kernel
theorem pn14 : plainName "java/lang/StringLatin1" = true := by first | (simp [plainName, overriddenIn]; done) | decide +kernel
theorem d15_0 : decode jdk_43_method_46_code 0 = .ok (.iconst 1, 1) := by decide +kernel
theorem d15_1 : decode jdk_43_method_46_code 1 = .ok (.newarray .byte, 2) := by decide +kernel
theorem d15_3 : decode jdk_43_method_46_code 3 = .ok (.dup, 1) := by decide +kernel
theorem d15_4 : decode jdk_43_method_46_code 4 = .ok (.iconst 0, 1) := by decide +kernel
theorem d15_5 : decode jdk_43_method_46_code 5 = .ok (.iload_n 0, 1) := by decide +kernel
theorem d15_6 : decode jdk_43_method_46_code 6 = .ok (.i2b, 1) := by decide +kernel
theorem d15_7 : decode jdk_43_method_46_code 7 = .ok (.bastore, 1) := by decide +kernel
theorem d15_8 : decode jdk_43_method_46_code 8 = .ok (.areturn, 1) := by decide +kernel
theorem pd15 : parseMethodDescriptor "(C)[B" = some ⟨[.char], some (.array .byte)⟩ := by decide +kernel
theorem pn15 : plainName "java/lang/StringLatin1" = true := by first | (simp [plainName, overriddenIn]; done) | decide +kernel
theorem d16_0 : decode jdk_42_method_151_code 0 = .ok (.aload_n 0, 1) := by decide +kernel
theorem d16_1 : decode jdk_42_method_151_code 1 = .ok (.invokespecial 1, 3) := by decide +kernel
theorem d16_4 : decode jdk_42_method_151_code 4 = .ok (.aload_n 0, 1) := by decide +kernel
theorem d16_5 : decode jdk_42_method_151_code 5 = .ok (.aload_n 1, 1) := by decide +kernel
theorem d16_6 : decode jdk_42_method_151_code 6 = .ok (.putfield 9, 3) := by decide +kernel
theorem d16_9 : decode jdk_42_method_151_code 9 = .ok (.aload_n 0, 1) := by decide +kernel
theorem d16_10 : decode jdk_42_method_151_code 10 = .ok (.iload_n 2, 1) := by decide +kernel
theorem d16_11 : decode jdk_42_method_151_code 11 = .ok (.putfield 15, 3) := by decide +kernel
theorem d16_14 : decode jdk_42_method_151_code 14 = .ok (.return_, 1) := by decide +kernel
theorem pd16 : parseMethodDescriptor "([BB)V" = some ⟨[(.array .byte), .byte], none⟩ := by decide +kernel
theorem pn16 : plainName "java/lang/String" = true := by first | (simp [plainName, overriddenIn]; done) | decide +kernel
theorem pnL : plainName "com/example/tunnus/tunnus/service/LoginOutcomeIsAcceptedPinLaw" = true := by first | (simp [plainName, overriddenIn]; done) | decide +kernel
def Qk (h0 : Heap) (ws : List Addr) (n0 : Nat) (v : Option Value) (h : Heap) (L : List Loc) : Prop := v = none ∧ Fr n0 L ∧ Keep h0 h ws
def Pv (h0 : Heap) (v : Option Value) (h : Heap) (L : List Loc) : Prop := v = none ∧ L = [] ∧ h = h0
def Pr (h0 : Heap) (v : Option Value) (h : Heap) (L : List Loc) : Prop := (∃ r, v = some (.ref r)) ∧ L = [] ∧ h = h0
theorem sta_keep {Z : State} {h h' : Heap} {ws : List Addr} {C n d : String} {v : Value} (S : Sta Z h C n d v) (K : Keep h h' ws) (pl : ∀ a ∈ ws, ∀ cell, h[a]? = some cell → cell.vm.isStatics = false) : Sta Z h' C n d v := by
  obtain ⟨cf, i, k, f, st, cell, h1, h2, h3, h4, h5, h6, h7⟩ := S
  have ne : st ∉ ws := fun q => by
    rw [pl _ q _ h5] at h6; cases h6
  exact ⟨cf, i, k, f, st, cell, h1, h2, h3, h4, K.2.1 _ _ h5 ne, h6, h7⟩
theorem exa_plain {Z : State} {h : Heap} {a : Addr} {C : String} (E : Exa Z h a C) : ∀ x ∈ [a], ∀ cell, h[x]? = some cell → cell.vm.isStatics = false := fun x hx cell hc => by
  obtain ⟨c, k, h1, -, -, h4, -⟩ := E
  cases List.mem_singleton.mp hx
  cases h1.symm.trans hc; exact h4
theorem arv_plain {Z : State} {h : Heap} {a : Addr} {k : ClassId} {ty : FieldType} {z : Int32} {vs : List Value} {d : Value} (A : Arv Z h a k ty z vs d) : ∀ x ∈ [a], ∀ cell, h[x]? = some cell → cell.vm.isStatics = false := fun x hx cell hc => by
  obtain ⟨c, Ar, -⟩ := A
  cases List.mem_singleton.mp hx
  cases Ar.1.symm.trans hc; exact Ar.plain
set_option maxRecDepth 65536 in
set_option maxHeartbeats 40000000 in
theorem mrec (l : Launch) (Z : State) (a0 : Array Value) (hw : ∀ d ∈ tables_1, d.before a0 Z = true) (a : Addr) (h0 : Heap)  : Wk.Met l Z (⟨"java/lang/Record", "<init>", "()V"⟩ : MethodName) jdk_30_method_1_code 1 none [] { frames := 1, cells := 0, slots := 0, locals := 12 } #[(.ref a)] h0 (Pv h0) := by
  refine Wk.start pn9 ?_
  intro p e s m below meth c s₁ X0 hx hby hml hown0 hnm hret hlk hZ e0
  have hown : s.vm.findClass "java/lang/Record" = some m.cls := hown0
  refine Wk.enter (g' := (mkF m 0 #[.val (.ref a)] [])) (by first | rfl | (simp [entryFrame, mkF, argsToLocals, Value.category, maxLocals]; done)) ?_
  refine Wk.aloadN X0 hx (hb hby d9_0) rfl rfl rfl ?_
  refine Wk.initO (W := 0) X0 hx hZ hown (hw _ (List.mem_of_getElem? (i := 49) rfl)) (hw _ (List.mem_of_getElem? (i := 12) rfl)) (hw _ (List.mem_of_getElem? (i := 13) rfl)) e0 (by rw [hml]; rfl) (by decide) (Nat.le_of_eq rfl) (by decide) (hb hby d9_1) rfl (fun T1 X1 e1 => ?_)
  exact Wk.retV X1 hx hlk hret (hb hby d9_4) (Nat.zero_le _) (Nat.zero_le _) ⟨rfl, rfl, e1⟩
set_option maxRecDepth 65536 in
set_option maxHeartbeats 40000000 in
theorem misa1 (l : Launch) (Z : State) (a0 : Array Value) (hw : ∀ d ∈ tables_1, d.before a0 Z = true) (a x : Addr) (h0 : Heap) (F : Fld Z h0 a "com/example/tunnus/tunnus/service/LoginOutcome" "refusal" "Lcom/example/tunnus/tunnus/service/LoginOutcome$Refusal;" .null) : Wk.Met l Z (⟨"com/example/tunnus/tunnus/service/LoginOutcome", "isAccepted", "()Z"⟩ : MethodName) prog_31_method_4_code 1 (some .boolean) [] { frames := 0, cells := 0, slots := 0, locals := 0 } #[(.ref a)] h0 (Wk.Pu (.int 1) h0) := by
  refine Wk.start pn10 ?_
  intro p e s m below meth c s₁ X0 hx hby hml hown0 hnm hret hlk hZ e0
  have hown : s.vm.findClass "com/example/tunnus/tunnus/service/LoginOutcome" = some m.cls := hown0
  refine Wk.enter (g' := (mkF m 0 #[.val (.ref a)] [])) (by first | rfl | (simp [entryFrame, mkF, argsToLocals, Value.category, maxLocals]; done)) ?_
  refine Wk.aloadN X0 hx (hb hby d10_0) rfl rfl rfl ?_
  refine Wk.getF (host := "") X0 hx hZ hown (Or.inl (hw _ (List.mem_of_getElem? (i := 52) rfl))) e0 F (hb hby d10_1) rfl (fun T1 X1 e1 => ?_)
  refine Wk.nonnullN X1 hx (hb hby d10_4) rfl ?_
  refine Wk.iconst X1 hx (1 : Int32) (hb hby d10_7) rfl rfl ?_
  refine Wk.goto X1 hx 12 (hb hby d10_8) rfl ?_
  exact Wk.retZ X1 hx hlk hret (hb hby d10_12) (by decide) (Nat.zero_le _) (Nat.zero_le _) (Wk.pu e1)
set_option maxRecDepth 65536 in
set_option maxHeartbeats 40000000 in
theorem mlgn1 (l : Launch) (Z : State) (a0 : Array Value) (hw : ∀ d ∈ tables_1, d.before a0 Z = true) (a x : Addr) (h0 : Heap) (F : Fld Z h0 a "com/example/tunnus/tunnus/service/LoginOutcome" "login" "Ljava/lang/String;" (.ref x)) : Wk.Met l Z (⟨"com/example/tunnus/tunnus/service/LoginOutcome", "login", "()Ljava/lang/String;"⟩ : MethodName) prog_31_method_8_code 1 (some (.object "java/lang/String")) [] { frames := 0, cells := 0, slots := 0, locals := 0 } #[(.ref a)] h0 (Wk.Pu (.ref x) h0) := by
  refine Wk.start pn11 ?_
  intro p e s m below meth c s₁ X0 hx hby hml hown0 hnm hret hlk hZ e0
  have hown : s.vm.findClass "com/example/tunnus/tunnus/service/LoginOutcome" = some m.cls := hown0
  refine Wk.enter (g' := (mkF m 0 #[.val (.ref a)] [])) (by first | rfl | (simp [entryFrame, mkF, argsToLocals, Value.category, maxLocals]; done)) ?_
  refine Wk.aloadN X0 hx (hb hby d11_0) rfl rfl rfl ?_
  refine Wk.getF (host := "") X0 hx hZ hown (Or.inl (hw _ (List.mem_of_getElem? (i := 50) rfl))) e0 F (hb hby d11_1) rfl (fun T1 X1 e1 => ?_)
  exact Wk.retA X1 hx hlk hret rfl rfl (hb hby d11_4) (Nat.zero_le _) (Nat.zero_le _) (Wk.pu e1)
set_option maxRecDepth 65536 in
set_option maxHeartbeats 40000000 in
theorem mrfs1 (l : Launch) (Z : State) (a0 : Array Value) (hw : ∀ d ∈ tables_1, d.before a0 Z = true) (a x : Addr) (h0 : Heap) (F : Fld Z h0 a "com/example/tunnus/tunnus/service/LoginOutcome" "refusal" "Lcom/example/tunnus/tunnus/service/LoginOutcome$Refusal;" .null) : Wk.Met l Z (⟨"com/example/tunnus/tunnus/service/LoginOutcome", "refusal", "()Lcom/example/tunnus/tunnus/service/LoginOutcome$Refusal;"⟩ : MethodName) prog_31_method_9_code 1 (some (.object "com/example/tunnus/tunnus/service/LoginOutcome$Refusal")) [] { frames := 0, cells := 0, slots := 0, locals := 0 } #[(.ref a)] h0 (Wk.Pu (.null) h0) := by
  refine Wk.start pn12 ?_
  intro p e s m below meth c s₁ X0 hx hby hml hown0 hnm hret hlk hZ e0
  have hown : s.vm.findClass "com/example/tunnus/tunnus/service/LoginOutcome" = some m.cls := hown0
  refine Wk.enter (g' := (mkF m 0 #[.val (.ref a)] [])) (by first | rfl | (simp [entryFrame, mkF, argsToLocals, Value.category, maxLocals]; done)) ?_
  refine Wk.aloadN X0 hx (hb hby d12_0) rfl rfl rfl ?_
  refine Wk.getF (host := "") X0 hx hZ hown (Or.inl (hw _ (List.mem_of_getElem? (i := 52) rfl))) e0 F (hb hby d12_1) rfl (fun T1 X1 e1 => ?_)
  exact Wk.retA X1 hx hlk hret rfl rfl (hb hby d12_4) (Nat.zero_le _) (Nat.zero_le _) (Wk.pu e1)
set_option maxRecDepth 65536 in
set_option maxHeartbeats 40000000 in
theorem misa0 (l : Launch) (Z : State) (a0 : Array Value) (hw : ∀ d ∈ tables_1, d.before a0 Z = true) (a x : Addr) (h0 : Heap) (F : Fld Z h0 a "com/example/tunnus/tunnus/service/LoginOutcome" "refusal" "Lcom/example/tunnus/tunnus/service/LoginOutcome$Refusal;" (.ref x)) : Wk.Met l Z (⟨"com/example/tunnus/tunnus/service/LoginOutcome", "isAccepted", "()Z"⟩ : MethodName) prog_31_method_4_code 1 (some .boolean) [] { frames := 0, cells := 0, slots := 0, locals := 0 } #[(.ref a)] h0 (Wk.Pu (.int 0) h0) := by
  refine Wk.start pn10 ?_
  intro p e s m below meth c s₁ X0 hx hby hml hown0 hnm hret hlk hZ e0
  have hown : s.vm.findClass "com/example/tunnus/tunnus/service/LoginOutcome" = some m.cls := hown0
  refine Wk.enter (g' := (mkF m 0 #[.val (.ref a)] [])) (by first | rfl | (simp [entryFrame, mkF, argsToLocals, Value.category, maxLocals]; done)) ?_
  refine Wk.aloadN X0 hx (hb hby d10_0) rfl rfl rfl ?_
  refine Wk.getF (host := "") X0 hx hZ hown (Or.inl (hw _ (List.mem_of_getElem? (i := 52) rfl))) e0 F (hb hby d10_1) rfl (fun T1 X1 e1 => ?_)
  refine Wk.nonnullR X1 hx 11 (hb hby d10_4) rfl ?_
  refine Wk.iconst X1 hx (0 : Int32) (hb hby d10_11) rfl rfl ?_
  exact Wk.retZ X1 hx hlk hret (hb hby d10_12) (by decide) (Nat.zero_le _) (Nat.zero_le _) (Wk.pu e1)
set_option maxRecDepth 65536 in
set_option maxHeartbeats 40000000 in
theorem mlgn0 (l : Launch) (Z : State) (a0 : Array Value) (hw : ∀ d ∈ tables_1, d.before a0 Z = true) (a x : Addr) (h0 : Heap) (F : Fld Z h0 a "com/example/tunnus/tunnus/service/LoginOutcome" "login" "Ljava/lang/String;" .null) : Wk.Met l Z (⟨"com/example/tunnus/tunnus/service/LoginOutcome", "login", "()Ljava/lang/String;"⟩ : MethodName) prog_31_method_8_code 1 (some (.object "java/lang/String")) [] { frames := 0, cells := 0, slots := 0, locals := 0 } #[(.ref a)] h0 (Wk.Pu (.null) h0) := by
  refine Wk.start pn11 ?_
  intro p e s m below meth c s₁ X0 hx hby hml hown0 hnm hret hlk hZ e0
  have hown : s.vm.findClass "com/example/tunnus/tunnus/service/LoginOutcome" = some m.cls := hown0
  refine Wk.enter (g' := (mkF m 0 #[.val (.ref a)] [])) (by first | rfl | (simp [entryFrame, mkF, argsToLocals, Value.category, maxLocals]; done)) ?_
  refine Wk.aloadN X0 hx (hb hby d11_0) rfl rfl rfl ?_
  refine Wk.getF (host := "") X0 hx hZ hown (Or.inl (hw _ (List.mem_of_getElem? (i := 50) rfl))) e0 F (hb hby d11_1) rfl (fun T1 X1 e1 => ?_)
  exact Wk.retA X1 hx hlk hret rfl rfl (hb hby d11_4) (Nat.zero_le _) (Nat.zero_le _) (Wk.pu e1)
set_option maxRecDepth 65536 in
set_option maxHeartbeats 40000000 in
theorem mrfs0 (l : Launch) (Z : State) (a0 : Array Value) (hw : ∀ d ∈ tables_1, d.before a0 Z = true) (a x : Addr) (h0 : Heap) (F : Fld Z h0 a "com/example/tunnus/tunnus/service/LoginOutcome" "refusal" "Lcom/example/tunnus/tunnus/service/LoginOutcome$Refusal;" (.ref x)) : Wk.Met l Z (⟨"com/example/tunnus/tunnus/service/LoginOutcome", "refusal", "()Lcom/example/tunnus/tunnus/service/LoginOutcome$Refusal;"⟩ : MethodName) prog_31_method_9_code 1 (some (.object "com/example/tunnus/tunnus/service/LoginOutcome$Refusal")) [] { frames := 0, cells := 0, slots := 0, locals := 0 } #[(.ref a)] h0 (Wk.Pu (.ref x) h0) := by
  refine Wk.start pn12 ?_
  intro p e s m below meth c s₁ X0 hx hby hml hown0 hnm hret hlk hZ e0
  have hown : s.vm.findClass "com/example/tunnus/tunnus/service/LoginOutcome" = some m.cls := hown0
  refine Wk.enter (g' := (mkF m 0 #[.val (.ref a)] [])) (by first | rfl | (simp [entryFrame, mkF, argsToLocals, Value.category, maxLocals]; done)) ?_
  refine Wk.aloadN X0 hx (hb hby d12_0) rfl rfl rfl ?_
  refine Wk.getF (host := "") X0 hx hZ hown (Or.inl (hw _ (List.mem_of_getElem? (i := 52) rfl))) e0 F (hb hby d12_1) rfl (fun T1 X1 e1 => ?_)
  exact Wk.retA X1 hx hlk hret rfl rfl (hb hby d12_4) (Nat.zero_le _) (Nat.zero_le _) (Wk.pu e1)
def Ql (Z : State) (a : Addr) (x y : Value) (h0 : Heap) (n0 : Nat) (v : Option Value) (h : Heap) (L : List Loc) : Prop := v = none ∧ Fr n0 L ∧ Keep h0 h [a] ∧ Exa Z h a "com/example/tunnus/tunnus/service/LoginOutcome" ∧ Fld Z h a "com/example/tunnus/tunnus/service/LoginOutcome" "login" "Ljava/lang/String;" x ∧ Fld Z h a "com/example/tunnus/tunnus/service/LoginOutcome" "refusal" "Lcom/example/tunnus/tunnus/service/LoginOutcome$Refusal;" y
set_option maxRecDepth 65536 in
set_option maxHeartbeats 40000000 in
theorem mloi1 (l : Launch) (Z : State) (a0 : Array Value) (hw : ∀ d ∈ tables_1, d.before a0 Z = true) (a x : Addr) (n0 : Nat) (hn0 : n0 ≤ a) (h0 : Heap) (Fl0 : Fld Z h0 a "com/example/tunnus/tunnus/service/LoginOutcome" "login" "Ljava/lang/String;" .null) (Fr0 : Fld Z h0 a "com/example/tunnus/tunnus/service/LoginOutcome" "refusal" "Lcom/example/tunnus/tunnus/service/LoginOutcome$Refusal;" .null) (E0 : Exa Z h0 a "com/example/tunnus/tunnus/service/LoginOutcome") : Wk.Met l Z (⟨"com/example/tunnus/tunnus/service/LoginOutcome", "<init>", "(Ljava/lang/String;Lcom/example/tunnus/tunnus/service/LoginOutcome$Refusal;)V"⟩ : MethodName) prog_31_method_1_code 3 none [] { frames := 2, cells := 0, slots := 0, locals := 24 } #[(.ref a), (.ref x), (.null)] h0 (Ql Z a (.ref x) (.null) h0 n0) := by
  refine Wk.start pn8 ?_
  intro p e s m below meth c s₁ X0 hx hby hml hown0 hnm hret hlk hZ e0
  have hown : s.vm.findClass "com/example/tunnus/tunnus/service/LoginOutcome" = some m.cls := hown0
  refine Wk.enter (g' := (mkF m 0 #[.val (.ref a), .val (.ref x), .val (.null)] [])) (by first | rfl | (simp [entryFrame, mkF, argsToLocals, Value.category, maxLocals]; done)) ?_
  refine Wk.aloadN X0 hx (hb hby d8_0) rfl rfl rfl ?_
  refine Wk.callI (W := 0) X0 hx hZ (argsL := []) (rest := []) rfl hown (hw _ (List.mem_of_getElem? (i := 44) rfl)) (hw _ (List.mem_of_getElem? (i := 45) rfl)) (hw _ (List.mem_of_getElem? (i := 47) rfl)) (hw _ (List.mem_of_getElem? (i := 48) rfl)) (by decide) (mrec l Z a0 hw a h0) e0 (by decide) (by decide) (by decide) (by decide) (by rw [hml]; rfl) (lenOf pd9 rfl) rfl (Nat.le_of_eq rfl) (hb hby d8_1) rfl (fun T1 v1 L1 X1 hq1 => ?_)
  obtain ⟨rfl, rfl, hh1⟩ := hq1
  rw [List.append_nil] at X1
  show Wk.Go p e below s _ _ _ T1 (mkF m 4 #[.val (.ref a), .val (.ref x), .val (.null)] [])
  refine Wk.aloadN X1 hx (hb hby d8_4) rfl rfl rfl ?_
  refine Wk.nonnullR X1 hx 12 (hb hby d8_5) rfl ?_
  refine Wk.iconst X1 hx (0 : Int32) (hb hby d8_12) rfl rfl ?_
  refine Wk.aloadN X1 hx (hb hby d8_13) rfl rfl rfl ?_
  refine Wk.nonnullN X1 hx (hb hby d8_14) rfl ?_
  refine Wk.iconst X1 hx (1 : Int32) (hb hby d8_17) rfl rfl ?_
  refine Wk.goto X1 hx 22 (hb hby d8_18) rfl ?_
  refine Wk.icmp_ne X1 hx 35 25 (hb hby d8_22) rfl rfl (show ((0 : Int32) : Int32).toInt = 0 from (by decide)) (show ((1 : Int32) : Int32).toInt = 1 from (by decide)) (fun h1 => ?_) (fun h1 => absurd h1 (by omega))
  refine Wk.aloadN X1 hx (hb hby d8_35) rfl rfl rfl ?_
  refine Wk.aloadN X1 hx (hb hby d8_36) rfl rfl rfl ?_
  refine Wk.putF (host := "") (ty := (.object "java/lang/String")) X1 hx hZ hown (Or.inl (hw _ (List.mem_of_getElem? (i := 50) rfl))) hh1 Fl0 E0 (Or.inr ⟨(hw _ (List.mem_of_getElem? (i := 51) rfl)), rfl, hnm⟩) (hw _ (List.mem_of_getElem? (i := 39) rfl)) (by decide) rfl rfl (hb hby d8_37) rfl (fun T2 h2 X2 e2 W2 => ?_)
  have Flogin2 := Fl0.same W2
  have Frefusal2 := Fr0.other W2 (Or.inr (slot_ne (t := (.object "com/example/tunnus/tunnus/service/LoginOutcome$Refusal")) (t' := (.object "java/lang/String")) (Or.inr (hw _ (List.mem_of_getElem? (i := 53) rfl))) (Or.inr (hw _ (List.mem_of_getElem? (i := 51) rfl))) (by decide) (by decide) (by decide)))
  have E2 := E0.wr W2
  refine Wk.aloadN X2 hx (hb hby d8_40) rfl rfl rfl ?_
  refine Wk.aloadN X2 hx (hb hby d8_41) rfl rfl rfl ?_
  refine Wk.putF (host := "") (ty := (.object "com/example/tunnus/tunnus/service/LoginOutcome$Refusal")) X2 hx hZ hown (Or.inl (hw _ (List.mem_of_getElem? (i := 52) rfl))) e2 Frefusal2 E2 (Or.inr ⟨(hw _ (List.mem_of_getElem? (i := 53) rfl)), rfl, hnm⟩) (hw _ (List.mem_of_getElem? (i := 39) rfl)) (by decide) rfl rfl (hb hby d8_42) rfl (fun T3 h3 X3 e3 W3 => ?_)
  have Frefusal3 := Frefusal2.same W3
  have Flogin3 := Flogin2.other W3 (Or.inr (slot_ne (t := (.object "java/lang/String")) (t' := (.object "com/example/tunnus/tunnus/service/LoginOutcome$Refusal")) (Or.inr (hw _ (List.mem_of_getElem? (i := 51) rfl))) (Or.inr (hw _ (List.mem_of_getElem? (i := 53) rfl))) (by decide) (by decide) (by decide)))
  have E3 := E2.wr W3
  exact Wk.retV X3 hx hlk hret (hb hby d8_45) (by decide) (by decide) (by rw [e3]; exact ⟨rfl, Fr.snoc X3 (Fr.snoc X2 (Fr.nil n0) hn0) hn0, ((Keep.refl _ _).wr W2 (Or.inl (List.mem_singleton.mpr rfl))).wr W3 (Or.inl (List.mem_singleton.mpr rfl)), E3, Flogin3, Frefusal3⟩)
set_option maxRecDepth 65536 in
set_option maxHeartbeats 40000000 in
theorem mloi0 (l : Launch) (Z : State) (a0 : Array Value) (hw : ∀ d ∈ tables_1, d.before a0 Z = true) (a x : Addr) (n0 : Nat) (hn0 : n0 ≤ a) (h0 : Heap) (Fl0 : Fld Z h0 a "com/example/tunnus/tunnus/service/LoginOutcome" "login" "Ljava/lang/String;" .null) (Fr0 : Fld Z h0 a "com/example/tunnus/tunnus/service/LoginOutcome" "refusal" "Lcom/example/tunnus/tunnus/service/LoginOutcome$Refusal;" .null) (E0 : Exa Z h0 a "com/example/tunnus/tunnus/service/LoginOutcome") : Wk.Met l Z (⟨"com/example/tunnus/tunnus/service/LoginOutcome", "<init>", "(Ljava/lang/String;Lcom/example/tunnus/tunnus/service/LoginOutcome$Refusal;)V"⟩ : MethodName) prog_31_method_1_code 3 none [] { frames := 2, cells := 0, slots := 0, locals := 24 } #[(.ref a), (.null), (.ref x)] h0 (Ql Z a (.null) (.ref x) h0 n0) := by
  refine Wk.start pn8 ?_
  intro p e s m below meth c s₁ X0 hx hby hml hown0 hnm hret hlk hZ e0
  have hown : s.vm.findClass "com/example/tunnus/tunnus/service/LoginOutcome" = some m.cls := hown0
  refine Wk.enter (g' := (mkF m 0 #[.val (.ref a), .val (.null), .val (.ref x)] [])) (by first | rfl | (simp [entryFrame, mkF, argsToLocals, Value.category, maxLocals]; done)) ?_
  refine Wk.aloadN X0 hx (hb hby d8_0) rfl rfl rfl ?_
  refine Wk.callI (W := 0) X0 hx hZ (argsL := []) (rest := []) rfl hown (hw _ (List.mem_of_getElem? (i := 44) rfl)) (hw _ (List.mem_of_getElem? (i := 45) rfl)) (hw _ (List.mem_of_getElem? (i := 47) rfl)) (hw _ (List.mem_of_getElem? (i := 48) rfl)) (by decide) (mrec l Z a0 hw a h0) e0 (by decide) (by decide) (by decide) (by decide) (by rw [hml]; rfl) (lenOf pd9 rfl) rfl (Nat.le_of_eq rfl) (hb hby d8_1) rfl (fun T1 v1 L1 X1 hq1 => ?_)
  obtain ⟨rfl, rfl, hh1⟩ := hq1
  rw [List.append_nil] at X1
  show Wk.Go p e below s _ _ _ T1 (mkF m 4 #[.val (.ref a), .val (.null), .val (.ref x)] [])
  refine Wk.aloadN X1 hx (hb hby d8_4) rfl rfl rfl ?_
  refine Wk.nonnullN X1 hx (hb hby d8_5) rfl ?_
  refine Wk.iconst X1 hx (1 : Int32) (hb hby d8_8) rfl rfl ?_
  refine Wk.goto X1 hx 13 (hb hby d8_9) rfl ?_
  refine Wk.aloadN X1 hx (hb hby d8_13) rfl rfl rfl ?_
  refine Wk.nonnullR X1 hx 21 (hb hby d8_14) rfl ?_
  refine Wk.iconst X1 hx (0 : Int32) (hb hby d8_21) rfl rfl ?_
  refine Wk.icmp_ne X1 hx 35 25 (hb hby d8_22) rfl rfl (show ((1 : Int32) : Int32).toInt = 1 from (by decide)) (show ((0 : Int32) : Int32).toInt = 0 from (by decide)) (fun h1 => ?_) (fun h1 => absurd h1 (by omega))
  refine Wk.aloadN X1 hx (hb hby d8_35) rfl rfl rfl ?_
  refine Wk.aloadN X1 hx (hb hby d8_36) rfl rfl rfl ?_
  refine Wk.putF (host := "") (ty := (.object "java/lang/String")) X1 hx hZ hown (Or.inl (hw _ (List.mem_of_getElem? (i := 50) rfl))) hh1 Fl0 E0 (Or.inr ⟨(hw _ (List.mem_of_getElem? (i := 51) rfl)), rfl, hnm⟩) (hw _ (List.mem_of_getElem? (i := 39) rfl)) (by decide) rfl rfl (hb hby d8_37) rfl (fun T2 h2 X2 e2 W2 => ?_)
  have Flogin2 := Fl0.same W2
  have Frefusal2 := Fr0.other W2 (Or.inr (slot_ne (t := (.object "com/example/tunnus/tunnus/service/LoginOutcome$Refusal")) (t' := (.object "java/lang/String")) (Or.inr (hw _ (List.mem_of_getElem? (i := 53) rfl))) (Or.inr (hw _ (List.mem_of_getElem? (i := 51) rfl))) (by decide) (by decide) (by decide)))
  have E2 := E0.wr W2
  refine Wk.aloadN X2 hx (hb hby d8_40) rfl rfl rfl ?_
  refine Wk.aloadN X2 hx (hb hby d8_41) rfl rfl rfl ?_
  refine Wk.putF (host := "") (ty := (.object "com/example/tunnus/tunnus/service/LoginOutcome$Refusal")) X2 hx hZ hown (Or.inl (hw _ (List.mem_of_getElem? (i := 52) rfl))) e2 Frefusal2 E2 (Or.inr ⟨(hw _ (List.mem_of_getElem? (i := 53) rfl)), rfl, hnm⟩) (hw _ (List.mem_of_getElem? (i := 39) rfl)) (by decide) rfl rfl (hb hby d8_42) rfl (fun T3 h3 X3 e3 W3 => ?_)
  have Frefusal3 := Frefusal2.same W3
  have Flogin3 := Flogin2.other W3 (Or.inr (slot_ne (t := (.object "java/lang/String")) (t' := (.object "com/example/tunnus/tunnus/service/LoginOutcome$Refusal")) (Or.inr (hw _ (List.mem_of_getElem? (i := 51) rfl))) (Or.inr (hw _ (List.mem_of_getElem? (i := 53) rfl))) (by decide) (by decide) (by decide)))
  have E3 := E2.wr W3
  exact Wk.retV X3 hx hlk hret (hb hby d8_45) (by decide) (by decide) (by rw [e3]; exact ⟨rfl, Fr.snoc X3 (Fr.snoc X2 (Fr.nil n0) hn0) hn0, ((Keep.refl _ _).wr W2 (Or.inl (List.mem_singleton.mpr rfl))).wr W3 (Or.inl (List.mem_singleton.mpr rfl)), E3, Flogin3, Frefusal3⟩)
set_option maxRecDepth 65536 in
set_option maxHeartbeats 40000000 in
theorem mpick (l : Launch) (Z : State) (a0 : Array Value) (hw : ∀ d ∈ tables_1, d.before a0 Z = true) (k : Int32) (r0 r1 r2 r3 r4 : Addr) (h0 : Heap) (S0 : Sta Z h0 "com/example/tunnus/tunnus/service/LoginOutcome$Refusal" "BAD_CREDENTIALS" "Lcom/example/tunnus/tunnus/service/LoginOutcome$Refusal;" (.ref r0)) (S1 : Sta Z h0 "com/example/tunnus/tunnus/service/LoginOutcome$Refusal" "DEACTIVATED" "Lcom/example/tunnus/tunnus/service/LoginOutcome$Refusal;" (.ref r1)) (S2 : Sta Z h0 "com/example/tunnus/tunnus/service/LoginOutcome$Refusal" "EXPIRED" "Lcom/example/tunnus/tunnus/service/LoginOutcome$Refusal;" (.ref r2)) (S3 : Sta Z h0 "com/example/tunnus/tunnus/service/LoginOutcome$Refusal" "PASSWORD_EXPIRED" "Lcom/example/tunnus/tunnus/service/LoginOutcome$Refusal;" (.ref r3)) (S4 : Sta Z h0 "com/example/tunnus/tunnus/service/LoginOutcome$Refusal" "DIRECTORY_UNAVAILABLE" "Lcom/example/tunnus/tunnus/service/LoginOutcome$Refusal;" (.ref r4)) : Wk.Met l Z (⟨"com/example/tunnus/tunnus/service/LoginOutcomeIsAcceptedPinLaw", "pick", "(I)Lcom/example/tunnus/tunnus/service/LoginOutcome$Refusal;"⟩ : MethodName) method_2_code 2 (some (.object "com/example/tunnus/tunnus/service/LoginOutcome$Refusal")) [] { frames := 0, cells := 0, slots := 0, locals := 0 } #[(.int k)] h0 (Pr h0) := by
  refine Wk.start pn7 ?_
  intro p e s m below meth c s₁ X0 hx hby hml hown0 hnm hret hlk hZ e0
  have hown : s.vm.findClass "com/example/tunnus/tunnus/service/LoginOutcomeIsAcceptedPinLaw" = some m.cls := hown0
  refine Wk.enter (g' := (mkF m 0 #[.val (.int k), .unset] [])) (by first | rfl | (simp [entryFrame, mkF, argsToLocals, Value.category, maxLocals]; done)) ?_
  refine Wk.iloadN X0 hx (hb hby d7_0) rfl rfl ?_
  refine Wk.ldcI X0 hx hZ hown (hw _ (List.mem_of_getElem? (i := 34) rfl)) (hb hby d7_1) rfl ?_
  refine Wk.iand X0 hx (hb hby d7_3) rfl ?_
  refine Wk.iconst X0 hx (5 : Int32) (hb hby d7_4) rfl rfl ?_
  refine Wk.irem X0 hx (hb hby d7_5) (by decide) rfl ?_
  refine Wk.istoreN (l' := #[.val (.int k), .val (.int ((k &&& (2147483647 : Int32)) % (5 : Int32)))]) X0 hx (hb hby d7_6) rfl rfl ?_
  refine Wk.iloadN X0 hx (hb hby d7_7) rfl rfl ?_
  refine Wk.if_ne X0 hx 15 11 (hb hby d7_8) rfl rfl (show ((k &&& (2147483647 : Int32)) % (5 : Int32) : Int32).toInt = ((k &&& (2147483647 : Int32)) % (5 : Int32)).toInt from rfl) (fun h1 => ?_) (fun h1 => ?_)
  · skip
    refine Wk.iloadN X0 hx (hb hby d7_15) rfl rfl ?_
    refine Wk.iconst X0 hx (1 : Int32) (hb hby d7_16) rfl rfl ?_
    refine Wk.icmp_ne X0 hx 24 20 (hb hby d7_17) rfl rfl (show ((k &&& (2147483647 : Int32)) % (5 : Int32) : Int32).toInt = ((k &&& (2147483647 : Int32)) % (5 : Int32)).toInt from rfl) (show ((1 : Int32) : Int32).toInt = 1 from (by decide)) (fun h2 => ?_) (fun h2 => ?_)
    · skip
      refine Wk.iloadN X0 hx (hb hby d7_24) rfl rfl ?_
      refine Wk.iconst X0 hx (2 : Int32) (hb hby d7_25) rfl rfl ?_
      refine Wk.icmp_ne X0 hx 33 29 (hb hby d7_26) rfl rfl (show ((k &&& (2147483647 : Int32)) % (5 : Int32) : Int32).toInt = ((k &&& (2147483647 : Int32)) % (5 : Int32)).toInt from rfl) (show ((2 : Int32) : Int32).toInt = 2 from (by decide)) (fun h3 => ?_) (fun h3 => ?_)
      · skip
        refine Wk.iloadN X0 hx (hb hby d7_33) rfl rfl ?_
        refine Wk.iconst X0 hx (3 : Int32) (hb hby d7_34) rfl rfl ?_
        refine Wk.icmp_ne X0 hx 42 38 (hb hby d7_35) rfl rfl (show ((k &&& (2147483647 : Int32)) % (5 : Int32) : Int32).toInt = ((k &&& (2147483647 : Int32)) % (5 : Int32)).toInt from rfl) (show ((3 : Int32) : Int32).toInt = 3 from (by decide)) (fun h4 => ?_) (fun h4 => ?_)
        · skip
          refine Wk.getS (host := "") X0 hx hZ hown (Or.inl (hw _ (List.mem_of_getElem? (i := 83) rfl))) e0 S4 (hb hby d7_42) rfl (fun T5 X5 e5 => ?_)
          exact Wk.retA X5 hx hlk hret rfl rfl (hb hby d7_45) (Nat.zero_le _) (Nat.zero_le _) ⟨⟨_, rfl⟩, rfl, e5⟩
        · skip
          refine Wk.getS (host := "") X0 hx hZ hown (Or.inl (hw _ (List.mem_of_getElem? (i := 35) rfl))) e0 S3 (hb hby d7_38) rfl (fun T6 X6 e6 => ?_)
          exact Wk.retA X6 hx hlk hret rfl rfl (hb hby d7_41) (Nat.zero_le _) (Nat.zero_le _) ⟨⟨_, rfl⟩, rfl, e6⟩
      · skip
        refine Wk.getS (host := "") X0 hx hZ hown (Or.inl (hw _ (List.mem_of_getElem? (i := 89) rfl))) e0 S2 (hb hby d7_29) rfl (fun T7 X7 e7 => ?_)
        exact Wk.retA X7 hx hlk hret rfl rfl (hb hby d7_32) (Nat.zero_le _) (Nat.zero_le _) ⟨⟨_, rfl⟩, rfl, e7⟩
    · skip
      refine Wk.getS (host := "") X0 hx hZ hown (Or.inl (hw _ (List.mem_of_getElem? (i := 87) rfl))) e0 S1 (hb hby d7_20) rfl (fun T8 X8 e8 => ?_)
      exact Wk.retA X8 hx hlk hret rfl rfl (hb hby d7_23) (Nat.zero_le _) (Nat.zero_le _) ⟨⟨_, rfl⟩, rfl, e8⟩
  · skip
    refine Wk.getS (host := "") X0 hx hZ hown (Or.inl (hw _ (List.mem_of_getElem? (i := 85) rfl))) e0 S0 (hb hby d7_11) rfl (fun T9 X9 e9 => ?_)
    exact Wk.retA X9 hx hlk hret rfl rfl (hb hby d7_14) (Nat.zero_le _) (Nat.zero_le _) ⟨⟨_, rfl⟩, rfl, e9⟩
def Q5 (Z : State) (t : Addr) (kb : ClassId) (c0 c1 : Int32) (h0 : Heap) (n0 : Nat) (v : Option Value) (h : Heap) (L : List Loc) : Prop := v = some (.int 2) ∧ Fr n0 L ∧ Keep h0 h [t] ∧ Arv Z h t kb .byte 2 [.int (nar .byte (c0.toInt8.toInt32)), .int (nar .byte (c1.toInt8.toInt32))] (.int 0)
set_option maxRecDepth 65536 in
set_option maxHeartbeats 40000000 in
theorem mc5 (l : Launch) (Z : State) (a0 : Array Value) (hw : ∀ d ∈ tables_1, d.before a0 Z = true) (la t : Addr) (kc kb : ClassId) (c0 c1 : Int32) (hc0 : c0.toInt ≤ 255) (hc1 : c1.toInt ≤ 255) (n0 : Nat) (hnt : n0 ≤ t) (hct : la ≠ t) (h0 : Heap) (C : Arv Z h0 la kc .char 2 [.int c0, .int c1] (.int 0)) (A : Arv Z h0 t kb .byte 2 [.int 0, .int 0] (.int 0)) : Wk.Met l Z (⟨"java/lang/StringUTF16", "compress", "([CI[BII)I"⟩ : MethodName) jdk_52_method_21_code 7 (some .int) [] { frames := 0, cells := 0, slots := 0, locals := 0 } #[(.ref la), (.int (0 : Int32)), (.ref t), (.int (0 : Int32)), (.int (2 : Int32))] h0 (Q5 Z t kb c0 c1 h0 n0) := by
  refine Wk.start pn5 ?_
  intro p e s m below meth c s₁ X0 hx hby hml hown0 hnm hret hlk hZ e0
  have hown : s.vm.findClass "java/lang/StringUTF16" = some m.cls := hown0
  refine Wk.enter (g' := (mkF m 0 #[.val (.ref la), .val (.int (0 : Int32)), .val (.ref t), .val (.int (0 : Int32)), .val (.int (2 : Int32)), .unset, .unset] [])) (by first | rfl | (simp [entryFrame, mkF, argsToLocals, Value.category, maxLocals]; done)) ?_
  refine Wk.iconst X0 hx (0 : Int32) (hb hby d5_0) rfl rfl ?_
  refine Wk.istore (l' := #[.val (.ref la), .val (.int (0 : Int32)), .val (.ref t), .val (.int (0 : Int32)), .val (.int (2 : Int32)), .val (.int (0 : Int32)), .unset]) X0 hx (hb hby d5_1) rfl rfl ?_
  refine Wk.iload X0 hx (hb hby d5_3) rfl rfl ?_
  refine Wk.iload X0 hx (hb hby d5_5) rfl rfl ?_
  refine Wk.icmp_ge X0 hx 44 10 (hb hby d5_7) rfl rfl (show ((0 : Int32) : Int32).toInt = 0 from (by decide)) (show ((2 : Int32) : Int32).toInt = 2 from (by decide)) (fun h1 => absurd h1 (by omega)) (fun h1 => ?_)
  refine Wk.aloadN X0 hx (hb hby d5_10) rfl rfl rfl ?_
  refine Wk.iloadN X0 hx (hb hby d5_11) rfl rfl ?_
  refine Wk.caload X0 hx hZ e0 C (by decide) (by decide) rfl (hb hby d5_12) rfl ?_
  refine Wk.istore (l' := #[.val (.ref la), .val (.int (0 : Int32)), .val (.ref t), .val (.int (0 : Int32)), .val (.int (2 : Int32)), .val (.int (0 : Int32)), .val (.int c0)]) X0 hx (hb hby d5_13) rfl rfl ?_
  refine Wk.iload X0 hx (hb hby d5_15) rfl rfl ?_
  refine Wk.sipush X0 hx (255 : Int32) (hb hby d5_17) rfl rfl ?_
  refine Wk.icmp_le X0 hx 26 23 (hb hby d5_20) rfl rfl (show (c0 : Int32).toInt = (c0).toInt from rfl) (show ((255 : Int32) : Int32).toInt = 255 from (by decide)) (fun h2 => ?_) (fun h2 => absurd h2 (by omega))
  refine Wk.aloadN X0 hx (hb hby d5_26) rfl rfl rfl ?_
  refine Wk.iloadN X0 hx (hb hby d5_27) rfl rfl ?_
  refine Wk.iload X0 hx (hb hby d5_28) rfl rfl ?_
  refine Wk.i2b X0 hx (hb hby d5_30) rfl ?_
  refine Wk.bastore X0 hx hZ e0 A (by decide) (by decide) 0 (by decide) (Nat.le_of_ble_eq_true rfl) (hb hby d5_31) rfl (fun T10 h10 X10 e10 W10 A10 => ?_)
  have B10 : Arv Z h10 t kb .byte 2 [.int (nar .byte (c0.toInt8.toInt32)), .int 0] (.int 0) := A10
  have C10 := C.other W10 hct
  have N10 := Fr.snoc X10 (Fr.nil n0) hnt
  refine Wk.iinc (l' := #[.val (.ref la), .val (.int ((0 : Int32) + (1 : Int32))), .val (.ref t), .val (.int (0 : Int32)), .val (.int (2 : Int32)), .val (.int (0 : Int32)), .val (.int c0)]) X10 hx (1 : Int32) (hb hby d5_32) rfl rfl rfl rfl ?_
  rw [show ((0 : Int32) + (1 : Int32)) = (1 : Int32) from by decide]
  refine Wk.iinc (l' := #[.val (.ref la), .val (.int (1 : Int32)), .val (.ref t), .val (.int ((0 : Int32) + (1 : Int32))), .val (.int (2 : Int32)), .val (.int (0 : Int32)), .val (.int c0)]) X10 hx (1 : Int32) (hb hby d5_35) rfl rfl rfl rfl ?_
  rw [show ((0 : Int32) + (1 : Int32)) = (1 : Int32) from by decide]
  refine Wk.iinc (l' := #[.val (.ref la), .val (.int (1 : Int32)), .val (.ref t), .val (.int (1 : Int32)), .val (.int (2 : Int32)), .val (.int ((0 : Int32) + (1 : Int32))), .val (.int c0)]) X10 hx (1 : Int32) (hb hby d5_38) rfl rfl rfl rfl ?_
  rw [show ((0 : Int32) + (1 : Int32)) = (1 : Int32) from by decide]
  refine Wk.goto X10 hx 3 (hb hby d5_41) rfl ?_
  refine Wk.iload X10 hx (hb hby d5_3) rfl rfl ?_
  refine Wk.iload X10 hx (hb hby d5_5) rfl rfl ?_
  refine Wk.icmp_ge X10 hx 44 10 (hb hby d5_7) rfl rfl (show ((1 : Int32) : Int32).toInt = 1 from (by decide)) (show ((2 : Int32) : Int32).toInt = 2 from (by decide)) (fun h3 => absurd h3 (by omega)) (fun h3 => ?_)
  refine Wk.aloadN X10 hx (hb hby d5_10) rfl rfl rfl ?_
  refine Wk.iloadN X10 hx (hb hby d5_11) rfl rfl ?_
  refine Wk.caload X10 hx hZ e10 C10 (by decide) (by decide) rfl (hb hby d5_12) rfl ?_
  refine Wk.istore (l' := #[.val (.ref la), .val (.int (1 : Int32)), .val (.ref t), .val (.int (1 : Int32)), .val (.int (2 : Int32)), .val (.int (1 : Int32)), .val (.int c1)]) X10 hx (hb hby d5_13) rfl rfl ?_
  refine Wk.iload X10 hx (hb hby d5_15) rfl rfl ?_
  refine Wk.sipush X10 hx (255 : Int32) (hb hby d5_17) rfl rfl ?_
  refine Wk.icmp_le X10 hx 26 23 (hb hby d5_20) rfl rfl (show (c1 : Int32).toInt = (c1).toInt from rfl) (show ((255 : Int32) : Int32).toInt = 255 from (by decide)) (fun h4 => ?_) (fun h4 => absurd h4 (by omega))
  refine Wk.aloadN X10 hx (hb hby d5_26) rfl rfl rfl ?_
  refine Wk.iloadN X10 hx (hb hby d5_27) rfl rfl ?_
  refine Wk.iload X10 hx (hb hby d5_28) rfl rfl ?_
  refine Wk.i2b X10 hx (hb hby d5_30) rfl ?_
  refine Wk.bastore X10 hx hZ e10 B10 (by decide) (by decide) 1 (by decide) (Nat.le_of_ble_eq_true rfl) (hb hby d5_31) rfl (fun T11 h11 X11 e11 W11 A11 => ?_)
  have B11 : Arv Z h11 t kb .byte 2 [.int (nar .byte (c0.toInt8.toInt32)), .int (nar .byte (c1.toInt8.toInt32))] (.int 0) := A11
  have C11 := C10.other W11 hct
  have N11 := Fr.snoc X11 N10 hnt
  refine Wk.iinc (l' := #[.val (.ref la), .val (.int ((1 : Int32) + (1 : Int32))), .val (.ref t), .val (.int (1 : Int32)), .val (.int (2 : Int32)), .val (.int (1 : Int32)), .val (.int c1)]) X11 hx (1 : Int32) (hb hby d5_32) rfl rfl rfl rfl ?_
  rw [show ((1 : Int32) + (1 : Int32)) = (2 : Int32) from by decide]
  refine Wk.iinc (l' := #[.val (.ref la), .val (.int (2 : Int32)), .val (.ref t), .val (.int ((1 : Int32) + (1 : Int32))), .val (.int (2 : Int32)), .val (.int (1 : Int32)), .val (.int c1)]) X11 hx (1 : Int32) (hb hby d5_35) rfl rfl rfl rfl ?_
  rw [show ((1 : Int32) + (1 : Int32)) = (2 : Int32) from by decide]
  refine Wk.iinc (l' := #[.val (.ref la), .val (.int (2 : Int32)), .val (.ref t), .val (.int (2 : Int32)), .val (.int (2 : Int32)), .val (.int ((1 : Int32) + (1 : Int32))), .val (.int c1)]) X11 hx (1 : Int32) (hb hby d5_38) rfl rfl rfl rfl ?_
  rw [show ((1 : Int32) + (1 : Int32)) = (2 : Int32) from by decide]
  refine Wk.goto X11 hx 3 (hb hby d5_41) rfl ?_
  refine Wk.iload X11 hx (hb hby d5_3) rfl rfl ?_
  refine Wk.iload X11 hx (hb hby d5_5) rfl rfl ?_
  refine Wk.icmp_ge X11 hx 44 10 (hb hby d5_7) rfl rfl (show ((2 : Int32) : Int32).toInt = 2 from (by decide)) (show ((2 : Int32) : Int32).toInt = 2 from (by decide)) (fun h5 => ?_) (fun h5 => absurd h5 (by omega))
  refine Wk.iload X11 hx (hb hby d5_44) rfl rfl ?_
  exact Wk.retI X11 hx hlk hret (hb hby d5_46) (by decide) (by decide) (by rw [e11]; exact ⟨rfl, N11, (((Keep.refl h0 [t]).wr W10 (Or.inl (List.mem_singleton.mpr rfl))).wr W11 (Or.inl (List.mem_singleton.mpr rfl))), B11⟩)
def Qb (Z : State) (z : Int32) (h0 : Heap) (n0 : Nat) (v : Option Value) (h : Heap) (L : List Loc) : Prop := ∃ t kb vs, v = some (.ref t) ∧ Fr n0 L ∧ Ext h0 h ∧ Arv Z h t kb .byte z vs (.int 0)
set_option maxRecDepth 65536 in
set_option maxHeartbeats 40000000 in
theorem mc3 (l : Launch) (Z : State) (a0 : Array Value) (hw : ∀ d ∈ tables_1, d.before a0 Z = true) (la : Addr) (kc : ClassId) (c0 c1 : Int32) (hc0 : c0.toInt ≤ 255) (hc1 : c1.toInt ≤ 255) (n0 : Nat) (h0 : Heap) (hn0 : n0 ≤ h0.size) (C : Arv Z h0 la kc .char 2 [.int c0, .int c1] (.int 0)) : Wk.Met l Z (⟨"java/lang/StringUTF16", "compress", "([CII)[B"⟩ : MethodName) jdk_52_method_16_code 6 (some (.array .byte)) [] { frames := 1, cells := 1, slots := 2, locals := 18 } #[(.ref la), (.int (0 : Int32)), (.int (2 : Int32))] h0 (Qb Z 2 h0 n0) := by
  refine Wk.start pn4 ?_
  intro p e s m below meth c s₁ X0 hx hby hml hown0 hnm hret hlk hZ e0
  have hown : s.vm.findClass "java/lang/StringUTF16" = some m.cls := hown0
  refine Wk.enter (g' := (mkF m 0 #[.val (.ref la), .val (.int (0 : Int32)), .val (.int (2 : Int32)), .unset, .unset, .unset] [])) (by first | rfl | (simp [entryFrame, mkF, argsToLocals, Value.category, maxLocals]; done)) ?_
  refine Wk.iloadN X0 hx (hb hby d4_0) rfl rfl ?_
  refine Wk.newP (z := (2 : Int32)) X0 hx hZ rfl (hw _ (List.mem_of_getElem? (i := 19) rfl)) e0 (by decide) 2 (by decide) (by decide) (by decide) (by decide) (hb hby d4_1) rfl (fun T1 h1 kb X1 e1 Ex1 Av1 => ?_)
  have B1 : Arv Z h1 h0.size kb .byte 2 [.int 0, .int 0] (.int 0) := Av1
  have lt1 : la < h0.size := C.lt
  refine Wk.astoreN (l' := #[.val (.ref la), .val (.int (0 : Int32)), .val (.int (2 : Int32)), .val (.ref h0.size), .unset, .unset]) X1 hx (hb hby d4_3) rfl rfl rfl ?_
  refine Wk.aloadN X1 hx (hb hby d4_4) rfl rfl rfl ?_
  refine Wk.iloadN X1 hx (hb hby d4_5) rfl rfl ?_
  refine Wk.aloadN X1 hx (hb hby d4_6) rfl rfl rfl ?_
  refine Wk.iconst X1 hx (0 : Int32) (hb hby d4_7) rfl rfl ?_
  refine Wk.iloadN X1 hx (hb hby d4_8) rfl rfl ?_
  refine Wk.callS (W := 0) X1 hx hZ (argsL := [(.ref la), (.int (0 : Int32)), (.ref h0.size), (.int (0 : Int32)), (.int (2 : Int32))]) (rest := []) hown (hw _ (List.mem_of_getElem? (i := 20) rfl)) (hw _ (List.mem_of_getElem? (i := 21) rfl)) (hw _ (List.mem_of_getElem? (i := 17) rfl)) (hw _ (List.mem_of_getElem? (i := 22) rfl)) (by decide) (mc5 l Z a0 hw la h0.size kc kb c0 c1 hc0 hc1 n0 hn0 (Nat.ne_of_lt lt1) h1 (C.ext Ex1) B1) e1 (by decide) (by decide) (by decide) (by decide) (by rw [hml]; rfl) (lenOf pd5 rfl) rfl (Nat.le_of_eq rfl) (hb hby d4_9) rfl (fun T6 v6 L6 X6 hq6 => ?_)
  obtain ⟨rfl, N6, K6, B6⟩ := hq6
  show Wk.Go p e below s _ _ _ T6 (mkF m 12 #[.val (.ref la), .val (.int (0 : Int32)), .val (.int (2 : Int32)), .val (.ref h0.size), .unset, .unset] [(.int (2 : Int32))])
  refine Wk.istore (l' := #[.val (.ref la), .val (.int (0 : Int32)), .val (.int (2 : Int32)), .val (.ref h0.size), .val (.int (2 : Int32)), .unset]) X6 hx (hb hby d4_12) rfl rfl ?_
  refine Wk.iload X6 hx (hb hby d4_14) rfl rfl ?_
  refine Wk.iloadN X6 hx (hb hby d4_16) rfl rfl ?_
  refine Wk.icmp_eq X6 hx 57 20 (hb hby d4_17) rfl rfl (show ((2 : Int32) : Int32).toInt = 2 from (by decide)) (show ((2 : Int32) : Int32).toInt = 2 from (by decide)) (fun h7 => ?_) (fun h7 => absurd h7 (by omega))
  refine Wk.aloadN X6 hx (hb hby d4_57) rfl rfl rfl ?_
  exact Wk.retA X6 hx hlk hret rfl rfl (hb hby d4_58) (by decide) (by decide) ⟨_, _, _, rfl, Fr.app (Fr.nil n0) N6, Wk.ext_of_keep (((Keep.refl _ _).ext Ex1).trans K6 (allS (Or.inr (Nat.le_refl _)) all0)), B6⟩
set_option maxRecDepth 65536 in
set_option maxHeartbeats 40000000 in
theorem mcfa (l : Launch) (Z : State) (a0 : Array Value) (hw : ∀ d ∈ tables_1, d.before a0 Z = true) (t : Addr) (kb : ClassId) (vs : List Value) (h0 : Heap) (A : Arv Z h0 t kb .byte 2 vs (.int 0)) : Wk.Met l Z (⟨"java/lang/StringUTF16", "coderFromArrayLen", "([BI)B"⟩ : MethodName) jdk_52_method_15_code 2 (some .byte) [] { frames := 0, cells := 0, slots := 0, locals := 0 } #[(.ref t), (.int (2 : Int32))] h0 (Wk.Pu (.int 0) h0) := by
  refine Wk.start pn6 ?_
  intro p e s m below meth c s₁ X0 hx hby hml hown0 hnm hret hlk hZ e0
  have hown : s.vm.findClass "java/lang/StringUTF16" = some m.cls := hown0
  refine Wk.enter (g' := (mkF m 0 #[.val (.ref t), .val (.int (2 : Int32))] [])) (by first | rfl | (simp [entryFrame, mkF, argsToLocals, Value.category, maxLocals]; done)) ?_
  refine Wk.iloadN X0 hx (hb hby d6_0) rfl rfl ?_
  refine Wk.aloadN X0 hx (hb hby d6_1) rfl rfl rfl ?_
  refine Wk.alen X0 hx hZ e0 A (hb hby d6_2) rfl ?_
  refine Wk.isub X0 hx (hb hby d6_3) rfl ?_
  rw [show ((2 : Int32) - (2 : Int32)) = (0 : Int32) from by decide]
  refine Wk.bipush X0 hx (31 : Int32) (hb hby d6_4) rfl rfl ?_
  refine Wk.iushr X0 hx (hb hby d6_6) rfl ?_
  refine Wk.i2b X0 hx (hb hby d6_7) rfl ?_
  rw [show (XT.ushr (0 : Int32) (31 : Int32)).toInt8.toInt32 = (0 : Int32) from by decide]
  exact Wk.retB X0 hx hlk hret (hb hby d6_8) rfl (Nat.zero_le _) (Nat.zero_le _) (Wk.pu e0)
set_option maxRecDepth 65536 in
set_option maxHeartbeats 40000000 in
theorem mi149 (l : Launch) (Z : State) (a0 : Array Value) (hw : ∀ d ∈ tables_1, d.before a0 Z = true) (a la : Addr) (kc : ClassId) (c0 c1 : Int32) (hc0 : c0.toInt ≤ 255) (hc1 : c1.toInt ≤ 255) (cs : Int32) (n0 : Nat) (hna : n0 ≤ a) (h0 : Heap) (hn0 : n0 ≤ h0.size) (E : Exa Z h0 a "java/lang/String") (Fv : Wk.FldE Z h0 a "java/lang/String" "value" "[B") (Fc : Wk.FldE Z h0 a "java/lang/String" "coder" "B") (C : Arv Z h0 la kc .char 2 [.int c0, .int c1] (.int 0)) (SC : Sta Z h0 "java/lang/String" "COMPACT_STRINGS" "Z" (.int cs)) (hcs : ¬ cs.toInt = 0) : Wk.Met l Z (⟨"java/lang/String", "<init>", "([CIILjava/lang/Void;)V"⟩ : MethodName) jdk_42_method_149_code 6 none [] { frames := 2, cells := 1, slots := 2, locals := 35 } #[(.ref a), (.ref la), (.int (0 : Int32)), (.int (2 : Int32)), (.null)] h0 (Qk h0 [a] n0) := by
  refine Wk.start pn2 ?_
  intro p e s m below meth c s₁ X0 hx hby hml hown0 hnm hret hlk hZ e0
  have hown : s.vm.findClass "java/lang/String" = some m.cls := hown0
  refine Wk.enter (g' := (mkF m 0 #[.val (.ref a), .val (.ref la), .val (.int (0 : Int32)), .val (.int (2 : Int32)), .val (.null), .unset] [])) (by first | rfl | (simp [entryFrame, mkF, argsToLocals, Value.category, maxLocals]; done)) ?_
  refine Wk.aloadN X0 hx (hb hby d2_0) rfl rfl rfl ?_
  refine Wk.initO (W := 0) X0 hx hZ hown (hw _ (List.mem_of_getElem? (i := 11) rfl)) (hw _ (List.mem_of_getElem? (i := 12) rfl)) (hw _ (List.mem_of_getElem? (i := 13) rfl)) e0 (by rw [hml]; rfl) (by decide) (Nat.le_of_eq rfl) (by decide) (hb hby d2_1) rfl (fun T1 X1 e1 => ?_)
  refine Wk.iloadN X1 hx (hb hby d2_4) rfl rfl ?_
  refine Wk.if_ne X1 hx 27 8 (hb hby d2_5) rfl rfl (show ((2 : Int32) : Int32).toInt = 2 from (by decide)) (fun h21 => ?_) (fun h21 => absurd h21 (by omega))
  refine Wk.getS (host := "") X1 hx hZ hown (Or.inl (hw _ (List.mem_of_getElem? (i := 14) rfl))) e1 SC (hb hby d2_27) rfl (fun T22 X22 e22 => ?_)
  refine Wk.if_eq X22 hx 58 33 (hb hby d2_30) rfl rfl (show (cs : Int32).toInt = (cs).toInt from rfl) (fun h23 => absurd h23 (by omega)) (fun h23 => ?_)
  refine Wk.aloadN X22 hx (hb hby d2_33) rfl rfl rfl ?_
  refine Wk.iloadN X22 hx (hb hby d2_34) rfl rfl ?_
  refine Wk.iloadN X22 hx (hb hby d2_35) rfl rfl ?_
  refine Wk.callS (W := 0) X22 hx hZ (argsL := [(.ref la), (.int (0 : Int32)), (.int (2 : Int32))]) (rest := []) hown (hw _ (List.mem_of_getElem? (i := 15) rfl)) (hw _ (List.mem_of_getElem? (i := 16) rfl)) (hw _ (List.mem_of_getElem? (i := 17) rfl)) (hw _ (List.mem_of_getElem? (i := 18) rfl)) (by decide) (mc3 l Z a0 hw la kc c0 c1 hc0 hc1 n0 h0 hn0 C) e22 (by decide) (by decide) (by decide) (by decide) (by rw [hml]; rfl) (lenOf pd4 rfl) rfl (Nat.le_of_eq rfl) (hb hby d2_36) rfl (fun T24 v24 L24 X24 hq24 => ?_)
  obtain ⟨t, kb, vs, rfl, Nc, Ec, Ac⟩ := hq24
  show Wk.Go p e below s _ _ _ T24 (mkF m 39 #[.val (.ref a), .val (.ref la), .val (.int (0 : Int32)), .val (.int (2 : Int32)), .val (.null), .unset] [(.ref t)])
  refine Wk.astore (l' := #[.val (.ref a), .val (.ref la), .val (.int (0 : Int32)), .val (.int (2 : Int32)), .val (.null), .val (.ref t)]) X24 hx (hb hby d2_39) rfl rfl rfl ?_
  refine Wk.aloadN X24 hx (hb hby d2_41) rfl rfl rfl ?_
  refine Wk.aload X24 hx (hb hby d2_42) rfl rfl rfl ?_
  refine Wk.iloadN X24 hx (hb hby d2_44) rfl rfl ?_
  refine Wk.callP (W := 1) X24 hx hZ (argsL := [(.ref t), (.int (2 : Int32))]) (rest := [(.ref a)]) hown (hw _ (List.mem_of_getElem? (i := 23) rfl)) (hw _ (List.mem_of_getElem? (i := 24) rfl)) (hw _ (List.mem_of_getElem? (i := 17) rfl)) (hw _ (List.mem_of_getElem? (i := 25) rfl)) (by decide) (mcfa l Z a0 hw t kb vs T24.heap Ac) rfl (by decide) (by decide) (by decide) (by decide) (by rw [hml]; rfl) (lenOf pd6 rfl) rfl (Nat.le_of_eq rfl) (hb hby d2_45) rfl (fun T25 X25 e25 => ?_)
  obtain ⟨old11, Fo11⟩ := (Fc.ext Ec)
  refine Wk.putF (host := "") (ty := .byte) X25 hx hZ hown (Or.inl (hw _ (List.mem_of_getElem? (i := 26) rfl))) e25 Fo11 (E.ext Ec) (Or.inr ⟨(hw _ (List.mem_of_getElem? (i := 27) rfl)), rfl, hnm⟩) (hw _ (List.mem_of_getElem? (i := 2) rfl)) (by decide) rfl rfl (hb hby d2_48) rfl (fun T11 h11 X11 e11 W11 => ?_)
  have N11 := Fr.snoc X11 (Fr.app (Fr.nil n0) Nc) hna
  refine Wk.aloadN X11 hx (hb hby d2_51) rfl rfl rfl ?_
  refine Wk.aload X11 hx (hb hby d2_52) rfl rfl rfl ?_
  obtain ⟨old12, Fo12⟩ := ((Fv.ext Ec).wr W11)
  refine Wk.putF (host := "") (ty := (.array .byte)) X11 hx hZ hown (Or.inl (hw _ (List.mem_of_getElem? (i := 28) rfl))) e11 Fo12 ((E.ext Ec).wr W11) (Or.inr ⟨(hw _ (List.mem_of_getElem? (i := 29) rfl)), rfl, hnm⟩) (hw _ (List.mem_of_getElem? (i := 2) rfl)) (by decide) rfl rfl (hb hby d2_54) rfl (fun T12 h12 X12 e12 W12 => ?_)
  have N12 := Fr.snoc X12 N11 hna
  exact Wk.retV X12 hx hlk hret (hb hby d2_57) (by decide) (by decide) (by rw [e12]; exact ⟨rfl, N12, ((((Keep.refl h0 [a]).ext Ec).wr W11 (Or.inl (List.mem_singleton.mpr rfl))).wr W12 (Or.inl (List.mem_singleton.mpr rfl)))⟩)
set_option maxRecDepth 65536 in
set_option maxHeartbeats 40000000 in
theorem mi3 (l : Launch) (Z : State) (a0 : Array Value) (hw : ∀ d ∈ tables_1, d.before a0 Z = true) (a la : Addr) (kc : ClassId) (c0 c1 : Int32) (hc0 : c0.toInt ≤ 255) (hc1 : c1.toInt ≤ 255) (cs : Int32) (n0 : Nat) (hna : n0 ≤ a) (h0 : Heap) (hn0 : n0 ≤ h0.size) (E : Exa Z h0 a "java/lang/String") (Fv : Wk.FldE Z h0 a "java/lang/String" "value" "[B") (Fc : Wk.FldE Z h0 a "java/lang/String" "coder" "B") (C : Arv Z h0 la kc .char 2 [.int c0, .int c1] (.int 0)) (SC : Sta Z h0 "java/lang/String" "COMPACT_STRINGS" "Z" (.int cs)) (hcs : ¬ cs.toInt = 0) : Wk.Met l Z (⟨"java/lang/String", "<init>", "([C)V"⟩ : MethodName) jdk_42_method_3_code 2 none [] { frames := 3, cells := 1, slots := 2, locals := 52 } #[(.ref a), (.ref la)] h0 (Qk h0 [a] n0) := by
  refine Wk.start pn1 ?_
  intro p e s m below meth c s₁ X0 hx hby hml hown0 hnm hret hlk hZ e0
  have hown : s.vm.findClass "java/lang/String" = some m.cls := hown0
  refine Wk.enter (g' := (mkF m 0 #[.val (.ref a), .val (.ref la)] [])) (by first | rfl | (simp [entryFrame, mkF, argsToLocals, Value.category, maxLocals]; done)) ?_
  refine Wk.aloadN X0 hx (hb hby d1_0) rfl rfl rfl ?_
  refine Wk.aloadN X0 hx (hb hby d1_1) rfl rfl rfl ?_
  refine Wk.iconst X0 hx (0 : Int32) (hb hby d1_2) rfl rfl ?_
  refine Wk.aloadN X0 hx (hb hby d1_3) rfl rfl rfl ?_
  refine Wk.alen X0 hx hZ e0 C (hb hby d1_4) rfl ?_
  refine Wk.anull X0 hx (hb hby d1_5) rfl ?_
  refine Wk.callI (W := 0) X0 hx hZ (argsL := [(.ref la), (.int (0 : Int32)), (.int (2 : Int32)), (.null)]) (rest := []) rfl hown (hw _ (List.mem_of_getElem? (i := 7) rfl)) (hw _ (List.mem_of_getElem? (i := 8) rfl)) (hw _ (List.mem_of_getElem? (i := 3) rfl)) (hw _ (List.mem_of_getElem? (i := 10) rfl)) (by decide) (mi149 l Z a0 hw a la kc c0 c1 hc0 hc1 cs n0 hna h0 hn0 E Fv Fc C SC hcs) e0 (by decide) (by decide) (by decide) (by decide) (by rw [hml]; rfl) (lenOf pd2 rfl) rfl (Nat.le_of_eq rfl) (hb hby d1_6) rfl (fun T1 v1 L1 X1 hq1 => ?_)
  obtain ⟨rfl, N1, K1⟩ := hq1
  show Wk.Go p e below s _ _ _ T1 (mkF m 9 #[.val (.ref a), .val (.ref la)] [])
  exact Wk.retV X1 hx hlk hret (hb hby d1_9) (by decide) (by decide) ⟨rfl, Fr.app (Fr.nil n0) N1, K1⟩
set_option maxRecDepth 65536 in
set_option maxHeartbeats 40000000 in
theorem mibb (l : Launch) (Z : State) (a0 : Array Value) (hw : ∀ d ∈ tables_1, d.before a0 Z = true) (a t : Addr) (n0 : Nat) (hna : n0 ≤ a) (h0 : Heap) (E : Exa Z h0 a "java/lang/String") (Fv : Wk.FldE Z h0 a "java/lang/String" "value" "[B") (Fc : Wk.FldE Z h0 a "java/lang/String" "coder" "B") : Wk.Met l Z (⟨"java/lang/String", "<init>", "([BB)V"⟩ : MethodName) jdk_42_method_151_code 3 none [] { frames := 1, cells := 0, slots := 0, locals := 12 } #[(.ref a), (.ref t), (.int (0 : Int32))] h0 (Qk h0 [a] n0) := by
  refine Wk.start pn16 ?_
  intro p e s m below meth c s₁ X0 hx hby hml hown0 hnm hret hlk hZ e0
  have hown : s.vm.findClass "java/lang/String" = some m.cls := hown0
  refine Wk.enter (g' := (mkF m 0 #[.val (.ref a), .val (.ref t), .val (.int (0 : Int32))] [])) (by first | rfl | (simp [entryFrame, mkF, argsToLocals, Value.category, maxLocals]; done)) ?_
  refine Wk.aloadN X0 hx (hb hby d16_0) rfl rfl rfl ?_
  refine Wk.initO (W := 0) X0 hx hZ hown (hw _ (List.mem_of_getElem? (i := 11) rfl)) (hw _ (List.mem_of_getElem? (i := 12) rfl)) (hw _ (List.mem_of_getElem? (i := 13) rfl)) e0 (by rw [hml]; rfl) (by decide) (Nat.le_of_eq rfl) (by decide) (hb hby d16_1) rfl (fun T1 X1 e1 => ?_)
  refine Wk.aloadN X1 hx (hb hby d16_4) rfl rfl rfl ?_
  refine Wk.aloadN X1 hx (hb hby d16_5) rfl rfl rfl ?_
  obtain ⟨old11, Fo11⟩ := Fv
  refine Wk.putF (host := "") (ty := (.array .byte)) X1 hx hZ hown (Or.inl (hw _ (List.mem_of_getElem? (i := 28) rfl))) e1 Fo11 E (Or.inr ⟨(hw _ (List.mem_of_getElem? (i := 29) rfl)), rfl, hnm⟩) (hw _ (List.mem_of_getElem? (i := 2) rfl)) (by decide) rfl rfl (hb hby d16_6) rfl (fun T11 h11 X11 e11 W11 => ?_)
  have N11 := Fr.snoc X11 (Fr.nil n0) hna
  refine Wk.aloadN X11 hx (hb hby d16_9) rfl rfl rfl ?_
  refine Wk.iloadN X11 hx (hb hby d16_10) rfl rfl ?_
  obtain ⟨old12, Fo12⟩ := (Fc.wr W11)
  refine Wk.putF (host := "") (ty := .byte) X11 hx hZ hown (Or.inl (hw _ (List.mem_of_getElem? (i := 26) rfl))) e11 Fo12 (E.wr W11) (Or.inr ⟨(hw _ (List.mem_of_getElem? (i := 27) rfl)), rfl, hnm⟩) (hw _ (List.mem_of_getElem? (i := 2) rfl)) (by decide) rfl rfl (hb hby d16_11) rfl (fun T12 h12 X12 e12 W12 => ?_)
  have N12 := Fr.snoc X12 N11 hna
  exact Wk.retV X12 hx hlk hret (hb hby d16_14) (by decide) (by decide) (by rw [e12]; exact ⟨rfl, N12, (((Keep.refl h0 [a]).wr W11 (Or.inl (List.mem_singleton.mpr rfl))).wr W12 (Or.inl (List.mem_singleton.mpr rfl)))⟩)
set_option maxRecDepth 65536 in
set_option maxHeartbeats 40000000 in
theorem mcen (l : Launch) (Z : State) (a0 : Array Value) (hw : ∀ d ∈ tables_1, d.before a0 Z = true) (c0 : Int32) (hc0 : c0.toInt ≤ 255) (h0 : Heap)  : Wk.Met l Z (⟨"java/lang/StringLatin1", "canEncode", "(C)Z"⟩ : MethodName) jdk_43_method_3_code 1 (some .boolean) [] { frames := 0, cells := 0, slots := 0, locals := 0 } #[(.int c0)] h0 (Wk.Pu (.int 1) h0) := by
  refine Wk.start pn14 ?_
  intro p e s m below meth c s₁ X0 hx hby hml hown0 hnm hret hlk hZ e0
  have hown : s.vm.findClass "java/lang/StringLatin1" = some m.cls := hown0
  refine Wk.enter (g' := (mkF m 0 #[.val (.int c0)] [])) (by first | rfl | (simp [entryFrame, mkF, argsToLocals, Value.category, maxLocals]; done)) ?_
  refine Wk.iloadN X0 hx (hb hby d14_0) rfl rfl ?_
  refine Wk.sipush X0 hx (255 : Int32) (hb hby d14_1) rfl rfl ?_
  refine Wk.icmp_gt X0 hx 11 7 (hb hby d14_4) rfl rfl (show (c0 : Int32).toInt = (c0).toInt from rfl) (show ((255 : Int32) : Int32).toInt = 255 from (by decide)) (fun h1 => absurd h1 (by omega)) (fun h1 => ?_)
  refine Wk.iconst X0 hx (1 : Int32) (hb hby d14_7) rfl rfl ?_
  refine Wk.goto X0 hx 12 (hb hby d14_8) rfl ?_
  exact Wk.retZ X0 hx hlk hret (hb hby d14_12) (by decide) (Nat.zero_le _) (Nat.zero_le _) (Wk.pu e0)
set_option maxRecDepth 65536 in
set_option maxHeartbeats 40000000 in
theorem mtob (l : Launch) (Z : State) (a0 : Array Value) (hw : ∀ d ∈ tables_1, d.before a0 Z = true) (c0 : Int32) (n0 : Nat) (h0 : Heap) (hn0 : n0 ≤ h0.size) : Wk.Met l Z (⟨"java/lang/StringLatin1", "toBytes", "(C)[B"⟩ : MethodName) jdk_43_method_46_code 1 (some (.array .byte)) [] { frames := 0, cells := 1, slots := 1, locals := 0 } #[(.int c0)] h0 (Qb Z 1 h0 n0) := by
  refine Wk.start pn15 ?_
  intro p e s m below meth c s₁ X0 hx hby hml hown0 hnm hret hlk hZ e0
  have hown : s.vm.findClass "java/lang/StringLatin1" = some m.cls := hown0
  refine Wk.enter (g' := (mkF m 0 #[.val (.int c0)] [])) (by first | rfl | (simp [entryFrame, mkF, argsToLocals, Value.category, maxLocals]; done)) ?_
  refine Wk.iconst X0 hx (1 : Int32) (hb hby d15_0) rfl rfl ?_
  refine Wk.newP (z := (1 : Int32)) X0 hx hZ rfl (hw _ (List.mem_of_getElem? (i := 19) rfl)) e0 (by decide) 1 (by decide) (by decide) (by decide) (by decide) (hb hby d15_1) rfl (fun T1 h1 kb X1 e1 Ex1 Av1 => ?_)
  have B1 : Arv Z h1 h0.size kb .byte 1 [.int 0] (.int 0) := Av1
  refine Wk.dup X1 hx (hb hby d15_3) rfl rfl ?_
  refine Wk.iconst X1 hx (0 : Int32) (hb hby d15_4) rfl rfl ?_
  refine Wk.iloadN X1 hx (hb hby d15_5) rfl rfl ?_
  refine Wk.i2b X1 hx (hb hby d15_6) rfl ?_
  refine Wk.bastore X1 hx hZ e1 B1 (by decide) (by decide) 0 (by decide) (Nat.le_of_ble_eq_true rfl) (hb hby d15_7) rfl (fun T2 h2 X2 e2 W2 A2 => ?_)
  exact Wk.retA X2 hx hlk hret rfl rfl (hb hby d15_8) (by decide) (by decide) (by rw [e2]; exact ⟨_, _, _, rfl, Fr.snoc X2 (Fr.nil n0) hn0, Wk.ext_of_keep (((Keep.refl _ _).ext Ex1).wr W2 (Or.inr (Nat.le_refl _))), A2⟩)
def Qs (Z : State) (h0 : Heap) (n0 : Nat) (v : Option Value) (h : Heap) (L : List Loc) : Prop := ∃ a, v = some (.ref a) ∧ Fr n0 L ∧ Ext h0 h
set_option maxRecDepth 65536 in
set_option maxHeartbeats 40000000 in
theorem mvof (l : Launch) (Z : State) (a0 : Array Value) (hw : ∀ d ∈ tables_1, d.before a0 Z = true) (c0 : Int32) (hc0 : c0.toInt ≤ 255) (cs : Int32) (n0 : Nat) (h0 : Heap) (hn0 : n0 ≤ h0.size) (SC : Sta Z h0 "java/lang/String" "COMPACT_STRINGS" "Z" (.int cs)) (hcs : ¬ cs.toInt = 0) : Wk.Met l Z (⟨"java/lang/String", "valueOf", "(C)Ljava/lang/String;"⟩ : MethodName) jdk_42_method_139_code 1 (some (.object "java/lang/String")) [] { frames := 2, cells := 2, slots := 5, locals := 28 } #[(.int c0)] h0 (Qs Z h0 n0) := by
  refine Wk.start pn13 ?_
  intro p e s m below meth c s₁ X0 hx hby hml hown0 hnm hret hlk hZ e0
  have hown : s.vm.findClass "java/lang/String" = some m.cls := hown0
  refine Wk.enter (g' := (mkF m 0 #[.val (.int c0)] [])) (by first | rfl | (simp [entryFrame, mkF, argsToLocals, Value.category, maxLocals]; done)) ?_
  refine Wk.getS (host := "") X0 hx hZ hown (Or.inl (hw _ (List.mem_of_getElem? (i := 14) rfl))) e0 SC (hb hby d13_0) rfl (fun T21 X21 e21 => ?_)
  refine Wk.if_eq X21 hx 26 6 (hb hby d13_3) rfl rfl (show (cs : Int32).toInt = (cs).toInt from rfl) (fun h22 => absurd h22 (by omega)) (fun h22 => ?_)
  refine Wk.iloadN X21 hx (hb hby d13_6) rfl rfl ?_
  refine Wk.callP (W := 0) X21 hx hZ (argsL := [(.int c0)]) (rest := []) hown (hw _ (List.mem_of_getElem? (i := 72) rfl)) (hw _ (List.mem_of_getElem? (i := 73) rfl)) (hw _ (List.mem_of_getElem? (i := 74) rfl)) (hw _ (List.mem_of_getElem? (i := 75) rfl)) (by decide) (mcen l Z a0 hw c0 hc0 h0) e21 (by decide) (by decide) (by decide) (by decide) (by rw [hml]; rfl) (lenOf pd14 rfl) rfl (Nat.le_of_eq rfl) (hb hby d13_7) rfl (fun T23 X23 e23 => ?_)
  refine Wk.if_eq X23 hx 26 13 (hb hby d13_10) rfl rfl (show ((1 : Int32) : Int32).toInt = 1 from (by decide)) (fun h24 => absurd h24 (by omega)) (fun h24 => ?_)
  refine Wk.newO X23 hx hZ hown (hw _ (List.mem_of_getElem? (i := 76) rfl)) (hw _ (List.mem_of_getElem? (i := 2) rfl)) (hw _ (List.mem_of_getElem? (i := 3) rfl)) e23 (hb hby d13_13) (by decide) (by decide) rfl (fun T1 h1 X1 e1 Ex1 A1 D1 => ?_)
  refine Wk.dup X1 hx (hb hby d13_16) rfl rfl ?_
  refine Wk.iloadN X1 hx (hb hby d13_17) rfl rfl ?_
  refine Wk.callS (W := 2) X1 hx hZ (argsL := [(.int c0)]) (rest := [(.ref h0.size), (.ref h0.size)]) hown (hw _ (List.mem_of_getElem? (i := 77) rfl)) (hw _ (List.mem_of_getElem? (i := 78) rfl)) (hw _ (List.mem_of_getElem? (i := 74) rfl)) (hw _ (List.mem_of_getElem? (i := 79) rfl)) (by decide) (mtob l Z a0 hw c0 n0 h1 (Nat.le_trans hn0 Ex1.1)) e1 (by decide) (by decide) (by decide) (by decide) (by rw [hml]; rfl) (lenOf pd15 rfl) rfl (Nat.le_of_eq rfl) (hb hby d13_18) rfl (fun T25 v25 L25 X25 hq25 => ?_)
  obtain ⟨t, kb, vs, rfl, Nt, Et, At⟩ := hq25
  show Wk.Go p e below s _ _ _ T25 (mkF m 21 #[.val (.int c0)] [(.ref t), (.ref h0.size), (.ref h0.size)])
  refine Wk.iconst X25 hx (0 : Int32) (hb hby d13_21) rfl rfl ?_
  refine Wk.callI (W := 1) X25 hx hZ (argsL := [(.ref t), (.int (0 : Int32))]) (rest := [(.ref h0.size)]) rfl hown (hw _ (List.mem_of_getElem? (i := 80) rfl)) (hw _ (List.mem_of_getElem? (i := 81) rfl)) (hw _ (List.mem_of_getElem? (i := 3) rfl)) (hw _ (List.mem_of_getElem? (i := 82) rfl)) (by decide) (mibb l Z a0 hw h0.size t n0 hn0 T25.heap (A1.ext Et) (Wk.FldE.ext (Wk.FldE.of (D1 (Or.inr (hw _ (List.mem_of_getElem? (i := 29) rfl))) (ty := .array .byte) (by decide))) Et) (Wk.FldE.ext (Wk.FldE.of (D1 (Or.inr (hw _ (List.mem_of_getElem? (i := 27) rfl))) (ty := .byte) (by decide))) Et)) rfl (by decide) (by decide) (by decide) (by decide) (by rw [hml]; rfl) (lenOf pd16 rfl) rfl (Nat.le_of_eq rfl) (hb hby d13_22) rfl (fun T2 v2 L2 X2 hq2 => ?_)
  obtain ⟨rfl, N2, K2⟩ := hq2
  show Wk.Go p e below s _ _ _ T2 (mkF m 25 #[.val (.int c0)] [(.ref h0.size)])
  exact Wk.retA X2 hx hlk hret rfl rfl (hb hby d13_25) (by decide) (by decide) ⟨_, rfl, Fr.app (Fr.app (Fr.nil n0) Nt) N2, Wk.ext_of_keep ((((Keep.refl h0 []).ext Ex1).ext Et).trans K2 (allS (Or.inr (Nat.le_refl _)) all0))⟩
set_option maxRecDepth 65536 in
set_option maxHeartbeats 40000000 in
theorem rmL (l : Launch) (Z : State) (a0 : Array Value) (hw : ∀ d ∈ tables_1, d.before a0 Z = true) (i0 i1 i2 i3 : Int32) (r0 r1 r2 r3 r4 : Addr) (cs : Int32) (n0 : Nat) (h0 : Heap) (hn0 : n0 ≤ h0.size) (S0 : Sta Z h0 "com/example/tunnus/tunnus/service/LoginOutcome$Refusal" "BAD_CREDENTIALS" "Lcom/example/tunnus/tunnus/service/LoginOutcome$Refusal;" (.ref r0)) (S1 : Sta Z h0 "com/example/tunnus/tunnus/service/LoginOutcome$Refusal" "DEACTIVATED" "Lcom/example/tunnus/tunnus/service/LoginOutcome$Refusal;" (.ref r1)) (S2 : Sta Z h0 "com/example/tunnus/tunnus/service/LoginOutcome$Refusal" "EXPIRED" "Lcom/example/tunnus/tunnus/service/LoginOutcome$Refusal;" (.ref r2)) (S3 : Sta Z h0 "com/example/tunnus/tunnus/service/LoginOutcome$Refusal" "PASSWORD_EXPIRED" "Lcom/example/tunnus/tunnus/service/LoginOutcome$Refusal;" (.ref r3)) (S4 : Sta Z h0 "com/example/tunnus/tunnus/service/LoginOutcome$Refusal" "DIRECTORY_UNAVAILABLE" "Lcom/example/tunnus/tunnus/service/LoginOutcome$Refusal;" (.ref r4)) (SC : Sta Z h0 "java/lang/String" "COMPACT_STRINGS" "Z" (.int cs)) (hcs : ¬ cs.toInt = 0) : Wk.Met l Z x code maxLocals ret tables_1 room_1 #[(.int i0), (.int i1), (.int i2), (.int i3)] h0 (Wk.Fq (.int 1) n0) := by
  refine Wk.start pnL ?_
  intro p e s m below meth c s₁ X0 hx hby hml hown0 hnm hret hlk hZ e0
  have hown : s.vm.findClass "com/example/tunnus/tunnus/service/LoginOutcomeIsAcceptedPinLaw" = some m.cls := hown0
  refine Wk.enter (g' := (mkF m 0 #[.val (.int i0), .val (.int i1), .val (.int i2), .val (.int i3), .unset, .unset, .unset, .unset, .unset, .unset, .unset, .unset] [])) (by first | rfl | (simp [entryFrame, mkF, argsToLocals, Value.category, maxLocals]; done)) ?_
  refine Wk.iloadN X0 hx (hb hby at_0) rfl rfl ?_
  refine Wk.iconst X0 hx (1 : Int32) (hb hby at_1) rfl rfl ?_
  refine Wk.iand X0 hx (hb hby at_2) rfl ?_
  refine Wk.if_eq X0 hx 10 6 (hb hby at_3) rfl rfl (show (i0 &&& (1 : Int32) : Int32).toInt = (i0 &&& (1 : Int32)).toInt from rfl) (fun h101 => ?_) (fun h101 => ?_)
  · skip
    refine Wk.iconst X0 hx (0 : Int32) (hb hby at_10) rfl rfl ?_
    refine Wk.istore (l' := #[.val (.int i0), .val (.int i1), .val (.int i2), .val (.int i3), .val (.int (0 : Int32)), .unset, .unset, .unset, .unset, .unset, .unset, .unset]) X0 hx (hb hby at_11) rfl rfl ?_
    refine Wk.iconst X0 hx (2 : Int32) (hb hby at_13) rfl rfl ?_
    refine Wk.newP (z := (2 : Int32)) X0 hx hZ rfl (hw _ (List.mem_of_getElem? (i := 0) rfl)) e0 (by decide) 2 (by decide) (by decide) (by decide) (by decide) (hb hby at_14) rfl (fun T1 h1 kc X1 e1 Ex1 Av1 => ?_)
    have B1 : Arv Z h1 h0.size kc .char 2 [.int 0, .int 0] (.int 0) := Av1
    have hn1 : n0 ≤ h1.size := Nat.le_trans hn0 Ex1.1
    refine Wk.astore (l' := #[.val (.int i0), .val (.int i1), .val (.int i2), .val (.int i3), .val (.int (0 : Int32)), .val (.ref h0.size), .unset, .unset, .unset, .unset, .unset, .unset]) X1 hx (hb hby at_16) rfl rfl rfl ?_
    refine Wk.aload X1 hx (hb hby at_18) rfl rfl rfl ?_
    refine Wk.iconst X1 hx (0 : Int32) (hb hby at_20) rfl rfl ?_
    refine Wk.iloadN X1 hx (hb hby at_21) rfl rfl ?_
    refine Wk.sipush X1 hx (255 : Int32) (hb hby at_22) rfl rfl ?_
    refine Wk.iand X1 hx (hb hby at_25) rfl ?_
    refine Wk.i2c X1 hx (hb hby at_26) rfl ?_
    rw [i2c_mask]
    refine Wk.castore X1 hx hZ e1 B1 (by decide) (by decide) 0 (by decide) (Nat.le_of_ble_eq_true rfl) (hb hby at_27) rfl (fun T10 h10 X10 e10 W10 A10 => ?_)
    rw [show nar .char (i2 &&& (255 : Int32)) = i2 &&& (255 : Int32) from i2c_mask _] at A10
    have B10 : Arv Z h10 h0.size kc .char 2 [.int (i2 &&& (255 : Int32)), .int 0] (.int 0) := A10
    have N10 := Fr.snoc X10 (Fr.nil n0) hn0
    refine Wk.aload X10 hx (hb hby at_28) rfl rfl rfl ?_
    refine Wk.iconst X10 hx (1 : Int32) (hb hby at_30) rfl rfl ?_
    refine Wk.iloadN X10 hx (hb hby at_31) rfl rfl ?_
    refine Wk.sipush X10 hx (255 : Int32) (hb hby at_32) rfl rfl ?_
    refine Wk.iand X10 hx (hb hby at_35) rfl ?_
    refine Wk.i2c X10 hx (hb hby at_36) rfl ?_
    rw [i2c_mask]
    refine Wk.castore X10 hx hZ e10 B10 (by decide) (by decide) 1 (by decide) (Nat.le_of_ble_eq_true rfl) (hb hby at_37) rfl (fun T11 h11 X11 e11 W11 A11 => ?_)
    rw [show nar .char (i3 &&& (255 : Int32)) = i3 &&& (255 : Int32) from i2c_mask _] at A11
    have B11 : Arv Z h11 h0.size kc .char 2 [.int (i2 &&& (255 : Int32)), .int (i3 &&& (255 : Int32))] (.int 0) := A11
    have N11 := Fr.snoc X11 N10 hn0
    have m0 := c_mask i2 (255 : Int32) 8 (by decide) (by decide); have m1 := c_mask i3 (255 : Int32) 8 (by decide) (by decide)
    have hn2 : n0 ≤ h11.size := Nat.le_of_lt (Nat.lt_of_le_of_lt hn0 B11.lt)
    refine Wk.newO X11 hx hZ hown (hw _ (List.mem_of_getElem? (i := 1) rfl)) (hw _ (List.mem_of_getElem? (i := 2) rfl)) (hw _ (List.mem_of_getElem? (i := 3) rfl)) e11 (hb hby at_38) (by decide) (by decide) rfl (fun T20 h20 X20 e20 Ex20 A20 D20 => ?_)
    have hn3 : n0 ≤ h20.size := Nat.le_trans hn2 Ex20.1
    refine Wk.dup X20 hx (hb hby at_41) rfl rfl ?_
    refine Wk.aload X20 hx (hb hby at_42) rfl rfl rfl ?_
    refine Wk.callI (W := 1) X20 hx hZ (argsL := [(.ref h0.size)]) (rest := [(.ref h11.size)]) rfl hown (hw _ (List.mem_of_getElem? (i := 4) rfl)) (hw _ (List.mem_of_getElem? (i := 5) rfl)) (hw _ (List.mem_of_getElem? (i := 3) rfl)) (hw _ (List.mem_of_getElem? (i := 6) rfl)) (by decide) (mi3 l Z a0 hw (h11.size) h0.size kc (i2 &&& 255) (i3 &&& 255) (by omega) (by omega) cs n0 hn2 h20 hn3 A20 (Wk.FldE.of (D20 (Or.inr (hw _ (List.mem_of_getElem? (i := 29) rfl))) (ty := .array .byte) (by decide))) (Wk.FldE.of (D20 (Or.inr (hw _ (List.mem_of_getElem? (i := 27) rfl))) (ty := .byte) (by decide))) (B11.ext Ex20) ((((SC.ext Ex1).wr W10).wr W11).ext Ex20) hcs) e20 (by decide) (by decide) (by decide) (by decide) (by rw [hml]; rfl) (lenOf pd1 rfl) rfl (Nat.le_of_eq rfl) (hb hby at_44) rfl (fun T21 v21 L21 X21 hq21 => ?_)
    obtain ⟨rfl, N21, K21⟩ := hq21
    have hn4 : n0 ≤ T21.heap.size := Nat.le_trans hn3 K21.1
    have SC' := (sta_keep ((((SC.ext Ex1).wr W10).wr W11).ext Ex20) K21 (exa_plain A20))
    have S0' := (sta_keep ((((S0.ext Ex1).wr W10).wr W11).ext Ex20) K21 (exa_plain A20))
    have S1' := (sta_keep ((((S1.ext Ex1).wr W10).wr W11).ext Ex20) K21 (exa_plain A20))
    have S2' := (sta_keep ((((S2.ext Ex1).wr W10).wr W11).ext Ex20) K21 (exa_plain A20))
    have S3' := (sta_keep ((((S3.ext Ex1).wr W10).wr W11).ext Ex20) K21 (exa_plain A20))
    have S4' := (sta_keep ((((S4.ext Ex1).wr W10).wr W11).ext Ex20) K21 (exa_plain A20))
    show Wk.Go p e below s _ _ _ T21 (mkF m 47 #[.val (.int i0), .val (.int i1), .val (.int i2), .val (.int i3), .val (.int (0 : Int32)), .val (.ref h0.size), .unset, .unset, .unset, .unset, .unset, .unset] [(.ref h11.size)])
    refine Wk.astore (l' := #[.val (.int i0), .val (.int i1), .val (.int i2), .val (.int i3), .val (.int (0 : Int32)), .val (.ref h0.size), .val (.ref h11.size), .unset, .unset, .unset, .unset, .unset]) X21 hx (hb hby at_47) rfl rfl rfl ?_
    refine Wk.iloadN X21 hx (hb hby at_49) rfl rfl ?_
    refine Wk.iconst X21 hx (2 : Int32) (hb hby at_50) rfl rfl ?_
    refine Wk.iand X21 hx (hb hby at_51) rfl ?_
    refine Wk.if_eq X21 hx 66 55 (hb hby at_52) rfl rfl (show (i0 &&& (2 : Int32) : Int32).toInt = (i0 &&& (2 : Int32)).toInt from rfl) (fun h102 => ?_) (fun h102 => ?_)
    · skip
      refine Wk.iloadN X21 hx (hb hby at_66) rfl rfl ?_
      refine Wk.callS (W := 0) X21 hx hZ (argsL := [(.int i1)]) (rest := []) hown (hw _ (List.mem_of_getElem? (i := 30) rfl)) (hw _ (List.mem_of_getElem? (i := 31) rfl)) (hw _ (List.mem_of_getElem? (i := 32) rfl)) (hw _ (List.mem_of_getElem? (i := 33) rfl)) (by decide) (mpick l Z a0 hw i1 r0 r1 r2 r3 r4 T21.heap S0' S1' S2' S3' S4') rfl (by decide) (by decide) (by decide) (by decide) (by rw [hml]; rfl) (lenOf pd7 rfl) rfl (Nat.le_of_eq rfl) (hb hby at_67) rfl (fun T103 v103 L103 X103 hq103 => ?_)
      obtain ⟨⟨rr, rfl⟩, rfl, hh103⟩ := hq103
      rw [List.append_nil] at X103
      rw [← hh103] at hn4
      show Wk.Go p e below s _ _ _ T103 (mkF m 70 #[.val (.int i0), .val (.int i1), .val (.int i2), .val (.int i3), .val (.int (0 : Int32)), .val (.ref h0.size), .val (.ref h11.size), .unset, .unset, .unset, .unset, .unset] [(.ref rr)])
      refine Wk.astore (l' := #[.val (.int i0), .val (.int i1), .val (.int i2), .val (.int i3), .val (.int (0 : Int32)), .val (.ref h0.size), .val (.ref h11.size), .val (.ref rr), .unset, .unset, .unset, .unset]) X103 hx (hb hby at_70) rfl rfl rfl ?_
      refine Wk.iload X103 hx (hb hby at_72) rfl rfl ?_
      refine Wk.if_eq X103 hx 92 77 (hb hby at_74) rfl rfl (show ((0 : Int32) : Int32).toInt = 0 from (by decide)) (fun h104 => ?_) (fun h104 => absurd h104 (by omega))
      refine Wk.newO X103 hx hZ hown (hw _ (List.mem_of_getElem? (i := 38) rfl)) (hw _ (List.mem_of_getElem? (i := 39) rfl)) (hw _ (List.mem_of_getElem? (i := 40) rfl)) rfl (hb hby at_92) (by decide) (by decide) rfl (fun T50 h50 X50 e50 Ex50 A50 D50 => ?_)
      refine Wk.dup X50 hx (hb hby at_95) rfl rfl ?_
      refine Wk.anull X50 hx (hb hby at_96) rfl ?_
      refine Wk.aload X50 hx (hb hby at_97) rfl rfl rfl ?_
      refine Wk.callI (W := 1) X50 hx hZ (argsL := [(.null), (.ref rr)]) (rest := [(.ref T103.heap.size)]) rfl hown (hw _ (List.mem_of_getElem? (i := 41) rfl)) (hw _ (List.mem_of_getElem? (i := 42) rfl)) (hw _ (List.mem_of_getElem? (i := 40) rfl)) (hw _ (List.mem_of_getElem? (i := 43) rfl)) (by decide) (mloi0 l Z a0 hw (T103.heap.size) (rr) n0 hn4 h50 (D50 (Or.inr (hw _ (List.mem_of_getElem? (i := 51) rfl))) (ty := (.object "java/lang/String")) (by decide)) (D50 (Or.inr (hw _ (List.mem_of_getElem? (i := 53) rfl))) (ty := (.object "com/example/tunnus/tunnus/service/LoginOutcome$Refusal")) (by decide)) A50) e50 (by decide) (by decide) (by decide) (by decide) (by rw [hml]; rfl) (lenOf pd8 rfl) rfl (Nat.le_of_eq rfl) (hb hby at_99) rfl (fun T51 v51 L51 X51 hq51 => ?_)
      obtain ⟨rfl, N51, K51, E51, Fl51, Fr51⟩ := hq51
      show Wk.Go p e below s _ _ _ T51 (mkF m 102 #[.val (.int i0), .val (.int i1), .val (.int i2), .val (.int i3), .val (.int (0 : Int32)), .val (.ref h0.size), .val (.ref h11.size), .val (.ref rr), .unset, .unset, .unset, .unset] [(.ref T103.heap.size)])
      refine Wk.astore (l' := #[.val (.int i0), .val (.int i1), .val (.int i2), .val (.int i3), .val (.int (0 : Int32)), .val (.ref h0.size), .val (.ref h11.size), .val (.ref rr), .val (.ref T103.heap.size), .unset, .unset, .unset]) X51 hx (hb hby at_102) rfl rfl rfl ?_
      refine Wk.aload X51 hx (hb hby at_104) rfl rfl rfl ?_
      refine Wk.callVP (W := 0) X51 hx hZ (argsL := []) (rest := []) hown (hw _ (List.mem_of_getElem? (i := 54) rfl)) (hw _ (List.mem_of_getElem? (i := 55) rfl)) (hw _ (List.mem_of_getElem? (i := 57) rfl)) (hw _ (List.mem_of_getElem? (i := 56) rfl)) (hw _ (List.mem_of_getElem? (i := 40) rfl)) (hw _ (List.mem_of_getElem? (i := 58) rfl)) (notFace_of_selects (args := #[]) (mvT hZ (hw _ (List.mem_of_getElem? (i := 57) rfl)))) (by decide) (misa0 l Z a0 hw (T103.heap.size) (rr) T51.heap Fr51) rfl E51 (by decide) (by decide) (by decide) (by decide) (by rw [hml]; rfl) (lenOf pd10 rfl) rfl (Nat.le_of_eq rfl) (hb hby at_106) rfl (fun T105 X105 e105 => ?_)
      refine Wk.istore (l' := #[.val (.int i0), .val (.int i1), .val (.int i2), .val (.int i3), .val (.int (0 : Int32)), .val (.ref h0.size), .val (.ref h11.size), .val (.ref rr), .val (.ref T103.heap.size), .val (.int (0 : Int32)), .unset, .unset]) X105 hx (hb hby at_109) rfl rfl ?_
      refine Wk.aload X105 hx (hb hby at_111) rfl rfl rfl ?_
      refine Wk.callVP (W := 0) X105 hx hZ (argsL := []) (rest := []) hown (hw _ (List.mem_of_getElem? (i := 59) rfl)) (hw _ (List.mem_of_getElem? (i := 60) rfl)) (hw _ (List.mem_of_getElem? (i := 62) rfl)) (hw _ (List.mem_of_getElem? (i := 61) rfl)) (hw _ (List.mem_of_getElem? (i := 40) rfl)) (hw _ (List.mem_of_getElem? (i := 63) rfl)) (notFace_of_selects (args := #[]) (mvT hZ (hw _ (List.mem_of_getElem? (i := 62) rfl)))) (by decide) (mlgn0 l Z a0 hw (T103.heap.size) (rr) T51.heap Fl51) e105 E51 (by decide) (by decide) (by decide) (by decide) (by rw [hml]; rfl) (lenOf pd11 rfl) rfl (Nat.le_of_eq rfl) (hb hby at_113) rfl (fun T106 X106 e106 => ?_)
      refine Wk.nullN X106 hx 123 (hb hby at_116) rfl ?_
      refine Wk.iconst X106 hx (0 : Int32) (hb hby at_123) rfl rfl ?_
      refine Wk.istore (l' := #[.val (.int i0), .val (.int i1), .val (.int i2), .val (.int i3), .val (.int (0 : Int32)), .val (.ref h0.size), .val (.ref h11.size), .val (.ref rr), .val (.ref T103.heap.size), .val (.int (0 : Int32)), .val (.int (0 : Int32)), .unset]) X106 hx (hb hby at_124) rfl rfl ?_
      refine Wk.aload X106 hx (hb hby at_126) rfl rfl rfl ?_
      refine Wk.callVP (W := 0) X106 hx hZ (argsL := []) (rest := []) hown (hw _ (List.mem_of_getElem? (i := 64) rfl)) (hw _ (List.mem_of_getElem? (i := 65) rfl)) (hw _ (List.mem_of_getElem? (i := 67) rfl)) (hw _ (List.mem_of_getElem? (i := 66) rfl)) (hw _ (List.mem_of_getElem? (i := 40) rfl)) (hw _ (List.mem_of_getElem? (i := 68) rfl)) (notFace_of_selects (args := #[]) (mvT hZ (hw _ (List.mem_of_getElem? (i := 67) rfl)))) (by decide) (mrfs0 l Z a0 hw (T103.heap.size) (rr) T51.heap Fr51) e106 E51 (by decide) (by decide) (by decide) (by decide) (by rw [hml]; rfl) (lenOf pd12 rfl) rfl (Nat.le_of_eq rfl) (hb hby at_128) rfl (fun T107 X107 e107 => ?_)
      refine Wk.nonnullR X107 hx 138 (hb hby at_131) rfl ?_
      refine Wk.iconst X107 hx (0 : Int32) (hb hby at_138) rfl rfl ?_
      refine Wk.istore (l' := #[.val (.int i0), .val (.int i1), .val (.int i2), .val (.int i3), .val (.int (0 : Int32)), .val (.ref h0.size), .val (.ref h11.size), .val (.ref rr), .val (.ref T103.heap.size), .val (.int (0 : Int32)), .val (.int (0 : Int32)), .val (.int (0 : Int32))]) X107 hx (hb hby at_139) rfl rfl ?_
      refine Wk.iload X107 hx (hb hby at_141) rfl rfl ?_
      refine Wk.iload X107 hx (hb hby at_143) rfl rfl ?_
      refine Wk.icmp_ne X107 hx 166 148 (hb hby at_145) rfl rfl (show ((0 : Int32) : Int32).toInt = 0 from (by decide)) (show ((0 : Int32) : Int32).toInt = 0 from (by decide)) (fun h108 => absurd h108 (by omega)) (fun h108 => ?_)
      refine Wk.iload X107 hx (hb hby at_148) rfl rfl ?_
      refine Wk.iload X107 hx (hb hby at_150) rfl rfl ?_
      refine Wk.icmp_ne X107 hx 166 155 (hb hby at_152) rfl rfl (show ((0 : Int32) : Int32).toInt = 0 from (by decide)) (show ((0 : Int32) : Int32).toInt = 0 from (by decide)) (fun h109 => absurd h109 (by omega)) (fun h109 => ?_)
      refine Wk.iload X107 hx (hb hby at_155) rfl rfl ?_
      refine Wk.iload X107 hx (hb hby at_157) rfl rfl ?_
      refine Wk.icmp_ne X107 hx 166 162 (hb hby at_159) rfl rfl (show ((0 : Int32) : Int32).toInt = 0 from (by decide)) (show ((0 : Int32) : Int32).toInt = 0 from (by decide)) (fun h110 => absurd h110 (by omega)) (fun h110 => ?_)
      refine Wk.iconst X107 hx (1 : Int32) (hb hby at_162) rfl rfl ?_
      refine Wk.goto X107 hx 167 (hb hby at_163) rfl ?_
      exact Wk.retZ X107 hx hlk hret (hb hby at_167) (by decide) (by decide) (by decide) ⟨rfl, (Fr.app (Fr.app N11 N21) N51)⟩
    · skip
      refine Wk.iloadN X21 hx (hb hby at_55) rfl rfl ?_
      refine Wk.sipush X21 hx (255 : Int32) (hb hby at_56) rfl rfl ?_
      refine Wk.iand X21 hx (hb hby at_59) rfl ?_
      refine Wk.i2c X21 hx (hb hby at_60) rfl ?_
      rw [i2c_mask]
      refine Wk.callS (W := 0) X21 hx hZ (argsL := [(.int (i2 &&& (255 : Int32)))]) (rest := []) hown (hw _ (List.mem_of_getElem? (i := 69) rfl)) (hw _ (List.mem_of_getElem? (i := 70) rfl)) (hw _ (List.mem_of_getElem? (i := 3) rfl)) (hw _ (List.mem_of_getElem? (i := 71) rfl)) (by decide) (mvof l Z a0 hw (i2 &&& 255) (by omega) cs n0 T21.heap hn4 SC' hcs) rfl (by decide) (by decide) (by decide) (by decide) (by rw [hml]; rfl) (lenOf pd13 rfl) rfl (Nat.le_of_eq rfl) (hb hby at_61) rfl (fun T111 v111 L111 X111 hq111 => ?_)
      obtain ⟨sv, rfl, Nv, Ev⟩ := hq111
      have hn4 : n0 ≤ T111.heap.size := Nat.le_trans hn4 Ev.1
      show Wk.Go p e below s _ _ _ T111 (mkF m 64 #[.val (.int i0), .val (.int i1), .val (.int i2), .val (.int i3), .val (.int (0 : Int32)), .val (.ref h0.size), .val (.ref h11.size), .unset, .unset, .unset, .unset, .unset] [(.ref sv)])
      refine Wk.astore (l' := #[.val (.int i0), .val (.int i1), .val (.int i2), .val (.int i3), .val (.int (0 : Int32)), .val (.ref h0.size), .val (.ref sv), .unset, .unset, .unset, .unset, .unset]) X111 hx (hb hby at_64) rfl rfl rfl ?_
      refine Wk.iloadN X111 hx (hb hby at_66) rfl rfl ?_
      refine Wk.callS (W := 0) X111 hx hZ (argsL := [(.int i1)]) (rest := []) hown (hw _ (List.mem_of_getElem? (i := 30) rfl)) (hw _ (List.mem_of_getElem? (i := 31) rfl)) (hw _ (List.mem_of_getElem? (i := 32) rfl)) (hw _ (List.mem_of_getElem? (i := 33) rfl)) (by decide) (mpick l Z a0 hw i1 r0 r1 r2 r3 r4 T111.heap (S0'.ext Ev) (S1'.ext Ev) (S2'.ext Ev) (S3'.ext Ev) (S4'.ext Ev)) rfl (by decide) (by decide) (by decide) (by decide) (by rw [hml]; rfl) (lenOf pd7 rfl) rfl (Nat.le_of_eq rfl) (hb hby at_67) rfl (fun T112 v112 L112 X112 hq112 => ?_)
      obtain ⟨⟨rr, rfl⟩, rfl, hh112⟩ := hq112
      rw [List.append_nil] at X112
      rw [← hh112] at hn4
      show Wk.Go p e below s _ _ _ T112 (mkF m 70 #[.val (.int i0), .val (.int i1), .val (.int i2), .val (.int i3), .val (.int (0 : Int32)), .val (.ref h0.size), .val (.ref sv), .unset, .unset, .unset, .unset, .unset] [(.ref rr)])
      refine Wk.astore (l' := #[.val (.int i0), .val (.int i1), .val (.int i2), .val (.int i3), .val (.int (0 : Int32)), .val (.ref h0.size), .val (.ref sv), .val (.ref rr), .unset, .unset, .unset, .unset]) X112 hx (hb hby at_70) rfl rfl rfl ?_
      refine Wk.iload X112 hx (hb hby at_72) rfl rfl ?_
      refine Wk.if_eq X112 hx 92 77 (hb hby at_74) rfl rfl (show ((0 : Int32) : Int32).toInt = 0 from (by decide)) (fun h113 => ?_) (fun h113 => absurd h113 (by omega))
      refine Wk.newO X112 hx hZ hown (hw _ (List.mem_of_getElem? (i := 38) rfl)) (hw _ (List.mem_of_getElem? (i := 39) rfl)) (hw _ (List.mem_of_getElem? (i := 40) rfl)) rfl (hb hby at_92) (by decide) (by decide) rfl (fun T50 h50 X50 e50 Ex50 A50 D50 => ?_)
      refine Wk.dup X50 hx (hb hby at_95) rfl rfl ?_
      refine Wk.anull X50 hx (hb hby at_96) rfl ?_
      refine Wk.aload X50 hx (hb hby at_97) rfl rfl rfl ?_
      refine Wk.callI (W := 1) X50 hx hZ (argsL := [(.null), (.ref rr)]) (rest := [(.ref T112.heap.size)]) rfl hown (hw _ (List.mem_of_getElem? (i := 41) rfl)) (hw _ (List.mem_of_getElem? (i := 42) rfl)) (hw _ (List.mem_of_getElem? (i := 40) rfl)) (hw _ (List.mem_of_getElem? (i := 43) rfl)) (by decide) (mloi0 l Z a0 hw (T112.heap.size) (rr) n0 hn4 h50 (D50 (Or.inr (hw _ (List.mem_of_getElem? (i := 51) rfl))) (ty := (.object "java/lang/String")) (by decide)) (D50 (Or.inr (hw _ (List.mem_of_getElem? (i := 53) rfl))) (ty := (.object "com/example/tunnus/tunnus/service/LoginOutcome$Refusal")) (by decide)) A50) e50 (by decide) (by decide) (by decide) (by decide) (by rw [hml]; rfl) (lenOf pd8 rfl) rfl (Nat.le_of_eq rfl) (hb hby at_99) rfl (fun T51 v51 L51 X51 hq51 => ?_)
      obtain ⟨rfl, N51, K51, E51, Fl51, Fr51⟩ := hq51
      show Wk.Go p e below s _ _ _ T51 (mkF m 102 #[.val (.int i0), .val (.int i1), .val (.int i2), .val (.int i3), .val (.int (0 : Int32)), .val (.ref h0.size), .val (.ref sv), .val (.ref rr), .unset, .unset, .unset, .unset] [(.ref T112.heap.size)])
      refine Wk.astore (l' := #[.val (.int i0), .val (.int i1), .val (.int i2), .val (.int i3), .val (.int (0 : Int32)), .val (.ref h0.size), .val (.ref sv), .val (.ref rr), .val (.ref T112.heap.size), .unset, .unset, .unset]) X51 hx (hb hby at_102) rfl rfl rfl ?_
      refine Wk.aload X51 hx (hb hby at_104) rfl rfl rfl ?_
      refine Wk.callVP (W := 0) X51 hx hZ (argsL := []) (rest := []) hown (hw _ (List.mem_of_getElem? (i := 54) rfl)) (hw _ (List.mem_of_getElem? (i := 55) rfl)) (hw _ (List.mem_of_getElem? (i := 57) rfl)) (hw _ (List.mem_of_getElem? (i := 56) rfl)) (hw _ (List.mem_of_getElem? (i := 40) rfl)) (hw _ (List.mem_of_getElem? (i := 58) rfl)) (notFace_of_selects (args := #[]) (mvT hZ (hw _ (List.mem_of_getElem? (i := 57) rfl)))) (by decide) (misa0 l Z a0 hw (T112.heap.size) (rr) T51.heap Fr51) rfl E51 (by decide) (by decide) (by decide) (by decide) (by rw [hml]; rfl) (lenOf pd10 rfl) rfl (Nat.le_of_eq rfl) (hb hby at_106) rfl (fun T114 X114 e114 => ?_)
      refine Wk.istore (l' := #[.val (.int i0), .val (.int i1), .val (.int i2), .val (.int i3), .val (.int (0 : Int32)), .val (.ref h0.size), .val (.ref sv), .val (.ref rr), .val (.ref T112.heap.size), .val (.int (0 : Int32)), .unset, .unset]) X114 hx (hb hby at_109) rfl rfl ?_
      refine Wk.aload X114 hx (hb hby at_111) rfl rfl rfl ?_
      refine Wk.callVP (W := 0) X114 hx hZ (argsL := []) (rest := []) hown (hw _ (List.mem_of_getElem? (i := 59) rfl)) (hw _ (List.mem_of_getElem? (i := 60) rfl)) (hw _ (List.mem_of_getElem? (i := 62) rfl)) (hw _ (List.mem_of_getElem? (i := 61) rfl)) (hw _ (List.mem_of_getElem? (i := 40) rfl)) (hw _ (List.mem_of_getElem? (i := 63) rfl)) (notFace_of_selects (args := #[]) (mvT hZ (hw _ (List.mem_of_getElem? (i := 62) rfl)))) (by decide) (mlgn0 l Z a0 hw (T112.heap.size) (rr) T51.heap Fl51) e114 E51 (by decide) (by decide) (by decide) (by decide) (by rw [hml]; rfl) (lenOf pd11 rfl) rfl (Nat.le_of_eq rfl) (hb hby at_113) rfl (fun T115 X115 e115 => ?_)
      refine Wk.nullN X115 hx 123 (hb hby at_116) rfl ?_
      refine Wk.iconst X115 hx (0 : Int32) (hb hby at_123) rfl rfl ?_
      refine Wk.istore (l' := #[.val (.int i0), .val (.int i1), .val (.int i2), .val (.int i3), .val (.int (0 : Int32)), .val (.ref h0.size), .val (.ref sv), .val (.ref rr), .val (.ref T112.heap.size), .val (.int (0 : Int32)), .val (.int (0 : Int32)), .unset]) X115 hx (hb hby at_124) rfl rfl ?_
      refine Wk.aload X115 hx (hb hby at_126) rfl rfl rfl ?_
      refine Wk.callVP (W := 0) X115 hx hZ (argsL := []) (rest := []) hown (hw _ (List.mem_of_getElem? (i := 64) rfl)) (hw _ (List.mem_of_getElem? (i := 65) rfl)) (hw _ (List.mem_of_getElem? (i := 67) rfl)) (hw _ (List.mem_of_getElem? (i := 66) rfl)) (hw _ (List.mem_of_getElem? (i := 40) rfl)) (hw _ (List.mem_of_getElem? (i := 68) rfl)) (notFace_of_selects (args := #[]) (mvT hZ (hw _ (List.mem_of_getElem? (i := 67) rfl)))) (by decide) (mrfs0 l Z a0 hw (T112.heap.size) (rr) T51.heap Fr51) e115 E51 (by decide) (by decide) (by decide) (by decide) (by rw [hml]; rfl) (lenOf pd12 rfl) rfl (Nat.le_of_eq rfl) (hb hby at_128) rfl (fun T116 X116 e116 => ?_)
      refine Wk.nonnullR X116 hx 138 (hb hby at_131) rfl ?_
      refine Wk.iconst X116 hx (0 : Int32) (hb hby at_138) rfl rfl ?_
      refine Wk.istore (l' := #[.val (.int i0), .val (.int i1), .val (.int i2), .val (.int i3), .val (.int (0 : Int32)), .val (.ref h0.size), .val (.ref sv), .val (.ref rr), .val (.ref T112.heap.size), .val (.int (0 : Int32)), .val (.int (0 : Int32)), .val (.int (0 : Int32))]) X116 hx (hb hby at_139) rfl rfl ?_
      refine Wk.iload X116 hx (hb hby at_141) rfl rfl ?_
      refine Wk.iload X116 hx (hb hby at_143) rfl rfl ?_
      refine Wk.icmp_ne X116 hx 166 148 (hb hby at_145) rfl rfl (show ((0 : Int32) : Int32).toInt = 0 from (by decide)) (show ((0 : Int32) : Int32).toInt = 0 from (by decide)) (fun h117 => absurd h117 (by omega)) (fun h117 => ?_)
      refine Wk.iload X116 hx (hb hby at_148) rfl rfl ?_
      refine Wk.iload X116 hx (hb hby at_150) rfl rfl ?_
      refine Wk.icmp_ne X116 hx 166 155 (hb hby at_152) rfl rfl (show ((0 : Int32) : Int32).toInt = 0 from (by decide)) (show ((0 : Int32) : Int32).toInt = 0 from (by decide)) (fun h118 => absurd h118 (by omega)) (fun h118 => ?_)
      refine Wk.iload X116 hx (hb hby at_155) rfl rfl ?_
      refine Wk.iload X116 hx (hb hby at_157) rfl rfl ?_
      refine Wk.icmp_ne X116 hx 166 162 (hb hby at_159) rfl rfl (show ((0 : Int32) : Int32).toInt = 0 from (by decide)) (show ((0 : Int32) : Int32).toInt = 0 from (by decide)) (fun h119 => absurd h119 (by omega)) (fun h119 => ?_)
      refine Wk.iconst X116 hx (1 : Int32) (hb hby at_162) rfl rfl ?_
      refine Wk.goto X116 hx 167 (hb hby at_163) rfl ?_
      exact Wk.retZ X116 hx hlk hret (hb hby at_167) (by decide) (by decide) (by decide) ⟨rfl, (Fr.app (Fr.app (Fr.app N11 N21) Nv) N51)⟩
  · skip
    refine Wk.iconst X0 hx (1 : Int32) (hb hby at_6) rfl rfl ?_
    refine Wk.goto X0 hx 11 (hb hby at_7) rfl ?_
    refine Wk.istore (l' := #[.val (.int i0), .val (.int i1), .val (.int i2), .val (.int i3), .val (.int (1 : Int32)), .unset, .unset, .unset, .unset, .unset, .unset, .unset]) X0 hx (hb hby at_11) rfl rfl ?_
    refine Wk.iconst X0 hx (2 : Int32) (hb hby at_13) rfl rfl ?_
    refine Wk.newP (z := (2 : Int32)) X0 hx hZ rfl (hw _ (List.mem_of_getElem? (i := 0) rfl)) e0 (by decide) 2 (by decide) (by decide) (by decide) (by decide) (hb hby at_14) rfl (fun T1 h1 kc X1 e1 Ex1 Av1 => ?_)
    have B1 : Arv Z h1 h0.size kc .char 2 [.int 0, .int 0] (.int 0) := Av1
    have hn1 : n0 ≤ h1.size := Nat.le_trans hn0 Ex1.1
    refine Wk.astore (l' := #[.val (.int i0), .val (.int i1), .val (.int i2), .val (.int i3), .val (.int (1 : Int32)), .val (.ref h0.size), .unset, .unset, .unset, .unset, .unset, .unset]) X1 hx (hb hby at_16) rfl rfl rfl ?_
    refine Wk.aload X1 hx (hb hby at_18) rfl rfl rfl ?_
    refine Wk.iconst X1 hx (0 : Int32) (hb hby at_20) rfl rfl ?_
    refine Wk.iloadN X1 hx (hb hby at_21) rfl rfl ?_
    refine Wk.sipush X1 hx (255 : Int32) (hb hby at_22) rfl rfl ?_
    refine Wk.iand X1 hx (hb hby at_25) rfl ?_
    refine Wk.i2c X1 hx (hb hby at_26) rfl ?_
    rw [i2c_mask]
    refine Wk.castore X1 hx hZ e1 B1 (by decide) (by decide) 0 (by decide) (Nat.le_of_ble_eq_true rfl) (hb hby at_27) rfl (fun T10 h10 X10 e10 W10 A10 => ?_)
    rw [show nar .char (i2 &&& (255 : Int32)) = i2 &&& (255 : Int32) from i2c_mask _] at A10
    have B10 : Arv Z h10 h0.size kc .char 2 [.int (i2 &&& (255 : Int32)), .int 0] (.int 0) := A10
    have N10 := Fr.snoc X10 (Fr.nil n0) hn0
    refine Wk.aload X10 hx (hb hby at_28) rfl rfl rfl ?_
    refine Wk.iconst X10 hx (1 : Int32) (hb hby at_30) rfl rfl ?_
    refine Wk.iloadN X10 hx (hb hby at_31) rfl rfl ?_
    refine Wk.sipush X10 hx (255 : Int32) (hb hby at_32) rfl rfl ?_
    refine Wk.iand X10 hx (hb hby at_35) rfl ?_
    refine Wk.i2c X10 hx (hb hby at_36) rfl ?_
    rw [i2c_mask]
    refine Wk.castore X10 hx hZ e10 B10 (by decide) (by decide) 1 (by decide) (Nat.le_of_ble_eq_true rfl) (hb hby at_37) rfl (fun T11 h11 X11 e11 W11 A11 => ?_)
    rw [show nar .char (i3 &&& (255 : Int32)) = i3 &&& (255 : Int32) from i2c_mask _] at A11
    have B11 : Arv Z h11 h0.size kc .char 2 [.int (i2 &&& (255 : Int32)), .int (i3 &&& (255 : Int32))] (.int 0) := A11
    have N11 := Fr.snoc X11 N10 hn0
    have m0 := c_mask i2 (255 : Int32) 8 (by decide) (by decide); have m1 := c_mask i3 (255 : Int32) 8 (by decide) (by decide)
    have hn2 : n0 ≤ h11.size := Nat.le_of_lt (Nat.lt_of_le_of_lt hn0 B11.lt)
    refine Wk.newO X11 hx hZ hown (hw _ (List.mem_of_getElem? (i := 1) rfl)) (hw _ (List.mem_of_getElem? (i := 2) rfl)) (hw _ (List.mem_of_getElem? (i := 3) rfl)) e11 (hb hby at_38) (by decide) (by decide) rfl (fun T20 h20 X20 e20 Ex20 A20 D20 => ?_)
    have hn3 : n0 ≤ h20.size := Nat.le_trans hn2 Ex20.1
    refine Wk.dup X20 hx (hb hby at_41) rfl rfl ?_
    refine Wk.aload X20 hx (hb hby at_42) rfl rfl rfl ?_
    refine Wk.callI (W := 1) X20 hx hZ (argsL := [(.ref h0.size)]) (rest := [(.ref h11.size)]) rfl hown (hw _ (List.mem_of_getElem? (i := 4) rfl)) (hw _ (List.mem_of_getElem? (i := 5) rfl)) (hw _ (List.mem_of_getElem? (i := 3) rfl)) (hw _ (List.mem_of_getElem? (i := 6) rfl)) (by decide) (mi3 l Z a0 hw (h11.size) h0.size kc (i2 &&& 255) (i3 &&& 255) (by omega) (by omega) cs n0 hn2 h20 hn3 A20 (Wk.FldE.of (D20 (Or.inr (hw _ (List.mem_of_getElem? (i := 29) rfl))) (ty := .array .byte) (by decide))) (Wk.FldE.of (D20 (Or.inr (hw _ (List.mem_of_getElem? (i := 27) rfl))) (ty := .byte) (by decide))) (B11.ext Ex20) ((((SC.ext Ex1).wr W10).wr W11).ext Ex20) hcs) e20 (by decide) (by decide) (by decide) (by decide) (by rw [hml]; rfl) (lenOf pd1 rfl) rfl (Nat.le_of_eq rfl) (hb hby at_44) rfl (fun T21 v21 L21 X21 hq21 => ?_)
    obtain ⟨rfl, N21, K21⟩ := hq21
    have hn4 : n0 ≤ T21.heap.size := Nat.le_trans hn3 K21.1
    have SC' := (sta_keep ((((SC.ext Ex1).wr W10).wr W11).ext Ex20) K21 (exa_plain A20))
    have S0' := (sta_keep ((((S0.ext Ex1).wr W10).wr W11).ext Ex20) K21 (exa_plain A20))
    have S1' := (sta_keep ((((S1.ext Ex1).wr W10).wr W11).ext Ex20) K21 (exa_plain A20))
    have S2' := (sta_keep ((((S2.ext Ex1).wr W10).wr W11).ext Ex20) K21 (exa_plain A20))
    have S3' := (sta_keep ((((S3.ext Ex1).wr W10).wr W11).ext Ex20) K21 (exa_plain A20))
    have S4' := (sta_keep ((((S4.ext Ex1).wr W10).wr W11).ext Ex20) K21 (exa_plain A20))
    show Wk.Go p e below s _ _ _ T21 (mkF m 47 #[.val (.int i0), .val (.int i1), .val (.int i2), .val (.int i3), .val (.int (1 : Int32)), .val (.ref h0.size), .unset, .unset, .unset, .unset, .unset, .unset] [(.ref h11.size)])
    refine Wk.astore (l' := #[.val (.int i0), .val (.int i1), .val (.int i2), .val (.int i3), .val (.int (1 : Int32)), .val (.ref h0.size), .val (.ref h11.size), .unset, .unset, .unset, .unset, .unset]) X21 hx (hb hby at_47) rfl rfl rfl ?_
    refine Wk.iloadN X21 hx (hb hby at_49) rfl rfl ?_
    refine Wk.iconst X21 hx (2 : Int32) (hb hby at_50) rfl rfl ?_
    refine Wk.iand X21 hx (hb hby at_51) rfl ?_
    refine Wk.if_eq X21 hx 66 55 (hb hby at_52) rfl rfl (show (i0 &&& (2 : Int32) : Int32).toInt = (i0 &&& (2 : Int32)).toInt from rfl) (fun h120 => ?_) (fun h120 => ?_)
    · skip
      refine Wk.iloadN X21 hx (hb hby at_66) rfl rfl ?_
      refine Wk.callS (W := 0) X21 hx hZ (argsL := [(.int i1)]) (rest := []) hown (hw _ (List.mem_of_getElem? (i := 30) rfl)) (hw _ (List.mem_of_getElem? (i := 31) rfl)) (hw _ (List.mem_of_getElem? (i := 32) rfl)) (hw _ (List.mem_of_getElem? (i := 33) rfl)) (by decide) (mpick l Z a0 hw i1 r0 r1 r2 r3 r4 T21.heap S0' S1' S2' S3' S4') rfl (by decide) (by decide) (by decide) (by decide) (by rw [hml]; rfl) (lenOf pd7 rfl) rfl (Nat.le_of_eq rfl) (hb hby at_67) rfl (fun T121 v121 L121 X121 hq121 => ?_)
      obtain ⟨⟨rr, rfl⟩, rfl, hh121⟩ := hq121
      rw [List.append_nil] at X121
      rw [← hh121] at hn4
      show Wk.Go p e below s _ _ _ T121 (mkF m 70 #[.val (.int i0), .val (.int i1), .val (.int i2), .val (.int i3), .val (.int (1 : Int32)), .val (.ref h0.size), .val (.ref h11.size), .unset, .unset, .unset, .unset, .unset] [(.ref rr)])
      refine Wk.astore (l' := #[.val (.int i0), .val (.int i1), .val (.int i2), .val (.int i3), .val (.int (1 : Int32)), .val (.ref h0.size), .val (.ref h11.size), .val (.ref rr), .unset, .unset, .unset, .unset]) X121 hx (hb hby at_70) rfl rfl rfl ?_
      refine Wk.iload X121 hx (hb hby at_72) rfl rfl ?_
      refine Wk.if_eq X121 hx 92 77 (hb hby at_74) rfl rfl (show ((1 : Int32) : Int32).toInt = 1 from (by decide)) (fun h122 => absurd h122 (by omega)) (fun h122 => ?_)
      refine Wk.newO X121 hx hZ hown (hw _ (List.mem_of_getElem? (i := 38) rfl)) (hw _ (List.mem_of_getElem? (i := 39) rfl)) (hw _ (List.mem_of_getElem? (i := 40) rfl)) rfl (hb hby at_77) (by decide) (by decide) rfl (fun T50 h50 X50 e50 Ex50 A50 D50 => ?_)
      refine Wk.dup X50 hx (hb hby at_80) rfl rfl ?_
      refine Wk.aload X50 hx (hb hby at_81) rfl rfl rfl ?_
      refine Wk.anull X50 hx (hb hby at_83) rfl ?_
      refine Wk.callI (W := 1) X50 hx hZ (argsL := [(.ref h11.size), (.null)]) (rest := [(.ref T121.heap.size)]) rfl hown (hw _ (List.mem_of_getElem? (i := 41) rfl)) (hw _ (List.mem_of_getElem? (i := 42) rfl)) (hw _ (List.mem_of_getElem? (i := 40) rfl)) (hw _ (List.mem_of_getElem? (i := 43) rfl)) (by decide) (mloi1 l Z a0 hw (T121.heap.size) (h11.size) n0 hn4 h50 (D50 (Or.inr (hw _ (List.mem_of_getElem? (i := 51) rfl))) (ty := (.object "java/lang/String")) (by decide)) (D50 (Or.inr (hw _ (List.mem_of_getElem? (i := 53) rfl))) (ty := (.object "com/example/tunnus/tunnus/service/LoginOutcome$Refusal")) (by decide)) A50) e50 (by decide) (by decide) (by decide) (by decide) (by rw [hml]; rfl) (lenOf pd8 rfl) rfl (Nat.le_of_eq rfl) (hb hby at_84) rfl (fun T51 v51 L51 X51 hq51 => ?_)
      obtain ⟨rfl, N51, K51, E51, Fl51, Fr51⟩ := hq51
      show Wk.Go p e below s _ _ _ T51 (mkF m 87 #[.val (.int i0), .val (.int i1), .val (.int i2), .val (.int i3), .val (.int (1 : Int32)), .val (.ref h0.size), .val (.ref h11.size), .val (.ref rr), .unset, .unset, .unset, .unset] [(.ref T121.heap.size)])
      refine Wk.astore (l' := #[.val (.int i0), .val (.int i1), .val (.int i2), .val (.int i3), .val (.int (1 : Int32)), .val (.ref h0.size), .val (.ref h11.size), .val (.ref rr), .val (.ref T121.heap.size), .unset, .unset, .unset]) X51 hx (hb hby at_87) rfl rfl rfl ?_
      refine Wk.goto X51 hx 104 (hb hby at_89) rfl ?_
      refine Wk.aload X51 hx (hb hby at_104) rfl rfl rfl ?_
      refine Wk.callVP (W := 0) X51 hx hZ (argsL := []) (rest := []) hown (hw _ (List.mem_of_getElem? (i := 54) rfl)) (hw _ (List.mem_of_getElem? (i := 55) rfl)) (hw _ (List.mem_of_getElem? (i := 57) rfl)) (hw _ (List.mem_of_getElem? (i := 56) rfl)) (hw _ (List.mem_of_getElem? (i := 40) rfl)) (hw _ (List.mem_of_getElem? (i := 58) rfl)) (notFace_of_selects (args := #[]) (mvT hZ (hw _ (List.mem_of_getElem? (i := 57) rfl)))) (by decide) (misa1 l Z a0 hw (T121.heap.size) (h11.size) T51.heap Fr51) rfl E51 (by decide) (by decide) (by decide) (by decide) (by rw [hml]; rfl) (lenOf pd10 rfl) rfl (Nat.le_of_eq rfl) (hb hby at_106) rfl (fun T123 X123 e123 => ?_)
      refine Wk.istore (l' := #[.val (.int i0), .val (.int i1), .val (.int i2), .val (.int i3), .val (.int (1 : Int32)), .val (.ref h0.size), .val (.ref h11.size), .val (.ref rr), .val (.ref T121.heap.size), .val (.int (1 : Int32)), .unset, .unset]) X123 hx (hb hby at_109) rfl rfl ?_
      refine Wk.aload X123 hx (hb hby at_111) rfl rfl rfl ?_
      refine Wk.callVP (W := 0) X123 hx hZ (argsL := []) (rest := []) hown (hw _ (List.mem_of_getElem? (i := 59) rfl)) (hw _ (List.mem_of_getElem? (i := 60) rfl)) (hw _ (List.mem_of_getElem? (i := 62) rfl)) (hw _ (List.mem_of_getElem? (i := 61) rfl)) (hw _ (List.mem_of_getElem? (i := 40) rfl)) (hw _ (List.mem_of_getElem? (i := 63) rfl)) (notFace_of_selects (args := #[]) (mvT hZ (hw _ (List.mem_of_getElem? (i := 62) rfl)))) (by decide) (mlgn1 l Z a0 hw (T121.heap.size) (h11.size) T51.heap Fl51) e123 E51 (by decide) (by decide) (by decide) (by decide) (by rw [hml]; rfl) (lenOf pd11 rfl) rfl (Nat.le_of_eq rfl) (hb hby at_113) rfl (fun T124 X124 e124 => ?_)
      refine Wk.nullR X124 hx (hb hby at_116) rfl ?_
      refine Wk.iconst X124 hx (1 : Int32) (hb hby at_119) rfl rfl ?_
      refine Wk.goto X124 hx 124 (hb hby at_120) rfl ?_
      refine Wk.istore (l' := #[.val (.int i0), .val (.int i1), .val (.int i2), .val (.int i3), .val (.int (1 : Int32)), .val (.ref h0.size), .val (.ref h11.size), .val (.ref rr), .val (.ref T121.heap.size), .val (.int (1 : Int32)), .val (.int (1 : Int32)), .unset]) X124 hx (hb hby at_124) rfl rfl ?_
      refine Wk.aload X124 hx (hb hby at_126) rfl rfl rfl ?_
      refine Wk.callVP (W := 0) X124 hx hZ (argsL := []) (rest := []) hown (hw _ (List.mem_of_getElem? (i := 64) rfl)) (hw _ (List.mem_of_getElem? (i := 65) rfl)) (hw _ (List.mem_of_getElem? (i := 67) rfl)) (hw _ (List.mem_of_getElem? (i := 66) rfl)) (hw _ (List.mem_of_getElem? (i := 40) rfl)) (hw _ (List.mem_of_getElem? (i := 68) rfl)) (notFace_of_selects (args := #[]) (mvT hZ (hw _ (List.mem_of_getElem? (i := 67) rfl)))) (by decide) (mrfs1 l Z a0 hw (T121.heap.size) (h11.size) T51.heap Fr51) e124 E51 (by decide) (by decide) (by decide) (by decide) (by rw [hml]; rfl) (lenOf pd12 rfl) rfl (Nat.le_of_eq rfl) (hb hby at_128) rfl (fun T125 X125 e125 => ?_)
      refine Wk.nonnullN X125 hx (hb hby at_131) rfl ?_
      refine Wk.iconst X125 hx (1 : Int32) (hb hby at_134) rfl rfl ?_
      refine Wk.goto X125 hx 139 (hb hby at_135) rfl ?_
      refine Wk.istore (l' := #[.val (.int i0), .val (.int i1), .val (.int i2), .val (.int i3), .val (.int (1 : Int32)), .val (.ref h0.size), .val (.ref h11.size), .val (.ref rr), .val (.ref T121.heap.size), .val (.int (1 : Int32)), .val (.int (1 : Int32)), .val (.int (1 : Int32))]) X125 hx (hb hby at_139) rfl rfl ?_
      refine Wk.iload X125 hx (hb hby at_141) rfl rfl ?_
      refine Wk.iload X125 hx (hb hby at_143) rfl rfl ?_
      refine Wk.icmp_ne X125 hx 166 148 (hb hby at_145) rfl rfl (show ((1 : Int32) : Int32).toInt = 1 from (by decide)) (show ((1 : Int32) : Int32).toInt = 1 from (by decide)) (fun h126 => absurd h126 (by omega)) (fun h126 => ?_)
      refine Wk.iload X125 hx (hb hby at_148) rfl rfl ?_
      refine Wk.iload X125 hx (hb hby at_150) rfl rfl ?_
      refine Wk.icmp_ne X125 hx 166 155 (hb hby at_152) rfl rfl (show ((1 : Int32) : Int32).toInt = 1 from (by decide)) (show ((1 : Int32) : Int32).toInt = 1 from (by decide)) (fun h127 => absurd h127 (by omega)) (fun h127 => ?_)
      refine Wk.iload X125 hx (hb hby at_155) rfl rfl ?_
      refine Wk.iload X125 hx (hb hby at_157) rfl rfl ?_
      refine Wk.icmp_ne X125 hx 166 162 (hb hby at_159) rfl rfl (show ((1 : Int32) : Int32).toInt = 1 from (by decide)) (show ((1 : Int32) : Int32).toInt = 1 from (by decide)) (fun h128 => absurd h128 (by omega)) (fun h128 => ?_)
      refine Wk.iconst X125 hx (1 : Int32) (hb hby at_162) rfl rfl ?_
      refine Wk.goto X125 hx 167 (hb hby at_163) rfl ?_
      exact Wk.retZ X125 hx hlk hret (hb hby at_167) (by decide) (by decide) (by decide) ⟨rfl, (Fr.app (Fr.app N11 N21) N51)⟩
    · skip
      refine Wk.iloadN X21 hx (hb hby at_55) rfl rfl ?_
      refine Wk.sipush X21 hx (255 : Int32) (hb hby at_56) rfl rfl ?_
      refine Wk.iand X21 hx (hb hby at_59) rfl ?_
      refine Wk.i2c X21 hx (hb hby at_60) rfl ?_
      rw [i2c_mask]
      refine Wk.callS (W := 0) X21 hx hZ (argsL := [(.int (i2 &&& (255 : Int32)))]) (rest := []) hown (hw _ (List.mem_of_getElem? (i := 69) rfl)) (hw _ (List.mem_of_getElem? (i := 70) rfl)) (hw _ (List.mem_of_getElem? (i := 3) rfl)) (hw _ (List.mem_of_getElem? (i := 71) rfl)) (by decide) (mvof l Z a0 hw (i2 &&& 255) (by omega) cs n0 T21.heap hn4 SC' hcs) rfl (by decide) (by decide) (by decide) (by decide) (by rw [hml]; rfl) (lenOf pd13 rfl) rfl (Nat.le_of_eq rfl) (hb hby at_61) rfl (fun T129 v129 L129 X129 hq129 => ?_)
      obtain ⟨sv, rfl, Nv, Ev⟩ := hq129
      have hn4 : n0 ≤ T129.heap.size := Nat.le_trans hn4 Ev.1
      show Wk.Go p e below s _ _ _ T129 (mkF m 64 #[.val (.int i0), .val (.int i1), .val (.int i2), .val (.int i3), .val (.int (1 : Int32)), .val (.ref h0.size), .val (.ref h11.size), .unset, .unset, .unset, .unset, .unset] [(.ref sv)])
      refine Wk.astore (l' := #[.val (.int i0), .val (.int i1), .val (.int i2), .val (.int i3), .val (.int (1 : Int32)), .val (.ref h0.size), .val (.ref sv), .unset, .unset, .unset, .unset, .unset]) X129 hx (hb hby at_64) rfl rfl rfl ?_
      refine Wk.iloadN X129 hx (hb hby at_66) rfl rfl ?_
      refine Wk.callS (W := 0) X129 hx hZ (argsL := [(.int i1)]) (rest := []) hown (hw _ (List.mem_of_getElem? (i := 30) rfl)) (hw _ (List.mem_of_getElem? (i := 31) rfl)) (hw _ (List.mem_of_getElem? (i := 32) rfl)) (hw _ (List.mem_of_getElem? (i := 33) rfl)) (by decide) (mpick l Z a0 hw i1 r0 r1 r2 r3 r4 T129.heap (S0'.ext Ev) (S1'.ext Ev) (S2'.ext Ev) (S3'.ext Ev) (S4'.ext Ev)) rfl (by decide) (by decide) (by decide) (by decide) (by rw [hml]; rfl) (lenOf pd7 rfl) rfl (Nat.le_of_eq rfl) (hb hby at_67) rfl (fun T130 v130 L130 X130 hq130 => ?_)
      obtain ⟨⟨rr, rfl⟩, rfl, hh130⟩ := hq130
      rw [List.append_nil] at X130
      rw [← hh130] at hn4
      show Wk.Go p e below s _ _ _ T130 (mkF m 70 #[.val (.int i0), .val (.int i1), .val (.int i2), .val (.int i3), .val (.int (1 : Int32)), .val (.ref h0.size), .val (.ref sv), .unset, .unset, .unset, .unset, .unset] [(.ref rr)])
      refine Wk.astore (l' := #[.val (.int i0), .val (.int i1), .val (.int i2), .val (.int i3), .val (.int (1 : Int32)), .val (.ref h0.size), .val (.ref sv), .val (.ref rr), .unset, .unset, .unset, .unset]) X130 hx (hb hby at_70) rfl rfl rfl ?_
      refine Wk.iload X130 hx (hb hby at_72) rfl rfl ?_
      refine Wk.if_eq X130 hx 92 77 (hb hby at_74) rfl rfl (show ((1 : Int32) : Int32).toInt = 1 from (by decide)) (fun h131 => absurd h131 (by omega)) (fun h131 => ?_)
      refine Wk.newO X130 hx hZ hown (hw _ (List.mem_of_getElem? (i := 38) rfl)) (hw _ (List.mem_of_getElem? (i := 39) rfl)) (hw _ (List.mem_of_getElem? (i := 40) rfl)) rfl (hb hby at_77) (by decide) (by decide) rfl (fun T50 h50 X50 e50 Ex50 A50 D50 => ?_)
      refine Wk.dup X50 hx (hb hby at_80) rfl rfl ?_
      refine Wk.aload X50 hx (hb hby at_81) rfl rfl rfl ?_
      refine Wk.anull X50 hx (hb hby at_83) rfl ?_
      refine Wk.callI (W := 1) X50 hx hZ (argsL := [(.ref sv), (.null)]) (rest := [(.ref T130.heap.size)]) rfl hown (hw _ (List.mem_of_getElem? (i := 41) rfl)) (hw _ (List.mem_of_getElem? (i := 42) rfl)) (hw _ (List.mem_of_getElem? (i := 40) rfl)) (hw _ (List.mem_of_getElem? (i := 43) rfl)) (by decide) (mloi1 l Z a0 hw (T130.heap.size) (sv) n0 hn4 h50 (D50 (Or.inr (hw _ (List.mem_of_getElem? (i := 51) rfl))) (ty := (.object "java/lang/String")) (by decide)) (D50 (Or.inr (hw _ (List.mem_of_getElem? (i := 53) rfl))) (ty := (.object "com/example/tunnus/tunnus/service/LoginOutcome$Refusal")) (by decide)) A50) e50 (by decide) (by decide) (by decide) (by decide) (by rw [hml]; rfl) (lenOf pd8 rfl) rfl (Nat.le_of_eq rfl) (hb hby at_84) rfl (fun T51 v51 L51 X51 hq51 => ?_)
      obtain ⟨rfl, N51, K51, E51, Fl51, Fr51⟩ := hq51
      show Wk.Go p e below s _ _ _ T51 (mkF m 87 #[.val (.int i0), .val (.int i1), .val (.int i2), .val (.int i3), .val (.int (1 : Int32)), .val (.ref h0.size), .val (.ref sv), .val (.ref rr), .unset, .unset, .unset, .unset] [(.ref T130.heap.size)])
      refine Wk.astore (l' := #[.val (.int i0), .val (.int i1), .val (.int i2), .val (.int i3), .val (.int (1 : Int32)), .val (.ref h0.size), .val (.ref sv), .val (.ref rr), .val (.ref T130.heap.size), .unset, .unset, .unset]) X51 hx (hb hby at_87) rfl rfl rfl ?_
      refine Wk.goto X51 hx 104 (hb hby at_89) rfl ?_
      refine Wk.aload X51 hx (hb hby at_104) rfl rfl rfl ?_
      refine Wk.callVP (W := 0) X51 hx hZ (argsL := []) (rest := []) hown (hw _ (List.mem_of_getElem? (i := 54) rfl)) (hw _ (List.mem_of_getElem? (i := 55) rfl)) (hw _ (List.mem_of_getElem? (i := 57) rfl)) (hw _ (List.mem_of_getElem? (i := 56) rfl)) (hw _ (List.mem_of_getElem? (i := 40) rfl)) (hw _ (List.mem_of_getElem? (i := 58) rfl)) (notFace_of_selects (args := #[]) (mvT hZ (hw _ (List.mem_of_getElem? (i := 57) rfl)))) (by decide) (misa1 l Z a0 hw (T130.heap.size) (sv) T51.heap Fr51) rfl E51 (by decide) (by decide) (by decide) (by decide) (by rw [hml]; rfl) (lenOf pd10 rfl) rfl (Nat.le_of_eq rfl) (hb hby at_106) rfl (fun T132 X132 e132 => ?_)
      refine Wk.istore (l' := #[.val (.int i0), .val (.int i1), .val (.int i2), .val (.int i3), .val (.int (1 : Int32)), .val (.ref h0.size), .val (.ref sv), .val (.ref rr), .val (.ref T130.heap.size), .val (.int (1 : Int32)), .unset, .unset]) X132 hx (hb hby at_109) rfl rfl ?_
      refine Wk.aload X132 hx (hb hby at_111) rfl rfl rfl ?_
      refine Wk.callVP (W := 0) X132 hx hZ (argsL := []) (rest := []) hown (hw _ (List.mem_of_getElem? (i := 59) rfl)) (hw _ (List.mem_of_getElem? (i := 60) rfl)) (hw _ (List.mem_of_getElem? (i := 62) rfl)) (hw _ (List.mem_of_getElem? (i := 61) rfl)) (hw _ (List.mem_of_getElem? (i := 40) rfl)) (hw _ (List.mem_of_getElem? (i := 63) rfl)) (notFace_of_selects (args := #[]) (mvT hZ (hw _ (List.mem_of_getElem? (i := 62) rfl)))) (by decide) (mlgn1 l Z a0 hw (T130.heap.size) (sv) T51.heap Fl51) e132 E51 (by decide) (by decide) (by decide) (by decide) (by rw [hml]; rfl) (lenOf pd11 rfl) rfl (Nat.le_of_eq rfl) (hb hby at_113) rfl (fun T133 X133 e133 => ?_)
      refine Wk.nullR X133 hx (hb hby at_116) rfl ?_
      refine Wk.iconst X133 hx (1 : Int32) (hb hby at_119) rfl rfl ?_
      refine Wk.goto X133 hx 124 (hb hby at_120) rfl ?_
      refine Wk.istore (l' := #[.val (.int i0), .val (.int i1), .val (.int i2), .val (.int i3), .val (.int (1 : Int32)), .val (.ref h0.size), .val (.ref sv), .val (.ref rr), .val (.ref T130.heap.size), .val (.int (1 : Int32)), .val (.int (1 : Int32)), .unset]) X133 hx (hb hby at_124) rfl rfl ?_
      refine Wk.aload X133 hx (hb hby at_126) rfl rfl rfl ?_
      refine Wk.callVP (W := 0) X133 hx hZ (argsL := []) (rest := []) hown (hw _ (List.mem_of_getElem? (i := 64) rfl)) (hw _ (List.mem_of_getElem? (i := 65) rfl)) (hw _ (List.mem_of_getElem? (i := 67) rfl)) (hw _ (List.mem_of_getElem? (i := 66) rfl)) (hw _ (List.mem_of_getElem? (i := 40) rfl)) (hw _ (List.mem_of_getElem? (i := 68) rfl)) (notFace_of_selects (args := #[]) (mvT hZ (hw _ (List.mem_of_getElem? (i := 67) rfl)))) (by decide) (mrfs1 l Z a0 hw (T130.heap.size) (sv) T51.heap Fr51) e133 E51 (by decide) (by decide) (by decide) (by decide) (by rw [hml]; rfl) (lenOf pd12 rfl) rfl (Nat.le_of_eq rfl) (hb hby at_128) rfl (fun T134 X134 e134 => ?_)
      refine Wk.nonnullN X134 hx (hb hby at_131) rfl ?_
      refine Wk.iconst X134 hx (1 : Int32) (hb hby at_134) rfl rfl ?_
      refine Wk.goto X134 hx 139 (hb hby at_135) rfl ?_
      refine Wk.istore (l' := #[.val (.int i0), .val (.int i1), .val (.int i2), .val (.int i3), .val (.int (1 : Int32)), .val (.ref h0.size), .val (.ref sv), .val (.ref rr), .val (.ref T130.heap.size), .val (.int (1 : Int32)), .val (.int (1 : Int32)), .val (.int (1 : Int32))]) X134 hx (hb hby at_139) rfl rfl ?_
      refine Wk.iload X134 hx (hb hby at_141) rfl rfl ?_
      refine Wk.iload X134 hx (hb hby at_143) rfl rfl ?_
      refine Wk.icmp_ne X134 hx 166 148 (hb hby at_145) rfl rfl (show ((1 : Int32) : Int32).toInt = 1 from (by decide)) (show ((1 : Int32) : Int32).toInt = 1 from (by decide)) (fun h135 => absurd h135 (by omega)) (fun h135 => ?_)
      refine Wk.iload X134 hx (hb hby at_148) rfl rfl ?_
      refine Wk.iload X134 hx (hb hby at_150) rfl rfl ?_
      refine Wk.icmp_ne X134 hx 166 155 (hb hby at_152) rfl rfl (show ((1 : Int32) : Int32).toInt = 1 from (by decide)) (show ((1 : Int32) : Int32).toInt = 1 from (by decide)) (fun h136 => absurd h136 (by omega)) (fun h136 => ?_)
      refine Wk.iload X134 hx (hb hby at_155) rfl rfl ?_
      refine Wk.iload X134 hx (hb hby at_157) rfl rfl ?_
      refine Wk.icmp_ne X134 hx 166 162 (hb hby at_159) rfl rfl (show ((1 : Int32) : Int32).toInt = 1 from (by decide)) (show ((1 : Int32) : Int32).toInt = 1 from (by decide)) (fun h137 => absurd h137 (by omega)) (fun h137 => ?_)
      refine Wk.iconst X134 hx (1 : Int32) (hb hby at_162) rfl rfl ?_
      refine Wk.goto X134 hx 167 (hb hby at_163) rfl ?_
      exact Wk.retZ X134 hx hlk hret (hb hby at_167) (by decide) (by decide) (by decide) ⟨rfl, (Fr.app (Fr.app (Fr.app N11 N21) Nv) N51)⟩
theorem eq_II {args : Array Value} {first s : State} {o : Option Outcome} {idx : List Nat} {a b' : Term} {x y : Int32} (ha : a.eval args first o idx s = some (.int x)) (hb : b'.eval args first o idx s = some (.int y)) : (Jvm.Cond.eq a b').value args first o s idx = some (decide (x = y)) := by simp [Cond.value, ha, hb]
set_option maxRecDepth 65536 in
set_option maxHeartbeats 40000000 in
theorem comes_1 {Post : Tables → Env → Array Value → State → Outcome → State → Prop} (hpost : ∀ tb e args s v u, (limb_1_1.after args s (.returned v) u = true ∧ limb_1_2.after args s (.returned v) u = true ∧ True) → FrameEnd s (.returned v) u (Jvm.fieldLocs frame_1_writes args s ++ Jvm.arrayLocs frame_1_arrays args s ++ Jvm.staticLocs frame_1_statics s) 24 128 → Post tb e args s (.returned v) u) :
    ArmFor flags0 classFile x code maxLocals ret World_1 tables_1 room_1 Calls_1 rest_1 Pre_1 Post := by
  intro l hfl _ _ p e ha hc hk s m args below hf hA hF happ hP
  obtain ⟨hcalls, hrest, hpre⟩ := hP
  obtain ⟨-, -, -, hnamed, -, -, -, hat⟩ := (Spec.applies_iff hf).mp happ
  obtain ⟨hg, hn⟩ := and_e (Cond.before_iff.mp (show (Jvm.Cond.and given_1 narrow_1).before args s = true from hpre))
  obtain ⟨hg0, hg⟩ := and_e hg
  obtain ⟨w0, w1, w2, w3, rfl⟩ : ∃ w0 w1 w2 w3 : Value, args = #[w0, w1, w2, w3] := by
    have hs : args.size = 4 := by simpa [Cond.value, given_1] using hg0
    obtain ⟨L⟩ := args
    match L, hs with
    | [w0, w1, w2, w3], _ => exact ⟨w0, w1, w2, w3, rfl⟩
  have hw := fun d (hd : d ∈ tables_1) => atoms_spec (ws := Jvm.Cond.code x code maxLocals ret :: tables_1) hat d (List.mem_cons_of_mem _ hd)
  have hfit : Fit s := fun {y c} hc i hi => by
    obtain ⟨ha, rfl⟩ := Array.getElem?_eq_some_iff.mp hc
    have q := List.all_eq_true.mp ((Array.all_eq_true_iff_forall_mem.mp hF) _ (Array.getElem_mem ha)) i (List.mem_range.mpr hi)
    simpa [Array.getElem?_eq_getElem hi] using q
  obtain ⟨hg1, hg⟩ := and_e hg
  obtain ⟨i0, ei0⟩ := is_v hg1
  obtain rfl : w0 = (.int i0) := Option.some.inj ei0
  obtain ⟨hg2, hg⟩ := and_e hg
  obtain ⟨i1, ei1⟩ := is_v hg2
  obtain rfl : w1 = (.int i1) := Option.some.inj ei1
  obtain ⟨hg3, hg⟩ := and_e hg
  obtain ⟨i2, ei2⟩ := is_v hg3
  obtain rfl : w2 = (.int i2) := Option.some.inj ei2
  have hg4 := hg
  obtain ⟨i3, ei3⟩ := is_v hg4
  obtain rfl : w3 = (.int i3) := Option.some.inj ei3
  obtain ⟨q0, hn⟩ := and_e hn
  obtain ⟨q1, hn⟩ := and_e hn
  obtain ⟨q2, hn⟩ := and_e hn
  obtain ⟨q3, hn⟩ := and_e hn
  have q4 := hn
  obtain ⟨r0, v0⟩ := exa_v q2
  obtain ⟨r1, v1⟩ := exa_v q3
  obtain ⟨r2, v2⟩ := exa_v q4
  obtain ⟨r3, v3⟩ := exa_v q0
  obtain ⟨r4, v4⟩ := exa_v q1
  have hs := (atoms_of jdkStatics_1 (show (jdkStatics_1.foldr Jvm.Cond.and restOwn_1).before _ s = true from hrest)).1
  obtain ⟨cs, vcs⟩ := is_v (Cond.before_iff.mp (hs _ (List.mem_of_getElem? (i := 1) rfl)))
  have hcs : ¬ cs.toInt = 0 := fun z => gotF (eq_II vcs (Term.int_eval 0)) (not_v (Cond.before_iff.mp (hs _ (List.mem_of_getElem? (i := 2) rfl)))) (Int32.toInt_inj.mp (z.trans (by decide)))
  have H := rmL l s _ hw i0 i1 i2 i3 r0 r1 r2 r3 r4 cs s.heap.size s.heap (Nat.le_refl _) (Sta.start v0 (Or.inr ⟨(hw _ (List.mem_of_getElem? (i := 36) rfl)), (hw _ (List.mem_of_getElem? (i := 86) rfl))⟩)) (Sta.start v1 (Or.inr ⟨(hw _ (List.mem_of_getElem? (i := 36) rfl)), (hw _ (List.mem_of_getElem? (i := 88) rfl))⟩)) (Sta.start v2 (Or.inr ⟨(hw _ (List.mem_of_getElem? (i := 36) rfl)), (hw _ (List.mem_of_getElem? (i := 90) rfl))⟩)) (Sta.start v3 (Or.inr ⟨(hw _ (List.mem_of_getElem? (i := 36) rfl)), (hw _ (List.mem_of_getElem? (i := 37) rfl))⟩)) (Sta.start v4 (Or.inr ⟨(hw _ (List.mem_of_getElem? (i := 36) rfl)), (hw _ (List.mem_of_getElem? (i := 84) rfl))⟩)) (Sta.start vcs (Or.inl (hs _ (List.mem_of_getElem? (i := 0) rfl)))) hcs
  obtain ⟨n, o, h1, h2, h3, _, L, rfl, ⟨rfl, N⟩, hq⟩ := H p e ha hc hk s m _ below hf ((Spec.applies_iff_loose hf).mp happ).1 ⟨rfl, State.Warmed39.refl s, rfl⟩ trivial
  refine ⟨n, _, h1, h2, h3, hpost _ _ _ _ _ _ ⟨Cond.after_iff.mpr rfl, Cond.after_iff.mpr (eq_i res_at (Term.int_eval (1)) rfl), trivial⟩ ⟨hq.1, hq.2.1, (hq.2.2.sift fun y hy => Or.inr (N y hy)).mono (by decide) (by decide)⟩⟩
theorem main_1_1 : Claimed_1_1 := comes_1 fun _ _ _ _ _ _ h hF => ⟨h.1, hF⟩
theorem main_1_2 : Claimed_1_2 := comes_1 fun _ _ _ _ _ _ h hF => ⟨h.2.1, hF⟩
end Jvm.Pilot.@@N@@
namespace Jvm.Pilot.@@N@@
open Jvm Jvm.ClassFile Sem Op Lib Jvm.Free Jvm.Stand Jvm.Pilot.@@N@@.Jvm.D
/-! MADE BY PROGRAM (witnessworld.py) out of the Statement's table words and the real class files: 23 classes; the members and pool entries that the words name. The judged class is class 1, her method 2. -/
namespace start1
open Jvm.ClassFile
def u (s : String) : CpInfo := .utf8 (stringToUtf16 s)
/-- a pool by its gaps: so many unusable entries, then the entry; so many at the end -/
def gap : Nat → List CpInfo → List CpInfo
  | 0, r => r
  | n + 1, r => .unusable :: gap n r
def poolList (es : List (Nat × CpInfo)) (last : Nat) : List CpInfo := es.foldr (fun e r => gap e.1 (e.2 :: r)) (gap last [])
def pool (es : List (Nat × CpInfo)) (last : Nat) : Array CpInfo := ⟨poolList es last⟩
def fileOf (pool : Array CpInfo) (this : Nat) (attrs : Array Attribute := #[]) (ms : Array MethodInfo := #[]) (fl : Nat := 33) (sup : Nat := 0) (ifs : Array Nat := #[]) (fds : Array FieldInfo := #[]) : ClassFile where
  minorVersion := 0
  majorVersion := 65
  constantPool := pool
  accessFlags := fl
  thisClass := this
  superClass := sup
  interfaces := ifs
  fields := fds
  methods := ms
  attributes := attrs
def plain (name : String) (sup : Option ClassId) : Class where
  name := name
  kind := .ordinary
  loader := none
  accessFlags := 33
  super := sup
  interfaces := #[]
  cf := none
  fields := #[]
  methods := #[]
  instanceTypes := #[]
  staticTypes := #[]
  resolved := #[]
  callSites := []
  init := .initialized
  statics := none
  mirror := none

def pool0 : Array CpInfo := pool [(5, u "<init>"), (0, u "()V"), (1, .class_ 10), (1, u "java/lang/Object")] 113

def k0c0 : Code := { maxStack := 0, maxLocals := 1, code := object_method_1_code, exceptionTable := #[], attributes := #[] }
def k0m0 : Method := { name := "<init>", desc := "()V", sig := { parameters := [], returnType := none }, accessFlags := 1, code := some k0c0 }
/-- java/lang/Object -/
def k0 : Class := { plain "java/lang/Object" none with
  accessFlags := 33
  interfaces := #[]
  cf := some (fileOf pool0 8 #[] #[{ accessFlags := 1, nameIndex := 5, descriptorIndex := 6, attributes := #[] }] 33 0 #[] #[])
  fields := #[]
  methods := #[k0m0]
  instanceTypes := #[]
  staticTypes := #[]
  resolved := Array.replicate 124 none
  statics := none }

def pool1 : Array CpInfo := pool [(2, .class_ 4), (1, u "java/lang/Object"), (0, u "<init>"), (0, u "()V"), (0, .integer 2147483647), (0, .fieldref 9 10), (0, .class_ 11), (0, .nameAndType 12 13), (0, u "com/example/tunnus/tunnus/service/LoginOutcome$Refusal"), (0, u "BAD_CREDENTIALS"), (0, u "Lcom/example/tunnus/tunnus/service/LoginOutcome$Refusal;"), (0, .fieldref 9 15), (0, .nameAndType 16 13), (0, u "DEACTIVATED"), (0, .fieldref 9 18), (0, .nameAndType 19 13), (0, u "EXPIRED"), (0, .fieldref 9 21), (0, .nameAndType 22 13), (0, u "PASSWORD_EXPIRED"), (0, .fieldref 9 24), (0, .nameAndType 25 13), (0, u "DIRECTORY_UNAVAILABLE"), (0, .class_ 27), (0, u "java/lang/String"), (0, .methodref 26 29), (0, .nameAndType 5 30), (0, u "([C)V"), (0, .methodref 26 32), (0, .nameAndType 33 34), (0, u "valueOf"), (0, u "(C)Ljava/lang/String;"), (0, .methodref 36 37), (0, .class_ 38), (0, .nameAndType 39 40), (0, u "com/example/tunnus/tunnus/service/LoginOutcomeIsAcceptedPinLaw"), (0, u "pick"), (0, u "(I)Lcom/example/tunnus/tunnus/service/LoginOutcome$Refusal;"), (0, .class_ 42), (0, u "com/example/tunnus/tunnus/service/LoginOutcome"), (0, .methodref 41 44), (0, .nameAndType 5 45), (0, u "(Ljava/lang/String;Lcom/example/tunnus/tunnus/service/LoginOutcome$Refusal;)V"), (0, .methodref 41 47), (0, .nameAndType 48 49), (0, u "isAccepted"), (0, u "()Z"), (0, .methodref 41 51), (0, .nameAndType 52 53), (0, u "login"), (0, u "()Ljava/lang/String;"), (0, .methodref 41 55), (0, .nameAndType 56 57), (0, u "refusal"), (0, u "()Lcom/example/tunnus/tunnus/service/LoginOutcome$Refusal;"), (3, u "law"), (0, u "(IIII)Z")] 6

def k1m0 : Method := { name := "<init>", desc := "()V", sig := { parameters := [], returnType := none }, accessFlags := 1, code := none }
def k1c1 : Code := { maxStack := 2, maxLocals := 2, code := method_2_code, exceptionTable := #[], attributes := #[] }
def k1m1 : Method := { name := "pick", desc := "(I)Lcom/example/tunnus/tunnus/service/LoginOutcome$Refusal;", sig := { parameters := [.int], returnType := some (.object "com/example/tunnus/tunnus/service/LoginOutcome$Refusal") }, accessFlags := 10, code := some k1c1 }
def k1c2 : Code := { maxStack := 4, maxLocals := 12, code := code, exceptionTable := #[], attributes := #[] }
def k1m2 : Method := { name := "law", desc := "(IIII)Z", sig := { parameters := [.int, .int, .int, .int], returnType := some .boolean }, accessFlags := 9, code := some k1c2 }
/-- com/example/tunnus/tunnus/service/LoginOutcomeIsAcceptedPinLaw -/
def k1 : Class := { plain "com/example/tunnus/tunnus/service/LoginOutcomeIsAcceptedPinLaw" (some 0) with
  accessFlags := 49
  interfaces := #[]
  cf := some (fileOf pool1 36 #[] #[{ accessFlags := 1, nameIndex := 5, descriptorIndex := 6, attributes := #[] }, { accessFlags := 10, nameIndex := 39, descriptorIndex := 40, attributes := #[] }, { accessFlags := 9, nameIndex := 61, descriptorIndex := 62, attributes := #[] }] 49 2 #[] #[])
  fields := #[]
  methods := #[k1m0, k1m1, k1m2]
  instanceTypes := #[]
  staticTypes := #[]
  resolved := Array.replicate 69 none
  statics := none }

def pool2 : Array CpInfo := pool [(1, .class_ 2), (0, u "java/io/Serializable"), (0, .class_ 4), (0, u "java/lang/Object")] 2

/-- java/io/Serializable -/
def k2 : Class := { plain "java/io/Serializable" (some 0) with
  accessFlags := 1537
  interfaces := #[]
  cf := some (fileOf pool2 1 #[] #[] 1537 3 #[] #[])
  fields := #[]
  methods := #[]
  instanceTypes := #[]
  staticTypes := #[]
  resolved := Array.replicate 7 none
  statics := none }

def pool3 : Array CpInfo := pool [(1, .class_ 2), (0, u "java/lang/Comparable"), (0, .class_ 4), (0, u "java/lang/Object")] 7

/-- java/lang/Comparable -/
def k3 : Class := { plain "java/lang/Comparable" (some 0) with
  accessFlags := 1537
  interfaces := #[]
  cf := some (fileOf pool3 1 #[] #[] 1537 3 #[] #[])
  fields := #[]
  methods := #[]
  instanceTypes := #[]
  staticTypes := #[]
  resolved := Array.replicate 12 none
  statics := none }

def pool4 : Array CpInfo := pool [(2, .class_ 4), (1, u "java/lang/CharSequence"), (42, .class_ 48), (0, u "java/lang/CharSequence$1CodePointIterator"), (10, .class_ 60), (0, u "java/lang/CharSequence$1CharIterator"), (5, .class_ 67), (0, u "java/lang/Object")] 63

/-- java/lang/CharSequence -/
def k4 : Class := { plain "java/lang/CharSequence" (some 0) with
  accessFlags := 1537
  interfaces := #[]
  cf := some (fileOf pool4 2 #[.nestMembers #[47, 59]] #[] 1537 66 #[] #[])
  fields := #[]
  methods := #[]
  instanceTypes := #[]
  staticTypes := #[]
  resolved := Array.replicate 131 none
  statics := none }

def pool5 : Array CpInfo := pool [(1, .class_ 2), (0, u "java/lang/constant/Constable"), (0, .class_ 4), (0, u "java/lang/Object")] 6

/-- java/lang/constant/Constable -/
def k5 : Class := { plain "java/lang/constant/Constable" (some 0) with
  accessFlags := 1537
  interfaces := #[]
  cf := some (fileOf pool5 1 #[] #[] 1537 3 #[] #[])
  fields := #[]
  methods := #[]
  instanceTypes := #[]
  staticTypes := #[]
  resolved := Array.replicate 11 none
  statics := none }

def pool6 : Array CpInfo := pool [(1, .class_ 2), (0, u "java/lang/constant/ConstantDesc"), (0, .class_ 4), (0, u "java/lang/Object")] 32

/-- java/lang/constant/ConstantDesc -/
def k6 : Class := { plain "java/lang/constant/ConstantDesc" (some 0) with
  accessFlags := 1537
  interfaces := #[]
  cf := some (fileOf pool6 1 #[] #[] 1537 3 #[] #[])
  fields := #[]
  methods := #[]
  instanceTypes := #[]
  staticTypes := #[]
  resolved := Array.replicate 37 none
  statics := none }

def pool7 : Array CpInfo := pool [(1, .methodref 2 3), (0, .class_ 4), (0, .nameAndType 5 6), (0, u "java/lang/Object"), (0, u "<init>"), (0, u "()V"), (2, .fieldref 10 11), (0, .class_ 12), (0, .nameAndType 13 14), (0, u "java/lang/String"), (0, u "value"), (0, u "[B"), (0, .fieldref 10 16), (0, .nameAndType 17 18), (0, u "coder"), (0, u "B"), (2, u "hash"), (0, u "I"), (2, u "hashIsZero"), (0, u "Z"), (0, .methodref 10 28), (0, .nameAndType 5 29), (0, u "([CIILjava/lang/Void;)V"), (8, .fieldref 10 39), (0, .nameAndType 40 26), (0, u "COMPACT_STRINGS"), (1, .class_ 44), (1, u "java/lang/StringUTF16"), (0, u "compress"), (1, .methodref 42 48), (0, .nameAndType 49 50), (0, u "coderFromArrayLen"), (0, u "([BI)B"), (2, u "toBytes"), (53, .class_ 109), (1, u "java/lang/StringLatin1"), (67, .methodref 42 178), (0, .nameAndType 45 179), (0, u "([CII)[B"), (29, .methodref 10 210), (0, .nameAndType 5 211), (0, u "([BB)V"), (157, u "(C)Z"), (205, .class_ 576), (0, u "java/lang/CharSequence"), (22, u "CASE_INSENSITIVE_ORDER"), (0, u "Ljava/util/Comparator;"), (181, u "valueOf"), (0, u "(C)Ljava/lang/String;"), (226, u "([C)V"), (4, .methodref 107 1016), (0, .nameAndType 1017 369), (0, u "canEncode"), (0, .methodref 107 1019), (0, .nameAndType 53 1020), (0, u "(C)[B"), (80, u "serialPersistentFields"), (0, u "[Ljava/io/ObjectStreamField;"), (0, .class_ 1104), (0, u "java/lang/String$CaseInsensitiveComparator"), (1, .class_ 1107), (0, u "java/io/Serializable"), (0, .class_ 1109), (0, u "java/lang/Comparable"), (0, .class_ 1111), (0, u "java/lang/constant/Constable"), (0, .class_ 1113), (0, u "java/lang/constant/ConstantDesc"), (2, u "serialVersionUID"), (0, u "J"), (3, u "REPL"), (0, u "C"), (2, u "LATIN1"), (1, u "UTF16")] 323

def k7m0 : Method := { name := "<init>", desc := "()V", sig := { parameters := [], returnType := none }, accessFlags := 1, code := none }
def k7c1 : Code := { maxStack := 5, maxLocals := 2, code := jdk_42_method_3_code, exceptionTable := #[], attributes := #[] }
def k7m1 : Method := { name := "<init>", desc := "([C)V", sig := { parameters := [(.array .char)], returnType := none }, accessFlags := 1, code := some k7c1 }
def k7c2 : Code := { maxStack := 4, maxLocals := 1, code := jdk_42_method_139_code, exceptionTable := #[], attributes := #[] }
def k7m2 : Method := { name := "valueOf", desc := "(C)Ljava/lang/String;", sig := { parameters := [.char], returnType := some (.object "java/lang/String") }, accessFlags := 9, code := some k7c2 }
def k7c3 : Code := { maxStack := 4, maxLocals := 6, code := jdk_42_method_149_code, exceptionTable := #[], attributes := #[] }
def k7m3 : Method := { name := "<init>", desc := "([CIILjava/lang/Void;)V", sig := { parameters := [(.array .char), .int, .int, (.object "java/lang/Void")], returnType := none }, accessFlags := 2, code := some k7c3 }
def k7c4 : Code := { maxStack := 2, maxLocals := 3, code := jdk_42_method_151_code, exceptionTable := #[], attributes := #[] }
def k7m4 : Method := { name := "<init>", desc := "([BB)V", sig := { parameters := [(.array .byte), .byte], returnType := none }, accessFlags := 0, code := some k7c4 }
/-- java/lang/String -/
def k7 : Class := { plain "java/lang/String" (some 0) with
  accessFlags := 49
  interfaces := #[2, 3, 4, 5, 6]
  cf := some (fileOf pool7 10 #[.nestMembers #[1103]] #[{ accessFlags := 1, nameIndex := 5, descriptorIndex := 6, attributes := #[] }, { accessFlags := 1, nameIndex := 5, descriptorIndex := 1010, attributes := #[] }, { accessFlags := 9, nameIndex := 782, descriptorIndex := 783, attributes := #[] }, { accessFlags := 2, nameIndex := 5, descriptorIndex := 29, attributes := #[] }, { accessFlags := 0, nameIndex := 5, descriptorIndex := 211, attributes := #[] }] 49 2 #[1106, 1108, 575, 1110, 1112] #[{ accessFlags := 18, nameIndex := 13, descriptorIndex := 14, attributes := #[] }, { accessFlags := 18, nameIndex := 17, descriptorIndex := 18, attributes := #[] }, { accessFlags := 2, nameIndex := 21, descriptorIndex := 22, attributes := #[] }, { accessFlags := 2, nameIndex := 25, descriptorIndex := 26, attributes := #[] }, { accessFlags := 26, nameIndex := 1116, descriptorIndex := 1117, attributes := #[] }, { accessFlags := 24, nameIndex := 40, descriptorIndex := 26, attributes := #[] }, { accessFlags := 26, nameIndex := 1101, descriptorIndex := 1102, attributes := #[] }, { accessFlags := 26, nameIndex := 1121, descriptorIndex := 1122, attributes := #[] }, { accessFlags := 25, nameIndex := 599, descriptorIndex := 600, attributes := #[] }, { accessFlags := 24, nameIndex := 1125, descriptorIndex := 18, attributes := #[] }, { accessFlags := 24, nameIndex := 1127, descriptorIndex := 18, attributes := #[] }])
  fields := #[{ name := "value", type := (.array .byte), accessFlags := 18, slot := 0, constantValue := 0 }, { name := "coder", type := .byte, accessFlags := 18, slot := 1, constantValue := 0 }, { name := "hash", type := .int, accessFlags := 2, slot := 2, constantValue := 0 }, { name := "hashIsZero", type := .boolean, accessFlags := 2, slot := 3, constantValue := 0 }, { name := "serialVersionUID", type := .long, accessFlags := 26, slot := 0, constantValue := 0 }, { name := "COMPACT_STRINGS", type := .boolean, accessFlags := 24, slot := 1, constantValue := 0 }, { name := "serialPersistentFields", type := (.array (.object "java/io/ObjectStreamField")), accessFlags := 26, slot := 2, constantValue := 0 }, { name := "REPL", type := .char, accessFlags := 26, slot := 3, constantValue := 0 }, { name := "CASE_INSENSITIVE_ORDER", type := (.object "java/util/Comparator"), accessFlags := 25, slot := 4, constantValue := 0 }, { name := "LATIN1", type := .byte, accessFlags := 24, slot := 5, constantValue := 0 }, { name := "UTF16", type := .byte, accessFlags := 24, slot := 6, constantValue := 0 }]
  methods := #[k7m0, k7m1, k7m2, k7m3, k7m4]
  instanceTypes := #[(.array .byte), .byte, .int, .boolean]
  staticTypes := #[.long, .boolean, (.array (.object "java/io/ObjectStreamField")), .char, (.object "java/util/Comparator"), .byte, .byte]
  resolved := Array.replicate 1451 none
  statics := some 0 }

def pool8 : Array CpInfo := pool [(6, .class_ 8), (1, u "java/lang/Object"), (0, u "<init>"), (0, u "()V"), (1, .class_ 14), (1, u "java/lang/StringUTF16"), (31, u "$assertionsDisabled"), (0, u "Z"), (13, u "HI_BYTE_SHIFT"), (0, u "I"), (2, u "LO_BYTE_SHIFT"), (49, .methodref 12 116), (0, .nameAndType 117 118), (0, u "compress"), (0, u "([CI[BII)I"), (3, u "([CII)[B"), (138, u "coderFromArrayLen"), (0, u "([BI)B"), (106, .class_ 371), (1, u "java/lang/StringUTF16$LinesSpliterator"), (58, u "MAX_LENGTH"), (196, .class_ 628), (0, u "java/lang/StringUTF16$CodePointsSpliterator"), (0, .class_ 630), (0, u "java/lang/StringUTF16$CharsSpliterator")] 4

def k8m0 : Method := { name := "<init>", desc := "()V", sig := { parameters := [], returnType := none }, accessFlags := 0, code := none }
def k8c1 : Code := { maxStack := 2, maxLocals := 2, code := jdk_52_method_15_code, exceptionTable := #[], attributes := #[] }
def k8m1 : Method := { name := "coderFromArrayLen", desc := "([BI)B", sig := { parameters := [(.array .byte), .int], returnType := some .byte }, accessFlags := 8, code := some k8c1 }
def k8c2 : Code := { maxStack := 5, maxLocals := 6, code := jdk_52_method_16_code, exceptionTable := #[], attributes := #[] }
def k8m2 : Method := { name := "compress", desc := "([CII)[B", sig := { parameters := [(.array .char), .int, .int], returnType := some (.array .byte) }, accessFlags := 9, code := some k8c2 }
def k8c3 : Code := { maxStack := 3, maxLocals := 7, code := jdk_52_method_21_code, exceptionTable := #[], attributes := #[] }
def k8m3 : Method := { name := "compress", desc := "([CI[BII)I", sig := { parameters := [(.array .char), .int, (.array .byte), .int, .int], returnType := some .int }, accessFlags := 9, code := some k8c3 }
/-- java/lang/StringUTF16 -/
def k8 : Class := { plain "java/lang/StringUTF16" (some 0) with
  accessFlags := 48
  interfaces := #[]
  cf := some (fileOf pool8 12 #[.nestMembers #[627, 629, 369]] #[{ accessFlags := 0, nameIndex := 9, descriptorIndex := 10, attributes := #[] }, { accessFlags := 8, nameIndex := 261, descriptorIndex := 262, attributes := #[] }, { accessFlags := 9, nameIndex := 117, descriptorIndex := 122, attributes := #[] }, { accessFlags := 9, nameIndex := 117, descriptorIndex := 118, attributes := #[] }] 48 6 #[] #[{ accessFlags := 26, nameIndex := 61, descriptorIndex := 62, attributes := #[] }, { accessFlags := 26, nameIndex := 65, descriptorIndex := 62, attributes := #[] }, { accessFlags := 24, nameIndex := 430, descriptorIndex := 62, attributes := #[] }, { accessFlags := 4120, nameIndex := 46, descriptorIndex := 47, attributes := #[] }])
  fields := #[{ name := "HI_BYTE_SHIFT", type := .int, accessFlags := 26, slot := 0, constantValue := 0 }, { name := "LO_BYTE_SHIFT", type := .int, accessFlags := 26, slot := 1, constantValue := 0 }, { name := "MAX_LENGTH", type := .int, accessFlags := 24, slot := 2, constantValue := 0 }, { name := "$assertionsDisabled", type := .boolean, accessFlags := 4120, slot := 3, constantValue := 0 }]
  methods := #[k8m0, k8m1, k8m2, k8m3]
  instanceTypes := #[]
  staticTypes := #[.int, .int, .int, .boolean]
  resolved := Array.replicate 635 none
  statics := none }

def pool9 : Array CpInfo := pool [(2, .class_ 4), (1, u "java/lang/Enum"), (0, u "name"), (0, u "Ljava/lang/String;"), (2, u "ordinal"), (0, u "I"), (1, .class_ 14), (1, u "java/lang/Object"), (4, u "hash"), (86, .class_ 108), (1, u "java/lang/Enum$EnumDesc"), (2, .class_ 112), (0, u "java/lang/constant/Constable"), (0, .class_ 114), (0, u "java/lang/Comparable"), (0, .class_ 116), (0, u "java/io/Serializable")] 87

/-- java/lang/Enum -/
def k9 : Class := { plain "java/lang/Enum" (some 0) with
  accessFlags := 1057
  interfaces := #[5, 3, 2]
  cf := some (fileOf pool9 2 #[.nestMembers #[106]] #[] 1057 12 #[111, 113, 115] #[{ accessFlags := 18, nameIndex := 5, descriptorIndex := 6, attributes := #[] }, { accessFlags := 18, nameIndex := 9, descriptorIndex := 10, attributes := #[] }, { accessFlags := 2, nameIndex := 19, descriptorIndex := 10, attributes := #[] }])
  fields := #[{ name := "name", type := (.object "java/lang/String"), accessFlags := 18, slot := 0, constantValue := 0 }, { name := "ordinal", type := .int, accessFlags := 18, slot := 1, constantValue := 0 }, { name := "hash", type := .int, accessFlags := 2, slot := 2, constantValue := 0 }]
  methods := #[]
  instanceTypes := #[(.object "java/lang/String"), .int, .int]
  staticTypes := #[]
  resolved := Array.replicate 204 none
  statics := none }

def pool10 : Array CpInfo := pool [(1, .class_ 2), (0, u "com/example/tunnus/tunnus/service/LoginOutcome$Refusal"), (2, u "BAD_CREDENTIALS"), (0, u "Lcom/example/tunnus/tunnus/service/LoginOutcome$Refusal;"), (2, u "DEACTIVATED"), (2, u "EXPIRED"), (2, u "PASSWORD_EXPIRED"), (2, u "DIRECTORY_UNAVAILABLE"), (2, u "$VALUES"), (0, u "[Lcom/example/tunnus/tunnus/service/LoginOutcome$Refusal;"), (6, .class_ 31), (1, u "java/lang/Enum"), (8, u "code"), (0, u "Ljava/lang/String;"), (36, .class_ 79), (0, u "com/example/tunnus/tunnus/service/LoginOutcome")] 2

/-- com/example/tunnus/tunnus/service/LoginOutcome$Refusal -/
def k10 : Class := { plain "com/example/tunnus/tunnus/service/LoginOutcome$Refusal" (some 9) with
  accessFlags := 16433
  interfaces := #[]
  cf := some (fileOf pool10 1 #[.nestHost 78] #[] 16433 29 #[] #[{ accessFlags := 16409, nameIndex := 5, descriptorIndex := 6, attributes := #[] }, { accessFlags := 16409, nameIndex := 9, descriptorIndex := 6, attributes := #[] }, { accessFlags := 16409, nameIndex := 12, descriptorIndex := 6, attributes := #[] }, { accessFlags := 16409, nameIndex := 15, descriptorIndex := 6, attributes := #[] }, { accessFlags := 16409, nameIndex := 18, descriptorIndex := 6, attributes := #[] }, { accessFlags := 18, nameIndex := 40, descriptorIndex := 41, attributes := #[] }, { accessFlags := 4122, nameIndex := 21, descriptorIndex := 22, attributes := #[] }])
  fields := #[{ name := "BAD_CREDENTIALS", type := (.object "com/example/tunnus/tunnus/service/LoginOutcome$Refusal"), accessFlags := 16409, slot := 0, constantValue := 0 }, { name := "DEACTIVATED", type := (.object "com/example/tunnus/tunnus/service/LoginOutcome$Refusal"), accessFlags := 16409, slot := 1, constantValue := 0 }, { name := "EXPIRED", type := (.object "com/example/tunnus/tunnus/service/LoginOutcome$Refusal"), accessFlags := 16409, slot := 2, constantValue := 0 }, { name := "PASSWORD_EXPIRED", type := (.object "com/example/tunnus/tunnus/service/LoginOutcome$Refusal"), accessFlags := 16409, slot := 3, constantValue := 0 }, { name := "DIRECTORY_UNAVAILABLE", type := (.object "com/example/tunnus/tunnus/service/LoginOutcome$Refusal"), accessFlags := 16409, slot := 4, constantValue := 0 }, { name := "code", type := (.object "java/lang/String"), accessFlags := 18, slot := 3, constantValue := 0 }, { name := "$VALUES", type := (.array (.object "com/example/tunnus/tunnus/service/LoginOutcome$Refusal")), accessFlags := 4122, slot := 5, constantValue := 0 }]
  methods := #[]
  instanceTypes := #[(.object "java/lang/String"), .int, .int, (.object "java/lang/String")]
  staticTypes := #[(.object "com/example/tunnus/tunnus/service/LoginOutcome$Refusal"), (.object "com/example/tunnus/tunnus/service/LoginOutcome$Refusal"), (.object "com/example/tunnus/tunnus/service/LoginOutcome$Refusal"), (.object "com/example/tunnus/tunnus/service/LoginOutcome$Refusal"), (.object "com/example/tunnus/tunnus/service/LoginOutcome$Refusal"), (.array (.object "com/example/tunnus/tunnus/service/LoginOutcome$Refusal"))]
  resolved := Array.replicate 82 none
  statics := some 1 }

def pool11 : Array CpInfo := pool [(1, .methodref 2 3), (0, .class_ 4), (0, .nameAndType 5 6), (0, u "java/lang/Object"), (0, u "<init>"), (0, u "()V"), (0, .class_ 8), (0, u "java/lang/Record")] 13

def k11c0 : Code := { maxStack := 1, maxLocals := 1, code := jdk_30_method_1_code, exceptionTable := #[], attributes := #[] }
def k11m0 : Method := { name := "<init>", desc := "()V", sig := { parameters := [], returnType := none }, accessFlags := 4, code := some k11c0 }
/-- java/lang/Record -/
def k11 : Class := { plain "java/lang/Record" (some 0) with
  accessFlags := 1057
  interfaces := #[]
  cf := some (fileOf pool11 7 #[] #[{ accessFlags := 4, nameIndex := 5, descriptorIndex := 6, attributes := #[] }] 1057 2 #[] #[])
  fields := #[]
  methods := #[k11m0]
  instanceTypes := #[]
  staticTypes := #[]
  resolved := Array.replicate 22 none
  statics := none }

def pool12 : Array CpInfo := pool [(1, .methodref 2 3), (0, .class_ 4), (0, .nameAndType 5 6), (0, u "java/lang/Record"), (0, u "<init>"), (0, u "()V"), (7, .fieldref 15 16), (0, .class_ 17), (0, .nameAndType 18 19), (0, u "com/example/tunnus/tunnus/service/LoginOutcome"), (0, u "login"), (0, u "Ljava/lang/String;"), (0, .fieldref 15 21), (0, .nameAndType 22 23), (0, u "refusal"), (0, u "Lcom/example/tunnus/tunnus/service/LoginOutcome$Refusal;"), (11, u "(Ljava/lang/String;Lcom/example/tunnus/tunnus/service/LoginOutcome$Refusal;)V"), (1, .class_ 38), (0, u "com/example/tunnus/tunnus/service/LoginOutcome$Refusal"), (20, u "isAccepted"), (0, u "()Z"), (0, u "()Ljava/lang/String;"), (2, u "()Lcom/example/tunnus/tunnus/service/LoginOutcome$Refusal;")] 23

def k12c0 : Code := { maxStack := 3, maxLocals := 3, code := prog_31_method_1_code, exceptionTable := #[], attributes := #[] }
def k12m0 : Method := { name := "<init>", desc := "(Ljava/lang/String;Lcom/example/tunnus/tunnus/service/LoginOutcome$Refusal;)V", sig := { parameters := [(.object "java/lang/String"), (.object "com/example/tunnus/tunnus/service/LoginOutcome$Refusal")], returnType := none }, accessFlags := 1, code := some k12c0 }
def k12c1 : Code := { maxStack := 1, maxLocals := 1, code := prog_31_method_4_code, exceptionTable := #[], attributes := #[] }
def k12m1 : Method := { name := "isAccepted", desc := "()Z", sig := { parameters := [], returnType := some .boolean }, accessFlags := 1, code := some k12c1 }
def k12c2 : Code := { maxStack := 1, maxLocals := 1, code := prog_31_method_8_code, exceptionTable := #[], attributes := #[] }
def k12m2 : Method := { name := "login", desc := "()Ljava/lang/String;", sig := { parameters := [], returnType := some (.object "java/lang/String") }, accessFlags := 1, code := some k12c2 }
def k12c3 : Code := { maxStack := 1, maxLocals := 1, code := prog_31_method_9_code, exceptionTable := #[], attributes := #[] }
def k12m3 : Method := { name := "refusal", desc := "()Lcom/example/tunnus/tunnus/service/LoginOutcome$Refusal;", sig := { parameters := [], returnType := some (.object "com/example/tunnus/tunnus/service/LoginOutcome$Refusal") }, accessFlags := 1, code := some k12c3 }
/-- com/example/tunnus/tunnus/service/LoginOutcome -/
def k12 : Class := { plain "com/example/tunnus/tunnus/service/LoginOutcome" (some 11) with
  accessFlags := 49
  interfaces := #[]
  cf := some (fileOf pool12 15 #[.nestMembers #[37]] #[{ accessFlags := 1, nameIndex := 5, descriptorIndex := 35, attributes := #[] }, { accessFlags := 1, nameIndex := 59, descriptorIndex := 60, attributes := #[] }, { accessFlags := 1, nameIndex := 18, descriptorIndex := 61, attributes := #[] }, { accessFlags := 1, nameIndex := 22, descriptorIndex := 64, attributes := #[] }] 49 2 #[] #[{ accessFlags := 18, nameIndex := 18, descriptorIndex := 19, attributes := #[] }, { accessFlags := 18, nameIndex := 22, descriptorIndex := 23, attributes := #[] }])
  fields := #[{ name := "login", type := (.object "java/lang/String"), accessFlags := 18, slot := 0, constantValue := 0 }, { name := "refusal", type := (.object "com/example/tunnus/tunnus/service/LoginOutcome$Refusal"), accessFlags := 18, slot := 1, constantValue := 0 }]
  methods := #[k12m0, k12m1, k12m2, k12m3]
  instanceTypes := #[(.object "java/lang/String"), (.object "com/example/tunnus/tunnus/service/LoginOutcome$Refusal")]
  staticTypes := #[]
  resolved := Array.replicate 88 none
  statics := none }

def pool13 : Array CpInfo := pool [(4, .class_ 6), (1, u "java/lang/Object"), (0, u "<init>"), (0, u "()V"), (5, .class_ 16), (1, u "java/lang/StringLatin1"), (73, u "canEncode"), (14, u "(C)Z"), (15, u "$assertionsDisabled"), (0, u "Z"), (98, .class_ 223), (1, u "java/lang/StringLatin1$LinesSpliterator"), (156, u "toBytes"), (1, u "(C)[B"), (7, .class_ 391), (0, u "java/lang/StringLatin1$CharsSpliterator")] 3

def k13m0 : Method := { name := "<init>", desc := "()V", sig := { parameters := [], returnType := none }, accessFlags := 0, code := none }
def k13c1 : Code := { maxStack := 2, maxLocals := 1, code := jdk_43_method_3_code, exceptionTable := #[], attributes := #[] }
def k13m1 : Method := { name := "canEncode", desc := "(C)Z", sig := { parameters := [.char], returnType := some .boolean }, accessFlags := 9, code := some k13c1 }
def k13c2 : Code := { maxStack := 4, maxLocals := 1, code := jdk_43_method_46_code, exceptionTable := #[], attributes := #[] }
def k13m2 : Method := { name := "toBytes", desc := "(C)[B", sig := { parameters := [.char], returnType := some (.array .byte) }, accessFlags := 9, code := some k13c2 }
/-- java/lang/StringLatin1 -/
def k13 : Class := { plain "java/lang/StringLatin1" (some 0) with
  accessFlags := 48
  interfaces := #[]
  cf := some (fileOf pool13 14 #[.nestMembers #[390, 221]] #[{ accessFlags := 0, nameIndex := 7, descriptorIndex := 8, attributes := #[] }, { accessFlags := 9, nameIndex := 90, descriptorIndex := 105, attributes := #[] }, { accessFlags := 9, nameIndex := 380, descriptorIndex := 382, attributes := #[] }] 48 4 #[] #[{ accessFlags := 4120, nameIndex := 121, descriptorIndex := 122, attributes := #[] }])
  fields := #[{ name := "$assertionsDisabled", type := .boolean, accessFlags := 4120, slot := 0, constantValue := 0 }]
  methods := #[k13m0, k13m1, k13m2]
  instanceTypes := #[]
  staticTypes := #[.boolean]
  resolved := Array.replicate 395 none
  statics := none }

def pool14 : Array CpInfo := pool [(2, .class_ 4), (1, u "java/lang/Object"), (0, u "<init>"), (0, u "()V"), (17, .class_ 26), (1, u "jdk/internal/util/Preconditions"), (28, .class_ 56), (0, u "jdk/internal/util/Preconditions$4"), (57, .class_ 115), (0, u "jdk/internal/util/Preconditions$1"), (7, u "SIOOBE_FORMATTER"), (0, u "Ljava/util/function/BiFunction;"), (0, .class_ 126), (0, u "jdk/internal/util/Preconditions$2"), (3, u "AIOOBE_FORMATTER"), (0, .class_ 132), (0, u "jdk/internal/util/Preconditions$3"), (3, u "IOOBE_FORMATTER")] 57

def k14m0 : Method := { name := "<init>", desc := "()V", sig := { parameters := [], returnType := none }, accessFlags := 1, code := none }
/-- jdk/internal/util/Preconditions -/
def k14 : Class := { plain "jdk/internal/util/Preconditions" (some 0) with
  accessFlags := 33
  interfaces := #[]
  cf := some (fileOf pool14 24 #[.nestMembers #[55, 131, 125, 114]] #[{ accessFlags := 1, nameIndex := 5, descriptorIndex := 6, attributes := #[] }] 33 2 #[] #[{ accessFlags := 25, nameIndex := 123, descriptorIndex := 124, attributes := #[] }, { accessFlags := 25, nameIndex := 130, descriptorIndex := 124, attributes := #[] }, { accessFlags := 25, nameIndex := 136, descriptorIndex := 124, attributes := #[] }])
  fields := #[{ name := "SIOOBE_FORMATTER", type := (.object "java/util/function/BiFunction"), accessFlags := 25, slot := 0, constantValue := 0 }, { name := "AIOOBE_FORMATTER", type := (.object "java/util/function/BiFunction"), accessFlags := 25, slot := 1, constantValue := 0 }, { name := "IOOBE_FORMATTER", type := (.object "java/util/function/BiFunction"), accessFlags := 25, slot := 2, constantValue := 0 }]
  methods := #[k14m0]
  instanceTypes := #[]
  staticTypes := #[(.object "java/util/function/BiFunction"), (.object "java/util/function/BiFunction"), (.object "java/util/function/BiFunction")]
  resolved := Array.replicate 194 none
  statics := some 2 }

def pool15 : Array CpInfo := pool [(9, u "<init>"), (6, .class_ 18), (1, u "java/lang/Object"), (0, u "()V"), (1, .class_ 23), (1, u "jdk/internal/util/ArraysSupport"), (0, u "LOG2_ARRAY_LONG_INDEX_SCALE"), (0, u "I"), (2, u "U"), (0, u "Ljdk/internal/misc/Unsafe;"), (8, u "BIG_ENDIAN"), (0, u "Z"), (8, u "LOG2_BYTE_BIT_SIZE"), (4, u "LOG2_ARRAY_INT_INDEX_SCALE"), (54, u "JLA"), (0, u "Ljdk/internal/access/JavaLangAccess;"), (11, u "LOG2_ARRAY_BOOLEAN_INDEX_SCALE"), (9, u "LOG2_ARRAY_BYTE_INDEX_SCALE"), (5, u "LOG2_ARRAY_CHAR_INDEX_SCALE"), (5, u "LOG2_ARRAY_SHORT_INDEX_SCALE"), (18, u "LOG2_ARRAY_FLOAT_INDEX_SCALE"), (24, u "LOG2_ARRAY_DOUBLE_INDEX_SCALE"), (89, u "T_BOOLEAN"), (2, u "T_CHAR"), (1, u "T_FLOAT"), (1, u "T_DOUBLE"), (1, u "T_BYTE"), (1, u "T_SHORT"), (1, u "T_INT"), (1, u "T_LONG"), (1, u "SOFT_MAX_ARRAY_LENGTH")] 83

def k15m0 : Method := { name := "<init>", desc := "()V", sig := { parameters := [], returnType := none }, accessFlags := 2, code := none }
/-- jdk/internal/util/ArraysSupport -/
def k15 : Class := { plain "jdk/internal/util/ArraysSupport" (some 0) with
  accessFlags := 33
  interfaces := #[]
  cf := some (fileOf pool15 21 #[] #[{ accessFlags := 2, nameIndex := 9, descriptorIndex := 19, attributes := #[] }] 33 16 #[] #[{ accessFlags := 24, nameIndex := 28, descriptorIndex := 29, attributes := #[] }, { accessFlags := 26, nameIndex := 38, descriptorIndex := 39, attributes := #[] }, { accessFlags := 25, nameIndex := 121, descriptorIndex := 25, attributes := #[] }, { accessFlags := 25, nameIndex := 131, descriptorIndex := 25, attributes := #[] }, { accessFlags := 25, nameIndex := 137, descriptorIndex := 25, attributes := #[] }, { accessFlags := 25, nameIndex := 143, descriptorIndex := 25, attributes := #[] }, { accessFlags := 25, nameIndex := 53, descriptorIndex := 25, attributes := #[] }, { accessFlags := 25, nameIndex := 24, descriptorIndex := 25, attributes := #[] }, { accessFlags := 25, nameIndex := 162, descriptorIndex := 25, attributes := #[] }, { accessFlags := 25, nameIndex := 187, descriptorIndex := 25, attributes := #[] }, { accessFlags := 26, nameIndex := 48, descriptorIndex := 25, attributes := #[] }, { accessFlags := 25, nameIndex := 277, descriptorIndex := 25, attributes := #[] }, { accessFlags := 25, nameIndex := 280, descriptorIndex := 25, attributes := #[] }, { accessFlags := 25, nameIndex := 282, descriptorIndex := 25, attributes := #[] }, { accessFlags := 25, nameIndex := 284, descriptorIndex := 25, attributes := #[] }, { accessFlags := 25, nameIndex := 286, descriptorIndex := 25, attributes := #[] }, { accessFlags := 25, nameIndex := 288, descriptorIndex := 25, attributes := #[] }, { accessFlags := 25, nameIndex := 290, descriptorIndex := 25, attributes := #[] }, { accessFlags := 25, nameIndex := 292, descriptorIndex := 25, attributes := #[] }, { accessFlags := 26, nameIndex := 108, descriptorIndex := 109, attributes := #[] }, { accessFlags := 25, nameIndex := 294, descriptorIndex := 25, attributes := #[] }])
  fields := #[{ name := "U", type := (.object "jdk/internal/misc/Unsafe"), accessFlags := 24, slot := 0, constantValue := 0 }, { name := "BIG_ENDIAN", type := .boolean, accessFlags := 26, slot := 1, constantValue := 0 }, { name := "LOG2_ARRAY_BOOLEAN_INDEX_SCALE", type := .int, accessFlags := 25, slot := 2, constantValue := 0 }, { name := "LOG2_ARRAY_BYTE_INDEX_SCALE", type := .int, accessFlags := 25, slot := 3, constantValue := 0 }, { name := "LOG2_ARRAY_CHAR_INDEX_SCALE", type := .int, accessFlags := 25, slot := 4, constantValue := 0 }, { name := "LOG2_ARRAY_SHORT_INDEX_SCALE", type := .int, accessFlags := 25, slot := 5, constantValue := 0 }, { name := "LOG2_ARRAY_INT_INDEX_SCALE", type := .int, accessFlags := 25, slot := 6, constantValue := 0 }, { name := "LOG2_ARRAY_LONG_INDEX_SCALE", type := .int, accessFlags := 25, slot := 7, constantValue := 0 }, { name := "LOG2_ARRAY_FLOAT_INDEX_SCALE", type := .int, accessFlags := 25, slot := 8, constantValue := 0 }, { name := "LOG2_ARRAY_DOUBLE_INDEX_SCALE", type := .int, accessFlags := 25, slot := 9, constantValue := 0 }, { name := "LOG2_BYTE_BIT_SIZE", type := .int, accessFlags := 26, slot := 10, constantValue := 0 }, { name := "T_BOOLEAN", type := .int, accessFlags := 25, slot := 11, constantValue := 0 }, { name := "T_CHAR", type := .int, accessFlags := 25, slot := 12, constantValue := 0 }, { name := "T_FLOAT", type := .int, accessFlags := 25, slot := 13, constantValue := 0 }, { name := "T_DOUBLE", type := .int, accessFlags := 25, slot := 14, constantValue := 0 }, { name := "T_BYTE", type := .int, accessFlags := 25, slot := 15, constantValue := 0 }, { name := "T_SHORT", type := .int, accessFlags := 25, slot := 16, constantValue := 0 }, { name := "T_INT", type := .int, accessFlags := 25, slot := 17, constantValue := 0 }, { name := "T_LONG", type := .int, accessFlags := 25, slot := 18, constantValue := 0 }, { name := "JLA", type := (.object "jdk/internal/access/JavaLangAccess"), accessFlags := 26, slot := 19, constantValue := 0 }, { name := "SOFT_MAX_ARRAY_LENGTH", type := .int, accessFlags := 25, slot := 20, constantValue := 0 }]
  methods := #[k15m0]
  instanceTypes := #[]
  staticTypes := #[(.object "jdk/internal/misc/Unsafe"), .boolean, .int, .int, .int, .int, .int, .int, .int, .int, .int, .int, .int, .int, .int, .int, .int, .int, .int, (.object "jdk/internal/access/JavaLangAccess"), .int]
  resolved := Array.replicate 378 none
  statics := none }

def pool16 : Array CpInfo := pool [(1, u "java/lang/Cloneable"), (0, .class_ 1), (0, u "java/lang/Object"), (0, .class_ 3)] 3

/-- java/lang/Cloneable -/
def k16 : Class := { plain "java/lang/Cloneable" (some 0) with
  accessFlags := 1537
  interfaces := #[]
  cf := some (fileOf pool16 2 #[] #[] 1537 4 #[] #[])
  fields := #[]
  methods := #[]
  instanceTypes := #[]
  staticTypes := #[]
  resolved := Array.replicate 8 none
  statics := none }

/-- the primitive byte -/
def k17 : Class := { plain "byte" none with kind := .primitive 'B', accessFlags := 0x411 }
/-- [B -/
def k18 : Class := { plain "[B" (some 0) with kind := .array 17 .byte, interfaces := #[16, 2], accessFlags := 1041 }

/-- the primitive char -/
def k19 : Class := { plain "char" none with kind := .primitive 'C', accessFlags := 0x411 }
/-- [C -/
def k20 : Class := { plain "[C" (some 0) with kind := .array 19 .char, interfaces := #[16, 2], accessFlags := 1041 }

/-- the primitive int -/
def k21 : Class := { plain "int" none with kind := .primitive 'I', accessFlags := 0x411 }
/-- [I -/
def k22 : Class := { plain "[I" (some 0) with kind := .array 21 .int, interfaces := #[16, 2], accessFlags := 1041 }

def heap : Heap := #[{ cls := 7, slots := #[.long 0, .int 1, .null, .int 0, .null, .int 0, .int 0], vm := .statics 7 },
  { cls := 10, slots := #[.ref 3, .ref 4, .ref 5, .ref 6, .ref 7, .null], vm := .statics 10 },
  { cls := 14, slots := #[.null, .null, .null], vm := .statics 14 },
  { cls := 10, slots := #[.null, .int 0, .int 0, .null], vm := .none },
  { cls := 10, slots := #[.null, .int 1, .int 0, .null], vm := .none },
  { cls := 10, slots := #[.null, .int 2, .int 0, .null], vm := .none },
  { cls := 10, slots := #[.null, .int 3, .int 0, .null], vm := .none },
  { cls := 10, slots := #[.null, .int 4, .int 0, .null], vm := .none }]
def classes : Array Class := #[k0, k1, k2, k3, k4, k5, k6, k7, k8, k9, k10, k11, k12, k13, k14, k15, k16, k17, k18, k19, k20, k21, k22]
def interned : List (Array UInt16 × Addr) := []
def slotsUsed : Nat := 36
def theMethod : MethodId := ⟨1, 2⟩
def args0 : Array Value := #[.int 5, .int 7, .int 65, .int 66]
def aboutOver (below : List Frame) : State where
  vm := { classes := classes, interned := interned.toArray }
  heap := heap
  slotsUsed := slotsUsed
  threads := #[{ frames := .invoking theMethod args0 :: below }]
def below0 : List Frame := [.native { method := ⟨0, 0⟩, args := #[] }]
def about1 : State := aboutOver below0
def p0 : Program := .bare "" "" ""
def e0 : Env := launch0.env 0 0 0
theorem w_frames : about1.frames = Frame.invoking theMethod args0 :: below0 := rfl
set_option maxRecDepth 65536 in
theorem w_args : argsFit about1.vm theMethod args0 = true := by decide +kernel
set_option maxRecDepth 65536 in
theorem w_heap : heapFits about1 = true := by decide +kernel
set_option maxRecDepth 65536 in
theorem w_runnable : about1.curStatus? = some .runnable := by decide +kernel
set_option maxRecDepth 65536 in
theorem w_alone : about1.alone = true := by decide +kernel
set_option maxRecDepth 65536 in
theorem w_named : about1.methodNamed? x = some theMethod := by decide +kernel
set_option maxRecDepth 65536 in
theorem w_hears : about1.hears theMethod below0 = true := by decide +kernel
set_option maxRecDepth 65536 in
theorem w_ripe : about1.ripe theMethod args0 below0 = true := by decide +kernel
theorem w_running : about1.status = .running := rfl
set_option maxRecDepth 65536 in
theorem w_room : about1.hasRoom e0.platform room_1 = true :=
  launch0.hasRoom_least _ room_1 (by decide +kernel) (by decide +kernel) (by decide +kernel) (by decide +kernel) (by decide +kernel) (by decide +kernel)
theorem allAtoms_all (ts : List Jvm.Cond) (a : Array Jvm.Value) (st : Jvm.State) : (allAtoms ts).before a st = ts.all (fun c => c.before a st) := by
  induction ts with
  | nil => rfl
  | cons c t ih =>
    show (Jvm.Cond.and c (allAtoms t)).before a st = _
    rw [Jvm.Cond.before_and, ih, List.all_cons]
def words1 : List Jvm.Cond := Jvm.Cond.code x code maxLocals ret :: tables_1
/-- a 'code' word, met by the world's own term for the bytes: nothing is compared byte by byte -/
theorem code_word {y : MethodName} {bytes : ByteArray} {mx : Nat} {rt : Option FieldType} {a : Array Value} {s : State} {m : MethodId} {meth : Method} {c : Code} (h1 : s.methodNamed? y = some m) (h2 : s.vm.method? m = some meth) (h3 : meth.code = some c) (h4 : c.code = bytes)
    (h5 : (c.maxLocals == mx && c.exceptionTable.isEmpty && decide (c.maxStack ≤ mostOperands) && decide (meth.sig.returnType = rt) && !meth.locks && decide (parseMethodDescriptor y.desc = some meth.sig)) = true) : (Jvm.Cond.code y bytes mx rt).before a s = true := by
  simp only [Bool.and_eq_true, beq_iff_eq, Bool.not_eq_true', decide_eq_true_eq] at h5
  obtain ⟨⟨⟨⟨⟨g1, g2⟩, g3⟩, g4⟩, g5⟩, g6⟩ := h5
  simp [Cond.before, Cond.holds, Cond.value, h1, h2, h3, h4, g1, g2, g3, g4, g5, g6]
def isCode : Jvm.Cond → Bool
  | .code _ _ _ _ => true
  | _ => false
theorem all_split {L : List Jvm.Cond} {P : Jvm.Cond → Bool} (h1 : L.all (fun c => isCode c || P c) = true) (h2 : ∀ c ∈ L.filter isCode, P c = true) : L.all P = true := by
  refine List.all_eq_true.mpr fun c hc => ?_
  have h := List.all_eq_true.mp h1 c hc
  rcases Bool.eq_false_or_eq_true (isCode c) with hi | hi
  · exact h2 c (List.mem_filter.mpr ⟨hc, hi⟩)
  · simpa [hi] using h
set_option maxRecDepth 65536 in
theorem w_c0 : (Jvm.Cond.code x code maxLocals ret).before args0 about1 = true := code_word (m := ⟨1, 2⟩) (meth := k1m2) (c := k1c2) (by decide +kernel) rfl rfl rfl (by decide +kernel)
set_option maxRecDepth 65536 in
theorem w_c1 : (Jvm.Cond.code ({ cls := "java/lang/String", name := "<init>", desc := "([C)V" } : Jvm.MethodName) jdk_42_method_3_code (2 : Nat) (Option.none : Option Jvm.ClassFile.FieldType)).before args0 about1 = true := code_word (m := ⟨7, 1⟩) (meth := k7m1) (c := k7c1) (by decide +kernel) rfl rfl rfl (by decide +kernel)
set_option maxRecDepth 65536 in
theorem w_c2 : (Jvm.Cond.code ({ cls := "java/lang/String", name := "<init>", desc := "([CIILjava/lang/Void;)V" } : Jvm.MethodName) jdk_42_method_149_code (6 : Nat) (Option.none : Option Jvm.ClassFile.FieldType)).before args0 about1 = true := code_word (m := ⟨7, 3⟩) (meth := k7m3) (c := k7c3) (by decide +kernel) rfl rfl rfl (by decide +kernel)
set_option maxRecDepth 65536 in
theorem w_c3 : (Jvm.Cond.code ({ cls := "java/lang/Object", name := "<init>", desc := "()V" } : Jvm.MethodName) object_method_1_code (1 : Nat) (Option.none : Option Jvm.ClassFile.FieldType)).before args0 about1 = true := code_word (m := ⟨0, 0⟩) (meth := k0m0) (c := k0c0) (by decide +kernel) rfl rfl rfl (by decide +kernel)
set_option maxRecDepth 65536 in
theorem w_c4 : (Jvm.Cond.code ({ cls := "java/lang/StringUTF16", name := "compress", desc := "([CII)[B" } : Jvm.MethodName) jdk_52_method_16_code (6 : Nat) (Option.some (Jvm.ClassFile.FieldType.array Jvm.ClassFile.FieldType.byte))).before args0 about1 = true := code_word (m := ⟨8, 2⟩) (meth := k8m2) (c := k8c2) (by decide +kernel) rfl rfl rfl (by decide +kernel)
set_option maxRecDepth 65536 in
theorem w_c5 : (Jvm.Cond.code ({ cls := "java/lang/StringUTF16", name := "compress", desc := "([CI[BII)I" } : Jvm.MethodName) jdk_52_method_21_code (7 : Nat) (Option.some Jvm.ClassFile.FieldType.int)).before args0 about1 = true := code_word (m := ⟨8, 3⟩) (meth := k8m3) (c := k8c3) (by decide +kernel) rfl rfl rfl (by decide +kernel)
set_option maxRecDepth 65536 in
theorem w_c6 : (Jvm.Cond.code ({ cls := "java/lang/StringUTF16", name := "coderFromArrayLen", desc := "([BI)B" } : Jvm.MethodName) jdk_52_method_15_code (2 : Nat) (Option.some Jvm.ClassFile.FieldType.byte)).before args0 about1 = true := code_word (m := ⟨8, 1⟩) (meth := k8m1) (c := k8c1) (by decide +kernel) rfl rfl rfl (by decide +kernel)
set_option maxRecDepth 65536 in
theorem w_c7 : (Jvm.Cond.code ({ cls := "com/example/tunnus/tunnus/service/LoginOutcomeIsAcceptedPinLaw", name := "pick", desc := "(I)Lcom/example/tunnus/tunnus/service/LoginOutcome$Refusal;" } : Jvm.MethodName) method_2_code (2 : Nat) (Option.some (Jvm.ClassFile.FieldType.object "com/example/tunnus/tunnus/service/LoginOutcome$Refusal"))).before args0 about1 = true := code_word (m := ⟨1, 1⟩) (meth := k1m1) (c := k1c1) (by decide +kernel) rfl rfl rfl (by decide +kernel)
set_option maxRecDepth 65536 in
theorem w_c8 : (Jvm.Cond.code ({ cls := "com/example/tunnus/tunnus/service/LoginOutcome", name := "<init>", desc := "(Ljava/lang/String;Lcom/example/tunnus/tunnus/service/LoginOutcome$Refusal;)V" } : Jvm.MethodName) prog_31_method_1_code (3 : Nat) (Option.none : Option Jvm.ClassFile.FieldType)).before args0 about1 = true := code_word (m := ⟨12, 0⟩) (meth := k12m0) (c := k12c0) (by decide +kernel) rfl rfl rfl (by decide +kernel)
set_option maxRecDepth 65536 in
theorem w_c9 : (Jvm.Cond.code ({ cls := "java/lang/Record", name := "<init>", desc := "()V" } : Jvm.MethodName) jdk_30_method_1_code (1 : Nat) (Option.none : Option Jvm.ClassFile.FieldType)).before args0 about1 = true := code_word (m := ⟨11, 0⟩) (meth := k11m0) (c := k11c0) (by decide +kernel) rfl rfl rfl (by decide +kernel)
set_option maxRecDepth 65536 in
theorem w_c10 : (Jvm.Cond.code ({ cls := "com/example/tunnus/tunnus/service/LoginOutcome", name := "isAccepted", desc := "()Z" } : Jvm.MethodName) prog_31_method_4_code (1 : Nat) (Option.some Jvm.ClassFile.FieldType.boolean)).before args0 about1 = true := code_word (m := ⟨12, 1⟩) (meth := k12m1) (c := k12c1) (by decide +kernel) rfl rfl rfl (by decide +kernel)
set_option maxRecDepth 65536 in
theorem w_c11 : (Jvm.Cond.code ({ cls := "com/example/tunnus/tunnus/service/LoginOutcome", name := "login", desc := "()Ljava/lang/String;" } : Jvm.MethodName) prog_31_method_8_code (1 : Nat) (Option.some (Jvm.ClassFile.FieldType.object "java/lang/String"))).before args0 about1 = true := code_word (m := ⟨12, 2⟩) (meth := k12m2) (c := k12c2) (by decide +kernel) rfl rfl rfl (by decide +kernel)
set_option maxRecDepth 65536 in
theorem w_c12 : (Jvm.Cond.code ({ cls := "com/example/tunnus/tunnus/service/LoginOutcome", name := "refusal", desc := "()Lcom/example/tunnus/tunnus/service/LoginOutcome$Refusal;" } : Jvm.MethodName) prog_31_method_9_code (1 : Nat) (Option.some (Jvm.ClassFile.FieldType.object "com/example/tunnus/tunnus/service/LoginOutcome$Refusal"))).before args0 about1 = true := code_word (m := ⟨12, 3⟩) (meth := k12m3) (c := k12c3) (by decide +kernel) rfl rfl rfl (by decide +kernel)
set_option maxRecDepth 65536 in
theorem w_c13 : (Jvm.Cond.code ({ cls := "java/lang/String", name := "valueOf", desc := "(C)Ljava/lang/String;" } : Jvm.MethodName) jdk_42_method_139_code (1 : Nat) (Option.some (Jvm.ClassFile.FieldType.object "java/lang/String"))).before args0 about1 = true := code_word (m := ⟨7, 2⟩) (meth := k7m2) (c := k7c2) (by decide +kernel) rfl rfl rfl (by decide +kernel)
set_option maxRecDepth 65536 in
theorem w_c14 : (Jvm.Cond.code ({ cls := "java/lang/StringLatin1", name := "canEncode", desc := "(C)Z" } : Jvm.MethodName) jdk_43_method_3_code (1 : Nat) (Option.some Jvm.ClassFile.FieldType.boolean)).before args0 about1 = true := code_word (m := ⟨13, 1⟩) (meth := k13m1) (c := k13c1) (by decide +kernel) rfl rfl rfl (by decide +kernel)
set_option maxRecDepth 65536 in
theorem w_c15 : (Jvm.Cond.code ({ cls := "java/lang/StringLatin1", name := "toBytes", desc := "(C)[B" } : Jvm.MethodName) jdk_43_method_46_code (1 : Nat) (Option.some (Jvm.ClassFile.FieldType.array Jvm.ClassFile.FieldType.byte))).before args0 about1 = true := code_word (m := ⟨13, 2⟩) (meth := k13m2) (c := k13c2) (by decide +kernel) rfl rfl rfl (by decide +kernel)
set_option maxRecDepth 65536 in
theorem w_c16 : (Jvm.Cond.code ({ cls := "java/lang/String", name := "<init>", desc := "([BB)V" } : Jvm.MethodName) jdk_42_method_151_code (3 : Nat) (Option.none : Option Jvm.ClassFile.FieldType)).before args0 about1 = true := code_word (m := ⟨7, 4⟩) (meth := k7m4) (c := k7c4) (by decide +kernel) rfl rfl rfl (by decide +kernel)
def codes1 : List Jvm.Cond := [Jvm.Cond.code x code maxLocals ret, Jvm.Cond.code ({ cls := "java/lang/String", name := "<init>", desc := "([C)V" } : Jvm.MethodName) jdk_42_method_3_code (2 : Nat) (Option.none : Option Jvm.ClassFile.FieldType), Jvm.Cond.code ({ cls := "java/lang/String", name := "<init>", desc := "([CIILjava/lang/Void;)V" } : Jvm.MethodName) jdk_42_method_149_code (6 : Nat) (Option.none : Option Jvm.ClassFile.FieldType), Jvm.Cond.code ({ cls := "java/lang/Object", name := "<init>", desc := "()V" } : Jvm.MethodName) object_method_1_code (1 : Nat) (Option.none : Option Jvm.ClassFile.FieldType), Jvm.Cond.code ({ cls := "java/lang/StringUTF16", name := "compress", desc := "([CII)[B" } : Jvm.MethodName) jdk_52_method_16_code (6 : Nat) (Option.some (Jvm.ClassFile.FieldType.array Jvm.ClassFile.FieldType.byte)), Jvm.Cond.code ({ cls := "java/lang/StringUTF16", name := "compress", desc := "([CI[BII)I" } : Jvm.MethodName) jdk_52_method_21_code (7 : Nat) (Option.some Jvm.ClassFile.FieldType.int), Jvm.Cond.code ({ cls := "java/lang/StringUTF16", name := "coderFromArrayLen", desc := "([BI)B" } : Jvm.MethodName) jdk_52_method_15_code (2 : Nat) (Option.some Jvm.ClassFile.FieldType.byte), Jvm.Cond.code ({ cls := "com/example/tunnus/tunnus/service/LoginOutcomeIsAcceptedPinLaw", name := "pick", desc := "(I)Lcom/example/tunnus/tunnus/service/LoginOutcome$Refusal;" } : Jvm.MethodName) method_2_code (2 : Nat) (Option.some (Jvm.ClassFile.FieldType.object "com/example/tunnus/tunnus/service/LoginOutcome$Refusal")), Jvm.Cond.code ({ cls := "com/example/tunnus/tunnus/service/LoginOutcome", name := "<init>", desc := "(Ljava/lang/String;Lcom/example/tunnus/tunnus/service/LoginOutcome$Refusal;)V" } : Jvm.MethodName) prog_31_method_1_code (3 : Nat) (Option.none : Option Jvm.ClassFile.FieldType), Jvm.Cond.code ({ cls := "java/lang/Record", name := "<init>", desc := "()V" } : Jvm.MethodName) jdk_30_method_1_code (1 : Nat) (Option.none : Option Jvm.ClassFile.FieldType), Jvm.Cond.code ({ cls := "com/example/tunnus/tunnus/service/LoginOutcome", name := "isAccepted", desc := "()Z" } : Jvm.MethodName) prog_31_method_4_code (1 : Nat) (Option.some Jvm.ClassFile.FieldType.boolean), Jvm.Cond.code ({ cls := "com/example/tunnus/tunnus/service/LoginOutcome", name := "login", desc := "()Ljava/lang/String;" } : Jvm.MethodName) prog_31_method_8_code (1 : Nat) (Option.some (Jvm.ClassFile.FieldType.object "java/lang/String")), Jvm.Cond.code ({ cls := "com/example/tunnus/tunnus/service/LoginOutcome", name := "refusal", desc := "()Lcom/example/tunnus/tunnus/service/LoginOutcome$Refusal;" } : Jvm.MethodName) prog_31_method_9_code (1 : Nat) (Option.some (Jvm.ClassFile.FieldType.object "com/example/tunnus/tunnus/service/LoginOutcome$Refusal")), Jvm.Cond.code ({ cls := "java/lang/String", name := "valueOf", desc := "(C)Ljava/lang/String;" } : Jvm.MethodName) jdk_42_method_139_code (1 : Nat) (Option.some (Jvm.ClassFile.FieldType.object "java/lang/String")), Jvm.Cond.code ({ cls := "java/lang/StringLatin1", name := "canEncode", desc := "(C)Z" } : Jvm.MethodName) jdk_43_method_3_code (1 : Nat) (Option.some Jvm.ClassFile.FieldType.boolean), Jvm.Cond.code ({ cls := "java/lang/StringLatin1", name := "toBytes", desc := "(C)[B" } : Jvm.MethodName) jdk_43_method_46_code (1 : Nat) (Option.some (Jvm.ClassFile.FieldType.array Jvm.ClassFile.FieldType.byte)), Jvm.Cond.code ({ cls := "java/lang/String", name := "<init>", desc := "([BB)V" } : Jvm.MethodName) jdk_42_method_151_code (3 : Nat) (Option.none : Option Jvm.ClassFile.FieldType)]
set_option maxRecDepth 65536 in
theorem codes_eq : words1.filter isCode = codes1 := rfl
theorem w_codes : ∀ c ∈ words1.filter isCode, c.before args0 about1 = true := by
  rw [codes_eq]
  intro c hc
  simp only [codes1, List.mem_cons, List.not_mem_nil, or_false] at hc
  rcases hc with rfl | rfl | rfl | rfl | rfl | rfl | rfl | rfl | rfl | rfl | rfl | rfl | rfl | rfl | rfl | rfl | rfl
  · exact w_c0
  · exact w_c1
  · exact w_c2
  · exact w_c3
  · exact w_c4
  · exact w_c5
  · exact w_c6
  · exact w_c7
  · exact w_c8
  · exact w_c9
  · exact w_c10
  · exact w_c11
  · exact w_c12
  · exact w_c13
  · exact w_c14
  · exact w_c15
  · exact w_c16
set_option maxRecDepth 65536 in
theorem w_t1 : (words1.take 24).all (fun c => isCode c || c.before args0 about1) = true := by decide +kernel
set_option maxRecDepth 65536 in
theorem w_t2 : ((words1.drop 24).take 24).all (fun c => isCode c || c.before args0 about1) = true := by decide +kernel
set_option maxRecDepth 65536 in
theorem w_t3 : (((words1.drop 24).drop 24).take 24).all (fun c => isCode c || c.before args0 about1) = true := by decide +kernel
set_option maxRecDepth 65536 in
theorem w_t4 : (((words1.drop 24).drop 24).drop 24).all (fun c => isCode c || c.before args0 about1) = true := by decide +kernel
theorem w_tables : (allAtoms (Jvm.Cond.code x code maxLocals ret :: tables_1)).before args0 about1 = true := by
  rw [allAtoms_all]
  show words1.all (fun c => c.before args0 about1) = true
  refine all_split ?_ w_codes
  rw [← List.take_append_drop 24 words1, List.all_append, w_t1, ← List.take_append_drop 24 (words1.drop 24), List.all_append, w_t2, ← List.take_append_drop 24 ((words1.drop 24).drop 24), List.all_append, w_t3, w_t4]
  rfl
set_option maxRecDepth 65536 in
theorem w_rest : rest_1_c.before args0 about1 = true := by decide +kernel
set_option maxRecDepth 65536 in
theorem w_case : (Jvm.Cond.and given_1 narrow_1).before args0 about1 = true := by decide +kernel
theorem w_applies : (headSpec (Jvm.Cond.code x code maxLocals ret :: tables_1) room_1).applies x e0.platform about1 = true :=
  (Spec.applies_iff w_frames).mpr ⟨w_running, w_runnable, w_alone, w_named, w_hears, w_ripe, w_room, w_tables⟩
theorem atStart : AtStart classFile x code maxLocals ret World_1 tables_1 room_1 Calls_1 rest_1 Pre_1 launch0 p0 e0 about1 theMethod args0 below0 :=
  ⟨lists_1, trivial, launch0.admits_env _ _ _, launch0.least_env, fairChoices_fair.cas, fairChoices_fair.clock, w_frames, w_args, w_heap, w_applies, trivial, w_rest, w_case⟩
end start1
theorem witness_1 : WitnessClaimed_1 := ⟨start1.p0, start1.e0, start1.about1, start1.theMethod, start1.args0, start1.below0, start1.atStart⟩
end Jvm.Pilot.@@N@@
