import JvmDerived
import JvmDerived.Pilot.@@N@@Statement
import JvmDerived.Pilot.@@N@@Code
set_option linter.unusedVariables false
set_option linter.unusedSimpArgs false
namespace Jvm.Wk
open Sem ClassFile Op Lib Jvm.Stand Jvm.Free Jvm.LawKit Jvm.RoadKit
section W
variable {p : Program} {l : Launch} {e : Env} {R : Room} {s : State} {m : MethodId} {args : Array Value} {below : List Frame} {meth : Method} {c : Code} {T T' : State} {locs : List Loc} {cells slots : Nat} {Q : Option Value → Heap → List Loc → Prop} {Fe : Outcome → State → List Loc → Nat → Nat → Prop} {vm0 : Vm} {K N pc n t k0 : Nat} {Ls l' : Array Slot} {st rest : List Value} {Z : State} {a0 : Array Value} {h : Heap}
/-- the walk stands at the frame g over T and comes to an end that Q allows -/
def Go (p : Program) (e : Env) (below : List Frame) (Fe : Outcome → State → List Loc → Nat → Nat → Prop) (Q : Option Value → Heap → List Loc → Prop) (K N : Nat) (T : State) (g : JFrame) : Prop :=
  ∃ s₂ o, Steps p.tables e below (T.setTop g) s₂ ∧ s₂.status = .running ∧ Ended s₂ below o ∧ ∃ v L, o = .returned v ∧ Q v s₂.heap L ∧ Fe o s₂ L K N
theorem cut {A B : Prop} (h1 : A → B) (h2 : A) : B := h1 h2
theorem go {g g' : JFrame} (h : ∀ target, Steps p.tables e below (T'.setTop g') target → Steps p.tables e below (T.setTop g) target) (F : Go p e below Fe Q K N T' g') : Go p e below Fe Q K N T g := by
  obtain ⟨s₂, o, h1, r⟩ := F
  exact ⟨s₂, o, h _ h1, r⟩
/-- a boolean as an int -/
def b (P : Prop) [Decidable P] : Int32 := if P then 1 else 0
theorem b_t {P : Prop} [Decidable P] (h : P) : b P = 1 := if_pos h
theorem b_f {P : Prop} [Decidable P] (h : ¬ P) : b P = 0 := if_neg h
theorem b_iff {P P' : Prop} [Decidable P] [Decidable P'] (h : P ↔ P') : b P = b P' := by
  by_cases q : P
  · rw [b_t q, b_t (h.mp q)]
  · rw [b_f q, b_f (fun z => q (h.mpr z))]
theorem b_inj {P P' : Prop} [Decidable P] [Decidable P'] (h : b P = b P') : P ↔ P' := by
  by_cases q : P <;> by_cases q' : P' <;> simp_all [b]
/-- a mask with one more bit, or as it is -/
def ob (P : Prop) [Decidable P] (k x : Int32) : Int32 := if P then x ||| k else x
theorem ob_t {P : Prop} [Decidable P] {k x : Int32} (h : P) : ob P k x = x ||| k := if_pos h
theorem ob_f {P : Prop} [Decidable P] {k x : Int32} (h : ¬ P) : ob P k x = x := if_neg h
theorem goB1 {P : Prop} [Decidable P] (H : Go p e below Fe Q K N T (mkF m pc Ls (.int (b P) :: st))) (hP : P) : Go p e below Fe Q K N T (mkF m pc Ls (.int 1 :: st)) := by rw [b_t hP] at H; exact H
theorem goB0 {P : Prop} [Decidable P] (H : Go p e below Fe Q K N T (mkF m pc Ls (.int (b P) :: st))) (hP : ¬ P) : Go p e below Fe Q K N T (mkF m pc Ls (.int 0 :: st)) := by rw [b_f hP] at H; exact H

theorem iloadN (X : Stand p l e R s m args below meth c T locs cells slots) (hx : p.tables.exec = Jvm.exec) {k : Fin 4} {v : Int32} (hd : decode c.code pc = .ok (.iload_n k, 1)) (hl : Ls[k.val]? = some (.val (.int v))) (hn : pc + 1 = n) (F : Go p e below Fe Q K N T (mkF m n Ls (.int v :: st))) : Go p e below Fe Q K N T (mkF m pc Ls st) := by
  subst hn
  exact go (fun _ h => XS.iloadN X.here hx rfl hd hl h) F
theorem iload (X : Stand p l e R s m args below meth c T locs cells slots) (hx : p.tables.exec = Jvm.exec) {k : Nat} {v : Int32} (hd : decode c.code pc = .ok (.iload k, 2)) (hl : Ls[k]? = some (.val (.int v))) (hn : pc + 2 = n) (F : Go p e below Fe Q K N T (mkF m n Ls (.int v :: st))) : Go p e below Fe Q K N T (mkF m pc Ls st) := by
  subst hn
  exact go (fun _ h => XS.iload X.here hx rfl hd hl h) F
theorem aloadN (X : Stand p l e R s m args below meth c T locs cells slots) (hx : p.tables.exec = Jvm.exec) {k : Fin 4} {v : Value} (hd : decode c.code pc = .ok (.aload_n k, 1)) (hl : Ls[k.val]? = some (.val v)) (hv : v.isRef = true) (hn : pc + 1 = n) (F : Go p e below Fe Q K N T (mkF m n Ls (v :: st))) : Go p e below Fe Q K N T (mkF m pc Ls st) := by
  subst hn
  exact go (fun _ h => XS.aloadN X.here hx rfl hd hl hv h) F
theorem aload (X : Stand p l e R s m args below meth c T locs cells slots) (hx : p.tables.exec = Jvm.exec) {k : Nat} {v : Value} (hd : decode c.code pc = .ok (.aload k, 2)) (hl : Ls[k]? = some (.val v)) (hv : v.isRef = true) (hn : pc + 2 = n) (F : Go p e below Fe Q K N T (mkF m n Ls (v :: st))) : Go p e below Fe Q K N T (mkF m pc Ls st) := by
  subst hn
  exact go (fun _ h => XS.aload X.here hx rfl hd hl hv h) F
theorem lloadN (X : Stand p l e R s m args below meth c T locs cells slots) (hx : p.tables.exec = Jvm.exec) {k : Fin 4} {v : Int64} (hd : decode c.code pc = .ok (.lload_n k, 1)) (hl : Ls[k.val]? = some (.val (.long v))) (hn : pc + 1 = n) (F : Go p e below Fe Q K N T (mkF m n Ls (.long v :: st))) : Go p e below Fe Q K N T (mkF m pc Ls st) := by
  subst hn
  exact go (fun _ h => XT.lloadN X.here hx rfl hd hl h) F
theorem lload (X : Stand p l e R s m args below meth c T locs cells slots) (hx : p.tables.exec = Jvm.exec) {k : Nat} {v : Int64} (hd : decode c.code pc = .ok (.lload k, 2)) (hl : Ls[k]? = some (.val (.long v))) (hn : pc + 2 = n) (F : Go p e below Fe Q K N T (mkF m n Ls (.long v :: st))) : Go p e below Fe Q K N T (mkF m pc Ls st) := by
  subst hn
  exact go (fun _ h => XT.lload X.here hx rfl hd hl h) F
theorem istoreN (X : Stand p l e R s m args below meth c T locs cells slots) (hx : p.tables.exec = Jvm.exec) {k : Fin 4} {x : Int32} (hd : decode c.code pc = .ok (.istore_n k, 1)) (hl : storeLocals Ls k.val (.int x) = some l') (hn : pc + 1 = n) (F : Go p e below Fe Q K N T (mkF m n l' st)) : Go p e below Fe Q K N T (mkF m pc Ls (.int x :: st)) := by
  subst hn
  exact go (fun _ h => XS.istoreN X.here hx rfl hd rfl hl h) F
theorem istore (X : Stand p l e R s m args below meth c T locs cells slots) (hx : p.tables.exec = Jvm.exec) {k : Nat} {x : Int32} (hd : decode c.code pc = .ok (.istore k, 2)) (hl : storeLocals Ls k (.int x) = some l') (hn : pc + 2 = n) (F : Go p e below Fe Q K N T (mkF m n l' st)) : Go p e below Fe Q K N T (mkF m pc Ls (.int x :: st)) := by
  subst hn
  exact go (fun _ h => XS.istore X.here hx rfl hd rfl hl h) F
theorem astoreN (X : Stand p l e R s m args below meth c T locs cells slots) (hx : p.tables.exec = Jvm.exec) {k : Fin 4} {x : Value} (hd : decode c.code pc = .ok (.astore_n k, 1)) (hv : x.isRef = true) (hl : storeLocals Ls k.val x = some l') (hn : pc + 1 = n) (F : Go p e below Fe Q K N T (mkF m n l' st)) : Go p e below Fe Q K N T (mkF m pc Ls (x :: st)) := by
  subst hn
  exact go (fun _ h => XS.astoreN X.here hx rfl hd rfl hv hl h) F
theorem astore (X : Stand p l e R s m args below meth c T locs cells slots) (hx : p.tables.exec = Jvm.exec) {k : Nat} {x : Value} (hd : decode c.code pc = .ok (.astore k, 2)) (hv : x.isRef = true) (hl : storeLocals Ls k x = some l') (hn : pc + 2 = n) (F : Go p e below Fe Q K N T (mkF m n l' st)) : Go p e below Fe Q K N T (mkF m pc Ls (x :: st)) := by
  subst hn
  exact go (fun _ h => XS.astore X.here hx rfl hd rfl hv hl h) F
theorem lstoreN (X : Stand p l e R s m args below meth c T locs cells slots) (hx : p.tables.exec = Jvm.exec) {k : Fin 4} {x : Int64} (hd : decode c.code pc = .ok (.lstore_n k, 1)) (hl : storeLocals Ls k.val (.long x) = some l') (hn : pc + 1 = n) (F : Go p e below Fe Q K N T (mkF m n l' st)) : Go p e below Fe Q K N T (mkF m pc Ls (.long x :: st)) := by
  subst hn
  exact go (fun _ h => XT.lstoreN X.here hx rfl hd rfl hl h) F
theorem lstore (X : Stand p l e R s m args below meth c T locs cells slots) (hx : p.tables.exec = Jvm.exec) {k : Nat} {x : Int64} (hd : decode c.code pc = .ok (.lstore k, 2)) (hl : storeLocals Ls k (.long x) = some l') (hn : pc + 2 = n) (F : Go p e below Fe Q K N T (mkF m n l' st)) : Go p e below Fe Q K N T (mkF m pc Ls (.long x :: st)) := by
  subst hn
  exact go (fun _ h => XT.lstore X.here hx rfl hd rfl hl h) F
theorem iinc (X : Stand p l e R s m args below meth c T locs cells slots) (hx : p.tables.exec = Jvm.exec) {k : Nat} {cst : Int} {x : Int32} (v : Int32) (hd : decode c.code pc = .ok (.iinc k cst, 3)) (hv : Int32.ofInt cst = v) (hl : Ls[k]? = some (.val (.int x))) (hl' : storeLocals Ls k (.int (x + v)) = some l') (hn : pc + 3 = n) (F : Go p e below Fe Q K N T (mkF m n l' st)) : Go p e below Fe Q K N T (mkF m pc Ls st) := by
  subst hn
  exact go (fun _ h => XT.iincV X.here hx rfl v hd hv hl hl' h) F
theorem iconst (X : Stand p l e R s m args below meth c T locs cells slots) (hx : p.tables.exec = Jvm.exec) {i : Int} (v : Int32) (hd : decode c.code pc = .ok (.iconst i, 1)) (hv : Int32.ofInt i = v) (hn : pc + 1 = n) (F : Go p e below Fe Q K N T (mkF m n Ls (.int v :: st))) : Go p e below Fe Q K N T (mkF m pc Ls st) := by
  subst hn
  exact go (fun _ h => XT.iconstV X.here hx rfl v hd hv h) F
theorem bipush (X : Stand p l e R s m args below meth c T locs cells slots) (hx : p.tables.exec = Jvm.exec) {i : Int} (v : Int32) (hd : decode c.code pc = .ok (.bipush i, 2)) (hv : (Int8.ofInt i).toInt32 = v) (hn : pc + 2 = n) (F : Go p e below Fe Q K N T (mkF m n Ls (.int v :: st))) : Go p e below Fe Q K N T (mkF m pc Ls st) := by
  subst hn
  exact go (fun _ h => XT.bipushV X.here hx rfl v hd hv h) F
theorem sipush (X : Stand p l e R s m args below meth c T locs cells slots) (hx : p.tables.exec = Jvm.exec) {i : Int} (v : Int32) (hd : decode c.code pc = .ok (.sipush i, 3)) (hv : (Int16.ofInt i).toInt32 = v) (hn : pc + 3 = n) (F : Go p e below Fe Q K N T (mkF m n Ls (.int v :: st))) : Go p e below Fe Q K N T (mkF m pc Ls st) := by
  subst hn
  exact go (fun _ h => XT.sipushV X.here hx rfl v hd hv h) F
theorem lconst (X : Stand p l e R s m args below meth c T locs cells slots) (hx : p.tables.exec = Jvm.exec) {k : Fin 2} (v : Int64) (hd : decode c.code pc = .ok (.lconst k, 1)) (hv : Int64.ofNat k = v) (hn : pc + 1 = n) (F : Go p e below Fe Q K N T (mkF m n Ls (.long v :: st))) : Go p e below Fe Q K N T (mkF m pc Ls st) := by
  subst hn
  exact go (fun _ h => XT.lconstV X.here hx rfl v hd hv h) F
theorem anull (X : Stand p l e R s m args below meth c T locs cells slots) (hx : p.tables.exec = Jvm.exec)  (hd : decode c.code pc = .ok (.aconst_null, 1)) (hn : pc + 1 = n) (F : Go p e below Fe Q K N T (mkF m n Ls (.null :: st))) : Go p e below Fe Q K N T (mkF m pc Ls st) := by
  subst hn
  exact go (fun _ h => XS.aconstNull X.here hx rfl hd h) F
theorem ldcI (X : Stand p l e R s m args below meth c T locs cells slots) (hx : p.tables.exec = Jvm.exec) {own : String} {index : Nat} {v : Int32} (hZ : Z.Warmed39 s.vm) (hown : s.vm.findClass own = some m.cls) (wd : (Cond.constant own index v).before a0 Z = true) (hd : decode c.code pc = .ok (.ldc index, 2)) (hn : pc + 2 = n) (F : Go p e below Fe Q K N T (mkF m n Ls (.int v :: st))) : Go p e below Fe Q K N T (mkF m pc Ls st) := by
  subst hn
  exact go (fun _ h => X.ldcInt hx hown (mvT hZ wd) (g := mkF m pc Ls st) rfl hd _ h) F
theorem ldcW (X : Stand p l e R s m args below meth c T locs cells slots) (hx : p.tables.exec = Jvm.exec) {own : String} {index : Nat} {v : Int32} (hZ : Z.Warmed39 s.vm) (hown : s.vm.findClass own = some m.cls) (wd : (Cond.constant own index v).before a0 Z = true) (hd : decode c.code pc = .ok (.ldc_w index, 3)) (hn : pc + 3 = n) (F : Go p e below Fe Q K N T (mkF m n Ls (.int v :: st))) : Go p e below Fe Q K N T (mkF m pc Ls st) := by
  subst hn
  exact go (fun _ h => X.ldcwInt hx hown (mvT hZ wd) (g := mkF m pc Ls st) rfl hd _ h) F
theorem ldcJ (X : Stand p l e R s m args below meth c T locs cells slots) (hx : p.tables.exec = Jvm.exec) {own : String} {index : Nat} {v : Int64} (hZ : Z.Warmed39 s.vm) (hown : s.vm.findClass own = some m.cls) (wd : (Cond.constantLong own index v).before a0 Z = true) (hd : decode c.code pc = .ok (.ldc2_w index, 3)) (hn : pc + 3 = n) (F : Go p e below Fe Q K N T (mkF m n Ls (.long v :: st))) : Go p e below Fe Q K N T (mkF m pc Ls st) := by
  subst hn
  exact go (fun _ h => X.ldc2Long hx hown (mvT hZ wd) (g := mkF m pc Ls st) rfl hd _ h) F
theorem iadd (X : Stand p l e R s m args below meth c T locs cells slots) (hx : p.tables.exec = Jvm.exec) {x y : Int32} (hd : decode c.code pc = .ok (.iadd, 1)) (hn : pc + 1 = n) (F : Go p e below Fe Q K N T (mkF m n Ls (.int (x + y) :: st))) : Go p e below Fe Q K N T (mkF m pc Ls (.int y :: .int x :: st)) := by
  subst hn
  exact go (fun _ h => XS.iadd X.here hx rfl hd rfl h) F
theorem isub (X : Stand p l e R s m args below meth c T locs cells slots) (hx : p.tables.exec = Jvm.exec) {x y : Int32} (hd : decode c.code pc = .ok (.isub, 1)) (hn : pc + 1 = n) (F : Go p e below Fe Q K N T (mkF m n Ls (.int (x - y) :: st))) : Go p e below Fe Q K N T (mkF m pc Ls (.int y :: .int x :: st)) := by
  subst hn
  exact go (fun _ h => XS.isub X.here hx rfl hd rfl h) F
theorem iand (X : Stand p l e R s m args below meth c T locs cells slots) (hx : p.tables.exec = Jvm.exec) {x y : Int32} (hd : decode c.code pc = .ok (.iand, 1)) (hn : pc + 1 = n) (F : Go p e below Fe Q K N T (mkF m n Ls (.int (x &&& y) :: st))) : Go p e below Fe Q K N T (mkF m pc Ls (.int y :: .int x :: st)) := by
  subst hn
  exact go (fun _ h => XS.iand X.here hx rfl hd rfl h) F
theorem imul (X : Stand p l e R s m args below meth c T locs cells slots) (hx : p.tables.exec = Jvm.exec) {x y : Int32} (hd : decode c.code pc = .ok (.imul, 1)) (hn : pc + 1 = n) (F : Go p e below Fe Q K N T (mkF m n Ls (.int (x * y) :: st))) : Go p e below Fe Q K N T (mkF m pc Ls (.int y :: .int x :: st)) := by
  subst hn
  exact go (fun _ h => XS.imul X.here hx rfl hd rfl h) F
theorem ixor (X : Stand p l e R s m args below meth c T locs cells slots) (hx : p.tables.exec = Jvm.exec) {x y : Int32} (hd : decode c.code pc = .ok (.ixor, 1)) (hn : pc + 1 = n) (F : Go p e below Fe Q K N T (mkF m n Ls (.int (x ^^^ y) :: st))) : Go p e below Fe Q K N T (mkF m pc Ls (.int y :: .int x :: st)) := by
  subst hn
  exact go (fun _ h => XT.ixor X.here hx rfl hd rfl h) F
theorem ior (X : Stand p l e R s m args below meth c T locs cells slots) (hx : p.tables.exec = Jvm.exec) {x y : Int32} (hd : decode c.code pc = .ok (.ior, 1)) (hn : pc + 1 = n) (F : Go p e below Fe Q K N T (mkF m n Ls (.int (x ||| y) :: st))) : Go p e below Fe Q K N T (mkF m pc Ls (.int y :: .int x :: st)) := by
  subst hn
  exact go (fun _ h => XT.ior X.here hx rfl hd rfl h) F
theorem i2c (X : Stand p l e R s m args below meth c T locs cells slots) (hx : p.tables.exec = Jvm.exec) {x : Int32} (hd : decode c.code pc = .ok (.i2c, 1)) (hn : pc + 1 = n) (F : Go p e below Fe Q K N T (mkF m n Ls (.int x.toUInt32.toUInt16.toUInt32.toInt32 :: st))) : Go p e below Fe Q K N T (mkF m pc Ls (.int x :: st)) := by
  subst hn
  exact go (fun _ h => XT.i2c X.here hx rfl hd rfl h) F
theorem i2b (X : Stand p l e R s m args below meth c T locs cells slots) (hx : p.tables.exec = Jvm.exec) {x : Int32} (hd : decode c.code pc = .ok (.i2b, 1)) (hn : pc + 1 = n) (F : Go p e below Fe Q K N T (mkF m n Ls (.int x.toInt8.toInt32 :: st))) : Go p e below Fe Q K N T (mkF m pc Ls (.int x :: st)) := by
  subst hn
  exact go (fun _ h => XT.i2b X.here hx rfl hd rfl h) F
theorem i2l (X : Stand p l e R s m args below meth c T locs cells slots) (hx : p.tables.exec = Jvm.exec) {x : Int32} (hd : decode c.code pc = .ok (.i2l, 1)) (hn : pc + 1 = n) (F : Go p e below Fe Q K N T (mkF m n Ls (.long x.toInt64 :: st))) : Go p e below Fe Q K N T (mkF m pc Ls (.int x :: st)) := by
  subst hn
  exact go (fun _ h => XT.i2l X.here hx rfl hd rfl h) F
theorem l2i (X : Stand p l e R s m args below meth c T locs cells slots) (hx : p.tables.exec = Jvm.exec) {x : Int64} (hd : decode c.code pc = .ok (.l2i, 1)) (hn : pc + 1 = n) (F : Go p e below Fe Q K N T (mkF m n Ls (.int x.toInt32 :: st))) : Go p e below Fe Q K N T (mkF m pc Ls (.long x :: st)) := by
  subst hn
  exact go (fun _ h => XT.l2i X.here hx rfl hd rfl h) F
theorem ladd (X : Stand p l e R s m args below meth c T locs cells slots) (hx : p.tables.exec = Jvm.exec) {x y : Int64} (hd : decode c.code pc = .ok (.ladd, 1)) (hn : pc + 1 = n) (F : Go p e below Fe Q K N T (mkF m n Ls (.long (x + y) :: st))) : Go p e below Fe Q K N T (mkF m pc Ls (.long y :: .long x :: st)) := by
  subst hn
  exact go (fun _ h => XT.ladd X.here hx rfl hd rfl h) F
theorem lsub (X : Stand p l e R s m args below meth c T locs cells slots) (hx : p.tables.exec = Jvm.exec) {x y : Int64} (hd : decode c.code pc = .ok (.lsub, 1)) (hn : pc + 1 = n) (F : Go p e below Fe Q K N T (mkF m n Ls (.long (x - y) :: st))) : Go p e below Fe Q K N T (mkF m pc Ls (.long y :: .long x :: st)) := by
  subst hn
  exact go (fun _ h => XT.lsub X.here hx rfl hd rfl h) F
theorem lmul (X : Stand p l e R s m args below meth c T locs cells slots) (hx : p.tables.exec = Jvm.exec) {x y : Int64} (hd : decode c.code pc = .ok (.lmul, 1)) (hn : pc + 1 = n) (F : Go p e below Fe Q K N T (mkF m n Ls (.long (x * y) :: st))) : Go p e below Fe Q K N T (mkF m pc Ls (.long y :: .long x :: st)) := by
  subst hn
  exact go (fun _ h => XT.lmul X.here hx rfl hd rfl h) F
theorem land (X : Stand p l e R s m args below meth c T locs cells slots) (hx : p.tables.exec = Jvm.exec) {x y : Int64} (hd : decode c.code pc = .ok (.land, 1)) (hn : pc + 1 = n) (F : Go p e below Fe Q K N T (mkF m n Ls (.long (x &&& y) :: st))) : Go p e below Fe Q K N T (mkF m pc Ls (.long y :: .long x :: st)) := by
  subst hn
  exact go (fun _ h => XT.land X.here hx rfl hd rfl h) F
theorem lor (X : Stand p l e R s m args below meth c T locs cells slots) (hx : p.tables.exec = Jvm.exec) {x y : Int64} (hd : decode c.code pc = .ok (.lor, 1)) (hn : pc + 1 = n) (F : Go p e below Fe Q K N T (mkF m n Ls (.long (x ||| y) :: st))) : Go p e below Fe Q K N T (mkF m pc Ls (.long y :: .long x :: st)) := by
  subst hn
  exact go (fun _ h => XT.lor X.here hx rfl hd rfl h) F
theorem lxor (X : Stand p l e R s m args below meth c T locs cells slots) (hx : p.tables.exec = Jvm.exec) {x y : Int64} (hd : decode c.code pc = .ok (.lxor, 1)) (hn : pc + 1 = n) (F : Go p e below Fe Q K N T (mkF m n Ls (.long (x ^^^ y) :: st))) : Go p e below Fe Q K N T (mkF m pc Ls (.long y :: .long x :: st)) := by
  subst hn
  exact go (fun _ h => XT.lxor X.here hx rfl hd rfl h) F
theorem irem (X : Stand p l e R s m args below meth c T locs cells slots) (hx : p.tables.exec = Jvm.exec) {x y : Int32} (hd : decode c.code pc = .ok (.irem, 1)) (hy : y ≠ 0) (hn : pc + 1 = n) (F : Go p e below Fe Q K N T (mkF m n Ls (.int (x % y) :: st))) : Go p e below Fe Q K N T (mkF m pc Ls (.int y :: .int x :: st)) := by
  subst hn
  exact go (fun _ h => iremM X hx rfl hd rfl hy h) F
theorem idiv (X : Stand p l e R s m args below meth c T locs cells slots) (hx : p.tables.exec = Jvm.exec) {x y : Int32} (hd : decode c.code pc = .ok (.idiv, 1)) (hy : y ≠ 0) (hn : pc + 1 = n) (F : Go p e below Fe Q K N T (mkF m n Ls (.int (x / y) :: st))) : Go p e below Fe Q K N T (mkF m pc Ls (.int y :: .int x :: st)) := by
  subst hn
  exact go (fun _ h => XS.idiv X.here hx rfl hd rfl hy h) F
theorem dup (X : Stand p l e R s m args below meth c T locs cells slots) (hx : p.tables.exec = Jvm.exec) {x : Value} (hd : decode c.code pc = .ok (.dup, 1)) (hc : x.category = 1) (hn : pc + 1 = n) (F : Go p e below Fe Q K N T (mkF m n Ls (x :: x :: st))) : Go p e below Fe Q K N T (mkF m pc Ls (x :: st)) := by
  subst hn
  exact go (fun _ h => XS.dup X.here hx rfl hd rfl hc h) F
theorem pop (X : Stand p l e R s m args below meth c T locs cells slots) (hx : p.tables.exec = Jvm.exec) {x : Value} (hd : decode c.code pc = .ok (.pop, 1)) (hc : x.category = 1) (hn : pc + 1 = n) (F : Go p e below Fe Q K N T (mkF m n Ls st)) : Go p e below Fe Q K N T (mkF m pc Ls (x :: st)) := by
  subst hn
  exact go (fun _ h => XT.pop X.here hx rfl hd rfl hc h) F
theorem pop2L (X : Stand p l e R s m args below meth c T locs cells slots) (hx : p.tables.exec = Jvm.exec) {x : Int64} (hd : decode c.code pc = .ok (.pop2, 1)) (hn : pc + 1 = n) (F : Go p e below Fe Q K N T (mkF m n Ls st)) : Go p e below Fe Q K N T (mkF m pc Ls (.long x :: st)) := by
  subst hn
  refine go (fun _ h => ?_) F
  have ht := X.here
  jvm_step ht [ht.top, hx, hd, Value.category]
  exact h
theorem lshl (X : Stand p l e R s m args below meth c T locs cells slots) (hx : p.tables.exec = Jvm.exec) {x : Int64} {y : Int32} (hd : decode c.code pc = .ok (.lshl, 1)) (hn : pc + 1 = n) (F : Go p e below Fe Q K N T (mkF m n Ls (.long (x <<< (y.toInt64 &&& 63)) :: st))) : Go p e below Fe Q K N T (mkF m pc Ls (.int y :: .long x :: st)) := by
  subst hn
  exact go (fun _ h => XT.lshl X.here hx rfl hd rfl h) F
theorem lushr (X : Stand p l e R s m args below meth c T locs cells slots) (hx : p.tables.exec = Jvm.exec) {x : Int64} {y : Int32} (hd : decode c.code pc = .ok (.lushr, 1)) (hn : pc + 1 = n) (F : Go p e below Fe Q K N T (mkF m n Ls (.long (XT.ushrL x y) :: st))) : Go p e below Fe Q K N T (mkF m pc Ls (.int y :: .long x :: st)) := by
  subst hn
  exact go (fun _ h => XT.lushr X.here hx rfl hd rfl h) F
theorem iushr (X : Stand p l e R s m args below meth c T locs cells slots) (hx : p.tables.exec = Jvm.exec) {x y : Int32} (hd : decode c.code pc = .ok (.iushr, 1)) (hn : pc + 1 = n) (F : Go p e below Fe Q K N T (mkF m n Ls (.int (XT.ushr x y) :: st))) : Go p e below Fe Q K N T (mkF m pc Ls (.int y :: .int x :: st)) := by
  subst hn
  exact go (fun _ h => XT.iushr X.here hx rfl hd rfl h) F
theorem ishr (X : Stand p l e R s m args below meth c T locs cells slots) (hx : p.tables.exec = Jvm.exec) {x y : Int32} (hd : decode c.code pc = .ok (.ishr, 1)) (hn : pc + 1 = n) (F : Go p e below Fe Q K N T (mkF m n Ls (.int (x >>> (y &&& 31)) :: st))) : Go p e below Fe Q K N T (mkF m pc Ls (.int y :: .int x :: st)) := by
  subst hn
  exact go (fun _ h => XT.ishr X.here hx rfl hd rfl h) F
theorem ishl (X : Stand p l e R s m args below meth c T locs cells slots) (hx : p.tables.exec = Jvm.exec) {x y : Int32} (hd : decode c.code pc = .ok (.ishl, 1)) (hn : pc + 1 = n) (F : Go p e below Fe Q K N T (mkF m n Ls (.int (x <<< (y &&& 31)) :: st))) : Go p e below Fe Q K N T (mkF m pc Ls (.int y :: .int x :: st)) := by
  subst hn
  exact go (fun _ h => XT.ishl X.here hx rfl hd rfl h) F
theorem i2s (X : Stand p l e R s m args below meth c T locs cells slots) (hx : p.tables.exec = Jvm.exec) {x : Int32} (hd : decode c.code pc = .ok (.i2s, 1)) (hn : pc + 1 = n) (F : Go p e below Fe Q K N T (mkF m n Ls (.int x.toInt16.toInt32 :: st))) : Go p e below Fe Q K N T (mkF m pc Ls (.int x :: st)) := by
  subst hn
  exact go (fun _ h => XT.i2s X.here hx rfl hd rfl h) F
theorem goto (X : Stand p l e R s m args below meth c T locs cells slots) (hx : p.tables.exec = Jvm.exec) {o : Int} (t : Nat) (hd : decode c.code pc = .ok (.goto o, 3)) (ht : (pc : Int) + o = t) (F : Go p e below Fe Q K N T (mkF m t Ls st)) : Go p e below Fe Q K N T (mkF m pc Ls st) := go (fun _ h => XS.goto X.here hx rfl (pc0 := pc) (pc' := t) rfl hd (by rw [ht]; exact Int.natCast_nonneg _) (by rw [ht]; rfl) h) F
theorem holds_t {cd : ClassFile.Cond} {x y : Int32} : if_icmp.holds cd x y = true ↔ match cd with | .eq => x.toInt = y.toInt | .ne => ¬ x.toInt = y.toInt | .lt => x.toInt < y.toInt | .ge => y.toInt ≤ x.toInt | .gt => y.toInt < x.toInt | .le => x.toInt ≤ y.toInt := by
  cases cd <;> simp [if_icmp.holds, Int32.lt_iff_toInt_lt, Int32.le_iff_toInt_le, Int32.toInt_inj]
theorem icmp (X : Stand p l e R s m args below meth c T locs cells slots) (hx : p.tables.exec = Jvm.exec) {cd : ClassFile.Cond} {x y : Int32} {o : Int} (hd : decode c.code pc = .ok (.if_icmp cd o, 3)) (ht : (pc : Int) + o = t) (hn : pc + 3 = n) (FT : if_icmp.holds cd x y = true → Go p e below Fe Q K N T (mkF m t Ls rest)) (FF : ¬ if_icmp.holds cd x y = true → Go p e below Fe Q K N T (mkF m n Ls rest)) : Go p e below Fe Q K N T (mkF m pc Ls (.int y :: .int x :: rest)) := by
  subst hn
  by_cases q : if_icmp.holds cd x y = true
  · exact go (fun _ h => XS.icmpYes X.here hx rfl (pc0 := pc) (pc' := t) rfl hd rfl q (by rw [ht]; exact Int.natCast_nonneg _) (by rw [ht]; rfl) h) (FT q)
  · exact go (fun _ h => XS.icmpNo X.here hx rfl hd rfl (by simpa using q) h) (FF q)
theorem ifc (X : Stand p l e R s m args below meth c T locs cells slots) (hx : p.tables.exec = Jvm.exec) {cd : ClassFile.Cond} {x : Int32} {o : Int} (hd : decode c.code pc = .ok (.ifCond cd o, 3)) (ht : (pc : Int) + o = t) (hn : pc + 3 = n) (FT : if_icmp.holds cd x 0 = true → Go p e below Fe Q K N T (mkF m t Ls rest)) (FF : ¬ if_icmp.holds cd x 0 = true → Go p e below Fe Q K N T (mkF m n Ls rest)) : Go p e below Fe Q K N T (mkF m pc Ls (.int x :: rest)) := by
  subst hn
  by_cases q : if_icmp.holds cd x 0 = true
  · exact go (fun _ h => XS.ifYes X.here hx rfl (pc0 := pc) (pc' := t) rfl hd rfl ((if0 _ _).trans q) (by rw [ht]; exact Int.natCast_nonneg _) (by rw [ht]; rfl) h) (FT q)
  · exact go (fun _ h => XS.ifNo X.here hx rfl hd rfl ((if0 _ _).trans (by simpa using q)) h) (FF q)
theorem icmp_eq (X : Stand p l e R s m args below meth c T locs cells slots) (hx : p.tables.exec = Jvm.exec) {x y : Int32} {o : Int} (t n : Nat) (hd : decode c.code pc = .ok (.if_icmp .eq o, 3)) (ht : (pc : Int) + o = t) (hn : pc + 3 = n) {a b' : Int} (ha : x.toInt = a) (hb : y.toInt = b') (FT : a = b' → Go p e below Fe Q K N T (mkF m t Ls rest)) (FF : ¬ a = b' → Go p e below Fe Q K N T (mkF m n Ls rest)) : Go p e below Fe Q K N T (mkF m pc Ls (.int y :: .int x :: rest)) := by
  subst ha hb
  exact icmp X hx hd ht hn (fun q => FT (holds_t.mp q)) (fun q => FF (by have := mt holds_t.mpr q; first | exact this | exact Int.not_lt.mp this | exact Int.not_le.mp this | exact Classical.not_not.mp this))
theorem if_eq (X : Stand p l e R s m args below meth c T locs cells slots) (hx : p.tables.exec = Jvm.exec) {x : Int32} {o : Int} (t n : Nat) (hd : decode c.code pc = .ok (.ifCond .eq o, 3)) (ht : (pc : Int) + o = t) (hn : pc + 3 = n) {a : Int} (ha : x.toInt = a) (FT : a = 0 → Go p e below Fe Q K N T (mkF m t Ls rest)) (FF : ¬ a = 0 → Go p e below Fe Q K N T (mkF m n Ls rest)) : Go p e below Fe Q K N T (mkF m pc Ls (.int x :: rest)) := by
  subst ha
  exact ifc X hx hd ht hn (fun q => FT (holds_t.mp q)) (fun q => FF (by have := mt holds_t.mpr q; first | exact this | exact Int.not_lt.mp this | exact Int.not_le.mp this | exact Classical.not_not.mp this))
theorem icmp_ne (X : Stand p l e R s m args below meth c T locs cells slots) (hx : p.tables.exec = Jvm.exec) {x y : Int32} {o : Int} (t n : Nat) (hd : decode c.code pc = .ok (.if_icmp .ne o, 3)) (ht : (pc : Int) + o = t) (hn : pc + 3 = n) {a b' : Int} (ha : x.toInt = a) (hb : y.toInt = b') (FT : ¬ a = b' → Go p e below Fe Q K N T (mkF m t Ls rest)) (FF : a = b' → Go p e below Fe Q K N T (mkF m n Ls rest)) : Go p e below Fe Q K N T (mkF m pc Ls (.int y :: .int x :: rest)) := by
  subst ha hb
  exact icmp X hx hd ht hn (fun q => FT (holds_t.mp q)) (fun q => FF (by have := mt holds_t.mpr q; first | exact this | exact Int.not_lt.mp this | exact Int.not_le.mp this | exact Classical.not_not.mp this))
theorem if_ne (X : Stand p l e R s m args below meth c T locs cells slots) (hx : p.tables.exec = Jvm.exec) {x : Int32} {o : Int} (t n : Nat) (hd : decode c.code pc = .ok (.ifCond .ne o, 3)) (ht : (pc : Int) + o = t) (hn : pc + 3 = n) {a : Int} (ha : x.toInt = a) (FT : ¬ a = 0 → Go p e below Fe Q K N T (mkF m t Ls rest)) (FF : a = 0 → Go p e below Fe Q K N T (mkF m n Ls rest)) : Go p e below Fe Q K N T (mkF m pc Ls (.int x :: rest)) := by
  subst ha
  exact ifc X hx hd ht hn (fun q => FT (holds_t.mp q)) (fun q => FF (by have := mt holds_t.mpr q; first | exact this | exact Int.not_lt.mp this | exact Int.not_le.mp this | exact Classical.not_not.mp this))
theorem icmp_lt (X : Stand p l e R s m args below meth c T locs cells slots) (hx : p.tables.exec = Jvm.exec) {x y : Int32} {o : Int} (t n : Nat) (hd : decode c.code pc = .ok (.if_icmp .lt o, 3)) (ht : (pc : Int) + o = t) (hn : pc + 3 = n) {a b' : Int} (ha : x.toInt = a) (hb : y.toInt = b') (FT : a < b' → Go p e below Fe Q K N T (mkF m t Ls rest)) (FF : b' ≤ a → Go p e below Fe Q K N T (mkF m n Ls rest)) : Go p e below Fe Q K N T (mkF m pc Ls (.int y :: .int x :: rest)) := by
  subst ha hb
  exact icmp X hx hd ht hn (fun q => FT (holds_t.mp q)) (fun q => FF (by have := mt holds_t.mpr q; first | exact this | exact Int.not_lt.mp this | exact Int.not_le.mp this | exact Classical.not_not.mp this))
theorem if_lt (X : Stand p l e R s m args below meth c T locs cells slots) (hx : p.tables.exec = Jvm.exec) {x : Int32} {o : Int} (t n : Nat) (hd : decode c.code pc = .ok (.ifCond .lt o, 3)) (ht : (pc : Int) + o = t) (hn : pc + 3 = n) {a : Int} (ha : x.toInt = a) (FT : a < 0 → Go p e below Fe Q K N T (mkF m t Ls rest)) (FF : 0 ≤ a → Go p e below Fe Q K N T (mkF m n Ls rest)) : Go p e below Fe Q K N T (mkF m pc Ls (.int x :: rest)) := by
  subst ha
  exact ifc X hx hd ht hn (fun q => FT (holds_t.mp q)) (fun q => FF (by have := mt holds_t.mpr q; first | exact this | exact Int.not_lt.mp this | exact Int.not_le.mp this | exact Classical.not_not.mp this))
theorem icmp_ge (X : Stand p l e R s m args below meth c T locs cells slots) (hx : p.tables.exec = Jvm.exec) {x y : Int32} {o : Int} (t n : Nat) (hd : decode c.code pc = .ok (.if_icmp .ge o, 3)) (ht : (pc : Int) + o = t) (hn : pc + 3 = n) {a b' : Int} (ha : x.toInt = a) (hb : y.toInt = b') (FT : b' ≤ a → Go p e below Fe Q K N T (mkF m t Ls rest)) (FF : a < b' → Go p e below Fe Q K N T (mkF m n Ls rest)) : Go p e below Fe Q K N T (mkF m pc Ls (.int y :: .int x :: rest)) := by
  subst ha hb
  exact icmp X hx hd ht hn (fun q => FT (holds_t.mp q)) (fun q => FF (by have := mt holds_t.mpr q; first | exact this | exact Int.not_lt.mp this | exact Int.not_le.mp this | exact Classical.not_not.mp this))
theorem if_ge (X : Stand p l e R s m args below meth c T locs cells slots) (hx : p.tables.exec = Jvm.exec) {x : Int32} {o : Int} (t n : Nat) (hd : decode c.code pc = .ok (.ifCond .ge o, 3)) (ht : (pc : Int) + o = t) (hn : pc + 3 = n) {a : Int} (ha : x.toInt = a) (FT : 0 ≤ a → Go p e below Fe Q K N T (mkF m t Ls rest)) (FF : a < 0 → Go p e below Fe Q K N T (mkF m n Ls rest)) : Go p e below Fe Q K N T (mkF m pc Ls (.int x :: rest)) := by
  subst ha
  exact ifc X hx hd ht hn (fun q => FT (holds_t.mp q)) (fun q => FF (by have := mt holds_t.mpr q; first | exact this | exact Int.not_lt.mp this | exact Int.not_le.mp this | exact Classical.not_not.mp this))
theorem icmp_gt (X : Stand p l e R s m args below meth c T locs cells slots) (hx : p.tables.exec = Jvm.exec) {x y : Int32} {o : Int} (t n : Nat) (hd : decode c.code pc = .ok (.if_icmp .gt o, 3)) (ht : (pc : Int) + o = t) (hn : pc + 3 = n) {a b' : Int} (ha : x.toInt = a) (hb : y.toInt = b') (FT : b' < a → Go p e below Fe Q K N T (mkF m t Ls rest)) (FF : a ≤ b' → Go p e below Fe Q K N T (mkF m n Ls rest)) : Go p e below Fe Q K N T (mkF m pc Ls (.int y :: .int x :: rest)) := by
  subst ha hb
  exact icmp X hx hd ht hn (fun q => FT (holds_t.mp q)) (fun q => FF (by have := mt holds_t.mpr q; first | exact this | exact Int.not_lt.mp this | exact Int.not_le.mp this | exact Classical.not_not.mp this))
theorem if_gt (X : Stand p l e R s m args below meth c T locs cells slots) (hx : p.tables.exec = Jvm.exec) {x : Int32} {o : Int} (t n : Nat) (hd : decode c.code pc = .ok (.ifCond .gt o, 3)) (ht : (pc : Int) + o = t) (hn : pc + 3 = n) {a : Int} (ha : x.toInt = a) (FT : 0 < a → Go p e below Fe Q K N T (mkF m t Ls rest)) (FF : a ≤ 0 → Go p e below Fe Q K N T (mkF m n Ls rest)) : Go p e below Fe Q K N T (mkF m pc Ls (.int x :: rest)) := by
  subst ha
  exact ifc X hx hd ht hn (fun q => FT (holds_t.mp q)) (fun q => FF (by have := mt holds_t.mpr q; first | exact this | exact Int.not_lt.mp this | exact Int.not_le.mp this | exact Classical.not_not.mp this))
theorem icmp_le (X : Stand p l e R s m args below meth c T locs cells slots) (hx : p.tables.exec = Jvm.exec) {x y : Int32} {o : Int} (t n : Nat) (hd : decode c.code pc = .ok (.if_icmp .le o, 3)) (ht : (pc : Int) + o = t) (hn : pc + 3 = n) {a b' : Int} (ha : x.toInt = a) (hb : y.toInt = b') (FT : a ≤ b' → Go p e below Fe Q K N T (mkF m t Ls rest)) (FF : b' < a → Go p e below Fe Q K N T (mkF m n Ls rest)) : Go p e below Fe Q K N T (mkF m pc Ls (.int y :: .int x :: rest)) := by
  subst ha hb
  exact icmp X hx hd ht hn (fun q => FT (holds_t.mp q)) (fun q => FF (by have := mt holds_t.mpr q; first | exact this | exact Int.not_lt.mp this | exact Int.not_le.mp this | exact Classical.not_not.mp this))
theorem if_le (X : Stand p l e R s m args below meth c T locs cells slots) (hx : p.tables.exec = Jvm.exec) {x : Int32} {o : Int} (t n : Nat) (hd : decode c.code pc = .ok (.ifCond .le o, 3)) (ht : (pc : Int) + o = t) (hn : pc + 3 = n) {a : Int} (ha : x.toInt = a) (FT : a ≤ 0 → Go p e below Fe Q K N T (mkF m t Ls rest)) (FF : 0 < a → Go p e below Fe Q K N T (mkF m n Ls rest)) : Go p e below Fe Q K N T (mkF m pc Ls (.int x :: rest)) := by
  subst ha
  exact ifc X hx hd ht hn (fun q => FT (holds_t.mp q)) (fun q => FF (by have := mt holds_t.mpr q; first | exact this | exact Int.not_lt.mp this | exact Int.not_le.mp this | exact Classical.not_not.mp this))
theorem if_neB (X : Stand p l e R s m args below meth c T locs cells slots) (hx : p.tables.exec = Jvm.exec) {P : Prop} [Decidable P] {o : Int} (t n : Nat) (hd : decode c.code pc = .ok (.ifCond .ne o, 3)) (ht : (pc : Int) + o = t) (hn : pc + 3 = n) (FT : P → Go p e below Fe Q K N T (mkF m t Ls rest)) (FF : ¬ P → Go p e below Fe Q K N T (mkF m n Ls rest)) : Go p e below Fe Q K N T (mkF m pc Ls (.int (b P) :: rest)) := by
  refine ifc X hx hd ht hn (fun q => FT ?_) (fun q => FF ?_)
  · by_cases z : P
    · exact z
    · rw [b_f z] at q; exact absurd q (by decide)
  · intro z; rw [b_t z] at q; exact q (by decide)
theorem if_eqB (X : Stand p l e R s m args below meth c T locs cells slots) (hx : p.tables.exec = Jvm.exec) {P : Prop} [Decidable P] {o : Int} (t n : Nat) (hd : decode c.code pc = .ok (.ifCond .eq o, 3)) (ht : (pc : Int) + o = t) (hn : pc + 3 = n) (FT : ¬ P → Go p e below Fe Q K N T (mkF m t Ls rest)) (FF : P → Go p e below Fe Q K N T (mkF m n Ls rest)) : Go p e below Fe Q K N T (mkF m pc Ls (.int (b P) :: rest)) := by
  refine ifc X hx hd ht hn (fun q => FT ?_) (fun q => FF ?_)
  · intro z; rw [b_t z] at q; exact absurd q (by decide)
  · by_cases z : P
    · exact z
    · rw [b_f z] at q; exact absurd (by decide) q
theorem icmp_neB (X : Stand p l e R s m args below meth c T locs cells slots) (hx : p.tables.exec = Jvm.exec) {P P' : Prop} [Decidable P] [Decidable P'] {o : Int} (t n : Nat) (hd : decode c.code pc = .ok (.if_icmp .ne o, 3)) (ht : (pc : Int) + o = t) (hn : pc + 3 = n) (FT : ¬ (P ↔ P') → Go p e below Fe Q K N T (mkF m t Ls rest)) (FF : (P ↔ P') → Go p e below Fe Q K N T (mkF m n Ls rest)) : Go p e below Fe Q K N T (mkF m pc Ls (.int (b P') :: .int (b P) :: rest)) :=
  icmp_ne X hx t n hd ht hn rfl rfl (fun q => FT fun z => q (by rw [b_iff z])) (fun q => FF (b_inj (Int32.toInt_inj.mp q)))
theorem lcmp (X : Stand p l e R s m args below meth c T locs cells slots) (hx : p.tables.exec = Jvm.exec) {x y : Int64} (hd : decode c.code pc = .ok (.lcmp, 1)) (hn : pc + 1 = n) (F : Go p e below Fe Q K N T (mkF m n Ls (.int (lcmpW x y) :: st))) : Go p e below Fe Q K N T (mkF m pc Ls (.long y :: .long x :: st)) := by
  subst hn
  exact go (fun _ h => XT.lcmp X.here hx rfl hd rfl h) F
theorem lc_t {cd : ClassFile.Cond} {x y : Int64} : if_icmp.holds cd (lcmpW x y) 0 = true ↔ match cd with | .eq => x.toInt = y.toInt | .ne => ¬ x.toInt = y.toInt | .lt => x.toInt < y.toInt | .ge => y.toInt ≤ x.toInt | .gt => y.toInt < x.toInt | .le => x.toInt ≤ y.toInt := by
  have hgt : (x > y) ↔ y.toInt < x.toInt := Int64.lt_iff_toInt_lt
  have heq : (x = y) ↔ x.toInt = y.toInt := Int64.toInt_inj.symm
  by_cases q : x > y
  · have := hgt.mp q
    cases cd <;> simp [if_icmp.holds, lcmpW, q] <;> omega
  · have q1 := mt hgt.mpr q
    by_cases r : x = y
    · have := heq.mp r
      cases cd <;> simp [if_icmp.holds, lcmpW, r] 
    · have r1 := mt heq.mpr r
      cases cd <;> simp [if_icmp.holds, lcmpW, q, r] <;> omega
theorem lif_eq (X : Stand p l e R s m args below meth c T locs cells slots) (hx : p.tables.exec = Jvm.exec) {x y : Int64} {o : Int} (t n : Nat) (hd : decode c.code pc = .ok (.ifCond .eq o, 3)) (ht : (pc : Int) + o = t) (hn : pc + 3 = n) {a b' : Int} (ha : x.toInt = a) (hb : y.toInt = b') (FT : a = b' → Go p e below Fe Q K N T (mkF m t Ls rest)) (FF : ¬ a = b' → Go p e below Fe Q K N T (mkF m n Ls rest)) : Go p e below Fe Q K N T (mkF m pc Ls (.int (lcmpW x y) :: rest)) := by
  subst ha hb
  exact ifc X hx hd ht hn (fun q => FT (lc_t.mp q)) (fun q => FF (by have := mt lc_t.mpr q; first | exact this | exact Int.not_lt.mp this | exact Int.not_le.mp this | exact Classical.not_not.mp this))
theorem lif_ne (X : Stand p l e R s m args below meth c T locs cells slots) (hx : p.tables.exec = Jvm.exec) {x y : Int64} {o : Int} (t n : Nat) (hd : decode c.code pc = .ok (.ifCond .ne o, 3)) (ht : (pc : Int) + o = t) (hn : pc + 3 = n) {a b' : Int} (ha : x.toInt = a) (hb : y.toInt = b') (FT : ¬ a = b' → Go p e below Fe Q K N T (mkF m t Ls rest)) (FF : a = b' → Go p e below Fe Q K N T (mkF m n Ls rest)) : Go p e below Fe Q K N T (mkF m pc Ls (.int (lcmpW x y) :: rest)) := by
  subst ha hb
  exact ifc X hx hd ht hn (fun q => FT (lc_t.mp q)) (fun q => FF (by have := mt lc_t.mpr q; first | exact this | exact Int.not_lt.mp this | exact Int.not_le.mp this | exact Classical.not_not.mp this))
theorem lif_lt (X : Stand p l e R s m args below meth c T locs cells slots) (hx : p.tables.exec = Jvm.exec) {x y : Int64} {o : Int} (t n : Nat) (hd : decode c.code pc = .ok (.ifCond .lt o, 3)) (ht : (pc : Int) + o = t) (hn : pc + 3 = n) {a b' : Int} (ha : x.toInt = a) (hb : y.toInt = b') (FT : a < b' → Go p e below Fe Q K N T (mkF m t Ls rest)) (FF : b' ≤ a → Go p e below Fe Q K N T (mkF m n Ls rest)) : Go p e below Fe Q K N T (mkF m pc Ls (.int (lcmpW x y) :: rest)) := by
  subst ha hb
  exact ifc X hx hd ht hn (fun q => FT (lc_t.mp q)) (fun q => FF (by have := mt lc_t.mpr q; first | exact this | exact Int.not_lt.mp this | exact Int.not_le.mp this | exact Classical.not_not.mp this))
theorem lif_ge (X : Stand p l e R s m args below meth c T locs cells slots) (hx : p.tables.exec = Jvm.exec) {x y : Int64} {o : Int} (t n : Nat) (hd : decode c.code pc = .ok (.ifCond .ge o, 3)) (ht : (pc : Int) + o = t) (hn : pc + 3 = n) {a b' : Int} (ha : x.toInt = a) (hb : y.toInt = b') (FT : b' ≤ a → Go p e below Fe Q K N T (mkF m t Ls rest)) (FF : a < b' → Go p e below Fe Q K N T (mkF m n Ls rest)) : Go p e below Fe Q K N T (mkF m pc Ls (.int (lcmpW x y) :: rest)) := by
  subst ha hb
  exact ifc X hx hd ht hn (fun q => FT (lc_t.mp q)) (fun q => FF (by have := mt lc_t.mpr q; first | exact this | exact Int.not_lt.mp this | exact Int.not_le.mp this | exact Classical.not_not.mp this))
theorem lif_gt (X : Stand p l e R s m args below meth c T locs cells slots) (hx : p.tables.exec = Jvm.exec) {x y : Int64} {o : Int} (t n : Nat) (hd : decode c.code pc = .ok (.ifCond .gt o, 3)) (ht : (pc : Int) + o = t) (hn : pc + 3 = n) {a b' : Int} (ha : x.toInt = a) (hb : y.toInt = b') (FT : b' < a → Go p e below Fe Q K N T (mkF m t Ls rest)) (FF : a ≤ b' → Go p e below Fe Q K N T (mkF m n Ls rest)) : Go p e below Fe Q K N T (mkF m pc Ls (.int (lcmpW x y) :: rest)) := by
  subst ha hb
  exact ifc X hx hd ht hn (fun q => FT (lc_t.mp q)) (fun q => FF (by have := mt lc_t.mpr q; first | exact this | exact Int.not_lt.mp this | exact Int.not_le.mp this | exact Classical.not_not.mp this))
theorem lif_le (X : Stand p l e R s m args below meth c T locs cells slots) (hx : p.tables.exec = Jvm.exec) {x y : Int64} {o : Int} (t n : Nat) (hd : decode c.code pc = .ok (.ifCond .le o, 3)) (ht : (pc : Int) + o = t) (hn : pc + 3 = n) {a b' : Int} (ha : x.toInt = a) (hb : y.toInt = b') (FT : a ≤ b' → Go p e below Fe Q K N T (mkF m t Ls rest)) (FF : b' < a → Go p e below Fe Q K N T (mkF m n Ls rest)) : Go p e below Fe Q K N T (mkF m pc Ls (.int (lcmpW x y) :: rest)) := by
  subst ha hb
  exact ifc X hx hd ht hn (fun q => FT (lc_t.mp q)) (fun q => FF (by have := mt lc_t.mpr q; first | exact this | exact Int.not_lt.mp this | exact Int.not_le.mp this | exact Classical.not_not.mp this))
theorem acmp_ne (X : Stand p l e R s m args below meth c T locs cells slots) (hx : p.tables.exec = Jvm.exec) {x y : Value} {o : Int} (t n : Nat) (hd : decode c.code pc = .ok (.if_acmp .ne o, 3)) (ht : (pc : Int) + o = t) (hn : pc + 3 = n) (h1 : x.isRef = true) (h2 : y.isRef = true) (FT : ¬ x = y → Go p e below Fe Q K N T (mkF m t Ls rest)) (FF : x = y → Go p e below Fe Q K N T (mkF m n Ls rest)) : Go p e below Fe Q K N T (mkF m pc Ls (y :: x :: rest)) := by
  subst hn
  by_cases q : x = y
  · exact go (fun _ h => XT.acmpNo X.here hx rfl hd rfl h1 h2 (XT.aa_ne_f q) h) (FF q)
  · exact go (fun _ h => XT.acmpYes X.here hx rfl (pc0 := pc) (pc' := t) rfl hd rfl h1 h2 (XT.aa_ne_t q) (by rw [ht]; exact Int.natCast_nonneg _) (by rw [ht]; rfl) h) (FT q)
theorem acmp_eq (X : Stand p l e R s m args below meth c T locs cells slots) (hx : p.tables.exec = Jvm.exec) {x y : Value} {o : Int} (t n : Nat) (hd : decode c.code pc = .ok (.if_acmp .eq o, 3)) (ht : (pc : Int) + o = t) (hn : pc + 3 = n) (h1 : x.isRef = true) (h2 : y.isRef = true) (FT : x = y → Go p e below Fe Q K N T (mkF m t Ls rest)) (FF : ¬ x = y → Go p e below Fe Q K N T (mkF m n Ls rest)) : Go p e below Fe Q K N T (mkF m pc Ls (y :: x :: rest)) := by
  subst hn
  by_cases q : x = y
  · exact go (fun _ h => XT.acmpYes X.here hx rfl (pc0 := pc) (pc' := t) rfl hd rfl h1 h2 (XT.aa_eq_t q) (by rw [ht]; exact Int.natCast_nonneg _) (by rw [ht]; rfl) h) (FT q)
  · exact go (fun _ h => XT.acmpNo X.here hx rfl hd rfl h1 h2 (XT.aa_eq_f q) h) (FF q)
theorem nonnullR (X : Stand p l e R s m args below meth c T locs cells slots) (hx : p.tables.exec = Jvm.exec) {a : Addr} {o : Int} (t : Nat) (hd : decode c.code pc = .ok (.ifnonnull o, 3)) (ht : (pc : Int) + o = t) (F : Go p e below Fe Q K N T (mkF m t Ls rest)) : Go p e below Fe Q K N T (mkF m pc Ls (.ref a :: rest)) :=
  go (fun _ h => XT.ifnonnullYes X.here hx rfl (pc0 := pc) (pc' := t) rfl hd rfl (by rw [ht]; exact Int.natCast_nonneg _) (by rw [ht]; rfl) h) F
theorem nonnullN (X : Stand p l e R s m args below meth c T locs cells slots) (hx : p.tables.exec = Jvm.exec) {o : Int} (hd : decode c.code pc = .ok (.ifnonnull o, 3)) (hn : pc + 3 = n) (F : Go p e below Fe Q K N T (mkF m n Ls rest)) : Go p e below Fe Q K N T (mkF m pc Ls (.null :: rest)) := by
  subst hn
  exact go (fun _ h => XT.ifnonnullNo X.here hx rfl hd rfl h) F
theorem nullR (X : Stand p l e R s m args below meth c T locs cells slots) (hx : p.tables.exec = Jvm.exec) {a : Addr} {o : Int} (hd : decode c.code pc = .ok (.ifnull o, 3)) (hn : pc + 3 = n) (F : Go p e below Fe Q K N T (mkF m n Ls rest)) : Go p e below Fe Q K N T (mkF m pc Ls (.ref a :: rest)) := by
  subst hn
  exact go (fun _ h => XT.nullNo X.here hx rfl hd rfl rfl (by simp) h) F
theorem nullN (X : Stand p l e R s m args below meth c T locs cells slots) (hx : p.tables.exec = Jvm.exec) {o : Int} (t : Nat) (hd : decode c.code pc = .ok (.ifnull o, 3)) (ht : (pc : Int) + o = t) (F : Go p e below Fe Q K N T (mkF m t Ls rest)) : Go p e below Fe Q K N T (mkF m pc Ls (.null :: rest)) :=
  go (fun _ h => XT.nullYes X.here hx rfl (pc0 := pc) (pc' := t) rfl hd rfl rfl (by rw [ht]; exact Int.natCast_nonneg _) (by rw [ht]; rfl) h) F
theorem getS (X : Stand p l e R s m args below meth c T locs cells slots) (hx : p.tables.exec = Jvm.exec) (hZ : Z.Warmed39 s.vm) {own O f d host : String} {index : Nat} (hown : s.vm.findClass own = some m.cls) (w : (Cond.fieldLink own index O f d).before a0 Z = true ∨ (Cond.fieldLinkNest own index O f d host).before a0 Z = true) (eT : T.heap = h) {v : Value} (S : Sta Z h O f d v) (hd : decode c.code pc = .ok (.getstatic index, 3)) (hn : pc + 3 = n)
    (F : ∀ T', Stand p l e R s m args below meth c T' locs cells slots → T'.heap = h → Go p e below Fe Q K N T' (mkF m n Ls (v :: st))) : Go p e below Fe Q K N T (mkF m pc Ls st) := by
  subst hn
  obtain ⟨T', X', e', st'⟩ := getS2 X hx hZ hown (host := host) w Via.refl eT S (g := mkF m pc Ls st) rfl hd
  exact go (fun _ h => st' _ h) (F T' X' e')
theorem getF (X : Stand p l e R s m args below meth c T locs cells slots) (hx : p.tables.exec = Jvm.exec) (hZ : Z.Warmed39 s.vm) {own O f d host : String} {index : Nat} (hown : s.vm.findClass own = some m.cls) (w : (Cond.fieldLink own index O f d).before a0 Z = true ∨ (Cond.fieldLinkNest own index O f d host).before a0 Z = true) (eT : T.heap = h) {a : Addr} {v : Value} (S : Fld Z h a O f d v) (hd : decode c.code pc = .ok (.getfield index, 3)) (hn : pc + 3 = n)
    (F : ∀ T', Stand p l e R s m args below meth c T' locs cells slots → T'.heap = h → Go p e below Fe Q K N T' (mkF m n Ls (v :: st))) : Go p e below Fe Q K N T (mkF m pc Ls (.ref a :: st)) := by
  subst hn
  obtain ⟨T', X', e', st'⟩ := RoadKit.getF X hx hZ hown (host := host) w Via.refl eT S (g := mkF m pc Ls (.ref a :: st)) rfl rfl hd
  exact go (fun _ h => st' _ h) (F T' X' e')
theorem in_of {cl : Cell} {z j : Int32} (S : cl.slots.size = z.toNatClampNeg) (N : ¬ z < 0) (h1 : 0 ≤ j.toInt) (h2 : j.toInt < z.toInt) : ¬ (j < 0 ∨ cl.slots.size ≤ j.toNatClampNeg) := by
  rw [S, Int32.lt_iff_toInt_lt]
  rw [Int32.lt_iff_toInt_lt] at N
  have e0 : (0 : Int32).toInt = 0 := rfl
  have q1 : z.toNatClampNeg = z.toInt.toNat := rfl
  have q2 : j.toNatClampNeg = j.toInt.toNat := rfl
  omega
theorem alen (X : Stand p l e R s m args below meth c T locs cells slots) (hx : p.tables.exec = Jvm.exec) (hZ : Z.Warmed39 s.vm) {a : Addr} {k : ClassId} {ty : FieldType} {z : Int32} {vs : List Value} {d : Value} (eT : T.heap = h) (A : Arv Z h a k ty z vs d) (hd : decode c.code pc = .ok (.arraylength, 1)) (hn : pc + 1 = n) (F : Go p e below Fe Q K N T (mkF m n Ls (.int z :: st))) : Go p e below Fe Q K N T (mkF m pc Ls (.ref a :: st)) := by
  subst hn
  obtain ⟨cl, Ar, -, S, N, -, -⟩ := A
  refine go (fun _ h => X.arraylength hx (by rw [eT]; exact Ar.1) (State.isArrayOf_alike hZ.alike Ar.2.1) (g := mkF m pc Ls (.ref a :: st)) rfl rfl hd _ h) ?_
  rw [len_of S N]
  exact F
theorem iaload (X : Stand p l e R s m args below meth c T locs cells slots) (hx : p.tables.exec = Jvm.exec) (hZ : Z.Warmed39 s.vm) {a : Addr} {k : ClassId} {z j : Int32} {vs : List Value} {d v : Value} (eT : T.heap = h) (A : Arv Z h a k .int z vs d) (h1 : 0 ≤ j.toInt) (h2 : j.toInt < z.toInt) (hv : vs.getD j.toNatClampNeg d = v) (hd : decode c.code pc = .ok (.iaload, 1)) (hn : pc + 1 = n) (F : Go p e below Fe Q K N T (mkF m n Ls (v :: st))) : Go p e below Fe Q K N T (mkF m pc Ls (.int j :: .ref a :: st)) := by
  subst hn
  obtain ⟨cl, Ar, -, S, N, H, -⟩ := A
  have hin := in_of S N h1 h2
  exact go (fun _ h => X.iaload hx (j := j) (v := v) (by rw [eT]; exact Ar.1) (State.isArrayOf_alike hZ.alike Ar.2.1) Ar.2.2 hin (H.at hin hv) (g := mkF m pc Ls (.int j :: .ref a :: st)) rfl rfl hd _ h) F
theorem caload (X : Stand p l e R s m args below meth c T locs cells slots) (hx : p.tables.exec = Jvm.exec) (hZ : Z.Warmed39 s.vm) {a : Addr} {k : ClassId} {z j : Int32} {vs : List Value} {d v : Value} (eT : T.heap = h) (A : Arv Z h a k .char z vs d) (h1 : 0 ≤ j.toInt) (h2 : j.toInt < z.toInt) (hv : vs.getD j.toNatClampNeg d = v) (hd : decode c.code pc = .ok (.caload, 1)) (hn : pc + 1 = n) (F : Go p e below Fe Q K N T (mkF m n Ls (v :: st))) : Go p e below Fe Q K N T (mkF m pc Ls (.int j :: .ref a :: st)) := by
  subst hn
  obtain ⟨cl, Ar, -, S, N, H, -⟩ := A
  have hin := in_of S N h1 h2
  exact go (fun _ h => X.caload hx (j := j) (v := v) (by rw [eT]; exact Ar.1) (State.isArrayOf_alike hZ.alike Ar.2.1) Ar.2.2 hin (H.at hin hv) (g := mkF m pc Ls (.int j :: .ref a :: st)) rfl rfl hd _ h) F
theorem laload (X : Stand p l e R s m args below meth c T locs cells slots) (hx : p.tables.exec = Jvm.exec) (hZ : Z.Warmed39 s.vm) {a : Addr} {k : ClassId} {z j : Int32} {vs : List Value} {d v : Value} (eT : T.heap = h) (A : Arv Z h a k .long z vs d) (h1 : 0 ≤ j.toInt) (h2 : j.toInt < z.toInt) (hv : vs.getD j.toNatClampNeg d = v) (hd : decode c.code pc = .ok (.laload, 1)) (hn : pc + 1 = n) (F : Go p e below Fe Q K N T (mkF m n Ls (v :: st))) : Go p e below Fe Q K N T (mkF m pc Ls (.int j :: .ref a :: st)) := by
  subst hn
  obtain ⟨cl, Ar, -, S, N, H, -⟩ := A
  have hin := in_of S N h1 h2
  exact go (fun _ h => X.laload hx (j := j) (v := v) (by rw [eT]; exact Ar.1) (State.isArrayOf_alike hZ.alike Ar.2.1) Ar.2.2 hin (H.at hin hv) (g := mkF m pc Ls (.int j :: .ref a :: st)) rfl rfl hd _ h) F
theorem baload (X : Stand p l e R s m args below meth c T locs cells slots) (hx : p.tables.exec = Jvm.exec) (hZ : Z.Warmed39 s.vm) {a : Addr} {k : ClassId} {z j : Int32} {vs : List Value} {d v : Value} (eT : T.heap = h) (A : Arv Z h a k .byte z vs d) (h1 : 0 ≤ j.toInt) (h2 : j.toInt < z.toInt) (hv : vs.getD j.toNatClampNeg d = v) (hd : decode c.code pc = .ok (.baload, 1)) (hn : pc + 1 = n) (F : Go p e below Fe Q K N T (mkF m n Ls (v :: st))) : Go p e below Fe Q K N T (mkF m pc Ls (.int j :: .ref a :: st)) := by
  subst hn
  obtain ⟨cl, Ar, -, S, N, H, -⟩ := A
  have hin := in_of S N h1 h2
  exact go (fun _ h => X.baloadBytes hx (j := j) (v := v) (by rw [eT]; exact Ar.1) (State.isArrayOf_alike hZ.alike Ar.2.1) Ar.2.2 hin (H.at hin hv) (g := mkF m pc Ls (.int j :: .ref a :: st)) rfl rfl hd _ h) F
theorem aaload (X : Stand p l e R s m args below meth c T locs cells slots) (hx : p.tables.exec = Jvm.exec) (hZ : Z.Warmed39 s.vm) {a : Addr} {k : ClassId} {ty : FieldType} {z j : Int32} {vs : List Value} {d v : Value} (eT : T.heap = h) (A : Arv Z h a k ty z vs d) (hty : ty.isReference = true) (h1 : 0 ≤ j.toInt) (h2 : j.toInt < z.toInt) (hv : vs.getD j.toNatClampNeg d = v) (hd : decode c.code pc = .ok (.aaload, 1)) (hn : pc + 1 = n) (F : Go p e below Fe Q K N T (mkF m n Ls (v :: st))) : Go p e below Fe Q K N T (mkF m pc Ls (.int j :: .ref a :: st)) := by
  subst hn
  obtain ⟨cl, Ar, -, S, N, H, -⟩ := A
  have hin := in_of S N h1 h2
  exact go (fun _ h => X.aaload hx (j := j) (v := v) (by rw [eT]; exact Ar.1) (State.isArrayOf_alike hZ.alike Ar.2.1) hty Ar.2.2 hin (H.at hin hv) (g := mkF m pc Ls (.int j :: .ref a :: st)) rfl rfl hd _ h) F
theorem b01 {P : Prop} [Decidable P] : b P = 0 ∨ b P = 1 := by by_cases q : P <;> simp [b, q]
theorem fin {w : Option Value} {g : JFrame} (X : Stand p l e R s m args below meth c T locs cells slots) (hlk : meth.locks = false) (hv : meth.sig.returnType = none → w = none) (hc : cells ≤ K) (hs : slots ≤ N) (hQ : Q w T.heap locs) (step : ∀ fs, (∀ (f : JFrame) (acts : List Action), f.method = m → f.locked = none → f.entered = [] → (doReturn e (T.setTop f) acts w).1 = T.setFrames fs) → Steps p.tables e below (T.setTop g) (T.setFrames fs)) : Go p e below (FrameEnd s) Q K N T g := by
  obtain ⟨fs, hr, hrun, hended, hW, hsame⟩ := X.leave (v := w) hv hlk
  exact ⟨_, _, step fs hr, hrun, hended, _, _, rfl, hQ, ⟨_, rfl⟩, hW, hsame.mono hc hs⟩
theorem finW {w : Option Value} {g : JFrame} (X : Stand p l e R (s.setVm vm0) m args below meth c T locs cells slots) (hS : s.Since vm0 k0) (hk0 : k0 ≤ T.heap.size) (hlk : meth.locks = false) (hv : meth.sig.returnType = none → w = none) (hc : cells ≤ K) (hs : slots ≤ N) (hQ : Q w T.heap locs) (step : ∀ fs, (∀ (f : JFrame) (acts : List Action), f.method = m → f.locked = none → f.entered = [] → (doReturn e (T.setTop f) acts w).1 = T.setFrames fs) → Steps p.tables e below (T.setTop g) (T.setFrames fs)) : Go p e below (ReturnedEndW s) Q K N T g := by
  obtain ⟨fs, hr, hrun, hended, hW, hsame⟩ := X.leave (v := w) hv hlk
  obtain ⟨q1, q2, q3⟩ := hS.ended (U := T.setFrames fs) hW hk0 hsame
  exact ⟨_, _, step fs hr, hrun, hended, _, _, rfl, hQ, ⟨_, rfl⟩, q1, q2, q3.mono hc hs⟩
/-- the wide end, with a word on the tables -/
def EndV (s : State) (Qv : Vm → Prop) (o : Outcome) (t : State) (L : List Loc) (k n : Nat) : Prop := ReturnedEndW s o t L k n ∧ Qv t.vm
theorem finV {w : Option Value} {g : JFrame} {Qv : Vm → Prop} (X : Stand p l e R (s.setVm vm0) m args below meth c T locs cells slots) (hS : s.Since vm0 k0) (hk0 : k0 ≤ T.heap.size) (hV : Qv T.vm) (hlk : meth.locks = false) (hv : meth.sig.returnType = none → w = none) (hc : cells ≤ K) (hs : slots ≤ N) (hQ : Q w T.heap locs) (step : ∀ fs, (∀ (f : JFrame) (acts : List Action), f.method = m → f.locked = none → f.entered = [] → (doReturn e (T.setTop f) acts w).1 = T.setFrames fs) → Steps p.tables e below (T.setTop g) (T.setFrames fs)) : Go p e below (EndV s Qv) Q K N T g := by
  obtain ⟨fs, hr, hrun, hended, hW, hsame⟩ := X.leave (v := w) hv hlk
  obtain ⟨q1, q2, q3⟩ := hS.ended (U := T.setFrames fs) hW hk0 hsame
  exact ⟨_, _, step fs hr, hrun, hended, _, _, rfl, hQ, ⟨⟨_, rfl⟩, q1, q2, q3.mono hc hs⟩, hV⟩
theorem to_wide {g : JFrame} (F : Go p e below (FrameEnd s) Q K N T g) : Go p e below (ReturnedEndW s) Q K N T g := by
  obtain ⟨s₂, o, h1, h2, h3, v, L, h4, h5, h6⟩ := F
  exact ⟨s₂, o, h1, h2, h3, v, L, h4, h5, wide h6⟩
theorem retI (X : Stand p l e R s m args below meth c T locs cells slots) (hx : p.tables.exec = Jvm.exec) (hlk : meth.locks = false) (hret : meth.sig.returnType = some .int) {z : Int32} (hd : decode c.code pc = .ok (.ireturn, 1)) (hc : cells ≤ K) (hs : slots ≤ N) (hQ : Q (some (.int z)) T.heap locs) : Go p e below (FrameEnd s) Q K N T (mkF m pc Ls (.int z :: rest)) :=
  fin X hlk (fun h => by rw [hret] at h; cases h) hc hs hQ (fun _ hr => retOut X hx hret rfl (Or.inl ⟨rfl, Or.inl rfl, _, rfl⟩) hd hr)
theorem retZ (X : Stand p l e R s m args below meth c T locs cells slots) (hx : p.tables.exec = Jvm.exec) (hlk : meth.locks = false) (hret : meth.sig.returnType = some .boolean) {z : Int32} (hd : decode c.code pc = .ok (.ireturn, 1)) (hz : z = 0 ∨ z = 1) (hc : cells ≤ K) (hs : slots ≤ N) (hQ : Q (some (.int z)) T.heap locs) : Go p e below (FrameEnd s) Q K N T (mkF m pc Ls (.int z :: rest)) :=
  fin X hlk (fun h => by rw [hret] at h; cases h) hc hs hQ (fun _ hr => retOut X hx hret (by rcases hz with rfl | rfl <;> rfl) (Or.inl ⟨rfl, Or.inr (Or.inl rfl), _, rfl⟩) hd hr)
theorem retC (X : Stand p l e R s m args below meth c T locs cells slots) (hx : p.tables.exec = Jvm.exec) (hlk : meth.locks = false) (hret : meth.sig.returnType = some .char) {z : Int32} (hd : decode c.code pc = .ok (.ireturn, 1)) (hz : narrow .char (.int z) = .int z) (hc : cells ≤ K) (hs : slots ≤ N) (hQ : Q (some (.int z)) T.heap locs) : Go p e below (FrameEnd s) Q K N T (mkF m pc Ls (.int z :: rest)) :=
  fin X hlk (fun h => by rw [hret] at h; cases h) hc hs hQ (fun _ hr => retOut X hx hret hz (Or.inl ⟨rfl, Or.inr (Or.inr (Or.inr (Or.inl rfl))), _, rfl⟩) hd hr)
theorem retB (X : Stand p l e R s m args below meth c T locs cells slots) (hx : p.tables.exec = Jvm.exec) (hlk : meth.locks = false) (hret : meth.sig.returnType = some .byte) {z : Int32} (hd : decode c.code pc = .ok (.ireturn, 1)) (hz : narrow .byte (.int z) = .int z) (hc : cells ≤ K) (hs : slots ≤ N) (hQ : Q (some (.int z)) T.heap locs) : Go p e below (FrameEnd s) Q K N T (mkF m pc Ls (.int z :: rest)) :=
  fin X hlk (fun h => by rw [hret] at h; cases h) hc hs hQ (fun _ hr => retOut X hx hret hz (Or.inl ⟨rfl, Or.inr (Or.inr (Or.inl rfl)), _, rfl⟩) hd hr)
theorem retL (X : Stand p l e R s m args below meth c T locs cells slots) (hx : p.tables.exec = Jvm.exec) (hlk : meth.locks = false) (hret : meth.sig.returnType = some .long) {z : Int64} (hd : decode c.code pc = .ok (.lreturn, 1)) (hc : cells ≤ K) (hs : slots ≤ N) (hQ : Q (some (.long z)) T.heap locs) : Go p e below (FrameEnd s) Q K N T (mkF m pc Ls (.long z :: rest)) :=
  fin X hlk (fun h => by rw [hret] at h; cases h) hc hs hQ (fun _ hr => retOut X hx hret rfl (Or.inr (Or.inl ⟨rfl, rfl, _, rfl⟩)) hd hr)
theorem retA (X : Stand p l e R s m args below meth c T locs cells slots) (hx : p.tables.exec = Jvm.exec) (hlk : meth.locks = false) {ty : FieldType} (hret : meth.sig.returnType = some ty) (hty : ty.isReference = true) {v : Value} (hv : v.isRef = true) (hd : decode c.code pc = .ok (.areturn, 1)) (hc : cells ≤ K) (hs : slots ≤ N) (hQ : Q (some v) T.heap locs) : Go p e below (FrameEnd s) Q K N T (mkF m pc Ls (v :: rest)) :=
  fin X hlk (fun h => by rw [hret] at h; cases h) hc hs hQ (fun _ hr => retOut X hx hret (by cases ty <;> cases v <;> first | rfl | simp [Value.isRef] at hv | simp [FieldType.isReference] at hty) (Or.inr (Or.inr (Or.inr (Or.inr ⟨rfl, hty, hv⟩)))) hd hr)
theorem retV (X : Stand p l e R s m args below meth c T locs cells slots) (hx : p.tables.exec = Jvm.exec) (hlk : meth.locks = false) (hret : meth.sig.returnType = none) (hd : decode c.code pc = .ok (.return_, 1)) (hc : cells ≤ K) (hs : slots ≤ N) (hQ : Q none T.heap locs) : Go p e below (FrameEnd s) Q K N T (mkF m pc Ls []) :=
  fin X hlk (fun _ => rfl) hc hs hQ (fun _ hr => X.returnOut hx hret hd hr)
theorem retIW (X : Stand p l e R (s.setVm vm0) m args below meth c T locs cells slots) (hx : p.tables.exec = Jvm.exec) (hS : s.Since vm0 k0) (hk0 : k0 ≤ T.heap.size) (hlk : meth.locks = false) (hret : meth.sig.returnType = some .int) {z : Int32} (hd : decode c.code pc = .ok (.ireturn, 1)) (hc : cells ≤ K) (hs : slots ≤ N) (hQ : Q (some (.int z)) T.heap locs) : Go p e below (ReturnedEndW s) Q K N T (mkF m pc Ls (.int z :: rest)) :=
  finW X hS hk0 hlk (fun h => by rw [hret] at h; cases h) hc hs hQ (fun _ hr => retOut X hx hret rfl (Or.inl ⟨rfl, Or.inl rfl, _, rfl⟩) hd hr)
theorem retZW (X : Stand p l e R (s.setVm vm0) m args below meth c T locs cells slots) (hx : p.tables.exec = Jvm.exec) (hS : s.Since vm0 k0) (hk0 : k0 ≤ T.heap.size) (hlk : meth.locks = false) (hret : meth.sig.returnType = some .boolean) {z : Int32} (hd : decode c.code pc = .ok (.ireturn, 1)) (hz : z = 0 ∨ z = 1) (hc : cells ≤ K) (hs : slots ≤ N) (hQ : Q (some (.int z)) T.heap locs) : Go p e below (ReturnedEndW s) Q K N T (mkF m pc Ls (.int z :: rest)) :=
  finW X hS hk0 hlk (fun h => by rw [hret] at h; cases h) hc hs hQ (fun _ hr => retOut X hx hret (by rcases hz with rfl | rfl <;> rfl) (Or.inl ⟨rfl, Or.inr (Or.inl rfl), _, rfl⟩) hd hr)
theorem retCW (X : Stand p l e R (s.setVm vm0) m args below meth c T locs cells slots) (hx : p.tables.exec = Jvm.exec) (hS : s.Since vm0 k0) (hk0 : k0 ≤ T.heap.size) (hlk : meth.locks = false) (hret : meth.sig.returnType = some .char) {z : Int32} (hd : decode c.code pc = .ok (.ireturn, 1)) (hz : narrow .char (.int z) = .int z) (hc : cells ≤ K) (hs : slots ≤ N) (hQ : Q (some (.int z)) T.heap locs) : Go p e below (ReturnedEndW s) Q K N T (mkF m pc Ls (.int z :: rest)) :=
  finW X hS hk0 hlk (fun h => by rw [hret] at h; cases h) hc hs hQ (fun _ hr => retOut X hx hret hz (Or.inl ⟨rfl, Or.inr (Or.inr (Or.inr (Or.inl rfl))), _, rfl⟩) hd hr)
theorem retBW (X : Stand p l e R (s.setVm vm0) m args below meth c T locs cells slots) (hx : p.tables.exec = Jvm.exec) (hS : s.Since vm0 k0) (hk0 : k0 ≤ T.heap.size) (hlk : meth.locks = false) (hret : meth.sig.returnType = some .byte) {z : Int32} (hd : decode c.code pc = .ok (.ireturn, 1)) (hz : narrow .byte (.int z) = .int z) (hc : cells ≤ K) (hs : slots ≤ N) (hQ : Q (some (.int z)) T.heap locs) : Go p e below (ReturnedEndW s) Q K N T (mkF m pc Ls (.int z :: rest)) :=
  finW X hS hk0 hlk (fun h => by rw [hret] at h; cases h) hc hs hQ (fun _ hr => retOut X hx hret hz (Or.inl ⟨rfl, Or.inr (Or.inr (Or.inl rfl)), _, rfl⟩) hd hr)
theorem retLW (X : Stand p l e R (s.setVm vm0) m args below meth c T locs cells slots) (hx : p.tables.exec = Jvm.exec) (hS : s.Since vm0 k0) (hk0 : k0 ≤ T.heap.size) (hlk : meth.locks = false) (hret : meth.sig.returnType = some .long) {z : Int64} (hd : decode c.code pc = .ok (.lreturn, 1)) (hc : cells ≤ K) (hs : slots ≤ N) (hQ : Q (some (.long z)) T.heap locs) : Go p e below (ReturnedEndW s) Q K N T (mkF m pc Ls (.long z :: rest)) :=
  finW X hS hk0 hlk (fun h => by rw [hret] at h; cases h) hc hs hQ (fun _ hr => retOut X hx hret rfl (Or.inr (Or.inl ⟨rfl, rfl, _, rfl⟩)) hd hr)
theorem retAW (X : Stand p l e R (s.setVm vm0) m args below meth c T locs cells slots) (hx : p.tables.exec = Jvm.exec) (hS : s.Since vm0 k0) (hk0 : k0 ≤ T.heap.size) (hlk : meth.locks = false) {ty : FieldType} (hret : meth.sig.returnType = some ty) (hty : ty.isReference = true) {v : Value} (hv : v.isRef = true) (hd : decode c.code pc = .ok (.areturn, 1)) (hc : cells ≤ K) (hs : slots ≤ N) (hQ : Q (some v) T.heap locs) : Go p e below (ReturnedEndW s) Q K N T (mkF m pc Ls (v :: rest)) :=
  finW X hS hk0 hlk (fun h => by rw [hret] at h; cases h) hc hs hQ (fun _ hr => retOut X hx hret (by cases ty <;> cases v <;> first | rfl | simp [Value.isRef] at hv | simp [FieldType.isReference] at hty) (Or.inr (Or.inr (Or.inr (Or.inr ⟨rfl, hty, hv⟩)))) hd hr)
theorem retVW (X : Stand p l e R (s.setVm vm0) m args below meth c T locs cells slots) (hx : p.tables.exec = Jvm.exec) (hS : s.Since vm0 k0) (hk0 : k0 ≤ T.heap.size) (hlk : meth.locks = false) (hret : meth.sig.returnType = none) (hd : decode c.code pc = .ok (.return_, 1)) (hc : cells ≤ K) (hs : slots ≤ N) (hQ : Q none T.heap locs) : Go p e below (ReturnedEndW s) Q K N T (mkF m pc Ls []) :=
  finW X hS hk0 hlk (fun _ => rfl) hc hs hQ (fun _ hr => X.returnOut hx hret hd hr)
theorem retIV (X : Stand p l e R (s.setVm vm0) m args below meth c T locs cells slots) (hx : p.tables.exec = Jvm.exec) {Qv : Vm → Prop} (hS : s.Since vm0 k0) (hk0 : k0 ≤ T.heap.size) (hV : Qv T.vm) (hlk : meth.locks = false) (hret : meth.sig.returnType = some .int) {z : Int32} (hd : decode c.code pc = .ok (.ireturn, 1)) (hc : cells ≤ K) (hs : slots ≤ N) (hQ : Q (some (.int z)) T.heap locs) : Go p e below (EndV s Qv) Q K N T (mkF m pc Ls (.int z :: rest)) :=
  finV X hS hk0 hV hlk (fun h => by rw [hret] at h; cases h) hc hs hQ (fun _ hr => retOut X hx hret rfl (Or.inl ⟨rfl, Or.inl rfl, _, rfl⟩) hd hr)
theorem retZV (X : Stand p l e R (s.setVm vm0) m args below meth c T locs cells slots) (hx : p.tables.exec = Jvm.exec) {Qv : Vm → Prop} (hS : s.Since vm0 k0) (hk0 : k0 ≤ T.heap.size) (hV : Qv T.vm) (hlk : meth.locks = false) (hret : meth.sig.returnType = some .boolean) {z : Int32} (hd : decode c.code pc = .ok (.ireturn, 1)) (hz : z = 0 ∨ z = 1) (hc : cells ≤ K) (hs : slots ≤ N) (hQ : Q (some (.int z)) T.heap locs) : Go p e below (EndV s Qv) Q K N T (mkF m pc Ls (.int z :: rest)) :=
  finV X hS hk0 hV hlk (fun h => by rw [hret] at h; cases h) hc hs hQ (fun _ hr => retOut X hx hret (by rcases hz with rfl | rfl <;> rfl) (Or.inl ⟨rfl, Or.inr (Or.inl rfl), _, rfl⟩) hd hr)
theorem retCV (X : Stand p l e R (s.setVm vm0) m args below meth c T locs cells slots) (hx : p.tables.exec = Jvm.exec) {Qv : Vm → Prop} (hS : s.Since vm0 k0) (hk0 : k0 ≤ T.heap.size) (hV : Qv T.vm) (hlk : meth.locks = false) (hret : meth.sig.returnType = some .char) {z : Int32} (hd : decode c.code pc = .ok (.ireturn, 1)) (hz : narrow .char (.int z) = .int z) (hc : cells ≤ K) (hs : slots ≤ N) (hQ : Q (some (.int z)) T.heap locs) : Go p e below (EndV s Qv) Q K N T (mkF m pc Ls (.int z :: rest)) :=
  finV X hS hk0 hV hlk (fun h => by rw [hret] at h; cases h) hc hs hQ (fun _ hr => retOut X hx hret hz (Or.inl ⟨rfl, Or.inr (Or.inr (Or.inr (Or.inl rfl))), _, rfl⟩) hd hr)
theorem retBV (X : Stand p l e R (s.setVm vm0) m args below meth c T locs cells slots) (hx : p.tables.exec = Jvm.exec) {Qv : Vm → Prop} (hS : s.Since vm0 k0) (hk0 : k0 ≤ T.heap.size) (hV : Qv T.vm) (hlk : meth.locks = false) (hret : meth.sig.returnType = some .byte) {z : Int32} (hd : decode c.code pc = .ok (.ireturn, 1)) (hz : narrow .byte (.int z) = .int z) (hc : cells ≤ K) (hs : slots ≤ N) (hQ : Q (some (.int z)) T.heap locs) : Go p e below (EndV s Qv) Q K N T (mkF m pc Ls (.int z :: rest)) :=
  finV X hS hk0 hV hlk (fun h => by rw [hret] at h; cases h) hc hs hQ (fun _ hr => retOut X hx hret hz (Or.inl ⟨rfl, Or.inr (Or.inr (Or.inl rfl)), _, rfl⟩) hd hr)
theorem retLV (X : Stand p l e R (s.setVm vm0) m args below meth c T locs cells slots) (hx : p.tables.exec = Jvm.exec) {Qv : Vm → Prop} (hS : s.Since vm0 k0) (hk0 : k0 ≤ T.heap.size) (hV : Qv T.vm) (hlk : meth.locks = false) (hret : meth.sig.returnType = some .long) {z : Int64} (hd : decode c.code pc = .ok (.lreturn, 1)) (hc : cells ≤ K) (hs : slots ≤ N) (hQ : Q (some (.long z)) T.heap locs) : Go p e below (EndV s Qv) Q K N T (mkF m pc Ls (.long z :: rest)) :=
  finV X hS hk0 hV hlk (fun h => by rw [hret] at h; cases h) hc hs hQ (fun _ hr => retOut X hx hret rfl (Or.inr (Or.inl ⟨rfl, rfl, _, rfl⟩)) hd hr)
theorem retAV (X : Stand p l e R (s.setVm vm0) m args below meth c T locs cells slots) (hx : p.tables.exec = Jvm.exec) {Qv : Vm → Prop} (hS : s.Since vm0 k0) (hk0 : k0 ≤ T.heap.size) (hV : Qv T.vm) (hlk : meth.locks = false) {ty : FieldType} (hret : meth.sig.returnType = some ty) (hty : ty.isReference = true) {v : Value} (hv : v.isRef = true) (hd : decode c.code pc = .ok (.areturn, 1)) (hc : cells ≤ K) (hs : slots ≤ N) (hQ : Q (some v) T.heap locs) : Go p e below (EndV s Qv) Q K N T (mkF m pc Ls (v :: rest)) :=
  finV X hS hk0 hV hlk (fun h => by rw [hret] at h; cases h) hc hs hQ (fun _ hr => retOut X hx hret (by cases ty <;> cases v <;> first | rfl | simp [Value.isRef] at hv | simp [FieldType.isReference] at hty) (Or.inr (Or.inr (Or.inr (Or.inr ⟨rfl, hty, hv⟩)))) hd hr)
theorem retVV (X : Stand p l e R (s.setVm vm0) m args below meth c T locs cells slots) (hx : p.tables.exec = Jvm.exec) {Qv : Vm → Prop} (hS : s.Since vm0 k0) (hk0 : k0 ≤ T.heap.size) (hV : Qv T.vm) (hlk : meth.locks = false) (hret : meth.sig.returnType = none) (hd : decode c.code pc = .ok (.return_, 1)) (hc : cells ≤ K) (hs : slots ≤ N) (hQ : Q none T.heap locs) : Go p e below (EndV s Qv) Q K N T (mkF m pc Ls []) :=
  finV X hS hk0 hV hlk (fun _ => rfl) hc hs hQ (fun _ hr => X.returnOut hx hret hd hr)
/-- a method's contract: with the arguments as', over the heap h0, it comes back and Q holds -/
def Met (l : Launch) (Z : State) (y : MethodName) (bytes : ByteArray) (maxL : Nat) (ret : Option FieldType) (ws : List Cond) (rm : Room) (as' : Array Value) (h0 : Heap) (Q : Option Value → Heap → List Loc → Prop) : Prop :=
  MetFree l y (head1 (Cond.code y bytes maxL ret :: ws) rm) (fun a U => a = as' ∧ Z.Warmed39 U.vm ∧ U.heap = h0) (fun _ _ _ _ _ => True) (fun _ U o U' => ∃ v L, o = .returned v ∧ Q v U'.heap L ∧ FrameEnd U o U' L rm.cells rm.slots)
/-- nothing written, nothing made: it returns w -/
def Pu (w : Value) (h0 : Heap) (v : Option Value) (h : Heap) (L : List Loc) : Prop := v = some w ∧ L = [] ∧ h = h0
theorem start {y : MethodName} {bytes : ByteArray} {maxL : Nat} {ret : Option FieldType} {ws : List Cond} {rm : Room} {as' : Array Value} {h0 : Heap} (pn : plainName y.cls = true)
    (body : ∀ (p : Program) (e : Env) (s : State) (m : MethodId) (below : List Frame) (meth : Method) (c : Code) (s₁ : State), Stand p l e rm s m as' below meth c s₁ [] 0 0 → p.tables.exec = Jvm.exec → c.code = bytes → c.maxLocals = maxL → s.vm.findClass y.cls = some m.cls → meth.name = y.name → meth.sig.returnType = ret → meth.locks = false → Z.Warmed39 s.vm → s₁.heap = h0 → Go p e below (FrameEnd s) Q rm.cells rm.slots s₁ (entryFrame m as' maxL)) : Met l Z y bytes maxL ret ws rm as' h0 Q := by
  refine MetFree.of_bodySF (plainFor_of_name pn) hisR ?_
  intro p e s m args below meth c s₁ Bd hml0 hP hK
  obtain ⟨rfl, hZ, hh⟩ := hP
  exact body p e s m below meth c s₁ (Stand.of_body Bd) Bd.exec Bd.bytes hml0 (findClass_of_methodNamed Bd.named) (name_of_methodNamed Bd.named Bd.method).1 Bd.returns Bd.notSynchronized hZ (by rw [← hh, Bd.state]; rfl)
theorem startF {y : MethodName} {bytes : ByteArray} {maxL : Nat} {ret : Option FieldType} {ws : List Cond} {rm : Room} {as' : Array Value} {h0 : Heap} (pf : plainFor y = true)
    (body : ∀ (p : Program) (e : Env) (s : State) (m : MethodId) (below : List Frame) (meth : Method) (c : Code) (s₁ : State), Stand p l e rm s m as' below meth c s₁ [] 0 0 → p.tables.exec = Jvm.exec → c.code = bytes → c.maxLocals = maxL → s.vm.findClass y.cls = some m.cls → meth.name = y.name → meth.sig.returnType = ret → meth.locks = false → Z.Warmed39 s.vm → s₁.heap = h0 → Go p e below (FrameEnd s) Q rm.cells rm.slots s₁ (entryFrame m as' maxL)) : Met l Z y bytes maxL ret ws rm as' h0 Q := by
  refine MetFree.of_bodySF pf hisR ?_
  intro p e s m args below meth c s₁ Bd hml0 hP hK
  obtain ⟨rfl, hZ, hh⟩ := hP
  exact body p e s m below meth c s₁ (Stand.of_body Bd) Bd.exec Bd.bytes hml0 (findClass_of_methodNamed Bd.named) (name_of_methodNamed Bd.named Bd.method).1 Bd.returns Bd.notSynchronized hZ (by rw [← hh, Bd.state]; rfl)
theorem enter {g g' : JFrame} (q : g = g') (F : Go p e below Fe Q K N T g') : Go p e below Fe Q K N T g := q ▸ F
theorem callS (X : Stand p l e R s m args below meth c T locs cells slots) (hx : p.tables.exec = Jvm.exec) (hZ : Z.Warmed39 s.vm) {own : String} {index : Nat} {y : MethodName} {bytes : ByteArray} {maxL W : Nat} {ret : Option FieldType} {rm : Room} {Qc : Option Value → Heap → List Loc → Prop} {argsL : List Value} (hown : s.vm.findClass own = some m.cls)
    (wl : (Cond.methodLink own index y).before a0 Z = true) (ws : (Cond.static y).before a0 Z = true) (wi : (Cond.initialized y.cls).before a0 Z = true) (wc : (Cond.code y bytes maxL ret).before a0 Z = true) (hy : y.cls ≠ "java/lang/invoke/MethodHandle" ∧ y.cls ≠ "java/lang/invoke/VarHandle")
    (hM : Met l Z y bytes maxL ret [] rm argsL.toArray h Qc) (eT : T.heap = h) (hf : rm.frames + 1 ≤ R.frames) (hl : W + (maxL + 11) + rm.locals ≤ R.locals) (hck : cells + rm.cells ≤ R.cells) (hsk : slots + rm.slots ≤ R.slots) (hsz : Ls.size = c.maxLocals)
    (hlen : ∀ sig, parseMethodDescriptor y.desc = some sig → argsL.length = sig.parameters.length) (hst : st = argsL.reverse ++ rest) (hW : (rest.map fun v => v.category).sum ≤ W) (hd : decode c.code pc = .ok (.invokestatic index, 3)) (hn : pc + 3 = n)
    (F : ∀ T' v L, Stand p l e R s m args below meth c T' (locs ++ L) (cells + rm.cells) (slots + rm.slots) → Qc v T'.heap L → Go p e below Fe Q K N T' (mkF m n Ls (v.toList ++ rest))) : Go p e below Fe Q K N T (mkF m pc Ls st) := by
  subst hn
  obtain ⟨v, _, ⟨T18, L18, k18, n18⟩, -, X18, ⟨Lc18, hQ18, l18, y18, z18⟩, st18⟩ := Jvm.LawKit.callS X hx (y := y) hown (mvT hZ wl) (mvT hZ ws) (mvT hZ wi) (mvT hZ wc) hy (backOf (W := W) hM hZ wc wi hf hl) (g := mkF m pc Ls st) rfl hsz (argsL := argsL) (rest := rest) hlen hst (by show 2 * 0 + _ ≤ _; omega) hd (fun _ _ => ⟨rfl, eT, hck, hsk⟩)
  dsimp only [Pt.U, Pt.locs, Pt.cells, Pt.slots] at X18 l18 y18 z18 st18 hQ18
  subst l18 y18 z18
  exact go (fun _ h => st18 _ h) (F T18 v Lc18 X18 hQ18)
theorem callP (X : Stand p l e R s m args below meth c T locs cells slots) (hx : p.tables.exec = Jvm.exec) (hZ : Z.Warmed39 s.vm) {own : String} {index : Nat} {y : MethodName} {bytes : ByteArray} {maxL W : Nat} {ret : Option FieldType} {fr lo : Nat} {w : Value} {argsL : List Value} (hown : s.vm.findClass own = some m.cls)
    (wl : (Cond.methodLink own index y).before a0 Z = true) (ws : (Cond.static y).before a0 Z = true) (wi : (Cond.initialized y.cls).before a0 Z = true) (wc : (Cond.code y bytes maxL ret).before a0 Z = true) (hy : y.cls ≠ "java/lang/invoke/MethodHandle" ∧ y.cls ≠ "java/lang/invoke/VarHandle")
    (hM : Met l Z y bytes maxL ret [] { frames := fr, cells := 0, slots := 0, locals := lo } argsL.toArray h (Pu w h)) (eT : T.heap = h) (hf : fr + 1 ≤ R.frames) (hl : W + (maxL + 11) + lo ≤ R.locals) (hck : cells ≤ R.cells) (hsk : slots ≤ R.slots) (hsz : Ls.size = c.maxLocals)
    (hlen : ∀ sig, parseMethodDescriptor y.desc = some sig → argsL.length = sig.parameters.length) (hst : st = argsL.reverse ++ rest) (hW : (rest.map fun v => v.category).sum ≤ W) (hd : decode c.code pc = .ok (.invokestatic index, 3)) (hn : pc + 3 = n)
    (F : ∀ T', Stand p l e R s m args below meth c T' locs cells slots → T'.heap = h → Go p e below Fe Q K N T' (mkF m n Ls (w :: rest))) : Go p e below Fe Q K N T (mkF m pc Ls st) := by
  refine callS X hx hZ hown wl ws wi wc hy hM eT hf hl hck hsk hsz hlen hst hW hd hn ?_
  rintro T' v L X' ⟨rfl, rfl, hh⟩
  rw [List.append_nil] at X'
  exact F T' X' hh
theorem callV (X : Stand p l e R s m args below meth c T locs cells slots) (hx : p.tables.exec = Jvm.exec) (hZ : Z.Warmed39 s.vm) {own C : String} {index : Nat} {y z : MethodName} {bytes : ByteArray} {maxL W : Nat} {ret : Option FieldType} {rm : Room} {Qc : Option Value → Heap → List Loc → Prop} {argsL : List Value} {a : Addr} (hown : s.vm.findClass own = some m.cls)
    (wl : (Cond.methodLink own index y).before a0 Z = true) (wd : (Cond.declares y).before a0 Z = true) (wsel : (Cond.selects C y z).before a0 Z = true) (wm : (Cond.instanceMethod z).before a0 Z = true) (wi : (Cond.initialized z.cls).before a0 Z = true) (wc : (Cond.code z bytes maxL ret).before a0 Z = true) (hnf : NotFace s y) (hy : y.cls ≠ "java/lang/invoke/MethodHandle" ∧ y.cls ≠ "java/lang/invoke/VarHandle")
    (hM : Met l Z z bytes maxL ret [] rm (Value.ref a :: argsL).toArray h Qc) (eT : T.heap = h) (E : Exa Z h a C) (hf : rm.frames + 1 ≤ R.frames) (hl : W + (maxL + 11) + rm.locals ≤ R.locals) (hck : cells + rm.cells ≤ R.cells) (hsk : slots + rm.slots ≤ R.slots) (hsz : Ls.size = c.maxLocals)
    (hlen : ∀ sig, parseMethodDescriptor y.desc = some sig → argsL.length = sig.parameters.length) (hst : st = argsL.reverse ++ .ref a :: rest) (hW : (rest.map fun v => v.category).sum ≤ W) (hd : decode c.code pc = .ok (.invokevirtual index, 3)) (hn : pc + 3 = n)
    (F : ∀ T' v L, Stand p l e R s m args below meth c T' (locs ++ L) (cells + rm.cells) (slots + rm.slots) → Qc v T'.heap L → Go p e below Fe Q K N T' (mkF m n Ls (v.toList ++ rest))) : Go p e below Fe Q K N T (mkF m pc Ls st) := by
  subst hn
  obtain ⟨cq, kq, qa, qb, qc⟩ := isOf hZ eT E
  obtain ⟨v, _, ⟨T18, L18, k18, n18⟩, -, X18, ⟨Lc18, hQ18, l18, y18, z18⟩, st18⟩ := X.virtualBack hx (y := y) (z := z) hown (mvT hZ wl) (mvT hZ wd) hnf (mvT hZ wsel) (mvT hZ wm) hy (backOf (W := W) hM hZ wc wi hf hl) qa qc (g := mkF m pc Ls st) rfl hsz (Steps.refl _) (argsL := argsL) (rest := rest) hlen hst (by show 2 * 0 + _ ≤ _; omega) hd (fun _ _ => ⟨rfl, eT, hck, hsk⟩)
  dsimp only [Pt.U, Pt.locs, Pt.cells, Pt.slots] at X18 l18 y18 z18 st18 hQ18
  subst l18 y18 z18
  exact go (fun _ h => st18.trans h) (F T18 v Lc18 X18 hQ18)
theorem callVP (X : Stand p l e R s m args below meth c T locs cells slots) (hx : p.tables.exec = Jvm.exec) (hZ : Z.Warmed39 s.vm) {own C : String} {index : Nat} {y z : MethodName} {bytes : ByteArray} {maxL W : Nat} {ret : Option FieldType} {fr lo : Nat} {w : Value} {argsL : List Value} {a : Addr} (hown : s.vm.findClass own = some m.cls)
    (wl : (Cond.methodLink own index y).before a0 Z = true) (wd : (Cond.declares y).before a0 Z = true) (wsel : (Cond.selects C y z).before a0 Z = true) (wm : (Cond.instanceMethod z).before a0 Z = true) (wi : (Cond.initialized z.cls).before a0 Z = true) (wc : (Cond.code z bytes maxL ret).before a0 Z = true) (hnf : NotFace s y) (hy : y.cls ≠ "java/lang/invoke/MethodHandle" ∧ y.cls ≠ "java/lang/invoke/VarHandle")
    (hM : Met l Z z bytes maxL ret [] { frames := fr, cells := 0, slots := 0, locals := lo } (Value.ref a :: argsL).toArray h (Pu w h)) (eT : T.heap = h) (E : Exa Z h a C) (hf : fr + 1 ≤ R.frames) (hl : W + (maxL + 11) + lo ≤ R.locals) (hck : cells ≤ R.cells) (hsk : slots ≤ R.slots) (hsz : Ls.size = c.maxLocals)
    (hlen : ∀ sig, parseMethodDescriptor y.desc = some sig → argsL.length = sig.parameters.length) (hst : st = argsL.reverse ++ .ref a :: rest) (hW : (rest.map fun v => v.category).sum ≤ W) (hd : decode c.code pc = .ok (.invokevirtual index, 3)) (hn : pc + 3 = n)
    (F : ∀ T', Stand p l e R s m args below meth c T' locs cells slots → T'.heap = h → Go p e below Fe Q K N T' (mkF m n Ls (w :: rest))) : Go p e below Fe Q K N T (mkF m pc Ls st) := by
  refine callV X hx hZ hown wl wd wsel wm wi wc hnf hy hM eT E hf hl hck hsk hsz hlen hst hW hd hn ?_
  rintro T' v L X' ⟨rfl, rfl, hh⟩
  rw [List.append_nil] at X'
  exact F T' X' hh
theorem icmp_eqB (X : Stand p l e R s m args below meth c T locs cells slots) (hx : p.tables.exec = Jvm.exec) {P P' : Prop} [Decidable P] [Decidable P'] {o : Int} (t n : Nat) (hd : decode c.code pc = .ok (.if_icmp .eq o, 3)) (ht : (pc : Int) + o = t) (hn : pc + 3 = n) (FT : (P ↔ P') → Go p e below Fe Q K N T (mkF m t Ls rest)) (FF : ¬ (P ↔ P') → Go p e below Fe Q K N T (mkF m n Ls rest)) : Go p e below Fe Q K N T (mkF m pc Ls (.int (b P') :: .int (b P) :: rest)) :=
  icmp_eq X hx t n hd ht hn rfl rfl (fun q => FT (b_inj (Int32.toInt_inj.mp q))) (fun q => FF fun z => q (by rw [b_iff z]))
theorem tsw (X : Stand p l e R s m args below meth c T locs cells slots) (hx : p.tables.exec = Jvm.exec) {dflt low high : Int} {offs : Array Int} {len : Nat} {o : Int} {i : Int32} (t : Nat) (hd : decode c.code pc = .ok (.tableswitch dflt low high offs, len)) (hin : ¬ (i.toInt < low ∨ i.toInt > high)) (hoff : offs[(i.toInt - low).toNat]? = some o) (ht : (pc : Int) + o = t) (F : Go p e below Fe Q K N T (mkF m t Ls rest)) : Go p e below Fe Q K N T (mkF m pc Ls (.int i :: rest)) :=
  go (fun _ h => XS.tswIn X.here hx rfl (pc0 := pc) (pc' := t) rfl hd rfl hin hoff (by rw [ht]; exact Int.natCast_nonneg _) (by rw [ht]; rfl) h) F
theorem callVU (X : Stand p l e R s m args below meth c T locs cells slots) (hx : p.tables.exec = Jvm.exec) (hZ : Z.Warmed39 s.vm) {own C owner : String} {index : Nat} {y z : MethodName} {bytes : ByteArray} {maxL W : Nat} {ret : Option FieldType} {rm : Room} {Qc : Option Value → Heap → List Loc → Prop} {argsL : List Value} {a : Addr} (hown : s.vm.findClass own = some m.cls)
    (wl : (Cond.methodLink own index y).before a0 Z = true) (wsm : (Cond.sameMethod y.cls owner y.name y.desc).before a0 Z = true) (wd : (Cond.declares ⟨owner, y.name, y.desc⟩).before a0 Z = true) (wsel : (Cond.selects C y z).before a0 Z = true) (wm : (Cond.instanceMethod z).before a0 Z = true) (wi : (Cond.initialized z.cls).before a0 Z = true) (wc : (Cond.code z bytes maxL ret).before a0 Z = true) (hy : owner ≠ "java/lang/invoke/MethodHandle" ∧ owner ≠ "java/lang/invoke/VarHandle")
    (hM : Met l Z z bytes maxL ret [] rm (Value.ref a :: argsL).toArray h Qc) (eT : T.heap = h) (E : Exa Z h a C) (hf : rm.frames + 1 ≤ R.frames) (hl : W + (maxL + 11) + rm.locals ≤ R.locals) (hck : cells + rm.cells ≤ R.cells) (hsk : slots + rm.slots ≤ R.slots) (hsz : Ls.size = c.maxLocals)
    (hlen : ∀ sig, parseMethodDescriptor y.desc = some sig → argsL.length = sig.parameters.length) (hst : st = argsL.reverse ++ .ref a :: rest) (hW : (rest.map fun v => v.category).sum ≤ W) (hd : decode c.code pc = .ok (.invokevirtual index, 3)) (hn : pc + 3 = n)
    (F : ∀ T' v L, Stand p l e R s m args below meth c T' (locs ++ L) (cells + rm.cells) (slots + rm.slots) → Qc v T'.heap L → Go p e below Fe Q K N T' (mkF m n Ls (v.toList ++ rest))) : Go p e below Fe Q K N T (mkF m pc Ls st) := by
  subst hn
  obtain ⟨cq, kq, qa, qb, qc⟩ := isOf hZ eT E
  obtain ⟨v, _, ⟨T18, L18, k18, n18⟩, -, X18, ⟨Lc18, hQ18, l18, y18, z18⟩, st18⟩ := X.virtualBackUp hx (x := y) (y := z) hown (mvT hZ wl) (mvT hZ wsm) (mvT hZ wd) hy (mvT hZ wsel) (mvT hZ wm) (backOf (W := W) hM hZ wc wi hf hl) qa qc (g := mkF m pc Ls st) rfl hsz (Steps.refl _) (argsL := argsL) (rest := rest) hlen hst (by show 2 * 0 + _ ≤ _; omega) hd (fun _ _ => ⟨rfl, eT, hck, hsk⟩)
  dsimp only [Pt.U, Pt.locs, Pt.cells, Pt.slots] at X18 l18 y18 z18 st18 hQ18
  subst l18 y18 z18
  exact go (fun _ h => st18.trans h) (F T18 v Lc18 X18 hQ18)
theorem callVUP (X : Stand p l e R s m args below meth c T locs cells slots) (hx : p.tables.exec = Jvm.exec) (hZ : Z.Warmed39 s.vm) {own C owner : String} {index : Nat} {y z : MethodName} {bytes : ByteArray} {maxL W : Nat} {ret : Option FieldType} {fr lo : Nat} {w : Value} {argsL : List Value} {a : Addr} (hown : s.vm.findClass own = some m.cls)
    (wl : (Cond.methodLink own index y).before a0 Z = true) (wsm : (Cond.sameMethod y.cls owner y.name y.desc).before a0 Z = true) (wd : (Cond.declares ⟨owner, y.name, y.desc⟩).before a0 Z = true) (wsel : (Cond.selects C y z).before a0 Z = true) (wm : (Cond.instanceMethod z).before a0 Z = true) (wi : (Cond.initialized z.cls).before a0 Z = true) (wc : (Cond.code z bytes maxL ret).before a0 Z = true) (hy : owner ≠ "java/lang/invoke/MethodHandle" ∧ owner ≠ "java/lang/invoke/VarHandle")
    (hM : Met l Z z bytes maxL ret [] { frames := fr, cells := 0, slots := 0, locals := lo } (Value.ref a :: argsL).toArray h (Pu w h)) (eT : T.heap = h) (E : Exa Z h a C) (hf : fr + 1 ≤ R.frames) (hl : W + (maxL + 11) + lo ≤ R.locals) (hck : cells ≤ R.cells) (hsk : slots ≤ R.slots) (hsz : Ls.size = c.maxLocals)
    (hlen : ∀ sig, parseMethodDescriptor y.desc = some sig → argsL.length = sig.parameters.length) (hst : st = argsL.reverse ++ .ref a :: rest) (hW : (rest.map fun v => v.category).sum ≤ W) (hd : decode c.code pc = .ok (.invokevirtual index, 3)) (hn : pc + 3 = n)
    (F : ∀ T', Stand p l e R s m args below meth c T' locs cells slots → T'.heap = h → Go p e below Fe Q K N T' (mkF m n Ls (w :: rest))) : Go p e below Fe Q K N T (mkF m pc Ls st) := by
  refine callVU X hx hZ hown wl wsm wd wsel wm wi wc hy hM eT E hf hl hck hsk hsz hlen hst hW hd hn ?_
  rintro T' v L X' ⟨rfl, rfl, hh⟩
  rw [List.append_nil] at X'
  exact F T' X' hh
theorem cutF (g' : JFrame) {g : JFrame} (h1 : Go p e below Fe Q K N T g' → Go p e below Fe Q K N T g) (h2 : Go p e below Fe Q K N T g') : Go p e below Fe Q K N T g := h1 h2
theorem cutJ (g' : Int32 → JFrame) {g : JFrame} (h1 : (∀ j, Go p e below Fe Q K N T (g' j)) → Go p e below Fe Q K N T g) (h2 : ∀ j, Go p e below Fe Q K N T (g' j)) : Go p e below Fe Q K N T g := h1 h2
theorem cutX (X : Stand p l e R s m args below meth c T locs cells slots) (eT : T.heap = h) (g' : JFrame) {g : JFrame} (h1 : (∀ T', Stand p l e R s m args below meth c T' locs cells slots → T'.heap = h → Go p e below Fe Q K N T' g') → Go p e below Fe Q K N T g) (h2 : ∀ T', Stand p l e R s m args below meth c T' locs cells slots → T'.heap = h → Go p e below Fe Q K N T' g') : Go p e below Fe Q K N T g := h1 h2
theorem pu {w : Value} {h' : Heap} (e : h' = h) : Pu w h (some w) h' [] := ⟨rfl, rfl, e⟩
theorem puE {w w' : Value} {h' : Heap} (q : w' = w) (e : h' = h) : Pu w h (some w') h' [] := ⟨by rw [q], rfl, e⟩
theorem puB1 {P : Prop} [Decidable P] {h' : Heap} (hP : P) (e : h' = h) : Pu (.int (b P)) h (some (.int 1)) h' [] := ⟨by rw [b_t hP], rfl, e⟩
theorem puB0 {P : Prop} [Decidable P] {h' : Heap} (hP : ¬ P) (e : h' = h) : Pu (.int (b P)) h (some (.int 0)) h' [] := ⟨by rw [b_f hP], rfl, e⟩
end W
section A
theorem t_add {x y : Int32} {a b' : Int} (ha : x.toInt = a) (hb : y.toInt = b') (h1 : -2147483648 ≤ a + b') (h2 : a + b' < 2147483648) : (x + y).toInt = a + b' := by
  subst ha hb; rw [Int32.toInt_add]; exact Int.bmod_eq_of_le (by omega) (by omega)
theorem t_sub {x y : Int32} {a b' : Int} (ha : x.toInt = a) (hb : y.toInt = b') (h1 : -2147483648 ≤ a - b') (h2 : a - b' < 2147483648) : (x - y).toInt = a - b' := by
  subst ha hb; rw [Int32.toInt_sub]; exact Int.bmod_eq_of_le (by omega) (by omega)
theorem t_mul {x y : Int32} {a b' : Int} (ha : x.toInt = a) (hb : y.toInt = b') (h1 : -2147483648 ≤ a * b') (h2 : a * b' < 2147483648) : (x * y).toInt = a * b' := by
  subst ha hb; rw [Int32.toInt_mul]; exact Int.bmod_eq_of_le (by omega) (by omega)
theorem t_div {x y : Int32} {a d : Int} (ha : x.toInt = a) (hb : y.toInt = d) (h0 : 0 ≤ a) (hd : 0 < d) : (x / y).toInt = a / d := by
  subst ha hb
  have hy : y ≠ -1 := fun q => by rw [q] at hd; exact absurd hd (by decide)
  exact (c_idiv x y _ rfl hy).1 h0
theorem t_rem {x y : Int32} {a d : Int} (ha : x.toInt = a) (hb : y.toInt = d) (h0 : 0 ≤ a) : (x % y).toInt = a % d := by
  subst ha hb; exact (c_irem x y _ rfl).1 h0
theorem s_add {x y : Int64} {a b' : Int} (ha : x.toInt = a) (hb : y.toInt = b') (h1 : -9223372036854775808 ≤ a + b') (h2 : a + b' < 9223372036854775808) : (x + y).toInt = a + b' := by
  subst ha hb; rw [Int64.toInt_add]; exact Int.bmod_eq_of_le (by omega) (by omega)
theorem s_sub {x y : Int64} {a b' : Int} (ha : x.toInt = a) (hb : y.toInt = b') (h1 : -9223372036854775808 ≤ a - b') (h2 : a - b' < 9223372036854775808) : (x - y).toInt = a - b' := by
  subst ha hb; rw [Int64.toInt_sub]; exact Int.bmod_eq_of_le (by omega) (by omega)
theorem t_i2l {x : Int32} {a : Int} (ha : x.toInt = a) : x.toInt64.toInt = a := by rw [Int32.toInt_toInt64]; exact ha
theorem s_l2i {x : Int64} {a : Int} (ha : x.toInt = a) (h1 : -2147483648 ≤ a) (h2 : a < 2147483648) : x.toInt32.toInt = a := by
  have := c_l2i x; have h3 := x.toInt32.toInt_lt; have h4 := x.toInt32.le_toInt; omega
theorem t_i2s {x : Int32} {a : Int} (ha : x.toInt = a) (h1 : -32768 ≤ a) (h2 : a < 32768) : x.toInt16.toInt32.toInt = a := by
  have := c_i2s x; omega
end A
section V
variable {args : Array Value} {first s : State} {o : Option Outcome} {idx : List Nat} {t : Term}
theorem eqI_v {k : Int32} (h : (Cond.eq t (.int k)).value args first o s idx = some true) : t.eval args first o idx s = some (.int k) := by
  simp only [Cond.value, Term.eval] at h
  cases ht : t.eval args first o idx s with
  | none => simp [ht] at h
  | some x => cases x <;> simp [ht] at h ⊢; exact h
theorem eqJ_v {k : Int64} (h : (Cond.eq t (.long k)).value args first o s idx = some true) : t.eval args first o idx s = some (.long k) := by
  simp only [Cond.value, Term.eval] at h
  cases ht : t.eval args first o idx s with
  | none => simp [ht] at h
  | some x => cases x <;> simp [ht] at h ⊢; exact h
theorem foldl_all {f : Nat → Option Bool} : ∀ (L : List Nat) (acc : Option Bool), L.foldl (fun acc i => match acc with | some true => f i | x => x) acc = some true → acc = some true ∧ ∀ i ∈ L, f i = some true
  | [], acc, h => ⟨h, fun _ q => nomatch q⟩
  | i :: L, acc, h => by
    obtain ⟨h1, h2⟩ := foldl_all L _ h
    match acc, h1 with
    | some true, h1 => exact ⟨rfl, fun j q => (List.mem_cons.mp q).elim (fun z => z ▸ h1) (h2 j)⟩
theorem all_v {c : Cond} {a : Addr} {cell : Cell} (h : (Cond.all t c).value args first o s idx = some true) (ht : t.eval args first o idx s = some (.ref a)) (hc : s.arrayAt? a = some cell) : ∀ i, i < cell.slots.size → c.value args first o s (i :: idx) = some true := by
  simp only [Cond.value, ht, hc] at h
  exact fun i hi => (foldl_all _ _ h).2 i (List.mem_range.mpr hi)
theorem elI {x : Addr} {j k : Int32} {cl : Cell} {i : Nat} (h : (Cond.eq (.elem t (.int j)) (.int k)).value args first o s idx = some true) (ht : t.eval args first o idx s = some (.ref x)) (hc : s.heap[x]? = some cl) (hi : j.toNatClampNeg = i) : cl.slots[i]? = some (.int k) := by
  subst hi; exact (elem_in (eqI_v h) ht rfl hc).2
theorem elN {x : Addr} {j : Int32} {cl : Cell} {i : Nat} (h : (Cond.eq (.elem t (.int j)) .null).value args first o s idx = some true) (ht : t.eval args first o idx s = some (.ref x)) (hc : s.heap[x]? = some cl) (hi : j.toNatClampNeg = i) : cl.slots[i]? = some .null := by
  subst hi; exact (elem_in (null_v h) ht rfl hc).2
theorem eqR_v {t' : Term} {v : Value} (hv : v.isRef = true) (h : (Cond.eq t t').value args first o s idx = some true) (ht : t'.eval args first o idx s = some v) : t.eval args first o idx s = some v := by
  obtain ⟨x, y, e1, e2, k1, k2⟩ := cmp_v (Or.inl h)
  cases ht.symm.trans e2
  have hx : x.isRef = true := by rcases ref_cases hv with rfl | ⟨z, rfl⟩ <;> exact k2.2
  rw [e1, gotT (eq_R e1 e2 hx hv) h]
theorem elR {x y : Addr} {j : Int32} {cl : Cell} {i : Nat} {t' : Term} (h : (Cond.eq (.elem t (.int j)) t').value args first o s idx = some true) (hy : t'.eval args first o idx s = some (.ref y)) (ht : t.eval args first o idx s = some (.ref x)) (hc : s.heap[x]? = some cl) (hi : j.toNatClampNeg = i) : cl.slots[i]? = some (.ref y) := by
  subst hi; exact (elem_in (eqR_v rfl h hy) ht rfl hc).2
theorem or_f {c d : Cond} (h : (Cond.or c d).value args first o s idx = some true) (hc : c.value args first o s idx = some false) : d.value args first o s idx = some true := by
  simpa only [Cond.value, hc] using h
theorem len_fit {x : Addr} {cl : Cell} {ty : FieldType} {k : Int32} {Z : State} (h : (Cond.eq (.length t) (.int k)).value args Z none Z [] = some true) (ht : t.eval args Z none [] Z = some (.ref x)) (A : Arr Z Z.heap x cl ty) : cl.slots.size < 2 ^ 31 ∧ cl.slots.size.toInt32 = k := by
  have h1 := eqI_v h
  have h2 : Z.arrayAt? x = some cl := A.fin (Vm.Alike.refl _)
  simp only [Term.eval, ht, h2, Option.bind_eq_bind, Option.bind_some] at h1
  by_cases q : cl.slots.size < 2 ^ 31
  · simp [q] at h1; exact ⟨q, h1⟩
  · simp [q] at h1
theorem fldI {Z : State} {a : Addr} {C n d : String} {k : Int32} (ev : t.eval args Z none [] Z = some (.ref a)) (h : (Cond.eq (.field t C n d) (.int k)).value args Z none Z [] = some true) : Fld Z Z.heap a C n d (.int k) := Fld.start ((fld_at ev).symm.trans (eqI_v h))
theorem fldJ {Z : State} {a : Addr} {C n d : String} {k : Int64} (ev : t.eval args Z none [] Z = some (.ref a)) (h : (Cond.eq (.field t C n d) (.long k)).value args Z none Z [] = some true) : Fld Z Z.heap a C n d (.long k) := Fld.start ((fld_at ev).symm.trans (eqJ_v h))
end V

section H
variable {p : Program} {l : Launch} {e : Env} {R : Room} {s : State} {m : MethodId} {args : Array Value} {below : List Frame} {meth : Method} {c : Code} {T T' : State} {locs : List Loc} {cells slots : Nat} {Q : Option Value → Heap → List Loc → Prop} {Fe : Outcome → State → List Loc → Nat → Nat → Prop} {vm0 : Vm} {K N pc n t k0 : Nat} {Ls l' : Array Slot} {st rest : List Value} {Z : State} {a0 : Array Value} {h : Heap}
/-- a law that writes only what it made -/
def Fq (w : Value) (n0 : Nat) (v : Option Value) (h : Heap) (L : List Loc) : Prop := v = some w ∧ Fr n0 L
theorem newO (X : Stand p l e R s m args below meth c T locs cells slots) (hx : p.tables.exec = Jvm.exec) (hZ : Z.Warmed39 s.vm) {own C : String} {index k : Nat} (hown : s.vm.findClass own = some m.cls) (w : (Cond.classLink own index C).before a0 Z = true) (wi : (Cond.instantiable C k).before a0 Z = true) (wz : (Cond.initialized C).before a0 Z = true) (eT : T.heap = h) (hd : decode c.code pc = .ok (.new index, 3)) (hc : cells + 1 ≤ R.cells) (hl : slots + k ≤ R.slots) (hn : pc + 3 = n)
    (F : ∀ T' h', Stand p l e R s m args below meth c T' locs (cells + 1) (slots + k) → T'.heap = h' → Ext h h' → Exa Z h' h.size C → (∀ {O nm d : String} {ty : FieldType}, Laid Z a0 C O nm d → parseFieldDescriptor d = some ty → Fld Z h' h.size O nm d (defaultValue ty)) → Go p e below Fe Q K N T' (mkF m n Ls (.ref h.size :: st))) : Go p e below Fe Q K N T (mkF m pc Ls st) := by
  subst hn
  obtain ⟨T2, h2, X2, e2, E2, A2, D2, -, st2⟩ := RoadKit.newO X hx hZ hown w wi wz eT (g := mkF m pc Ls st) rfl hd hc hl
  exact go (fun _ h => st2 _ h) (F T2 h2 X2 e2 E2 A2 D2)
theorem putF (X : Stand p l e R s m args below meth c T locs cells slots) (hx : p.tables.exec = Jvm.exec) (hZ : Z.Warmed39 s.vm) {own O f d host C : String} {index kk : Nat} {ty : FieldType} (hown : s.vm.findClass own = some m.cls) (w : (Cond.fieldLink own index O f d).before a0 Z = true ∨ (Cond.fieldLinkNest own index O f d host).before a0 Z = true) (eT : T.heap = h) {a : Addr} {v old : Value} (S : Fld Z h a O f d old) (E : Exa Z h a C)
    (L : (Cond.lays C O f d).before a0 Z = true ∨ ((Cond.laysFinal C O f d).before a0 Z = true ∧ own = O ∧ meth.name = "<init>")) (wi : (Cond.instantiable C kk).before a0 Z = true) (hty : parseFieldDescriptor d = some ty) (hnr : narrow ty v = v) (hf : fits ty v = true) (hd : decode c.code pc = .ok (.putfield index, 3)) (hn : pc + 3 = n)
    (F : ∀ T' h', Stand p l e R s m args below meth c T' (locs ++ [⟨a, RoadKit.slotOf Z O f d⟩]) cells slots → T'.heap = h' → Wr h h' a (RoadKit.slotOf Z O f d) v → Go p e below Fe Q K N T' (mkF m n Ls st)) : Go p e below Fe Q K N T (mkF m pc Ls (v :: .ref a :: st)) := by
  subst hn
  obtain ⟨T2, h2, X2, e2, W2, st2⟩ := RoadKit.putF X hx hZ hown (host := host) w Via.refl eT S E L wi hty hnr hf (g := mkF m pc Ls (v :: .ref a :: st)) rfl rfl hd
  exact go (fun _ h => st2 _ h) (F T2 h2 X2 e2 W2)
theorem initO (X : Stand p l e R s m args below meth c T locs cells slots) (hx : p.tables.exec = Jvm.exec) (hZ : Z.Warmed39 s.vm) {own : String} {idx W : Nat} (hown : s.vm.findClass own = some m.cls) (w1 : (Cond.methodLink own idx Lib.objectInit).before a0 Z = true) (w2 : (Cond.instanceMethod Lib.objectInit).before a0 Z = true) (w3 : (Cond.code Lib.objectInit ⟨#[0xb1]⟩ 1 none).before a0 Z = true) (eT : T.heap = h) {a : Addr} (hsz : Ls.size = c.maxLocals) (hf : 1 ≤ R.frames) (hW : (st.map fun v => v.category).sum ≤ W) (hl : W + 12 ≤ R.locals) (hd : decode c.code pc = .ok (.invokespecial idx, 3)) (hn : pc + 3 = n)
    (F : ∀ T', Stand p l e R s m args below meth c T' locs cells slots → T'.heap = h → Go p e below Fe Q K N T' (mkF m n Ls st)) : Go p e below Fe Q K N T (mkF m pc Ls (.ref a :: st)) := by
  subst hn
  obtain ⟨T2, X2, e2, st2⟩ := RoadKit.initO X hx hZ hown w1 w2 w3 eT (g := mkF m pc Ls (.ref a :: st)) rfl hsz rfl hd hf (W := W) (by show 2 * 0 + _ ≤ _; omega) hl
  exact go (fun _ h => st2 _ h) (F T2 X2 e2)
theorem callI (X : Stand p l e R s m args below meth c T locs cells slots) (hx : p.tables.exec = Jvm.exec) (hZ : Z.Warmed39 s.vm) {own : String} {index : Nat} {y : MethodName} {bytes : ByteArray} {maxL W : Nat} {rm : Room} {Qc : Option Value → Heap → List Loc → Prop} {argsL : List Value} {a : Addr} (hy1 : y.name = "<init>") (hown : s.vm.findClass own = some m.cls)
    (wl : (Cond.methodLink own index y).before a0 Z = true) (wm : (Cond.instanceMethod y).before a0 Z = true) (wi : (Cond.initialized y.cls).before a0 Z = true) (wc : (Cond.code y bytes maxL none).before a0 Z = true) (hy : y.cls ≠ "java/lang/invoke/MethodHandle" ∧ y.cls ≠ "java/lang/invoke/VarHandle")
    (hM : Met l Z y bytes maxL none [] rm (Value.ref a :: argsL).toArray h Qc) (eT : T.heap = h) (hf : rm.frames + 1 ≤ R.frames) (hl : W + (maxL + 11) + rm.locals ≤ R.locals) (hck : cells + rm.cells ≤ R.cells) (hsk : slots + rm.slots ≤ R.slots) (hsz : Ls.size = c.maxLocals)
    (hlen : ∀ sig, parseMethodDescriptor y.desc = some sig → argsL.length = sig.parameters.length) (hst : st = argsL.reverse ++ .ref a :: rest) (hW : (rest.map fun v => v.category).sum ≤ W) (hd : decode c.code pc = .ok (.invokespecial index, 3)) (hn : pc + 3 = n)
    (F : ∀ T' v L, Stand p l e R s m args below meth c T' (locs ++ L) (cells + rm.cells) (slots + rm.slots) → Qc v T'.heap L → Go p e below Fe Q K N T' (mkF m n Ls (v.toList ++ rest))) : Go p e below Fe Q K N T (mkF m pc Ls st) := by
  subst hn
  obtain ⟨v, _, ⟨T18, L18, k18, n18⟩, -, X18, ⟨Lc18, hQ18, l18, y18, z18⟩, st18⟩ := X.specialBack hx (y := y) hy1 hown (mvT hZ wl) (mvT hZ wm) (mvT hZ wc) hy (backOf (W := W) hM hZ wc wi hf hl) (g := mkF m pc Ls st) rfl hsz (Steps.refl _) (a := a) (argsL := argsL) (rest := rest) hlen hst (by show 2 * 0 + _ ≤ _; omega) hd (fun _ _ => ⟨rfl, eT, hck, hsk⟩)
  dsimp only [Pt.U, Pt.locs, Pt.cells, Pt.slots] at X18 l18 y18 z18 st18 hQ18
  subst l18 y18 z18
  exact go (fun _ h => st18.trans h) (F T18 v Lc18 X18 hQ18)
theorem instY (X : Stand p l e R s m args below meth c T locs cells slots) (hx : p.tables.exec = Jvm.exec) (hZ : Z.Warmed39 s.vm) {own C : String} {index : Nat} (hown : s.vm.findClass own = some m.cls) (w : (Cond.classLink own index C).before a0 Z = true) (eT : T.heap = h) {a : Addr} (E : Exa Z h a C) (hd : decode c.code pc = .ok (.instanceof index, 3)) (hn : pc + 3 = n)
    (F : ∀ T', Stand p l e R s m args below meth c T' locs cells slots → T'.heap = h → Go p e below Fe Q K N T' (mkF m n Ls (.int 1 :: st))) : Go p e below Fe Q K N T (mkF m pc Ls (.ref a :: st)) := by
  subst hn
  obtain ⟨T2, X2, e2, st2⟩ := RoadKit.instY X hx hZ hown w eT (Ins.self E) (g := mkF m pc Ls (.ref a :: st)) rfl rfl hd
  exact go (fun _ h => st2 _ h) (F T2 X2 e2)
theorem castY (X : Stand p l e R s m args below meth c T locs cells slots) (hx : p.tables.exec = Jvm.exec) (hZ : Z.Warmed39 s.vm) {own C : String} {index : Nat} (hown : s.vm.findClass own = some m.cls) (w : (Cond.classLink own index C).before a0 Z = true) (eT : T.heap = h) {a : Addr} (E : Exa Z h a C) (hd : decode c.code pc = .ok (.checkcast index, 3)) (hn : pc + 3 = n)
    (F : ∀ T', Stand p l e R s m args below meth c T' locs cells slots → T'.heap = h → Go p e below Fe Q K N T' (mkF m n Ls (.ref a :: st))) : Go p e below Fe Q K N T (mkF m pc Ls (.ref a :: st)) := by
  subst hn
  obtain ⟨T2, X2, e2, st2⟩ := RoadKit.castY X hx hZ hown w eT (Ins.self E) (g := mkF m pc Ls (.ref a :: st)) rfl rfl hd
  exact go (fun _ h => st2 _ h) (F T2 X2 e2)
theorem newP (X : Stand p l e R s m args below meth c T locs cells slots) (hx : p.tables.exec = Jvm.exec) (hZ : Z.Warmed39 s.vm) {aty : ArrayType} {ty : FieldType} (hty : newarray.typeOf aty = ty) (w : (Cond.arrayClass ty).before a0 Z = true) (eT : T.heap = h) {z : Int32} (hz : ¬ z < 0) (cap : Nat) (hcap : z.toNatClampNeg = cap) (hb : cap * 8 ≤ 536870912) (hc : cells + 1 ≤ R.cells) (hl : slots + cap ≤ R.slots) (hd : decode c.code pc = .ok (.newarray aty, 2)) (hn : pc + 2 = n)
    (F : ∀ T' h' cA, Stand p l e R s m args below meth c T' locs (cells + 1) (slots + cap) → T'.heap = h' → Ext h h' → Arv Z h' h.size cA ty z (List.replicate cap (defaultValue ty)) (defaultValue ty) → Go p e below Fe Q K N T' (mkF m n Ls (.ref h.size :: st))) : Go p e below Fe Q K N T (mkF m pc Ls (.int z :: st)) := by
  subst hn hty
  obtain ⟨T2, h2, cA, X2, e2, E2, A2, st2⟩ := RoadKit.newP X hx hZ w eT (g := mkF m pc Ls (.int z :: st)) rfl hd rfl hz (cap := cap) (Nat.le_of_eq hcap) hb hc hl
  exact go (fun _ h => st2 _ h) (F T2 h2 cA X2 e2 E2 ((Arv.new A2 hz).pad (pad_rep [] _ cap)))

theorem bastore (X : Stand p l e R s m args below meth c T locs cells slots) (hx : p.tables.exec = Jvm.exec) (hZ : Z.Warmed39 s.vm) {a : Addr} {k : ClassId} {z j x : Int32} {vs : List Value} {d : Value} (eT : T.heap = h) (A : Arv Z h a k .byte z vs d) (h1 : 0 ≤ j.toInt) (h2 : j.toInt < z.toInt) (i : Nat) (hj : j.toNatClampNeg = i) (hi : i < vs.length) (hd : decode c.code pc = .ok (.bastore, 1)) (hn : pc + 1 = n)
    (F : ∀ T' h', Stand p l e R s m args below meth c T' (locs ++ [⟨a, j.toNatClampNeg⟩]) cells slots → T'.heap = h' → Wr h h' a j.toNatClampNeg (.int (nar .byte x)) → Arv Z h' a k .byte z (vs.set i (.int (nar .byte x))) d → Go p e below Fe Q K N T' (mkF m n Ls st)) : Go p e below Fe Q K N T (mkF m pc Ls (.int x :: .int j :: .ref a :: st)) := by
  subst hn
  obtain ⟨cl, Ar, q1, S, q3, H, G'⟩ := A
  obtain ⟨T2, h2', X2, e2, W2, st2⟩ := RoadKit.stB X hx hZ eT Ar (in_of S q3 h1 h2) (g := mkF m pc Ls (.int x :: .int j :: .ref a :: st)) rfl rfl hd
  exact go (fun _ h => st2 _ h) (F T2 h2' X2 e2 W2 (Arv.set Ar q1 S q3 H G' (fits_nar_byte x) W2 i hj hi))
theorem castore (X : Stand p l e R s m args below meth c T locs cells slots) (hx : p.tables.exec = Jvm.exec) (hZ : Z.Warmed39 s.vm) {a : Addr} {k : ClassId} {z j x : Int32} {vs : List Value} {d : Value} (eT : T.heap = h) (A : Arv Z h a k .char z vs d) (h1 : 0 ≤ j.toInt) (h2 : j.toInt < z.toInt) (i : Nat) (hj : j.toNatClampNeg = i) (hi : i < vs.length) (hd : decode c.code pc = .ok (.castore, 1)) (hn : pc + 1 = n)
    (F : ∀ T' h', Stand p l e R s m args below meth c T' (locs ++ [⟨a, j.toNatClampNeg⟩]) cells slots → T'.heap = h' → Wr h h' a j.toNatClampNeg (.int (nar .char x)) → Arv Z h' a k .char z (vs.set i (.int (nar .char x))) d → Go p e below Fe Q K N T' (mkF m n Ls st)) : Go p e below Fe Q K N T (mkF m pc Ls (.int x :: .int j :: .ref a :: st)) := by
  subst hn
  obtain ⟨cl, Ar, q1, S, q3, H, G'⟩ := A
  obtain ⟨T2, h2', X2, e2, W2, st2⟩ := RoadKit.stC X hx hZ eT Ar (in_of S q3 h1 h2) (g := mkF m pc Ls (.int x :: .int j :: .ref a :: st)) rfl rfl hd
  exact go (fun _ h => st2 _ h) (F T2 h2' X2 e2 W2 (Arv.set Ar q1 S q3 H G' (fits_nar_char x) W2 i hj hi))
theorem iastore (X : Stand p l e R s m args below meth c T locs cells slots) (hx : p.tables.exec = Jvm.exec) (hZ : Z.Warmed39 s.vm) {a : Addr} {k : ClassId} {z j x : Int32} {vs : List Value} {d : Value} (eT : T.heap = h) (A : Arv Z h a k .int z vs d) (h1 : 0 ≤ j.toInt) (h2 : j.toInt < z.toInt) (i : Nat) (hj : j.toNatClampNeg = i) (hi : i < vs.length) (hd : decode c.code pc = .ok (.iastore, 1)) (hn : pc + 1 = n)
    (F : ∀ T' h', Stand p l e R s m args below meth c T' (locs ++ [⟨a, j.toNatClampNeg⟩]) cells slots → T'.heap = h' → Wr h h' a j.toNatClampNeg (.int (x)) → Arv Z h' a k .int z (vs.set i (.int (x))) d → Go p e below Fe Q K N T' (mkF m n Ls st)) : Go p e below Fe Q K N T (mkF m pc Ls (.int x :: .int j :: .ref a :: st)) := by
  subst hn
  obtain ⟨cl, Ar, q1, S, q3, H, G'⟩ := A
  obtain ⟨T2, h2', X2, e2, W2, st2⟩ := RoadKit.stI X hx hZ eT Ar (in_of S q3 h1 h2) (g := mkF m pc Ls (.int x :: .int j :: .ref a :: st)) rfl rfl hd
  exact go (fun _ h => st2 _ h) (F T2 h2' X2 e2 W2 (Arv.set Ar q1 S q3 H G' (rfl) W2 i hj hi))
def FldE (Z : State) (h : Heap) (a : Addr) (C n d : String) : Prop := ∃ v, Fld Z h a C n d v
theorem FldE.of {Z : State} {h : Heap} {a : Addr} {C n d : String} {v : Value} (F : Fld Z h a C n d v) : FldE Z h a C n d := ⟨v, F⟩
theorem FldE.ext {Z : State} {h h' : Heap} {a : Addr} {C n d : String} (F : FldE Z h a C n d) (E : Ext h h') : FldE Z h' a C n d := by obtain ⟨v, F⟩ := F; exact ⟨v, F.ext E⟩
theorem FldE.keep {Z : State} {h h' : Heap} {ws : List Addr} {a : Addr} {C n d : String} (F : FldE Z h a C n d) (K : Keep h h' ws) : FldE Z h' a C n d := by
  obtain ⟨v, cell, cf, k, i, f, h1, h2, h3, h4, h5, h6, h7⟩ := F
  obtain ⟨c', q, r1, r2, r3⟩ := K.2.2 a cell h1
  have hlt := (Array.getElem?_eq_some_iff.mp h7).1
  exact ⟨_, c', cf, k, i, f, q, h2, h3, r2 ▸ h4, r2 ▸ h5, r1 ▸ h6, Array.getElem?_eq_getElem (r3 ▸ hlt)⟩
theorem FldE.wr {Z : State} {h h' : Heap} {a b' : Addr} {C n d : String} {sl : Nat} {v : Value} (F : FldE Z h b' C n d) (W : Wr h h' a sl v) : FldE Z h' b' C n d := F.keep (Keep.of_wr W)
theorem nfOf {args : Array Value} {s : State} {C : String} {y y' z' : MethodName} (hsel : (Cond.selects C y' z').before args s = true) (hc : z'.cls = y.cls) : NotFace s y := fun r0 h0 => by
  obtain ⟨c2, r2, m2, q1, q2, q3, q4, kP, hkP, hkPi⟩ := Cond.selects_spec hsel
  have h1 := findClass_of_methodNamed q3
  have h2 := findClass_of_methodNamed h0
  rw [hc] at h1
  have e : m2.cls = r0.cls := Option.some.inj (h1.symm.trans h2)
  exact ⟨kP, e ▸ hkP, hkPi⟩
theorem acopy (X : Stand p l e R s m args below meth c T locs cells slots) (hx : p.tables.exec = Jvm.exec) (hZ : Z.Warmed39 s.vm) {own : String} {index : Nat} (hown : s.vm.findClass own = some m.cls) (wl : (Cond.methodLink own index Stand.acN).before a0 Z = true) (wn : (Cond.native Stand.acN).before a0 Z = true) (ws : (Cond.static Stand.acN).before a0 Z = true) (wi : (Cond.initialized "java/lang/System").before a0 Z = true) (eT : T.heap = h)
    {src dst : Addr} {k1 k2 : ClassId} {z1 z2 p1 p2 q : Int32} {vs1 vs2 : List Value} {d1 d2 : Value} (A1 : Arv Z h src k1 .int z1 vs1 d1) (A2 : Arv Z h dst k2 .int z2 vs2 d2) (h1 : 0 ≤ p1.toInt) (h2 : 0 ≤ p2.toInt) (h3 : 0 ≤ q.toInt) (h4 : p1.toInt + q.toInt ≤ z1.toInt) (h5 : p2.toInt + q.toInt ≤ z2.toInt)
    {W : Nat} (hsz : Ls.size = c.maxLocals) (hf : 1 ≤ R.frames) (hW : (st.map fun v => v.category).sum ≤ W) (hl : W + (nativeFrameWords "java/lang/System" "arraycopy" 5 + 11) ≤ R.locals) (hd : decode c.code pc = .ok (.invokestatic index, 3)) (hn : pc + 3 = n)
    (F : ∀ T' h', Stand p l e R s m args below meth c T' (locs ++ Stand.copyLocs dst p2.toNatClampNeg q.toNatClampNeg) cells slots → T'.heap = h' → Keep h h' [dst] → Go p e below Fe Q K N T' (mkF m n Ls st)) : Go p e below Fe Q K N T (mkF m pc Ls (.int q :: .int p2 :: .ref dst :: .int p1 :: .ref src :: st)) := by
  subst hn
  subst eT
  obtain ⟨cs, As, -, Ss, Ns, Hs, Gs⟩ := A1
  obtain ⟨cd, Ad, -, Sd, Nd, Hd, Gd⟩ := A2
  have isA := State.isArrayOf_alike hZ.alike As.2.1
  have idA := State.isArrayOf_alike hZ.alike Ad.2.1
  obtain ⟨-, ks, hks, sC, hsk⟩ := isA
  obtain ⟨-, kd, hkd, dC, hdk⟩ := idA
  have en : ∀ x : Int32, 0 ≤ x.toInt → ¬ x < 0 := fun x hx0 => by rw [Int32.lt_iff_toInt_lt]; have e0 : (0 : Int32).toInt = 0 := rfl; omega
  have ez : ∀ x : Int32, ¬ x < 0 → (x.toNatClampNeg : Int) = x.toInt := fun x hx0 => by
    rw [Int32.lt_iff_toInt_lt] at hx0; have e0 : (0 : Int32).toInt = 0 := rfl; have e1 : x.toNatClampNeg = x.toInt.toNat := rfl; omega
  have e1 := ez z1 Ns; have e2 := ez z2 Nd; have e3 := ez p1 (en p1 h1); have e4 := ez q (en q h3); have e5 := ez p2 (en p2 h2)
  obtain ⟨vm₁, -, X', st'⟩ := X.arraycopyK hx hown (mvT hZ wl) (mvT hZ wn) (mvT hZ ws) (mvT hZ wi) (src := src) (dst := dst) (srcPos := p1) (destPos := p2) (n := q) (cs := cs) (cd := cd) As.1 Ad.1
    (fun z e => by have := As.plain; rw [e] at this; cases this) (fun z e => by have := Ad.plain; rw [e] at this; cases this) As.2.2 Ad.2.2 hks hkd hsk hdk rfl (en p1 h1) (en p2 h2) (en q h3) (by rw [Ss]; omega) (by rw [Sd]; omega)
    (fun vm' _ i hi => by
      have hlt : p1.toNatClampNeg + i < cs.slots.size := by rw [Ss]; omega
      have hh := Hs _ hlt
      have hg := Gs _ hlt
      have hgd : cs.slots.getD (p1.toNatClampNeg + i) .null = vs1.getD (p1.toNatClampNeg + i) d1 := by rw [Array.getD_eq_getD_getElem?, hh]; rfl
      rw [hgd]
      refine ⟨hg, ?_⟩
      obtain ⟨x, hx'⟩ := fit_I hg (Or.inl rfl)
      rw [hx']; trivial)
    (g := mkF m pc Ls (.int q :: .int p2 :: .ref dst :: .int p1 :: .ref src :: st)) rfl hsz rfl hd hf (by show 2 * 0 + _ + _ ≤ _; omega)
  refine go (fun _ h => st' _ h) (F _ _ X' rfl ?_)
  have cf := SB.copied_facts cs cd p1 p2 q
  have hb : dst < T.heap.size := (Array.getElem?_eq_some_iff.mp Ad.1).1
  refine ⟨by show T.heap.size ≤ (T.heap.setIfInBounds dst _).size; simp, fun x c hc hx' => ?_, fun x c hc => ?_⟩
  · show (T.heap.setIfInBounds dst _)[x]? = _
    have hne : dst ≠ x := fun z => hx' (by simp [z])
    rw [Array.getElem?_setIfInBounds_ne hne]; exact hc
  · show ∃ c', (T.heap.setIfInBounds dst _)[x]? = some c' ∧ _
    by_cases z : dst = x
    · subst z; cases Ad.1.symm.trans hc
      exact ⟨_, Array.getElem?_setIfInBounds_self_of_lt hb, cf⟩
    · exact ⟨c, by rw [Array.getElem?_setIfInBounds_ne z]; exact hc, rfl, rfl, rfl⟩
theorem ext_of_keep {h h' : Heap} (K : Keep h h' []) : Ext h h' := ⟨K.1, fun a c q => K.2.1 a c q nin0⟩
theorem keep_of_ext {h h' : Heap} (E : Ext h h') : Keep h h' [] := (Keep.refl _ _).ext E
theorem ext_refl (h : Heap) : Ext h h := ⟨Nat.le_refl _, fun _ _ q => q⟩
theorem ext_trans {h h' h'' : Heap} (E : Ext h h') (E' : Ext h' h'') : Ext h h'' := ⟨Nat.le_trans E.1 E'.1, fun a c q => E'.2 a c (E.2 a c q)⟩
end H
section WD
variable {p : Program} {l : Launch} {e : Env} {R : Room} {s : State} {m : MethodId} {args : Array Value} {below : List Frame} {meth : Method} {c : Code} {T T' : State} {locs : List Loc} {cells slots : Nat} {Q : Option Value → Heap → List Loc → Prop} {Fe : Outcome → State → List Loc → Nat → Nat → Prop} {vm0 : Vm} {K N pc n t k0 : Nat} {Ls l' : Array Slot} {st rest : List Value} {Z : State} {a0 : Array Value} {h : Heap}
/-- a contract of a method that may intern -/
def MetW (l : Launch) (Z : State) (y : MethodName) (bytes : ByteArray) (maxL : Nat) (ret : Option FieldType) (ws : List Cond) (rm : Room) (as' : Array Value) (h0 : Heap) (Q : Option Value → Heap → List Loc → Prop) : Prop :=
  MetFree l y (head1 (Cond.code y bytes maxL ret :: ws) rm) (fun a U => a = as' ∧ Z.Warmed39 U.vm ∧ U.heap = h0) (fun _ _ _ _ _ => True) (fun _ U o U' => ∃ v L, o = .returned v ∧ Q v U'.heap L ∧ ReturnedEndW U o U' L rm.cells rm.slots)
theorem startW {y : MethodName} {bytes : ByteArray} {maxL : Nat} {ret : Option FieldType} {ws : List Cond} {rm : Room} {as' : Array Value} {h0 : Heap} (pn : plainName y.cls = true)
    (body : ∀ (p : Program) (e : Env) (s : State) (vm0 : Vm) (m : MethodId) (below : List Frame) (meth : Method) (c : Code) (s₁ : State), Stand p l e rm (s.setVm vm0) m as' below meth c s₁ [] 0 0 → p.tables.exec = Jvm.exec → c.code = bytes → c.maxLocals = maxL → (s.setVm vm0).vm.findClass y.cls = some m.cls → meth.name = y.name → meth.sig.returnType = ret → meth.locks = false → Z.Warmed39 (s.setVm vm0).vm → s.Since vm0 0 → s₁.heap = h0 → s₁.heap = s.heap → Go p e below (ReturnedEndW s) Q rm.cells rm.slots s₁ (entryFrame m as' maxL)) : MetW l Z y bytes maxL ret ws rm as' h0 Q := by
  refine MetFree.of_bodySF (plainFor_of_name pn) hisR ?_
  intro p e s m args below meth c s₁ Bd hml0 hP hK
  obtain ⟨rfl, hZ, hh⟩ := hP
  exact body p e s s.vm m below meth c s₁ (show Stand p l e rm s m _ below meth c s₁ [] 0 0 from Stand.of_body Bd) Bd.exec Bd.bytes hml0 (findClass_of_methodNamed Bd.named) (name_of_methodNamed Bd.named Bd.method).1 Bd.returns Bd.notSynchronized hZ ((State.WarmedH.refl s).since 0) (by rw [← hh, Bd.state]; rfl) (by rw [Bd.state]; rfl)
theorem ldcW0 (X : Stand p l e R (s.setVm vm0) m args below meth c T locs cells slots) (hx : p.tables.exec = Jvm.exec) (hZ : Z.Warmed39 (s.setVm vm0).vm) (hS : s.Since vm0 k0) {own text : String} {index : Nat} (hown : (s.setVm vm0).vm.findClass own = some m.cls) (w : (Cond.stringLink own index text).before a0 Z = true) (wS : ∀ a ∈ Bundle.stringAtoms, a.before a0 Z = true) (eT : T.heap = h) (hk0 : k0 ≤ h.size) (len : Nat) (hlen : 4 * text.toList.length ≤ len) (hbig : len ≤ 536870912) (hc : cells + 2 ≤ R.cells) (hl : slots + (len + 4) ≤ R.slots) (hd : decode c.code pc = .ok (.ldc index, 2)) (hn : pc + 2 = n)
    (F : ∀ a T' h' vm1 k1, Stand p l e R (s.setVm vm1) m args below meth c T' locs (cells + 2) (slots + (len + 4)) → T'.heap = h' → Ext h h' → s.Since vm1 k1 → k1 ≤ h'.size → Z.Warmed39 (s.setVm vm1).vm → (s.setVm vm1).vm.findClass own = some m.cls → Go p e below Fe Q K N T' (mkF m n Ls (.ref a :: st))) : Go p e below Fe Q K N T (mkF m pc Ls st) := by
  subst hn
  obtain ⟨a, T', h', k1, X', e', E, hS', hk', hZ', ho', st'⟩ := RoadKit.ldcS X hx hZ hown w wS eT hS hk0 (g := mkF m pc Ls st) rfl hd hlen hbig hc hl
  exact go (fun _ h => st' _ h) (F a T' h' T'.vm k1 X' e' E hS' hk' hZ' ho')
theorem callSW (X : Stand p l e R (s.setVm vm0) m args below meth c T locs cells slots) (hx : p.tables.exec = Jvm.exec) (hZ : Z.Warmed39 (s.setVm vm0).vm) (hS : s.Since vm0 k0) {own : String} {index : Nat} {y : MethodName} {bytes : ByteArray} {maxL W : Nat} {ret : Option FieldType} {rm : Room} {Qc : Option Value → Heap → List Loc → Prop} {argsL : List Value} (hown : (s.setVm vm0).vm.findClass own = some m.cls)
    (wl : (Cond.methodLink own index y).before a0 Z = true) (ws : (Cond.static y).before a0 Z = true) (wi : (Cond.initialized y.cls).before a0 Z = true) (wc : (Cond.code y bytes maxL ret).before a0 Z = true) (hy : y.cls ≠ "java/lang/invoke/MethodHandle" ∧ y.cls ≠ "java/lang/invoke/VarHandle")
    (hM : MetW l Z y bytes maxL ret [] rm argsL.toArray h Qc) (eT : T.heap = h) (hk0 : k0 ≤ h.size) (hf : rm.frames + 1 ≤ R.frames) (hl : W + (maxL + 11) + rm.locals ≤ R.locals) (hck : cells + rm.cells ≤ R.cells) (hsk : slots + rm.slots ≤ R.slots) (hsz : Ls.size = c.maxLocals)
    (hlen : ∀ sig, parseMethodDescriptor y.desc = some sig → argsL.length = sig.parameters.length) (hst : st = argsL.reverse ++ rest) (hW : (rest.map fun v => v.category).sum ≤ W) (hd : decode c.code pc = .ok (.invokestatic index, 3)) (hn : pc + 3 = n)
    (F : ∀ T' vm1 k1 v L, Stand p l e R (s.setVm vm1) m args below meth c T' (locs ++ L) (cells + rm.cells) (slots + rm.slots) → s.Since vm1 k1 → k1 ≤ T'.heap.size → Z.Warmed39 (s.setVm vm1).vm → (s.setVm vm1).vm.findClass own = some m.cls → Qc v T'.heap L → Go p e below Fe Q K N T' (mkF m n Ls (v.toList ++ rest))) : Go p e below Fe Q K N T (mkF m pc Ls st) := by
  subst hn
  obtain ⟨v, _, ⟨T18, L18, k18, n18⟩, -, X18, hS18, hg18, ⟨Lc18, hQ18, l18, y18, z18⟩, st18⟩ := RoadKit.callSS X hx (y := y) hown (mvT hZ wl) (mvT hZ ws) (mvT hZ wi) (mvT hZ wc) hy (backOfS (W := W) hM hZ wc wi hf hl) (g := mkF m pc Ls st) rfl hsz (argsL := argsL) (rest := rest) hlen hst (by show 2 * 0 + _ ≤ _; omega) hd (fun _ _ => ⟨rfl, eT, hck, hsk⟩)
  dsimp only [Pt.U, Pt.locs, Pt.cells, Pt.slots] at X18 l18 y18 z18 st18 hQ18 hS18 hg18
  subst l18 y18 z18
  exact go (fun _ h => st18.trans h) (F T18 T18.vm _ v Lc18 X18 (foldS hS (by rw [eT]; exact hk0) hS18 hg18) (Nat.le_refl _) (State.Warmed39.trans (t := s.setVm vm0) hZ hS18.1) (by rw [show (s.setVm T18.vm).vm = T18.vm from rfl, hS18.1.alike.findClass]; exact hown) hQ18)
theorem callIW (X : Stand p l e R (s.setVm vm0) m args below meth c T locs cells slots) (hx : p.tables.exec = Jvm.exec) (hZ : Z.Warmed39 (s.setVm vm0).vm) (hS : s.Since vm0 k0) {own : String} {index : Nat} {y : MethodName} {bytes : ByteArray} {maxL W : Nat} {rm : Room} {Qc : Option Value → Heap → List Loc → Prop} {argsL : List Value} {a : Addr} (hy1 : y.name = "<init>") (hown : (s.setVm vm0).vm.findClass own = some m.cls)
    (wl : (Cond.methodLink own index y).before a0 Z = true) (wm : (Cond.instanceMethod y).before a0 Z = true) (wi : (Cond.initialized y.cls).before a0 Z = true) (wc : (Cond.code y bytes maxL none).before a0 Z = true) (hy : y.cls ≠ "java/lang/invoke/MethodHandle" ∧ y.cls ≠ "java/lang/invoke/VarHandle")
    (hM : MetW l Z y bytes maxL none [] rm (Value.ref a :: argsL).toArray h Qc) (eT : T.heap = h) (hk0 : k0 ≤ h.size) (hf : rm.frames + 1 ≤ R.frames) (hl : W + (maxL + 11) + rm.locals ≤ R.locals) (hck : cells + rm.cells ≤ R.cells) (hsk : slots + rm.slots ≤ R.slots) (hsz : Ls.size = c.maxLocals)
    (hlen : ∀ sig, parseMethodDescriptor y.desc = some sig → argsL.length = sig.parameters.length) (hst : st = argsL.reverse ++ .ref a :: rest) (hW : (rest.map fun v => v.category).sum ≤ W) (hd : decode c.code pc = .ok (.invokespecial index, 3)) (hn : pc + 3 = n)
    (F : ∀ T' vm1 k1 v L, Stand p l e R (s.setVm vm1) m args below meth c T' (locs ++ L) (cells + rm.cells) (slots + rm.slots) → s.Since vm1 k1 → k1 ≤ T'.heap.size → Z.Warmed39 (s.setVm vm1).vm → (s.setVm vm1).vm.findClass own = some m.cls → Qc v T'.heap L → Go p e below Fe Q K N T' (mkF m n Ls (v.toList ++ rest))) : Go p e below Fe Q K N T (mkF m pc Ls st) := by
  subst hn
  obtain ⟨v, _, ⟨T18, L18, k18, n18⟩, -, X18, hS18, hg18, ⟨Lc18, hQ18, l18, y18, z18⟩, st18⟩ := X.specialBackS hx (y := y) hy1 hown (mvT hZ wl) (mvT hZ wm) (mvT hZ wc) hy (backOfS (W := W) hM hZ wc wi hf hl) (g := mkF m pc Ls st) rfl hsz (Steps.refl _) (a := a) (argsL := argsL) (rest := rest) hlen hst (by show 2 * 0 + _ ≤ _; omega) hd (fun _ _ => ⟨rfl, eT, hck, hsk⟩)
  dsimp only [Pt.U, Pt.locs, Pt.cells, Pt.slots] at X18 l18 y18 z18 st18 hQ18 hS18 hg18
  subst l18 y18 z18
  exact go (fun _ h => st18.trans h) (F T18 T18.vm _ v Lc18 X18 (foldS hS (by rw [eT]; exact hk0) hS18 hg18) (Nat.le_refl _) (State.Warmed39.trans (t := s.setVm vm0) hZ hS18.1) (by rw [show (s.setVm T18.vm).vm = T18.vm from rfl, hS18.1.alike.findClass]; exact hown) hQ18)
/-- a contract of a method that may intern, with words on the tables before and behind -/
def MetV (l : Launch) (Z : State) (y : MethodName) (bytes : ByteArray) (maxL : Nat) (ret : Option FieldType) (ws : List Cond) (rm : Room) (as' : Array Value) (h0 : Heap) (Q : Option Value → Heap → List Loc → Prop) (Pv Qv : Vm → Prop) : Prop :=
  MetFree l y (head1 (Cond.code y bytes maxL ret :: ws) rm) (fun a U => a = as' ∧ Z.Warmed39 U.vm ∧ U.heap = h0 ∧ Pv U.vm) (fun _ _ _ _ _ => True) (fun _ U o U' => ∃ v L, o = .returned v ∧ Q v U'.heap L ∧ EndV U Qv o U' L rm.cells rm.slots)
theorem startV {y : MethodName} {bytes : ByteArray} {maxL : Nat} {ret : Option FieldType} {ws : List Cond} {rm : Room} {as' : Array Value} {h0 : Heap} {Pv Qv : Vm → Prop} (pn : plainName y.cls = true)
    (body : ∀ (p : Program) (e : Env) (s : State) (vm0 : Vm) (m : MethodId) (below : List Frame) (meth : Method) (c : Code) (s₁ : State), Stand p l e rm (s.setVm vm0) m as' below meth c s₁ [] 0 0 → p.tables.exec = Jvm.exec → c.code = bytes → c.maxLocals = maxL → (s.setVm vm0).vm.findClass y.cls = some m.cls → meth.name = y.name → meth.sig.returnType = ret → meth.locks = false → Z.Warmed39 (s.setVm vm0).vm → s.Since vm0 0 → s₁.heap = h0 → s₁.heap = s.heap → Pv vm0 → Go p e below (EndV s Qv) Q rm.cells rm.slots s₁ (entryFrame m as' maxL)) : MetV l Z y bytes maxL ret ws rm as' h0 Q Pv Qv := by
  refine MetFree.of_bodySF (plainFor_of_name pn) hisR ?_
  intro p e s m args below meth c s₁ Bd hml0 hP hK
  obtain ⟨rfl, hZ, hh, hPv⟩ := hP
  exact body p e s s.vm m below meth c s₁ (show Stand p l e rm s m _ below meth c s₁ [] 0 0 from Stand.of_body Bd) Bd.exec Bd.bytes hml0 (findClass_of_methodNamed Bd.named) (name_of_methodNamed Bd.named Bd.method).1 Bd.returns Bd.notSynchronized hZ ((State.WarmedH.refl s).since 0) (by rw [← hh, Bd.state]; rfl) (by rw [Bd.state]; rfl) hPv
theorem backOfV {y : MethodName} {bytes : ByteArray} {maxL : Nat} {ret : Option FieldType} {rm : Room} {len W : Nat} {as' : Array Value} {Q : Option Value → Heap → List Loc → Prop} {Pv Qv : Vm → Prop}
    (hM : MetV l Z y bytes maxL ret [] rm as' h Q Pv Qv)
    (hZ : Z.Warmed39 s.vm) (wc : (Cond.code y bytes maxL ret).before a0 Z = true) (wz : (Cond.initialized y.cls).before a0 Z = true) (hf : rm.frames + 1 ≤ R.frames) (hl : W + (maxL + 11) + rm.locals ≤ R.locals) :
    BackS l R p e below s args y len W (fun A a => a = as' ∧ A.U.heap = h ∧ A.cells + rm.cells ≤ R.cells ∧ A.slots + rm.slots ≤ R.slots ∧ Pv A.U.vm)
      (fun A _ v B => ∃ L, Q v B.U.heap L ∧ B.locs = A.locs ++ L ∧ B.cells = A.cells + rm.cells ∧ B.slots = A.slots + rm.slots ∧ Qv B.U.vm) :=
  BackS.of_freeW (bytes := bytes) (maxL := maxL) (ret := ret) (E := fun _ _ o t L k n => k = rm.cells ∧ n = rm.slots ∧ ∃ v, o = .returned v ∧ Q v t.heap L ∧ Qv t.vm) hM hf hl
    (fun m meth c A a Y hp => have hU : Z.Warmed39 A.U.vm := wtrans hZ Y.warmed
      ⟨by show (Cond.and _ .tt).before a A.U = true; rw [Cond.before_and, mv hU wc]; rfl, mv hU wc, mv hU wz, hp.2.2.1, hp.2.2.2.1⟩)
    (fun m meth c A a g mk Y hp => ⟨hp.1, wtrans hZ Y.warmed, hp.2.1, hp.2.2.2.2⟩) (fun _ _ _ _ _ _ _ _ _ => trivial)
    (fun _ _ _ _ ⟨v, L, h1, h2, h3⟩ => ⟨L, _, _, h3.1, rfl, rfl, v, h1, h2, h3.2⟩)
    (fun m meth c A a g mk v t L k n Y hp _ _ ⟨e1, e2, v', e3, e4, e5⟩ => by cases e3; subst e1 e2; exact ⟨L, e4, rfl, rfl, rfl, e5⟩)
theorem callSV (X : Stand p l e R (s.setVm vm0) m args below meth c T locs cells slots) (hx : p.tables.exec = Jvm.exec) (hZ : Z.Warmed39 (s.setVm vm0).vm) (hS : s.Since vm0 k0) {own : String} {index : Nat} {y : MethodName} {bytes : ByteArray} {maxL W : Nat} {ret : Option FieldType} {rm : Room} {Qc : Option Value → Heap → List Loc → Prop} {Pv Qv : Vm → Prop} {argsL : List Value} (hown : (s.setVm vm0).vm.findClass own = some m.cls)
    (wl : (Cond.methodLink own index y).before a0 Z = true) (ws : (Cond.static y).before a0 Z = true) (wi : (Cond.initialized y.cls).before a0 Z = true) (wc : (Cond.code y bytes maxL ret).before a0 Z = true) (hy : y.cls ≠ "java/lang/invoke/MethodHandle" ∧ y.cls ≠ "java/lang/invoke/VarHandle")
    (hM : MetV l Z y bytes maxL ret [] rm argsL.toArray h Qc Pv Qv) (eT : T.heap = h) (hk0 : k0 ≤ h.size) (hP : ∀ vm₁, (s.setVm vm0).WarmedH vm₁ → Pv vm₁) (hf : rm.frames + 1 ≤ R.frames) (hl : W + (maxL + 11) + rm.locals ≤ R.locals) (hck : cells + rm.cells ≤ R.cells) (hsk : slots + rm.slots ≤ R.slots) (hsz : Ls.size = c.maxLocals)
    (hlen : ∀ sig, parseMethodDescriptor y.desc = some sig → argsL.length = sig.parameters.length) (hst : st = argsL.reverse ++ rest) (hW : (rest.map fun v => v.category).sum ≤ W) (hd : decode c.code pc = .ok (.invokestatic index, 3)) (hn : pc + 3 = n)
    (F : ∀ T' vm1 k1 v L, Stand p l e R (s.setVm vm1) m args below meth c T' (locs ++ L) (cells + rm.cells) (slots + rm.slots) → s.Since vm1 k1 → k1 ≤ T'.heap.size → Z.Warmed39 (s.setVm vm1).vm → (s.setVm vm1).vm.findClass own = some m.cls → Qc v T'.heap L → Qv vm1 → (s.setVm vm0).Warmed39 vm1 → Go p e below Fe Q K N T' (mkF m n Ls (v.toList ++ rest))) : Go p e below Fe Q K N T (mkF m pc Ls st) := by
  subst hn
  obtain ⟨v, _, ⟨T18, L18, k18, n18⟩, -, X18, hS18, hg18, ⟨Lc18, hQ18, l18, y18, z18, hV18⟩, st18⟩ := RoadKit.callSS X hx (y := y) hown (mvT hZ wl) (mvT hZ ws) (mvT hZ wi) (mvT hZ wc) hy (backOfV (W := W) hM hZ wc wi hf hl) (g := mkF m pc Ls st) rfl hsz (argsL := argsL) (rest := rest) hlen hst (by show 2 * 0 + _ ≤ _; omega) hd (fun vm₁ hw₁ => ⟨rfl, eT, hck, hsk, hP vm₁ hw₁⟩)
  dsimp only [Pt.U, Pt.locs, Pt.cells, Pt.slots] at X18 l18 y18 z18 st18 hQ18 hS18 hg18 hV18
  subst l18 y18 z18
  exact go (fun _ h => st18.trans h) (F T18 T18.vm _ v Lc18 X18 (foldS hS (by rw [eT]; exact hk0) hS18 hg18) (Nat.le_refl _) (State.Warmed39.trans (t := s.setVm vm0) hZ hS18.1) (by rw [show (s.setVm T18.vm).vm = T18.vm from rfl, hS18.1.alike.findClass]; exact hown) hQ18 hV18 hS18.1)
theorem callIV (X : Stand p l e R (s.setVm vm0) m args below meth c T locs cells slots) (hx : p.tables.exec = Jvm.exec) (hZ : Z.Warmed39 (s.setVm vm0).vm) (hS : s.Since vm0 k0) {own : String} {index : Nat} {y : MethodName} {bytes : ByteArray} {maxL W : Nat} {rm : Room} {Qc : Option Value → Heap → List Loc → Prop} {Pv Qv : Vm → Prop} {argsL : List Value} {a : Addr} (hy1 : y.name = "<init>") (hown : (s.setVm vm0).vm.findClass own = some m.cls)
    (wl : (Cond.methodLink own index y).before a0 Z = true) (wm : (Cond.instanceMethod y).before a0 Z = true) (wi : (Cond.initialized y.cls).before a0 Z = true) (wc : (Cond.code y bytes maxL none).before a0 Z = true) (hy : y.cls ≠ "java/lang/invoke/MethodHandle" ∧ y.cls ≠ "java/lang/invoke/VarHandle")
    (hM : MetV l Z y bytes maxL none [] rm (Value.ref a :: argsL).toArray h Qc Pv Qv) (eT : T.heap = h) (hk0 : k0 ≤ h.size) (hP : ∀ vm₁, (s.setVm vm0).WarmedH vm₁ → Pv vm₁) (hf : rm.frames + 1 ≤ R.frames) (hl : W + (maxL + 11) + rm.locals ≤ R.locals) (hck : cells + rm.cells ≤ R.cells) (hsk : slots + rm.slots ≤ R.slots) (hsz : Ls.size = c.maxLocals)
    (hlen : ∀ sig, parseMethodDescriptor y.desc = some sig → argsL.length = sig.parameters.length) (hst : st = argsL.reverse ++ .ref a :: rest) (hW : (rest.map fun v => v.category).sum ≤ W) (hd : decode c.code pc = .ok (.invokespecial index, 3)) (hn : pc + 3 = n)
    (F : ∀ T' vm1 k1 v L, Stand p l e R (s.setVm vm1) m args below meth c T' (locs ++ L) (cells + rm.cells) (slots + rm.slots) → s.Since vm1 k1 → k1 ≤ T'.heap.size → Z.Warmed39 (s.setVm vm1).vm → (s.setVm vm1).vm.findClass own = some m.cls → Qc v T'.heap L → Qv vm1 → (s.setVm vm0).Warmed39 vm1 → Go p e below Fe Q K N T' (mkF m n Ls (v.toList ++ rest))) : Go p e below Fe Q K N T (mkF m pc Ls st) := by
  subst hn
  obtain ⟨v, _, ⟨T18, L18, k18, n18⟩, -, X18, hS18, hg18, ⟨Lc18, hQ18, l18, y18, z18, hV18⟩, st18⟩ := X.specialBackS hx (y := y) hy1 hown (mvT hZ wl) (mvT hZ wm) (mvT hZ wc) hy (backOfV (W := W) hM hZ wc wi hf hl) (g := mkF m pc Ls st) rfl hsz (Steps.refl _) (a := a) (argsL := argsL) (rest := rest) hlen hst (by show 2 * 0 + _ ≤ _; omega) hd (fun vm₁ hw₁ => ⟨rfl, eT, hck, hsk, hP vm₁ hw₁⟩)
  dsimp only [Pt.U, Pt.locs, Pt.cells, Pt.slots] at X18 l18 y18 z18 st18 hQ18 hS18 hg18 hV18
  subst l18 y18 z18
  exact go (fun _ h => st18.trans h) (F T18 T18.vm _ v Lc18 X18 (foldS hS (by rw [eT]; exact hk0) hS18 hg18) (Nat.le_refl _) (State.Warmed39.trans (t := s.setVm vm0) hZ hS18.1) (by rw [show (s.setVm T18.vm).vm = T18.vm from rfl, hS18.1.alike.findClass]; exact hown) hQ18 hV18 hS18.1)
theorem IBw {vm1 : Vm} {Ts : List String} (I : Jvm.RoadKit.IB Z vm0 Ts) (hW : (s.setVm vm0).WarmedH vm1) : Jvm.RoadKit.IB Z vm1 Ts := by
  obtain ⟨more, h1, h2⟩ := I
  exact ⟨more, (show vm1.interned = vm0.interned from hW.interned_eq).trans h1, h2⟩
theorem IBt {Ts : List String} (I : Jvm.RoadKit.IB Z vm0 Ts) (X : Stand p l e R (s.setVm vm0) m args below meth c T locs cells slots) : Jvm.RoadKit.IB Z T.vm Ts := IBw I X.warmed
/-- the start's cells stand -/
def Old (Z : State) (h : Heap) : Prop := ∀ (b' : Addr) (cl : Cell), Z.heap[b']? = some cl → h[b']? = some cl
theorem old_refl : Old Z Z.heap := fun _ _ q => q
theorem old_ext {h' : Heap} (O : Old Z h) (E : Ext h h') : Old Z h' := fun b' cl q => E.2 b' cl (O b' cl q)
theorem old_keep {h' : Heap} {a : Addr} (O : Old Z h) (Kp : Keep h h' [a]) (ha : Z.heap.size ≤ a) : Old Z h' := fun b' cl q => Kp.2.1 b' cl (O b' cl q) (fun z => by
  cases List.mem_singleton.mp z
  exact absurd (Array.getElem?_eq_some_iff.mp q).1 (by omega))
theorem old_wr {h' : Heap} {a : Addr} {sl : Nat} {v : Value} (O : Old Z h) (W : Wr h h' a sl v) (ha : Z.heap.size ≤ a) : Old Z h' := old_keep O (Keep.of_wr W) ha
theorem ldcV (X : Stand p l e R (s.setVm vm0) m args below meth c T locs cells slots) (hx : p.tables.exec = Jvm.exec) (hZ : Z.Warmed39 (s.setVm vm0).vm) (hS : s.Since vm0 k0) {own text : String} {index : Nat} (hown : (s.setVm vm0).vm.findClass own = some m.cls) (w : (Cond.stringLink own index text).before a0 Z = true) (wS : ∀ a ∈ Bundle.stringAtoms, a.before a0 Z = true) (eT : T.heap = h) (hk0 : k0 ≤ h.size) (Nn : Fr s.heap.size locs) (O : Old Z s.heap) {Ts : List String} (I : Jvm.RoadKit.IB Z vm0 Ts) (hnot : text ∉ Ts) (hh : Jvm.Lit.constHeld Z own index) (hcw : Jvm.Lit.compactW.before a0 Z = true)
    {vs : List Value} {z : Int32} (ht : (∀ c ∈ text.toList, c.toNat < 256) ∧ text.toList.map (fun c => Value.int (Jvm.Lit.byteI c.toNat.toUInt16)) = vs) (hz : ¬ z < 0) (hlz : z.toNatClampNeg = vs.length) (len : Nat) (hlen : 4 * text.toList.length ≤ len) (hbig : len ≤ 536870912) (hc : cells + 2 ≤ R.cells) (hl : slots + (len + 4) ≤ R.slots) (hd : decode c.code pc = .ok (.ldc index, 2)) (hn : pc + 2 = n)
    (F : ∀ a T' h' vm1 k1 b' kb, Stand p l e R (s.setVm vm1) m args below meth c T' locs (cells + 2) (slots + (len + 4)) → T'.heap = h' → Ext h h' → s.Since vm1 k1 → k1 ≤ h'.size → Z.Warmed39 (s.setVm vm1).vm → (s.setVm vm1).vm.findClass own = some m.cls → Exa Z h' a "java/lang/String" → Fld Z h' a "java/lang/String" "coder" "B" (.int 0) → Fld Z h' a "java/lang/String" "value" "[B" (.ref b') → Arv Z h' b' kb .byte z vs (.int 0) → Jvm.RoadKit.IB Z vm1 (text :: Ts) → Jvm.RoadKit.Lit (s.setVm vm1) own index a → (s.setVm vm0).Warmed39 vm1 → (a < s.heap.size ∨ h.size ≤ a) → Go p e below Fe Q K N T' (mkF m n Ls (.ref a :: st))) : Go p e below Fe Q K N T (mkF m pc Ls st) := by
  subst hn
  obtain ⟨a, T', h', k1, b', kb, X', e', E, hS', hk', hZ', ho', r1, r2, r3, r4, -, -, r5, r6, r7, st'⟩ := RoadKit.ldcSVd (s := s.setVm vm0) (vm0 := vm0) X hx hZ hown w wS eT ((State.WarmedH.refl (s.setVm vm0)).since 0) (Nat.zero_le _) Nn O I hnot hh hcw ht hz hlz (g := mkF m pc Ls st) rfl hd hlen hbig hc hl
  have hS2 : (s.setVm vm0).Since T'.vm h'.size := ⟨hS'.1, fun j p u w => ⟨(hS'.2 j p u w).1, Nat.lt_of_lt_of_le (hS'.2 j p u w).2 hk'⟩⟩
  exact go (fun _ h => st' _ h) (F a T' h' T'.vm h'.size b' kb X' e' E (hS.trans hS2 (Nat.le_trans hk0 E.1)) (Nat.le_refl _) hZ' ho' r1 r2 r3 r4 r5 r6 hS'.1 (r7.elim (fun q => Or.inl q.1) (fun q => Or.inr q.1)))
theorem ldcA (X : Stand p l e R (s.setVm vm0) m args below meth c T locs cells slots) (hx : p.tables.exec = Jvm.exec) (hZ : Z.Warmed39 (s.setVm vm0).vm) {own text : String} {index : Nat} (hown : (s.setVm vm0).vm.findClass own = some m.cls) (w : (Cond.stringLink own index text).before a0 Z = true) {a : Addr} (L : Jvm.RoadKit.Lit (s.setVm vm0) own index a) (hd : decode c.code pc = .ok (.ldc index, 2)) (hn : pc + 2 = n) (F : Go p e below Fe Q K N T (mkF m n Ls (.ref a :: st))) : Go p e below Fe Q K N T (mkF m pc Ls st) := by
  subst hn
  exact go (fun _ h => RoadKit.ldcAgain X hx hZ hown w L (g := mkF m pc Ls st) rfl hd _ h) F
theorem IBcons {text : String} {Ts : List String} (I : Jvm.RoadKit.IB Z vm0 Ts) : Jvm.RoadKit.IB Z vm0 (text :: Ts) := by
  obtain ⟨more, h1, h2⟩ := I
  exact ⟨more, h1, fun q hq => by obtain ⟨t, m, e⟩ := h2 q hq; exact ⟨t, List.mem_cons_of_mem _ m, e⟩⟩
theorem ldcE (X : Stand p l e R (s.setVm vm0) m args below meth c T locs cells slots) (hx : p.tables.exec = Jvm.exec) (hZ : Z.Warmed39 (s.setVm vm0).vm) (hS : s.Since vm0 k0) {own text : String} {index : Nat} (hown : (s.setVm vm0).vm.findClass own = some m.cls) (w : (Cond.stringLink own index text).before a0 Z = true) (wS : ∀ a ∈ Bundle.stringAtoms, a.before a0 Z = true) (eT : T.heap = h) (hk0 : k0 ≤ h.size) (Nn : Fr s.heap.size locs) (O : Old Z s.heap) {Ts : List String} (I : Jvm.RoadKit.IB Z vm0 Ts) {Pr : Addr → Heap → Prop} (hL : text ∉ Ts ∨ ∃ x, Jvm.RoadKit.Lit (s.setVm vm0) own index x ∧ Pr x h) (hh : Jvm.Lit.constHeld Z own index) (hcw : Jvm.Lit.compactW.before a0 Z = true)
    {vs : List Value} {z : Int32} (ht : (∀ c ∈ text.toList, c.toNat < 256) ∧ text.toList.map (fun c => Value.int (Jvm.Lit.byteI c.toNat.toUInt16)) = vs) (hz : ¬ z < 0) (hlz : z.toNatClampNeg = vs.length) (hmk : ∀ x h' b' kb, Ext h h' → Exa Z h' x "java/lang/String" → Fld Z h' x "java/lang/String" "coder" "B" (.int 0) → Fld Z h' x "java/lang/String" "value" "[B" (.ref b') → Arv Z h' b' kb .byte z vs (.int 0) → (x < s.heap.size ∨ h.size ≤ x) → Pr x h') (len : Nat) (hlen : 4 * text.toList.length ≤ len) (hbig : len ≤ 536870912) (hc : cells + 2 ≤ R.cells) (hl : slots + (len + 4) ≤ R.slots) (hd : decode c.code pc = .ok (.ldc index, 2)) (hn : pc + 2 = n)
    (F : ∀ x T' h' vm1 k1, Stand p l e R (s.setVm vm1) m args below meth c T' locs (cells + 2) (slots + (len + 4)) → T'.heap = h' → Ext h h' → s.Since vm1 k1 → k1 ≤ h'.size → Z.Warmed39 (s.setVm vm1).vm → (s.setVm vm1).vm.findClass own = some m.cls → Pr x h' → Jvm.RoadKit.IB Z vm1 (text :: Ts) → (s.setVm vm0).Warmed39 vm1 → Jvm.RoadKit.Lit (s.setVm vm1) own index x → Go p e below Fe Q K N T' (mkF m n Ls (.ref x :: st))) : Go p e below Fe Q K N T (mkF m pc Ls st) := by
  rcases hL with hnot | ⟨x, L, P⟩
  · exact ldcV X hx hZ hS hown w wS eT hk0 Nn O I hnot hh hcw ht hz hlz len hlen hbig hc hl hd hn (fun a T' h' vm1 k1 b' kb r1 r2 r3 r4 r5 r6 r7 r8 r9 r10 r11 r12 r13 r14 r15 => F a T' h' vm1 k1 r1 r2 r3 r4 r5 r6 r7 (hmk a h' b' kb r3 r8 r9 r10 r11 r15) r12 r14 r13)
  · refine ldcA X hx hZ hown w L hd hn (F x T h vm0 k0 (X.mono (by omega) (by omega)) eT ⟨Nat.le_refl _, fun _ _ q => q⟩ hS hk0 hZ hown P (IBcons I) (State.Warmed39.refl (s.setVm vm0)) L)
theorem cloneV (X : Stand p l e R s m args below meth c T locs cells slots) (hx : p.tables.exec = Jvm.exec) (hZ : Z.Warmed39 s.vm) {own ad : String} {index : Nat} (hown : s.vm.findClass own = some m.cls)
    (w1 : (Cond.methodLink own index ⟨ad, "clone", "()Ljava/lang/Object;"⟩).before a0 Z = true) (w2 : (Cond.sameMethod ad "java/lang/Object" "clone" "()Ljava/lang/Object;").before a0 Z = true) (w3 : (Cond.native ⟨"java/lang/Object", "clone", "()Ljava/lang/Object;"⟩).before a0 Z = true)
    (w4 : (Cond.instanceMethod ⟨"java/lang/Object", "clone", "()Ljava/lang/Object;"⟩).before a0 Z = true) (w5 : (Cond.selects ad ⟨ad, "clone", "()Ljava/lang/Object;"⟩ ⟨"java/lang/Object", "clone", "()Ljava/lang/Object;"⟩).before a0 Z = true) (w6 : (Cond.castable ad "java/lang/Cloneable").before a0 Z = true)
    (eT : T.heap = h) {a : Addr} {k : ClassId} {ty : FieldType} {z : Int32} {vs : List Value} {d : Value} (A : Arv Z h a k ty z vs d) (E : Exa Z h a ad) (hsz : Ls.size = c.maxLocals) (hf : 1 ≤ R.frames) {W : Nat} (cap : Nat) (hW : (st.map fun v => v.category).sum ≤ W) (hl : W + 14 ≤ R.locals) (hcap : z.toNatClampNeg ≤ cap) (hc : cells + 1 ≤ R.cells) (hsl : slots + cap ≤ R.slots) (hd : decode c.code pc = .ok (.invokevirtual index, 3)) (hn : pc + 3 = n)
    (F : ∀ T' h', Stand p l e R s m args below meth c T' locs (cells + 1) (slots + cap) → T'.heap = h' → Ext h h' → Arv Z h' h.size k ty z vs d → Exa Z h' h.size ad → Go p e below Fe Q K N T' (mkF m n Ls (.ref h.size :: st))) : Go p e below Fe Q K N T (mkF m pc Ls (.ref a :: st)) := by
  subst hn
  obtain ⟨cl, Ar, q1, S, q3, H, G'⟩ := A
  have FC : FitC Z cl := fitC_of Ar fun i hi v hv => by rw [H i hi] at hv; cases hv; exact G' i hi
  obtain ⟨T', h', X', e', ex, A', E', st'⟩ := RoadKit.cloneA X hx hZ hown w1 w2 w3 w4 w5 w6 eT Ar E FC (g := mkF m pc Ls (.ref a :: st)) rfl hsz rfl hd hf (W := W) (cap := cap) (by show 2 * 0 + _ ≤ _; omega) hl (by rw [S]; exact hcap) hc hsl
  exact go (fun _ h => st' _ h) (F T' h' X' e' ex ⟨cloneOf cl, A', q1, S, q3, H, G'⟩ E')
theorem instNul (X : Stand p l e R s m args below meth c T locs cells slots) (hx : p.tables.exec = Jvm.exec) {index : Nat} (hd : decode c.code pc = .ok (.instanceof index, 3)) (hn : pc + 3 = n) (F : Go p e below Fe Q K N T (mkF m n Ls (.int 0 :: st))) : Go p e below Fe Q K N T (mkF m pc Ls (.null :: st)) := by
  subst hn
  exact go (fun _ h => X.instanceofNull hx (g := mkF m pc Ls (.null :: st)) rfl rfl hd _ h) F
end WD
section AL
variable {p : Program} {l : Launch} {e : Env} {R : Room} {s : State} {m : MethodId} {args : Array Value} {below : List Frame} {meth : Method} {c : Code} {T T' : State} {locs : List Loc} {cells slots : Nat} {Q : Option Value → Heap → List Loc → Prop} {Fe : Outcome → State → List Loc → Nat → Nat → Prop} {K N pc n t k0 : Nat} {Ls l' : Array Slot} {st rest : List Value} {Z : State} {a0 : Array Value} {h : Heap}
theorem getFV (X : Stand p l e R s m args below meth c T locs cells slots) (hx : p.tables.exec = Jvm.exec) (hZ : Z.Warmed39 s.vm) {own R0 O f d : String} {index : Nat} (hown : s.vm.findClass own = some m.cls) (w : (Cond.fieldLink own index R0 f d).before a0 Z = true) (ws : (Cond.sameField R0 O f d).before a0 Z = true) (eT : T.heap = h) {a : Addr} {v : Value} (S : Fld Z h a O f d v) (hd : decode c.code pc = .ok (.getfield index, 3)) (hn : pc + 3 = n)
    (F : ∀ T', Stand p l e R s m args below meth c T' locs cells slots → T'.heap = h → Go p e below Fe Q K N T' (mkF m n Ls (v :: st))) : Go p e below Fe Q K N T (mkF m pc Ls (.ref a :: st)) := by
  subst hn
  obtain ⟨T', X', e', st'⟩ := RoadKit.getF X hx hZ hown (host := "") (Or.inl w) (Via.of ws) eT S (g := mkF m pc Ls (.ref a :: st)) rfl rfl hd
  exact go (fun _ h => st' _ h) (F T' X' e')
theorem putFV (X : Stand p l e R s m args below meth c T locs cells slots) (hx : p.tables.exec = Jvm.exec) (hZ : Z.Warmed39 s.vm) {own R0 O f d C : String} {index kk : Nat} {ty : FieldType} (hown : s.vm.findClass own = some m.cls) (w : (Cond.fieldLink own index R0 f d).before a0 Z = true) (ws : (Cond.sameField R0 O f d).before a0 Z = true) (eT : T.heap = h) {a : Addr} {v old : Value} (S : Fld Z h a O f d old) (E : Exa Z h a C)
    (L : (Cond.lays C O f d).before a0 Z = true) (wi : (Cond.instantiable C kk).before a0 Z = true) (hty : parseFieldDescriptor d = some ty) (hnr : narrow ty v = v) (hf : fits ty v = true) (hd : decode c.code pc = .ok (.putfield index, 3)) (hn : pc + 3 = n)
    (F : ∀ T' h', Stand p l e R s m args below meth c T' (locs ++ [⟨a, RoadKit.slotOf Z O f d⟩]) cells slots → T'.heap = h' → Wr h h' a (RoadKit.slotOf Z O f d) v → Go p e below Fe Q K N T' (mkF m n Ls st)) : Go p e below Fe Q K N T (mkF m pc Ls (v :: .ref a :: st)) := by
  subst hn
  obtain ⟨T2, h2, X2, e2, W2, st2⟩ := RoadKit.putF X hx hZ hown (host := "") (Or.inl w) (Via.of ws) eT S E (Or.inl L) wi hty hnr hf (g := mkF m pc Ls (v :: .ref a :: st)) rfl rfl hd
  exact go (fun _ h => st2 _ h) (F T2 h2 X2 e2 W2)
theorem dupx1 (X : Stand p l e R s m args below meth c T locs cells slots) (hx : p.tables.exec = Jvm.exec) {x y : Value} (hd : decode c.code pc = .ok (.dup_x1, 1)) (hc : x.category = 1) (hc2 : y.category = 1) (hn : pc + 1 = n) (F : Go p e below Fe Q K N T (mkF m n Ls (x :: y :: x :: st))) : Go p e below Fe Q K N T (mkF m pc Ls (x :: y :: st)) := by
  subst hn
  refine go (fun _ h => ?_) F
  have ht := X.here
  jvm_step ht [ht.top, hx, hd, hc, hc2]
  exact h
theorem newRv (X : Stand p l e R s m args below meth c T locs cells slots) (hx : p.tables.exec = Jvm.exec) (hZ : Z.Warmed39 s.vm) {own C : String} {index : Nat} (hown : s.vm.findClass own = some m.cls) (w1 : (Cond.classLink own index C).before a0 Z = true) (w2 : (Cond.arrayOver (.object C)).before a0 Z = true) (eT : T.heap = h) {z : Int32} (hz : ¬ z < 0) (cap : Nat) (hcap : z.toNatClampNeg = cap) (hb : cap * 8 ≤ 536870912) (hc : cells + 1 ≤ R.cells) (hl : slots + cap ≤ R.slots) {ad : String} (had : "[" ++ (FieldType.object C).toString = ad) (hd : decode c.code pc = .ok (.anewarray index, 3)) (hn : pc + 3 = n)
    (F : ∀ T' h' cA, Stand p l e R s m args below meth c T' locs (cells + 1) (slots + cap) → T'.heap = h' → Ext h h' → Arv Z h' h.size cA (.object C) z (List.replicate cap .null) .null → Ovr Z cA C → Exa Z h' h.size ad → Go p e below Fe Q K N T' (mkF m n Ls (.ref h.size :: st))) : Go p e below Fe Q K N T (mkF m pc Ls (.int z :: st)) := by
  subst hn
  obtain ⟨T2, h2, cA, X2, e2, E2, A2, Ea2, O2, st2⟩ := RoadKit.newRE X hx hZ hown w1 w2 eT (g := mkF m pc Ls (.int z :: st)) rfl hd rfl hz (cap := cap) (Nat.le_of_eq hcap) hb hc hl had
  exact go (fun _ h => st2 _ h) (F T2 h2 cA X2 e2 E2 ((Arv.new A2 hz).pad (pad_rep [] _ cap)) O2 Ea2)
theorem aastoreR (X : Stand p l e R s m args below meth c T locs cells slots) (hx : p.tables.exec = Jvm.exec) (hZ : Z.Warmed39 s.vm) {a y : Addr} {C : String} {k : ClassId} {z j : Int32} {vs : List Value} {d : Value} (eT : T.heap = h) (A : Arv Z h a k (.object C) z vs d) (O : Ovr Z k C) (I : Ins Z h y C true) (h1 : 0 ≤ j.toInt) (h2 : j.toInt < z.toInt) (i : Nat) (hj : j.toNatClampNeg = i) (hi : i < vs.length) (hd : decode c.code pc = .ok (.aastore, 1)) (hn : pc + 1 = n)
    (F : ∀ T' h', Stand p l e R s m args below meth c T' (locs ++ [⟨a, j.toNatClampNeg⟩]) cells slots → T'.heap = h' → Wr h h' a j.toNatClampNeg (.ref y) → Arv Z h' a k (.object C) z (vs.set i (.ref y)) d → Go p e below Fe Q K N T' (mkF m n Ls st)) : Go p e below Fe Q K N T (mkF m pc Ls (.ref y :: .int j :: .ref a :: st)) := by
  subst hn
  obtain ⟨cl, Ar, q1, S, q3, H, G'⟩ := A
  obtain ⟨T2, h2', X2, e2, W2, st2⟩ := RoadKit.stR X hx hZ eT Ar (in_of S q3 h1 h2) rfl (Sto.ofV Ar q1 O I) (g := mkF m pc Ls (.ref y :: .int j :: .ref a :: st)) rfl rfl hd
  exact go (fun _ h => st2 _ h) (F T2 h2' X2 e2 W2 (Arv.set Ar q1 S q3 H G' rfl W2 i hj hi))
theorem ns_root {O K' : String} {t' : ClassId} (w : (Cond.noSuperclass O).before a0 Z = true) (g1 : Z.vm.findClass K' = some t') (hn : O ≠ K') : NS Z O K' := by
  obtain ⟨c, k, h1, h2, h3, -, -⟩ := Cond.noSuperclass_spec w
  have ne := ids_ne h1 g1 hn
  refine ⟨c, t', h1, g1, fun fuel => ?_⟩
  cases fuel with
  | zero => rfl
  | succ f => simp [Vm.isSubclassAux, ne, h2, h3]
theorem no_inst {C S K' : String} {x y : MethodName} (w : (Cond.superclass C S).before a0 Z = true) (n : NS Z C K') (hn : C ≠ K') (wsel : (Cond.selects K' x y).before a0 Z = true) (hy : y.cls = K') : ∃ c t, Z.vm.findClass C = some c ∧ Z.vm.findClass K' = some t ∧ Z.vm.assignable c t = false := by
  obtain ⟨c, t, h0, g0, n3⟩ := n
  obtain ⟨p, k, kp, h1, h2, h3, h4, h5, -, h7⟩ := Cond.superclass_spec h0 w
  obtain ⟨c2, r2, m2, q1, q2, q3, q4, kP, hkP, hkPi⟩ := Cond.selects_spec wsel
  have hf := findClass_of_methodNamed q3
  rw [hy] at hf
  obtain rfl : t = m2.cls := Option.some.inj (g0.symm.trans hf)
  have ne := ids_ne h0 g0 hn
  refine ⟨c, _, h0, g0, ?_⟩
  show Z.vm.assignableAux (255 + 1) c m2.cls = false
  cases hk : kP.kind <;> simp [Vm.assignableAux, ne, h2, hkP, h5, hk, hkPi, Vm.isSubclass, n3]
theorem instNoR (X : Stand p l e R s m args below meth c T locs cells slots) (hx : p.tables.exec = Jvm.exec) (hZ : Z.Warmed39 s.vm) {own C K' : String} {index : Nat} (hown : s.vm.findClass own = some m.cls) (w : (Cond.classLink own index K').before a0 Z = true) (eT : T.heap = h) {a : Addr} (E : Exa Z h a C) (F0 : ∃ c t, Z.vm.findClass C = some c ∧ Z.vm.findClass K' = some t ∧ Z.vm.assignable c t = false) (hd : decode c.code pc = .ok (.instanceof index, 3)) (hn : pc + 3 = n)
    (F : ∀ T', Stand p l e R s m args below meth c T' locs cells slots → T'.heap = h → Go p e below Fe Q K N T' (mkF m n Ls (.int 0 :: st))) : Go p e below Fe Q K N T (mkF m pc Ls (.ref a :: st)) := by
  subst hn
  obtain ⟨T2, X2, e2, st2⟩ := RoadKit.instNo X hx hZ hown w eT E F0 (g := mkF m pc Ls (.ref a :: st)) rfl rfl hd
  exact go (fun _ h => st2 _ h) (F T2 X2 e2)
theorem callPV (X : Stand p l e R s m args below meth c T locs cells slots) (hx : p.tables.exec = Jvm.exec) (hZ : Z.Warmed39 s.vm) {own C : String} {index : Nat} {y : MethodName} {bytes : ByteArray} {maxL W : Nat} {ret : Option FieldType} {rm : Room} {Qc : Option Value → Heap → List Loc → Prop} {argsL : List Value} {a : Addr} (hown : s.vm.findClass own = some m.cls)
    (wl : (Cond.methodLink own index y).before a0 Z = true) (wm : (Cond.instanceMethod y).before a0 Z = true) (wsel : (Cond.selects y.cls y y).before a0 Z = true) (wp : (Cond.privateMethod y).before a0 Z = true) (wi : (Cond.initialized y.cls).before a0 Z = true) (wc : (Cond.code y bytes maxL ret).before a0 Z = true) (hy : y.cls ≠ "java/lang/invoke/MethodHandle" ∧ y.cls ≠ "java/lang/invoke/VarHandle")
    (hM : Met l Z y bytes maxL ret [] rm (Value.ref a :: argsL).toArray h Qc) (eT : T.heap = h) (E : Exa Z h a C) (hf : rm.frames + 1 ≤ R.frames) (hl : W + (maxL + 11) + rm.locals ≤ R.locals) (hck : cells + rm.cells ≤ R.cells) (hsk : slots + rm.slots ≤ R.slots) (hsz : Ls.size = c.maxLocals)
    (hlen : ∀ sig, parseMethodDescriptor y.desc = some sig → argsL.length = sig.parameters.length) (hst : st = argsL.reverse ++ .ref a :: rest) (hW : (rest.map fun v => v.category).sum ≤ W) (hd : decode c.code pc = .ok (.invokevirtual index, 3)) (hn : pc + 3 = n)
    (F : ∀ T' v L, Stand p l e R s m args below meth c T' (locs ++ L) (cells + rm.cells) (slots + rm.slots) → Qc v T'.heap L → Go p e below Fe Q K N T' (mkF m n Ls (v.toList ++ rest))) : Go p e below Fe Q K N T (mkF m pc Ls st) := by
  subst hn
  obtain ⟨cell, kq, q1, q2, q3, q4, -⟩ := E
  obtain ⟨v, _, ⟨T18, L18, k18, n18⟩, -, X18, ⟨Lc18, hQ18, l18, y18, z18⟩, st18⟩ := X.privateBack hx (y := y) hown (mvT hZ wl) (mvT hZ wm) (mvT hZ wsel) (Cond.privateMethod_at (args := args) (mvT hZ wp)) (mvT hZ wc) hy (backOf (W := W) hM hZ wc wi hf hl) (g := mkF m pc Ls st) rfl hsz (Steps.refl _) (a := a) (by rw [eT]; exact q1) (VmData.noStatics_of q4) (argsL := argsL) (rest := rest) hlen hst (by show 2 * 0 + _ ≤ _; omega) hd (fun _ _ => ⟨rfl, eT, hck, hsk⟩)
  dsimp only [Pt.U, Pt.locs, Pt.cells, Pt.slots] at X18 l18 y18 z18 st18 hQ18
  subst l18 y18 z18
  exact go (fun _ h => st18.trans h) (F T18 v Lc18 X18 hQ18)
theorem callF (X : Stand p l e R s m args below meth c T locs cells slots) (hx : p.tables.exec = Jvm.exec) (hZ : Z.Warmed39 s.vm) {own C : String} {index count : Nat} {y z : MethodName} {bytes : ByteArray} {maxL W : Nat} {ret : Option FieldType} {rm : Room} {Qc : Option Value → Heap → List Loc → Prop} {argsL : List Value} {a : Addr} (hown : s.vm.findClass own = some m.cls)
    (wl : (Cond.methodLink own index y).before a0 Z = true) (wd : (Cond.declares y).before a0 Z = true) (wf : (Cond.interfaceMethod y.cls y.cls y.name y.desc).before a0 Z = true) (hfa : ((Cond.interfaceMethod y.cls y.cls y.name y.desc).onTables && (Cond.interfaceMethod y.cls y.cls y.name y.desc).keepsFace) = true) (wsel : (Cond.selects C y z).before a0 Z = true) (wm : (Cond.instanceMethod z).before a0 Z = true) (wp : (Cond.publicMethod z).before a0 Z = true) (wu : (Cond.unhidden C y.name y.desc).before a0 Z = true) (wca : (Cond.castable C y.cls).before a0 Z = true) (wi : (Cond.initialized z.cls).before a0 Z = true) (wc : (Cond.code z bytes maxL ret).before a0 Z = true) (hy : y.cls ≠ "java/lang/invoke/MethodHandle" ∧ y.cls ≠ "java/lang/invoke/VarHandle")
    (hM : Met l Z z bytes maxL ret [] rm (Value.ref a :: argsL).toArray h Qc) (eT : T.heap = h) (E : Exa Z h a C) (hf : rm.frames + 1 ≤ R.frames) (hl : W + (maxL + 11) + rm.locals ≤ R.locals) (hck : cells + rm.cells ≤ R.cells) (hsk : slots + rm.slots ≤ R.slots) (hsz : Ls.size = c.maxLocals)
    (hlen : ∀ sig, parseMethodDescriptor y.desc = some sig → argsL.length = sig.parameters.length) (hst : st = argsL.reverse ++ .ref a :: rest) (hW : (rest.map fun v => v.category).sum ≤ W) (hd : decode c.code pc = .ok (.invokeinterface index count, 5)) (hn : pc + 5 = n)
    (F : ∀ T' v L, Stand p l e R s m args below meth c T' (locs ++ L) (cells + rm.cells) (slots + rm.slots) → Qc v T'.heap L → Go p e below Fe Q K N T' (mkF m n Ls (v.toList ++ rest))) : Go p e below Fe Q K N T (mkF m pc Ls st) := by
  subst hn
  obtain ⟨cq, kq, qa, qb, qc⟩ := isOf hZ eT E
  obtain ⟨v, _, ⟨T18, L18, k18, n18⟩, -, X18, ⟨Lc18, hQ18, l18, y18, z18⟩, st18⟩ := X.interfaceBack hx (xi := y) (y := z) hown (mvT hZ wl) (mvT hZ wd) (mvT hZ wf hfa) (mvT hZ wsel) (mvT hZ wm) (mvT hZ wp) (mvT hZ wu) (mvT hZ wca) hy (backOf (W := W) hM hZ wc wi hf hl) qa qb qc (g := mkF m pc Ls st) rfl hsz (Steps.refl _) (argsL := argsL) (rest := rest) hlen hst (by show 2 * 0 + _ ≤ _; omega) hd (fun _ _ => ⟨rfl, eT, hck, hsk⟩)
  dsimp only [Pt.U, Pt.locs, Pt.cells, Pt.slots] at X18 l18 y18 z18 st18 hQ18
  subst l18 y18 z18
  exact go (fun _ h => st18.trans h) (F T18 v Lc18 X18 hQ18)
theorem callSB (X : Stand p l e R s m args below meth c T locs cells slots) (hx : p.tables.exec = Jvm.exec) (hZ : Z.Warmed39 s.vm) {own : String} {index : Nat} {y : MethodName} {bytes : ByteArray} {maxL W : Nat} {ret : Option FieldType} {Pre : Pt → Array Value → Prop} {Post : Pt → Array Value → Option Value → Pt → Prop} {argsL : List Value} (hown : s.vm.findClass own = some m.cls)
    (wl : (Cond.methodLink own index y).before a0 Z = true) (ws : (Cond.static y).before a0 Z = true) (wi : (Cond.initialized y.cls).before a0 Z = true) (wc : (Cond.code y bytes maxL ret).before a0 Z = true) (hy : y.cls ≠ "java/lang/invoke/MethodHandle" ∧ y.cls ≠ "java/lang/invoke/VarHandle")
    (hK : Back l R p e below s args y 3 W Pre Post) (hsz : Ls.size = c.maxLocals) (hlen : ∀ sig, parseMethodDescriptor y.desc = some sig → argsL.length = sig.parameters.length) (hst : st = argsL.reverse ++ rest) (hW : (rest.map fun v => v.category).sum ≤ W) (hd : decode c.code pc = .ok (.invokestatic index, 3)) (hn : pc + 3 = n) (hpre : ∀ vm₁, s.WarmedH vm₁ → Pre ⟨T.setVm vm₁, locs, cells, slots⟩ argsL.toArray)
    (F : ∀ vm₁ T' v L k n', Stand p l e R s m args below meth c T' L k n' → Post ⟨T.setVm vm₁, locs, cells, slots⟩ argsL.toArray v ⟨T', L, k, n'⟩ → Go p e below Fe Q K N T' (mkF m n Ls (v.toList ++ rest))) : Go p e below Fe Q K N T (mkF m pc Ls st) := by
  subst hn
  obtain ⟨v, vm1, ⟨T18, L18, k18, n18⟩, -, X18, hP18, st18⟩ := Jvm.LawKit.callS X hx (y := y) hown (mvT hZ wl) (mvT hZ ws) (mvT hZ wi) (mvT hZ wc) hy hK (g := mkF m pc Ls st) rfl hsz (argsL := argsL) (rest := rest) hlen hst (by show 2 * 0 + _ ≤ _; omega) hd hpre
  exact go (fun _ h => st18 _ h) (F vm1 T18 v L18 k18 n18 X18 hP18)
theorem ins_keep {h' : Heap} {ws : List Addr} {r : Addr} {C : String} (I : Ins Z h r C true) (Kp : Keep h h' ws) : Ins Z h' r C true := by
  obtain ⟨cell, cT, h1, h2, h3⟩ := I
  obtain ⟨c', q, r1, r2, r3⟩ := Kp.2.2 r cell h1
  exact ⟨c', cT, q, h2, by rw [r1, r2]; exact h3⟩
theorem extZ {h' : Heap} {ws : List Addr} (E : Ext Z.heap h) (Kp : Keep h h' ws) (hw : ∀ a ∈ ws, Z.heap.size ≤ a) : Ext Z.heap h' := ⟨Nat.le_trans E.1 Kp.1, fun a c q => Kp.2.1 a c (E.2 a c q) (fun z => Nat.lt_irrefl _ (Nat.lt_of_lt_of_le (Array.getElem?_eq_some_iff.mp q).1 (hw a z)))⟩
theorem keep_mono {h' : Heap} {ws ws' : List Addr} (Kp : Keep h h' ws) (q : ∀ x ∈ ws, x ∈ ws') : Keep h h' ws' := ⟨Kp.1, fun x c h1 h2 => Kp.2.1 x c h1 (fun z => h2 (q x z)), Kp.2.2⟩
end AL
end Jvm.Wk
namespace Jvm.Pilot.@@N@@
open Jvm Jvm.ClassFile Sem Op Lib Jvm.Free Jvm.Stand Jvm.LawKit Jvm.RoadKit Bundle Jvm.Pilot.@@N@@.Jvm.D
theorem d1_0 : decode jdk_38_method_2_code 0 = .ok (.aload_n 0, 1) := by decide +kernel
theorem d1_1 : decode jdk_38_method_2_code 1 = .ok (.invokespecial 1, 3) := by decide +kernel
theorem d1_4 : decode jdk_38_method_2_code 4 = .ok (.aload_n 0, 1) := by decide +kernel
theorem d1_5 : decode jdk_38_method_2_code 5 = .ok (.getstatic 39, 3) := by decide +kernel
theorem d1_8 : decode jdk_38_method_2_code 8 = .ok (.putfield 9, 3) := by decide +kernel
theorem d1_11 : decode jdk_38_method_2_code 11 = .ok (.return_, 1) := by decide +kernel
theorem pd1 : parseMethodDescriptor "()V" = some ⟨[], none⟩ := by decide +kernel
theorem pn1 : plainName "java/util/ArrayList" = true := by first | (simp [plainName, overriddenIn]; done) | decide +kernel
theorem d2_0 : decode jdk_39_method_1_code 0 = .ok (.aload_n 0, 1) := by decide +kernel
theorem d2_1 : decode jdk_39_method_1_code 1 = .ok (.invokespecial 1, 3) := by decide +kernel
theorem d2_4 : decode jdk_39_method_1_code 4 = .ok (.aload_n 0, 1) := by decide +kernel
theorem d2_5 : decode jdk_39_method_1_code 5 = .ok (.iconst 0, 1) := by decide +kernel
theorem d2_6 : decode jdk_39_method_1_code 6 = .ok (.putfield 7, 3) := by decide +kernel
theorem d2_9 : decode jdk_39_method_1_code 9 = .ok (.return_, 1) := by decide +kernel
theorem pd2 : parseMethodDescriptor "()V" = some ⟨[], none⟩ := by decide +kernel
theorem pn2 : plainName "java/util/AbstractList" = true := by first | (simp [plainName, overriddenIn]; done) | decide +kernel
theorem d3_0 : decode jdk_22_method_1_code 0 = .ok (.aload_n 0, 1) := by decide +kernel
theorem d3_1 : decode jdk_22_method_1_code 1 = .ok (.invokespecial 1, 3) := by decide +kernel
theorem d3_4 : decode jdk_22_method_1_code 4 = .ok (.return_, 1) := by decide +kernel
theorem pd3 : parseMethodDescriptor "()V" = some ⟨[], none⟩ := by decide +kernel
theorem pn3 : plainName "java/util/AbstractCollection" = true := by first | (simp [plainName, overriddenIn]; done) | decide +kernel
theorem d5_0 : decode prog_6_method_1_code 0 = .ok (.aload_n 0, 1) := by decide +kernel
theorem d5_1 : decode prog_6_method_1_code 1 = .ok (.invokespecial 1, 3) := by decide +kernel
theorem d5_4 : decode prog_6_method_1_code 4 = .ok (.aload_n 1, 1) := by decide +kernel
theorem d5_5 : decode prog_6_method_1_code 5 = .ok (.invokestatic 7, 3) := by decide +kernel
theorem d5_8 : decode prog_6_method_1_code 8 = .ok (.astore_n 1, 1) := by decide +kernel
theorem d5_9 : decode prog_6_method_1_code 9 = .ok (.aload_n 3, 1) := by decide +kernel
theorem d5_10 : decode prog_6_method_1_code 10 = .ok (.invokestatic 7, 3) := by decide +kernel
theorem d5_13 : decode prog_6_method_1_code 13 = .ok (.astore_n 3, 1) := by decide +kernel
theorem d5_14 : decode prog_6_method_1_code 14 = .ok (.aload_n 0, 1) := by decide +kernel
theorem d5_15 : decode prog_6_method_1_code 15 = .ok (.aload_n 1, 1) := by decide +kernel
theorem d5_16 : decode prog_6_method_1_code 16 = .ok (.putfield 13, 3) := by decide +kernel
theorem d5_19 : decode prog_6_method_1_code 19 = .ok (.aload_n 0, 1) := by decide +kernel
theorem d5_20 : decode prog_6_method_1_code 20 = .ok (.iload_n 2, 1) := by decide +kernel
theorem d5_21 : decode prog_6_method_1_code 21 = .ok (.putfield 19, 3) := by decide +kernel
theorem d5_24 : decode prog_6_method_1_code 24 = .ok (.aload_n 0, 1) := by decide +kernel
theorem d5_25 : decode prog_6_method_1_code 25 = .ok (.aload_n 3, 1) := by decide +kernel
theorem d5_26 : decode prog_6_method_1_code 26 = .ok (.putfield 23, 3) := by decide +kernel
theorem d5_29 : decode prog_6_method_1_code 29 = .ok (.return_, 1) := by decide +kernel
theorem pd5 : parseMethodDescriptor "(Ljava/util/List;ZLjava/util/List;)V" = some ⟨[(.object "java/util/List"), .boolean, (.object "java/util/List")], none⟩ := by decide +kernel
theorem pn5 : plainName "com/example/seepline/seepline/model/CallRules" = true := by first | (simp [plainName, overriddenIn]; done) | decide +kernel
theorem d6_0 : decode jdk_30_method_1_code 0 = .ok (.aload_n 0, 1) := by decide +kernel
theorem d6_1 : decode jdk_30_method_1_code 1 = .ok (.invokespecial 1, 3) := by decide +kernel
theorem d6_4 : decode jdk_30_method_1_code 4 = .ok (.return_, 1) := by decide +kernel
theorem pd6 : parseMethodDescriptor "()V" = some ⟨[], none⟩ := by decide +kernel
theorem pn6 : plainName "java/lang/Record" = true := by first | (simp [plainName, overriddenIn]; done) | decide +kernel
theorem d7_0 : decode jdk_40_method_48_code 0 = .ok (.aload_n 0, 1) := by decide +kernel
theorem d7_1 : decode jdk_40_method_48_code 1 = .ok (.invokestatic 112, 3) := by decide +kernel
theorem d7_4 : decode jdk_40_method_48_code 4 = .ok (.areturn, 1) := by decide +kernel
theorem pd7 : parseMethodDescriptor "(Ljava/util/Collection;)Ljava/util/List;" = some ⟨[(.object "java/util/Collection")], some (.object "java/util/List")⟩ := by decide +kernel
theorem pn7 : plainName "java/util/List" = true := by first | (simp [plainName, overriddenIn]; done) | decide +kernel
theorem d8_0 : decode jdk_56_method_3_code 0 = .ok (.aload_n 0, 1) := by decide +kernel
theorem d8_1 : decode jdk_56_method_3_code 1 = .ok (.instanceof 10, 3) := by decide +kernel
theorem d8_4 : decode jdk_56_method_3_code 4 = .ok (.ifCond .ne 22, 3) := by decide +kernel
theorem d8_7 : decode jdk_56_method_3_code 7 = .ok (.aload_n 0, 1) := by decide +kernel
theorem d8_8 : decode jdk_56_method_3_code 8 = .ok (.instanceof 12, 3) := by decide +kernel
theorem d8_11 : decode jdk_56_method_3_code 11 = .ok (.ifCond .eq 20, 3) := by decide +kernel
theorem d8_14 : decode jdk_56_method_3_code 14 = .ok (.aload_n 0, 1) := by decide +kernel
theorem d8_15 : decode jdk_56_method_3_code 15 = .ok (.checkcast 12, 3) := by decide +kernel
theorem d8_18 : decode jdk_56_method_3_code 18 = .ok (.astore_n 1, 1) := by decide +kernel
theorem d8_19 : decode jdk_56_method_3_code 19 = .ok (.aload_n 1, 1) := by decide +kernel
theorem d8_20 : decode jdk_56_method_3_code 20 = .ok (.getfield 14, 3) := by decide +kernel
theorem d8_23 : decode jdk_56_method_3_code 23 = .ok (.ifCond .ne 8, 3) := by decide +kernel
theorem d8_26 : decode jdk_56_method_3_code 26 = .ok (.aload_n 0, 1) := by decide +kernel
theorem d8_27 : decode jdk_56_method_3_code 27 = .ok (.checkcast 18, 3) := by decide +kernel
theorem d8_30 : decode jdk_56_method_3_code 30 = .ok (.areturn, 1) := by decide +kernel
theorem d8_31 : decode jdk_56_method_3_code 31 = .ok (.aload_n 0, 1) := by decide +kernel
theorem d8_32 : decode jdk_56_method_3_code 32 = .ok (.invokeinterface 20 1, 5) := by decide +kernel
theorem d8_37 : decode jdk_56_method_3_code 37 = .ok (.ifCond .eq 7, 3) := by decide +kernel
theorem d8_40 : decode jdk_56_method_3_code 40 = .ok (.invokestatic 26, 3) := by decide +kernel
theorem d8_43 : decode jdk_56_method_3_code 43 = .ok (.areturn, 1) := by decide +kernel
theorem d8_44 : decode jdk_56_method_3_code 44 = .ok (.aload_n 0, 1) := by decide +kernel
theorem d8_45 : decode jdk_56_method_3_code 45 = .ok (.invokeinterface 30 1, 5) := by decide +kernel
theorem d8_50 : decode jdk_56_method_3_code 50 = .ok (.invokestatic 34, 3) := by decide +kernel
theorem d8_53 : decode jdk_56_method_3_code 53 = .ok (.areturn, 1) := by decide +kernel
theorem pd8 : parseMethodDescriptor "(Ljava/util/Collection;)Ljava/util/List;" = some ⟨[(.object "java/util/Collection")], some (.object "java/util/List")⟩ := by decide +kernel
theorem pn8 : plainName "java/util/ImmutableCollections" = true := by first | (simp [plainName, overriddenIn]; done) | decide +kernel
theorem d9_0 : decode jdk_38_method_9_code 0 = .ok (.aload_n 0, 1) := by decide +kernel
theorem d9_1 : decode jdk_38_method_9_code 1 = .ok (.getfield 48, 3) := by decide +kernel
theorem d9_4 : decode jdk_38_method_9_code 4 = .ok (.ifCond .ne 7, 3) := by decide +kernel
theorem d9_7 : decode jdk_38_method_9_code 7 = .ok (.iconst 1, 1) := by decide +kernel
theorem d9_8 : decode jdk_38_method_9_code 8 = .ok (.goto 4, 3) := by decide +kernel
theorem d9_11 : decode jdk_38_method_9_code 11 = .ok (.iconst 0, 1) := by decide +kernel
theorem d9_12 : decode jdk_38_method_9_code 12 = .ok (.ireturn, 1) := by decide +kernel
theorem pd9 : parseMethodDescriptor "()Z" = some ⟨[], some .boolean⟩ := by decide +kernel
theorem pn9 : plainName "java/util/ArrayList" = true := by first | (simp [plainName, overriddenIn]; done) | decide +kernel
theorem d10_0 : decode jdk_40_method_36_code 0 = .ok (.getstatic 90, 3) := by decide +kernel
theorem d10_3 : decode jdk_40_method_36_code 3 = .ok (.areturn, 1) := by decide +kernel
theorem pd10 : parseMethodDescriptor "()Ljava/util/List;" = some ⟨[], some (.object "java/util/List")⟩ := by decide +kernel
theorem pn10 : plainName "java/util/List" = true := by first | (simp [plainName, overriddenIn]; done) | decide +kernel
theorem d11_0 : decode jdk_38_method_25_code 0 = .ok (.aload_n 0, 1) := by decide +kernel
theorem d11_1 : decode jdk_38_method_25_code 1 = .ok (.dup, 1) := by decide +kernel
theorem d11_2 : decode jdk_38_method_25_code 2 = .ok (.getfield 63, 3) := by decide +kernel
theorem d11_5 : decode jdk_38_method_25_code 5 = .ok (.iconst 1, 1) := by decide +kernel
theorem d11_6 : decode jdk_38_method_25_code 6 = .ok (.iadd, 1) := by decide +kernel
theorem d11_7 : decode jdk_38_method_25_code 7 = .ok (.putfield 63, 3) := by decide +kernel
theorem d11_10 : decode jdk_38_method_25_code 10 = .ok (.aload_n 0, 1) := by decide +kernel
theorem d11_11 : decode jdk_38_method_25_code 11 = .ok (.aload_n 1, 1) := by decide +kernel
theorem d11_12 : decode jdk_38_method_25_code 12 = .ok (.aload_n 0, 1) := by decide +kernel
theorem d11_13 : decode jdk_38_method_25_code 13 = .ok (.getfield 9, 3) := by decide +kernel
theorem d11_16 : decode jdk_38_method_25_code 16 = .ok (.aload_n 0, 1) := by decide +kernel
theorem d11_17 : decode jdk_38_method_25_code 17 = .ok (.getfield 48, 3) := by decide +kernel
theorem d11_20 : decode jdk_38_method_25_code 20 = .ok (.invokevirtual 131, 3) := by decide +kernel
theorem d11_23 : decode jdk_38_method_25_code 23 = .ok (.iconst 1, 1) := by decide +kernel
theorem d11_24 : decode jdk_38_method_25_code 24 = .ok (.ireturn, 1) := by decide +kernel
theorem pd11 : parseMethodDescriptor "(Ljava/lang/Object;)Z" = some ⟨[(.object "java/lang/Object")], some .boolean⟩ := by decide +kernel
theorem pn11 : plainName "java/util/ArrayList" = true := by first | (simp [plainName, overriddenIn]; done) | decide +kernel
theorem d12_0 : decode jdk_38_method_24_code 0 = .ok (.iload_n 3, 1) := by decide +kernel
theorem d12_1 : decode jdk_38_method_24_code 1 = .ok (.aload_n 2, 1) := by decide +kernel
theorem d12_2 : decode jdk_38_method_24_code 2 = .ok (.arraylength, 1) := by decide +kernel
theorem d12_3 : decode jdk_38_method_24_code 3 = .ok (.if_icmp .ne 8, 3) := by decide +kernel
theorem d12_6 : decode jdk_38_method_24_code 6 = .ok (.aload_n 0, 1) := by decide +kernel
theorem d12_7 : decode jdk_38_method_24_code 7 = .ok (.invokevirtual 129, 3) := by decide +kernel
theorem d12_10 : decode jdk_38_method_24_code 10 = .ok (.astore_n 2, 1) := by decide +kernel
theorem d12_11 : decode jdk_38_method_24_code 11 = .ok (.aload_n 2, 1) := by decide +kernel
theorem d12_12 : decode jdk_38_method_24_code 12 = .ok (.iload_n 3, 1) := by decide +kernel
theorem d12_13 : decode jdk_38_method_24_code 13 = .ok (.aload_n 1, 1) := by decide +kernel
theorem d12_14 : decode jdk_38_method_24_code 14 = .ok (.aastore, 1) := by decide +kernel
theorem d12_15 : decode jdk_38_method_24_code 15 = .ok (.aload_n 0, 1) := by decide +kernel
theorem d12_16 : decode jdk_38_method_24_code 16 = .ok (.iload_n 3, 1) := by decide +kernel
theorem d12_17 : decode jdk_38_method_24_code 17 = .ok (.iconst 1, 1) := by decide +kernel
theorem d12_18 : decode jdk_38_method_24_code 18 = .ok (.iadd, 1) := by decide +kernel
theorem d12_19 : decode jdk_38_method_24_code 19 = .ok (.putfield 48, 3) := by decide +kernel
theorem d12_22 : decode jdk_38_method_24_code 22 = .ok (.return_, 1) := by decide +kernel
theorem pd12 : parseMethodDescriptor "(Ljava/lang/Object;[Ljava/lang/Object;I)V" = some ⟨[(.object "java/lang/Object"), (.array (.object "java/lang/Object")), .int], none⟩ := by decide +kernel
theorem pn12 : plainName "java/util/ArrayList" = true := by first | (simp [plainName, overriddenIn]; done) | decide +kernel
theorem d13_0 : decode jdk_38_method_7_code 0 = .ok (.aload_n 0, 1) := by decide +kernel
theorem d13_1 : decode jdk_38_method_7_code 1 = .ok (.aload_n 0, 1) := by decide +kernel
theorem d13_2 : decode jdk_38_method_7_code 2 = .ok (.getfield 48, 3) := by decide +kernel
theorem d13_5 : decode jdk_38_method_7_code 5 = .ok (.iconst 1, 1) := by decide +kernel
theorem d13_6 : decode jdk_38_method_7_code 6 = .ok (.iadd, 1) := by decide +kernel
theorem d13_7 : decode jdk_38_method_7_code 7 = .ok (.invokevirtual 69, 3) := by decide +kernel
theorem d13_10 : decode jdk_38_method_7_code 10 = .ok (.areturn, 1) := by decide +kernel
theorem pd13 : parseMethodDescriptor "()[Ljava/lang/Object;" = some ⟨[], some (.array (.object "java/lang/Object"))⟩ := by decide +kernel
theorem pn13 : plainName "java/util/ArrayList" = true := by first | (simp [plainName, overriddenIn]; done) | decide +kernel
theorem d14_0 : decode jdk_38_method_6_code 0 = .ok (.aload_n 0, 1) := by decide +kernel
theorem d14_1 : decode jdk_38_method_6_code 1 = .ok (.getfield 9, 3) := by decide +kernel
theorem d14_4 : decode jdk_38_method_6_code 4 = .ok (.arraylength, 1) := by decide +kernel
theorem d14_5 : decode jdk_38_method_6_code 5 = .ok (.istore_n 2, 1) := by decide +kernel
theorem d14_6 : decode jdk_38_method_6_code 6 = .ok (.iload_n 2, 1) := by decide +kernel
theorem d14_7 : decode jdk_38_method_6_code 7 = .ok (.ifCond .gt 13, 3) := by decide +kernel
theorem d14_10 : decode jdk_38_method_6_code 10 = .ok (.aload_n 0, 1) := by decide +kernel
theorem d14_11 : decode jdk_38_method_6_code 11 = .ok (.getfield 9, 3) := by decide +kernel
theorem d14_14 : decode jdk_38_method_6_code 14 = .ok (.getstatic 39, 3) := by decide +kernel
theorem d14_17 : decode jdk_38_method_6_code 17 = .ok (.if_acmp .eq 28, 3) := by decide +kernel
theorem d14_20 : decode jdk_38_method_6_code 20 = .ok (.iload_n 2, 1) := by decide +kernel
theorem d14_21 : decode jdk_38_method_6_code 21 = .ok (.iload_n 1, 1) := by decide +kernel
theorem d14_22 : decode jdk_38_method_6_code 22 = .ok (.iload_n 2, 1) := by decide +kernel
theorem d14_23 : decode jdk_38_method_6_code 23 = .ok (.isub, 1) := by decide +kernel
theorem d14_24 : decode jdk_38_method_6_code 24 = .ok (.iload_n 2, 1) := by decide +kernel
theorem d14_25 : decode jdk_38_method_6_code 25 = .ok (.iconst 1, 1) := by decide +kernel
theorem d14_26 : decode jdk_38_method_6_code 26 = .ok (.ishr, 1) := by decide +kernel
theorem d14_27 : decode jdk_38_method_6_code 27 = .ok (.invokestatic 73, 3) := by decide +kernel
theorem d14_30 : decode jdk_38_method_6_code 30 = .ok (.istore_n 3, 1) := by decide +kernel
theorem d14_31 : decode jdk_38_method_6_code 31 = .ok (.aload_n 0, 1) := by decide +kernel
theorem d14_32 : decode jdk_38_method_6_code 32 = .ok (.aload_n 0, 1) := by decide +kernel
theorem d14_33 : decode jdk_38_method_6_code 33 = .ok (.getfield 9, 3) := by decide +kernel
theorem d14_36 : decode jdk_38_method_6_code 36 = .ok (.iload_n 3, 1) := by decide +kernel
theorem d14_37 : decode jdk_38_method_6_code 37 = .ok (.invokestatic 66, 3) := by decide +kernel
theorem d14_40 : decode jdk_38_method_6_code 40 = .ok (.dup_x1, 1) := by decide +kernel
theorem d14_41 : decode jdk_38_method_6_code 41 = .ok (.putfield 9, 3) := by decide +kernel
theorem d14_44 : decode jdk_38_method_6_code 44 = .ok (.areturn, 1) := by decide +kernel
theorem d14_45 : decode jdk_38_method_6_code 45 = .ok (.aload_n 0, 1) := by decide +kernel
theorem d14_46 : decode jdk_38_method_6_code 46 = .ok (.bipush 10, 2) := by decide +kernel
theorem d14_48 : decode jdk_38_method_6_code 48 = .ok (.iload_n 1, 1) := by decide +kernel
theorem d14_49 : decode jdk_38_method_6_code 49 = .ok (.invokestatic 79, 3) := by decide +kernel
theorem d14_52 : decode jdk_38_method_6_code 52 = .ok (.anewarray 7, 3) := by decide +kernel
theorem d14_55 : decode jdk_38_method_6_code 55 = .ok (.dup_x1, 1) := by decide +kernel
theorem d14_56 : decode jdk_38_method_6_code 56 = .ok (.putfield 9, 3) := by decide +kernel
theorem d14_59 : decode jdk_38_method_6_code 59 = .ok (.areturn, 1) := by decide +kernel
theorem pd14 : parseMethodDescriptor "(I)[Ljava/lang/Object;" = some ⟨[.int], some (.array (.object "java/lang/Object"))⟩ := by decide +kernel
theorem pn14 : plainName "java/util/ArrayList" = true := by first | (simp [plainName, overriddenIn]; done) | decide +kernel
theorem d15_0 : decode jdk_29_method_65_code 0 = .ok (.iload_n 0, 1) := by decide +kernel
theorem d15_1 : decode jdk_29_method_65_code 1 = .ok (.iload_n 1, 1) := by decide +kernel
theorem d15_2 : decode jdk_29_method_65_code 2 = .ok (.if_icmp .lt 7, 3) := by decide +kernel
theorem d15_5 : decode jdk_29_method_65_code 5 = .ok (.iload_n 0, 1) := by decide +kernel
theorem d15_6 : decode jdk_29_method_65_code 6 = .ok (.goto 4, 3) := by decide +kernel
theorem d15_9 : decode jdk_29_method_65_code 9 = .ok (.iload_n 1, 1) := by decide +kernel
theorem d15_10 : decode jdk_29_method_65_code 10 = .ok (.ireturn, 1) := by decide +kernel
theorem pd15 : parseMethodDescriptor "(II)I" = some ⟨[.int, .int], some .int⟩ := by decide +kernel
theorem pn15 : plainFor (⟨"java/lang/Math", "max", "(II)I"⟩ : MethodName) = true := by decide +kernel
theorem d16_0 : decode prog_6_method_3_code 0 = .ok (.aload_n 0, 1) := by decide +kernel
theorem d16_1 : decode prog_6_method_3_code 1 = .ok (.getfield 13, 3) := by decide +kernel
theorem d16_4 : decode prog_6_method_3_code 4 = .ok (.invokeinterface 36 1, 5) := by decide +kernel
theorem d16_9 : decode prog_6_method_3_code 9 = .ok (.ifCond .eq 26, 3) := by decide +kernel
theorem d16_12 : decode prog_6_method_3_code 12 = .ok (.aload_n 0, 1) := by decide +kernel
theorem d16_13 : decode prog_6_method_3_code 13 = .ok (.getfield 19, 3) := by decide +kernel
theorem d16_16 : decode prog_6_method_3_code 16 = .ok (.ifCond .ne 19, 3) := by decide +kernel
theorem d16_19 : decode prog_6_method_3_code 19 = .ok (.aload_n 0, 1) := by decide +kernel
theorem d16_20 : decode prog_6_method_3_code 20 = .ok (.getfield 23, 3) := by decide +kernel
theorem d16_23 : decode prog_6_method_3_code 23 = .ok (.invokeinterface 36 1, 5) := by decide +kernel
theorem d16_28 : decode prog_6_method_3_code 28 = .ok (.ifCond .eq 7, 3) := by decide +kernel
theorem d16_31 : decode prog_6_method_3_code 31 = .ok (.iconst 1, 1) := by decide +kernel
theorem d16_32 : decode prog_6_method_3_code 32 = .ok (.goto 4, 3) := by decide +kernel
theorem d16_35 : decode prog_6_method_3_code 35 = .ok (.iconst 0, 1) := by decide +kernel
theorem d16_36 : decode prog_6_method_3_code 36 = .ok (.ireturn, 1) := by decide +kernel
theorem pd16 : parseMethodDescriptor "()Z" = some ⟨[], some .boolean⟩ := by decide +kernel
theorem pn16 : plainName "com/example/seepline/seepline/model/CallRules" = true := by first | (simp [plainName, overriddenIn]; done) | decide +kernel
theorem d17_0 : decode jdk_45_method_2_code 0 = .ok (.aload_n 0, 1) := by decide +kernel
theorem d17_1 : decode jdk_45_method_2_code 1 = .ok (.getfield 7, 3) := by decide +kernel
theorem d17_4 : decode jdk_45_method_2_code 4 = .ok (.arraylength, 1) := by decide +kernel
theorem d17_5 : decode jdk_45_method_2_code 5 = .ok (.ifCond .ne 7, 3) := by decide +kernel
theorem d17_8 : decode jdk_45_method_2_code 8 = .ok (.iconst 1, 1) := by decide +kernel
theorem d17_9 : decode jdk_45_method_2_code 9 = .ok (.goto 4, 3) := by decide +kernel
theorem d17_12 : decode jdk_45_method_2_code 12 = .ok (.iconst 0, 1) := by decide +kernel
theorem d17_13 : decode jdk_45_method_2_code 13 = .ok (.ireturn, 1) := by decide +kernel
theorem pd17 : parseMethodDescriptor "()Z" = some ⟨[], some .boolean⟩ := by decide +kernel
theorem pn17 : plainName "java/util/ImmutableCollections$ListN" = true := by first | (simp [plainName, overriddenIn]; done) | decide +kernel
theorem d18_0 : decode method_2_code 0 = .ok (.iload_n 0, 1) := by decide +kernel
theorem d18_1 : decode method_2_code 1 = .ok (.iconst 3, 1) := by decide +kernel
theorem d18_2 : decode method_2_code 2 = .ok (.iand, 1) := by decide +kernel
theorem d18_3 : decode method_2_code 3 = .ok (.istore_n 2, 1) := by decide +kernel
theorem d18_4 : decode method_2_code 4 = .ok (.iload_n 2, 1) := by decide +kernel
theorem d18_5 : decode method_2_code 5 = .ok (.ifCond .ne 11, 3) := by decide +kernel
theorem d18_8 : decode method_2_code 8 = .ok (.iload_n 1, 1) := by decide +kernel
theorem d18_9 : decode method_2_code 9 = .ok (.ldc 7, 2) := by decide +kernel
theorem d18_11 : decode method_2_code 11 = .ok (.iand, 1) := by decide +kernel
theorem d18_12 : decode method_2_code 12 = .ok (.invokestatic 8, 3) := by decide +kernel
theorem d18_15 : decode method_2_code 15 = .ok (.areturn, 1) := by decide +kernel
theorem d18_16 : decode method_2_code 16 = .ok (.iload_n 2, 1) := by decide +kernel
theorem d18_17 : decode method_2_code 17 = .ok (.iconst 1, 1) := by decide +kernel
theorem d18_18 : decode method_2_code 18 = .ok (.if_icmp .ne 7, 3) := by decide +kernel
theorem d18_21 : decode method_2_code 21 = .ok (.getstatic 14, 3) := by decide +kernel
theorem d18_24 : decode method_2_code 24 = .ok (.areturn, 1) := by decide +kernel
theorem d18_25 : decode method_2_code 25 = .ok (.iload_n 2, 1) := by decide +kernel
theorem d18_26 : decode method_2_code 26 = .ok (.iconst 2, 1) := by decide +kernel
theorem d18_27 : decode method_2_code 27 = .ok (.if_icmp .ne 7, 3) := by decide +kernel
theorem d18_30 : decode method_2_code 30 = .ok (.getstatic 18, 3) := by decide +kernel
theorem d18_33 : decode method_2_code 33 = .ok (.areturn, 1) := by decide +kernel
theorem d18_34 : decode method_2_code 34 = .ok (.getstatic 21, 3) := by decide +kernel
theorem d18_37 : decode method_2_code 37 = .ok (.areturn, 1) := by decide +kernel
theorem pd18 : parseMethodDescriptor "(II)Lcom/example/seepline/seepline/model/Position;" = some ⟨[.int, .int], some (.object "com/example/seepline/seepline/model/Position")⟩ := by decide +kernel
theorem pn18 : plainName "com/example/seepline/seepline/model/CallRulesIsEmptyPinLaw" = true := by first | (simp [plainName, overriddenIn]; done) | decide +kernel
theorem d19_0 : decode prog_13_method_2_code 0 = .ok (.iload_n 0, 1) := by decide +kernel
theorem d19_1 : decode prog_13_method_2_code 1 = .ok (.ifCond .ge 17, 3) := by decide +kernel
theorem d19_18 : decode prog_13_method_2_code 18 = .ok (.new 8, 3) := by decide +kernel
theorem d19_21 : decode prog_13_method_2_code 21 = .ok (.dup, 1) := by decide +kernel
theorem d19_22 : decode prog_13_method_2_code 22 = .ok (.getstatic 26, 3) := by decide +kernel
theorem d19_25 : decode prog_13_method_2_code 25 = .ok (.iload_n 0, 1) := by decide +kernel
theorem d19_26 : decode prog_13_method_2_code 26 = .ok (.invokespecial 31, 3) := by decide +kernel
theorem d19_29 : decode prog_13_method_2_code 29 = .ok (.areturn, 1) := by decide +kernel
theorem pd19 : parseMethodDescriptor "(I)Lcom/example/seepline/seepline/model/Position;" = some ⟨[.int], some (.object "com/example/seepline/seepline/model/Position")⟩ := by decide +kernel
theorem pn19 : plainName "com/example/seepline/seepline/model/Position" = true := by first | (simp [plainName, overriddenIn]; done) | decide +kernel
theorem d20_0 : decode prog_13_method_1_code 0 = .ok (.aload_n 0, 1) := by decide +kernel
theorem d20_1 : decode prog_13_method_1_code 1 = .ok (.invokespecial 1, 3) := by decide +kernel
theorem d20_4 : decode prog_13_method_1_code 4 = .ok (.aload_n 0, 1) := by decide +kernel
theorem d20_5 : decode prog_13_method_1_code 5 = .ok (.aload_n 1, 1) := by decide +kernel
theorem d20_6 : decode prog_13_method_1_code 6 = .ok (.putfield 7, 3) := by decide +kernel
theorem d20_9 : decode prog_13_method_1_code 9 = .ok (.aload_n 0, 1) := by decide +kernel
theorem d20_10 : decode prog_13_method_1_code 10 = .ok (.iload_n 2, 1) := by decide +kernel
theorem d20_11 : decode prog_13_method_1_code 11 = .ok (.putfield 13, 3) := by decide +kernel
theorem d20_14 : decode prog_13_method_1_code 14 = .ok (.return_, 1) := by decide +kernel
theorem pd20 : parseMethodDescriptor "(Lcom/example/seepline/seepline/model/Position$Kind;I)V" = some ⟨[(.object "com/example/seepline/seepline/model/Position$Kind"), .int], none⟩ := by decide +kernel
theorem pn20 : plainName "com/example/seepline/seepline/model/Position" = true := by first | (simp [plainName, overriddenIn]; done) | decide +kernel
theorem d21_0 : decode jdk_38_method_16_code 0 = .ok (.aload_n 0, 1) := by decide +kernel
theorem d21_1 : decode jdk_38_method_16_code 1 = .ok (.getfield 9, 3) := by decide +kernel
theorem d21_4 : decode jdk_38_method_16_code 4 = .ok (.aload_n 0, 1) := by decide +kernel
theorem d21_5 : decode jdk_38_method_16_code 5 = .ok (.getfield 48, 3) := by decide +kernel
theorem d21_8 : decode jdk_38_method_16_code 8 = .ok (.invokestatic 66, 3) := by decide +kernel
theorem d21_11 : decode jdk_38_method_16_code 11 = .ok (.areturn, 1) := by decide +kernel
theorem pd21 : parseMethodDescriptor "()[Ljava/lang/Object;" = some ⟨[], some (.array (.object "java/lang/Object"))⟩ := by decide +kernel
theorem pn21 : plainName "java/util/ArrayList" = true := by first | (simp [plainName, overriddenIn]; done) | decide +kernel
theorem d22_0 : decode jdk_65_method_119_code 0 = .ok (.aload_n 0, 1) := by decide +kernel
theorem d22_1 : decode jdk_65_method_119_code 1 = .ok (.iload_n 1, 1) := by decide +kernel
theorem d22_2 : decode jdk_65_method_119_code 2 = .ok (.aload_n 0, 1) := by decide +kernel
theorem d22_3 : decode jdk_65_method_119_code 3 = .ok (.invokevirtual 86, 3) := by decide +kernel
theorem d22_6 : decode jdk_65_method_119_code 6 = .ok (.invokestatic 300, 3) := by decide +kernel
theorem d22_9 : decode jdk_65_method_119_code 9 = .ok (.areturn, 1) := by decide +kernel
theorem pd22 : parseMethodDescriptor "([Ljava/lang/Object;I)[Ljava/lang/Object;" = some ⟨[(.array (.object "java/lang/Object")), .int], some (.array (.object "java/lang/Object"))⟩ := by decide +kernel
theorem pn22 : plainName "java/util/Arrays" = true := by first | (simp [plainName, overriddenIn]; done) | decide +kernel
theorem d23_0 : decode jdk_65_method_120_code 0 = .ok (.aload_n 2, 1) := by decide +kernel
theorem d23_1 : decode jdk_65_method_120_code 1 = .ok (.ldc 110, 2) := by decide +kernel
theorem d23_3 : decode jdk_65_method_120_code 3 = .ok (.if_acmp .ne 10, 3) := by decide +kernel
theorem d23_6 : decode jdk_65_method_120_code 6 = .ok (.iload_n 1, 1) := by decide +kernel
theorem d23_7 : decode jdk_65_method_120_code 7 = .ok (.anewarray 2, 3) := by decide +kernel
theorem d23_10 : decode jdk_65_method_120_code 10 = .ok (.goto 14, 3) := by decide +kernel
theorem d23_13 : decode jdk_65_method_120_code 13 = .ok (.aload_n 2, 1) := by decide +kernel
theorem d23_14 : decode jdk_65_method_120_code 14 = .ok (.invokevirtual 90, 3) := by decide +kernel
theorem d23_17 : decode jdk_65_method_120_code 17 = .ok (.iload_n 1, 1) := by decide +kernel
theorem d23_18 : decode jdk_65_method_120_code 18 = .ok (.invokestatic 95, 3) := by decide +kernel
theorem d23_21 : decode jdk_65_method_120_code 21 = .ok (.checkcast 110, 3) := by decide +kernel
theorem d23_24 : decode jdk_65_method_120_code 24 = .ok (.astore_n 3, 1) := by decide +kernel
theorem d23_25 : decode jdk_65_method_120_code 25 = .ok (.aload_n 0, 1) := by decide +kernel
theorem d23_26 : decode jdk_65_method_120_code 26 = .ok (.iconst 0, 1) := by decide +kernel
theorem d23_27 : decode jdk_65_method_120_code 27 = .ok (.aload_n 3, 1) := by decide +kernel
theorem d23_28 : decode jdk_65_method_120_code 28 = .ok (.iconst 0, 1) := by decide +kernel
theorem d23_29 : decode jdk_65_method_120_code 29 = .ok (.aload_n 0, 1) := by decide +kernel
theorem d23_30 : decode jdk_65_method_120_code 30 = .ok (.arraylength, 1) := by decide +kernel
theorem d23_31 : decode jdk_65_method_120_code 31 = .ok (.iload_n 1, 1) := by decide +kernel
theorem d23_32 : decode jdk_65_method_120_code 32 = .ok (.invokestatic 304, 3) := by decide +kernel
theorem d23_35 : decode jdk_65_method_120_code 35 = .ok (.invokestatic 150, 3) := by decide +kernel
theorem d23_38 : decode jdk_65_method_120_code 38 = .ok (.aload_n 3, 1) := by decide +kernel
theorem d23_39 : decode jdk_65_method_120_code 39 = .ok (.areturn, 1) := by decide +kernel
theorem pd23 : parseMethodDescriptor "([Ljava/lang/Object;ILjava/lang/Class;)[Ljava/lang/Object;" = some ⟨[(.array (.object "java/lang/Object")), .int, (.object "java/lang/Class")], some (.array (.object "java/lang/Object"))⟩ := by decide +kernel
theorem pn23 : plainName "java/util/Arrays" = true := by first | (simp [plainName, overriddenIn]; done) | decide +kernel
theorem d24_0 : decode jdk_29_method_69_code 0 = .ok (.iload_n 0, 1) := by decide +kernel
theorem d24_1 : decode jdk_29_method_69_code 1 = .ok (.iload_n 1, 1) := by decide +kernel
theorem d24_2 : decode jdk_29_method_69_code 2 = .ok (.if_icmp .gt 7, 3) := by decide +kernel
theorem d24_5 : decode jdk_29_method_69_code 5 = .ok (.iload_n 0, 1) := by decide +kernel
theorem d24_6 : decode jdk_29_method_69_code 6 = .ok (.goto 4, 3) := by decide +kernel
theorem d24_9 : decode jdk_29_method_69_code 9 = .ok (.iload_n 1, 1) := by decide +kernel
theorem d24_10 : decode jdk_29_method_69_code 10 = .ok (.ireturn, 1) := by decide +kernel
theorem pd24 : parseMethodDescriptor "(II)I" = some ⟨[.int, .int], some .int⟩ := by decide +kernel
theorem pn24 : plainFor (⟨"java/lang/Math", "min", "(II)I"⟩ : MethodName) = true := by decide +kernel
theorem d25_0 : decode jdk_40_method_47_code 0 = .ok (.aload_n 0, 1) := by decide +kernel
theorem d25_1 : decode jdk_40_method_47_code 1 = .ok (.arraylength, 1) := by decide +kernel
theorem d25_2 : decode jdk_40_method_47_code 2 = .ok (.tableswitch 57 0 2 #[26, 32, 43], 26) := by decide +kernel
theorem d25_28 : decode jdk_40_method_47_code 28 = .ok (.getstatic 90, 3) := by decide +kernel
theorem d25_31 : decode jdk_40_method_47_code 31 = .ok (.astore_n 1, 1) := by decide +kernel
theorem d25_32 : decode jdk_40_method_47_code 32 = .ok (.aload_n 1, 1) := by decide +kernel
theorem d25_33 : decode jdk_40_method_47_code 33 = .ok (.areturn, 1) := by decide +kernel
theorem d25_34 : decode jdk_40_method_47_code 34 = .ok (.new 96, 3) := by decide +kernel
theorem d25_37 : decode jdk_40_method_47_code 37 = .ok (.dup, 1) := by decide +kernel
theorem d25_38 : decode jdk_40_method_47_code 38 = .ok (.aload_n 0, 1) := by decide +kernel
theorem d25_39 : decode jdk_40_method_47_code 39 = .ok (.iconst 0, 1) := by decide +kernel
theorem d25_40 : decode jdk_40_method_47_code 40 = .ok (.aaload, 1) := by decide +kernel
theorem d25_41 : decode jdk_40_method_47_code 41 = .ok (.invokespecial 98, 3) := by decide +kernel
theorem d25_44 : decode jdk_40_method_47_code 44 = .ok (.areturn, 1) := by decide +kernel
theorem d25_45 : decode jdk_40_method_47_code 45 = .ok (.new 96, 3) := by decide +kernel
theorem d25_48 : decode jdk_40_method_47_code 48 = .ok (.dup, 1) := by decide +kernel
theorem d25_49 : decode jdk_40_method_47_code 49 = .ok (.aload_n 0, 1) := by decide +kernel
theorem d25_50 : decode jdk_40_method_47_code 50 = .ok (.iconst 0, 1) := by decide +kernel
theorem d25_51 : decode jdk_40_method_47_code 51 = .ok (.aaload, 1) := by decide +kernel
theorem d25_52 : decode jdk_40_method_47_code 52 = .ok (.aload_n 0, 1) := by decide +kernel
theorem d25_53 : decode jdk_40_method_47_code 53 = .ok (.iconst 1, 1) := by decide +kernel
theorem d25_54 : decode jdk_40_method_47_code 54 = .ok (.aaload, 1) := by decide +kernel
theorem d25_55 : decode jdk_40_method_47_code 55 = .ok (.invokespecial 100, 3) := by decide +kernel
theorem d25_58 : decode jdk_40_method_47_code 58 = .ok (.areturn, 1) := by decide +kernel
theorem d25_59 : decode jdk_40_method_47_code 59 = .ok (.aload_n 0, 1) := by decide +kernel
theorem d25_60 : decode jdk_40_method_47_code 60 = .ok (.invokestatic 109, 3) := by decide +kernel
theorem d25_63 : decode jdk_40_method_47_code 63 = .ok (.areturn, 1) := by decide +kernel
theorem pd25 : parseMethodDescriptor "([Ljava/lang/Object;)Ljava/util/List;" = some ⟨[(.array (.object "java/lang/Object"))], some (.object "java/util/List")⟩ := by decide +kernel
theorem pn25 : plainName "java/util/List" = true := by first | (simp [plainName, overriddenIn]; done) | decide +kernel
theorem d26_0 : decode jdk_44_method_2_code 0 = .ok (.aload_n 0, 1) := by decide +kernel
theorem d26_1 : decode jdk_44_method_2_code 1 = .ok (.invokespecial 1, 3) := by decide +kernel
theorem d26_4 : decode jdk_44_method_2_code 4 = .ok (.aload_n 0, 1) := by decide +kernel
theorem d26_5 : decode jdk_44_method_2_code 5 = .ok (.aload_n 1, 1) := by decide +kernel
theorem d26_6 : decode jdk_44_method_2_code 6 = .ok (.invokestatic 7, 3) := by decide +kernel
theorem d26_9 : decode jdk_44_method_2_code 9 = .ok (.putfield 13, 3) := by decide +kernel
theorem d26_12 : decode jdk_44_method_2_code 12 = .ok (.aload_n 0, 1) := by decide +kernel
theorem d26_13 : decode jdk_44_method_2_code 13 = .ok (.aload_n 2, 1) := by decide +kernel
theorem d26_14 : decode jdk_44_method_2_code 14 = .ok (.invokestatic 7, 3) := by decide +kernel
theorem d26_17 : decode jdk_44_method_2_code 17 = .ok (.putfield 24, 3) := by decide +kernel
theorem d26_20 : decode jdk_44_method_2_code 20 = .ok (.return_, 1) := by decide +kernel
theorem pd26 : parseMethodDescriptor "(Ljava/lang/Object;Ljava/lang/Object;)V" = some ⟨[(.object "java/lang/Object"), (.object "java/lang/Object")], none⟩ := by decide +kernel
theorem pn26 : plainName "java/util/ImmutableCollections$List12" = true := by first | (simp [plainName, overriddenIn]; done) | decide +kernel
theorem d27_0 : decode jdk_46_method_1_code 0 = .ok (.aload_n 0, 1) := by decide +kernel
theorem d27_1 : decode jdk_46_method_1_code 1 = .ok (.invokespecial 1, 3) := by decide +kernel
theorem d27_4 : decode jdk_46_method_1_code 4 = .ok (.return_, 1) := by decide +kernel
theorem pd27 : parseMethodDescriptor "()V" = some ⟨[], none⟩ := by decide +kernel
theorem pn27 : plainName "java/util/ImmutableCollections$AbstractImmutableList" = true := by first | (simp [plainName, overriddenIn]; done) | decide +kernel
theorem d28_0 : decode jdk_47_method_1_code 0 = .ok (.aload_n 0, 1) := by decide +kernel
theorem d28_1 : decode jdk_47_method_1_code 1 = .ok (.invokespecial 1, 3) := by decide +kernel
theorem d28_4 : decode jdk_47_method_1_code 4 = .ok (.return_, 1) := by decide +kernel
theorem pd28 : parseMethodDescriptor "()V" = some ⟨[], none⟩ := by decide +kernel
theorem pn28 : plainName "java/util/ImmutableCollections$AbstractImmutableCollection" = true := by first | (simp [plainName, overriddenIn]; done) | decide +kernel
theorem d29_0 : decode jdk_31_method_10_code 0 = .ok (.aload_n 0, 1) := by decide +kernel
theorem d29_1 : decode jdk_31_method_10_code 1 = .ok (.ifnonnull 11, 3) := by decide +kernel
theorem d29_12 : decode jdk_31_method_10_code 12 = .ok (.aload_n 0, 1) := by decide +kernel
theorem d29_13 : decode jdk_31_method_10_code 13 = .ok (.areturn, 1) := by decide +kernel
theorem pd29 : parseMethodDescriptor "(Ljava/lang/Object;)Ljava/lang/Object;" = some ⟨[(.object "java/lang/Object")], some (.object "java/lang/Object")⟩ := by decide +kernel
theorem pn29 : plainName "java/util/Objects" = true := by first | (simp [plainName, overriddenIn]; done) | decide +kernel
theorem d30_0 : decode jdk_44_method_1_code 0 = .ok (.aload_n 0, 1) := by decide +kernel
theorem d30_1 : decode jdk_44_method_1_code 1 = .ok (.invokespecial 1, 3) := by decide +kernel
theorem d30_4 : decode jdk_44_method_1_code 4 = .ok (.aload_n 0, 1) := by decide +kernel
theorem d30_5 : decode jdk_44_method_1_code 5 = .ok (.aload_n 1, 1) := by decide +kernel
theorem d30_6 : decode jdk_44_method_1_code 6 = .ok (.invokestatic 7, 3) := by decide +kernel
theorem d30_9 : decode jdk_44_method_1_code 9 = .ok (.putfield 13, 3) := by decide +kernel
theorem d30_12 : decode jdk_44_method_1_code 12 = .ok (.aload_n 0, 1) := by decide +kernel
theorem d30_13 : decode jdk_44_method_1_code 13 = .ok (.getstatic 19, 3) := by decide +kernel
theorem d30_16 : decode jdk_44_method_1_code 16 = .ok (.putfield 24, 3) := by decide +kernel
theorem d30_19 : decode jdk_44_method_1_code 19 = .ok (.return_, 1) := by decide +kernel
theorem pd30 : parseMethodDescriptor "(Ljava/lang/Object;)V" = some ⟨[(.object "java/lang/Object")], none⟩ := by decide +kernel
theorem pn30 : plainName "java/util/ImmutableCollections$List12" = true := by first | (simp [plainName, overriddenIn]; done) | decide +kernel
theorem d31_0 : decode jdk_44_method_4_code 0 = .ok (.iconst 0, 1) := by decide +kernel
theorem d31_1 : decode jdk_44_method_4_code 1 = .ok (.ireturn, 1) := by decide +kernel
theorem pd31 : parseMethodDescriptor "()Z" = some ⟨[], some .boolean⟩ := by decide +kernel
theorem pn31 : plainName "java/util/ImmutableCollections$List12" = true := by first | (simp [plainName, overriddenIn]; done) | decide +kernel
theorem pnL : plainName "com/example/seepline/seepline/model/CallRulesIsEmptyPinLaw" = true := by first | (simp [plainName, overriddenIn]; done) | decide +kernel
def AO (Z : State) (h : Heap) (b' ea : Addr) (sz : Int32) : Prop := Exa Z h b' "java/util/ArrayList" ∧ Fld Z h b' "java/util/ArrayList" "elementData" "[Ljava/lang/Object;" (.ref ea) ∧ Fld Z h b' "java/util/ArrayList" "size" "I" (.int sz) ∧ ∃ mc : Int32, Fld Z h b' "java/util/AbstractList" "modCount" "I" (.int mc)
theorem AO.ext {Z : State} {h h' : Heap} {b' ea : Addr} {sz : Int32} (A : AO Z h b' ea sz) (E : Ext h h') : AO Z h' b' ea sz := by
  obtain ⟨h1, h2, h3, mc, h4⟩ := A
  exact ⟨h1.ext E, h2.ext E, h3.ext E, mc, h4.ext E⟩
theorem AO.keep {Z : State} {h h' : Heap} {b' ea : Addr} {sz : Int32} {ws : List Addr} (A : AO Z h b' ea sz) (Kp : Keep h h' ws) (hb : b' ∉ ws) : AO Z h' b' ea sz := by
  obtain ⟨h1, h2, h3, mc, h4⟩ := A
  exact ⟨h1.keep Kp, h2.keep Kp hb, h3.keep Kp hb, mc, h4.keep Kp hb⟩
theorem AO.wrO {Z : State} {h h' : Heap} {b' ea a : Addr} {sz : Int32} {sl : Nat} {v : Value} (A : AO Z h b' ea sz) (W : Wr h h' a sl v) (hb : b' ≠ a) : AO Z h' b' ea sz := A.keep (Keep.of_wr W) (fun q => hb (List.mem_singleton.mp q))
theorem AO.wrM {a0 : Array Value} {Z : State} (hw : ∀ d ∈ tables_1, d.before a0 Z = true) {h h' : Heap} {b' ea : Addr} {sz mc' : Int32} (A : AO Z h b' ea sz) (W : Wr h h' b' (Jvm.RoadKit.slotOf Z "java/util/AbstractList" "modCount" "I") (.int mc')) : AO Z h' b' ea sz := by
  obtain ⟨h1, h2, h3, mc, h4⟩ := A
  exact ⟨h1.wr W, h2.other W (Or.inr (slot_ne (t := (.array (.object "java/lang/Object"))) (t' := .int) (Or.inl (hw _ (List.mem_of_getElem? (i := 25) rfl))) (Or.inl (hw _ (List.mem_of_getElem? (i := 22) rfl))) (by decide) (by decide) (by decide))), h3.other W (Or.inr (slot_ne (t := .int) (t' := .int) (Or.inl (hw _ (List.mem_of_getElem? (i := 62) rfl))) (Or.inl (hw _ (List.mem_of_getElem? (i := 22) rfl))) (by decide) (by decide) (by decide))), mc', h4.same W⟩
theorem AO.wrE {a0 : Array Value} {Z : State} (hw : ∀ d ∈ tables_1, d.before a0 Z = true) {h h' : Heap} {b' ea ea' : Addr} {sz : Int32} (A : AO Z h b' ea sz) (W : Wr h h' b' (Jvm.RoadKit.slotOf Z "java/util/ArrayList" "elementData" "[Ljava/lang/Object;") (.ref ea')) : AO Z h' b' ea' sz := by
  obtain ⟨h1, h2, h3, mc, h4⟩ := A
  exact ⟨h1.wr W, h2.same W, h3.other W (Or.inr (slot_ne (t := .int) (t' := (.array (.object "java/lang/Object"))) (Or.inl (hw _ (List.mem_of_getElem? (i := 62) rfl))) (Or.inl (hw _ (List.mem_of_getElem? (i := 25) rfl))) (by decide) (by decide) (by decide))), mc, h4.other W (Or.inr (slot_ne (t := .int) (t' := (.array (.object "java/lang/Object"))) (Or.inl (hw _ (List.mem_of_getElem? (i := 22) rfl))) (Or.inl (hw _ (List.mem_of_getElem? (i := 25) rfl))) (by decide) (by decide) (by decide)))⟩
theorem AO.wrS {a0 : Array Value} {Z : State} (hw : ∀ d ∈ tables_1, d.before a0 Z = true) {h h' : Heap} {b' ea : Addr} {sz sz' : Int32} (A : AO Z h b' ea sz) (W : Wr h h' b' (Jvm.RoadKit.slotOf Z "java/util/ArrayList" "size" "I") (.int sz')) : AO Z h' b' ea sz' := by
  obtain ⟨h1, h2, h3, mc, h4⟩ := A
  exact ⟨h1.wr W, h2.other W (Or.inr (slot_ne (t := (.array (.object "java/lang/Object"))) (t' := .int) (Or.inl (hw _ (List.mem_of_getElem? (i := 25) rfl))) (Or.inl (hw _ (List.mem_of_getElem? (i := 62) rfl))) (by decide) (by decide) (by decide))), h3.same W, mc, h4.other W (Or.inr (slot_ne (t := .int) (t' := .int) (Or.inl (hw _ (List.mem_of_getElem? (i := 22) rfl))) (Or.inl (hw _ (List.mem_of_getElem? (i := 62) rfl))) (by decide) (by decide) (by decide)))⟩
def Ev (Z : State) (h : Heap) (v : Value) : Prop := v = .null ∨ ∃ r, v = .ref r ∧ Exa Z h r "com/example/seepline/seepline/model/Position"
theorem Ev.keep {Z : State} {h h' : Heap} {v : Value} {ws : List Addr} (E : Ev Z h v) (Kp : Keep h h' ws) : Ev Z h' v := E.imp id (fun ⟨r, e1, e2⟩ => ⟨r, e1, e2.keep Kp⟩)
def EA (Z : State) (h : Heap) (ea : Addr) (n : Nat) : Prop := ∃ k vs, Arv Z h ea k (.object "java/lang/Object") 10 vs .null ∧ vs.length = 10 ∧ Ovr Z k "java/lang/Object" ∧ Exa Z h ea "[Ljava/lang/Object;" ∧ (∀ v ∈ vs, Ev Z h v) ∧ ∀ i, i < n → ∃ r, vs[i]? = some (.ref r)
theorem EA.keep {Z : State} {h h' : Heap} {ea : Addr} {n : Nat} {ws : List Addr} (E : EA Z h ea n) (Kp : Keep h h' ws) (q : ea ∉ ws) : EA Z h' ea n := by
  obtain ⟨k, vs, h1, h2, h3, h4, h5, h6⟩ := E
  exact ⟨k, vs, h1.keep Kp q, h2, h3, h4.keep Kp, fun v hv => (h5 v hv).keep Kp, h6⟩
def ALn (Z : State) (h : Heap) (dc b' ea : Addr) (n : Nat) : Prop := AO Z h b' ea (Int32.ofNat n) ∧ ((n = 0 ∧ ea = dc) ∨ (0 < n ∧ n ≤ 3 ∧ EA Z h ea n))
theorem ALn.keep {Z : State} {h h' : Heap} {dc b' ea : Addr} {n : Nat} {ws : List Addr} (A : ALn Z h dc b' ea n) (Kp : Keep h h' ws) (hb : b' ∉ ws) (he : n = 0 ∨ ea ∉ ws) : ALn Z h' dc b' ea n := by
  refine ⟨A.1.keep Kp hb, ?_⟩
  rcases A.2 with q | ⟨q1, q2, q3⟩
  · exact Or.inl q
  · rcases he with z | z
    · omega
    · exact Or.inr ⟨q1, q2, q3.keep Kp z⟩
theorem ALn.ext {Z : State} {h h' : Heap} {dc b' ea : Addr} {n : Nat} (A : ALn Z h dc b' ea n) (E : Ext h h') : ALn Z h' dc b' ea n := A.keep (Wk.keep_of_ext E) nin0 (Or.inr nin0)
theorem EA.ne {a0 : Array Value} {Z : State} (hw : ∀ d ∈ tables_1, d.before a0 Z = true) {h : Heap} {ea x : Addr} {n : Nat} (E : EA Z h ea n) (X : Exa Z h x "java/util/ArrayList") : x ≠ ea := by
  obtain ⟨k, vs, h1, -⟩ := E
  exact Exa.neArv X h1 (hw _ (List.mem_of_getElem? (i := 1) rfl))
theorem EA.lt {Z : State} {h : Heap} {ea : Addr} {n : Nat} (E : EA Z h ea n) : ea < h.size := by
  obtain ⟨k, vs, h1, -⟩ := E; exact h1.lt
theorem ALn.wrM {a0 : Array Value} {Z : State} (hw : ∀ d ∈ tables_1, d.before a0 Z = true) {h h' : Heap} {dc b' ea : Addr} {n : Nat} {mc' : Int32} (A : ALn Z h dc b' ea n) (W : Wr h h' b' (Jvm.RoadKit.slotOf Z "java/util/AbstractList" "modCount" "I") (.int mc')) : ALn Z h' dc b' ea n := by
  refine ⟨AO.wrM hw A.1 W, ?_⟩
  rcases A.2 with q | ⟨q1, q2, q3⟩
  · exact Or.inl q
  · exact Or.inr ⟨q1, q2, q3.keep (Keep.of_wr W) (fun z => EA.ne hw q3 A.1.1 (List.mem_singleton.mp z).symm)⟩
def Add (Z : State) (dc b' ea : Addr) (n : Nat) (h0 h : Heap) : Prop := ∃ ea', Keep h0 h [b', ea'] ∧ ALn Z h dc b' ea' (n + 1) ∧ ((n = 0 ∧ h0.size ≤ ea') ∨ (n ≠ 0 ∧ ea' = ea))
def Two (Z : State) (h : Heap) (dc b1 e1 : Addr) (n : Nat) (b2 e2 : Addr) (k : Nat) : Prop := ALn Z h dc b1 e1 n ∧ ALn Z h dc b2 e2 k ∧ b1 ≠ b2 ∧ (n ≠ 0 → k ≠ 0 → e1 ≠ e2)
theorem Two.symm {Z : State} {h : Heap} {dc b1 e1 b2 e2 : Addr} {n k : Nat} (A : Two Z h dc b1 e1 n b2 e2 k) : Two Z h dc b2 e2 k b1 e1 n := ⟨A.2.1, A.1, A.2.2.1.symm, fun q r => (A.2.2.2 r q).symm⟩
theorem Two.ext {Z : State} {h h' : Heap} {dc b1 e1 b2 e2 : Addr} {n k : Nat} (A : Two Z h dc b1 e1 n b2 e2 k) (E : Ext h h') : Two Z h' dc b1 e1 n b2 e2 k := ⟨A.1.ext E, A.2.1.ext E, A.2.2⟩
theorem Two.add {a0 : Array Value} {Z : State} (hw : ∀ d ∈ tables_1, d.before a0 Z = true) {h h' : Heap} {dc b1 e1 b2 e2 : Addr} {n k : Nat} (A : Two Z h dc b1 e1 n b2 e2 k) (D : Add Z dc b1 e1 n h h') : ∃ e1', Keep h h' [b1, e1'] ∧ (h.size ≤ e1' ∨ e1' = e1 ∧ n ≠ 0) ∧ Two Z h' dc b1 e1' (n + 1) b2 e2 k := by
  obtain ⟨e1', Kp, A1, D⟩ := D
  obtain ⟨B1, B2, hne, hee⟩ := A
  have l2 : b2 < h.size := B2.1.1.lt
  have nb : b2 ≠ e1' := by
    rcases D with ⟨-, q⟩ | ⟨q, rfl⟩
    · exact Nat.ne_of_lt (Nat.lt_of_lt_of_le l2 q)
    · rcases B1.2 with z | ⟨-, -, z⟩
      · exact absurd z.1 q
      · exact EA.ne hw z B2.1.1
  have ne : k ≠ 0 → e2 ≠ b1 ∧ e2 ≠ e1' := fun hk => by
    rcases B2.2 with z | ⟨-, -, z⟩
    · exact absurd z.1 hk
    · refine ⟨(EA.ne hw z B1.1.1).symm, ?_⟩
      rcases D with ⟨-, q⟩ | ⟨q, rfl⟩
      · exact Nat.ne_of_lt (Nat.lt_of_lt_of_le z.lt q)
      · exact (hee q hk).symm
  have hb2 : b2 ∉ [b1, e1'] := ninS hne.symm (ninS nb nin0)
  refine ⟨e1', Kp, D.elim (fun q => Or.inl q.2) (fun q => Or.inr ⟨q.2, q.1⟩), A1, B2.keep Kp hb2 ?_, hne, fun _ hk => (ne hk).2.symm⟩
  by_cases hk : k = 0
  · exact Or.inl hk
  · exact Or.inr (ninS (ne hk).1 (ninS (ne hk).2 nin0))
def LE (Z : State) (h : Heap) (el r : Addr) (n : Nat) : Prop := (n = 0 ∧ r = el) ∨ (n ≠ 0 ∧ Exa Z h r "java/util/ImmutableCollections$List12")
theorem LE.keep {Z : State} {h h' : Heap} {el r : Addr} {n : Nat} {ws : List Addr} (A : LE Z h el r n) (Kp : Keep h h' ws) : LE Z h' el r n := A.imp id (fun q => ⟨q.1, q.2.keep Kp⟩)
def Pv (h0 : Heap) (v : Option Value) (h : Heap) (L : List Loc) : Prop := v = none ∧ L = [] ∧ h = h0
theorem ofn (n : Nat) (h : n ≤ 10) : (Int32.ofNat n).toInt = (n : Int) := Int32.toInt_ofNat_small (by omega)
def JS (Z : State) (h : Heap) (dc el ee em p1 p2 p3 ka nn : Addr) (kd ke : ClassId) : Prop := Sta Z h "java/util/ArrayList" "DEFAULTCAPACITY_EMPTY_ELEMENTDATA" "[Ljava/lang/Object;" (.ref dc) ∧ Arv Z h dc kd (.object "java/lang/Object") 0 [] .null ∧ Sta Z h "java/util/ImmutableCollections" "EMPTY_LIST" "Ljava/util/ImmutableCollections$ListN;" (.ref el) ∧ Exa Z h el "java/util/ImmutableCollections$ListN" ∧ Fld Z h el "java/util/ImmutableCollections$ListN" "elements" "[Ljava/lang/Object;" (.ref ee) ∧ Arv Z h ee ke (.object "java/lang/Object") 0 [] .null ∧ Sta Z h "java/util/ImmutableCollections" "EMPTY" "Ljava/lang/Object;" (.ref em) ∧ Sta Z h "com/example/seepline/seepline/model/Position" "RECEIVER" "Lcom/example/seepline/seepline/model/Position;" (.ref p1) ∧ Exa Z h p1 "com/example/seepline/seepline/model/Position" ∧ Sta Z h "com/example/seepline/seepline/model/Position" "ANY" "Lcom/example/seepline/seepline/model/Position;" (.ref p2) ∧ Exa Z h p2 "com/example/seepline/seepline/model/Position" ∧ Sta Z h "com/example/seepline/seepline/model/Position" "RESULT" "Lcom/example/seepline/seepline/model/Position;" (.ref p3) ∧ Exa Z h p3 "com/example/seepline/seepline/model/Position" ∧ Sta Z h "com/example/seepline/seepline/model/Position$Kind" "ARGUMENT" "Lcom/example/seepline/seepline/model/Position$Kind;" (.ref ka) ∧ Sta Z h "com/example/seepline/seepline/model/CallRules" "NONE" "Lcom/example/seepline/seepline/model/CallRules;" (.ref nn) ∧ Exa Z h nn "com/example/seepline/seepline/model/CallRules" ∧ Fld Z h nn "com/example/seepline/seepline/model/CallRules" "sourcePositions" "Ljava/util/List;" (.ref el) ∧ Fld Z h nn "com/example/seepline/seepline/model/CallRules" "sanitizer" "Z" (.int 0) ∧ Fld Z h nn "com/example/seepline/seepline/model/CallRules" "sinkPositions" "Ljava/util/List;" (.ref el)
theorem JS.ext {Z : State} {h h' : Heap} {dc el ee em p1 p2 p3 ka nn : Addr} {kd ke : ClassId} (J : JS Z h dc el ee em p1 p2 p3 ka nn kd ke) (E : Ext h h') : JS Z h' dc el ee em p1 p2 p3 ka nn kd ke := ⟨(J.1).ext E, (J.2.1).ext E, (J.2.2.1).ext E, (J.2.2.2.1).ext E, (J.2.2.2.2.1).ext E, (J.2.2.2.2.2.1).ext E, (J.2.2.2.2.2.2.1).ext E, (J.2.2.2.2.2.2.2.1).ext E, (J.2.2.2.2.2.2.2.2.1).ext E, (J.2.2.2.2.2.2.2.2.2.1).ext E, (J.2.2.2.2.2.2.2.2.2.2.1).ext E, (J.2.2.2.2.2.2.2.2.2.2.2.1).ext E, (J.2.2.2.2.2.2.2.2.2.2.2.2.1).ext E, (J.2.2.2.2.2.2.2.2.2.2.2.2.2.1).ext E, (J.2.2.2.2.2.2.2.2.2.2.2.2.2.2.1).ext E, (J.2.2.2.2.2.2.2.2.2.2.2.2.2.2.2.1).ext E, (J.2.2.2.2.2.2.2.2.2.2.2.2.2.2.2.2.1).ext E, (J.2.2.2.2.2.2.2.2.2.2.2.2.2.2.2.2.2.1).ext E, (J.2.2.2.2.2.2.2.2.2.2.2.2.2.2.2.2.2.2).ext E⟩
set_option maxRecDepth 65536 in
set_option maxHeartbeats 40000000 in
theorem mac (l : Launch) (Z : State) (a0 : Array Value) (hw : ∀ d ∈ tables_1, d.before a0 Z = true) (a : Addr) (h0 : Heap)  : Wk.Met l Z (⟨"java/util/AbstractCollection", "<init>", "()V"⟩ : MethodName) jdk_22_method_1_code 1 none [] { frames := 1, cells := 0, slots := 0, locals := 12 } #[(.ref a)] h0 (Pv h0) := by
  refine Wk.start pn3 ?_
  intro p e s m below meth c s₁ X0 hx hby hml hown0 hnm hret hlk hZ e0
  have hown : s.vm.findClass "java/util/AbstractCollection" = some m.cls := hown0
  refine Wk.enter (g' := (mkF m 0 #[.val (.ref a)] [])) (by first | rfl | (simp [entryFrame, mkF, argsToLocals, Value.category, maxLocals]; done) | (simp [entryFrame, mkF, argsToLocals, hcat]; done) | (simp [entryFrame, mkF, argsToLocals, hcat]; rfl)) ?_
  refine Wk.aloadN X0 hx (hb hby d3_0) rfl rfl rfl ?_
  refine Wk.initO (W := 0) X0 hx hZ hown (hw _ (List.mem_of_getElem? (i := 18) rfl)) (hw _ (List.mem_of_getElem? (i := 19) rfl)) (hw _ (List.mem_of_getElem? (i := 20) rfl)) e0 (by rw [hml]; rfl) (by decide) (Nat.le_of_eq rfl) (by decide) (hb hby d3_1) rfl (fun T1 X1 e1 => ?_)
  exact Wk.retV X1 hx hlk hret (hb hby d3_4) (Nat.zero_le _) (Nat.zero_le _) ⟨rfl, rfl, e1⟩
set_option maxRecDepth 65536 in
set_option maxHeartbeats 40000000 in
theorem mrec (l : Launch) (Z : State) (a0 : Array Value) (hw : ∀ d ∈ tables_1, d.before a0 Z = true) (a : Addr) (h0 : Heap)  : Wk.Met l Z (⟨"java/lang/Record", "<init>", "()V"⟩ : MethodName) jdk_30_method_1_code 1 none [] { frames := 1, cells := 0, slots := 0, locals := 12 } #[(.ref a)] h0 (Pv h0) := by
  refine Wk.start pn6 ?_
  intro p e s m below meth c s₁ X0 hx hby hml hown0 hnm hret hlk hZ e0
  have hown : s.vm.findClass "java/lang/Record" = some m.cls := hown0
  refine Wk.enter (g' := (mkF m 0 #[.val (.ref a)] [])) (by first | rfl | (simp [entryFrame, mkF, argsToLocals, Value.category, maxLocals]; done) | (simp [entryFrame, mkF, argsToLocals, hcat]; done) | (simp [entryFrame, mkF, argsToLocals, hcat]; rfl)) ?_
  refine Wk.aloadN X0 hx (hb hby d6_0) rfl rfl rfl ?_
  refine Wk.initO (W := 0) X0 hx hZ hown (hw _ (List.mem_of_getElem? (i := 37) rfl)) (hw _ (List.mem_of_getElem? (i := 19) rfl)) (hw _ (List.mem_of_getElem? (i := 20) rfl)) e0 (by rw [hml]; rfl) (by decide) (Nat.le_of_eq rfl) (by decide) (hb hby d6_1) rfl (fun T1 X1 e1 => ?_)
  exact Wk.retV X1 hx hlk hret (hb hby d6_4) (Nat.zero_le _) (Nat.zero_le _) ⟨rfl, rfl, e1⟩
set_option maxRecDepth 65536 in
set_option maxHeartbeats 40000000 in
theorem maic (l : Launch) (Z : State) (a0 : Array Value) (hw : ∀ d ∈ tables_1, d.before a0 Z = true) (a : Addr) (h0 : Heap)  : Wk.Met l Z (⟨"java/util/ImmutableCollections$AbstractImmutableCollection", "<init>", "()V"⟩ : MethodName) jdk_47_method_1_code 1 none [] { frames := 2, cells := 0, slots := 0, locals := 24 } #[(.ref a)] h0 (Pv h0) := by
  refine Wk.start pn28 ?_
  intro p e s m below meth c s₁ X0 hx hby hml hown0 hnm hret hlk hZ e0
  have hown : s.vm.findClass "java/util/ImmutableCollections$AbstractImmutableCollection" = some m.cls := hown0
  refine Wk.enter (g' := (mkF m 0 #[.val (.ref a)] [])) (by first | rfl | (simp [entryFrame, mkF, argsToLocals, Value.category, maxLocals]; done) | (simp [entryFrame, mkF, argsToLocals, hcat]; done) | (simp [entryFrame, mkF, argsToLocals, hcat]; rfl)) ?_
  refine Wk.aloadN X0 hx (hb hby d28_0) rfl rfl rfl ?_
  refine Wk.callI (W := 0) X0 hx hZ (argsL := []) (rest := []) rfl hown (hw _ (List.mem_of_getElem? (i := 199) rfl)) (hw _ (List.mem_of_getElem? (i := 13) rfl)) (hw _ (List.mem_of_getElem? (i := 16) rfl)) (hw _ (List.mem_of_getElem? (i := 17) rfl)) (by decide) (mac l Z a0 hw a h0) e0 (by decide) (by decide) (by decide) (by decide) (by rw [hml]; rfl) (lenOf pd3 rfl) rfl (Nat.le_of_eq rfl) (hb hby d28_1) rfl (fun T1 v1 L1 X1 hq1 => ?_)
  obtain ⟨rfl, rfl, hh1⟩ := hq1
  rw [List.append_nil] at X1
  show Wk.Go p e below _ _ _ _ T1 (mkF m 4 #[.val (.ref a)] [])
  exact Wk.retV X1 hx hlk hret (hb hby d28_4) (Nat.zero_le _) (Nat.zero_le _) ⟨rfl, rfl, hh1⟩
set_option maxRecDepth 65536 in
set_option maxHeartbeats 40000000 in
theorem mail (l : Launch) (Z : State) (a0 : Array Value) (hw : ∀ d ∈ tables_1, d.before a0 Z = true) (a : Addr) (h0 : Heap)  : Wk.Met l Z (⟨"java/util/ImmutableCollections$AbstractImmutableList", "<init>", "()V"⟩ : MethodName) jdk_46_method_1_code 1 none [] { frames := 3, cells := 0, slots := 0, locals := 36 } #[(.ref a)] h0 (Pv h0) := by
  refine Wk.start pn27 ?_
  intro p e s m below meth c s₁ X0 hx hby hml hown0 hnm hret hlk hZ e0
  have hown : s.vm.findClass "java/util/ImmutableCollections$AbstractImmutableList" = some m.cls := hown0
  refine Wk.enter (g' := (mkF m 0 #[.val (.ref a)] [])) (by first | rfl | (simp [entryFrame, mkF, argsToLocals, Value.category, maxLocals]; done) | (simp [entryFrame, mkF, argsToLocals, hcat]; done) | (simp [entryFrame, mkF, argsToLocals, hcat]; rfl)) ?_
  refine Wk.aloadN X0 hx (hb hby d27_0) rfl rfl rfl ?_
  refine Wk.callI (W := 0) X0 hx hZ (argsL := []) (rest := []) rfl hown (hw _ (List.mem_of_getElem? (i := 193) rfl)) (hw _ (List.mem_of_getElem? (i := 194) rfl)) (hw _ (List.mem_of_getElem? (i := 197) rfl)) (hw _ (List.mem_of_getElem? (i := 198) rfl)) (by decide) (maic l Z a0 hw a h0) e0 (by decide) (by decide) (by decide) (by decide) (by rw [hml]; rfl) (lenOf pd28 rfl) rfl (Nat.le_of_eq rfl) (hb hby d27_1) rfl (fun T1 v1 L1 X1 hq1 => ?_)
  obtain ⟨rfl, rfl, hh1⟩ := hq1
  rw [List.append_nil] at X1
  show Wk.Go p e below _ _ _ _ T1 (mkF m 4 #[.val (.ref a)] [])
  exact Wk.retV X1 hx hlk hret (hb hby d27_4) (Nat.zero_le _) (Nat.zero_le _) ⟨rfl, rfl, hh1⟩
def Qm (Z : State) (a : Addr) (h0 : Heap) (n0 : Nat) (v : Option Value) (h : Heap) (L : List Loc) : Prop := v = none ∧ Fr n0 L ∧ Keep h0 h [a] ∧ Exa Z h a "java/util/ArrayList" ∧ (Wk.FldE Z h a "java/util/ArrayList" "elementData" "[Ljava/lang/Object;") ∧ Fld Z h a "java/util/ArrayList" "size" "I" (.int 0) ∧ ∃ mc : Int32, Fld Z h a "java/util/AbstractList" "modCount" "I" (.int mc)
set_option maxRecDepth 65536 in
set_option maxHeartbeats 40000000 in
theorem mabl (l : Launch) (Z : State) (a0 : Array Value) (hw : ∀ d ∈ tables_1, d.before a0 Z = true) (a : Addr) (n0 : Nat) (hna : n0 ≤ a) (h0 : Heap) (E : Exa Z h0 a "java/util/ArrayList") (Fe : Wk.FldE Z h0 a "java/util/ArrayList" "elementData" "[Ljava/lang/Object;") (Fs : Fld Z h0 a "java/util/ArrayList" "size" "I" (.int 0)) (Fm : Wk.FldE Z h0 a "java/util/AbstractList" "modCount" "I") : Wk.Met l Z (⟨"java/util/AbstractList", "<init>", "()V"⟩ : MethodName) jdk_39_method_1_code 1 none [] { frames := 2, cells := 0, slots := 0, locals := 24 } #[(.ref a)] h0 (Qm Z a h0 n0) := by
  refine Wk.start pn2 ?_
  intro p e s m below meth c s₁ X0 hx hby hml hown0 hnm hret hlk hZ e0
  have hown : s.vm.findClass "java/util/AbstractList" = some m.cls := hown0
  refine Wk.enter (g' := (mkF m 0 #[.val (.ref a)] [])) (by first | rfl | (simp [entryFrame, mkF, argsToLocals, Value.category, maxLocals]; done) | (simp [entryFrame, mkF, argsToLocals, hcat]; done) | (simp [entryFrame, mkF, argsToLocals, hcat]; rfl)) ?_
  refine Wk.aloadN X0 hx (hb hby d2_0) rfl rfl rfl ?_
  refine Wk.callI (W := 0) X0 hx hZ (argsL := []) (rest := []) rfl hown (hw _ (List.mem_of_getElem? (i := 12) rfl)) (hw _ (List.mem_of_getElem? (i := 13) rfl)) (hw _ (List.mem_of_getElem? (i := 16) rfl)) (hw _ (List.mem_of_getElem? (i := 17) rfl)) (by decide) (mac l Z a0 hw a h0) e0 (by decide) (by decide) (by decide) (by decide) (by rw [hml]; rfl) (lenOf pd3 rfl) rfl (Nat.le_of_eq rfl) (hb hby d2_1) rfl (fun T1 v1 L1 X1 hq1 => ?_)
  obtain ⟨rfl, rfl, hh1⟩ := hq1
  rw [List.append_nil] at X1
  show Wk.Go p e below _ _ _ _ T1 (mkF m 4 #[.val (.ref a)] [])
  refine Wk.aloadN X1 hx (hb hby d2_4) rfl rfl rfl ?_
  refine Wk.iconst X1 hx (0 : Int32) (hb hby d2_5) rfl rfl ?_
  obtain ⟨om, Fo⟩ := Fm
  refine Wk.putF (host := "") (ty := .int) X1 hx hZ hown (Or.inl (hw _ (List.mem_of_getElem? (i := 21) rfl))) hh1 Fo E (Or.inl (hw _ (List.mem_of_getElem? (i := 22) rfl))) (hw _ (List.mem_of_getElem? (i := 1) rfl)) (by decide) rfl rfl (hb hby d2_6) rfl (fun T2 h2 X2 e2 W2 => ?_)
  exact Wk.retV X2 hx hlk hret (hb hby d2_9) (by decide) (by decide) (by rw [e2]; exact ⟨rfl, Fr.snoc X2 (Fr.nil n0) hna, (Keep.refl _ _).wr W2 (Or.inl (List.mem_singleton.mpr rfl)), E.wr W2, Fe.wr W2, Fs.other W2 (Or.inr (slot_ne (t := .int) (t' := .int) (Or.inl (hw _ (List.mem_of_getElem? (i := 62) rfl))) (Or.inl (hw _ (List.mem_of_getElem? (i := 22) rfl))) (by decide) (by decide) (by decide))), 0, Fo.same W2⟩)
def Ql (Z : State) (a dc : Addr) (h0 : Heap) (n0 : Nat) (v : Option Value) (h : Heap) (L : List Loc) : Prop := v = none ∧ Fr n0 L ∧ Keep h0 h [a] ∧ AO Z h a dc 0
set_option maxRecDepth 65536 in
set_option maxHeartbeats 40000000 in
theorem mal (l : Launch) (Z : State) (a0 : Array Value) (hw : ∀ d ∈ tables_1, d.before a0 Z = true) (dc el ee em p1 p2 p3 ka nn : Addr) (kd ke : ClassId) (a : Addr) (n0 : Nat) (hna : n0 ≤ a) (hnz : Z.heap.size ≤ a) (h0 : Heap) (E : Exa Z h0 a "java/util/ArrayList") (Fe : Wk.FldE Z h0 a "java/util/ArrayList" "elementData" "[Ljava/lang/Object;") (Fs : Fld Z h0 a "java/util/ArrayList" "size" "I" (.int 0)) (Fm : Wk.FldE Z h0 a "java/util/AbstractList" "modCount" "I") (J : JS Z Z.heap dc el ee em p1 p2 p3 ka nn kd ke) (EZ : Ext Z.heap h0) : Wk.Met l Z (⟨"java/util/ArrayList", "<init>", "()V"⟩ : MethodName) jdk_38_method_2_code 1 none [] { frames := 3, cells := 0, slots := 0, locals := 36 } #[(.ref a)] h0 (Ql Z a dc h0 n0) := by
  refine Wk.start pn1 ?_
  intro p e s m below meth c s₁ X0 hx hby hml hown0 hnm hret hlk hZ e0
  have hown : s.vm.findClass "java/util/ArrayList" = some m.cls := hown0
  refine Wk.enter (g' := (mkF m 0 #[.val (.ref a)] [])) (by first | rfl | (simp [entryFrame, mkF, argsToLocals, Value.category, maxLocals]; done) | (simp [entryFrame, mkF, argsToLocals, hcat]; done) | (simp [entryFrame, mkF, argsToLocals, hcat]; rfl)) ?_
  refine Wk.aloadN X0 hx (hb hby d1_0) rfl rfl rfl ?_
  refine Wk.callI (W := 0) X0 hx hZ (argsL := []) (rest := []) rfl hown (hw _ (List.mem_of_getElem? (i := 6) rfl)) (hw _ (List.mem_of_getElem? (i := 7) rfl)) (hw _ (List.mem_of_getElem? (i := 10) rfl)) (hw _ (List.mem_of_getElem? (i := 11) rfl)) (by decide) (mabl l Z a0 hw a n0 hna h0 E Fe Fs Fm) e0 (by decide) (by decide) (by decide) (by decide) (by rw [hml]; rfl) (lenOf pd2 rfl) rfl (Nat.le_of_eq rfl) (hb hby d1_1) rfl (fun T1 v1 L1 X1 hq1 => ?_)
  obtain ⟨rfl, N1, K1, E1, Fe1, Fs1, Fm1⟩ := hq1
  have EZ1 := Wk.extZ EZ K1 (fun x q => by cases List.mem_singleton.mp q; exact hnz)
  show Wk.Go p e below _ _ _ _ T1 (mkF m 4 #[.val (.ref a)] [])
  refine Wk.aloadN X1 hx (hb hby d1_4) rfl rfl rfl ?_
  refine Wk.getS (host := "") X1 hx hZ hown (Or.inl (hw _ (List.mem_of_getElem? (i := 23) rfl))) rfl ((J.ext EZ1).1) (hb hby d1_5) rfl (fun T2 X2 e2 => ?_)
  obtain ⟨oe, Fo⟩ := Fe1
  obtain ⟨mc, Fm2⟩ := Fm1
  refine Wk.putF (host := "") (ty := (.array (.object "java/lang/Object"))) X2 hx hZ hown (Or.inl (hw _ (List.mem_of_getElem? (i := 24) rfl))) e2 Fo E1 (Or.inl (hw _ (List.mem_of_getElem? (i := 25) rfl))) (hw _ (List.mem_of_getElem? (i := 1) rfl)) (by decide) rfl rfl (hb hby d1_8) rfl (fun T4 h4 X4 e4 W4 => ?_)
  exact Wk.retV X4 hx hlk hret (hb hby d1_11) (by decide) (by decide) (by rw [e4]; exact ⟨rfl, Fr.snoc X4 (Fr.app (Fr.nil n0) N1) hna, K1.wr W4 (Or.inl (List.mem_singleton.mpr rfl)), E1.wr W4, Fo.same W4, Fs1.other W4 (Or.inr (slot_ne (t := .int) (t' := (.array (.object "java/lang/Object"))) (Or.inl (hw _ (List.mem_of_getElem? (i := 62) rfl))) (Or.inl (hw _ (List.mem_of_getElem? (i := 25) rfl))) (by decide) (by decide) (by decide))), mc, Fm2.other W4 (Or.inr (slot_ne (t := .int) (t' := (.array (.object "java/lang/Object"))) (Or.inl (hw _ (List.mem_of_getElem? (i := 22) rfl))) (Or.inl (hw _ (List.mem_of_getElem? (i := 25) rfl))) (by decide) (by decide) (by decide)))⟩)
set_option maxRecDepth 65536 in
set_option maxHeartbeats 40000000 in
theorem mmax (l : Launch) (Z : State) (a0 : Array Value) (hw : ∀ d ∈ tables_1, d.before a0 Z = true) (x y : Int32) (hxy : y.toInt ≤ x.toInt) (h0 : Heap)  : Wk.Met l Z (⟨"java/lang/Math", "max", "(II)I"⟩ : MethodName) jdk_29_method_65_code 2 (some .int) [] { frames := 0, cells := 0, slots := 0, locals := 0 } #[(.int x), (.int y)] h0 (Wk.Pu (.int x) h0) := by
  refine Wk.startF pn15 ?_
  intro p e s m below meth c s₁ X0 hx hby hml hown0 hnm hret hlk hZ e0
  have hown : s.vm.findClass "java/lang/Math" = some m.cls := hown0
  refine Wk.enter (g' := (mkF m 0 #[.val (.int x), .val (.int y)] [])) (by first | rfl | (simp [entryFrame, mkF, argsToLocals, Value.category, maxLocals]; done) | (simp [entryFrame, mkF, argsToLocals, hcat]; done) | (simp [entryFrame, mkF, argsToLocals, hcat]; rfl)) ?_
  refine Wk.iloadN X0 hx (hb hby d15_0) rfl rfl ?_
  refine Wk.iloadN X0 hx (hb hby d15_1) rfl rfl ?_
  refine Wk.icmp_lt X0 hx 9 5 (hb hby d15_2) rfl rfl (show (x : Int32).toInt = (x).toInt from rfl) (show (y : Int32).toInt = (y).toInt from rfl) (fun h1 => absurd h1 (by omega)) (fun h1 => ?_)
  refine Wk.iloadN X0 hx (hb hby d15_5) rfl rfl ?_
  refine Wk.goto X0 hx 10 (hb hby d15_6) rfl ?_
  exact Wk.retI X0 hx hlk hret (hb hby d15_10) (Nat.zero_le _) (Nat.zero_le _) (Wk.pu e0)
def Qg (Z : State) (b' : Addr) (h0 : Heap) (n0 : Nat) (v : Option Value) (h : Heap) (L : List Loc) : Prop := v = some (.ref h0.size) ∧ Fr n0 L ∧ Keep h0 h [b'] ∧ AO Z h b' h0.size 0 ∧ ∃ k, Arv Z h h0.size k (.object "java/lang/Object") 10 (List.replicate 10 .null) .null ∧ Ovr Z k "java/lang/Object" ∧ Exa Z h h0.size "[Ljava/lang/Object;"
set_option maxRecDepth 65536 in
set_option maxHeartbeats 40000000 in
theorem mgrI (l : Launch) (Z : State) (a0 : Array Value) (hw : ∀ d ∈ tables_1, d.before a0 Z = true) (dc el ee em p1 p2 p3 ka nn : Addr) (kd ke : ClassId) (bb : Addr) (n0 : Nat) (hna : n0 ≤ bb) (h0 : Heap) (A : AO Z h0 bb dc 0) (J : JS Z Z.heap dc el ee em p1 p2 p3 ka nn kd ke) (EZ : Ext Z.heap h0) : Wk.Met l Z (⟨"java/util/ArrayList", "grow", "(I)[Ljava/lang/Object;"⟩ : MethodName) jdk_38_method_6_code 4 (some (.array (.object "java/lang/Object"))) [] { frames := 1, cells := 1, slots := 10, locals := 14 } #[(.ref bb), (.int (1 : Int32))] h0 (Qg Z bb h0 n0) := by
  refine Wk.start pn14 ?_
  intro p e s m below meth c s₁ X0 hx hby hml hown0 hnm hret hlk hZ e0
  have hown : s.vm.findClass "java/util/ArrayList" = some m.cls := hown0
  refine Wk.enter (g' := (mkF m 0 #[.val (.ref bb), .val (.int (1 : Int32)), .unset, .unset] [])) (by first | rfl | (simp [entryFrame, mkF, argsToLocals, Value.category, maxLocals]; done) | (simp [entryFrame, mkF, argsToLocals, hcat]; done) | (simp [entryFrame, mkF, argsToLocals, hcat]; rfl)) ?_
  refine Wk.aloadN X0 hx (hb hby d14_0) rfl rfl rfl ?_
  refine Wk.getF (host := "") X0 hx hZ hown (Or.inl (hw _ (List.mem_of_getElem? (i := 24) rfl))) e0 A.2.1 (hb hby d14_1) rfl (fun T21 X21 e21 => ?_)
  refine Wk.alen X21 hx hZ e21 ((J.ext EZ).2.1) (hb hby d14_4) rfl ?_
  refine Wk.istoreN (l' := #[.val (.ref bb), .val (.int (1 : Int32)), .val (.int (0 : Int32)), .unset]) X21 hx (hb hby d14_5) rfl rfl ?_
  refine Wk.iloadN X21 hx (hb hby d14_6) rfl rfl ?_
  refine Wk.if_gt X21 hx 20 10 (hb hby d14_7) rfl rfl (show ((0 : Int32) : Int32).toInt = 0 from (by decide)) (fun h22 => absurd h22 (by omega)) (fun h22 => ?_)
  refine Wk.aloadN X21 hx (hb hby d14_10) rfl rfl rfl ?_
  refine Wk.getF (host := "") X21 hx hZ hown (Or.inl (hw _ (List.mem_of_getElem? (i := 24) rfl))) e21 A.2.1 (hb hby d14_11) rfl (fun T23 X23 e23 => ?_)
  refine Wk.getS (host := "") X23 hx hZ hown (Or.inl (hw _ (List.mem_of_getElem? (i := 23) rfl))) e23 ((J.ext EZ).1) (hb hby d14_14) rfl (fun T24 X24 e24 => ?_)
  refine Wk.acmp_eq X24 hx 45 20 (hb hby d14_17) rfl rfl rfl rfl (fun h25 => ?_) (fun h25 => absurd h25 (fun q => q rfl))
  refine Wk.aloadN X24 hx (hb hby d14_45) rfl rfl rfl ?_
  refine Wk.bipush X24 hx (10 : Int32) (hb hby d14_46) rfl rfl ?_
  refine Wk.iloadN X24 hx (hb hby d14_48) rfl rfl ?_
  refine Wk.callP (W := 1) X24 hx hZ (argsL := [(.int (10 : Int32)), (.int (1 : Int32))]) (rest := [(.ref bb)]) hown (hw _ (List.mem_of_getElem? (i := 98) rfl)) (hw _ (List.mem_of_getElem? (i := 99) rfl)) (hw _ (List.mem_of_getElem? (i := 100) rfl)) (hw _ (List.mem_of_getElem? (i := 101) rfl)) (by decide) (mmax l Z a0 hw (10 : Int32) (1 : Int32) (by decide) h0) e24 (by decide) (by decide) (by decide) (by decide) (by rw [hml]; rfl) (lenOf pd15 rfl) rfl (Nat.le_of_eq rfl) (hb hby d14_49) rfl (fun T26 X26 e26 => ?_)
  refine Wk.newRv (z := (10 : Int32)) X26 hx hZ hown (hw _ (List.mem_of_getElem? (i := 102) rfl)) (hw _ (List.mem_of_getElem? (i := 103) rfl)) e26 (by decide) 10 (by decide) (by decide) (by decide) (by decide) (ad := "[Ljava/lang/Object;") (by decide) (hb hby d14_52) rfl (fun T1 h1 kA X1 e1 Ex1 Av1 Ov1 Xa1 => ?_)
  refine Wk.dupx1 X1 hx (hb hby d14_55) rfl rfl rfl ?_
  have A1 := A.ext Ex1
  refine Wk.putF (host := "") (ty := (.array (.object "java/lang/Object"))) X1 hx hZ hown (Or.inl (hw _ (List.mem_of_getElem? (i := 24) rfl))) e1 A1.2.1 A1.1 (Or.inl (hw _ (List.mem_of_getElem? (i := 25) rfl))) (hw _ (List.mem_of_getElem? (i := 1) rfl)) (by decide) rfl rfl (hb hby d14_56) rfl (fun T4 h4 X4 e4 W4 => ?_)
  exact Wk.retA X4 hx hlk hret rfl rfl (hb hby d14_59) (by decide) (by decide) (by rw [e4]; exact ⟨rfl, Fr.snoc X4 (Fr.nil n0) hna, ((Keep.refl _ _).ext Ex1).wr W4 (Or.inl (List.mem_singleton.mpr rfl)), AO.wrE hw A1 W4, kA, Av1.keep (Keep.of_wr W4) (ninS (Nat.ne_of_gt A.1.lt) nin0), Ov1, Xa1.wr W4⟩)
set_option maxRecDepth 65536 in
set_option maxHeartbeats 40000000 in
theorem mgr0 (l : Launch) (Z : State) (a0 : Array Value) (hw : ∀ d ∈ tables_1, d.before a0 Z = true) (dc el ee em p1 p2 p3 ka nn : Addr) (kd ke : ClassId) (bb : Addr) (n0 : Nat) (hna : n0 ≤ bb) (h0 : Heap) (A : AO Z h0 bb dc 0) (J : JS Z Z.heap dc el ee em p1 p2 p3 ka nn kd ke) (EZ : Ext Z.heap h0) : Wk.Met l Z (⟨"java/util/ArrayList", "grow", "()[Ljava/lang/Object;"⟩ : MethodName) jdk_38_method_7_code 1 (some (.array (.object "java/lang/Object"))) [] { frames := 2, cells := 1, slots := 10, locals := 29 } #[(.ref bb)] h0 (Qg Z bb h0 n0) := by
  refine Wk.start pn13 ?_
  intro p e s m below meth c s₁ X0 hx hby hml hown0 hnm hret hlk hZ e0
  have hown : s.vm.findClass "java/util/ArrayList" = some m.cls := hown0
  refine Wk.enter (g' := (mkF m 0 #[.val (.ref bb)] [])) (by first | rfl | (simp [entryFrame, mkF, argsToLocals, Value.category, maxLocals]; done) | (simp [entryFrame, mkF, argsToLocals, hcat]; done) | (simp [entryFrame, mkF, argsToLocals, hcat]; rfl)) ?_
  refine Wk.aloadN X0 hx (hb hby d13_0) rfl rfl rfl ?_
  refine Wk.aloadN X0 hx (hb hby d13_1) rfl rfl rfl ?_
  refine Wk.getF (host := "") X0 hx hZ hown (Or.inl (hw _ (List.mem_of_getElem? (i := 61) rfl))) e0 A.2.2.1 (hb hby d13_2) rfl (fun T21 X21 e21 => ?_)
  refine Wk.iconst X21 hx (1 : Int32) (hb hby d13_5) rfl rfl ?_
  refine Wk.iadd X21 hx (hb hby d13_6) rfl ?_
  rw [show ((0 : Int32) + (1 : Int32)) = (1 : Int32) from by decide]
  refine Wk.callPV (W := 0) (C := "java/util/ArrayList") X21 hx hZ (argsL := [(.int (1 : Int32))]) (rest := []) hown (hw _ (List.mem_of_getElem? (i := 93) rfl)) (hw _ (List.mem_of_getElem? (i := 94) rfl)) (hw _ (List.mem_of_getElem? (i := 96) rfl)) (hw _ (List.mem_of_getElem? (i := 95) rfl)) (hw _ (List.mem_of_getElem? (i := 2) rfl)) (hw _ (List.mem_of_getElem? (i := 97) rfl)) (by decide) (mgrI l Z a0 hw dc el ee em p1 p2 p3 ka nn kd ke bb n0 hna h0 A J EZ) e21 (A.1) (by decide) (by decide) (by decide) (by decide) (by rw [hml]; rfl) (lenOf pd14 rfl) rfl (Nat.le_of_eq rfl) (hb hby d13_7) rfl (fun T1 v1 L1 X1 hq1 => ?_)
  obtain ⟨rfl, N1, K1, A1, kA, Av1, Ov1, Xa1⟩ := hq1
  show Wk.Go p e below _ _ _ _ T1 (mkF m 10 #[.val (.ref bb)] [(.ref h0.size)])
  exact Wk.retA X1 hx hlk hret rfl rfl (hb hby d13_10) (by decide) (by decide) ⟨rfl, Fr.app (Fr.nil n0) N1, K1, A1, kA, Av1, Ov1, Xa1⟩
def Q3 (Z : State) (dc b' ea : Addr) (n : Nat) (w : Option Value) (h0 : Heap) (n0 : Nat) (v : Option Value) (h : Heap) (L : List Loc) : Prop := v = w ∧ Fr n0 L ∧ Add Z dc b' ea n h0 h
theorem ev_set {Z : State} {h : Heap} {vs : List Value} {i : Nat} {r : Addr} (H : ∀ v ∈ vs, Ev Z h v) (E : Exa Z h r "com/example/seepline/seepline/model/Position") : ∀ v ∈ vs.set i (.ref r), Ev Z h v := fun v hv => (List.mem_or_eq_of_mem_set hv).elim (H v) (fun q => Or.inr ⟨r, q, E⟩)
theorem rf_set {vs : List Value} {n : Nat} {r' : Addr} (hn : n < vs.length) (H : ∀ i, i < n → ∃ r, vs[i]? = some (.ref r)) : ∀ i, i < n + 1 → ∃ r, (vs.set n (.ref r'))[i]? = some (.ref r) := fun i hi => by
  by_cases q : i = n
  · subst q; exact ⟨r', by simp [hn]⟩
  · obtain ⟨x, hx⟩ := H i (by omega); exact ⟨x, by rw [List.getElem?_set_ne (fun z => q z.symm)]; exact hx⟩
set_option maxRecDepth 65536 in
set_option maxHeartbeats 40000000 in
theorem ma30 (l : Launch) (Z : State) (a0 : Array Value) (hw : ∀ d ∈ tables_1, d.before a0 Z = true) (dc el ee em p1 p2 p3 ka nn : Addr) (kd ke : ClassId) (bb : Addr) (n0 : Nat) (hna : n0 ≤ bb) (r : Addr) (h0 : Heap) (hn0 : n0 ≤ h0.size) (A : AO Z h0 bb dc 0) (Er : Exa Z h0 r "com/example/seepline/seepline/model/Position") (J : JS Z Z.heap dc el ee em p1 p2 p3 ka nn kd ke) (EZ : Ext Z.heap h0) : Wk.Met l Z (⟨"java/util/ArrayList", "add", "(Ljava/lang/Object;[Ljava/lang/Object;I)V"⟩ : MethodName) jdk_38_method_24_code 4 none [] { frames := 3, cells := 1, slots := 10, locals := 41 } #[(.ref bb), (.ref r), (.ref dc), (.int (0 : Int32))] h0 (Q3 Z dc bb dc 0 none h0 n0) := by
  refine Wk.start pn12 ?_
  intro p e s m below meth c s₁ X0 hx hby hml hown0 hnm hret hlk hZ e0
  have hown : s.vm.findClass "java/util/ArrayList" = some m.cls := hown0
  refine Wk.enter (g' := (mkF m 0 #[.val (.ref bb), .val (.ref r), .val (.ref dc), .val (.int (0 : Int32))] [])) (by first | rfl | (simp [entryFrame, mkF, argsToLocals, Value.category, maxLocals]; done) | (simp [entryFrame, mkF, argsToLocals, hcat]; done) | (simp [entryFrame, mkF, argsToLocals, hcat]; rfl)) ?_
  refine Wk.iloadN X0 hx (hb hby d12_0) rfl rfl ?_
  refine Wk.aloadN X0 hx (hb hby d12_1) rfl rfl rfl ?_
  refine Wk.alen X0 hx hZ e0 ((J.ext EZ).2.1) (hb hby d12_2) rfl ?_
  refine Wk.icmp_ne X0 hx 11 6 (hb hby d12_3) rfl rfl (show ((0 : Int32) : Int32).toInt = 0 from (by decide)) (show ((0 : Int32) : Int32).toInt = 0 from (by decide)) (fun h21 => absurd h21 (by omega)) (fun h21 => ?_)
  refine Wk.aloadN X0 hx (hb hby d12_6) rfl rfl rfl ?_
  refine Wk.callPV (W := 0) (C := "java/util/ArrayList") X0 hx hZ (argsL := []) (rest := []) hown (hw _ (List.mem_of_getElem? (i := 88) rfl)) (hw _ (List.mem_of_getElem? (i := 89) rfl)) (hw _ (List.mem_of_getElem? (i := 91) rfl)) (hw _ (List.mem_of_getElem? (i := 90) rfl)) (hw _ (List.mem_of_getElem? (i := 2) rfl)) (hw _ (List.mem_of_getElem? (i := 92) rfl)) (by decide) (mgr0 l Z a0 hw dc el ee em p1 p2 p3 ka nn kd ke bb n0 hna h0 A J EZ) e0 (A.1) (by decide) (by decide) (by decide) (by decide) (by rw [hml]; rfl) (lenOf pd13 rfl) rfl (Nat.le_of_eq rfl) (hb hby d12_7) rfl (fun T1 v1 L1 X1 hq1 => ?_)
  obtain ⟨rfl, N1, K1, A1, kA, Av1, Ov1, Xa1⟩ := hq1
  show Wk.Go p e below _ _ _ _ T1 (mkF m 10 #[.val (.ref bb), .val (.ref r), .val (.ref dc), .val (.int (0 : Int32))] [(.ref h0.size)])
  refine Wk.astoreN (l' := #[.val (.ref bb), .val (.ref r), .val (.ref h0.size), .val (.int (0 : Int32))]) X1 hx (hb hby d12_10) rfl rfl rfl ?_
  refine Wk.aloadN X1 hx (hb hby d12_11) rfl rfl rfl ?_
  refine Wk.iloadN X1 hx (hb hby d12_12) rfl rfl ?_
  refine Wk.aloadN X1 hx (hb hby d12_13) rfl rfl rfl ?_
  have Er1 := Er.keep K1
  refine Wk.aastoreR X1 hx hZ rfl Av1 Ov1 (Ins.of_exa Er1 (hw _ (List.mem_of_getElem? (i := 104) rfl))) (by first | decide | omega) (by first | decide | omega) (0) (by first | decide | (show Int.toNat _ = _; omega)) (by decide) (hb hby d12_14) rfl (fun T2 h2 X2 e2 W2 A2 => ?_)
  refine Wk.aloadN X2 hx (hb hby d12_15) rfl rfl rfl ?_
  refine Wk.iloadN X2 hx (hb hby d12_16) rfl rfl ?_
  refine Wk.iconst X2 hx (1 : Int32) (hb hby d12_17) rfl rfl ?_
  refine Wk.iadd X2 hx (hb hby d12_18) rfl ?_
  rw [show ((0 : Int32) + (1 : Int32)) = (1 : Int32) from by decide]
  have nb : bb ≠ h0.size := Nat.ne_of_lt A.1.lt
  have A2' := A1.wrO W2 nb
  refine Wk.putF (host := "") (ty := .int) X2 hx hZ hown (Or.inl (hw _ (List.mem_of_getElem? (i := 61) rfl))) e2 A2'.2.2.1 A2'.1 (Or.inl (hw _ (List.mem_of_getElem? (i := 62) rfl))) (hw _ (List.mem_of_getElem? (i := 1) rfl)) (by decide) rfl rfl (hb hby d12_19) rfl (fun T3 h3 X3 e3 W3 => ?_)
  have K3 : Keep h0 h3 [bb, h0.size] := (Wk.keep_mono K1 (fun x q => by simp_all)).wr W2 (Or.inr (Nat.le_refl _)) |>.wr W3 (Or.inl (by simp))
  have K32 : Keep T1.heap h3 [h0.size, bb] := ((Keep.refl _ _).wr W2 (Or.inl (by simp))).wr W3 (Or.inl (by simp))
  have hEv : ∀ v ∈ (List.replicate 10 Value.null).set 0 (.ref r), Ev Z h3 v := ev_set (fun v hv => Or.inl (List.eq_of_mem_replicate hv)) (Er1.keep K32)
  have hA3 : Arv Z h3 h0.size kA (.object "java/lang/Object") 10 ((List.replicate 10 Value.null).set 0 (.ref r)) .null := A2.keep (Keep.of_wr W3) (ninS nb.symm nin0)
  exact Wk.retV X3 hx hlk hret (hb hby d12_22) (by decide) (by decide) (by rw [e3]; exact ⟨rfl, Fr.snoc X3 (Fr.snoc X2 (Fr.app (Fr.nil n0) N1) hn0) hna, h0.size, K3, ⟨AO.wrS hw A2' W3, Or.inr ⟨by decide, by decide, kA, _, hA3, by simp only [List.length_set, List.length_replicate], Ov1, Xa1.keep K32, hEv, fun i hi => ⟨r, by obtain rfl : i = 0 := (by omega); rfl⟩⟩⟩, Or.inl ⟨rfl, Nat.le_refl _⟩⟩)
set_option maxRecDepth 65536 in
set_option maxHeartbeats 40000000 in
theorem ma31 (l : Launch) (Z : State) (a0 : Array Value) (hw : ∀ d ∈ tables_1, d.before a0 Z = true) (dc el ee em p1 p2 p3 ka nn : Addr) (kd ke : ClassId) (bb : Addr) (n0 : Nat) (hna : n0 ≤ bb) (r ea : Addr) (n : Nat) (hn1 : 0 < n) (hn2 : n ≤ 2) (hne : n0 ≤ ea) (h0 : Heap) (A : AO Z h0 bb ea (Int32.ofNat n)) (EAx : EA Z h0 ea n) (Er : Exa Z h0 r "com/example/seepline/seepline/model/Position") : Wk.Met l Z (⟨"java/util/ArrayList", "add", "(Ljava/lang/Object;[Ljava/lang/Object;I)V"⟩ : MethodName) jdk_38_method_24_code 4 none [] { frames := 3, cells := 1, slots := 10, locals := 41 } #[(.ref bb), (.ref r), (.ref ea), (.int (Int32.ofNat n))] h0 (Q3 Z dc bb ea n none h0 n0) := by
  refine Wk.start pn12 ?_
  intro p e s m below meth c s₁ X0 hx hby hml hown0 hnm hret hlk hZ e0
  have hown : s.vm.findClass "java/util/ArrayList" = some m.cls := hown0
  have nb : bb ≠ ea := EA.ne hw EAx A.1
  obtain ⟨k, vs, Av, hl, Ov, Xa, hE, hR⟩ := EAx
  have e10 : (10 : Int32).toInt = 10 := by decide
  have eN := ofn n (by omega)
  refine Wk.enter (g' := (mkF m 0 #[.val (.ref bb), .val (.ref r), .val (.ref ea), .val (.int (Int32.ofNat n))] [])) (by first | rfl | (simp [entryFrame, mkF, argsToLocals, Value.category, maxLocals]; done) | (simp [entryFrame, mkF, argsToLocals, hcat]; done) | (simp [entryFrame, mkF, argsToLocals, hcat]; rfl)) ?_
  refine Wk.iloadN X0 hx (hb hby d12_0) rfl rfl ?_
  refine Wk.aloadN X0 hx (hb hby d12_1) rfl rfl rfl ?_
  refine Wk.alen X0 hx hZ e0 Av (hb hby d12_2) rfl ?_
  refine Wk.icmp_ne X0 hx 11 6 (hb hby d12_3) rfl rfl (show (Int32.ofNat n : Int32).toInt = (n : Int) from ofn n (by omega)) (show ((10 : Int32) : Int32).toInt = 10 from (by decide)) (fun h21 => ?_) (fun h21 => absurd h21 (by omega))
  refine Wk.aloadN X0 hx (hb hby d12_11) rfl rfl rfl ?_
  refine Wk.iloadN X0 hx (hb hby d12_12) rfl rfl ?_
  refine Wk.aloadN X0 hx (hb hby d12_13) rfl rfl rfl ?_
  refine Wk.aastoreR X0 hx hZ e0 Av Ov (Ins.of_exa Er (hw _ (List.mem_of_getElem? (i := 104) rfl))) (by first | decide | omega) (by first | decide | omega) (n) (by first | decide | (show Int.toNat _ = _; omega)) (by omega) (hb hby d12_14) rfl (fun T2 h2 X2 e2 W2 A2 => ?_)
  refine Wk.aloadN X2 hx (hb hby d12_15) rfl rfl rfl ?_
  refine Wk.iloadN X2 hx (hb hby d12_16) rfl rfl ?_
  refine Wk.iconst X2 hx (1 : Int32) (hb hby d12_17) rfl rfl ?_
  refine Wk.iadd X2 hx (hb hby d12_18) rfl ?_
  have t1 : (Int32.ofNat n) + (1 : Int32) = Int32.ofNat (n + 1) := Int32.toInt_inj.mp (by rw [ofn (n + 1) (by omega), Wk.t_add (ofn n (by omega)) (show (1 : Int32).toInt = 1 from rfl) (by omega) (by omega)]; omega)
  rw [t1]
  have A2' := A.wrO W2 nb
  refine Wk.putF (host := "") (ty := .int) X2 hx hZ hown (Or.inl (hw _ (List.mem_of_getElem? (i := 61) rfl))) e2 A2'.2.2.1 A2'.1 (Or.inl (hw _ (List.mem_of_getElem? (i := 62) rfl))) (hw _ (List.mem_of_getElem? (i := 1) rfl)) (by decide) rfl rfl (hb hby d12_19) rfl (fun T3 h3 X3 e3 W3 => ?_)
  have K3 : Keep h0 h3 [bb, ea] := ((Keep.refl _ _).wr W2 (Or.inl (by simp))).wr W3 (Or.inl (by simp))
  have hEv : ∀ v ∈ vs.set n (.ref r), Ev Z h3 v := ev_set (fun v hv => (hE v hv).keep K3) (Er.keep K3)
  exact Wk.retV X3 hx hlk hret (hb hby d12_22) (by decide) (by decide) (by rw [e3]; exact ⟨rfl, Fr.snoc X3 (Fr.snoc X2 (Fr.nil n0) hne) hna, ea, K3, ⟨AO.wrS hw A2' W3, Or.inr ⟨by omega, by omega, k, _, A2.keep (Keep.of_wr W3) (ninS nb.symm nin0), by rw [List.length_set]; exact hl, Ov, Xa.keep K3, hEv, rf_set (by omega) hR⟩⟩, Or.inr ⟨by omega, rfl⟩⟩)
theorem ma3 (l : Launch) (Z : State) (a0 : Array Value) (hw : ∀ d ∈ tables_1, d.before a0 Z = true) (dc el ee em p1 p2 p3 ka nn : Addr) (kd ke : ClassId) (bb : Addr) (n0 : Nat) (hna : n0 ≤ bb) (r ea : Addr) (n : Nat) (hn2 : n ≤ 2) (hne : n ≠ 0 → n0 ≤ ea) (h0 : Heap) (hn0 : n0 ≤ h0.size) (A : ALn Z h0 dc bb ea n) (Er : Exa Z h0 r "com/example/seepline/seepline/model/Position") (J : JS Z Z.heap dc el ee em p1 p2 p3 ka nn kd ke) (EZ : Ext Z.heap h0) : Wk.Met l Z (⟨"java/util/ArrayList", "add", "(Ljava/lang/Object;[Ljava/lang/Object;I)V"⟩ : MethodName) jdk_38_method_24_code 4 none [] { frames := 3, cells := 1, slots := 10, locals := 41 } #[.ref bb, .ref r, .ref ea, .int (Int32.ofNat n)] h0 (Q3 Z dc bb ea n none h0 n0) := by
  obtain ⟨A, B⟩ := A
  rcases B with ⟨rfl, rfl⟩ | ⟨q1, -, q3⟩
  · exact ma30 l Z a0 hw ea el ee em p1 p2 p3 ka nn kd ke bb n0 hna r h0 hn0 A Er J EZ
  · exact ma31 l Z a0 hw dc el ee em p1 p2 p3 ka nn kd ke bb n0 hna r ea n q1 hn2 (hne (by omega)) h0 A q3 Er
set_option maxRecDepth 65536 in
set_option maxHeartbeats 40000000 in
theorem madd (l : Launch) (Z : State) (a0 : Array Value) (hw : ∀ d ∈ tables_1, d.before a0 Z = true) (dc el ee em p1 p2 p3 ka nn : Addr) (kd ke : ClassId) (bb : Addr) (n0 : Nat) (hna : n0 ≤ bb) (hnz : Z.heap.size ≤ bb) (r ea : Addr) (n : Nat) (hn : n ≤ 2) (hne : n ≠ 0 → n0 ≤ ea) (h0 : Heap) (hn0 : n0 ≤ h0.size) (A : ALn Z h0 dc bb ea n) (Er : Exa Z h0 r "com/example/seepline/seepline/model/Position") (J : JS Z Z.heap dc el ee em p1 p2 p3 ka nn kd ke) (EZ : Ext Z.heap h0) : Wk.Met l Z (⟨"java/util/ArrayList", "add", "(Ljava/lang/Object;)Z"⟩ : MethodName) jdk_38_method_25_code 2 (some .boolean) [] { frames := 4, cells := 1, slots := 10, locals := 56 } #[(.ref bb), (.ref r)] h0 (Q3 Z dc bb ea n (some (.int 1)) h0 n0) := by
  refine Wk.start pn11 ?_
  intro p e s m below meth c s₁ X0 hx hby hml hown0 hnm hret hlk hZ e0
  have hown : s.vm.findClass "java/util/ArrayList" = some m.cls := hown0
  obtain ⟨mc, Fm⟩ := A.1.2.2.2
  refine Wk.enter (g' := (mkF m 0 #[.val (.ref bb), .val (.ref r)] [])) (by first | rfl | (simp [entryFrame, mkF, argsToLocals, Value.category, maxLocals]; done) | (simp [entryFrame, mkF, argsToLocals, hcat]; done) | (simp [entryFrame, mkF, argsToLocals, hcat]; rfl)) ?_
  refine Wk.aloadN X0 hx (hb hby d11_0) rfl rfl rfl ?_
  refine Wk.dup X0 hx (hb hby d11_1) rfl rfl ?_
  refine Wk.getFV X0 hx hZ hown (hw _ (List.mem_of_getElem? (i := 81) rfl)) (hw _ (List.mem_of_getElem? (i := 82) rfl)) e0 Fm (hb hby d11_2) rfl (fun T1 X1 e1 => ?_)
  refine Wk.iconst X1 hx (1 : Int32) (hb hby d11_5) rfl rfl ?_
  refine Wk.iadd X1 hx (hb hby d11_6) rfl ?_
  refine Wk.putFV (ty := .int) X1 hx hZ hown (hw _ (List.mem_of_getElem? (i := 81) rfl)) (hw _ (List.mem_of_getElem? (i := 82) rfl)) e1 Fm A.1.1 (hw _ (List.mem_of_getElem? (i := 22) rfl)) (hw _ (List.mem_of_getElem? (i := 1) rfl)) (by decide) rfl rfl (hb hby d11_7) rfl (fun T2 h2 X2 e2 W2 => ?_)
  have A2 := ALn.wrM hw A W2
  have EZ2 := Wk.extZ EZ (Keep.of_wr W2) (fun x q => by cases List.mem_singleton.mp q; exact hnz)
  have Er2 := Er.wr W2
  have hn2 : n0 ≤ h2.size := Nat.le_trans hn0 (Keep.of_wr W2).1
  refine Wk.aloadN X2 hx (hb hby d11_10) rfl rfl rfl ?_
  refine Wk.aloadN X2 hx (hb hby d11_11) rfl rfl rfl ?_
  refine Wk.aloadN X2 hx (hb hby d11_12) rfl rfl rfl ?_
  refine Wk.getF (host := "") X2 hx hZ hown (Or.inl (hw _ (List.mem_of_getElem? (i := 24) rfl))) e2 A2.1.2.1 (hb hby d11_13) rfl (fun T21 X21 e21 => ?_)
  refine Wk.aloadN X21 hx (hb hby d11_16) rfl rfl rfl ?_
  refine Wk.getF (host := "") X21 hx hZ hown (Or.inl (hw _ (List.mem_of_getElem? (i := 61) rfl))) e21 A2.1.2.2.1 (hb hby d11_17) rfl (fun T22 X22 e22 => ?_)
  refine Wk.callPV (W := 0) (C := "java/util/ArrayList") X22 hx hZ (argsL := [(.ref r), (.ref ea), (.int (Int32.ofNat n))]) (rest := []) hown (hw _ (List.mem_of_getElem? (i := 83) rfl)) (hw _ (List.mem_of_getElem? (i := 84) rfl)) (hw _ (List.mem_of_getElem? (i := 86) rfl)) (hw _ (List.mem_of_getElem? (i := 85) rfl)) (hw _ (List.mem_of_getElem? (i := 2) rfl)) (hw _ (List.mem_of_getElem? (i := 87) rfl)) (by decide) (ma3 l Z a0 hw dc el ee em p1 p2 p3 ka nn kd ke bb n0 hna r ea n hn hne h2 hn2 A2 Er2 J EZ2) e22 (A2.1.1) (by decide) (by decide) (by decide) (by decide) (by rw [hml]; rfl) (lenOf pd12 rfl) rfl (Nat.le_of_eq rfl) (hb hby d11_20) rfl (fun T3 v3 L3 X3 hq3 => ?_)
  obtain ⟨rfl, N3, ea', K3, A3, D3⟩ := hq3
  show Wk.Go p e below _ _ _ _ T3 (mkF m 23 #[.val (.ref bb), .val (.ref r)] [])
  refine Wk.iconst X3 hx (1 : Int32) (hb hby d11_23) rfl rfl ?_
  exact Wk.retZ X3 hx hlk hret (hb hby d11_24) (by decide) (by decide) (by decide) ⟨rfl, Fr.app (Fr.snoc X2 (Fr.nil n0) hna) N3, ea', ((Keep.refl _ _).wr W2 (Or.inl (by simp))).trans K3 (fun x q => Or.inl q), A3, D3.imp (fun q => ⟨q.1, Nat.le_trans (Keep.of_wr W2).1 q.2⟩) id⟩
def Qi (Z : State) (C : String) (a : Addr) (h0 : Heap) (n0 : Nat) (v : Option Value) (h : Heap) (L : List Loc) : Prop := v = none ∧ Fr n0 L ∧ Keep h0 h [a] ∧ Exa Z h a C
def Qx (Z : State) (C : String) (h0 : Heap) (n0 : Nat) (v : Option Value) (h : Heap) (L : List Loc) : Prop := ∃ r, v = some (.ref r) ∧ Fr n0 L ∧ Ext h0 h ∧ Exa Z h r C
set_option maxRecDepth 65536 in
set_option maxHeartbeats 40000000 in
theorem mpi (l : Launch) (Z : State) (a0 : Array Value) (hw : ∀ d ∈ tables_1, d.before a0 Z = true) (a k' : Addr) (i : Int32) (n0 : Nat) (hna : n0 ≤ a) (h0 : Heap) (E : Exa Z h0 a "com/example/seepline/seepline/model/Position") (Fk : Wk.FldE Z h0 a "com/example/seepline/seepline/model/Position" "kind" "Lcom/example/seepline/seepline/model/Position$Kind;") (Fa : Wk.FldE Z h0 a "com/example/seepline/seepline/model/Position" "argument" "I") : Wk.Met l Z (⟨"com/example/seepline/seepline/model/Position", "<init>", "(Lcom/example/seepline/seepline/model/Position$Kind;I)V"⟩ : MethodName) prog_13_method_1_code 3 none [] { frames := 1, cells := 0, slots := 0, locals := 12 } #[(.ref a), (.ref k'), (.int i)] h0 (Qi Z "com/example/seepline/seepline/model/Position" a h0 n0) := by
  refine Wk.start pn20 ?_
  intro p e s m below meth c s₁ X0 hx hby hml hown0 hnm hret hlk hZ e0
  have hown : s.vm.findClass "com/example/seepline/seepline/model/Position" = some m.cls := hown0
  refine Wk.enter (g' := (mkF m 0 #[.val (.ref a), .val (.ref k'), .val (.int i)] [])) (by first | rfl | (simp [entryFrame, mkF, argsToLocals, Value.category, maxLocals]; done) | (simp [entryFrame, mkF, argsToLocals, hcat]; done) | (simp [entryFrame, mkF, argsToLocals, hcat]; rfl)) ?_
  refine Wk.aloadN X0 hx (hb hby d20_0) rfl rfl rfl ?_
  refine Wk.initO (W := 0) X0 hx hZ hown (hw _ (List.mem_of_getElem? (i := 140) rfl)) (hw _ (List.mem_of_getElem? (i := 19) rfl)) (hw _ (List.mem_of_getElem? (i := 20) rfl)) e0 (by rw [hml]; rfl) (by decide) (Nat.le_of_eq rfl) (by decide) (hb hby d20_1) rfl (fun T1 X1 e1 => ?_)
  refine Wk.aloadN X1 hx (hb hby d20_4) rfl rfl rfl ?_
  refine Wk.aloadN X1 hx (hb hby d20_5) rfl rfl rfl ?_
  obtain ⟨o11, Fo11⟩ := Fk
  refine Wk.putF (host := "") (ty := (.object "com/example/seepline/seepline/model/Position$Kind")) X1 hx hZ hown (Or.inl (hw _ (List.mem_of_getElem? (i := 141) rfl))) e1 Fo11 E (Or.inr ⟨(hw _ (List.mem_of_getElem? (i := 142) rfl)), rfl, hnm⟩) (hw _ (List.mem_of_getElem? (i := 133) rfl)) (by decide) rfl rfl (hb hby d20_6) rfl (fun T11 h11 X11 e11 W11 => ?_)
  have N11 := Fr.snoc X11 (Fr.nil n0) hna
  refine Wk.aloadN X11 hx (hb hby d20_9) rfl rfl rfl ?_
  refine Wk.iloadN X11 hx (hb hby d20_10) rfl rfl ?_
  obtain ⟨o12, Fo12⟩ := (Fa.wr W11)
  refine Wk.putF (host := "") (ty := .int) X11 hx hZ hown (Or.inl (hw _ (List.mem_of_getElem? (i := 143) rfl))) e11 Fo12 (E.wr W11) (Or.inr ⟨(hw _ (List.mem_of_getElem? (i := 144) rfl)), rfl, hnm⟩) (hw _ (List.mem_of_getElem? (i := 133) rfl)) (by decide) rfl rfl (hb hby d20_11) rfl (fun T12 h12 X12 e12 W12 => ?_)
  have N12 := Fr.snoc X12 N11 hna
  exact Wk.retV X12 hx hlk hret (hb hby d20_14) (by decide) (by decide) (by rw [e12]; exact ⟨rfl, N12, (((Keep.refl h0 [a]).wr W11 (Or.inl (List.mem_singleton.mpr rfl))).wr W12 (Or.inl (List.mem_singleton.mpr rfl))), ((E.wr W11).wr W12)⟩)
set_option maxRecDepth 65536 in
set_option maxHeartbeats 40000000 in
theorem mpa (l : Launch) (Z : State) (a0 : Array Value) (hw : ∀ d ∈ tables_1, d.before a0 Z = true) (dc el ee em p1 p2 p3 ka nn : Addr) (kd ke : ClassId) (i : Int32) (hi : 0 ≤ i.toInt) (n0 : Nat) (h0 : Heap) (hn0 : n0 ≤ h0.size) (J : JS Z Z.heap dc el ee em p1 p2 p3 ka nn kd ke) (EZ : Ext Z.heap h0) : Wk.Met l Z (⟨"com/example/seepline/seepline/model/Position", "argument", "(I)Lcom/example/seepline/seepline/model/Position;"⟩ : MethodName) prog_13_method_2_code 1 (some (.object "com/example/seepline/seepline/model/Position")) [] { frames := 2, cells := 1, slots := 2, locals := 27 } #[(.int i)] h0 (Qx Z "com/example/seepline/seepline/model/Position" h0 n0) := by
  refine Wk.start pn19 ?_
  intro p e s m below meth c s₁ X0 hx hby hml hown0 hnm hret hlk hZ e0
  have hown : s.vm.findClass "com/example/seepline/seepline/model/Position" = some m.cls := hown0
  refine Wk.enter (g' := (mkF m 0 #[.val (.int i)] [])) (by first | rfl | (simp [entryFrame, mkF, argsToLocals, Value.category, maxLocals]; done) | (simp [entryFrame, mkF, argsToLocals, hcat]; done) | (simp [entryFrame, mkF, argsToLocals, hcat]; rfl)) ?_
  refine Wk.iloadN X0 hx (hb hby d19_0) rfl rfl ?_
  refine Wk.if_ge X0 hx 18 4 (hb hby d19_1) rfl rfl (show (i : Int32).toInt = (i).toInt from rfl) (fun h21 => ?_) (fun h21 => absurd h21 (by omega))
  refine Wk.newO X0 hx hZ hown (hw _ (List.mem_of_getElem? (i := 132) rfl)) (hw _ (List.mem_of_getElem? (i := 133) rfl)) (hw _ (List.mem_of_getElem? (i := 74) rfl)) e0 (hb hby d19_18) (by decide) (by decide) rfl (fun T1 h1 X1 e1 Ex1 A1 D1 => ?_)
  refine Wk.dup X1 hx (hb hby d19_21) rfl rfl ?_
  refine Wk.getS (host := "") X1 hx hZ hown (Or.inl (hw _ (List.mem_of_getElem? (i := 134) rfl))) e1 (((J.ext EZ).ext Ex1).2.2.2.2.2.2.2.2.2.2.2.2.2.1) (hb hby d19_22) rfl (fun T22 X22 e22 => ?_)
  refine Wk.iloadN X22 hx (hb hby d19_25) rfl rfl ?_
  refine Wk.callI (W := 1) X22 hx hZ (argsL := [(.ref ka), (.int i)]) (rest := [(.ref h0.size)]) rfl hown (hw _ (List.mem_of_getElem? (i := 137) rfl)) (hw _ (List.mem_of_getElem? (i := 138) rfl)) (hw _ (List.mem_of_getElem? (i := 74) rfl)) (hw _ (List.mem_of_getElem? (i := 139) rfl)) (by decide) (mpi l Z a0 hw h0.size ka i n0 hn0 h1 A1 (Wk.FldE.of (D1 (Or.inr (hw _ (List.mem_of_getElem? (i := 142) rfl))) (ty := .object "com/example/seepline/seepline/model/Position$Kind") (by decide))) (Wk.FldE.of (D1 (Or.inr (hw _ (List.mem_of_getElem? (i := 144) rfl))) (ty := .int) (by decide)))) e22 (by decide) (by decide) (by decide) (by decide) (by rw [hml]; rfl) (lenOf pd20 rfl) rfl (Nat.le_of_eq rfl) (hb hby d19_26) rfl (fun T5 v5 L5 X5 hq5 => ?_)
  obtain ⟨rfl, N5, K5, A5⟩ := hq5
  show Wk.Go p e below _ _ _ _ T5 (mkF m 29 #[.val (.int i)] [(.ref h0.size)])
  exact Wk.retA X5 hx hlk hret rfl rfl (hb hby d19_29) (by decide) (by decide) ⟨_, rfl, Fr.app (Fr.nil n0) N5, Wk.ext_of_keep (((Keep.refl _ _).ext Ex1).trans K5 (allS (Or.inr (Nat.le_refl _)) all0)), A5⟩
set_option maxRecDepth 65536 in
set_option maxHeartbeats 40000000 in
theorem mpos (l : Launch) (Z : State) (a0 : Array Value) (hw : ∀ d ∈ tables_1, d.before a0 Z = true) (dc el ee em p1 p2 p3 ka nn : Addr) (kd ke : ClassId) (k' i : Int32) (n0 : Nat) (h0 : Heap) (hn0 : n0 ≤ h0.size) (J : JS Z Z.heap dc el ee em p1 p2 p3 ka nn kd ke) (EZ : Ext Z.heap h0) : Wk.Met l Z (⟨"com/example/seepline/seepline/model/CallRulesIsEmptyPinLaw", "pos", "(II)Lcom/example/seepline/seepline/model/Position;"⟩ : MethodName) method_2_code 3 (some (.object "com/example/seepline/seepline/model/Position")) [] { frames := 3, cells := 1, slots := 2, locals := 39 } #[(.int k'), (.int i)] h0 (Qx Z "com/example/seepline/seepline/model/Position" h0 n0) := by
  refine Wk.start pn18 ?_
  intro p e s m below meth c s₁ X0 hx hby hml hown0 hnm hret hlk hZ e0
  have hown : s.vm.findClass "com/example/seepline/seepline/model/CallRulesIsEmptyPinLaw" = some m.cls := hown0
  refine Wk.enter (g' := (mkF m 0 #[.val (.int k'), .val (.int i), .unset] [])) (by first | rfl | (simp [entryFrame, mkF, argsToLocals, Value.category, maxLocals]; done) | (simp [entryFrame, mkF, argsToLocals, hcat]; done) | (simp [entryFrame, mkF, argsToLocals, hcat]; rfl)) ?_
  refine Wk.iloadN X0 hx (hb hby d18_0) rfl rfl ?_
  refine Wk.iconst X0 hx (3 : Int32) (hb hby d18_1) rfl rfl ?_
  refine Wk.iand X0 hx (hb hby d18_2) rfl ?_
  generalize k' &&& (3 : Int32) = kk
  refine Wk.istoreN (l' := #[.val (.int k'), .val (.int i), .val (.int kk)]) X0 hx (hb hby d18_3) rfl rfl ?_
  refine Wk.iloadN X0 hx (hb hby d18_4) rfl rfl ?_
  refine Wk.if_ne X0 hx 16 8 (hb hby d18_5) rfl rfl (show (kk : Int32).toInt = (kk).toInt from rfl) (fun h21 => ?_) (fun h21 => ?_)
  · skip
    refine Wk.iloadN X0 hx (hb hby d18_16) rfl rfl ?_
    refine Wk.iconst X0 hx (1 : Int32) (hb hby d18_17) rfl rfl ?_
    refine Wk.icmp_ne X0 hx 25 21 (hb hby d18_18) rfl rfl (show (kk : Int32).toInt = (kk).toInt from rfl) (show ((1 : Int32) : Int32).toInt = 1 from (by decide)) (fun h22 => ?_) (fun h22 => ?_)
    · skip
      refine Wk.iloadN X0 hx (hb hby d18_25) rfl rfl ?_
      refine Wk.iconst X0 hx (2 : Int32) (hb hby d18_26) rfl rfl ?_
      refine Wk.icmp_ne X0 hx 34 30 (hb hby d18_27) rfl rfl (show (kk : Int32).toInt = (kk).toInt from rfl) (show ((2 : Int32) : Int32).toInt = 2 from (by decide)) (fun h23 => ?_) (fun h23 => ?_)
      · skip
        refine Wk.getS (host := "") X0 hx hZ hown (Or.inl (hw _ (List.mem_of_getElem? (i := 73) rfl))) e0 ((J.ext EZ).2.2.2.2.2.2.2.2.2.2.2.1) (hb hby d18_34) rfl (fun T24 X24 e24 => ?_)
        exact Wk.retA X24 hx hlk hret rfl rfl (hb hby d18_37) (by decide) (by decide) (by rw [e24]; exact ⟨_, rfl, Fr.nil n0, Wk.ext_refl _, ((J.ext EZ).2.2.2.2.2.2.2.2.2.2.2.2.1)⟩)
      · skip
        refine Wk.getS (host := "") X0 hx hZ hown (Or.inl (hw _ (List.mem_of_getElem? (i := 145) rfl))) e0 ((J.ext EZ).2.2.2.2.2.2.2.2.2.1) (hb hby d18_30) rfl (fun T25 X25 e25 => ?_)
        exact Wk.retA X25 hx hlk hret rfl rfl (hb hby d18_33) (by decide) (by decide) (by rw [e25]; exact ⟨_, rfl, Fr.nil n0, Wk.ext_refl _, ((J.ext EZ).2.2.2.2.2.2.2.2.2.2.1)⟩)
    · skip
      refine Wk.getS (host := "") X0 hx hZ hown (Or.inl (hw _ (List.mem_of_getElem? (i := 219) rfl))) e0 ((J.ext EZ).2.2.2.2.2.2.2.1) (hb hby d18_21) rfl (fun T26 X26 e26 => ?_)
      exact Wk.retA X26 hx hlk hret rfl rfl (hb hby d18_24) (by decide) (by decide) (by rw [e26]; exact ⟨_, rfl, Fr.nil n0, Wk.ext_refl _, ((J.ext EZ).2.2.2.2.2.2.2.2.1)⟩)
  · skip
    refine Wk.iloadN X0 hx (hb hby d18_8) rfl rfl ?_
    refine Wk.ldcI X0 hx hZ hown (hw _ (List.mem_of_getElem? (i := 128) rfl)) (hb hby d18_9) rfl ?_
    refine Wk.iand X0 hx (hb hby d18_11) rfl ?_
    have hi : 0 ≤ (i &&& (2147483647 : Int32)).toInt := by have := c_mask i (2147483647 : Int32) 31 (by decide) (by decide); omega
    generalize i &&& (2147483647 : Int32) = ii at hi ⊢
    refine Wk.callS (W := 0) X0 hx hZ (argsL := [(.int ii)]) (rest := []) hown (hw _ (List.mem_of_getElem? (i := 129) rfl)) (hw _ (List.mem_of_getElem? (i := 130) rfl)) (hw _ (List.mem_of_getElem? (i := 74) rfl)) (hw _ (List.mem_of_getElem? (i := 131) rfl)) (by decide) (mpa l Z a0 hw dc el ee em p1 p2 p3 ka nn kd ke ii hi n0 h0 hn0 J EZ) e0 (by decide) (by decide) (by decide) (by decide) (by rw [hml]; rfl) (lenOf pd19 rfl) rfl (Nat.le_of_eq rfl) (hb hby d18_12) rfl (fun T5 v5 L5 X5 hq5 => ?_)
    obtain ⟨r, rfl, N5, Ex5, E5⟩ := hq5
    show Wk.Go p e below _ _ _ _ T5 (mkF m 15 #[.val (.int k'), .val (.int i), .val (.int kk)] [(.ref r)])
    exact Wk.retA X5 hx hlk hret rfl rfl (hb hby d18_15) (by decide) (by decide) ⟨_, rfl, Fr.app (Fr.nil n0) N5, Ex5, E5⟩
set_option maxRecDepth 65536 in
set_option maxHeartbeats 40000000 in
theorem mie (l : Launch) (Z : State) (a0 : Array Value) (hw : ∀ d ∈ tables_1, d.before a0 Z = true) (bb ea : Addr) (n : Nat) (hn : n ≤ 10) (h0 : Heap) (A : AO Z h0 bb ea (Int32.ofNat n)) : Wk.Met l Z (⟨"java/util/ArrayList", "isEmpty", "()Z"⟩ : MethodName) jdk_38_method_9_code 1 (some .boolean) [] { frames := 0, cells := 0, slots := 0, locals := 0 } #[(.ref bb)] h0 (Wk.Pu (.int (Wk.b (n = 0))) h0) := by
  refine Wk.start pn9 ?_
  intro p e s m below meth c s₁ X0 hx hby hml hown0 hnm hret hlk hZ e0
  have hown : s.vm.findClass "java/util/ArrayList" = some m.cls := hown0
  refine Wk.enter (g' := (mkF m 0 #[.val (.ref bb)] [])) (by first | rfl | (simp [entryFrame, mkF, argsToLocals, Value.category, maxLocals]; done) | (simp [entryFrame, mkF, argsToLocals, hcat]; done) | (simp [entryFrame, mkF, argsToLocals, hcat]; rfl)) ?_
  refine Wk.aloadN X0 hx (hb hby d9_0) rfl rfl rfl ?_
  refine Wk.getF (host := "") X0 hx hZ hown (Or.inl (hw _ (List.mem_of_getElem? (i := 61) rfl))) e0 A.2.2.1 (hb hby d9_1) rfl (fun T1 X1 e1 => ?_)
  refine Wk.if_ne X1 hx 11 7 (hb hby d9_4) rfl rfl (show (Int32.ofNat n : Int32).toInt = (n : Int) from ofn n hn) (fun h2 => ?_) (fun h2 => ?_)
  · skip
    refine Wk.iconst X1 hx (0 : Int32) (hb hby d9_11) rfl rfl ?_
    exact Wk.retZ X1 hx hlk hret (hb hby d9_12) (by decide) (Nat.zero_le _) (Nat.zero_le _) (Wk.puB0 (by omega) e1)
  · skip
    refine Wk.iconst X1 hx (1 : Int32) (hb hby d9_7) rfl rfl ?_
    refine Wk.goto X1 hx 12 (hb hby d9_8) rfl ?_
    exact Wk.retZ X1 hx hlk hret (hb hby d9_12) (by decide) (Nat.zero_le _) (Nat.zero_le _) (Wk.puB1 (by omega) e1)
set_option maxRecDepth 65536 in
set_option maxHeartbeats 40000000 in
theorem mne (l : Launch) (Z : State) (a0 : Array Value) (hw : ∀ d ∈ tables_1, d.before a0 Z = true) (dc el ee em p1 p2 p3 ka nn : Addr) (kd ke : ClassId) (h0 : Heap) (J : JS Z Z.heap dc el ee em p1 p2 p3 ka nn kd ke) (EZ : Ext Z.heap h0) : Wk.Met l Z (⟨"java/util/ImmutableCollections$ListN", "isEmpty", "()Z"⟩ : MethodName) jdk_45_method_2_code 1 (some .boolean) [] { frames := 0, cells := 0, slots := 0, locals := 0 } #[(.ref el)] h0 (Wk.Pu (.int 1) h0) := by
  refine Wk.start pn17 ?_
  intro p e s m below meth c s₁ X0 hx hby hml hown0 hnm hret hlk hZ e0
  have hown : s.vm.findClass "java/util/ImmutableCollections$ListN" = some m.cls := hown0
  refine Wk.enter (g' := (mkF m 0 #[.val (.ref el)] [])) (by first | rfl | (simp [entryFrame, mkF, argsToLocals, Value.category, maxLocals]; done) | (simp [entryFrame, mkF, argsToLocals, hcat]; done) | (simp [entryFrame, mkF, argsToLocals, hcat]; rfl)) ?_
  refine Wk.aloadN X0 hx (hb hby d17_0) rfl rfl rfl ?_
  refine Wk.getF (host := "") X0 hx hZ hown (Or.inl (hw _ (List.mem_of_getElem? (i := 120) rfl))) e0 ((J.ext EZ).2.2.2.2.1) (hb hby d17_1) rfl (fun T1 X1 e1 => ?_)
  refine Wk.alen X1 hx hZ e1 ((J.ext EZ).2.2.2.2.2.1) (hb hby d17_4) rfl ?_
  refine Wk.if_ne X1 hx 12 8 (hb hby d17_5) rfl rfl (show ((0 : Int32) : Int32).toInt = 0 from (by decide)) (fun h2 => absurd h2 (by omega)) (fun h2 => ?_)
  refine Wk.iconst X1 hx (1 : Int32) (hb hby d17_8) rfl rfl ?_
  refine Wk.goto X1 hx 13 (hb hby d17_9) rfl ?_
  exact Wk.retZ X1 hx hlk hret (hb hby d17_13) (by decide) (Nat.zero_le _) (Nat.zero_le _) (Wk.pu e1)
set_option maxRecDepth 65536 in
set_option maxHeartbeats 40000000 in
theorem m2e (l : Launch) (Z : State) (a0 : Array Value) (hw : ∀ d ∈ tables_1, d.before a0 Z = true) (r : Addr) (h0 : Heap)  : Wk.Met l Z (⟨"java/util/ImmutableCollections$List12", "isEmpty", "()Z"⟩ : MethodName) jdk_44_method_4_code 1 (some .boolean) [] { frames := 0, cells := 0, slots := 0, locals := 0 } #[(.ref r)] h0 (Wk.Pu (.int 0) h0) := by
  refine Wk.start pn31 ?_
  intro p e s m below meth c s₁ X0 hx hby hml hown0 hnm hret hlk hZ e0
  have hown : s.vm.findClass "java/util/ImmutableCollections$List12" = some m.cls := hown0
  refine Wk.enter (g' := (mkF m 0 #[.val (.ref r)] [])) (by first | rfl | (simp [entryFrame, mkF, argsToLocals, Value.category, maxLocals]; done) | (simp [entryFrame, mkF, argsToLocals, hcat]; done) | (simp [entryFrame, mkF, argsToLocals, hcat]; rfl)) ?_
  refine Wk.iconst X0 hx (0 : Int32) (hb hby d31_0) rfl rfl ?_
  exact Wk.retZ X0 hx hlk hret (hb hby d31_1) (by decide) (Nat.zero_le _) (Nat.zero_le _) (Wk.pu e0)
set_option maxRecDepth 65536 in
set_option maxHeartbeats 40000000 in
theorem mof0 (l : Launch) (Z : State) (a0 : Array Value) (hw : ∀ d ∈ tables_1, d.before a0 Z = true) (dc el ee em p1 p2 p3 ka nn : Addr) (kd ke : ClassId) (h0 : Heap) (J : JS Z Z.heap dc el ee em p1 p2 p3 ka nn kd ke) (EZ : Ext Z.heap h0) : Wk.Met l Z (⟨"java/util/List", "of", "()Ljava/util/List;"⟩ : MethodName) jdk_40_method_36_code 0 (some (.object "java/util/List")) [] { frames := 0, cells := 0, slots := 0, locals := 0 } #[] h0 (Wk.Pu (.ref el) h0) := by
  refine Wk.start pn10 ?_
  intro p e s m below meth c s₁ X0 hx hby hml hown0 hnm hret hlk hZ e0
  have hown : s.vm.findClass "java/util/List" = some m.cls := hown0
  refine Wk.enter (g' := (mkF m 0 #[] [])) (by first | rfl | (simp [entryFrame, mkF, argsToLocals, Value.category, maxLocals]; done) | (simp [entryFrame, mkF, argsToLocals, hcat]; done) | (simp [entryFrame, mkF, argsToLocals, hcat]; rfl)) ?_
  refine Wk.getS (host := "") X0 hx hZ hown (Or.inl (hw _ (List.mem_of_getElem? (i := 66) rfl))) e0 ((J.ext EZ).2.2.1) (hb hby d10_0) rfl (fun T1 X1 e1 => ?_)
  exact Wk.retA X1 hx hlk hret rfl rfl (hb hby d10_3) (Nat.zero_le _) (Nat.zero_le _) (Wk.pu e1)
set_option maxRecDepth 65536 in
set_option maxHeartbeats 40000000 in
theorem mrn (l : Launch) (Z : State) (a0 : Array Value) (hw : ∀ d ∈ tables_1, d.before a0 Z = true) (x : Addr) (h0 : Heap)  : Wk.Met l Z (⟨"java/util/Objects", "requireNonNull", "(Ljava/lang/Object;)Ljava/lang/Object;"⟩ : MethodName) jdk_31_method_10_code 1 (some (.object "java/lang/Object")) [] { frames := 0, cells := 0, slots := 0, locals := 0 } #[(.ref x)] h0 (Wk.Pu (.ref x) h0) := by
  refine Wk.start pn29 ?_
  intro p e s m below meth c s₁ X0 hx hby hml hown0 hnm hret hlk hZ e0
  have hown : s.vm.findClass "java/util/Objects" = some m.cls := hown0
  refine Wk.enter (g' := (mkF m 0 #[.val (.ref x)] [])) (by first | rfl | (simp [entryFrame, mkF, argsToLocals, Value.category, maxLocals]; done) | (simp [entryFrame, mkF, argsToLocals, hcat]; done) | (simp [entryFrame, mkF, argsToLocals, hcat]; rfl)) ?_
  refine Wk.aloadN X0 hx (hb hby d29_0) rfl rfl rfl ?_
  refine Wk.nonnullR X0 hx 12 (hb hby d29_1) rfl ?_
  refine Wk.aloadN X0 hx (hb hby d29_12) rfl rfl rfl ?_
  exact Wk.retA X0 hx hlk hret rfl rfl (hb hby d29_13) (Nat.zero_le _) (Nat.zero_le _) (Wk.pu e0)
set_option maxRecDepth 65536 in
set_option maxHeartbeats 40000000 in
theorem ml1 (l : Launch) (Z : State) (a0 : Array Value) (hw : ∀ d ∈ tables_1, d.before a0 Z = true) (dc el ee em p1 p2 p3 ka nn : Addr) (kd ke : ClassId) (a x : Addr) (n0 : Nat) (hna : n0 ≤ a) (hnz : Z.heap.size ≤ a) (h0 : Heap) (E : Exa Z h0 a "java/util/ImmutableCollections$List12") (F0 : Wk.FldE Z h0 a "java/util/ImmutableCollections$List12" "e0" "Ljava/lang/Object;") (F1 : Wk.FldE Z h0 a "java/util/ImmutableCollections$List12" "e1" "Ljava/lang/Object;") (J : JS Z Z.heap dc el ee em p1 p2 p3 ka nn kd ke) (EZ : Ext Z.heap h0) : Wk.Met l Z (⟨"java/util/ImmutableCollections$List12", "<init>", "(Ljava/lang/Object;)V"⟩ : MethodName) jdk_44_method_1_code 2 none [] { frames := 4, cells := 0, slots := 0, locals := 48 } #[(.ref a), (.ref x)] h0 (Qi Z "java/util/ImmutableCollections$List12" a h0 n0) := by
  refine Wk.start pn30 ?_
  intro p e s m below meth c s₁ X0 hx hby hml hown0 hnm hret hlk hZ e0
  have hown : s.vm.findClass "java/util/ImmutableCollections$List12" = some m.cls := hown0
  refine Wk.enter (g' := (mkF m 0 #[.val (.ref a), .val (.ref x)] [])) (by first | rfl | (simp [entryFrame, mkF, argsToLocals, Value.category, maxLocals]; done) | (simp [entryFrame, mkF, argsToLocals, hcat]; done) | (simp [entryFrame, mkF, argsToLocals, hcat]; rfl)) ?_
  refine Wk.aloadN X0 hx (hb hby d30_0) rfl rfl rfl ?_
  refine Wk.callI (W := 0) X0 hx hZ (argsL := []) (rest := []) rfl hown (hw _ (List.mem_of_getElem? (i := 187) rfl)) (hw _ (List.mem_of_getElem? (i := 188) rfl)) (hw _ (List.mem_of_getElem? (i := 191) rfl)) (hw _ (List.mem_of_getElem? (i := 192) rfl)) (by decide) (mail l Z a0 hw a h0) e0 (by decide) (by decide) (by decide) (by decide) (by rw [hml]; rfl) (lenOf pd27 rfl) rfl (Nat.le_of_eq rfl) (hb hby d30_1) rfl (fun T1 v1 L1 X1 hq1 => ?_)
  obtain ⟨rfl, rfl, hh1⟩ := hq1
  rw [List.append_nil] at X1
  show Wk.Go p e below _ _ _ _ T1 (mkF m 4 #[.val (.ref a), .val (.ref x)] [])
  refine Wk.aloadN X1 hx (hb hby d30_4) rfl rfl rfl ?_
  refine Wk.aloadN X1 hx (hb hby d30_5) rfl rfl rfl ?_
  refine Wk.callP (W := 1) X1 hx hZ (argsL := [(.ref x)]) (rest := [(.ref a)]) hown (hw _ (List.mem_of_getElem? (i := 201) rfl)) (hw _ (List.mem_of_getElem? (i := 202) rfl)) (hw _ (List.mem_of_getElem? (i := 203) rfl)) (hw _ (List.mem_of_getElem? (i := 204) rfl)) (by decide) (mrn l Z a0 hw x h0) hh1 (by decide) (by decide) (by decide) (by decide) (by rw [hml]; rfl) (lenOf pd29 rfl) rfl (Nat.le_of_eq rfl) (hb hby d30_6) rfl (fun T21 X21 e21 => ?_)
  obtain ⟨o11, Fo11⟩ := F0
  refine Wk.putF (host := "") (ty := (.object "java/lang/Object")) X21 hx hZ hown (Or.inl (hw _ (List.mem_of_getElem? (i := 205) rfl))) e21 Fo11 E (Or.inr ⟨(hw _ (List.mem_of_getElem? (i := 206) rfl)), rfl, hnm⟩) (hw _ (List.mem_of_getElem? (i := 181) rfl)) (by decide) rfl rfl (hb hby d30_9) rfl (fun T11 h11 X11 e11 W11 => ?_)
  have N11 := Fr.snoc X11 (Fr.nil n0) hna
  refine Wk.aloadN X11 hx (hb hby d30_12) rfl rfl rfl ?_
  have EZ1 := Wk.extZ EZ (Keep.of_wr W11) (fun x q => by cases List.mem_singleton.mp q; exact hnz)
  refine Wk.getS (host := "java/util/ImmutableCollections") X11 hx hZ hown (Or.inr (hw _ (List.mem_of_getElem? (i := 212) rfl))) e11 ((J.ext EZ1).2.2.2.2.2.2.1) (hb hby d30_13) rfl (fun T22 X22 e22 => ?_)
  obtain ⟨o12, Fo12⟩ := (F1.wr W11)
  refine Wk.putF (host := "") (ty := (.object "java/lang/Object")) X22 hx hZ hown (Or.inl (hw _ (List.mem_of_getElem? (i := 207) rfl))) e22 Fo12 (E.wr W11) (Or.inr ⟨(hw _ (List.mem_of_getElem? (i := 208) rfl)), rfl, hnm⟩) (hw _ (List.mem_of_getElem? (i := 181) rfl)) (by decide) rfl rfl (hb hby d30_16) rfl (fun T12 h12 X12 e12 W12 => ?_)
  have N12 := Fr.snoc X12 N11 hna
  exact Wk.retV X12 hx hlk hret (hb hby d30_19) (by decide) (by decide) (by rw [e12]; exact ⟨rfl, N12, (((Keep.refl h0 [a]).wr W11 (Or.inl (List.mem_singleton.mpr rfl))).wr W12 (Or.inl (List.mem_singleton.mpr rfl))), ((E.wr W11).wr W12)⟩)
set_option maxRecDepth 65536 in
set_option maxHeartbeats 40000000 in
theorem ml2 (l : Launch) (Z : State) (a0 : Array Value) (hw : ∀ d ∈ tables_1, d.before a0 Z = true) (dc el ee em p1 p2 p3 ka nn : Addr) (kd ke : ClassId) (a x y : Addr) (n0 : Nat) (hna : n0 ≤ a) (hnz : Z.heap.size ≤ a) (h0 : Heap) (E : Exa Z h0 a "java/util/ImmutableCollections$List12") (F0 : Wk.FldE Z h0 a "java/util/ImmutableCollections$List12" "e0" "Ljava/lang/Object;") (F1 : Wk.FldE Z h0 a "java/util/ImmutableCollections$List12" "e1" "Ljava/lang/Object;") (J : JS Z Z.heap dc el ee em p1 p2 p3 ka nn kd ke) (EZ : Ext Z.heap h0) : Wk.Met l Z (⟨"java/util/ImmutableCollections$List12", "<init>", "(Ljava/lang/Object;Ljava/lang/Object;)V"⟩ : MethodName) jdk_44_method_2_code 3 none [] { frames := 4, cells := 0, slots := 0, locals := 48 } #[(.ref a), (.ref x), (.ref y)] h0 (Qi Z "java/util/ImmutableCollections$List12" a h0 n0) := by
  refine Wk.start pn26 ?_
  intro p e s m below meth c s₁ X0 hx hby hml hown0 hnm hret hlk hZ e0
  have hown : s.vm.findClass "java/util/ImmutableCollections$List12" = some m.cls := hown0
  refine Wk.enter (g' := (mkF m 0 #[.val (.ref a), .val (.ref x), .val (.ref y)] [])) (by first | rfl | (simp [entryFrame, mkF, argsToLocals, Value.category, maxLocals]; done) | (simp [entryFrame, mkF, argsToLocals, hcat]; done) | (simp [entryFrame, mkF, argsToLocals, hcat]; rfl)) ?_
  refine Wk.aloadN X0 hx (hb hby d26_0) rfl rfl rfl ?_
  refine Wk.callI (W := 0) X0 hx hZ (argsL := []) (rest := []) rfl hown (hw _ (List.mem_of_getElem? (i := 187) rfl)) (hw _ (List.mem_of_getElem? (i := 188) rfl)) (hw _ (List.mem_of_getElem? (i := 191) rfl)) (hw _ (List.mem_of_getElem? (i := 192) rfl)) (by decide) (mail l Z a0 hw a h0) e0 (by decide) (by decide) (by decide) (by decide) (by rw [hml]; rfl) (lenOf pd27 rfl) rfl (Nat.le_of_eq rfl) (hb hby d26_1) rfl (fun T1 v1 L1 X1 hq1 => ?_)
  obtain ⟨rfl, rfl, hh1⟩ := hq1
  rw [List.append_nil] at X1
  show Wk.Go p e below _ _ _ _ T1 (mkF m 4 #[.val (.ref a), .val (.ref x), .val (.ref y)] [])
  refine Wk.aloadN X1 hx (hb hby d26_4) rfl rfl rfl ?_
  refine Wk.aloadN X1 hx (hb hby d26_5) rfl rfl rfl ?_
  refine Wk.callP (W := 1) X1 hx hZ (argsL := [(.ref x)]) (rest := [(.ref a)]) hown (hw _ (List.mem_of_getElem? (i := 201) rfl)) (hw _ (List.mem_of_getElem? (i := 202) rfl)) (hw _ (List.mem_of_getElem? (i := 203) rfl)) (hw _ (List.mem_of_getElem? (i := 204) rfl)) (by decide) (mrn l Z a0 hw x h0) hh1 (by decide) (by decide) (by decide) (by decide) (by rw [hml]; rfl) (lenOf pd29 rfl) rfl (Nat.le_of_eq rfl) (hb hby d26_6) rfl (fun T21 X21 e21 => ?_)
  obtain ⟨o11, Fo11⟩ := F0
  refine Wk.putF (host := "") (ty := (.object "java/lang/Object")) X21 hx hZ hown (Or.inl (hw _ (List.mem_of_getElem? (i := 205) rfl))) e21 Fo11 E (Or.inr ⟨(hw _ (List.mem_of_getElem? (i := 206) rfl)), rfl, hnm⟩) (hw _ (List.mem_of_getElem? (i := 181) rfl)) (by decide) rfl rfl (hb hby d26_9) rfl (fun T11 h11 X11 e11 W11 => ?_)
  have N11 := Fr.snoc X11 (Fr.nil n0) hna
  refine Wk.aloadN X11 hx (hb hby d26_12) rfl rfl rfl ?_
  refine Wk.aloadN X11 hx (hb hby d26_13) rfl rfl rfl ?_
  refine Wk.callP (W := 1) X11 hx hZ (argsL := [(.ref y)]) (rest := [(.ref a)]) hown (hw _ (List.mem_of_getElem? (i := 201) rfl)) (hw _ (List.mem_of_getElem? (i := 202) rfl)) (hw _ (List.mem_of_getElem? (i := 203) rfl)) (hw _ (List.mem_of_getElem? (i := 204) rfl)) (by decide) (mrn l Z a0 hw y h11) e11 (by decide) (by decide) (by decide) (by decide) (by rw [hml]; rfl) (lenOf pd29 rfl) rfl (Nat.le_of_eq rfl) (hb hby d26_14) rfl (fun T22 X22 e22 => ?_)
  obtain ⟨o12, Fo12⟩ := (F1.wr W11)
  refine Wk.putF (host := "") (ty := (.object "java/lang/Object")) X22 hx hZ hown (Or.inl (hw _ (List.mem_of_getElem? (i := 207) rfl))) e22 Fo12 (E.wr W11) (Or.inr ⟨(hw _ (List.mem_of_getElem? (i := 208) rfl)), rfl, hnm⟩) (hw _ (List.mem_of_getElem? (i := 181) rfl)) (by decide) rfl rfl (hb hby d26_17) rfl (fun T12 h12 X12 e12 W12 => ?_)
  have N12 := Fr.snoc X12 N11 hna
  exact Wk.retV X12 hx hlk hret (hb hby d26_20) (by decide) (by decide) (by rw [e12]; exact ⟨rfl, N12, (((Keep.refl h0 [a]).wr W11 (Or.inl (List.mem_singleton.mpr rfl))).wr W12 (Or.inl (List.mem_singleton.mpr rfl))), ((E.wr W11).wr W12)⟩)
set_option maxRecDepth 65536 in
set_option maxHeartbeats 40000000 in
theorem mofa1 (l : Launch) (Z : State) (a0 : Array Value) (hw : ∀ d ∈ tables_1, d.before a0 Z = true) (dc el ee em p1 p2 p3 ka nn : Addr) (kd ke : ClassId) (ia x : Addr) (k' : ClassId) (n0 : Nat) (h0 : Heap) (hn0 : n0 ≤ h0.size) (hnz : Z.heap.size ≤ h0.size) (A : Arv Z h0 ia k' (.object "java/lang/Object") (1 : Int32) [.ref x] .null) (J : JS Z Z.heap dc el ee em p1 p2 p3 ka nn kd ke) (EZ : Ext Z.heap h0) : Wk.Met l Z (⟨"java/util/List", "of", "([Ljava/lang/Object;)Ljava/util/List;"⟩ : MethodName) jdk_40_method_47_code 2 (some (.object "java/util/List")) [] { frames := 5, cells := 1, slots := 2, locals := 63 } #[(.ref ia)] h0 (Qx Z "java/util/ImmutableCollections$List12" h0 n0) := by
  refine Wk.start pn25 ?_
  intro p e s m below meth c s₁ X0 hx hby hml hown0 hnm hret hlk hZ e0
  have hown : s.vm.findClass "java/util/List" = some m.cls := hown0
  refine Wk.enter (g' := (mkF m 0 #[.val (.ref ia), .unset] [])) (by first | rfl | (simp [entryFrame, mkF, argsToLocals, Value.category, maxLocals]; done) | (simp [entryFrame, mkF, argsToLocals, hcat]; done) | (simp [entryFrame, mkF, argsToLocals, hcat]; rfl)) ?_
  refine Wk.aloadN X0 hx (hb hby d25_0) rfl rfl rfl ?_
  refine Wk.alen X0 hx hZ e0 A (hb hby d25_1) rfl ?_
  refine Wk.tsw X0 hx 34 (hb hby d25_2) (by decide) rfl rfl ?_
  refine Wk.newO X0 hx hZ hown (hw _ (List.mem_of_getElem? (i := 180) rfl)) (hw _ (List.mem_of_getElem? (i := 181) rfl)) (hw _ (List.mem_of_getElem? (i := 182) rfl)) e0 (hb hby d25_34) (by decide) (by decide) rfl (fun T1 h1 X1 e1 Ex1 A1 D1 => ?_)
  have EZ1 := Wk.ext_trans EZ Ex1
  refine Wk.dup X1 hx (hb hby d25_37) rfl rfl ?_
  refine Wk.aloadN X1 hx (hb hby d25_38) rfl rfl rfl ?_
  refine Wk.iconst X1 hx (0 : Int32) (hb hby d25_39) rfl rfl ?_
  refine Wk.aaload X1 hx hZ e1 (A.ext Ex1) rfl (by decide) (by decide) rfl (hb hby d25_40) rfl ?_
  refine Wk.callI (W := 1) X1 hx hZ (argsL := [(.ref x)]) (rest := [(.ref h0.size)]) rfl hown (hw _ (List.mem_of_getElem? (i := 209) rfl)) (hw _ (List.mem_of_getElem? (i := 210) rfl)) (hw _ (List.mem_of_getElem? (i := 182) rfl)) (hw _ (List.mem_of_getElem? (i := 211) rfl)) (by decide) (ml1 l Z a0 hw dc el ee em p1 p2 p3 ka nn kd ke h0.size x n0 hn0 hnz h1 A1 (Wk.FldE.of (D1 (Or.inr (hw _ (List.mem_of_getElem? (i := 206) rfl))) (ty := .object "java/lang/Object") (by decide))) (Wk.FldE.of (D1 (Or.inr (hw _ (List.mem_of_getElem? (i := 208) rfl))) (ty := .object "java/lang/Object") (by decide))) J EZ1) e1 (by decide) (by decide) (by decide) (by decide) (by rw [hml]; rfl) (lenOf pd30 rfl) rfl (Nat.le_of_eq rfl) (hb hby d25_41) rfl (fun T5 v5 L5 X5 hq5 => ?_)
  obtain ⟨rfl, N5, K5, A5⟩ := hq5
  show Wk.Go p e below _ _ _ _ T5 (mkF m 44 #[.val (.ref ia), .unset] [(.ref h0.size)])
  exact Wk.retA X5 hx hlk hret rfl rfl (hb hby d25_44) (by decide) (by decide) ⟨_, rfl, Fr.app (Fr.nil n0) N5, Wk.ext_of_keep (((Keep.refl _ _).ext Ex1).trans K5 (allS (Or.inr (Nat.le_refl _)) all0)), A5⟩
set_option maxRecDepth 65536 in
set_option maxHeartbeats 40000000 in
theorem mofa2 (l : Launch) (Z : State) (a0 : Array Value) (hw : ∀ d ∈ tables_1, d.before a0 Z = true) (dc el ee em p1 p2 p3 ka nn : Addr) (kd ke : ClassId) (ia x y : Addr) (k' : ClassId) (n0 : Nat) (h0 : Heap) (hn0 : n0 ≤ h0.size) (hnz : Z.heap.size ≤ h0.size) (A : Arv Z h0 ia k' (.object "java/lang/Object") (2 : Int32) [.ref x, .ref y] .null) (J : JS Z Z.heap dc el ee em p1 p2 p3 ka nn kd ke) (EZ : Ext Z.heap h0) : Wk.Met l Z (⟨"java/util/List", "of", "([Ljava/lang/Object;)Ljava/util/List;"⟩ : MethodName) jdk_40_method_47_code 2 (some (.object "java/util/List")) [] { frames := 5, cells := 1, slots := 2, locals := 63 } #[(.ref ia)] h0 (Qx Z "java/util/ImmutableCollections$List12" h0 n0) := by
  refine Wk.start pn25 ?_
  intro p e s m below meth c s₁ X0 hx hby hml hown0 hnm hret hlk hZ e0
  have hown : s.vm.findClass "java/util/List" = some m.cls := hown0
  refine Wk.enter (g' := (mkF m 0 #[.val (.ref ia), .unset] [])) (by first | rfl | (simp [entryFrame, mkF, argsToLocals, Value.category, maxLocals]; done) | (simp [entryFrame, mkF, argsToLocals, hcat]; done) | (simp [entryFrame, mkF, argsToLocals, hcat]; rfl)) ?_
  refine Wk.aloadN X0 hx (hb hby d25_0) rfl rfl rfl ?_
  refine Wk.alen X0 hx hZ e0 A (hb hby d25_1) rfl ?_
  refine Wk.tsw X0 hx 45 (hb hby d25_2) (by decide) rfl rfl ?_
  refine Wk.newO X0 hx hZ hown (hw _ (List.mem_of_getElem? (i := 180) rfl)) (hw _ (List.mem_of_getElem? (i := 181) rfl)) (hw _ (List.mem_of_getElem? (i := 182) rfl)) e0 (hb hby d25_45) (by decide) (by decide) rfl (fun T1 h1 X1 e1 Ex1 A1 D1 => ?_)
  have EZ1 := Wk.ext_trans EZ Ex1
  refine Wk.dup X1 hx (hb hby d25_48) rfl rfl ?_
  refine Wk.aloadN X1 hx (hb hby d25_49) rfl rfl rfl ?_
  refine Wk.iconst X1 hx (0 : Int32) (hb hby d25_50) rfl rfl ?_
  refine Wk.aaload X1 hx hZ e1 (A.ext Ex1) rfl (by decide) (by decide) rfl (hb hby d25_51) rfl ?_
  refine Wk.aloadN X1 hx (hb hby d25_52) rfl rfl rfl ?_
  refine Wk.iconst X1 hx (1 : Int32) (hb hby d25_53) rfl rfl ?_
  refine Wk.aaload X1 hx hZ e1 (A.ext Ex1) rfl (by decide) (by decide) rfl (hb hby d25_54) rfl ?_
  refine Wk.callI (W := 1) X1 hx hZ (argsL := [(.ref x), (.ref y)]) (rest := [(.ref h0.size)]) rfl hown (hw _ (List.mem_of_getElem? (i := 183) rfl)) (hw _ (List.mem_of_getElem? (i := 184) rfl)) (hw _ (List.mem_of_getElem? (i := 182) rfl)) (hw _ (List.mem_of_getElem? (i := 186) rfl)) (by decide) (ml2 l Z a0 hw dc el ee em p1 p2 p3 ka nn kd ke h0.size x y n0 hn0 hnz h1 A1 (Wk.FldE.of (D1 (Or.inr (hw _ (List.mem_of_getElem? (i := 206) rfl))) (ty := .object "java/lang/Object") (by decide))) (Wk.FldE.of (D1 (Or.inr (hw _ (List.mem_of_getElem? (i := 208) rfl))) (ty := .object "java/lang/Object") (by decide))) J EZ1) e1 (by decide) (by decide) (by decide) (by decide) (by rw [hml]; rfl) (lenOf pd26 rfl) rfl (Nat.le_of_eq rfl) (hb hby d25_55) rfl (fun T5 v5 L5 X5 hq5 => ?_)
  obtain ⟨rfl, N5, K5, A5⟩ := hq5
  show Wk.Go p e below _ _ _ _ T5 (mkF m 58 #[.val (.ref ia), .unset] [(.ref h0.size)])
  exact Wk.retA X5 hx hlk hret rfl rfl (hb hby d25_58) (by decide) (by decide) ⟨_, rfl, Fr.app (Fr.nil n0) N5, Wk.ext_of_keep (((Keep.refl _ _).ext Ex1).trans K5 (allS (Or.inr (Nat.le_refl _)) all0)), A5⟩
theorem tab3 {a0 : Array Value} {Z : State} (hw : ∀ d ∈ tables_1, d.before a0 Z = true) {s : State} {args : Array Value} (hZ : Z.Warmed39 s.vm) : Jvm.Free.CopyOfC.Copy3.tab.before args s = true := by
  refine (conj_holds (args := args) (first := s) (o := none) (s := s) (idx := []) _ _).mpr ⟨mvT (args := args) hZ (hw _ (List.mem_of_getElem? (i := 167) rfl)), fun d hd => ?_⟩
  simp only [List.mem_cons, List.not_mem_nil, or_false] at hd
  rcases hd with rfl | rfl | rfl | rfl | rfl | rfl | rfl | rfl | rfl | rfl | rfl
  · exact mvT (args := args) hZ (hw _ (List.mem_of_getElem? (i := 169) rfl))
  · exact Cond.arrayOver_alike hZ.alike (hw _ (List.mem_of_getElem? (i := 103) rfl))
  · exact mvT (args := args) hZ (hw _ (List.mem_of_getElem? (i := 170) rfl))
  · exact mvT (args := args) hZ (hw _ (List.mem_of_getElem? (i := 171) rfl))
  · exact mvT (args := args) hZ (hw _ (List.mem_of_getElem? (i := 100) rfl))
  · exact mvT (args := args) hZ (hw _ (List.mem_of_getElem? (i := 172) rfl))
  · exact mvT (args := args) hZ (hw _ (List.mem_of_getElem? (i := 173) rfl))
  · exact mvT (args := args) hZ (hw _ (List.mem_of_getElem? (i := 176) rfl))
  · exact mvT (args := args) hZ (hw _ (List.mem_of_getElem? (i := 174) rfl))
  · exact mvT (args := args) hZ (hw _ (List.mem_of_getElem? (i := 175) rfl))
  · exact mvT (args := args) hZ (hw _ (List.mem_of_getElem? (i := 168) rfl))
theorem tab2 {a0 : Array Value} {Z : State} (hw : ∀ d ∈ tables_1, d.before a0 Z = true) {s : State} {args : Array Value} (hZ : Z.Warmed39 s.vm) : Jvm.Free.CopyOfC.Copy2.tab.before args s = true := by
  refine (conj_holds (args := args) (first := s) (o := none) (s := s) (idx := []) _ _).mpr ⟨mvT (args := args) hZ (hw _ (List.mem_of_getElem? (i := 158) rfl)), fun d hd => ?_⟩
  simp only [Jvm.Free.CopyOfC.Copy2.siteAtoms, List.mem_append, List.mem_cons, List.not_mem_nil, or_false] at hd
  rcases hd with (rfl | rfl | rfl | rfl | rfl | rfl | rfl | rfl) | rfl
  · exact mvT (args := args) hZ (hw _ (List.mem_of_getElem? (i := 159) rfl))
  · exact mvT (args := args) hZ (hw _ (List.mem_of_getElem? (i := 160) rfl))
  · exact mvT (args := args) hZ (hw _ (List.mem_of_getElem? (i := 162) rfl))
  · exact mvT (args := args) hZ (hw _ (List.mem_of_getElem? (i := 161) rfl))
  · exact mvT (args := args) hZ (hw _ (List.mem_of_getElem? (i := 163) rfl))
  · exact mvT (args := args) hZ (hw _ (List.mem_of_getElem? (i := 165) rfl))
  · exact mvT (args := args) hZ (hw _ (List.mem_of_getElem? (i := 166) rfl))
  · exact mvT (args := args) hZ (hw _ (List.mem_of_getElem? (i := 157) rfl))
  · exact tab3 hw hZ
theorem found_init {Z : State} {a0 : Array Value} {C : String} (w : (Cond.initialized C).before a0 Z = true) : ∃ c, Z.vm.findClass C = some c := by
  cases hc : Z.vm.findClass C with
  | some c => exact ⟨c, rfl⟩
  | none => simp [Cond.before, Cond.holds, Cond.value, hc] at w
theorem mir_move {Z U : State} {c : ClassId} {k : Class} {mir : Addr} (hal : Z.vm.Alike U.vm) (h1 : Z.vm.classes[c]? = some k) (h2 : k.mirror = some mir) : ∃ k', U.vm.classes[c]? = some k' ∧ k'.kind = k.kind ∧ k'.mirror = some mir := by
  obtain ⟨k', h3, e⟩ := hal.2.2 _ _ h1
  exact ⟨k', h3, by rw [e], by rw [e]; exact h2⟩
theorem cpP {a0 : Array Value} {Z : State} (hw : ∀ d ∈ tables_1, d.before a0 Z = true) {U : State} {h0 : Heap} {ea mir : Addr} {cs : Cell} {comp cAR : ClassId} {k : Class} {z : Int32} (hal : Z.vm.Alike U.vm) (hh : U.heap = h0) (A : Arr Z h0 ea cs (.object "java/lang/Object")) (hcls : Z.vm.findClass "[Ljava/lang/Object;" = some cs.cls) (hk : Z.vm.classes[cs.cls]? = some k) (hkk : k.kind = .array comp (.object "java/lang/Object")) (hcomp : Z.vm.findClass "java/lang/Object" = some comp) (hmir : k.mirror = some mir) (hAR : Z.vm.findClass "java/util/Arrays" = some cAR) (hsz : cs.slots.size = 10) (H : ∀ i, i < 10 → ∃ v, cs.slots[i]? = some v ∧ Ev Z h0 v) (hz0 : 0 ≤ z.toInt) (hz1 : z.toNatClampNeg ≤ 2) : Jvm.Free.CopyOfC.Copy3.P 2 ⟨ea, cs, z, mir, cs.cls, comp, cAR⟩ #[.ref ea, .int z, .ref mir] U := by
  obtain ⟨k', q1, q2, q3⟩ := mir_move hal hk hmir
  obtain ⟨kc, hkc, -⟩ := Vm.findClass_spec hcomp
  obtain ⟨kc', hkc', -⟩ := hal.2.2 _ _ hkc
  refine ⟨rfl, by rw [hh]; exact A.1, A.2.2, A.2.1.1, ⟨k', comp, _, q1, q2.trans hkk, rfl⟩, by rw [hal.findClass]; exact hcls, ⟨k', q1, q2.trans hkk, q3⟩, by rw [hal.findClass]; exact hcomp, ⟨kc', hkc'⟩, by rw [hal.findClass]; exact hAR, hz0, hz1, by show z.toNatClampNeg * 4 ≤ _; omega, by show cs.slots.size < _; rw [hsz]; decide, fun i hi => ?_⟩
  obtain ⟨v, hv, hE⟩ := H i (by have hi : i < cs.slots.size := hi; omega)
  refine ⟨v, hv, hE.imp id (fun ⟨r, e1, e2⟩ => ?_)⟩
  obtain ⟨cell, cT, i1, i2, i3⟩ := Ins.of_exa e2 (hw _ (List.mem_of_getElem? (i := 104) rfl))
  obtain ⟨cell', kq, j1, -, j3, -⟩ := e2
  cases i1.symm.trans j1
  cases i2.symm.trans hcomp
  obtain ⟨kq', j4, -⟩ := hal.2.2 _ _ j3
  simp only [Bool.and_eq_true, Bool.not_eq_true'] at i3
  exact ⟨r, cell, e1, by rw [hh]; exact i1, VmData.noStatics_of i3.1, ⟨kq', j4⟩, by rw [hal.assignable]; exact i3.2⟩
def Qt (Z : State) (n : Nat) (h0 : Heap) (v : Option Value) (h : Heap) (L : List Loc) : Prop := v = some (.ref h0.size) ∧ L = [] ∧ Ext h0 h ∧ ∃ k vs, Arv Z h h0.size k (.object "java/lang/Object") (Int32.ofNat n) vs .null ∧ vs.length = n ∧ ∀ v ∈ vs, ∃ r, v = .ref r
set_option maxRecDepth 65536 in
set_option maxHeartbeats 40000000 in
theorem mta1 (l : Launch) (Z : State) (a0 : Array Value) (hw : ∀ d ∈ tables_1, d.before a0 Z = true) (dc bb ea : Addr) (hmm : ∃ (c : ClassId) (k : Class) (m : Addr), Z.vm.findClass "[Ljava/lang/Object;" = some c ∧ Z.vm.classes[c]? = some k ∧ k.mirror = some m) (h0 : Heap) (A : ALn Z h0 dc bb ea 1) : Wk.Met l Z (⟨"java/util/ArrayList", "toArray", "()[Ljava/lang/Object;"⟩ : MethodName) jdk_38_method_16_code 1 (some (.array (.object "java/lang/Object"))) [] { frames := 4, cells := 1, slots := 2, locals := 77 } #[.ref bb] h0 (Qt Z 1 h0) := by
  refine Wk.start pn21 ?_
  intro p e s m below meth c s₁ X0 hx hby hml hown0 hnm hret hlk hZ e0
  have hown : s.vm.findClass "java/util/ArrayList" = some m.cls := hown0
  obtain ⟨kA, vs, ⟨cs, Ar, q1, S', q3, Hs, G'⟩, hl, Ov, Xa, hE, hR⟩ : EA Z h0 ea 1 := A.2.elim (fun q => absurd q.1 (by decide)) (fun q => q.2.2)
  subst q1
  obtain ⟨cell, kx, y1, hcls, y3, -⟩ := Xa
  cases y1.symm.trans Ar.1
  obtain ⟨k9, comp, hk, hkk, hcomp⟩ := Ov
  obtain ⟨cM, kM, mir, z1, z2, hmir⟩ := hmm
  cases hcls.symm.trans z1
  cases hk.symm.trans z2
  obtain ⟨cAR, hAR⟩ := found_init (hw _ (List.mem_of_getElem? (i := 157) rfl))
  have hsz : cs.slots.size = 10 := S'.trans (by decide)
  have H' : ∀ i, i < 10 → ∃ v, cs.slots[i]? = some v ∧ Ev Z h0 v := fun i hi => ⟨_, Hs i (by rw [hsz]; exact hi), by
    have : vs.getD i .null = vs[i]'(by omega) := by simp [List.getD, show i < vs.length from by omega]
    rw [this]; exact hE _ (List.getElem_mem _)⟩
  refine Wk.enter (g' := (mkF m 0 #[.val (.ref bb)] [])) (by first | rfl | (simp [entryFrame, mkF, argsToLocals, Value.category, maxLocals]; done)) ?_
  refine Wk.aloadN X0 hx (hb hby d21_0) rfl rfl rfl ?_
  refine Wk.getF (host := "") X0 hx hZ hown (Or.inl (hw _ (List.mem_of_getElem? (i := 24) rfl))) e0 A.1.2.1 (hb hby d21_1) rfl (fun T21 X21 e21 => ?_)
  refine Wk.aloadN X21 hx (hb hby d21_4) rfl rfl rfl ?_
  refine Wk.getF (host := "") X21 hx hZ hown (Or.inl (hw _ (List.mem_of_getElem? (i := 61) rfl))) e21 A.1.2.2.1 (hb hby d21_5) rfl (fun T22 X22 e22 => ?_)
  refine Wk.callSB (W := 0) X22 hx hZ (argsL := [.ref ea, .int (Int32.ofNat 1)]) (rest := []) hown (hw _ (List.mem_of_getElem? (i := 155) rfl)) (hw _ (List.mem_of_getElem? (i := 156) rfl)) (hw _ (List.mem_of_getElem? (i := 157) rfl)) (hw _ (List.mem_of_getElem? (i := 158) rfl)) (by decide) (Jvm.Free.CopyOfC.Copy2.pays 2 (⟨ea, cs, Int32.ofNat 1, mir, cs.cls, comp, cAR⟩ : Jvm.Free.CopyOfC.Copy3.G) (tab2 hw hZ) (by decide) (by decide)) (by rw [hml]; rfl) (lenOf pd22 rfl) rfl (Nat.le_of_eq rfl) (hb hby d21_8) rfl (fun vm1 hW1 => ?_) (fun vm1 T1 v1 L1 k1 n1 X1 hP1 => ?_)
  · exact ⟨by show 0 + 1 ≤ 1; decide, by show 0 + 2 ≤ 2; decide, rfl, cpP hw (hZ.alike.trans hW1.alike) e22 Ar hcls hk hkk hcomp hmir hAR hsz H' (by decide) (by decide), notFace_of_selects (args := #[]) (mvT (State.Warmed39.trans (t := s) hZ hW1.wide) (hw _ (List.mem_of_getElem? (i := 162) rfl))), rfl⟩
  obtain ⟨hv1, hc1, hL1, hk1, hs1, hold⟩ := hP1
  have eh : (T22.setVm vm1).heap = h0 := e22
  dsimp only [Pt.U, Pt.locs, Pt.cells, Pt.slots] at hv1 hc1 hL1 hk1 hs1 hold
  rw [eh] at hv1 hc1 hold
  subst hv1 hL1 hk1 hs1
  show Wk.Go p e below _ _ _ _ T1 (mkF m 11 #[.val (.ref bb)] [(.ref h0.size)])
  have hmn : Jvm.Free.CopyOfC.Copy3.mn (⟨ea, cs, Int32.ofNat 1, mir, cs.cls, comp, cAR⟩ : Jvm.Free.CopyOfC.Copy3.G) = Int32.ofNat 1 := if_pos (by show Int32.ofNat 1 < cs.slots.size.toInt32; rw [hsz]; decide)
  rw [hmn] at hc1
  obtain ⟨cf1, cf2, cf3⟩ := SB.copied_facts cs (Jvm.Free.CopyOfC.Copy3.fresh (⟨ea, cs, Int32.ofNat 1, mir, cs.cls, comp, cAR⟩ : Jvm.Free.CopyOfC.Copy3.G)) 0 0 (Int32.ofNat 1)
  have hat := fun j => Jvm.Free.Str.copied_at2 (cs := cs) (cd := Jvm.Free.CopyOfC.Copy3.fresh (⟨ea, cs, Int32.ofNat 1, mir, cs.cls, comp, cAR⟩ : Jvm.Free.CopyOfC.Copy3.G)) (o := 0) (p := 0) (n := 1) (by decide) (by decide) (by decide) (by show 0 + 1 ≤ (Array.replicate _ _).size; rw [Array.size_replicate]; show 0 + 1 ≤ (Int32.ofNat 1).toNatClampNeg; decide) j
  have hsz9 : (copied cs (Jvm.Free.CopyOfC.Copy3.fresh (⟨ea, cs, Int32.ofNat 1, mir, cs.cls, comp, cAR⟩ : Jvm.Free.CopyOfC.Copy3.G)) 0 0 (Int32.ofNat 1)).slots.size = 1 := cf3.trans (by show (Array.replicate _ _).size = _; rw [Array.size_replicate]; show (Int32.ofNat 1).toNatClampNeg = 1; decide)
  have hr0 := hR 0 (by decide)
  obtain ⟨r0, hr0⟩ := hr0
  have hs0 : cs.slots.getD 0 .null = .ref r0 := by have hh9 := Hs 0 (by rw [hsz]; decide); rw [Array.getD_eq_getD_getElem?, hh9]; simp [List.getD, hr0]
  have hAv : Arv Z T1.heap h0.size cs.cls (.object "java/lang/Object") (Int32.ofNat 1) [.ref r0] .null := by
    refine ⟨_, ⟨hc1, ⟨(fun q => by rw [cf2]; show VmData.none ≠ _; exact (fun z => nomatch z)), k9, by rw [cf1]; exact hk, comp, hkk⟩, by rw [cf2]; show VmData.none ≠ _; exact (fun q => nomatch q)⟩, cf1, hsz9.trans (by decide), by decide, fun j hj => ?_, fun j hj => ?_⟩
    · rw [hsz9] at hj
      rw [show (0 : Int32) = Int32.ofNat 0 from rfl, hat j, if_pos ⟨Nat.zero_le _, by omega⟩]
      rcases (show j = 0 by omega) with rfl
      show some (cs.slots.getD (0 + (0 - 0)) .null) = _; rw [show 0 + (0 - 0) = 0 from rfl, hs0]; rfl
    · rw [hsz9] at hj
      rcases (show j = 0 by omega) with rfl <;> rfl
  exact Wk.retA X1 hx hlk hret rfl rfl (hb hby d21_11) (by decide) (by decide) ⟨rfl, rfl, ⟨by have := (Array.getElem?_eq_some_iff.mp hc1).1; exact Nat.le_of_lt this, hold⟩, cs.cls, _, hAv, rfl, by simp⟩
set_option maxRecDepth 65536 in
set_option maxHeartbeats 40000000 in
theorem mta2 (l : Launch) (Z : State) (a0 : Array Value) (hw : ∀ d ∈ tables_1, d.before a0 Z = true) (dc bb ea : Addr) (hmm : ∃ (c : ClassId) (k : Class) (m : Addr), Z.vm.findClass "[Ljava/lang/Object;" = some c ∧ Z.vm.classes[c]? = some k ∧ k.mirror = some m) (h0 : Heap) (A : ALn Z h0 dc bb ea 2) : Wk.Met l Z (⟨"java/util/ArrayList", "toArray", "()[Ljava/lang/Object;"⟩ : MethodName) jdk_38_method_16_code 1 (some (.array (.object "java/lang/Object"))) [] { frames := 4, cells := 1, slots := 2, locals := 77 } #[.ref bb] h0 (Qt Z 2 h0) := by
  refine Wk.start pn21 ?_
  intro p e s m below meth c s₁ X0 hx hby hml hown0 hnm hret hlk hZ e0
  have hown : s.vm.findClass "java/util/ArrayList" = some m.cls := hown0
  obtain ⟨kA, vs, ⟨cs, Ar, q1, S', q3, Hs, G'⟩, hl, Ov, Xa, hE, hR⟩ : EA Z h0 ea 2 := A.2.elim (fun q => absurd q.1 (by decide)) (fun q => q.2.2)
  subst q1
  obtain ⟨cell, kx, y1, hcls, y3, -⟩ := Xa
  cases y1.symm.trans Ar.1
  obtain ⟨k9, comp, hk, hkk, hcomp⟩ := Ov
  obtain ⟨cM, kM, mir, z1, z2, hmir⟩ := hmm
  cases hcls.symm.trans z1
  cases hk.symm.trans z2
  obtain ⟨cAR, hAR⟩ := found_init (hw _ (List.mem_of_getElem? (i := 157) rfl))
  have hsz : cs.slots.size = 10 := S'.trans (by decide)
  have H' : ∀ i, i < 10 → ∃ v, cs.slots[i]? = some v ∧ Ev Z h0 v := fun i hi => ⟨_, Hs i (by rw [hsz]; exact hi), by
    have : vs.getD i .null = vs[i]'(by omega) := by simp [List.getD, show i < vs.length from by omega]
    rw [this]; exact hE _ (List.getElem_mem _)⟩
  refine Wk.enter (g' := (mkF m 0 #[.val (.ref bb)] [])) (by first | rfl | (simp [entryFrame, mkF, argsToLocals, Value.category, maxLocals]; done)) ?_
  refine Wk.aloadN X0 hx (hb hby d21_0) rfl rfl rfl ?_
  refine Wk.getF (host := "") X0 hx hZ hown (Or.inl (hw _ (List.mem_of_getElem? (i := 24) rfl))) e0 A.1.2.1 (hb hby d21_1) rfl (fun T21 X21 e21 => ?_)
  refine Wk.aloadN X21 hx (hb hby d21_4) rfl rfl rfl ?_
  refine Wk.getF (host := "") X21 hx hZ hown (Or.inl (hw _ (List.mem_of_getElem? (i := 61) rfl))) e21 A.1.2.2.1 (hb hby d21_5) rfl (fun T22 X22 e22 => ?_)
  refine Wk.callSB (W := 0) X22 hx hZ (argsL := [.ref ea, .int (Int32.ofNat 2)]) (rest := []) hown (hw _ (List.mem_of_getElem? (i := 155) rfl)) (hw _ (List.mem_of_getElem? (i := 156) rfl)) (hw _ (List.mem_of_getElem? (i := 157) rfl)) (hw _ (List.mem_of_getElem? (i := 158) rfl)) (by decide) (Jvm.Free.CopyOfC.Copy2.pays 2 (⟨ea, cs, Int32.ofNat 2, mir, cs.cls, comp, cAR⟩ : Jvm.Free.CopyOfC.Copy3.G) (tab2 hw hZ) (by decide) (by decide)) (by rw [hml]; rfl) (lenOf pd22 rfl) rfl (Nat.le_of_eq rfl) (hb hby d21_8) rfl (fun vm1 hW1 => ?_) (fun vm1 T1 v1 L1 k1 n1 X1 hP1 => ?_)
  · exact ⟨by show 0 + 1 ≤ 1; decide, by show 0 + 2 ≤ 2; decide, rfl, cpP hw (hZ.alike.trans hW1.alike) e22 Ar hcls hk hkk hcomp hmir hAR hsz H' (by decide) (by decide), notFace_of_selects (args := #[]) (mvT (State.Warmed39.trans (t := s) hZ hW1.wide) (hw _ (List.mem_of_getElem? (i := 162) rfl))), rfl⟩
  obtain ⟨hv1, hc1, hL1, hk1, hs1, hold⟩ := hP1
  have eh : (T22.setVm vm1).heap = h0 := e22
  dsimp only [Pt.U, Pt.locs, Pt.cells, Pt.slots] at hv1 hc1 hL1 hk1 hs1 hold
  rw [eh] at hv1 hc1 hold
  subst hv1 hL1 hk1 hs1
  show Wk.Go p e below _ _ _ _ T1 (mkF m 11 #[.val (.ref bb)] [(.ref h0.size)])
  have hmn : Jvm.Free.CopyOfC.Copy3.mn (⟨ea, cs, Int32.ofNat 2, mir, cs.cls, comp, cAR⟩ : Jvm.Free.CopyOfC.Copy3.G) = Int32.ofNat 2 := if_pos (by show Int32.ofNat 2 < cs.slots.size.toInt32; rw [hsz]; decide)
  rw [hmn] at hc1
  obtain ⟨cf1, cf2, cf3⟩ := SB.copied_facts cs (Jvm.Free.CopyOfC.Copy3.fresh (⟨ea, cs, Int32.ofNat 2, mir, cs.cls, comp, cAR⟩ : Jvm.Free.CopyOfC.Copy3.G)) 0 0 (Int32.ofNat 2)
  have hat := fun j => Jvm.Free.Str.copied_at2 (cs := cs) (cd := Jvm.Free.CopyOfC.Copy3.fresh (⟨ea, cs, Int32.ofNat 2, mir, cs.cls, comp, cAR⟩ : Jvm.Free.CopyOfC.Copy3.G)) (o := 0) (p := 0) (n := 2) (by decide) (by decide) (by decide) (by show 0 + 2 ≤ (Array.replicate _ _).size; rw [Array.size_replicate]; show 0 + 2 ≤ (Int32.ofNat 2).toNatClampNeg; decide) j
  have hsz9 : (copied cs (Jvm.Free.CopyOfC.Copy3.fresh (⟨ea, cs, Int32.ofNat 2, mir, cs.cls, comp, cAR⟩ : Jvm.Free.CopyOfC.Copy3.G)) 0 0 (Int32.ofNat 2)).slots.size = 2 := cf3.trans (by show (Array.replicate _ _).size = _; rw [Array.size_replicate]; show (Int32.ofNat 2).toNatClampNeg = 2; decide)
  have hr0 := hR 0 (by decide)
  have hr1 := hR 1 (by decide)
  obtain ⟨r0, hr0⟩ := hr0
  have hs0 : cs.slots.getD 0 .null = .ref r0 := by have hh9 := Hs 0 (by rw [hsz]; decide); rw [Array.getD_eq_getD_getElem?, hh9]; simp [List.getD, hr0]
  obtain ⟨r1, hr1⟩ := hr1
  have hs1 : cs.slots.getD 1 .null = .ref r1 := by have hh9 := Hs 1 (by rw [hsz]; decide); rw [Array.getD_eq_getD_getElem?, hh9]; simp [List.getD, hr1]
  have hAv : Arv Z T1.heap h0.size cs.cls (.object "java/lang/Object") (Int32.ofNat 2) [.ref r0, .ref r1] .null := by
    refine ⟨_, ⟨hc1, ⟨(fun q => by rw [cf2]; show VmData.none ≠ _; exact (fun z => nomatch z)), k9, by rw [cf1]; exact hk, comp, hkk⟩, by rw [cf2]; show VmData.none ≠ _; exact (fun q => nomatch q)⟩, cf1, hsz9.trans (by decide), by decide, fun j hj => ?_, fun j hj => ?_⟩
    · rw [hsz9] at hj
      rw [show (0 : Int32) = Int32.ofNat 0 from rfl, hat j, if_pos ⟨Nat.zero_le _, by omega⟩]
      rcases (show j = 0 ∨ j = 1 by omega) with rfl | rfl
      · show some (cs.slots.getD (0 + (0 - 0)) .null) = _; rw [show 0 + (0 - 0) = 0 from rfl, hs0]; rfl
      · show some (cs.slots.getD (0 + (1 - 0)) .null) = _; rw [show 0 + (1 - 0) = 1 from rfl, hs1]; rfl
    · rw [hsz9] at hj
      rcases (show j = 0 ∨ j = 1 by omega) with rfl | rfl <;> rfl
  exact Wk.retA X1 hx hlk hret rfl rfl (hb hby d21_11) (by decide) (by decide) ⟨rfl, rfl, ⟨by have := (Array.getElem?_eq_some_iff.mp hc1).1; exact Nat.le_of_lt this, hold⟩, cs.cls, _, hAv, rfl, by simp⟩
theorem noL12 {a0 : Array Value} {Z : State} (hw : ∀ d ∈ tables_1, d.before a0 Z = true) : ∃ c t, Z.vm.findClass "java/util/ArrayList" = some c ∧ Z.vm.findClass "java/util/ImmutableCollections$List12" = some t ∧ Z.vm.assignable c t = false := by
  obtain ⟨t, ht⟩ := found_init (hw _ (List.mem_of_getElem? (i := 182) rfl))
  exact Wk.no_inst (hw _ (List.mem_of_getElem? (i := 47) rfl)) (NS.step (hw _ (List.mem_of_getElem? (i := 47) rfl)) (NS.step (hw _ (List.mem_of_getElem? (i := 48) rfl)) (NS.step (hw _ (List.mem_of_getElem? (i := 49) rfl)) (Wk.ns_root (hw _ (List.mem_of_getElem? (i := 50) rfl)) ht (by decide)) (by decide)) (by decide)) (by decide)) (by decide) (hw _ (List.mem_of_getElem? (i := 213) rfl)) rfl
theorem noLN {a0 : Array Value} {Z : State} (hw : ∀ d ∈ tables_1, d.before a0 Z = true) : ∃ c t, Z.vm.findClass "java/util/ArrayList" = some c ∧ Z.vm.findClass "java/util/ImmutableCollections$ListN" = some t ∧ Z.vm.assignable c t = false := by
  obtain ⟨t, ht⟩ := found_init (hw _ (List.mem_of_getElem? (i := 118) rfl))
  exact Wk.no_inst (hw _ (List.mem_of_getElem? (i := 47) rfl)) (NS.step (hw _ (List.mem_of_getElem? (i := 47) rfl)) (NS.step (hw _ (List.mem_of_getElem? (i := 48) rfl)) (NS.step (hw _ (List.mem_of_getElem? (i := 49) rfl)) (Wk.ns_root (hw _ (List.mem_of_getElem? (i := 50) rfl)) ht (by decide)) (by decide)) (by decide)) (by decide)) (by decide) (hw _ (List.mem_of_getElem? (i := 113) rfl)) rfl
theorem len2 {vs : List Value} (h : vs.length = 2) : ∃ a b', vs = [a, b'] := by
  match vs, h with
  | [a, b'], _ => exact ⟨a, b', rfl⟩
theorem len1 {vs : List Value} (h : vs.length = 1) : ∃ a, vs = [a] := by
  match vs, h with
  | [a], _ => exact ⟨a, rfl⟩
def Qe (Z : State) (el : Addr) (n : Nat) (h0 : Heap) (n0 : Nat) (v : Option Value) (h : Heap) (L : List Loc) : Prop := ∃ r, v = some (.ref r) ∧ Fr n0 L ∧ Ext h0 h ∧ LE Z h el r n
set_option maxRecDepth 65536 in
set_option maxHeartbeats 40000000 in
theorem mlc0 (l : Launch) (Z : State) (a0 : Array Value) (hw : ∀ d ∈ tables_1, d.before a0 Z = true) (dc el ee em p1 p2 p3 ka nn : Addr) (kd ke : ClassId) (bb ea : Addr) (hmm : ∃ (c : ClassId) (k : Class) (m : Addr), Z.vm.findClass "[Ljava/lang/Object;" = some c ∧ Z.vm.classes[c]? = some k ∧ k.mirror = some m) (n0 : Nat) (h0 : Heap) (hn0 : n0 ≤ h0.size) (hnz : Z.heap.size ≤ h0.size) (A : ALn Z h0 dc bb ea 0) (J : JS Z Z.heap dc el ee em p1 p2 p3 ka nn kd ke) (EZ : Ext Z.heap h0) : Wk.Met l Z (⟨"java/util/ImmutableCollections", "listCopy", "(Ljava/util/Collection;)Ljava/util/List;"⟩ : MethodName) jdk_56_method_3_code 2 (some (.object "java/util/List")) [] { frames := 6, cells := 2, slots := 4, locals := 89 } #[(.ref bb)] h0 (Qe Z el 0 h0 n0) := by
  refine Wk.start pn8 ?_
  intro p e s m below meth c s₁ X0 hx hby hml hown0 hnm hret hlk hZ e0
  have hown : s.vm.findClass "java/util/ImmutableCollections" = some m.cls := hown0
  refine Wk.enter (g' := (mkF m 0 #[.val (.ref bb), .unset] [])) (by first | rfl | (simp [entryFrame, mkF, argsToLocals, Value.category, maxLocals]; done) | (simp [entryFrame, mkF, argsToLocals, hcat]; done) | (simp [entryFrame, mkF, argsToLocals, hcat]; rfl)) ?_
  refine Wk.aloadN X0 hx (hb hby d8_0) rfl rfl rfl ?_
  refine Wk.instNoR X0 hx hZ hown (hw _ (List.mem_of_getElem? (i := 46) rfl)) e0 A.1.1 (noL12 hw) (hb hby d8_1) rfl (fun T1 X1 e1 => ?_)
  refine Wk.if_ne X1 hx 26 7 (hb hby d8_4) rfl rfl (show ((0 : Int32) : Int32).toInt = 0 from (by decide)) (fun h21 => absurd h21 (by omega)) (fun h21 => ?_)
  refine Wk.aloadN X1 hx (hb hby d8_7) rfl rfl rfl ?_
  refine Wk.instNoR X1 hx hZ hown (hw _ (List.mem_of_getElem? (i := 51) rfl)) e1 A.1.1 (noLN hw) (hb hby d8_8) rfl (fun T2 X2 e2 => ?_)
  refine Wk.if_eq X2 hx 31 14 (hb hby d8_11) rfl rfl (show ((0 : Int32) : Int32).toInt = 0 from (by decide)) (fun h22 => ?_) (fun h22 => absurd h22 (by omega))
  refine Wk.aloadN X2 hx (hb hby d8_31) rfl rfl rfl ?_
  refine Wk.callF (W := 0) X2 hx hZ (argsL := []) (rest := []) hown (hw _ (List.mem_of_getElem? (i := 52) rfl)) (hw _ (List.mem_of_getElem? (i := 53) rfl)) (hw _ (List.mem_of_getElem? (i := 54) rfl)) rfl (hw _ (List.mem_of_getElem? (i := 55) rfl)) (hw _ (List.mem_of_getElem? (i := 56) rfl)) (hw _ (List.mem_of_getElem? (i := 57) rfl)) (hw _ (List.mem_of_getElem? (i := 58) rfl)) (hw _ (List.mem_of_getElem? (i := 59) rfl)) (hw _ (List.mem_of_getElem? (i := 2) rfl)) (hw _ (List.mem_of_getElem? (i := 60) rfl)) (by decide) (mie l Z a0 hw bb ea 0 (by decide) h0 A.1) e2 (A.1.1) (by decide) (by decide) (by decide) (by decide) (by rw [hml]; rfl) (lenOf pd9 rfl) rfl (Nat.le_of_eq rfl) (hb hby d8_32) rfl (fun T3 v3 L3 X3 hq3 => ?_)
  obtain ⟨rfl, rfl, hh3⟩ := hq3
  rw [List.append_nil] at X3
  show Wk.Go p e below _ _ _ _ T3 (mkF m 37 #[.val (.ref bb), .unset] [(.int (Wk.b (0 = 0)))])
  refine Wk.if_eqB X3 hx 44 40 (hb hby d8_37) rfl rfl (fun h23 => absurd h23 (by exact fun q => q rfl)) (fun h23 => ?_)
  refine Wk.callP (W := 0) X3 hx hZ (argsL := []) (rest := []) hown (hw _ (List.mem_of_getElem? (i := 63) rfl)) (hw _ (List.mem_of_getElem? (i := 64) rfl)) (hw _ (List.mem_of_getElem? (i := 40) rfl)) (hw _ (List.mem_of_getElem? (i := 65) rfl)) (by decide) (mof0 l Z a0 hw dc el ee em p1 p2 p3 ka nn kd ke h0 J EZ) hh3 (by decide) (by decide) (by decide) (by decide) (by rw [hml]; rfl) (lenOf pd10 rfl) rfl (Nat.le_of_eq rfl) (hb hby d8_40) rfl (fun T24 X24 e24 => ?_)
  exact Wk.retA X24 hx hlk hret rfl rfl (hb hby d8_43) (by decide) (by decide) (by rw [e24]; exact ⟨_, rfl, Fr.nil n0, Wk.ext_refl _, Or.inl ⟨rfl, rfl⟩⟩)
set_option maxRecDepth 65536 in
set_option maxHeartbeats 40000000 in
theorem mlc1 (l : Launch) (Z : State) (a0 : Array Value) (hw : ∀ d ∈ tables_1, d.before a0 Z = true) (dc el ee em p1 p2 p3 ka nn : Addr) (kd ke : ClassId) (bb ea : Addr) (hmm : ∃ (c : ClassId) (k : Class) (m : Addr), Z.vm.findClass "[Ljava/lang/Object;" = some c ∧ Z.vm.classes[c]? = some k ∧ k.mirror = some m) (n0 : Nat) (h0 : Heap) (hn0 : n0 ≤ h0.size) (hnz : Z.heap.size ≤ h0.size) (A : ALn Z h0 dc bb ea 1) (J : JS Z Z.heap dc el ee em p1 p2 p3 ka nn kd ke) (EZ : Ext Z.heap h0) : Wk.Met l Z (⟨"java/util/ImmutableCollections", "listCopy", "(Ljava/util/Collection;)Ljava/util/List;"⟩ : MethodName) jdk_56_method_3_code 2 (some (.object "java/util/List")) [] { frames := 6, cells := 2, slots := 4, locals := 89 } #[(.ref bb)] h0 (Qe Z el 1 h0 n0) := by
  refine Wk.start pn8 ?_
  intro p e s m below meth c s₁ X0 hx hby hml hown0 hnm hret hlk hZ e0
  have hown : s.vm.findClass "java/util/ImmutableCollections" = some m.cls := hown0
  refine Wk.enter (g' := (mkF m 0 #[.val (.ref bb), .unset] [])) (by first | rfl | (simp [entryFrame, mkF, argsToLocals, Value.category, maxLocals]; done) | (simp [entryFrame, mkF, argsToLocals, hcat]; done) | (simp [entryFrame, mkF, argsToLocals, hcat]; rfl)) ?_
  refine Wk.aloadN X0 hx (hb hby d8_0) rfl rfl rfl ?_
  refine Wk.instNoR X0 hx hZ hown (hw _ (List.mem_of_getElem? (i := 46) rfl)) e0 A.1.1 (noL12 hw) (hb hby d8_1) rfl (fun T1 X1 e1 => ?_)
  refine Wk.if_ne X1 hx 26 7 (hb hby d8_4) rfl rfl (show ((0 : Int32) : Int32).toInt = 0 from (by decide)) (fun h21 => absurd h21 (by omega)) (fun h21 => ?_)
  refine Wk.aloadN X1 hx (hb hby d8_7) rfl rfl rfl ?_
  refine Wk.instNoR X1 hx hZ hown (hw _ (List.mem_of_getElem? (i := 51) rfl)) e1 A.1.1 (noLN hw) (hb hby d8_8) rfl (fun T2 X2 e2 => ?_)
  refine Wk.if_eq X2 hx 31 14 (hb hby d8_11) rfl rfl (show ((0 : Int32) : Int32).toInt = 0 from (by decide)) (fun h22 => ?_) (fun h22 => absurd h22 (by omega))
  refine Wk.aloadN X2 hx (hb hby d8_31) rfl rfl rfl ?_
  refine Wk.callF (W := 0) X2 hx hZ (argsL := []) (rest := []) hown (hw _ (List.mem_of_getElem? (i := 52) rfl)) (hw _ (List.mem_of_getElem? (i := 53) rfl)) (hw _ (List.mem_of_getElem? (i := 54) rfl)) rfl (hw _ (List.mem_of_getElem? (i := 55) rfl)) (hw _ (List.mem_of_getElem? (i := 56) rfl)) (hw _ (List.mem_of_getElem? (i := 57) rfl)) (hw _ (List.mem_of_getElem? (i := 58) rfl)) (hw _ (List.mem_of_getElem? (i := 59) rfl)) (hw _ (List.mem_of_getElem? (i := 2) rfl)) (hw _ (List.mem_of_getElem? (i := 60) rfl)) (by decide) (mie l Z a0 hw bb ea 1 (by decide) h0 A.1) e2 (A.1.1) (by decide) (by decide) (by decide) (by decide) (by rw [hml]; rfl) (lenOf pd9 rfl) rfl (Nat.le_of_eq rfl) (hb hby d8_32) rfl (fun T3 v3 L3 X3 hq3 => ?_)
  obtain ⟨rfl, rfl, hh3⟩ := hq3
  rw [List.append_nil] at X3
  show Wk.Go p e below _ _ _ _ T3 (mkF m 37 #[.val (.ref bb), .unset] [(.int (Wk.b (1 = 0)))])
  refine Wk.if_eqB X3 hx 44 40 (hb hby d8_37) rfl rfl (fun h23 => ?_) (fun h23 => absurd h23 (by decide))
  refine Wk.aloadN X3 hx (hb hby d8_44) rfl rfl rfl ?_
  refine Wk.callF (W := 0) X3 hx hZ (argsL := []) (rest := []) hown (hw _ (List.mem_of_getElem? (i := 147) rfl)) (hw _ (List.mem_of_getElem? (i := 148) rfl)) (hw _ (List.mem_of_getElem? (i := 149) rfl)) rfl (hw _ (List.mem_of_getElem? (i := 150) rfl)) (hw _ (List.mem_of_getElem? (i := 151) rfl)) (hw _ (List.mem_of_getElem? (i := 152) rfl)) (hw _ (List.mem_of_getElem? (i := 153) rfl)) (hw _ (List.mem_of_getElem? (i := 59) rfl)) (hw _ (List.mem_of_getElem? (i := 2) rfl)) (hw _ (List.mem_of_getElem? (i := 154) rfl)) (by decide) (mta1 l Z a0 hw dc bb ea hmm h0 A) hh3 (A.1.1) (by decide) (by decide) (by decide) (by decide) (by rw [hml]; rfl) (lenOf pd21 rfl) rfl (Nat.le_of_eq rfl) (hb hby d8_45) rfl (fun T5 v5 L5 X5 hq5 => ?_)
  obtain ⟨rfl, rfl, Ex5, k', vs, Av, hl, hrf⟩ := hq5
  rw [List.append_nil] at X5
  obtain ⟨v0, rfl⟩ := len1 hl
  obtain ⟨x, rfl⟩ := hrf v0 (by simp)
  have EZ5 := Wk.ext_trans EZ Ex5
  show Wk.Go p e below _ _ _ _ T5 (mkF m 50 #[.val (.ref bb), .unset] [(.ref h0.size)])
  refine Wk.callS (W := 0) X5 hx hZ (argsL := [(.ref h0.size)]) (rest := []) hown (hw _ (List.mem_of_getElem? (i := 177) rfl)) (hw _ (List.mem_of_getElem? (i := 178) rfl)) (hw _ (List.mem_of_getElem? (i := 40) rfl)) (hw _ (List.mem_of_getElem? (i := 179) rfl)) (by decide) (mofa1 l Z a0 hw dc el ee em p1 p2 p3 ka nn kd ke h0.size x k' n0 T5.heap (Nat.le_trans hn0 Ex5.1) (Nat.le_trans hnz Ex5.1) Av J EZ5) rfl (by decide) (by decide) (by decide) (by decide) (by rw [hml]; rfl) (lenOf pd25 rfl) rfl (Nat.le_of_eq rfl) (hb hby d8_50) rfl (fun T6 v6 L6 X6 hq6 => ?_)
  obtain ⟨r, rfl, N6, Ex6, E6⟩ := hq6
  show Wk.Go p e below _ _ _ _ T6 (mkF m 53 #[.val (.ref bb), .unset] [(.ref r)])
  exact Wk.retA X6 hx hlk hret rfl rfl (hb hby d8_53) (by decide) (by decide) ⟨_, rfl, Fr.app (Fr.nil n0) N6, Wk.ext_trans Ex5 Ex6, Or.inr ⟨by decide, E6⟩⟩
set_option maxRecDepth 65536 in
set_option maxHeartbeats 40000000 in
theorem mlc2 (l : Launch) (Z : State) (a0 : Array Value) (hw : ∀ d ∈ tables_1, d.before a0 Z = true) (dc el ee em p1 p2 p3 ka nn : Addr) (kd ke : ClassId) (bb ea : Addr) (hmm : ∃ (c : ClassId) (k : Class) (m : Addr), Z.vm.findClass "[Ljava/lang/Object;" = some c ∧ Z.vm.classes[c]? = some k ∧ k.mirror = some m) (n0 : Nat) (h0 : Heap) (hn0 : n0 ≤ h0.size) (hnz : Z.heap.size ≤ h0.size) (A : ALn Z h0 dc bb ea 2) (J : JS Z Z.heap dc el ee em p1 p2 p3 ka nn kd ke) (EZ : Ext Z.heap h0) : Wk.Met l Z (⟨"java/util/ImmutableCollections", "listCopy", "(Ljava/util/Collection;)Ljava/util/List;"⟩ : MethodName) jdk_56_method_3_code 2 (some (.object "java/util/List")) [] { frames := 6, cells := 2, slots := 4, locals := 89 } #[(.ref bb)] h0 (Qe Z el 2 h0 n0) := by
  refine Wk.start pn8 ?_
  intro p e s m below meth c s₁ X0 hx hby hml hown0 hnm hret hlk hZ e0
  have hown : s.vm.findClass "java/util/ImmutableCollections" = some m.cls := hown0
  refine Wk.enter (g' := (mkF m 0 #[.val (.ref bb), .unset] [])) (by first | rfl | (simp [entryFrame, mkF, argsToLocals, Value.category, maxLocals]; done) | (simp [entryFrame, mkF, argsToLocals, hcat]; done) | (simp [entryFrame, mkF, argsToLocals, hcat]; rfl)) ?_
  refine Wk.aloadN X0 hx (hb hby d8_0) rfl rfl rfl ?_
  refine Wk.instNoR X0 hx hZ hown (hw _ (List.mem_of_getElem? (i := 46) rfl)) e0 A.1.1 (noL12 hw) (hb hby d8_1) rfl (fun T1 X1 e1 => ?_)
  refine Wk.if_ne X1 hx 26 7 (hb hby d8_4) rfl rfl (show ((0 : Int32) : Int32).toInt = 0 from (by decide)) (fun h21 => absurd h21 (by omega)) (fun h21 => ?_)
  refine Wk.aloadN X1 hx (hb hby d8_7) rfl rfl rfl ?_
  refine Wk.instNoR X1 hx hZ hown (hw _ (List.mem_of_getElem? (i := 51) rfl)) e1 A.1.1 (noLN hw) (hb hby d8_8) rfl (fun T2 X2 e2 => ?_)
  refine Wk.if_eq X2 hx 31 14 (hb hby d8_11) rfl rfl (show ((0 : Int32) : Int32).toInt = 0 from (by decide)) (fun h22 => ?_) (fun h22 => absurd h22 (by omega))
  refine Wk.aloadN X2 hx (hb hby d8_31) rfl rfl rfl ?_
  refine Wk.callF (W := 0) X2 hx hZ (argsL := []) (rest := []) hown (hw _ (List.mem_of_getElem? (i := 52) rfl)) (hw _ (List.mem_of_getElem? (i := 53) rfl)) (hw _ (List.mem_of_getElem? (i := 54) rfl)) rfl (hw _ (List.mem_of_getElem? (i := 55) rfl)) (hw _ (List.mem_of_getElem? (i := 56) rfl)) (hw _ (List.mem_of_getElem? (i := 57) rfl)) (hw _ (List.mem_of_getElem? (i := 58) rfl)) (hw _ (List.mem_of_getElem? (i := 59) rfl)) (hw _ (List.mem_of_getElem? (i := 2) rfl)) (hw _ (List.mem_of_getElem? (i := 60) rfl)) (by decide) (mie l Z a0 hw bb ea 2 (by decide) h0 A.1) e2 (A.1.1) (by decide) (by decide) (by decide) (by decide) (by rw [hml]; rfl) (lenOf pd9 rfl) rfl (Nat.le_of_eq rfl) (hb hby d8_32) rfl (fun T3 v3 L3 X3 hq3 => ?_)
  obtain ⟨rfl, rfl, hh3⟩ := hq3
  rw [List.append_nil] at X3
  show Wk.Go p e below _ _ _ _ T3 (mkF m 37 #[.val (.ref bb), .unset] [(.int (Wk.b (2 = 0)))])
  refine Wk.if_eqB X3 hx 44 40 (hb hby d8_37) rfl rfl (fun h23 => ?_) (fun h23 => absurd h23 (by decide))
  refine Wk.aloadN X3 hx (hb hby d8_44) rfl rfl rfl ?_
  refine Wk.callF (W := 0) X3 hx hZ (argsL := []) (rest := []) hown (hw _ (List.mem_of_getElem? (i := 147) rfl)) (hw _ (List.mem_of_getElem? (i := 148) rfl)) (hw _ (List.mem_of_getElem? (i := 149) rfl)) rfl (hw _ (List.mem_of_getElem? (i := 150) rfl)) (hw _ (List.mem_of_getElem? (i := 151) rfl)) (hw _ (List.mem_of_getElem? (i := 152) rfl)) (hw _ (List.mem_of_getElem? (i := 153) rfl)) (hw _ (List.mem_of_getElem? (i := 59) rfl)) (hw _ (List.mem_of_getElem? (i := 2) rfl)) (hw _ (List.mem_of_getElem? (i := 154) rfl)) (by decide) (mta2 l Z a0 hw dc bb ea hmm h0 A) hh3 (A.1.1) (by decide) (by decide) (by decide) (by decide) (by rw [hml]; rfl) (lenOf pd21 rfl) rfl (Nat.le_of_eq rfl) (hb hby d8_45) rfl (fun T5 v5 L5 X5 hq5 => ?_)
  obtain ⟨rfl, rfl, Ex5, k', vs, Av, hl, hrf⟩ := hq5
  rw [List.append_nil] at X5
  obtain ⟨v0, v1, rfl⟩ := len2 hl
  obtain ⟨x, rfl⟩ := hrf v0 (by simp)
  obtain ⟨y, rfl⟩ := hrf v1 (by simp)
  have EZ5 := Wk.ext_trans EZ Ex5
  show Wk.Go p e below _ _ _ _ T5 (mkF m 50 #[.val (.ref bb), .unset] [(.ref h0.size)])
  refine Wk.callS (W := 0) X5 hx hZ (argsL := [(.ref h0.size)]) (rest := []) hown (hw _ (List.mem_of_getElem? (i := 177) rfl)) (hw _ (List.mem_of_getElem? (i := 178) rfl)) (hw _ (List.mem_of_getElem? (i := 40) rfl)) (hw _ (List.mem_of_getElem? (i := 179) rfl)) (by decide) (mofa2 l Z a0 hw dc el ee em p1 p2 p3 ka nn kd ke h0.size x y k' n0 T5.heap (Nat.le_trans hn0 Ex5.1) (Nat.le_trans hnz Ex5.1) Av J EZ5) rfl (by decide) (by decide) (by decide) (by decide) (by rw [hml]; rfl) (lenOf pd25 rfl) rfl (Nat.le_of_eq rfl) (hb hby d8_50) rfl (fun T6 v6 L6 X6 hq6 => ?_)
  obtain ⟨r, rfl, N6, Ex6, E6⟩ := hq6
  show Wk.Go p e below _ _ _ _ T6 (mkF m 53 #[.val (.ref bb), .unset] [(.ref r)])
  exact Wk.retA X6 hx hlk hret rfl rfl (hb hby d8_53) (by decide) (by decide) ⟨_, rfl, Fr.app (Fr.nil n0) N6, Wk.ext_trans Ex5 Ex6, Or.inr ⟨by decide, E6⟩⟩
theorem mlc (l : Launch) (Z : State) (a0 : Array Value) (hw : ∀ d ∈ tables_1, d.before a0 Z = true) (dc el ee em p1 p2 p3 ka nn : Addr) (kd ke : ClassId) (bb ea : Addr) (hmm : ∃ (c : ClassId) (k : Class) (m : Addr), Z.vm.findClass "[Ljava/lang/Object;" = some c ∧ Z.vm.classes[c]? = some k ∧ k.mirror = some m) (n0 : Nat) (n : Nat) (hn : n ≤ 2) (h0 : Heap) (hn0 : n0 ≤ h0.size) (hnz : Z.heap.size ≤ h0.size) (A : ALn Z h0 dc bb ea n) (J : JS Z Z.heap dc el ee em p1 p2 p3 ka nn kd ke) (EZ : Ext Z.heap h0) : Wk.Met l Z (⟨"java/util/ImmutableCollections", "listCopy", "(Ljava/util/Collection;)Ljava/util/List;"⟩ : MethodName) jdk_56_method_3_code 2 (some (.object "java/util/List")) [] { frames := 6, cells := 2, slots := 4, locals := 89 } #[.ref bb] h0 (Qe Z el n h0 n0) := by
  match n, hn, A with
  | 0, _, A => exact mlc0 l Z a0 hw dc el ee em p1 p2 p3 ka nn kd ke bb ea hmm n0 h0 hn0 hnz A J EZ
  | 1, _, A => exact mlc1 l Z a0 hw dc el ee em p1 p2 p3 ka nn kd ke bb ea hmm n0 h0 hn0 hnz A J EZ
  | 2, _, A => exact mlc2 l Z a0 hw dc el ee em p1 p2 p3 ka nn kd ke bb ea hmm n0 h0 hn0 hnz A J EZ
  | k + 3, hn, _ => omega
set_option maxRecDepth 65536 in
set_option maxHeartbeats 40000000 in
theorem mco (l : Launch) (Z : State) (a0 : Array Value) (hw : ∀ d ∈ tables_1, d.before a0 Z = true) (dc el ee em p1 p2 p3 ka nn : Addr) (kd ke : ClassId) (bb ea : Addr) (hmm : ∃ (c : ClassId) (k : Class) (m : Addr), Z.vm.findClass "[Ljava/lang/Object;" = some c ∧ Z.vm.classes[c]? = some k ∧ k.mirror = some m) (n0 : Nat) (n : Nat) (hn : n ≤ 2) (h0 : Heap) (hn0 : n0 ≤ h0.size) (hnz : Z.heap.size ≤ h0.size) (A : ALn Z h0 dc bb ea n) (J : JS Z Z.heap dc el ee em p1 p2 p3 ka nn kd ke) (EZ : Ext Z.heap h0) : Wk.Met l Z (⟨"java/util/List", "copyOf", "(Ljava/util/Collection;)Ljava/util/List;"⟩ : MethodName) jdk_40_method_48_code 1 (some (.object "java/util/List")) [] { frames := 7, cells := 2, slots := 4, locals := 102 } #[(.ref bb)] h0 (Qe Z el n h0 n0) := by
  refine Wk.start pn7 ?_
  intro p e s m below meth c s₁ X0 hx hby hml hown0 hnm hret hlk hZ e0
  have hown : s.vm.findClass "java/util/List" = some m.cls := hown0
  refine Wk.enter (g' := (mkF m 0 #[.val (.ref bb)] [])) (by first | rfl | (simp [entryFrame, mkF, argsToLocals, Value.category, maxLocals]; done) | (simp [entryFrame, mkF, argsToLocals, hcat]; done) | (simp [entryFrame, mkF, argsToLocals, hcat]; rfl)) ?_
  refine Wk.aloadN X0 hx (hb hby d7_0) rfl rfl rfl ?_
  refine Wk.callS (W := 0) X0 hx hZ (argsL := [(.ref bb)]) (rest := []) hown (hw _ (List.mem_of_getElem? (i := 42) rfl)) (hw _ (List.mem_of_getElem? (i := 43) rfl)) (hw _ (List.mem_of_getElem? (i := 44) rfl)) (hw _ (List.mem_of_getElem? (i := 45) rfl)) (by decide) (mlc l Z a0 hw dc el ee em p1 p2 p3 ka nn kd ke bb ea hmm n0 n hn h0 hn0 hnz A J EZ) e0 (by decide) (by decide) (by decide) (by decide) (by rw [hml]; rfl) (lenOf pd8 rfl) rfl (Nat.le_of_eq rfl) (hb hby d7_1) rfl (fun T5 v5 L5 X5 hq5 => ?_)
  obtain ⟨r, rfl, N5, Ex5, E5⟩ := hq5
  show Wk.Go p e below _ _ _ _ T5 (mkF m 4 #[.val (.ref bb)] [(.ref r)])
  exact Wk.retA X5 hx hlk hret rfl rfl (hb hby d7_4) (by decide) (by decide) ⟨_, rfl, Fr.app (Fr.nil n0) N5, Ex5, E5⟩
def Fcr (Z : State) (h : Heap) (el a : Addr) (san : Int32) (n k : Nat) : Prop := Exa Z h a "com/example/seepline/seepline/model/CallRules" ∧ ∃ s1 s2, Fld Z h a "com/example/seepline/seepline/model/CallRules" "sourcePositions" "Ljava/util/List;" (.ref s1) ∧ Fld Z h a "com/example/seepline/seepline/model/CallRules" "sanitizer" "Z" (.int san) ∧ Fld Z h a "com/example/seepline/seepline/model/CallRules" "sinkPositions" "Ljava/util/List;" (.ref s2) ∧ LE Z h el s1 n ∧ LE Z h el s2 k
theorem Fcr.keep {Z : State} {h h' : Heap} {el a : Addr} {san : Int32} {n k : Nat} {ws : List Addr} (F : Fcr Z h el a san n k) (Kp : Keep h h' ws) (q : a ∉ ws) : Fcr Z h' el a san n k := by
  obtain ⟨h1, s1, s2, f1, f2, f3, l1, l2⟩ := F
  exact ⟨h1.keep Kp, s1, s2, f1.keep Kp q, f2.keep Kp q, f3.keep Kp q, l1.keep Kp, l2.keep Kp⟩
def Qcr (Z : State) (el a : Addr) (san : Int32) (n k : Nat) (h0 : Heap) (n0 : Nat) (v : Option Value) (h : Heap) (L : List Loc) : Prop := v = none ∧ Fr n0 L ∧ Keep h0 h [a] ∧ Fcr Z h el a san n k
set_option maxRecDepth 65536 in
set_option maxHeartbeats 40000000 in
theorem mcri (l : Launch) (Z : State) (a0 : Array Value) (hw : ∀ d ∈ tables_1, d.before a0 Z = true) (dc el ee em p1 p2 p3 ka nn : Addr) (kd ke : ClassId) (a b1 e1 b2 e2 : Addr) (san : Int32) (hsan : san = 0 ∨ san = 1) (n k : Nat) (hn : n ≤ 2) (hk : k ≤ 2) (hmm : ∃ (c : ClassId) (k : Class) (m : Addr), Z.vm.findClass "[Ljava/lang/Object;" = some c ∧ Z.vm.classes[c]? = some k ∧ k.mirror = some m) (n0 : Nat) (hna : n0 ≤ a) (h0 : Heap) (hn0 : n0 ≤ h0.size) (hnz : Z.heap.size ≤ h0.size) (E : Exa Z h0 a "com/example/seepline/seepline/model/CallRules") (F0 : Wk.FldE Z h0 a "com/example/seepline/seepline/model/CallRules" "sourcePositions" "Ljava/util/List;") (F1 : Wk.FldE Z h0 a "com/example/seepline/seepline/model/CallRules" "sanitizer" "Z") (F2 : Wk.FldE Z h0 a "com/example/seepline/seepline/model/CallRules" "sinkPositions" "Ljava/util/List;") (A1 : ALn Z h0 dc b1 e1 n) (A2 : ALn Z h0 dc b2 e2 k) (J : JS Z Z.heap dc el ee em p1 p2 p3 ka nn kd ke) (EZ : Ext Z.heap h0) : Wk.Met l Z (⟨"com/example/seepline/seepline/model/CallRules", "<init>", "(Ljava/util/List;ZLjava/util/List;)V"⟩ : MethodName) prog_6_method_1_code 4 none [] { frames := 8, cells := 4, slots := 8, locals := 114 } #[(.ref a), (.ref b1), (.int san), (.ref b2)] h0 (Qcr Z el a san n k h0 n0) := by
  refine Wk.start pn5 ?_
  intro p e s m below meth c s₁ X0 hx hby hml hown0 hnm hret hlk hZ e0
  have hown : s.vm.findClass "com/example/seepline/seepline/model/CallRules" = some m.cls := hown0
  refine Wk.enter (g' := (mkF m 0 #[.val (.ref a), .val (.ref b1), .val (.int san), .val (.ref b2)] [])) (by first | rfl | (simp [entryFrame, mkF, argsToLocals, Value.category, maxLocals]; done) | (simp [entryFrame, mkF, argsToLocals, hcat]; done) | (simp [entryFrame, mkF, argsToLocals, hcat]; rfl)) ?_
  refine Wk.aloadN X0 hx (hb hby d5_0) rfl rfl rfl ?_
  refine Wk.callI (W := 0) X0 hx hZ (argsL := []) (rest := []) rfl hown (hw _ (List.mem_of_getElem? (i := 32) rfl)) (hw _ (List.mem_of_getElem? (i := 33) rfl)) (hw _ (List.mem_of_getElem? (i := 35) rfl)) (hw _ (List.mem_of_getElem? (i := 36) rfl)) (by decide) (mrec l Z a0 hw a h0) e0 (by decide) (by decide) (by decide) (by decide) (by rw [hml]; rfl) (lenOf pd6 rfl) rfl (Nat.le_of_eq rfl) (hb hby d5_1) rfl (fun T1 v1 L1 X1 hq1 => ?_)
  obtain ⟨rfl, rfl, hh1⟩ := hq1
  rw [List.append_nil] at X1
  show Wk.Go p e below _ _ _ _ T1 (mkF m 4 #[.val (.ref a), .val (.ref b1), .val (.int san), .val (.ref b2)] [])
  refine Wk.aloadN X1 hx (hb hby d5_4) rfl rfl rfl ?_
  refine Wk.callS (W := 0) X1 hx hZ (argsL := [(.ref b1)]) (rest := []) hown (hw _ (List.mem_of_getElem? (i := 38) rfl)) (hw _ (List.mem_of_getElem? (i := 39) rfl)) (hw _ (List.mem_of_getElem? (i := 40) rfl)) (hw _ (List.mem_of_getElem? (i := 41) rfl)) (by decide) (mco l Z a0 hw dc el ee em p1 p2 p3 ka nn kd ke b1 e1 hmm n0 n hn h0 hn0 hnz A1 J EZ) hh1 (by decide) (by decide) (by decide) (by decide) (by rw [hml]; rfl) (lenOf pd7 rfl) rfl (Nat.le_of_eq rfl) (hb hby d5_5) rfl (fun T5 v5 L5 X5 hq5 => ?_)
  obtain ⟨s1, rfl, N5, Ex5, E5⟩ := hq5
  have EZ5 := Wk.ext_trans EZ Ex5
  show Wk.Go p e below _ _ _ _ T5 (mkF m 8 #[.val (.ref a), .val (.ref b1), .val (.int san), .val (.ref b2)] [(.ref s1)])
  refine Wk.astoreN (l' := #[.val (.ref a), .val (.ref s1), .val (.int san), .val (.ref b2)]) X5 hx (hb hby d5_8) rfl rfl rfl ?_
  refine Wk.aloadN X5 hx (hb hby d5_9) rfl rfl rfl ?_
  refine Wk.callS (W := 0) X5 hx hZ (argsL := [(.ref b2)]) (rest := []) hown (hw _ (List.mem_of_getElem? (i := 38) rfl)) (hw _ (List.mem_of_getElem? (i := 39) rfl)) (hw _ (List.mem_of_getElem? (i := 40) rfl)) (hw _ (List.mem_of_getElem? (i := 41) rfl)) (by decide) (mco l Z a0 hw dc el ee em p1 p2 p3 ka nn kd ke b2 e2 hmm n0 k hk T5.heap (Nat.le_trans hn0 Ex5.1) (Nat.le_trans hnz Ex5.1) (A2.ext Ex5) J EZ5) rfl (by decide) (by decide) (by decide) (by decide) (by rw [hml]; rfl) (lenOf pd7 rfl) rfl (Nat.le_of_eq rfl) (hb hby d5_10) rfl (fun T6 v6 L6 X6 hq6 => ?_)
  obtain ⟨s2, rfl, N6, Ex6, E6⟩ := hq6
  have EX := Wk.ext_trans Ex5 Ex6
  have E0 := E.ext EX
  obtain ⟨o0, Fo0⟩ := F0.ext EX
  obtain ⟨o1, Fo1⟩ := F1.ext EX
  obtain ⟨o2, Fo2⟩ := F2.ext EX
  have N0 := Fr.app (Fr.app (Fr.nil n0) N5) N6
  have K0 := (Keep.refl h0 [a]).ext EX
  have LA := E5.keep (Wk.keep_of_ext Ex6)
  show Wk.Go p e below _ _ _ _ T6 (mkF m 13 #[.val (.ref a), .val (.ref s1), .val (.int san), .val (.ref b2)] [(.ref s2)])
  refine Wk.astoreN (l' := #[.val (.ref a), .val (.ref s1), .val (.int san), .val (.ref s2)]) X6 hx (hb hby d5_13) rfl rfl rfl ?_
  refine Wk.aloadN X6 hx (hb hby d5_14) rfl rfl rfl ?_
  refine Wk.aloadN X6 hx (hb hby d5_15) rfl rfl rfl ?_
  refine Wk.putF (host := "") (ty := (.object "java/util/List")) X6 hx hZ hown (Or.inl (hw _ (List.mem_of_getElem? (i := 67) rfl))) rfl Fo0 E0 (Or.inr ⟨(hw _ (List.mem_of_getElem? (i := 68) rfl)), rfl, hnm⟩) (hw _ (List.mem_of_getElem? (i := 27) rfl)) (by decide) rfl rfl (hb hby d5_16) rfl (fun T11 h11 X11 e11 W11 => ?_)
  have G110 := Fo0.same W11
  have G111 := Fo1.other W11 (Or.inr (slot_ne (t := .boolean) (t' := (.object "java/util/List")) (Or.inr (hw _ (List.mem_of_getElem? (i := 70) rfl))) (Or.inr (hw _ (List.mem_of_getElem? (i := 68) rfl))) (by decide) (by decide) (by decide)))
  have G112 := Fo2.other W11 (Or.inr (slot_ne (t := (.object "java/util/List")) (t' := (.object "java/util/List")) (Or.inr (hw _ (List.mem_of_getElem? (i := 72) rfl))) (Or.inr (hw _ (List.mem_of_getElem? (i := 68) rfl))) (by decide) (by decide) (by decide)))
  have E11 := E0.wr W11
  have N11 := Fr.snoc X11 N0 hna
  have K11 := K0.wr W11 (Or.inl (List.mem_singleton.mpr rfl))
  refine Wk.aloadN X11 hx (hb hby d5_19) rfl rfl rfl ?_
  refine Wk.iloadN X11 hx (hb hby d5_20) rfl rfl ?_
  refine Wk.putF (host := "") (ty := .boolean) X11 hx hZ hown (Or.inl (hw _ (List.mem_of_getElem? (i := 69) rfl))) e11 G111 E11 (Or.inr ⟨(hw _ (List.mem_of_getElem? (i := 70) rfl)), rfl, hnm⟩) (hw _ (List.mem_of_getElem? (i := 27) rfl)) (by decide) (by rcases hsan with rfl | rfl <;> rfl) (by rcases hsan with rfl | rfl <;> rfl) (hb hby d5_21) rfl (fun T12 h12 X12 e12 W12 => ?_)
  have G120 := G110.other W12 (Or.inr (slot_ne (t := (.object "java/util/List")) (t' := .boolean) (Or.inr (hw _ (List.mem_of_getElem? (i := 68) rfl))) (Or.inr (hw _ (List.mem_of_getElem? (i := 70) rfl))) (by decide) (by decide) (by decide)))
  have G121 := G111.same W12
  have G122 := G112.other W12 (Or.inr (slot_ne (t := (.object "java/util/List")) (t' := .boolean) (Or.inr (hw _ (List.mem_of_getElem? (i := 72) rfl))) (Or.inr (hw _ (List.mem_of_getElem? (i := 70) rfl))) (by decide) (by decide) (by decide)))
  have E12 := E11.wr W12
  have N12 := Fr.snoc X12 N11 hna
  have K12 := K11.wr W12 (Or.inl (List.mem_singleton.mpr rfl))
  refine Wk.aloadN X12 hx (hb hby d5_24) rfl rfl rfl ?_
  refine Wk.aloadN X12 hx (hb hby d5_25) rfl rfl rfl ?_
  refine Wk.putF (host := "") (ty := (.object "java/util/List")) X12 hx hZ hown (Or.inl (hw _ (List.mem_of_getElem? (i := 71) rfl))) e12 G122 E12 (Or.inr ⟨(hw _ (List.mem_of_getElem? (i := 72) rfl)), rfl, hnm⟩) (hw _ (List.mem_of_getElem? (i := 27) rfl)) (by decide) rfl rfl (hb hby d5_26) rfl (fun T13 h13 X13 e13 W13 => ?_)
  have G130 := G120.other W13 (Or.inr (slot_ne (t := (.object "java/util/List")) (t' := (.object "java/util/List")) (Or.inr (hw _ (List.mem_of_getElem? (i := 68) rfl))) (Or.inr (hw _ (List.mem_of_getElem? (i := 72) rfl))) (by decide) (by decide) (by decide)))
  have G131 := G121.other W13 (Or.inr (slot_ne (t := .boolean) (t' := (.object "java/util/List")) (Or.inr (hw _ (List.mem_of_getElem? (i := 70) rfl))) (Or.inr (hw _ (List.mem_of_getElem? (i := 72) rfl))) (by decide) (by decide) (by decide)))
  have G132 := G122.same W13
  have E13 := E12.wr W13
  have N13 := Fr.snoc X13 N12 hna
  have K13 := K12.wr W13 (Or.inl (List.mem_singleton.mpr rfl))
  exact Wk.retV X13 hx hlk hret (hb hby d5_29) (by decide) (by decide) (by rw [e13]; exact ⟨rfl, N13, K13, E13, s1, s2, G130, G131, G132, LA.keep (((Keep.of_wr W11).trans (ws := [a]) (Keep.of_wr W12) (fun x q => Or.inl q)).trans (Keep.of_wr W13) (fun x q => Or.inl q)), E6.keep (((Keep.of_wr W11).trans (ws := [a]) (Keep.of_wr W12) (fun x q => Or.inl q)).trans (Keep.of_wr W13) (fun x q => Or.inl q))⟩)
set_option maxRecDepth 65536 in
set_option maxHeartbeats 40000000 in
theorem mce00 (l : Launch) (Z : State) (a0 : Array Value) (hw : ∀ d ∈ tables_1, d.before a0 Z = true) (dc el ee em p1 p2 p3 ka nn : Addr) (kd ke : ClassId) (a : Addr) (san : Int32) (n k : Nat) (h0 : Heap) (F1 : Fld Z h0 a "com/example/seepline/seepline/model/CallRules" "sourcePositions" "Ljava/util/List;" (.ref el)) (F2 : Fld Z h0 a "com/example/seepline/seepline/model/CallRules" "sanitizer" "Z" (.int san)) (F3 : Fld Z h0 a "com/example/seepline/seepline/model/CallRules" "sinkPositions" "Ljava/util/List;" (.ref el)) (Q1 : n = 0) (Q2 : k = 0) (J : JS Z Z.heap dc el ee em p1 p2 p3 ka nn kd ke) (EZ : Ext Z.heap h0) : Wk.Met l Z (⟨"com/example/seepline/seepline/model/CallRules", "isEmpty", "()Z"⟩ : MethodName) prog_6_method_3_code 1 (some .boolean) [] { frames := 1, cells := 0, slots := 0, locals := 12 } #[(.ref a)] h0 (Wk.Pu (.int (Wk.b (n = 0 ∧ san.toInt = 0 ∧ k = 0))) h0) := by
  refine Wk.start pn16 ?_
  intro p e s m below meth c s₁ X0 hx hby hml hown0 hnm hret hlk hZ e0
  have hown : s.vm.findClass "com/example/seepline/seepline/model/CallRules" = some m.cls := hown0
  have q1 := Q1
  have q2 := Q2
  refine Wk.enter (g' := (mkF m 0 #[.val (.ref a)] [])) (by first | rfl | (simp [entryFrame, mkF, argsToLocals, Value.category, maxLocals]; done) | (simp [entryFrame, mkF, argsToLocals, hcat]; done) | (simp [entryFrame, mkF, argsToLocals, hcat]; rfl)) ?_
  refine Wk.aloadN X0 hx (hb hby d16_0) rfl rfl rfl ?_
  refine Wk.getF (host := "") X0 hx hZ hown (Or.inl (hw _ (List.mem_of_getElem? (i := 67) rfl))) e0 F1 (hb hby d16_1) rfl (fun T21 X21 e21 => ?_)
  refine Wk.callF (W := 0) X21 hx hZ (argsL := []) (rest := []) hown (hw _ (List.mem_of_getElem? (i := 110) rfl)) (hw _ (List.mem_of_getElem? (i := 111) rfl)) (hw _ (List.mem_of_getElem? (i := 112) rfl)) rfl (hw _ (List.mem_of_getElem? (i := 113) rfl)) (hw _ (List.mem_of_getElem? (i := 114) rfl)) (hw _ (List.mem_of_getElem? (i := 115) rfl)) (hw _ (List.mem_of_getElem? (i := 116) rfl)) (hw _ (List.mem_of_getElem? (i := 117) rfl)) (hw _ (List.mem_of_getElem? (i := 118) rfl)) (hw _ (List.mem_of_getElem? (i := 119) rfl)) (by decide) (mne l Z a0 hw dc el ee em p1 p2 p3 ka nn kd ke h0 J EZ) e21 (((J.ext EZ).2.2.2.1)) (by decide) (by decide) (by decide) (by decide) (by rw [hml]; rfl) (lenOf pd17 rfl) rfl (Nat.le_of_eq rfl) (hb hby d16_4) rfl (fun T4 v4 L4 X4 hq4 => ?_)
  obtain ⟨rfl, rfl, hh4⟩ := hq4
  rw [List.append_nil] at X4
  show Wk.Go p e below _ _ _ _ T4 (mkF m 9 #[.val (.ref a)] [(.int (1 : Int32))])
  refine Wk.if_eq X4 hx 35 12 (hb hby d16_9) rfl rfl (show ((1 : Int32) : Int32).toInt = 1 from (by decide)) (fun h22 => absurd h22 (by omega)) (fun h22 => ?_)
  refine Wk.aloadN X4 hx (hb hby d16_12) rfl rfl rfl ?_
  refine Wk.getF (host := "") X4 hx hZ hown (Or.inl (hw _ (List.mem_of_getElem? (i := 69) rfl))) hh4 F2 (hb hby d16_13) rfl (fun T23 X23 e23 => ?_)
  refine Wk.if_ne X23 hx 35 19 (hb hby d16_16) rfl rfl (show (san : Int32).toInt = (san).toInt from rfl) (fun h24 => ?_) (fun h24 => ?_)
  · skip
    refine Wk.iconst X23 hx (0 : Int32) (hb hby d16_35) rfl rfl ?_
    exact Wk.retZ X23 hx hlk hret (hb hby d16_36) (by decide) (Nat.zero_le _) (Nat.zero_le _) (Wk.puB0 (by omega) e23)
  · skip
    refine Wk.aloadN X23 hx (hb hby d16_19) rfl rfl rfl ?_
    refine Wk.getF (host := "") X23 hx hZ hown (Or.inl (hw _ (List.mem_of_getElem? (i := 71) rfl))) e23 F3 (hb hby d16_20) rfl (fun T25 X25 e25 => ?_)
    refine Wk.callF (W := 0) X25 hx hZ (argsL := []) (rest := []) hown (hw _ (List.mem_of_getElem? (i := 110) rfl)) (hw _ (List.mem_of_getElem? (i := 111) rfl)) (hw _ (List.mem_of_getElem? (i := 112) rfl)) rfl (hw _ (List.mem_of_getElem? (i := 113) rfl)) (hw _ (List.mem_of_getElem? (i := 114) rfl)) (hw _ (List.mem_of_getElem? (i := 115) rfl)) (hw _ (List.mem_of_getElem? (i := 116) rfl)) (hw _ (List.mem_of_getElem? (i := 117) rfl)) (hw _ (List.mem_of_getElem? (i := 118) rfl)) (hw _ (List.mem_of_getElem? (i := 119) rfl)) (by decide) (mne l Z a0 hw dc el ee em p1 p2 p3 ka nn kd ke h0 J EZ) e25 (((J.ext EZ).2.2.2.1)) (by decide) (by decide) (by decide) (by decide) (by rw [hml]; rfl) (lenOf pd17 rfl) rfl (Nat.le_of_eq rfl) (hb hby d16_23) rfl (fun T23 v23 L23 X23 hq23 => ?_)
    obtain ⟨rfl, rfl, hh23⟩ := hq23
    rw [List.append_nil] at X23
    show Wk.Go p e below _ _ _ _ T23 (mkF m 28 #[.val (.ref a)] [(.int (1 : Int32))])
    refine Wk.if_eq X23 hx 35 31 (hb hby d16_28) rfl rfl (show ((1 : Int32) : Int32).toInt = 1 from (by decide)) (fun h26 => absurd h26 (by omega)) (fun h26 => ?_)
    refine Wk.iconst X23 hx (1 : Int32) (hb hby d16_31) rfl rfl ?_
    refine Wk.goto X23 hx 36 (hb hby d16_32) rfl ?_
    exact Wk.retZ X23 hx hlk hret (hb hby d16_36) (by decide) (Nat.zero_le _) (Nat.zero_le _) (Wk.puB1 (by omega) hh23)
set_option maxRecDepth 65536 in
set_option maxHeartbeats 40000000 in
theorem mce01 (l : Launch) (Z : State) (a0 : Array Value) (hw : ∀ d ∈ tables_1, d.before a0 Z = true) (dc el ee em p1 p2 p3 ka nn : Addr) (kd ke : ClassId) (a s2 : Addr) (san : Int32) (n k : Nat) (h0 : Heap) (F1 : Fld Z h0 a "com/example/seepline/seepline/model/CallRules" "sourcePositions" "Ljava/util/List;" (.ref el)) (F2 : Fld Z h0 a "com/example/seepline/seepline/model/CallRules" "sanitizer" "Z" (.int san)) (F3 : Fld Z h0 a "com/example/seepline/seepline/model/CallRules" "sinkPositions" "Ljava/util/List;" (.ref s2)) (Q1 : n = 0) (Q2 : k ≠ 0 ∧ Exa Z h0 s2 "java/util/ImmutableCollections$List12") (J : JS Z Z.heap dc el ee em p1 p2 p3 ka nn kd ke) (EZ : Ext Z.heap h0) : Wk.Met l Z (⟨"com/example/seepline/seepline/model/CallRules", "isEmpty", "()Z"⟩ : MethodName) prog_6_method_3_code 1 (some .boolean) [] { frames := 1, cells := 0, slots := 0, locals := 12 } #[(.ref a)] h0 (Wk.Pu (.int (Wk.b (n = 0 ∧ san.toInt = 0 ∧ k = 0))) h0) := by
  refine Wk.start pn16 ?_
  intro p e s m below meth c s₁ X0 hx hby hml hown0 hnm hret hlk hZ e0
  have hown : s.vm.findClass "com/example/seepline/seepline/model/CallRules" = some m.cls := hown0
  have q1 := Q1
  have q2 := Q2.1
  refine Wk.enter (g' := (mkF m 0 #[.val (.ref a)] [])) (by first | rfl | (simp [entryFrame, mkF, argsToLocals, Value.category, maxLocals]; done) | (simp [entryFrame, mkF, argsToLocals, hcat]; done) | (simp [entryFrame, mkF, argsToLocals, hcat]; rfl)) ?_
  refine Wk.aloadN X0 hx (hb hby d16_0) rfl rfl rfl ?_
  refine Wk.getF (host := "") X0 hx hZ hown (Or.inl (hw _ (List.mem_of_getElem? (i := 67) rfl))) e0 F1 (hb hby d16_1) rfl (fun T21 X21 e21 => ?_)
  refine Wk.callF (W := 0) X21 hx hZ (argsL := []) (rest := []) hown (hw _ (List.mem_of_getElem? (i := 110) rfl)) (hw _ (List.mem_of_getElem? (i := 111) rfl)) (hw _ (List.mem_of_getElem? (i := 112) rfl)) rfl (hw _ (List.mem_of_getElem? (i := 113) rfl)) (hw _ (List.mem_of_getElem? (i := 114) rfl)) (hw _ (List.mem_of_getElem? (i := 115) rfl)) (hw _ (List.mem_of_getElem? (i := 116) rfl)) (hw _ (List.mem_of_getElem? (i := 117) rfl)) (hw _ (List.mem_of_getElem? (i := 118) rfl)) (hw _ (List.mem_of_getElem? (i := 119) rfl)) (by decide) (mne l Z a0 hw dc el ee em p1 p2 p3 ka nn kd ke h0 J EZ) e21 (((J.ext EZ).2.2.2.1)) (by decide) (by decide) (by decide) (by decide) (by rw [hml]; rfl) (lenOf pd17 rfl) rfl (Nat.le_of_eq rfl) (hb hby d16_4) rfl (fun T4 v4 L4 X4 hq4 => ?_)
  obtain ⟨rfl, rfl, hh4⟩ := hq4
  rw [List.append_nil] at X4
  show Wk.Go p e below _ _ _ _ T4 (mkF m 9 #[.val (.ref a)] [(.int (1 : Int32))])
  refine Wk.if_eq X4 hx 35 12 (hb hby d16_9) rfl rfl (show ((1 : Int32) : Int32).toInt = 1 from (by decide)) (fun h22 => absurd h22 (by omega)) (fun h22 => ?_)
  refine Wk.aloadN X4 hx (hb hby d16_12) rfl rfl rfl ?_
  refine Wk.getF (host := "") X4 hx hZ hown (Or.inl (hw _ (List.mem_of_getElem? (i := 69) rfl))) hh4 F2 (hb hby d16_13) rfl (fun T23 X23 e23 => ?_)
  refine Wk.if_ne X23 hx 35 19 (hb hby d16_16) rfl rfl (show (san : Int32).toInt = (san).toInt from rfl) (fun h24 => ?_) (fun h24 => ?_)
  · skip
    refine Wk.iconst X23 hx (0 : Int32) (hb hby d16_35) rfl rfl ?_
    exact Wk.retZ X23 hx hlk hret (hb hby d16_36) (by decide) (Nat.zero_le _) (Nat.zero_le _) (Wk.puB0 (by omega) e23)
  · skip
    refine Wk.aloadN X23 hx (hb hby d16_19) rfl rfl rfl ?_
    refine Wk.getF (host := "") X23 hx hZ hown (Or.inl (hw _ (List.mem_of_getElem? (i := 71) rfl))) e23 F3 (hb hby d16_20) rfl (fun T25 X25 e25 => ?_)
    refine Wk.callF (W := 0) X25 hx hZ (argsL := []) (rest := []) hown (hw _ (List.mem_of_getElem? (i := 110) rfl)) (hw _ (List.mem_of_getElem? (i := 111) rfl)) (hw _ (List.mem_of_getElem? (i := 112) rfl)) rfl (hw _ (List.mem_of_getElem? (i := 213) rfl)) (hw _ (List.mem_of_getElem? (i := 214) rfl)) (hw _ (List.mem_of_getElem? (i := 215) rfl)) (hw _ (List.mem_of_getElem? (i := 216) rfl)) (hw _ (List.mem_of_getElem? (i := 217) rfl)) (hw _ (List.mem_of_getElem? (i := 182) rfl)) (hw _ (List.mem_of_getElem? (i := 218) rfl)) (by decide) (m2e l Z a0 hw s2 h0) e25 (Q2.2) (by decide) (by decide) (by decide) (by decide) (by rw [hml]; rfl) (lenOf pd31 rfl) rfl (Nat.le_of_eq rfl) (hb hby d16_23) rfl (fun T23 v23 L23 X23 hq23 => ?_)
    obtain ⟨rfl, rfl, hh23⟩ := hq23
    rw [List.append_nil] at X23
    show Wk.Go p e below _ _ _ _ T23 (mkF m 28 #[.val (.ref a)] [(.int (0 : Int32))])
    refine Wk.if_eq X23 hx 35 31 (hb hby d16_28) rfl rfl (show ((0 : Int32) : Int32).toInt = 0 from (by decide)) (fun h26 => ?_) (fun h26 => absurd h26 (by omega))
    refine Wk.iconst X23 hx (0 : Int32) (hb hby d16_35) rfl rfl ?_
    exact Wk.retZ X23 hx hlk hret (hb hby d16_36) (by decide) (Nat.zero_le _) (Nat.zero_le _) (Wk.puB0 (by omega) hh23)
set_option maxRecDepth 65536 in
set_option maxHeartbeats 40000000 in
theorem mce10 (l : Launch) (Z : State) (a0 : Array Value) (hw : ∀ d ∈ tables_1, d.before a0 Z = true) (dc el ee em p1 p2 p3 ka nn : Addr) (kd ke : ClassId) (a s1 : Addr) (san : Int32) (n k : Nat) (h0 : Heap) (F1 : Fld Z h0 a "com/example/seepline/seepline/model/CallRules" "sourcePositions" "Ljava/util/List;" (.ref s1)) (F2 : Fld Z h0 a "com/example/seepline/seepline/model/CallRules" "sanitizer" "Z" (.int san)) (F3 : Fld Z h0 a "com/example/seepline/seepline/model/CallRules" "sinkPositions" "Ljava/util/List;" (.ref el)) (Q1 : n ≠ 0 ∧ Exa Z h0 s1 "java/util/ImmutableCollections$List12") (Q2 : k = 0) (J : JS Z Z.heap dc el ee em p1 p2 p3 ka nn kd ke) (EZ : Ext Z.heap h0) : Wk.Met l Z (⟨"com/example/seepline/seepline/model/CallRules", "isEmpty", "()Z"⟩ : MethodName) prog_6_method_3_code 1 (some .boolean) [] { frames := 1, cells := 0, slots := 0, locals := 12 } #[(.ref a)] h0 (Wk.Pu (.int (Wk.b (n = 0 ∧ san.toInt = 0 ∧ k = 0))) h0) := by
  refine Wk.start pn16 ?_
  intro p e s m below meth c s₁ X0 hx hby hml hown0 hnm hret hlk hZ e0
  have hown : s.vm.findClass "com/example/seepline/seepline/model/CallRules" = some m.cls := hown0
  have q1 := Q1.1
  have q2 := Q2
  refine Wk.enter (g' := (mkF m 0 #[.val (.ref a)] [])) (by first | rfl | (simp [entryFrame, mkF, argsToLocals, Value.category, maxLocals]; done) | (simp [entryFrame, mkF, argsToLocals, hcat]; done) | (simp [entryFrame, mkF, argsToLocals, hcat]; rfl)) ?_
  refine Wk.aloadN X0 hx (hb hby d16_0) rfl rfl rfl ?_
  refine Wk.getF (host := "") X0 hx hZ hown (Or.inl (hw _ (List.mem_of_getElem? (i := 67) rfl))) e0 F1 (hb hby d16_1) rfl (fun T21 X21 e21 => ?_)
  refine Wk.callF (W := 0) X21 hx hZ (argsL := []) (rest := []) hown (hw _ (List.mem_of_getElem? (i := 110) rfl)) (hw _ (List.mem_of_getElem? (i := 111) rfl)) (hw _ (List.mem_of_getElem? (i := 112) rfl)) rfl (hw _ (List.mem_of_getElem? (i := 213) rfl)) (hw _ (List.mem_of_getElem? (i := 214) rfl)) (hw _ (List.mem_of_getElem? (i := 215) rfl)) (hw _ (List.mem_of_getElem? (i := 216) rfl)) (hw _ (List.mem_of_getElem? (i := 217) rfl)) (hw _ (List.mem_of_getElem? (i := 182) rfl)) (hw _ (List.mem_of_getElem? (i := 218) rfl)) (by decide) (m2e l Z a0 hw s1 h0) e21 (Q1.2) (by decide) (by decide) (by decide) (by decide) (by rw [hml]; rfl) (lenOf pd31 rfl) rfl (Nat.le_of_eq rfl) (hb hby d16_4) rfl (fun T4 v4 L4 X4 hq4 => ?_)
  obtain ⟨rfl, rfl, hh4⟩ := hq4
  rw [List.append_nil] at X4
  show Wk.Go p e below _ _ _ _ T4 (mkF m 9 #[.val (.ref a)] [(.int (0 : Int32))])
  refine Wk.if_eq X4 hx 35 12 (hb hby d16_9) rfl rfl (show ((0 : Int32) : Int32).toInt = 0 from (by decide)) (fun h22 => ?_) (fun h22 => absurd h22 (by omega))
  refine Wk.iconst X4 hx (0 : Int32) (hb hby d16_35) rfl rfl ?_
  exact Wk.retZ X4 hx hlk hret (hb hby d16_36) (by decide) (Nat.zero_le _) (Nat.zero_le _) (Wk.puB0 (by omega) hh4)
set_option maxRecDepth 65536 in
set_option maxHeartbeats 40000000 in
theorem mce11 (l : Launch) (Z : State) (a0 : Array Value) (hw : ∀ d ∈ tables_1, d.before a0 Z = true) (dc el ee em p1 p2 p3 ka nn : Addr) (kd ke : ClassId) (a s1 s2 : Addr) (san : Int32) (n k : Nat) (h0 : Heap) (F1 : Fld Z h0 a "com/example/seepline/seepline/model/CallRules" "sourcePositions" "Ljava/util/List;" (.ref s1)) (F2 : Fld Z h0 a "com/example/seepline/seepline/model/CallRules" "sanitizer" "Z" (.int san)) (F3 : Fld Z h0 a "com/example/seepline/seepline/model/CallRules" "sinkPositions" "Ljava/util/List;" (.ref s2)) (Q1 : n ≠ 0 ∧ Exa Z h0 s1 "java/util/ImmutableCollections$List12") (Q2 : k ≠ 0 ∧ Exa Z h0 s2 "java/util/ImmutableCollections$List12") (J : JS Z Z.heap dc el ee em p1 p2 p3 ka nn kd ke) (EZ : Ext Z.heap h0) : Wk.Met l Z (⟨"com/example/seepline/seepline/model/CallRules", "isEmpty", "()Z"⟩ : MethodName) prog_6_method_3_code 1 (some .boolean) [] { frames := 1, cells := 0, slots := 0, locals := 12 } #[(.ref a)] h0 (Wk.Pu (.int (Wk.b (n = 0 ∧ san.toInt = 0 ∧ k = 0))) h0) := by
  refine Wk.start pn16 ?_
  intro p e s m below meth c s₁ X0 hx hby hml hown0 hnm hret hlk hZ e0
  have hown : s.vm.findClass "com/example/seepline/seepline/model/CallRules" = some m.cls := hown0
  have q1 := Q1.1
  have q2 := Q2.1
  refine Wk.enter (g' := (mkF m 0 #[.val (.ref a)] [])) (by first | rfl | (simp [entryFrame, mkF, argsToLocals, Value.category, maxLocals]; done) | (simp [entryFrame, mkF, argsToLocals, hcat]; done) | (simp [entryFrame, mkF, argsToLocals, hcat]; rfl)) ?_
  refine Wk.aloadN X0 hx (hb hby d16_0) rfl rfl rfl ?_
  refine Wk.getF (host := "") X0 hx hZ hown (Or.inl (hw _ (List.mem_of_getElem? (i := 67) rfl))) e0 F1 (hb hby d16_1) rfl (fun T21 X21 e21 => ?_)
  refine Wk.callF (W := 0) X21 hx hZ (argsL := []) (rest := []) hown (hw _ (List.mem_of_getElem? (i := 110) rfl)) (hw _ (List.mem_of_getElem? (i := 111) rfl)) (hw _ (List.mem_of_getElem? (i := 112) rfl)) rfl (hw _ (List.mem_of_getElem? (i := 213) rfl)) (hw _ (List.mem_of_getElem? (i := 214) rfl)) (hw _ (List.mem_of_getElem? (i := 215) rfl)) (hw _ (List.mem_of_getElem? (i := 216) rfl)) (hw _ (List.mem_of_getElem? (i := 217) rfl)) (hw _ (List.mem_of_getElem? (i := 182) rfl)) (hw _ (List.mem_of_getElem? (i := 218) rfl)) (by decide) (m2e l Z a0 hw s1 h0) e21 (Q1.2) (by decide) (by decide) (by decide) (by decide) (by rw [hml]; rfl) (lenOf pd31 rfl) rfl (Nat.le_of_eq rfl) (hb hby d16_4) rfl (fun T4 v4 L4 X4 hq4 => ?_)
  obtain ⟨rfl, rfl, hh4⟩ := hq4
  rw [List.append_nil] at X4
  show Wk.Go p e below _ _ _ _ T4 (mkF m 9 #[.val (.ref a)] [(.int (0 : Int32))])
  refine Wk.if_eq X4 hx 35 12 (hb hby d16_9) rfl rfl (show ((0 : Int32) : Int32).toInt = 0 from (by decide)) (fun h22 => ?_) (fun h22 => absurd h22 (by omega))
  refine Wk.iconst X4 hx (0 : Int32) (hb hby d16_35) rfl rfl ?_
  exact Wk.retZ X4 hx hlk hret (hb hby d16_36) (by decide) (Nat.zero_le _) (Nat.zero_le _) (Wk.puB0 (by omega) hh4)
theorem mce (l : Launch) (Z : State) (a0 : Array Value) (hw : ∀ d ∈ tables_1, d.before a0 Z = true) (dc el ee em p1 p2 p3 ka nn : Addr) (kd ke : ClassId) (a : Addr) (san : Int32) (n k : Nat) (h0 : Heap) (F : Fcr Z h0 el a san n k) (J : JS Z Z.heap dc el ee em p1 p2 p3 ka nn kd ke) (EZ : Ext Z.heap h0) : Wk.Met l Z (⟨"com/example/seepline/seepline/model/CallRules", "isEmpty", "()Z"⟩ : MethodName) prog_6_method_3_code 1 (some .boolean) [] { frames := 1, cells := 0, slots := 0, locals := 12 } #[.ref a] h0 (Wk.Pu (.int (Wk.b (n = 0 ∧ san.toInt = 0 ∧ k = 0))) h0) := by
  obtain ⟨-, s1, s2, F1, F2, F3, q1, q2⟩ := F
  rcases q1 with ⟨q1, w1⟩ | q1 <;> rcases q2 with ⟨q2, w2⟩ | q2
  · rw [w1] at F1; rw [w2] at F3; exact mce00 l Z a0 hw dc el ee em p1 p2 p3 ka nn kd ke a san n k h0 F1 F2 F3 q1 q2 J EZ
  · rw [w1] at F1; exact mce01 l Z a0 hw dc el ee em p1 p2 p3 ka nn kd ke a s2 san n k h0 F1 F2 F3 q1 q2 J EZ
  · rw [w2] at F3; exact mce10 l Z a0 hw dc el ee em p1 p2 p3 ka nn kd ke a s1 san n k h0 F1 F2 F3 q1 q2 J EZ
  · exact mce11 l Z a0 hw dc el ee em p1 p2 p3 ka nn kd ke a s1 s2 san n k h0 F1 F2 F3 q1 q2 J EZ
theorem cr_ne {a0 : Array Value} {Z : State} (hw : ∀ d ∈ tables_1, d.before a0 Z = true) {h : Heap} {dc a b' ea : Addr} {n : Nat} (E : Exa Z h a "com/example/seepline/seepline/model/CallRules") (A : ALn Z h dc b' ea (n + 1)) : a ∉ [b', ea] := by
  rcases A.2 with ⟨q, -⟩ | ⟨-, -, k, vs, q, -⟩
  · omega
  · exact ninS (Exa.ne E A.1.1 (by decide)) (ninS (Exa.neArv E q (hw _ (List.mem_of_getElem? (i := 27) rfl))) nin0)
theorem mem2 {Z : State} {h : Heap} {b' ea e0 : Addr} {n : Nat} (EZ : Ext Z.heap h) (hb : Z.heap.size ≤ b') (he : n ≠ 0 → Z.heap.size ≤ e0) (q : h.size ≤ ea ∨ ea = e0 ∧ n ≠ 0) : Z.heap.size ≤ ea := q.elim (Nat.le_trans EZ.1) (fun z => z.1 ▸ he z.2)
theorem mem2' {Z : State} {b' ea : Addr} (hb : Z.heap.size ≤ b') (he : Z.heap.size ≤ ea) : ∀ x ∈ [b', ea], Z.heap.size ≤ x := fun x q => by
  rcases List.mem_cons.mp q with rfl | q
  · exact hb
  · cases List.mem_singleton.mp q; exact he
set_option maxRecDepth 65536 in
set_option maxHeartbeats 40000000 in
theorem st3 {l : Launch} {Z : State} (a0 : Array Value) (hw : ∀ d ∈ tables_1, d.before a0 Z = true) {p : Program} {e : Env} {s : State} {m : MethodId} {args : Array Value} {below : List Frame} {meth : Method} {c : Code} (hx : p.tables.exec = Jvm.exec) (hby : c.code = code) (hml : c.maxLocals = maxLocals) (hown : s.vm.findClass "com/example/seepline/seepline/model/CallRulesIsEmptyPinLaw" = some m.cls) (hret : meth.sig.returnType = some .boolean) (hlk : meth.locks = false) (hZ : Z.Warmed39 s.vm) (dc el ee em p1 p2 p3 ka nn : Addr) (kd ke : ClassId) (hmm : ∃ (c : ClassId) (k : Class) (m : Addr), Z.vm.findClass "[Ljava/lang/Object;" = some c ∧ Z.vm.classes[c]? = some k ∧ k.mirror = some m) (J : JS Z Z.heap dc el ee em p1 p2 p3 ka nn kd ke) (q0 q1 q2 q3 q4 : Slot) (ni mi san : Int32) (hsan : san = 0 ∨ san = 1) (n k : Nat) (hn : n ≤ 2) (hk : k ≤ 2) (hni : ni.toInt = (n : Int)) (hmi : mi.toInt = (k : Int)) (b1 e1 b2 e2 : Addr) (hb1 : Z.heap.size ≤ b1) (hb2 : Z.heap.size ≤ b2) (he1 : n ≠ 0 → Z.heap.size ≤ e1) (he2 : k ≠ 0 → Z.heap.size ≤ e2) (T : State) (h : Heap) (L0 : List Loc) (X0 : Stand p l e room_1 s m args below meth c T L0 10 54) (e0 : T.heap = h) (N0 : Fr Z.heap.size L0) (EZ : Ext Z.heap h) (Tw : Two Z h dc b1 e1 n b2 e2 k) : Wk.Go p e below (FrameEnd s) (Wk.Fq (.int 1) Z.heap.size) 40 192 T (mkF m 123 #[q0, q1, q2, q3, q4, .val (.int ni), .val (.int mi), .val (.int san), .val (.ref b1), .val (.ref b2), .unset, .unset] []) := by
  refine Wk.cutF (mkF m 143 #[q0, q1, q2, q3, q4, .val (.int ni), .val (.int mi), .val (.int san), .val (.ref b1), .val (.ref b2), .unset, .unset] [(.int (Wk.b (n = 0 ∧ san.toInt = 0 ∧ k = 0)))]) (fun J41 => ?_) ?_
  · skip
    refine Wk.iload X0 hx (hb hby at_123) rfl rfl ?_
    refine Wk.if_ne X0 hx 142 128 (hb hby at_125) rfl rfl (show (ni : Int32).toInt = (ni).toInt from rfl) (fun h42 => ?_) (fun h42 => ?_)
    · skip
      refine Wk.iconst X0 hx (0 : Int32) (hb hby at_142) rfl rfl ?_
      exact Wk.goB0 J41 (by first | omega | (rintro ⟨z1, z2, z3⟩; omega))
    · skip
      refine Wk.iload X0 hx (hb hby at_128) rfl rfl ?_
      refine Wk.if_ne X0 hx 142 133 (hb hby at_130) rfl rfl (show (san : Int32).toInt = (san).toInt from rfl) (fun h43 => ?_) (fun h43 => ?_)
      · skip
        refine Wk.iconst X0 hx (0 : Int32) (hb hby at_142) rfl rfl ?_
        exact Wk.goB0 J41 (by first | omega | (rintro ⟨z1, z2, z3⟩; omega))
      · skip
        refine Wk.iload X0 hx (hb hby at_133) rfl rfl ?_
        refine Wk.if_ne X0 hx 142 138 (hb hby at_135) rfl rfl (show (mi : Int32).toInt = (mi).toInt from rfl) (fun h44 => ?_) (fun h44 => ?_)
        · skip
          refine Wk.iconst X0 hx (0 : Int32) (hb hby at_142) rfl rfl ?_
          exact Wk.goB0 J41 (by first | omega | (rintro ⟨z1, z2, z3⟩; omega))
        · skip
          refine Wk.iconst X0 hx (1 : Int32) (hb hby at_138) rfl rfl ?_
          refine Wk.goto X0 hx 143 (hb hby at_139) rfl ?_
          exact Wk.goB1 J41 (by first | omega | (rintro ⟨z1, z2, z3⟩; omega))
  skip
  refine Wk.istore (l' := #[q0, q1, q2, q3, q4, .val (.int ni), .val (.int mi), .val (.int san), .val (.ref b1), .val (.ref b2), .val (.int (Wk.b (n = 0 ∧ san.toInt = 0 ∧ k = 0))), .unset]) X0 hx (hb hby at_143) rfl rfl ?_
  refine Wk.newO X0 hx hZ hown (hw _ (List.mem_of_getElem? (i := 26) rfl)) (hw _ (List.mem_of_getElem? (i := 27) rfl)) (hw _ (List.mem_of_getElem? (i := 28) rfl)) e0 (hb hby at_145) (by decide) (by decide) rfl (fun T1 h1 X1 e1' Ex1 A1 D1 => ?_)
  have EZ1 := Wk.ext_trans EZ Ex1
  have Tw1 := Two.ext Tw Ex1
  refine Wk.dup X1 hx (hb hby at_148) rfl rfl ?_
  refine Wk.aload X1 hx (hb hby at_149) rfl rfl rfl ?_
  refine Wk.iload X1 hx (hb hby at_151) rfl rfl ?_
  refine Wk.aload X1 hx (hb hby at_153) rfl rfl rfl ?_
  refine Wk.callI (W := 1) X1 hx hZ (argsL := [(.ref b1), (.int san), (.ref b2)]) (rest := [(.ref h.size)]) rfl hown (hw _ (List.mem_of_getElem? (i := 29) rfl)) (hw _ (List.mem_of_getElem? (i := 30) rfl)) (hw _ (List.mem_of_getElem? (i := 28) rfl)) (hw _ (List.mem_of_getElem? (i := 31) rfl)) (by decide) (mcri l Z a0 hw dc el ee em p1 p2 p3 ka nn kd ke h.size b1 e1 b2 e2 san hsan n k hn hk hmm Z.heap.size EZ.1 h1 EZ1.1 EZ1.1 A1 (Wk.FldE.of (D1 (Or.inr (hw _ (List.mem_of_getElem? (i := 68) rfl))) (ty := (.object "java/util/List")) (by decide))) (Wk.FldE.of (D1 (Or.inr (hw _ (List.mem_of_getElem? (i := 70) rfl))) (ty := .boolean) (by decide))) (Wk.FldE.of (D1 (Or.inr (hw _ (List.mem_of_getElem? (i := 72) rfl))) (ty := (.object "java/util/List")) (by decide))) Tw1.1 Tw1.2.1 J EZ1) e1' (by decide) (by decide) (by decide) (by decide) (by rw [hml]; rfl) (lenOf pd5 rfl) rfl (Nat.le_of_eq rfl) (hb hby at_155) rfl (fun T2 v2 L2 X2 hq2 => ?_)
  obtain ⟨rfl, N2, K2, Fc2⟩ := hq2
  have Ex2 : Ext h T2.heap := Wk.ext_of_keep ((Wk.keep_of_ext Ex1).trans K2 (allS (Or.inr (Nat.le_refl _)) all0))
  have EZ2 := Wk.ext_trans EZ Ex2
  have Tw2 := Two.ext Tw Ex2
  have NN2 := Fr.app N0 N2
  show Wk.Go p e below _ _ _ _ T2 (mkF m 158 #[q0, q1, q2, q3, q4, .val (.int ni), .val (.int mi), .val (.int san), .val (.ref b1), .val (.ref b2), .val (.int (Wk.b (n = 0 ∧ san.toInt = 0 ∧ k = 0))), .unset] [(.ref h.size)])
  refine Wk.astore (l' := #[q0, q1, q2, q3, q4, .val (.int ni), .val (.int mi), .val (.int san), .val (.ref b1), .val (.ref b2), .val (.int (Wk.b (n = 0 ∧ san.toInt = 0 ∧ k = 0))), .val (.ref h.size)]) X2 hx (hb hby at_158) rfl rfl rfl ?_
  refine Wk.aload X2 hx (hb hby at_160) rfl rfl rfl ?_
  refine Wk.getS (host := "") X2 hx hZ hown (Or.inl (hw _ (List.mem_of_getElem? (i := 73) rfl))) rfl ((J.ext EZ2).2.2.2.2.2.2.2.2.2.2.2.1) (hb hby at_162) rfl (fun T45 X45 e45 => ?_)
  refine Wk.callV (W := 0) X45 hx hZ (argsL := [(.ref p3)]) (rest := []) hown (hw _ (List.mem_of_getElem? (i := 76) rfl)) (hw _ (List.mem_of_getElem? (i := 77) rfl)) (hw _ (List.mem_of_getElem? (i := 79) rfl)) (hw _ (List.mem_of_getElem? (i := 78) rfl)) (hw _ (List.mem_of_getElem? (i := 2) rfl)) (hw _ (List.mem_of_getElem? (i := 80) rfl)) (notFace_of_selects (args := #[]) (mvT hZ (hw _ (List.mem_of_getElem? (i := 79) rfl)))) (by decide) (madd l Z a0 hw dc el ee em p1 p2 p3 ka nn kd ke b1 Z.heap.size hb1 hb1 p3 e1 n hn he1 T2.heap EZ2.1 Tw2.1 ((J.ext EZ2).2.2.2.2.2.2.2.2.2.2.2.2.1) J EZ2) e45 (Tw2.1.1.1) (by decide) (by decide) (by decide) (by decide) (by rw [hml]; rfl) (lenOf pd11 rfl) rfl (Nat.le_of_eq rfl) (hb hby at_165) rfl (fun T46 v46 L46 X46 hq46 => ?_)
  obtain ⟨rfl, N46, D46⟩ := hq46
  obtain ⟨f46, K46, q46, Tw46'⟩ := Two.add hw Tw2 D46
  have he46 : Z.heap.size ≤ f46 := mem2 EZ2 hb1 he1 q46
  have EZ46 := Wk.extZ EZ2 K46 (mem2' hb1 he46)
  have Tw46 := Tw46'
  have NN46 := Fr.app NN2 N46
  show Wk.Go p e below _ _ _ _ T46 (mkF m 168 #[q0, q1, q2, q3, q4, .val (.int ni), .val (.int mi), .val (.int san), .val (.ref b1), .val (.ref b2), .val (.int (Wk.b (n = 0 ∧ san.toInt = 0 ∧ k = 0))), .val (.ref h.size)] [(.int (1 : Int32))])
  have Fc46 := Fcr.keep Fc2 K46 (cr_ne hw (Fc2.1.keep K46) Tw46'.1)
  show Wk.Go p e below _ _ _ _ T46 (mkF m 168 #[q0, q1, q2, q3, q4, .val (.int ni), .val (.int mi), .val (.int san), .val (.ref b1), .val (.ref b2), .val (.int (Wk.b (n = 0 ∧ san.toInt = 0 ∧ k = 0))), .val (.ref h.size)] [(.int (1 : Int32))])
  refine Wk.pop X46 hx (hb hby at_168) rfl rfl ?_
  refine Wk.aload X46 hx (hb hby at_169) rfl rfl rfl ?_
  refine Wk.getS (host := "") X46 hx hZ hown (Or.inl (hw _ (List.mem_of_getElem? (i := 73) rfl))) rfl ((J.ext EZ46).2.2.2.2.2.2.2.2.2.2.2.1) (hb hby at_171) rfl (fun T47 X47 e47 => ?_)
  refine Wk.callV (W := 0) X47 hx hZ (argsL := [(.ref p3)]) (rest := []) hown (hw _ (List.mem_of_getElem? (i := 76) rfl)) (hw _ (List.mem_of_getElem? (i := 77) rfl)) (hw _ (List.mem_of_getElem? (i := 79) rfl)) (hw _ (List.mem_of_getElem? (i := 78) rfl)) (hw _ (List.mem_of_getElem? (i := 2) rfl)) (hw _ (List.mem_of_getElem? (i := 80) rfl)) (notFace_of_selects (args := #[]) (mvT hZ (hw _ (List.mem_of_getElem? (i := 79) rfl)))) (by decide) (madd l Z a0 hw dc el ee em p1 p2 p3 ka nn kd ke b2 Z.heap.size hb2 hb2 p3 e2 k hk he2 T46.heap EZ46.1 Tw46.symm.1 ((J.ext EZ46).2.2.2.2.2.2.2.2.2.2.2.2.1) J EZ46) e47 (Tw46.symm.1.1.1) (by decide) (by decide) (by decide) (by decide) (by rw [hml]; rfl) (lenOf pd11 rfl) rfl (Nat.le_of_eq rfl) (hb hby at_174) rfl (fun T48 v48 L48 X48 hq48 => ?_)
  obtain ⟨rfl, N48, D48⟩ := hq48
  obtain ⟨f48, K48, q48, Tw48'⟩ := Two.add hw Tw46.symm D48
  have he48 : Z.heap.size ≤ f48 := mem2 EZ46 hb2 he2 q48
  have EZ48 := Wk.extZ EZ46 K48 (mem2' hb2 he48)
  have Tw48 := Tw48'.symm
  have NN48 := Fr.app NN46 N48
  show Wk.Go p e below _ _ _ _ T48 (mkF m 177 #[q0, q1, q2, q3, q4, .val (.int ni), .val (.int mi), .val (.int san), .val (.ref b1), .val (.ref b2), .val (.int (Wk.b (n = 0 ∧ san.toInt = 0 ∧ k = 0))), .val (.ref h.size)] [(.int (1 : Int32))])
  have Fc48 := Fcr.keep Fc46 K48 (cr_ne hw (Fc46.1.keep K48) Tw48'.1)
  show Wk.Go p e below _ _ _ _ T48 (mkF m 177 #[q0, q1, q2, q3, q4, .val (.int ni), .val (.int mi), .val (.int san), .val (.ref b1), .val (.ref b2), .val (.int (Wk.b (n = 0 ∧ san.toInt = 0 ∧ k = 0))), .val (.ref h.size)] [(.int (1 : Int32))])
  refine Wk.pop X48 hx (hb hby at_177) rfl rfl ?_
  refine Wk.aload X48 hx (hb hby at_178) rfl rfl rfl ?_
  refine Wk.callVP (W := 0) X48 hx hZ (argsL := []) (rest := []) hown (hw _ (List.mem_of_getElem? (i := 105) rfl)) (hw _ (List.mem_of_getElem? (i := 106) rfl)) (hw _ (List.mem_of_getElem? (i := 108) rfl)) (hw _ (List.mem_of_getElem? (i := 107) rfl)) (hw _ (List.mem_of_getElem? (i := 28) rfl)) (hw _ (List.mem_of_getElem? (i := 109) rfl)) (notFace_of_selects (args := #[]) (mvT hZ (hw _ (List.mem_of_getElem? (i := 108) rfl)))) (by decide) (mce l Z a0 hw dc el ee em p1 p2 p3 ka nn kd ke h.size san n k T48.heap Fc48 J EZ48) rfl Fc48.1 (by decide) (by decide) (by decide) (by decide) (by rw [hml]; rfl) (lenOf pd16 rfl) rfl (Nat.le_of_eq rfl) (hb hby at_180) rfl (fun T49 X49 e49 => ?_)
  refine Wk.iload X49 hx (hb hby at_183) rfl rfl ?_
  refine Wk.icmp_neB X49 hx 201 188 (hb hby at_185) rfl rfl (fun h50 => absurd h50 (by exact fun q => q Iff.rfl)) (fun h50 => ?_)
  refine Wk.getS (host := "") X49 hx hZ hown (Or.inl (hw _ (List.mem_of_getElem? (i := 122) rfl))) e49 ((J.ext EZ48).2.2.2.2.2.2.2.2.2.2.2.2.2.2.1) (hb hby at_188) rfl (fun T51 X51 e51 => ?_)
  have Jn := J.ext EZ48
  have Fn : Fcr Z T48.heap el nn 0 0 0 := ⟨(Jn.2.2.2.2.2.2.2.2.2.2.2.2.2.2.2.1), el, el, (Jn.2.2.2.2.2.2.2.2.2.2.2.2.2.2.2.2.1), (Jn.2.2.2.2.2.2.2.2.2.2.2.2.2.2.2.2.2.1), (Jn.2.2.2.2.2.2.2.2.2.2.2.2.2.2.2.2.2.2), Or.inl ⟨rfl, rfl⟩, Or.inl ⟨rfl, rfl⟩⟩
  refine Wk.callVP (W := 0) X51 hx hZ (argsL := []) (rest := []) hown (hw _ (List.mem_of_getElem? (i := 105) rfl)) (hw _ (List.mem_of_getElem? (i := 106) rfl)) (hw _ (List.mem_of_getElem? (i := 108) rfl)) (hw _ (List.mem_of_getElem? (i := 107) rfl)) (hw _ (List.mem_of_getElem? (i := 28) rfl)) (hw _ (List.mem_of_getElem? (i := 109) rfl)) (notFace_of_selects (args := #[]) (mvT hZ (hw _ (List.mem_of_getElem? (i := 108) rfl)))) (by decide) (mce l Z a0 hw dc el ee em p1 p2 p3 ka nn kd ke nn 0 0 0 T48.heap Fn J EZ48) e51 Fn.1 (by decide) (by decide) (by decide) (by decide) (by rw [hml]; rfl) (lenOf pd16 rfl) rfl (Nat.le_of_eq rfl) (hb hby at_191) rfl (fun T52 X52 e52 => ?_)
  refine Wk.if_eqB X52 hx 201 197 (hb hby at_194) rfl rfl (fun h53 => absurd h53 (by exact fun q => q ⟨rfl, rfl, rfl⟩)) (fun h53 => ?_)
  refine Wk.iconst X52 hx (1 : Int32) (hb hby at_197) rfl rfl ?_
  refine Wk.goto X52 hx 202 (hb hby at_198) rfl ?_
  exact Wk.retZ X52 hx hlk hret (hb hby at_202) (by decide) (by decide) (by decide) ⟨rfl, NN48⟩
set_option maxRecDepth 65536 in
set_option maxHeartbeats 40000000 in
theorem st2 {l : Launch} {Z : State} (a0 : Array Value) (hw : ∀ d ∈ tables_1, d.before a0 Z = true) {p : Program} {e : Env} {s : State} {m : MethodId} {args : Array Value} {below : List Frame} {meth : Method} {c : Code} (hx : p.tables.exec = Jvm.exec) (hby : c.code = code) (hml : c.maxLocals = maxLocals) (hown : s.vm.findClass "com/example/seepline/seepline/model/CallRulesIsEmptyPinLaw" = some m.cls) (hret : meth.sig.returnType = some .boolean) (hlk : meth.locks = false) (hZ : Z.Warmed39 s.vm) (dc el ee em p1 p2 p3 ka nn : Addr) (kd ke : ClassId) (hmm : ∃ (c : ClassId) (k : Class) (m : Addr), Z.vm.findClass "[Ljava/lang/Object;" = some c ∧ Z.vm.classes[c]? = some k ∧ k.mirror = some m) (J : JS Z Z.heap dc el ee em p1 p2 p3 ka nn kd ke) (q0 q2 : Slot) (i1 i3 i4 ni mi san : Int32) (hsan : san = 0 ∨ san = 1) (n : Nat) (hn : n ≤ 2) (hni : ni.toInt = (n : Int)) (hmi1 : 0 ≤ mi.toInt) (hmi2 : mi.toInt ≤ 2) (b1 e1 b2 e2 : Addr) (hb1 : Z.heap.size ≤ b1) (hb2 : Z.heap.size ≤ b2) (he1 : n ≠ 0 → Z.heap.size ≤ e1) (T : State) (h : Heap) (L0 : List Loc) (X0 : Stand p l e room_1 s m args below meth c T L0 6 30) (e0 : T.heap = h) (N0 : Fr Z.heap.size L0) (EZ : Ext Z.heap h) (Tw : Two Z h dc b1 e1 n b2 e2 0) : Wk.Go p e below (FrameEnd s) (Wk.Fq (.int 1) Z.heap.size) 40 192 T (mkF m 84 #[q0, .val (.int i1), q2, .val (.int i3), .val (.int i4), .val (.int ni), .val (.int mi), .val (.int san), .val (.ref b1), .val (.ref b2), .unset, .unset] []) := by
  refine Wk.iload X0 hx (hb hby at_84) rfl rfl ?_
  refine Wk.iconst X0 hx (1 : Int32) (hb hby at_86) rfl rfl ?_
  refine Wk.icmp_lt X0 hx 104 90 (hb hby at_87) rfl rfl (show (mi : Int32).toInt = (mi).toInt from rfl) (show ((1 : Int32) : Int32).toInt = 1 from (by decide)) (fun h41 => ?_) (fun h41 => ?_)
  · skip
    refine Wk.iload X0 hx (hb hby at_104) rfl rfl ?_
    refine Wk.iconst X0 hx (2 : Int32) (hb hby at_106) rfl rfl ?_
    refine Wk.icmp_lt X0 hx 123 110 (hb hby at_107) rfl rfl (show (mi : Int32).toInt = (mi).toInt from rfl) (show ((2 : Int32) : Int32).toInt = 2 from (by decide)) (fun h42 => ?_) (fun h42 => absurd h42 (by omega))
    have X9 := X0.mono (cells' := 10) (slots' := 54) (by decide) (by decide)
    exact st3 a0 hw hx hby hml hown hret hlk hZ dc el ee em p1 p2 p3 ka nn kd ke hmm J _ _ _ _ _ ni mi san hsan n 0 hn (by decide) hni (by show mi.toInt = (0 : Int); omega) b1 e1 b2 e2 hb1 hb2 he1 (fun q => absurd rfl q) T h _ X9 e0 N0 EZ Tw
  · skip
    refine Wk.aload X0 hx (hb hby at_90) rfl rfl rfl ?_
    refine Wk.iloadN X0 hx (hb hby at_92) rfl rfl ?_
    refine Wk.iconst X0 hx (2 : Int32) (hb hby at_93) rfl rfl ?_
    refine Wk.iushr X0 hx (hb hby at_94) rfl ?_
    refine Wk.iload X0 hx (hb hby at_95) rfl rfl ?_
    refine Wk.callS (W := 1) X0 hx hZ (argsL := [(.int (XT.ushr i1 (2 : Int32))), (.int i4)]) (rest := [(.ref b2)]) hown (hw _ (List.mem_of_getElem? (i := 124) rfl)) (hw _ (List.mem_of_getElem? (i := 125) rfl)) (hw _ (List.mem_of_getElem? (i := 126) rfl)) (hw _ (List.mem_of_getElem? (i := 127) rfl)) (by decide) (mpos l Z a0 hw dc el ee em p1 p2 p3 ka nn kd ke (XT.ushr i1 (2 : Int32)) i4 Z.heap.size h EZ.1 J EZ) e0 (by decide) (by decide) (by decide) (by decide) (by rw [hml]; rfl) (lenOf pd18 rfl) rfl (Nat.le_of_eq rfl) (hb hby at_97) rfl (fun T43 v43 L43 X43 hq43 => ?_)
    obtain ⟨r43, rfl, N43, Ex43, Er43⟩ := hq43
    have EZ43 := Wk.ext_trans EZ Ex43
    have Tw43 := Two.ext Tw Ex43
    have NN43 := Fr.app N0 N43
    show Wk.Go p e below _ _ _ _ T43 (mkF m 100 #[q0, .val (.int i1), q2, .val (.int i3), .val (.int i4), .val (.int ni), .val (.int mi), .val (.int san), .val (.ref b1), .val (.ref b2), .unset, .unset] [(.ref r43), (.ref b2)])
    refine Wk.callV (W := 0) X43 hx hZ (argsL := [(.ref r43)]) (rest := []) hown (hw _ (List.mem_of_getElem? (i := 76) rfl)) (hw _ (List.mem_of_getElem? (i := 77) rfl)) (hw _ (List.mem_of_getElem? (i := 79) rfl)) (hw _ (List.mem_of_getElem? (i := 78) rfl)) (hw _ (List.mem_of_getElem? (i := 2) rfl)) (hw _ (List.mem_of_getElem? (i := 80) rfl)) (notFace_of_selects (args := #[]) (mvT hZ (hw _ (List.mem_of_getElem? (i := 79) rfl)))) (by decide) (madd l Z a0 hw dc el ee em p1 p2 p3 ka nn kd ke b2 Z.heap.size hb2 hb2 r43 e2 0 (by decide) (fun q => absurd rfl q) T43.heap EZ43.1 Tw43.symm.1 Er43 J EZ43) rfl (Tw43.symm.1.1.1) (by decide) (by decide) (by decide) (by decide) (by rw [hml]; rfl) (lenOf pd11 rfl) rfl (Nat.le_of_eq rfl) (hb hby at_100) rfl (fun T44 v44 L44 X44 hq44 => ?_)
    obtain ⟨rfl, N44, D44⟩ := hq44
    obtain ⟨f44, K44, q44, Tw44'⟩ := Two.add hw Tw43.symm D44
    have he44 : Z.heap.size ≤ f44 := mem2 EZ43 hb2 (fun q => absurd rfl q) q44
    have EZ44 := Wk.extZ EZ43 K44 (mem2' hb2 he44)
    have Tw44 := Tw44'.symm
    have NN44 := Fr.app NN43 N44
    show Wk.Go p e below _ _ _ _ T44 (mkF m 103 #[q0, .val (.int i1), q2, .val (.int i3), .val (.int i4), .val (.int ni), .val (.int mi), .val (.int san), .val (.ref b1), .val (.ref b2), .unset, .unset] [(.int (1 : Int32))])
    refine Wk.pop X44 hx (hb hby at_103) rfl rfl ?_
    refine Wk.iload X44 hx (hb hby at_104) rfl rfl ?_
    refine Wk.iconst X44 hx (2 : Int32) (hb hby at_106) rfl rfl ?_
    refine Wk.icmp_lt X44 hx 123 110 (hb hby at_107) rfl rfl (show (mi : Int32).toInt = (mi).toInt from rfl) (show ((2 : Int32) : Int32).toInt = 2 from (by decide)) (fun h45 => ?_) (fun h45 => ?_)
    · skip
      have X9 := X44.mono (cells' := 10) (slots' := 54) (by decide) (by decide)
      exact st3 a0 hw hx hby hml hown hret hlk hZ dc el ee em p1 p2 p3 ka nn kd ke hmm J _ _ _ _ _ ni mi san hsan n 1 hn (by decide) hni (by show mi.toInt = (1 : Int); omega) b1 e1 b2 f44 hb1 hb2 he1 (fun _ => he44) T44 T44.heap _ X9 rfl NN44 EZ44 Tw44
    · skip
      refine Wk.aload X44 hx (hb hby at_110) rfl rfl rfl ?_
      refine Wk.iloadN X44 hx (hb hby at_112) rfl rfl ?_
      refine Wk.iconst X44 hx (4 : Int32) (hb hby at_113) rfl rfl ?_
      refine Wk.iushr X44 hx (hb hby at_114) rfl ?_
      refine Wk.iloadN X44 hx (hb hby at_115) rfl rfl ?_
      refine Wk.callS (W := 1) X44 hx hZ (argsL := [(.int (XT.ushr i1 (4 : Int32))), (.int i3)]) (rest := [(.ref b2)]) hown (hw _ (List.mem_of_getElem? (i := 124) rfl)) (hw _ (List.mem_of_getElem? (i := 125) rfl)) (hw _ (List.mem_of_getElem? (i := 126) rfl)) (hw _ (List.mem_of_getElem? (i := 127) rfl)) (by decide) (mpos l Z a0 hw dc el ee em p1 p2 p3 ka nn kd ke (XT.ushr i1 (4 : Int32)) i3 Z.heap.size T44.heap EZ44.1 J EZ44) rfl (by decide) (by decide) (by decide) (by decide) (by rw [hml]; rfl) (lenOf pd18 rfl) rfl (Nat.le_of_eq rfl) (hb hby at_116) rfl (fun T46 v46 L46 X46 hq46 => ?_)
      obtain ⟨r46, rfl, N46, Ex46, Er46⟩ := hq46
      have EZ46 := Wk.ext_trans EZ44 Ex46
      have Tw46 := Two.ext Tw44 Ex46
      have NN46 := Fr.app NN44 N46
      show Wk.Go p e below _ _ _ _ T46 (mkF m 119 #[q0, .val (.int i1), q2, .val (.int i3), .val (.int i4), .val (.int ni), .val (.int mi), .val (.int san), .val (.ref b1), .val (.ref b2), .unset, .unset] [(.ref r46), (.ref b2)])
      refine Wk.callV (W := 0) X46 hx hZ (argsL := [(.ref r46)]) (rest := []) hown (hw _ (List.mem_of_getElem? (i := 76) rfl)) (hw _ (List.mem_of_getElem? (i := 77) rfl)) (hw _ (List.mem_of_getElem? (i := 79) rfl)) (hw _ (List.mem_of_getElem? (i := 78) rfl)) (hw _ (List.mem_of_getElem? (i := 2) rfl)) (hw _ (List.mem_of_getElem? (i := 80) rfl)) (notFace_of_selects (args := #[]) (mvT hZ (hw _ (List.mem_of_getElem? (i := 79) rfl)))) (by decide) (madd l Z a0 hw dc el ee em p1 p2 p3 ka nn kd ke b2 Z.heap.size hb2 hb2 r46 f44 1 (by decide) (fun _ => he44) T46.heap EZ46.1 Tw46.symm.1 Er46 J EZ46) rfl (Tw46.symm.1.1.1) (by decide) (by decide) (by decide) (by decide) (by rw [hml]; rfl) (lenOf pd11 rfl) rfl (Nat.le_of_eq rfl) (hb hby at_119) rfl (fun T47 v47 L47 X47 hq47 => ?_)
      obtain ⟨rfl, N47, D47⟩ := hq47
      obtain ⟨f47, K47, q47, Tw47'⟩ := Two.add hw Tw46.symm D47
      have he47 : Z.heap.size ≤ f47 := mem2 EZ46 hb2 (fun _ => he44) q47
      have EZ47 := Wk.extZ EZ46 K47 (mem2' hb2 he47)
      have Tw47 := Tw47'.symm
      have NN47 := Fr.app NN46 N47
      show Wk.Go p e below _ _ _ _ T47 (mkF m 122 #[q0, .val (.int i1), q2, .val (.int i3), .val (.int i4), .val (.int ni), .val (.int mi), .val (.int san), .val (.ref b1), .val (.ref b2), .unset, .unset] [(.int (1 : Int32))])
      refine Wk.pop X47 hx (hb hby at_122) rfl rfl ?_
      have X9 := X47.mono (cells' := 10) (slots' := 54) (by decide) (by decide)
      exact st3 a0 hw hx hby hml hown hret hlk hZ dc el ee em p1 p2 p3 ka nn kd ke hmm J _ _ _ _ _ ni mi san hsan n 2 hn (by decide) hni (by show mi.toInt = (2 : Int); omega) b1 e1 b2 f47 hb1 hb2 he1 (fun _ => he47) T47 T47.heap _ X9 rfl NN47 EZ47 Tw47
set_option maxRecDepth 65536 in
set_option maxHeartbeats 40000000 in
theorem rmL (l : Launch) (Z : State) (a0 : Array Value) (hw : ∀ d ∈ tables_1, d.before a0 Z = true) (i0 i1 i2 i3 i4 : Int32) (dc el ee em p1 p2 p3 ka nn : Addr) (kd ke : ClassId) (hmm : ∃ (c : ClassId) (k : Class) (m : Addr), Z.vm.findClass "[Ljava/lang/Object;" = some c ∧ Z.vm.classes[c]? = some k ∧ k.mirror = some m) (h0 : Heap) (J : JS Z Z.heap dc el ee em p1 p2 p3 ka nn kd ke) (EZ : Ext Z.heap h0) : Wk.Met l Z x code maxLocals ret tables_1 room_1 #[(.int i0), (.int i1), (.int i2), (.int i3), (.int i4)] h0 (Wk.Fq (.int 1) Z.heap.size) := by
  refine Wk.start pnL ?_
  intro p e s m below meth c s₁ X0 hx hby hml hown0 hnm hret hlk hZ e0
  have hown : s.vm.findClass "com/example/seepline/seepline/model/CallRulesIsEmptyPinLaw" = some m.cls := hown0
  refine Wk.enter (g' := (mkF m 0 #[.val (.int i0), .val (.int i1), .val (.int i2), .val (.int i3), .val (.int i4), .unset, .unset, .unset, .unset, .unset, .unset, .unset] [])) (by first | rfl | (simp [entryFrame, mkF, argsToLocals, Value.category, maxLocals]; done) | (simp [entryFrame, mkF, argsToLocals, hcat]; done) | (simp [entryFrame, mkF, argsToLocals, hcat]; rfl)) ?_
  refine Wk.iloadN X0 hx (hb hby at_0) rfl rfl ?_
  refine Wk.iconst X0 hx (3 : Int32) (hb hby at_1) rfl rfl ?_
  refine Wk.iand X0 hx (hb hby at_2) rfl ?_
  have tni := c_mask i0 (3 : Int32) 2 (by decide) (by decide)
  generalize i0 &&& (3 : Int32) = xni at tni ⊢
  refine Wk.iconst X0 hx (3 : Int32) (hb hby at_3) rfl rfl ?_
  refine Wk.irem X0 hx (hb hby at_4) (by decide) rfl ?_
  have uni : (xni % (3 : Int32)).toInt = xni.toInt % 3 := Wk.t_rem rfl (by decide) (by omega)
  generalize xni % (3 : Int32) = ni at uni ⊢
  have hni1 : 0 ≤ ni.toInt := by omega
  have hni2 : ni.toInt ≤ 2 := by omega
  refine Wk.istore (l' := #[.val (.int i0), .val (.int i1), .val (.int i2), .val (.int i3), .val (.int i4), .val (.int ni), .unset, .unset, .unset, .unset, .unset, .unset]) X0 hx (hb hby at_5) rfl rfl ?_
  refine Wk.iloadN X0 hx (hb hby at_7) rfl rfl ?_
  refine Wk.iconst X0 hx (3 : Int32) (hb hby at_8) rfl rfl ?_
  refine Wk.iand X0 hx (hb hby at_9) rfl ?_
  have tmi := c_mask i1 (3 : Int32) 2 (by decide) (by decide)
  generalize i1 &&& (3 : Int32) = xmi at tmi ⊢
  refine Wk.iconst X0 hx (3 : Int32) (hb hby at_10) rfl rfl ?_
  refine Wk.irem X0 hx (hb hby at_11) (by decide) rfl ?_
  have umi : (xmi % (3 : Int32)).toInt = xmi.toInt % 3 := Wk.t_rem rfl (by decide) (by omega)
  generalize xmi % (3 : Int32) = mi at umi ⊢
  have hmi1 : 0 ≤ mi.toInt := by omega
  have hmi2 : mi.toInt ≤ 2 := by omega
  refine Wk.istore (l' := #[.val (.int i0), .val (.int i1), .val (.int i2), .val (.int i3), .val (.int i4), .val (.int ni), .val (.int mi), .unset, .unset, .unset, .unset, .unset]) X0 hx (hb hby at_12) rfl rfl ?_
  refine Wk.iloadN X0 hx (hb hby at_14) rfl rfl ?_
  refine Wk.iconst X0 hx (1 : Int32) (hb hby at_15) rfl rfl ?_
  refine Wk.iand X0 hx (hb hby at_16) rfl ?_
  generalize i2 &&& (1 : Int32) = xs
  refine Wk.cutF (mkF m 25 #[.val (.int i0), .val (.int i1), .val (.int i2), .val (.int i3), .val (.int i4), .val (.int ni), .val (.int mi), .unset, .unset, .unset, .unset, .unset] [(.int (Wk.b (¬ xs.toInt = 0)))]) (fun J61 => ?_) ?_
  · skip
    refine Wk.if_eq X0 hx 24 20 (hb hby at_17) rfl rfl (show (xs : Int32).toInt = (xs).toInt from rfl) (fun h62 => ?_) (fun h62 => ?_)
    · skip
      refine Wk.iconst X0 hx (0 : Int32) (hb hby at_24) rfl rfl ?_
      exact Wk.goB0 J61 (by first | assumption | exact not_not_intro (by assumption))
    · skip
      refine Wk.iconst X0 hx (1 : Int32) (hb hby at_20) rfl rfl ?_
      refine Wk.goto X0 hx 25 (hb hby at_21) rfl ?_
      exact Wk.goB1 J61 (by first | assumption | exact not_not_intro (by assumption))
  skip
  generalize hsv : Wk.b (¬ xs.toInt = 0) = san
  have hsan : san = 0 ∨ san = 1 := hsv ▸ Wk.b01
  clear hsv
  refine Wk.istore (l' := #[.val (.int i0), .val (.int i1), .val (.int i2), .val (.int i3), .val (.int i4), .val (.int ni), .val (.int mi), .val (.int san), .unset, .unset, .unset, .unset]) X0 hx (hb hby at_25) rfl rfl ?_
  refine Wk.newO X0 hx hZ hown (hw _ (List.mem_of_getElem? (i := 0) rfl)) (hw _ (List.mem_of_getElem? (i := 1) rfl)) (hw _ (List.mem_of_getElem? (i := 2) rfl)) e0 (hb hby at_27) (by decide) (by decide) rfl (fun T11 h11 X11 e11 Ex11 A11 D11 => ?_)
  have EZ11 := Wk.ext_trans EZ Ex11
  have hb11 : Z.heap.size ≤ h0.size := EZ.1
  refine Wk.dup X11 hx (hb hby at_30) rfl rfl ?_
  refine Wk.callI (W := 1) X11 hx hZ (argsL := []) (rest := [(.ref h0.size)]) rfl hown (hw _ (List.mem_of_getElem? (i := 3) rfl)) (hw _ (List.mem_of_getElem? (i := 4) rfl)) (hw _ (List.mem_of_getElem? (i := 2) rfl)) (hw _ (List.mem_of_getElem? (i := 5) rfl)) (by decide) (mal l Z a0 hw dc el ee em p1 p2 p3 ka nn kd ke h0.size Z.heap.size hb11 hb11 h11 A11 (Wk.FldE.of (D11 (Or.inl (hw _ (List.mem_of_getElem? (i := 25) rfl))) (ty := (.array (.object "java/lang/Object"))) (by decide))) (D11 (Or.inl (hw _ (List.mem_of_getElem? (i := 62) rfl))) (ty := .int) (by decide)) (Wk.FldE.of (D11 (Or.inl (hw _ (List.mem_of_getElem? (i := 22) rfl))) (ty := .int) (by decide))) J EZ11) e11 (by decide) (by decide) (by decide) (by decide) (by rw [hml]; rfl) (lenOf pd1 rfl) rfl (Nat.le_of_eq rfl) (hb hby at_31) rfl (fun T12 v12 L12 X12 hq12 => ?_)
  obtain ⟨rfl, N12, K12, A12⟩ := hq12
  have EZ12 := Wk.extZ EZ11 K12 (fun x q => by cases List.mem_singleton.mp q; exact hb11)
  have NN12 := Fr.app (Fr.nil Z.heap.size) N12
  show Wk.Go p e below _ _ _ _ T12 (mkF m 34 #[.val (.int i0), .val (.int i1), .val (.int i2), .val (.int i3), .val (.int i4), .val (.int ni), .val (.int mi), .val (.int san), .unset, .unset, .unset, .unset] [(.ref h0.size)])
  refine Wk.astore (l' := #[.val (.int i0), .val (.int i1), .val (.int i2), .val (.int i3), .val (.int i4), .val (.int ni), .val (.int mi), .val (.int san), .val (.ref h0.size), .unset, .unset, .unset]) X12 hx (hb hby at_34) rfl rfl rfl ?_
  refine Wk.newO X12 hx hZ hown (hw _ (List.mem_of_getElem? (i := 0) rfl)) (hw _ (List.mem_of_getElem? (i := 1) rfl)) (hw _ (List.mem_of_getElem? (i := 2) rfl)) rfl (hb hby at_36) (by decide) (by decide) rfl (fun T13 h13 X13 e13 Ex13 A13 D13 => ?_)
  have EZ13 := Wk.ext_trans EZ12 Ex13
  have hb13 : Z.heap.size ≤ T12.heap.size := EZ12.1
  refine Wk.dup X13 hx (hb hby at_39) rfl rfl ?_
  refine Wk.callI (W := 1) X13 hx hZ (argsL := []) (rest := [(.ref T12.heap.size)]) rfl hown (hw _ (List.mem_of_getElem? (i := 3) rfl)) (hw _ (List.mem_of_getElem? (i := 4) rfl)) (hw _ (List.mem_of_getElem? (i := 2) rfl)) (hw _ (List.mem_of_getElem? (i := 5) rfl)) (by decide) (mal l Z a0 hw dc el ee em p1 p2 p3 ka nn kd ke T12.heap.size Z.heap.size hb13 hb13 h13 A13 (Wk.FldE.of (D13 (Or.inl (hw _ (List.mem_of_getElem? (i := 25) rfl))) (ty := (.array (.object "java/lang/Object"))) (by decide))) (D13 (Or.inl (hw _ (List.mem_of_getElem? (i := 62) rfl))) (ty := .int) (by decide)) (Wk.FldE.of (D13 (Or.inl (hw _ (List.mem_of_getElem? (i := 22) rfl))) (ty := .int) (by decide))) J EZ13) e13 (by decide) (by decide) (by decide) (by decide) (by rw [hml]; rfl) (lenOf pd1 rfl) rfl (Nat.le_of_eq rfl) (hb hby at_40) rfl (fun T14 v14 L14 X14 hq14 => ?_)
  obtain ⟨rfl, N14, K14, A14⟩ := hq14
  have EZ14 := Wk.extZ EZ13 K14 (fun x q => by cases List.mem_singleton.mp q; exact hb13)
  have NN14 := Fr.app NN12 N14
  show Wk.Go p e below _ _ _ _ T14 (mkF m 43 #[.val (.int i0), .val (.int i1), .val (.int i2), .val (.int i3), .val (.int i4), .val (.int ni), .val (.int mi), .val (.int san), .val (.ref h0.size), .unset, .unset, .unset] [(.ref T12.heap.size)])
  refine Wk.astore (l' := #[.val (.int i0), .val (.int i1), .val (.int i2), .val (.int i3), .val (.int i4), .val (.int ni), .val (.int mi), .val (.int san), .val (.ref h0.size), .val (.ref T12.heap.size), .unset, .unset]) X14 hx (hb hby at_43) rfl rfl rfl ?_
  have Tw : Two Z T14.heap dc h0.size dc 0 T12.heap.size dc 0 := ⟨⟨(A12.ext Ex13).keep K14 (ninS (Nat.ne_of_lt A12.1.lt) nin0), Or.inl ⟨rfl, rfl⟩⟩, ⟨A14, Or.inl ⟨rfl, rfl⟩⟩, Nat.ne_of_lt A12.1.lt, fun q => absurd rfl q⟩
  have hb1 := hb11
  have hb2 := hb13
  generalize h0.size = b1 at Tw hb1 ⊢
  generalize T12.heap.size = b2 at Tw hb2 ⊢
  show Wk.Go p e below _ _ _ _ T14 (mkF m 45 #[.val (.int i0), .val (.int i1), .val (.int i2), .val (.int i3), .val (.int i4), .val (.int ni), .val (.int mi), .val (.int san), .val (.ref b1), .val (.ref b2), .unset, .unset] [])
  refine Wk.iload X14 hx (hb hby at_45) rfl rfl ?_
  refine Wk.iconst X14 hx (1 : Int32) (hb hby at_47) rfl rfl ?_
  refine Wk.icmp_lt X14 hx 64 51 (hb hby at_48) rfl rfl (show (ni : Int32).toInt = (ni).toInt from rfl) (show ((1 : Int32) : Int32).toInt = 1 from (by decide)) (fun h63 => ?_) (fun h63 => ?_)
  · skip
    refine Wk.iload X14 hx (hb hby at_64) rfl rfl ?_
    refine Wk.iconst X14 hx (2 : Int32) (hb hby at_66) rfl rfl ?_
    refine Wk.icmp_lt X14 hx 84 70 (hb hby at_67) rfl rfl (show (ni : Int32).toInt = (ni).toInt from rfl) (show ((2 : Int32) : Int32).toInt = 2 from (by decide)) (fun h64 => ?_) (fun h64 => absurd h64 (by omega))
    have X9 := X14.mono (cells' := 6) (slots' := 30) (by decide) (by decide)
    exact st2 a0 hw hx hby hml hown hret hlk hZ dc el ee em p1 p2 p3 ka nn kd ke hmm J _ _ i1 i3 i4 ni mi san hsan 0 (by decide) (by show ni.toInt = (0 : Int); omega) hmi1 hmi2 b1 dc b2 dc hb1 hb2 (fun q => absurd rfl q) T14 T14.heap _ X9 rfl NN14 EZ14 Tw
  · skip
    refine Wk.aload X14 hx (hb hby at_51) rfl rfl rfl ?_
    refine Wk.iloadN X14 hx (hb hby at_53) rfl rfl ?_
    refine Wk.iconst X14 hx (2 : Int32) (hb hby at_54) rfl rfl ?_
    refine Wk.iushr X14 hx (hb hby at_55) rfl ?_
    refine Wk.iloadN X14 hx (hb hby at_56) rfl rfl ?_
    refine Wk.callS (W := 1) X14 hx hZ (argsL := [(.int (XT.ushr i0 (2 : Int32))), (.int i3)]) (rest := [(.ref b1)]) hown (hw _ (List.mem_of_getElem? (i := 124) rfl)) (hw _ (List.mem_of_getElem? (i := 125) rfl)) (hw _ (List.mem_of_getElem? (i := 126) rfl)) (hw _ (List.mem_of_getElem? (i := 127) rfl)) (by decide) (mpos l Z a0 hw dc el ee em p1 p2 p3 ka nn kd ke (XT.ushr i0 (2 : Int32)) i3 Z.heap.size T14.heap EZ14.1 J EZ14) rfl (by decide) (by decide) (by decide) (by decide) (by rw [hml]; rfl) (lenOf pd18 rfl) rfl (Nat.le_of_eq rfl) (hb hby at_57) rfl (fun T65 v65 L65 X65 hq65 => ?_)
    obtain ⟨r65, rfl, N65, Ex65, Er65⟩ := hq65
    have EZ65 := Wk.ext_trans EZ14 Ex65
    have Tw65 := Two.ext Tw Ex65
    have NN65 := Fr.app NN14 N65
    show Wk.Go p e below _ _ _ _ T65 (mkF m 60 #[.val (.int i0), .val (.int i1), .val (.int i2), .val (.int i3), .val (.int i4), .val (.int ni), .val (.int mi), .val (.int san), .val (.ref b1), .val (.ref b2), .unset, .unset] [(.ref r65), (.ref b1)])
    refine Wk.callV (W := 0) X65 hx hZ (argsL := [(.ref r65)]) (rest := []) hown (hw _ (List.mem_of_getElem? (i := 76) rfl)) (hw _ (List.mem_of_getElem? (i := 77) rfl)) (hw _ (List.mem_of_getElem? (i := 79) rfl)) (hw _ (List.mem_of_getElem? (i := 78) rfl)) (hw _ (List.mem_of_getElem? (i := 2) rfl)) (hw _ (List.mem_of_getElem? (i := 80) rfl)) (notFace_of_selects (args := #[]) (mvT hZ (hw _ (List.mem_of_getElem? (i := 79) rfl)))) (by decide) (madd l Z a0 hw dc el ee em p1 p2 p3 ka nn kd ke b1 Z.heap.size hb1 hb1 r65 dc 0 (by decide) (fun q => absurd rfl q) T65.heap EZ65.1 Tw65.1 Er65 J EZ65) rfl (Tw65.1.1.1) (by decide) (by decide) (by decide) (by decide) (by rw [hml]; rfl) (lenOf pd11 rfl) rfl (Nat.le_of_eq rfl) (hb hby at_60) rfl (fun T66 v66 L66 X66 hq66 => ?_)
    obtain ⟨rfl, N66, D66⟩ := hq66
    obtain ⟨f66, K66, q66, Tw66'⟩ := Two.add hw Tw65 D66
    have he66 : Z.heap.size ≤ f66 := mem2 EZ65 hb1 (fun q => absurd rfl q) q66
    have EZ66 := Wk.extZ EZ65 K66 (mem2' hb1 he66)
    have Tw66 := Tw66'
    have NN66 := Fr.app NN65 N66
    show Wk.Go p e below _ _ _ _ T66 (mkF m 63 #[.val (.int i0), .val (.int i1), .val (.int i2), .val (.int i3), .val (.int i4), .val (.int ni), .val (.int mi), .val (.int san), .val (.ref b1), .val (.ref b2), .unset, .unset] [(.int (1 : Int32))])
    refine Wk.pop X66 hx (hb hby at_63) rfl rfl ?_
    refine Wk.iload X66 hx (hb hby at_64) rfl rfl ?_
    refine Wk.iconst X66 hx (2 : Int32) (hb hby at_66) rfl rfl ?_
    refine Wk.icmp_lt X66 hx 84 70 (hb hby at_67) rfl rfl (show (ni : Int32).toInt = (ni).toInt from rfl) (show ((2 : Int32) : Int32).toInt = 2 from (by decide)) (fun h67 => ?_) (fun h67 => ?_)
    · skip
      have X9 := X66.mono (cells' := 6) (slots' := 30) (by decide) (by decide)
      exact st2 a0 hw hx hby hml hown hret hlk hZ dc el ee em p1 p2 p3 ka nn kd ke hmm J _ _ i1 i3 i4 ni mi san hsan 1 (by decide) (by show ni.toInt = (1 : Int); omega) hmi1 hmi2 b1 f66 b2 dc hb1 hb2 (fun _ => he66) T66 T66.heap _ X9 rfl NN66 EZ66 Tw66
    · skip
      refine Wk.aload X66 hx (hb hby at_70) rfl rfl rfl ?_
      refine Wk.iloadN X66 hx (hb hby at_72) rfl rfl ?_
      refine Wk.iconst X66 hx (4 : Int32) (hb hby at_73) rfl rfl ?_
      refine Wk.iushr X66 hx (hb hby at_74) rfl ?_
      refine Wk.iload X66 hx (hb hby at_75) rfl rfl ?_
      refine Wk.callS (W := 1) X66 hx hZ (argsL := [(.int (XT.ushr i0 (4 : Int32))), (.int i4)]) (rest := [(.ref b1)]) hown (hw _ (List.mem_of_getElem? (i := 124) rfl)) (hw _ (List.mem_of_getElem? (i := 125) rfl)) (hw _ (List.mem_of_getElem? (i := 126) rfl)) (hw _ (List.mem_of_getElem? (i := 127) rfl)) (by decide) (mpos l Z a0 hw dc el ee em p1 p2 p3 ka nn kd ke (XT.ushr i0 (4 : Int32)) i4 Z.heap.size T66.heap EZ66.1 J EZ66) rfl (by decide) (by decide) (by decide) (by decide) (by rw [hml]; rfl) (lenOf pd18 rfl) rfl (Nat.le_of_eq rfl) (hb hby at_77) rfl (fun T68 v68 L68 X68 hq68 => ?_)
      obtain ⟨r68, rfl, N68, Ex68, Er68⟩ := hq68
      have EZ68 := Wk.ext_trans EZ66 Ex68
      have Tw68 := Two.ext Tw66 Ex68
      have NN68 := Fr.app NN66 N68
      show Wk.Go p e below _ _ _ _ T68 (mkF m 80 #[.val (.int i0), .val (.int i1), .val (.int i2), .val (.int i3), .val (.int i4), .val (.int ni), .val (.int mi), .val (.int san), .val (.ref b1), .val (.ref b2), .unset, .unset] [(.ref r68), (.ref b1)])
      refine Wk.callV (W := 0) X68 hx hZ (argsL := [(.ref r68)]) (rest := []) hown (hw _ (List.mem_of_getElem? (i := 76) rfl)) (hw _ (List.mem_of_getElem? (i := 77) rfl)) (hw _ (List.mem_of_getElem? (i := 79) rfl)) (hw _ (List.mem_of_getElem? (i := 78) rfl)) (hw _ (List.mem_of_getElem? (i := 2) rfl)) (hw _ (List.mem_of_getElem? (i := 80) rfl)) (notFace_of_selects (args := #[]) (mvT hZ (hw _ (List.mem_of_getElem? (i := 79) rfl)))) (by decide) (madd l Z a0 hw dc el ee em p1 p2 p3 ka nn kd ke b1 Z.heap.size hb1 hb1 r68 f66 1 (by decide) (fun _ => he66) T68.heap EZ68.1 Tw68.1 Er68 J EZ68) rfl (Tw68.1.1.1) (by decide) (by decide) (by decide) (by decide) (by rw [hml]; rfl) (lenOf pd11 rfl) rfl (Nat.le_of_eq rfl) (hb hby at_80) rfl (fun T69 v69 L69 X69 hq69 => ?_)
      obtain ⟨rfl, N69, D69⟩ := hq69
      obtain ⟨f69, K69, q69, Tw69'⟩ := Two.add hw Tw68 D69
      have he69 : Z.heap.size ≤ f69 := mem2 EZ68 hb1 (fun _ => he66) q69
      have EZ69 := Wk.extZ EZ68 K69 (mem2' hb1 he69)
      have Tw69 := Tw69'
      have NN69 := Fr.app NN68 N69
      show Wk.Go p e below _ _ _ _ T69 (mkF m 83 #[.val (.int i0), .val (.int i1), .val (.int i2), .val (.int i3), .val (.int i4), .val (.int ni), .val (.int mi), .val (.int san), .val (.ref b1), .val (.ref b2), .unset, .unset] [(.int (1 : Int32))])
      refine Wk.pop X69 hx (hb hby at_83) rfl rfl ?_
      have X9 := X69.mono (cells' := 6) (slots' := 30) (by decide) (by decide)
      exact st2 a0 hw hx hby hml hown hret hlk hZ dc el ee em p1 p2 p3 ka nn kd ke hmm J _ _ i1 i3 i4 ni mi san hsan 2 (by decide) (by show ni.toInt = (2 : Int); omega) hmi1 hmi2 b1 f69 b2 dc hb1 hb2 (fun _ => he69) T69 T69.heap _ X9 rfl NN69 EZ69 Tw69
set_option maxRecDepth 65536 in
set_option maxHeartbeats 40000000 in
theorem comes_1 {Post : Tables → Env → Array Value → State → Outcome → State → Prop} (hpost : ∀ tb e args s v u, (limb_1_1.after args s (.returned v) u = true ∧ limb_1_2.after args s (.returned v) u = true ∧ True) → FrameEnd s (.returned v) u (Jvm.fieldLocs frame_1_writes args s ++ Jvm.arrayLocs frame_1_arrays args s ++ Jvm.staticLocs frame_1_statics s) 40 192 → Post tb e args s (.returned v) u) :
    ArmFor flags0 classFile x code maxLocals ret World_1 tables_1 room_1 Calls_1 rest_1 Pre_1 Post := by
  intro l hfl _ _ p e ha hc hk s m args below hf hA hF happ hP
  obtain ⟨hcalls, hrest, hpre⟩ := hP
  obtain ⟨-, -, -, hnamed, -, -, -, hat⟩ := (Spec.applies_iff hf).mp happ
  obtain ⟨hg, hn⟩ := and_e (Cond.before_iff.mp (show (Jvm.Cond.and given_1 narrow_1).before args s = true from hpre))
  obtain ⟨hg0, hg⟩ := and_e hg
  obtain ⟨w0, w1, w2, w3, w4, rfl⟩ : ∃ w0 w1 w2 w3 w4 : Value, args = #[w0, w1, w2, w3, w4] := by
    have hs : args.size = 5 := by simpa [Cond.value, given_1] using hg0
    obtain ⟨L⟩ := args
    match L, hs with
    | [w0, w1, w2, w3, w4], _ => exact ⟨w0, w1, w2, w3, w4, rfl⟩
  have hw := fun d (hd : d ∈ tables_1) => atoms_spec (ws := Jvm.Cond.code x code maxLocals ret :: tables_1) hat d (List.mem_cons_of_mem _ hd)
  have hfit : Fit s := fun {y c} hc i hi => by
    obtain ⟨ha, rfl⟩ := Array.getElem?_eq_some_iff.mp hc
    have q := List.all_eq_true.mp ((Array.all_eq_true_iff_forall_mem.mp hF) _ (Array.getElem_mem ha)) i (List.mem_range.mpr hi)
    simpa [Array.getElem?_eq_getElem hi] using q
  obtain ⟨hg1, hg⟩ := and_e hg
  obtain ⟨i0, ei0⟩ := is_v hg1
  obtain rfl : w0 = (.int i0) := Option.some.inj ei0
  obtain ⟨hg2, hg⟩ := and_e hg
  obtain ⟨i1, ei1⟩ := is_v hg2
  obtain rfl : w1 = (.int i1) := Option.some.inj ei1
  obtain ⟨hg3, hg⟩ := and_e hg
  obtain ⟨i2, ei2⟩ := is_v hg3
  obtain rfl : w2 = (.int i2) := Option.some.inj ei2
  obtain ⟨hg4, hg⟩ := and_e hg
  obtain ⟨i3, ei3⟩ := is_v hg4
  obtain rfl : w3 = (.int i3) := Option.some.inj ei3
  have hg5 := hg
  obtain ⟨i4, ei4⟩ := is_v hg5
  obtain rfl : w4 = (.int i4) := Option.some.inj ei4
  obtain ⟨q0, hn⟩ := and_e hn
  obtain ⟨q1, hn⟩ := and_e hn
  obtain ⟨q2, hn⟩ := and_e hn
  obtain ⟨q3, hn⟩ := and_e hn
  obtain ⟨q4, hn⟩ := and_e hn
  obtain ⟨q5, hn⟩ := and_e hn
  obtain ⟨q6, hn⟩ := and_e hn
  have q7 := hn
  have hs := (atoms_of jdkStatics_1 (show (jdkStatics_1.foldr Jvm.Cond.and restOwn_1).before _ s = true from hrest)).1
  obtain ⟨c9, k9, m9, z1, z2, z3, -⟩ := hcalls.1
  have hmm : ∃ (c : ClassId) (k : Class) (m : Addr), s.vm.findClass "[Ljava/lang/Object;" = some c ∧ s.vm.classes[c]? = some k ∧ k.mirror = some m := ⟨c9, k9, m9, z1, z2, z3⟩
  obtain ⟨dc, vdc⟩ := arr_v (Cond.before_iff.mp (hs _ (List.mem_of_getElem? (i := 6) rfl)))
  obtain ⟨cld, Ard⟩ := Arr.start vdc (Cond.before_iff.mp (hs _ (List.mem_of_getElem? (i := 6) rfl)))
  obtain ⟨hd1, hd2⟩ := Wk.len_fit (Cond.before_iff.mp (hs _ (List.mem_of_getElem? (i := 8) rfl))) vdc Ard
  have AD : Arv s s.heap dc cld.cls (.object "java/lang/Object") 0 [] .null := Arv.start hfit Ard hd1 hd2 (by decide) rfl trivial
  obtain ⟨el, vel⟩ := exa_v (Cond.before_iff.mp (hs _ (List.mem_of_getElem? (i := 11) rfl)))
  have XL := Exa.start vel (Cond.before_iff.mp (hs _ (List.mem_of_getElem? (i := 11) rfl)))
  obtain ⟨ee, vee⟩ := arr_v (Cond.before_iff.mp (hs _ (List.mem_of_getElem? (i := 12) rfl)))
  have FL := Fld.start ((fld_at vel).symm.trans vee)
  obtain ⟨cle, Are⟩ := Arr.start vee (Cond.before_iff.mp (hs _ (List.mem_of_getElem? (i := 12) rfl)))
  obtain ⟨he1, he2⟩ := Wk.len_fit (Cond.before_iff.mp (hs _ (List.mem_of_getElem? (i := 14) rfl))) vee Are
  have AE : Arv s s.heap ee cle.cls (.object "java/lang/Object") 0 [] .null := Arv.start hfit Are he1 he2 (by decide) rfl trivial
  obtain ⟨em, vem⟩ := exa_v (Cond.before_iff.mp (hs _ (List.mem_of_getElem? (i := 18) rfl)))
  obtain ⟨p1, vp1⟩ := exa_v q7
  have Xp1 := Exa.start vp1 q7
  obtain ⟨p2, vp2⟩ := exa_v q6
  have Xp2 := Exa.start vp2 q6
  obtain ⟨p3, vp3⟩ := exa_v q0
  have Xp3 := Exa.start vp3 q0
  obtain ⟨ka, vka⟩ := exa_v q5
  have Xka := Exa.start vka q5
  obtain ⟨nn, vnn⟩ := exa_v q1
  have Xnn := Exa.start vnn q1
  have F1 := Fld.start ((fld_at vnn).symm.trans (Wk.eqR_v rfl q2 vel))
  have F2 := Wk.fldI vnn q3
  have F3 := Fld.start ((fld_at vnn).symm.trans (Wk.eqR_v rfl q4 vel))
  have J : JS s s.heap dc el ee em p1 p2 p3 ka nn cld.cls cle.cls := ⟨Sta.start vdc (Or.inr ⟨(hw _ (List.mem_of_getElem? (i := 2) rfl)), (hs _ (List.mem_of_getElem? (i := 2) rfl))⟩), AD, Sta.start vel (Or.inl (hs _ (List.mem_of_getElem? (i := 10) rfl))), XL, FL, AE, Sta.start vem (Or.inl (hs _ (List.mem_of_getElem? (i := 17) rfl))), Sta.start vp1 (Or.inr ⟨(hw _ (List.mem_of_getElem? (i := 74) rfl)), (hw _ (List.mem_of_getElem? (i := 220) rfl))⟩), Xp1, Sta.start vp2 (Or.inr ⟨(hw _ (List.mem_of_getElem? (i := 74) rfl)), (hw _ (List.mem_of_getElem? (i := 146) rfl))⟩), Xp2, Sta.start vp3 (Or.inr ⟨(hw _ (List.mem_of_getElem? (i := 74) rfl)), (hw _ (List.mem_of_getElem? (i := 75) rfl))⟩), Xp3, Sta.start vka (Or.inr ⟨(hw _ (List.mem_of_getElem? (i := 135) rfl)), (hw _ (List.mem_of_getElem? (i := 136) rfl))⟩), Sta.start vnn (Or.inr ⟨(hw _ (List.mem_of_getElem? (i := 28) rfl)), (hw _ (List.mem_of_getElem? (i := 123) rfl))⟩), Xnn, F1, F2, F3⟩
  have H := rmL l s _ hw i0 i1 i2 i3 i4 dc el ee em p1 p2 p3 ka nn _ _ hmm s.heap J (Wk.ext_refl _)
  obtain ⟨n, o, h1, h2, h3, _, L, rfl, ⟨rfl, N⟩, hq⟩ := H p e ha hc hk s m _ below hf ((Spec.applies_iff_loose hf).mp happ).1 ⟨rfl, State.Warmed39.refl s, rfl⟩ trivial
  refine ⟨n, _, h1, h2, h3, hpost _ _ _ _ _ _ ⟨Cond.after_iff.mpr rfl, Cond.after_iff.mpr (eq_i res_at (Term.int_eval (1)) rfl), trivial⟩ ⟨hq.1, hq.2.1, (hq.2.2.sift fun y hy => Or.inr (N y hy)).mono (by decide) (by decide)⟩⟩
theorem main_1_1 : Claimed_1_1 := comes_1 fun _ _ _ _ _ _ h hF => ⟨h.1, hF⟩
theorem main_1_2 : Claimed_1_2 := comes_1 fun _ _ _ _ _ _ h hF => ⟨h.2.1, hF⟩
end Jvm.Pilot.@@N@@
namespace Jvm.Pilot.@@N@@
open Jvm Jvm.ClassFile Sem Op Lib Jvm.Free Jvm.Stand Jvm.Pilot.@@N@@.Jvm.D
/-! MADE BY PROGRAM (witnessworld.py) out of the Statement's table words and the real class files: 34 classes; the members and pool entries that the words name. The judged class is class 1, her method 2. -/
namespace start1
open Jvm.ClassFile
def u (s : String) : CpInfo := .utf8 (stringToUtf16 s)
/-- a pool by its gaps: so many unusable entries, then the entry; so many at the end -/
def gap : Nat → List CpInfo → List CpInfo
  | 0, r => r
  | n + 1, r => .unusable :: gap n r
def poolList (es : List (Nat × CpInfo)) (last : Nat) : List CpInfo := es.foldr (fun e r => gap e.1 (e.2 :: r)) (gap last [])
def pool (es : List (Nat × CpInfo)) (last : Nat) : Array CpInfo := ⟨poolList es last⟩
def fileOf (pool : Array CpInfo) (this : Nat) (attrs : Array Attribute := #[]) (ms : Array MethodInfo := #[]) (fl : Nat := 33) (sup : Nat := 0) (ifs : Array Nat := #[]) (fds : Array FieldInfo := #[]) : ClassFile where
  minorVersion := 0
  majorVersion := 65
  constantPool := pool
  accessFlags := fl
  thisClass := this
  superClass := sup
  interfaces := ifs
  fields := fds
  methods := ms
  attributes := attrs
def plain (name : String) (sup : Option ClassId) : Class where
  name := name
  kind := .ordinary
  loader := none
  accessFlags := 33
  super := sup
  interfaces := #[]
  cf := none
  fields := #[]
  methods := #[]
  instanceTypes := #[]
  staticTypes := #[]
  resolved := #[]
  callSites := []
  init := .initialized
  statics := none
  mirror := none

def pool0 : Array CpInfo := pool [(5, u "<init>"), (0, u "()V"), (1, .class_ 10), (1, u "java/lang/Object"), (0, u "getClass"), (0, u "()Ljava/lang/Class;")] 111

def k0c0 : Code := { maxStack := 0, maxLocals := 1, code := object_method_1_code, exceptionTable := #[], attributes := #[] }
def k0m0 : Method := { name := "<init>", desc := "()V", sig := { parameters := [], returnType := none }, accessFlags := 1, code := some k0c0 }
def k0m1 : Method := { name := "getClass", desc := "()Ljava/lang/Class;", sig := { parameters := [], returnType := some (.object "java/lang/Class") }, accessFlags := 273, code := none }
/-- java/lang/Object -/
def k0 : Class := { plain "java/lang/Object" none with
  accessFlags := 33
  interfaces := #[]
  cf := some (fileOf pool0 8 #[] #[{ accessFlags := 1, nameIndex := 5, descriptorIndex := 6, attributes := #[] }, { accessFlags := 273, nameIndex := 11, descriptorIndex := 12, attributes := #[] }] 33 0 #[] #[])
  fields := #[]
  methods := #[k0m0, k0m1]
  instanceTypes := #[]
  staticTypes := #[]
  resolved := Array.replicate 124 none
  statics := none }

def pool1 : Array CpInfo := pool [(2, .class_ 4), (0, .nameAndType 5 6), (0, u "java/lang/Object"), (0, u "<init>"), (0, u "()V"), (0, .integer 2147483647), (0, .methodref 9 10), (0, .class_ 11), (0, .nameAndType 12 13), (0, u "com/example/seepline/seepline/model/Position"), (0, u "argument"), (0, u "(I)Lcom/example/seepline/seepline/model/Position;"), (0, .fieldref 9 15), (0, .nameAndType 16 17), (0, u "RECEIVER"), (0, u "Lcom/example/seepline/seepline/model/Position;"), (0, .fieldref 9 19), (0, .nameAndType 20 17), (0, u "ANY"), (0, .fieldref 9 22), (0, .nameAndType 23 17), (0, u "RESULT"), (0, .class_ 25), (0, u "java/util/ArrayList"), (0, .methodref 24 3), (0, .methodref 28 29), (0, .class_ 30), (0, .nameAndType 31 32), (0, u "com/example/seepline/seepline/model/CallRulesIsEmptyPinLaw"), (0, u "pos"), (0, u "(II)Lcom/example/seepline/seepline/model/Position;"), (0, .methodref 24 34), (0, .nameAndType 35 36), (0, u "add"), (0, u "(Ljava/lang/Object;)Z"), (0, .class_ 38), (0, u "com/example/seepline/seepline/model/CallRules"), (0, .methodref 37 40), (0, .nameAndType 5 41), (0, u "(Ljava/util/List;ZLjava/util/List;)V"), (0, .methodref 37 43), (0, .nameAndType 44 45), (0, u "isEmpty"), (0, u "()Z"), (0, .fieldref 37 47), (0, .nameAndType 48 49), (0, u "NONE"), (0, u "Lcom/example/seepline/seepline/model/CallRules;"), (3, u "law"), (0, u "(IIIII)Z")] 2

def k1m0 : Method := { name := "<init>", desc := "()V", sig := { parameters := [], returnType := none }, accessFlags := 2, code := none }
def k1c1 : Code := { maxStack := 2, maxLocals := 3, code := method_2_code, exceptionTable := #[], attributes := #[] }
def k1m1 : Method := { name := "pos", desc := "(II)Lcom/example/seepline/seepline/model/Position;", sig := { parameters := [.int, .int], returnType := some (.object "com/example/seepline/seepline/model/Position") }, accessFlags := 10, code := some k1c1 }
def k1c2 : Code := { maxStack := 5, maxLocals := 12, code := code, exceptionTable := #[], attributes := #[] }
def k1m2 : Method := { name := "law", desc := "(IIIII)Z", sig := { parameters := [.int, .int, .int, .int, .int], returnType := some .boolean }, accessFlags := 9, code := some k1c2 }
/-- com/example/seepline/seepline/model/CallRulesIsEmptyPinLaw -/
def k1 : Class := { plain "com/example/seepline/seepline/model/CallRulesIsEmptyPinLaw" (some 0) with
  accessFlags := 49
  interfaces := #[]
  cf := some (fileOf pool1 28 #[] #[{ accessFlags := 2, nameIndex := 5, descriptorIndex := 6, attributes := #[] }, { accessFlags := 10, nameIndex := 31, descriptorIndex := 32, attributes := #[] }, { accessFlags := 9, nameIndex := 53, descriptorIndex := 54, attributes := #[] }] 49 2 #[] #[])
  fields := #[]
  methods := #[k1m0, k1m1, k1m2]
  instanceTypes := #[]
  staticTypes := #[]
  resolved := Array.replicate 57 none
  statics := none }

def pool2 : Array CpInfo := pool [(8, .class_ 10), (1, u "java/lang/Iterable"), (24, .class_ 36), (0, u "java/lang/Object")] 25

/-- java/lang/Iterable -/
def k2 : Class := { plain "java/lang/Iterable" (some 0) with
  accessFlags := 1537
  interfaces := #[]
  cf := some (fileOf pool2 8 #[] #[] 1537 35 #[] #[])
  fields := #[]
  methods := #[]
  instanceTypes := #[]
  staticTypes := #[]
  resolved := Array.replicate 62 none
  statics := none }

def pool3 : Array CpInfo := pool [(10, .class_ 12), (1, u "java/util/Collection"), (0, u "toArray"), (16, u "()Z"), (29, .class_ 61), (0, u "java/lang/Object"), (0, .class_ 63), (0, u "java/lang/Iterable"), (2, u "isEmpty"), (3, u "()[Ljava/lang/Object;")] 44

def k3m0 : Method := { name := "isEmpty", desc := "()Z", sig := { parameters := [], returnType := some .boolean }, accessFlags := 1025, code := none }
def k3m1 : Method := { name := "toArray", desc := "()[Ljava/lang/Object;", sig := { parameters := [], returnType := some (.array (.object "java/lang/Object")) }, accessFlags := 1025, code := none }
/-- java/util/Collection -/
def k3 : Class := { plain "java/util/Collection" (some 0) with
  accessFlags := 1537
  interfaces := #[2]
  cf := some (fileOf pool3 10 #[] #[{ accessFlags := 1025, nameIndex := 66, descriptorIndex := 30, attributes := #[] }, { accessFlags := 1025, nameIndex := 13, descriptorIndex := 70, attributes := #[] }] 1537 60 #[62] #[])
  fields := #[]
  methods := #[k3m0, k3m1]
  instanceTypes := #[]
  staticTypes := #[]
  resolved := Array.replicate 115 none
  statics := none }

def pool4 : Array CpInfo := pool [(1, .methodref 2 3), (0, .class_ 4), (0, .nameAndType 5 6), (0, u "java/lang/Object"), (0, u "<init>"), (0, u "()V"), (1, .class_ 10), (1, u "java/util/AbstractCollection"), (66, .class_ 78), (0, u "java/util/Collection")] 81

def k4c0 : Code := { maxStack := 1, maxLocals := 1, code := jdk_22_method_1_code, exceptionTable := #[], attributes := #[] }
def k4m0 : Method := { name := "<init>", desc := "()V", sig := { parameters := [], returnType := none }, accessFlags := 4, code := some k4c0 }
/-- java/util/AbstractCollection -/
def k4 : Class := { plain "java/util/AbstractCollection" (some 0) with
  accessFlags := 1057
  interfaces := #[3]
  cf := some (fileOf pool4 8 #[] #[{ accessFlags := 4, nameIndex := 5, descriptorIndex := 6, attributes := #[] }] 1057 2 #[77] #[])
  fields := #[]
  methods := #[k4m0]
  instanceTypes := #[]
  staticTypes := #[]
  resolved := Array.replicate 160 none
  statics := none }

def pool5 : Array CpInfo := pool [(8, .class_ 10), (1, u "java/util/SequencedCollection"), (15, .class_ 27), (0, u "java/lang/Object"), (0, .class_ 29), (0, u "java/util/Collection")] 27

/-- java/util/SequencedCollection -/
def k5 : Class := { plain "java/util/SequencedCollection" (some 0) with
  accessFlags := 1537
  interfaces := #[3]
  cf := some (fileOf pool5 8 #[] #[] 1537 26 #[28] #[])
  fields := #[]
  methods := #[]
  instanceTypes := #[]
  staticTypes := #[]
  resolved := Array.replicate 57 none
  statics := none }

def pool6 : Array CpInfo := pool [(8, .class_ 10), (1, u "java/util/List"), (7, u "()Z"), (12, u "(Ljava/lang/Object;)V"), (16, u "<init>"), (18, u "isEmpty"), (20, u "of"), (1, .fieldref 91 92), (0, .class_ 93), (0, .nameAndType 94 95), (0, u "java/util/ImmutableCollections"), (0, u "EMPTY_LIST"), (0, u "Ljava/util/ImmutableCollections$ListN;"), (0, .class_ 97), (0, u "java/util/ImmutableCollections$List12"), (0, .methodref 96 99), (0, .nameAndType 48 31), (0, .methodref 96 101), (0, .nameAndType 48 102), (0, u "(Ljava/lang/Object;Ljava/lang/Object;)V"), (0, .class_ 104), (0, u "java/lang/Object"), (3, u "([Ljava/lang/Object;)Ljava/util/List;"), (3, .methodref 91 113), (0, .nameAndType 114 115), (0, u "listCopy"), (0, u "(Ljava/util/Collection;)Ljava/util/List;"), (3, u "()Ljava/util/List;"), (0, .class_ 121), (0, u "java/util/SequencedCollection"), (112, u "copyOf")] 16

def k6m0 : Method := { name := "isEmpty", desc := "()Z", sig := { parameters := [], returnType := some .boolean }, accessFlags := 1025, code := none }
def k6c1 : Code := { maxStack := 1, maxLocals := 0, code := jdk_40_method_36_code, exceptionTable := #[], attributes := #[] }
def k6m1 : Method := { name := "of", desc := "()Ljava/util/List;", sig := { parameters := [], returnType := some (.object "java/util/List") }, accessFlags := 9, code := some k6c1 }
def k6c2 : Code := { maxStack := 5, maxLocals := 2, code := jdk_40_method_47_code, exceptionTable := #[], attributes := #[] }
def k6m2 : Method := { name := "of", desc := "([Ljava/lang/Object;)Ljava/util/List;", sig := { parameters := [(.array (.object "java/lang/Object"))], returnType := some (.object "java/util/List") }, accessFlags := 137, code := some k6c2 }
def k6c3 : Code := { maxStack := 1, maxLocals := 1, code := jdk_40_method_48_code, exceptionTable := #[], attributes := #[] }
def k6m3 : Method := { name := "copyOf", desc := "(Ljava/util/Collection;)Ljava/util/List;", sig := { parameters := [(.object "java/util/Collection")], returnType := some (.object "java/util/List") }, accessFlags := 9, code := some k6c3 }
/-- java/util/List -/
def k6 : Class := { plain "java/util/List" (some 0) with
  accessFlags := 1537
  interfaces := #[5]
  cf := some (fileOf pool6 8 #[] #[{ accessFlags := 1025, nameIndex := 67, descriptorIndex := 18, attributes := #[] }, { accessFlags := 9, nameIndex := 88, descriptorIndex := 119, attributes := #[] }, { accessFlags := 137, nameIndex := 88, descriptorIndex := 108, attributes := #[] }, { accessFlags := 9, nameIndex := 234, descriptorIndex := 115, attributes := #[] }] 1537 103 #[120] #[])
  fields := #[]
  methods := #[k6m0, k6m1, k6m2, k6m3]
  instanceTypes := #[]
  staticTypes := #[]
  resolved := Array.replicate 251 none
  statics := none }

def pool7 : Array CpInfo := pool [(1, .methodref 2 3), (0, .class_ 4), (0, .nameAndType 5 6), (0, u "java/util/AbstractCollection"), (0, u "<init>"), (0, u "()V"), (0, .fieldref 8 9), (0, .class_ 10), (0, .nameAndType 11 12), (0, u "java/util/AbstractList"), (0, u "modCount"), (0, u "I"), (64, .class_ 78), (0, u "java/util/AbstractList$Itr"), (3, .class_ 83), (0, u "java/util/AbstractList$ListItr"), (9, .class_ 94), (0, u "java/util/AbstractList$RandomAccessSubList"), (3, .class_ 99), (0, u "java/util/AbstractList$SubList"), (33, .class_ 134), (0, u "java/util/List"), (73, .class_ 209), (0, u "java/util/AbstractList$SubList$1"), (0, .class_ 211), (0, u "java/util/AbstractList$RandomAccessSpliterator")] 6

def k7c0 : Code := { maxStack := 2, maxLocals := 1, code := jdk_39_method_1_code, exceptionTable := #[], attributes := #[] }
def k7m0 : Method := { name := "<init>", desc := "()V", sig := { parameters := [], returnType := none }, accessFlags := 4, code := some k7c0 }
/-- java/util/AbstractList -/
def k7 : Class := { plain "java/util/AbstractList" (some 4) with
  accessFlags := 1057
  interfaces := #[6]
  cf := some (fileOf pool7 8 #[.nestMembers #[93, 98, 208, 210, 82, 77]] #[{ accessFlags := 4, nameIndex := 5, descriptorIndex := 6, attributes := #[] }] 1057 2 #[133] #[{ accessFlags := 132, nameIndex := 11, descriptorIndex := 12, attributes := #[] }])
  fields := #[{ name := "modCount", type := .int, accessFlags := 132, slot := 0, constantValue := 0 }]
  methods := #[k7m0]
  instanceTypes := #[.int]
  staticTypes := #[]
  resolved := Array.replicate 218 none
  statics := none }

def pool8 : Array CpInfo := pool [(1, .class_ 2), (0, u "java/util/RandomAccess"), (0, .class_ 4), (0, u "java/lang/Object")] 2

/-- java/util/RandomAccess -/
def k8 : Class := { plain "java/util/RandomAccess" (some 0) with
  accessFlags := 1537
  interfaces := #[]
  cf := some (fileOf pool8 1 #[] #[] 1537 3 #[] #[])
  fields := #[]
  methods := #[]
  instanceTypes := #[]
  staticTypes := #[]
  resolved := Array.replicate 7 none
  statics := none }

def pool9 : Array CpInfo := pool [(1, .class_ 2), (0, u "java/lang/Cloneable"), (0, .class_ 4), (0, u "java/lang/Object")] 2

/-- java/lang/Cloneable -/
def k9 : Class := { plain "java/lang/Cloneable" (some 0) with
  accessFlags := 1537
  interfaces := #[]
  cf := some (fileOf pool9 1 #[] #[] 1537 3 #[] #[])
  fields := #[]
  methods := #[]
  instanceTypes := #[]
  staticTypes := #[]
  resolved := Array.replicate 7 none
  statics := none }

def pool10 : Array CpInfo := pool [(1, .class_ 2), (0, u "java/io/Serializable"), (0, .class_ 4), (0, u "java/lang/Object")] 2

/-- java/io/Serializable -/
def k10 : Class := { plain "java/io/Serializable" (some 0) with
  accessFlags := 1537
  interfaces := #[]
  cf := some (fileOf pool10 1 #[] #[] 1537 3 #[] #[])
  fields := #[]
  methods := #[]
  instanceTypes := #[]
  staticTypes := #[]
  resolved := Array.replicate 7 none
  statics := none }

def pool11 : Array CpInfo := pool [(1, .methodref 2 3), (0, .class_ 4), (0, .nameAndType 5 6), (0, u "java/util/AbstractList"), (0, u "<init>"), (0, u "()V"), (0, .class_ 8), (0, u "java/lang/Object"), (0, .fieldref 10 11), (0, .class_ 12), (0, .nameAndType 13 14), (0, u "java/util/ArrayList"), (0, u "elementData"), (0, u "[Ljava/lang/Object;"), (2, u "EMPTY_ELEMENTDATA"), (21, .fieldref 10 40), (0, .nameAndType 41 14), (0, u "DEFAULTCAPACITY_EMPTY_ELEMENTDATA"), (4, u "toArray"), (0, u "()[Ljava/lang/Object;"), (0, .fieldref 10 49), (0, .nameAndType 50 51), (0, u "size"), (0, u "I"), (6, .class_ 60), (1, u "java/util/Arrays"), (0, u "copyOf"), (1, .fieldref 10 64), (0, .nameAndType 65 51), (0, u "modCount"), (0, .methodref 58 67), (0, .nameAndType 61 68), (0, u "([Ljava/lang/Object;I)[Ljava/lang/Object;"), (0, .methodref 10 70), (0, .nameAndType 71 72), (0, u "grow"), (0, u "(I)[Ljava/lang/Object;"), (6, .methodref 80 81), (0, .class_ 82), (0, .nameAndType 83 84), (0, u "java/lang/Math"), (0, u "max"), (0, u "(II)I"), (11, u "(Ljava/lang/Object;)Z"), (32, .methodref 10 130), (0, .nameAndType 71 47), (0, .methodref 10 132), (0, .nameAndType 133 134), (0, u "add"), (0, u "(Ljava/lang/Object;[Ljava/lang/Object;I)V"), (13, .class_ 149), (0, u "java/util/List"), (23, u "()Z"), (88, .class_ 263), (0, u "java/util/ArrayList$ListItr"), (3, .class_ 268), (0, u "java/util/ArrayList$Itr"), (7, .class_ 277), (0, u "java/util/ArrayList$SubList"), (12, .class_ 291), (0, u "java/util/ArrayList$ArrayListSpliterator"), (37, .class_ 330), (0, u "java/util/RandomAccess"), (0, .class_ 332), (0, u "java/lang/Cloneable"), (0, .class_ 334), (0, u "java/io/Serializable"), (0, u "serialVersionUID"), (0, u "J"), (3, u "DEFAULT_CAPACITY"), (22, u "isEmpty"), (136, .class_ 501), (0, u "java/util/ArrayList$SubList$2"), (0, .class_ 503), (0, u "java/util/ArrayList$SubList$1")] 5

def k11c0 : Code := { maxStack := 2, maxLocals := 1, code := jdk_38_method_2_code, exceptionTable := #[], attributes := #[] }
def k11m0 : Method := { name := "<init>", desc := "()V", sig := { parameters := [], returnType := none }, accessFlags := 1, code := some k11c0 }
def k11c1 : Code := { maxStack := 4, maxLocals := 4, code := jdk_38_method_6_code, exceptionTable := #[], attributes := #[] }
def k11m1 : Method := { name := "grow", desc := "(I)[Ljava/lang/Object;", sig := { parameters := [.int], returnType := some (.array (.object "java/lang/Object")) }, accessFlags := 2, code := some k11c1 }
def k11c2 : Code := { maxStack := 3, maxLocals := 1, code := jdk_38_method_7_code, exceptionTable := #[], attributes := #[] }
def k11m2 : Method := { name := "grow", desc := "()[Ljava/lang/Object;", sig := { parameters := [], returnType := some (.array (.object "java/lang/Object")) }, accessFlags := 2, code := some k11c2 }
def k11c3 : Code := { maxStack := 1, maxLocals := 1, code := jdk_38_method_9_code, exceptionTable := #[], attributes := #[] }
def k11m3 : Method := { name := "isEmpty", desc := "()Z", sig := { parameters := [], returnType := some .boolean }, accessFlags := 1, code := some k11c3 }
def k11c4 : Code := { maxStack := 2, maxLocals := 1, code := jdk_38_method_16_code, exceptionTable := #[], attributes := #[] }
def k11m4 : Method := { name := "toArray", desc := "()[Ljava/lang/Object;", sig := { parameters := [], returnType := some (.array (.object "java/lang/Object")) }, accessFlags := 1, code := some k11c4 }
def k11c5 : Code := { maxStack := 3, maxLocals := 4, code := jdk_38_method_24_code, exceptionTable := #[], attributes := #[] }
def k11m5 : Method := { name := "add", desc := "(Ljava/lang/Object;[Ljava/lang/Object;I)V", sig := { parameters := [(.object "java/lang/Object"), (.array (.object "java/lang/Object")), .int], returnType := none }, accessFlags := 2, code := some k11c5 }
def k11c6 : Code := { maxStack := 4, maxLocals := 2, code := jdk_38_method_25_code, exceptionTable := #[], attributes := #[] }
def k11m6 : Method := { name := "add", desc := "(Ljava/lang/Object;)Z", sig := { parameters := [(.object "java/lang/Object")], returnType := some .boolean }, accessFlags := 1, code := some k11c6 }
/-- java/util/ArrayList -/
def k11 : Class := { plain "java/util/ArrayList" (some 7) with
  accessFlags := 33
  interfaces := #[6, 8, 9, 10]
  cf := some (fileOf pool11 10 #[.nestMembers #[290, 276, 500, 502, 262, 267]] #[{ accessFlags := 1, nameIndex := 5, descriptorIndex := 6, attributes := #[] }, { accessFlags := 2, nameIndex := 71, descriptorIndex := 72, attributes := #[] }, { accessFlags := 2, nameIndex := 71, descriptorIndex := 47, attributes := #[] }, { accessFlags := 1, nameIndex := 363, descriptorIndex := 173, attributes := #[] }, { accessFlags := 1, nameIndex := 46, descriptorIndex := 47, attributes := #[] }, { accessFlags := 2, nameIndex := 133, descriptorIndex := 134, attributes := #[] }, { accessFlags := 1, nameIndex := 133, descriptorIndex := 96, attributes := #[] }] 33 2 #[148, 329, 331, 333] #[{ accessFlags := 26, nameIndex := 335, descriptorIndex := 336, attributes := #[] }, { accessFlags := 26, nameIndex := 340, descriptorIndex := 51, attributes := #[] }, { accessFlags := 26, nameIndex := 17, descriptorIndex := 14, attributes := #[] }, { accessFlags := 26, nameIndex := 41, descriptorIndex := 14, attributes := #[] }, { accessFlags := 128, nameIndex := 13, descriptorIndex := 14, attributes := #[] }, { accessFlags := 2, nameIndex := 50, descriptorIndex := 51, attributes := #[] }])
  fields := #[{ name := "serialVersionUID", type := .long, accessFlags := 26, slot := 0, constantValue := 0 }, { name := "DEFAULT_CAPACITY", type := .int, accessFlags := 26, slot := 1, constantValue := 0 }, { name := "EMPTY_ELEMENTDATA", type := (.array (.object "java/lang/Object")), accessFlags := 26, slot := 2, constantValue := 0 }, { name := "DEFAULTCAPACITY_EMPTY_ELEMENTDATA", type := (.array (.object "java/lang/Object")), accessFlags := 26, slot := 3, constantValue := 0 }, { name := "elementData", type := (.array (.object "java/lang/Object")), accessFlags := 128, slot := 1, constantValue := 0 }, { name := "size", type := .int, accessFlags := 2, slot := 2, constantValue := 0 }]
  methods := #[k11m0, k11m1, k11m2, k11m3, k11m4, k11m5, k11m6]
  instanceTypes := #[.int, (.array (.object "java/lang/Object")), .int]
  staticTypes := #[.long, .int, (.array (.object "java/lang/Object")), (.array (.object "java/lang/Object"))]
  resolved := Array.replicate 509 none
  statics := some 0 }

def pool12 : Array CpInfo := pool [(1, .methodref 2 3), (0, .class_ 4), (0, .nameAndType 5 6), (0, u "java/lang/Object"), (0, u "<init>"), (0, u "()V"), (0, .class_ 8), (0, u "java/lang/Record")] 13

def k12c0 : Code := { maxStack := 1, maxLocals := 1, code := jdk_30_method_1_code, exceptionTable := #[], attributes := #[] }
def k12m0 : Method := { name := "<init>", desc := "()V", sig := { parameters := [], returnType := none }, accessFlags := 4, code := some k12c0 }
/-- java/lang/Record -/
def k12 : Class := { plain "java/lang/Record" (some 0) with
  accessFlags := 1057
  interfaces := #[]
  cf := some (fileOf pool12 7 #[] #[{ accessFlags := 4, nameIndex := 5, descriptorIndex := 6, attributes := #[] }] 1057 2 #[] #[])
  fields := #[]
  methods := #[k12m0]
  instanceTypes := #[]
  staticTypes := #[]
  resolved := Array.replicate 22 none
  statics := none }

def pool13 : Array CpInfo := pool [(1, .methodref 2 3), (0, .class_ 4), (0, .nameAndType 5 6), (0, u "java/lang/Record"), (0, u "<init>"), (0, u "()V"), (0, .interfaceMethodref 8 9), (0, .class_ 10), (0, .nameAndType 11 12), (0, u "java/util/List"), (0, u "copyOf"), (0, u "(Ljava/util/Collection;)Ljava/util/List;"), (0, .fieldref 14 15), (0, .class_ 16), (0, .nameAndType 17 18), (0, u "com/example/seepline/seepline/model/CallRules"), (0, u "sourcePositions"), (0, u "Ljava/util/List;"), (0, .fieldref 14 20), (0, .nameAndType 21 22), (0, u "sanitizer"), (0, u "Z"), (0, .fieldref 14 24), (0, .nameAndType 25 18), (0, u "sinkPositions"), (10, .interfaceMethodref 8 37), (0, .nameAndType 38 39), (0, u "isEmpty"), (0, u "()Z"), (18, u "(Ljava/util/List;ZLjava/util/List;)V"), (2, u "NONE"), (0, u "Lcom/example/seepline/seepline/model/CallRules;")] 34

def k13c0 : Code := { maxStack := 2, maxLocals := 4, code := prog_6_method_1_code, exceptionTable := #[], attributes := #[] }
def k13m0 : Method := { name := "<init>", desc := "(Ljava/util/List;ZLjava/util/List;)V", sig := { parameters := [(.object "java/util/List"), .boolean, (.object "java/util/List")], returnType := none }, accessFlags := 1, code := some k13c0 }
def k13c1 : Code := { maxStack := 1, maxLocals := 1, code := prog_6_method_3_code, exceptionTable := #[], attributes := #[] }
def k13m1 : Method := { name := "isEmpty", desc := "()Z", sig := { parameters := [], returnType := some .boolean }, accessFlags := 1, code := some k13c1 }
/-- com/example/seepline/seepline/model/CallRules -/
def k13 : Class := { plain "com/example/seepline/seepline/model/CallRules" (some 12) with
  accessFlags := 49
  interfaces := #[]
  cf := some (fileOf pool13 14 #[] #[{ accessFlags := 1, nameIndex := 5, descriptorIndex := 58, attributes := #[] }, { accessFlags := 1, nameIndex := 38, descriptorIndex := 39, attributes := #[] }] 49 2 #[] #[{ accessFlags := 18, nameIndex := 17, descriptorIndex := 18, attributes := #[] }, { accessFlags := 18, nameIndex := 21, descriptorIndex := 22, attributes := #[] }, { accessFlags := 18, nameIndex := 25, descriptorIndex := 18, attributes := #[] }, { accessFlags := 25, nameIndex := 61, descriptorIndex := 62, attributes := #[] }])
  fields := #[{ name := "sourcePositions", type := (.object "java/util/List"), accessFlags := 18, slot := 0, constantValue := 0 }, { name := "sanitizer", type := .boolean, accessFlags := 18, slot := 1, constantValue := 0 }, { name := "sinkPositions", type := (.object "java/util/List"), accessFlags := 18, slot := 2, constantValue := 0 }, { name := "NONE", type := (.object "com/example/seepline/seepline/model/CallRules"), accessFlags := 25, slot := 0, constantValue := 0 }]
  methods := #[k13m0, k13m1]
  instanceTypes := #[(.object "java/util/List"), .boolean, (.object "java/util/List")]
  staticTypes := #[(.object "com/example/seepline/seepline/model/CallRules")]
  resolved := Array.replicate 97 none
  statics := some 1 }

def pool14 : Array CpInfo := pool [(2, .class_ 4), (1, u "java/lang/Object"), (0, u "<init>"), (0, u "()V"), (3, .class_ 11), (0, u "java/util/ImmutableCollections$List12"), (0, .class_ 13), (0, u "java/util/ImmutableCollections$ListN"), (3, u "Z"), (0, .class_ 19), (0, u "java/util/List"), (0, .interfaceMethodref 21 22), (0, .class_ 23), (0, .nameAndType 24 25), (0, u "java/util/Collection"), (0, u "isEmpty"), (0, u "()Z"), (0, .interfaceMethodref 18 27), (0, .nameAndType 28 29), (0, u "of"), (0, u "()Ljava/util/List;"), (0, .interfaceMethodref 21 31), (0, .nameAndType 32 33), (0, u "toArray"), (0, u "()[Ljava/lang/Object;"), (0, .interfaceMethodref 18 35), (0, .nameAndType 28 36), (0, u "([Ljava/lang/Object;)Ljava/util/List;"), (10, .class_ 49), (1, u "java/util/ImmutableCollections"), (0, u "$assertionsDisabled"), (5, u "[Ljava/lang/Object;"), (5, u "EMPTY_LIST"), (0, u "Ljava/util/ImmutableCollections$ListN;"), (8, u "EMPTY_LIST_NULLS"), (22, u "SALT32L"), (0, u "J"), (2, u "REVERSE"), (6, u "archivedObjects"), (2, u "EMPTY"), (0, u "Ljava/lang/Object;"), (0, .class_ 112), (0, u "java/util/ImmutableCollections$SetN"), (5, u "EMPTY_SET"), (0, u "Ljava/util/ImmutableCollections$SetN;"), (0, .class_ 121), (0, u "java/util/ImmutableCollections$MapN"), (3, u "EMPTY_MAP"), (0, u "Ljava/util/ImmutableCollections$MapN;"), (4, u "EXPAND_FACTOR"), (0, u "I"), (9, u "listCopy"), (0, u "(Ljava/util/Collection;)Ljava/util/List;"), (25, .class_ 170), (0, u "java/util/ImmutableCollections$MapN$MapNIterator"), (0, .class_ 172), (0, u "java/util/ImmutableCollections$MapN$1"), (0, .class_ 174), (0, u "java/util/ImmutableCollections$Map1"), (0, .class_ 176), (0, u "java/util/ImmutableCollections$AbstractImmutableMap"), (0, .class_ 178), (0, u "java/util/ImmutableCollections$SetN$SetNIterator"), (0, .class_ 180), (0, u "java/util/ImmutableCollections$Set12"), (0, .class_ 182), (0, u "java/util/ImmutableCollections$Set12$1"), (0, .class_ 184), (0, u "java/util/ImmutableCollections$AbstractImmutableSet"), (0, .class_ 186), (0, u "java/util/ImmutableCollections$SubList"), (0, .class_ 188), (0, u "java/util/ImmutableCollections$ListItr"), (0, .class_ 190), (0, u "java/util/ImmutableCollections$AbstractImmutableList"), (0, .class_ 192), (0, u "java/util/ImmutableCollections$AbstractImmutableCollection"), (0, .class_ 194), (0, u "java/util/ImmutableCollections$Access"), (0, .class_ 196), (0, u "java/util/ImmutableCollections$Access$1")] 16

def k14m0 : Method := { name := "<init>", desc := "()V", sig := { parameters := [], returnType := none }, accessFlags := 2, code := none }
def k14c1 : Code := { maxStack := 1, maxLocals := 2, code := jdk_56_method_3_code, exceptionTable := #[], attributes := #[] }
def k14m1 : Method := { name := "listCopy", desc := "(Ljava/util/Collection;)Ljava/util/List;", sig := { parameters := [(.object "java/util/Collection")], returnType := some (.object "java/util/List") }, accessFlags := 8, code := some k14c1 }
/-- java/util/ImmutableCollections -/
def k14 : Class := { plain "java/util/ImmutableCollections" (some 0) with
  accessFlags := 32
  interfaces := #[]
  cf := some (fileOf pool14 47 #[.nestMembers #[120, 169, 171, 173, 175, 111, 177, 179, 181, 183, 12, 10, 185, 187, 189, 191, 193, 195]] #[{ accessFlags := 2, nameIndex := 5, descriptorIndex := 6, attributes := #[] }, { accessFlags := 8, nameIndex := 142, descriptorIndex := 143, attributes := #[] }] 32 2 #[] #[{ accessFlags := 26, nameIndex := 95, descriptorIndex := 96, attributes := #[] }, { accessFlags := 26, nameIndex := 99, descriptorIndex := 17, attributes := #[] }, { accessFlags := 10, nameIndex := 106, descriptorIndex := 56, attributes := #[] }, { accessFlags := 26, nameIndex := 109, descriptorIndex := 110, attributes := #[] }, { accessFlags := 24, nameIndex := 62, descriptorIndex := 63, attributes := #[] }, { accessFlags := 24, nameIndex := 72, descriptorIndex := 63, attributes := #[] }, { accessFlags := 24, nameIndex := 118, descriptorIndex := 119, attributes := #[] }, { accessFlags := 24, nameIndex := 125, descriptorIndex := 126, attributes := #[] }, { accessFlags := 24, nameIndex := 131, descriptorIndex := 132, attributes := #[] }, { accessFlags := 4120, nameIndex := 50, descriptorIndex := 17, attributes := #[] }])
  fields := #[{ name := "SALT32L", type := .long, accessFlags := 26, slot := 0, constantValue := 0 }, { name := "REVERSE", type := .boolean, accessFlags := 26, slot := 1, constantValue := 0 }, { name := "archivedObjects", type := (.array (.object "java/lang/Object")), accessFlags := 10, slot := 2, constantValue := 0 }, { name := "EMPTY", type := (.object "java/lang/Object"), accessFlags := 26, slot := 3, constantValue := 0 }, { name := "EMPTY_LIST", type := (.object "java/util/ImmutableCollections$ListN"), accessFlags := 24, slot := 4, constantValue := 0 }, { name := "EMPTY_LIST_NULLS", type := (.object "java/util/ImmutableCollections$ListN"), accessFlags := 24, slot := 5, constantValue := 0 }, { name := "EMPTY_SET", type := (.object "java/util/ImmutableCollections$SetN"), accessFlags := 24, slot := 6, constantValue := 0 }, { name := "EMPTY_MAP", type := (.object "java/util/ImmutableCollections$MapN"), accessFlags := 24, slot := 7, constantValue := 0 }, { name := "EXPAND_FACTOR", type := .int, accessFlags := 24, slot := 8, constantValue := 0 }, { name := "$assertionsDisabled", type := .boolean, accessFlags := 4120, slot := 9, constantValue := 0 }]
  methods := #[k14m0, k14m1]
  instanceTypes := #[]
  staticTypes := #[.long, .boolean, (.array (.object "java/lang/Object")), (.object "java/lang/Object"), (.object "java/util/ImmutableCollections$ListN"), (.object "java/util/ImmutableCollections$ListN"), (.object "java/util/ImmutableCollections$SetN"), (.object "java/util/ImmutableCollections$MapN"), .int, .boolean]
  resolved := Array.replicate 213 none
  statics := some 2 }

def pool15 : Array CpInfo := pool [(1, .methodref 2 3), (0, .class_ 4), (0, .nameAndType 5 6), (0, u "java/util/AbstractCollection"), (0, u "<init>"), (0, u "()V"), (1, .class_ 10), (1, u "java/util/ImmutableCollections"), (2, .class_ 14), (0, u "java/util/ImmutableCollections$AbstractImmutableCollection")] 41

def k15c0 : Code := { maxStack := 1, maxLocals := 1, code := jdk_47_method_1_code, exceptionTable := #[], attributes := #[] }
def k15m0 : Method := { name := "<init>", desc := "()V", sig := { parameters := [], returnType := none }, accessFlags := 0, code := some k15c0 }
/-- java/util/ImmutableCollections$AbstractImmutableCollection -/
def k15 : Class := { plain "java/util/ImmutableCollections$AbstractImmutableCollection" (some 4) with
  accessFlags := 1056
  interfaces := #[]
  cf := some (fileOf pool15 13 #[.nestHost 8] #[{ accessFlags := 0, nameIndex := 5, descriptorIndex := 6, attributes := #[] }] 1056 2 #[] #[])
  fields := #[]
  methods := #[k15m0]
  instanceTypes := #[]
  staticTypes := #[]
  resolved := Array.replicate 56 none
  statics := none }

def pool16 : Array CpInfo := pool [(1, .methodref 2 3), (0, .class_ 4), (0, .nameAndType 5 6), (0, u "java/util/ImmutableCollections$AbstractImmutableCollection"), (0, u "<init>"), (0, u "()V"), (1, .class_ 10), (1, u "java/util/ImmutableCollections"), (3, .class_ 16), (1, u "java/util/ImmutableCollections$AbstractImmutableList"), (60, .class_ 78), (0, u "java/util/List"), (45, .class_ 125), (0, u "java/util/RandomAccess")] 70

def k16c0 : Code := { maxStack := 1, maxLocals := 1, code := jdk_46_method_1_code, exceptionTable := #[], attributes := #[] }
def k16m0 : Method := { name := "<init>", desc := "()V", sig := { parameters := [], returnType := none }, accessFlags := 0, code := some k16c0 }
/-- java/util/ImmutableCollections$AbstractImmutableList -/
def k16 : Class := { plain "java/util/ImmutableCollections$AbstractImmutableList" (some 15) with
  accessFlags := 1056
  interfaces := #[6, 8]
  cf := some (fileOf pool16 14 #[.nestHost 8] #[{ accessFlags := 0, nameIndex := 5, descriptorIndex := 6, attributes := #[] }] 1056 2 #[77, 124] #[])
  fields := #[]
  methods := #[k16m0]
  instanceTypes := #[]
  staticTypes := #[]
  resolved := Array.replicate 196 none
  statics := none }

def pool17 : Array CpInfo := pool [(1, .methodref 2 3), (0, .class_ 4), (0, .nameAndType 5 6), (0, u "java/util/ImmutableCollections$AbstractImmutableList"), (0, u "<init>"), (0, u "()V"), (0, .methodref 8 9), (0, .class_ 10), (0, .nameAndType 11 12), (0, u "java/util/Objects"), (0, u "requireNonNull"), (0, u "(Ljava/lang/Object;)Ljava/lang/Object;"), (0, .fieldref 14 15), (0, .class_ 16), (0, .nameAndType 17 18), (0, u "java/util/ImmutableCollections$List12"), (0, u "e0"), (0, u "Ljava/lang/Object;"), (0, .fieldref 20 21), (0, .class_ 22), (0, .nameAndType 23 18), (0, u "java/util/ImmutableCollections"), (0, u "EMPTY"), (0, .fieldref 14 25), (0, .nameAndType 26 18), (0, u "e1"), (43, .class_ 71), (0, u "java/io/Serializable"), (4, u "(Ljava/lang/Object;)V"), (8, u "(Ljava/lang/Object;Ljava/lang/Object;)V"), (2, u "isEmpty"), (0, u "()Z")] 35

def k17c0 : Code := { maxStack := 2, maxLocals := 2, code := jdk_44_method_1_code, exceptionTable := #[], attributes := #[] }
def k17m0 : Method := { name := "<init>", desc := "(Ljava/lang/Object;)V", sig := { parameters := [(.object "java/lang/Object")], returnType := none }, accessFlags := 0, code := some k17c0 }
def k17c1 : Code := { maxStack := 2, maxLocals := 3, code := jdk_44_method_2_code, exceptionTable := #[], attributes := #[] }
def k17m1 : Method := { name := "<init>", desc := "(Ljava/lang/Object;Ljava/lang/Object;)V", sig := { parameters := [(.object "java/lang/Object"), (.object "java/lang/Object")], returnType := none }, accessFlags := 0, code := some k17c1 }
def k17c2 : Code := { maxStack := 1, maxLocals := 1, code := jdk_44_method_4_code, exceptionTable := #[], attributes := #[] }
def k17m2 : Method := { name := "isEmpty", desc := "()Z", sig := { parameters := [], returnType := some .boolean }, accessFlags := 1, code := some k17c2 }
/-- java/util/ImmutableCollections$List12 -/
def k17 : Class := { plain "java/util/ImmutableCollections$List12" (some 16) with
  accessFlags := 48
  interfaces := #[10]
  cf := some (fileOf pool17 14 #[.nestHost 20] #[{ accessFlags := 0, nameIndex := 5, descriptorIndex := 76, attributes := #[] }, { accessFlags := 0, nameIndex := 5, descriptorIndex := 85, attributes := #[] }, { accessFlags := 1, nameIndex := 88, descriptorIndex := 89, attributes := #[] }] 48 2 #[70] #[{ accessFlags := 18, nameIndex := 17, descriptorIndex := 18, attributes := #[] }, { accessFlags := 18, nameIndex := 26, descriptorIndex := 18, attributes := #[] }])
  fields := #[{ name := "e0", type := (.object "java/lang/Object"), accessFlags := 18, slot := 0, constantValue := 0 }, { name := "e1", type := (.object "java/lang/Object"), accessFlags := 18, slot := 1, constantValue := 0 }]
  methods := #[k17m0, k17m1, k17m2]
  instanceTypes := #[(.object "java/lang/Object"), (.object "java/lang/Object")]
  staticTypes := #[]
  resolved := Array.replicate 125 none
  statics := none }

def pool18 : Array CpInfo := pool [(2, .class_ 4), (1, u "java/util/ImmutableCollections$AbstractImmutableList"), (2, .fieldref 8 9), (0, .class_ 10), (0, .nameAndType 11 12), (0, u "java/util/ImmutableCollections$ListN"), (0, u "elements"), (0, u "[Ljava/lang/Object;"), (2, u "allowNulls"), (0, u "Z"), (42, .class_ 60), (0, u "java/io/Serializable"), (13, u "isEmpty"), (0, u "()Z"), (38, .class_ 115), (0, u "java/util/ImmutableCollections")] 3

def k18c0 : Code := { maxStack := 1, maxLocals := 1, code := jdk_45_method_2_code, exceptionTable := #[], attributes := #[] }
def k18m0 : Method := { name := "isEmpty", desc := "()Z", sig := { parameters := [], returnType := some .boolean }, accessFlags := 1, code := some k18c0 }
/-- java/util/ImmutableCollections$ListN -/
def k18 : Class := { plain "java/util/ImmutableCollections$ListN" (some 16) with
  accessFlags := 48
  interfaces := #[10]
  cf := some (fileOf pool18 8 #[.nestHost 114] #[{ accessFlags := 1, nameIndex := 74, descriptorIndex := 75, attributes := #[] }] 48 2 #[59] #[{ accessFlags := 18, nameIndex := 11, descriptorIndex := 12, attributes := #[] }, { accessFlags := 18, nameIndex := 15, descriptorIndex := 16, attributes := #[] }])
  fields := #[{ name := "elements", type := (.array (.object "java/lang/Object")), accessFlags := 18, slot := 0, constantValue := 0 }, { name := "allowNulls", type := .boolean, accessFlags := 18, slot := 1, constantValue := 0 }]
  methods := #[k18m0]
  instanceTypes := #[(.array (.object "java/lang/Object")), .boolean]
  staticTypes := #[]
  resolved := Array.replicate 119 none
  statics := none }

def pool19 : Array CpInfo := pool [(1, .methodref 2 3), (0, .class_ 4), (0, .nameAndType 5 6), (0, u "java/lang/Object"), (0, u "<init>"), (0, u "()V"), (0, .fieldref 8 9), (0, .class_ 10), (0, .nameAndType 11 12), (0, u "com/example/seepline/seepline/model/Position"), (0, u "kind"), (0, u "Lcom/example/seepline/seepline/model/Position$Kind;"), (0, .fieldref 8 14), (0, .nameAndType 15 16), (0, u "argument"), (0, u "I"), (9, .fieldref 27 28), (0, .class_ 29), (0, .nameAndType 30 12), (0, u "com/example/seepline/seepline/model/Position$Kind"), (0, u "ARGUMENT"), (0, .methodref 8 32), (0, .nameAndType 5 33), (0, u "(Lcom/example/seepline/seepline/model/Position$Kind;I)V"), (2, u "RECEIVER"), (2, u "ANY"), (30, u "Lcom/example/seepline/seepline/model/Position;"), (4, u "RESULT"), (4, u "(I)Lcom/example/seepline/seepline/model/Position;")] 34

def k19c0 : Code := { maxStack := 2, maxLocals := 3, code := prog_13_method_1_code, exceptionTable := #[], attributes := #[] }
def k19m0 : Method := { name := "<init>", desc := "(Lcom/example/seepline/seepline/model/Position$Kind;I)V", sig := { parameters := [(.object "com/example/seepline/seepline/model/Position$Kind"), .int], returnType := none }, accessFlags := 2, code := some k19c0 }
def k19c1 : Code := { maxStack := 4, maxLocals := 1, code := prog_13_method_2_code, exceptionTable := #[], attributes := #[] }
def k19m1 : Method := { name := "argument", desc := "(I)Lcom/example/seepline/seepline/model/Position;", sig := { parameters := [.int], returnType := some (.object "com/example/seepline/seepline/model/Position") }, accessFlags := 9, code := some k19c1 }
/-- com/example/seepline/seepline/model/Position -/
def k19 : Class := { plain "com/example/seepline/seepline/model/Position" (some 0) with
  accessFlags := 49
  interfaces := #[]
  cf := some (fileOf pool19 8 #[.nestMembers #[27]] #[{ accessFlags := 2, nameIndex := 5, descriptorIndex := 33, attributes := #[] }, { accessFlags := 9, nameIndex := 15, descriptorIndex := 80, attributes := #[] }] 49 2 #[] #[{ accessFlags := 25, nameIndex := 36, descriptorIndex := 70, attributes := #[] }, { accessFlags := 25, nameIndex := 39, descriptorIndex := 70, attributes := #[] }, { accessFlags := 25, nameIndex := 75, descriptorIndex := 70, attributes := #[] }, { accessFlags := 18, nameIndex := 11, descriptorIndex := 12, attributes := #[] }, { accessFlags := 18, nameIndex := 15, descriptorIndex := 16, attributes := #[] }])
  fields := #[{ name := "RECEIVER", type := (.object "com/example/seepline/seepline/model/Position"), accessFlags := 25, slot := 0, constantValue := 0 }, { name := "ANY", type := (.object "com/example/seepline/seepline/model/Position"), accessFlags := 25, slot := 1, constantValue := 0 }, { name := "RESULT", type := (.object "com/example/seepline/seepline/model/Position"), accessFlags := 25, slot := 2, constantValue := 0 }, { name := "kind", type := (.object "com/example/seepline/seepline/model/Position$Kind"), accessFlags := 18, slot := 0, constantValue := 0 }, { name := "argument", type := .int, accessFlags := 18, slot := 1, constantValue := 0 }]
  methods := #[k19m0, k19m1]
  instanceTypes := #[(.object "com/example/seepline/seepline/model/Position$Kind"), .int]
  staticTypes := #[(.object "com/example/seepline/seepline/model/Position"), (.object "com/example/seepline/seepline/model/Position"), (.object "com/example/seepline/seepline/model/Position")]
  resolved := Array.replicate 115 none
  statics := some 3 }

def pool20 : Array CpInfo := pool [(1, .class_ 2), (0, u "java/lang/Math"), (1, .class_ 6), (1, u "java/lang/Object"), (0, u "<init>"), (0, u "()V"), (89, .class_ 100), (1, u "java/lang/Math$RandomNumberGeneratorHolder"), (71, u "negativeZeroFloatBits"), (0, u "J"), (2, u "negativeZeroDoubleBits"), (21, u "max"), (2, u "min"), (43, u "$assertionsDisabled"), (0, u "Z"), (88, u "(II)I"), (2, u "twoToTheDoubleScaleDown"), (0, u "D"), (4, u "twoToTheDoubleScaleUp"), (9, u "E"), (3, u "PI"), (2, u "TAU"), (2, u "DEGREES_TO_RADIANS"), (0, u "RADIANS_TO_DEGREES")] 94

def k20m0 : Method := { name := "<init>", desc := "()V", sig := { parameters := [], returnType := none }, accessFlags := 2, code := none }
def k20c1 : Code := { maxStack := 2, maxLocals := 2, code := jdk_29_method_65_code, exceptionTable := #[], attributes := #[] }
def k20m1 : Method := { name := "max", desc := "(II)I", sig := { parameters := [.int, .int], returnType := some .int }, accessFlags := 9, code := some k20c1 }
def k20c2 : Code := { maxStack := 2, maxLocals := 2, code := jdk_29_method_69_code, exceptionTable := #[], attributes := #[] }
def k20m2 : Method := { name := "min", desc := "(II)I", sig := { parameters := [.int, .int], returnType := some .int }, accessFlags := 9, code := some k20c2 }
/-- java/lang/Math -/
def k20 : Class := { plain "java/lang/Math" (some 0) with
  accessFlags := 49
  interfaces := #[]
  cf := some (fileOf pool20 1 #[.nestMembers #[98]] #[{ accessFlags := 2, nameIndex := 7, descriptorIndex := 8, attributes := #[] }, { accessFlags := 9, nameIndex := 198, descriptorIndex := 335, attributes := #[] }, { accessFlags := 9, nameIndex := 201, descriptorIndex := 335, attributes := #[] }] 49 4 #[] #[{ accessFlags := 25, nameIndex := 354, descriptorIndex := 339, attributes := #[] }, { accessFlags := 25, nameIndex := 358, descriptorIndex := 339, attributes := #[] }, { accessFlags := 25, nameIndex := 361, descriptorIndex := 339, attributes := #[] }, { accessFlags := 26, nameIndex := 364, descriptorIndex := 339, attributes := #[] }, { accessFlags := 26, nameIndex := 365, descriptorIndex := 339, attributes := #[] }, { accessFlags := 26, nameIndex := 172, descriptorIndex := 173, attributes := #[] }, { accessFlags := 26, nameIndex := 176, descriptorIndex := 173, attributes := #[] }, { accessFlags := 8, nameIndex := 344, descriptorIndex := 339, attributes := #[] }, { accessFlags := 8, nameIndex := 338, descriptorIndex := 339, attributes := #[] }, { accessFlags := 4120, nameIndex := 245, descriptorIndex := 246, attributes := #[] }])
  fields := #[{ name := "E", type := .double, accessFlags := 25, slot := 0, constantValue := 0 }, { name := "PI", type := .double, accessFlags := 25, slot := 1, constantValue := 0 }, { name := "TAU", type := .double, accessFlags := 25, slot := 2, constantValue := 0 }, { name := "DEGREES_TO_RADIANS", type := .double, accessFlags := 26, slot := 3, constantValue := 0 }, { name := "RADIANS_TO_DEGREES", type := .double, accessFlags := 26, slot := 4, constantValue := 0 }, { name := "negativeZeroFloatBits", type := .long, accessFlags := 26, slot := 5, constantValue := 0 }, { name := "negativeZeroDoubleBits", type := .long, accessFlags := 26, slot := 6, constantValue := 0 }, { name := "twoToTheDoubleScaleUp", type := .double, accessFlags := 8, slot := 7, constantValue := 0 }, { name := "twoToTheDoubleScaleDown", type := .double, accessFlags := 8, slot := 8, constantValue := 0 }, { name := "$assertionsDisabled", type := .boolean, accessFlags := 4120, slot := 9, constantValue := 0 }]
  methods := #[k20m0, k20m1, k20m2]
  instanceTypes := #[]
  staticTypes := #[.double, .double, .double, .double, .double, .long, .long, .double, .double, .boolean]
  resolved := Array.replicate 460 none
  statics := none }

def pool21 : Array CpInfo := pool [(1, .class_ 2), (0, u "java/lang/constant/Constable"), (0, .class_ 4), (0, u "java/lang/Object")] 6

/-- java/lang/constant/Constable -/
def k21 : Class := { plain "java/lang/constant/Constable" (some 0) with
  accessFlags := 1537
  interfaces := #[]
  cf := some (fileOf pool21 1 #[] #[] 1537 3 #[] #[])
  fields := #[]
  methods := #[]
  instanceTypes := #[]
  staticTypes := #[]
  resolved := Array.replicate 11 none
  statics := none }

def pool22 : Array CpInfo := pool [(1, .class_ 2), (0, u "java/lang/Comparable"), (0, .class_ 4), (0, u "java/lang/Object")] 7

/-- java/lang/Comparable -/
def k22 : Class := { plain "java/lang/Comparable" (some 0) with
  accessFlags := 1537
  interfaces := #[]
  cf := some (fileOf pool22 1 #[] #[] 1537 3 #[] #[])
  fields := #[]
  methods := #[]
  instanceTypes := #[]
  staticTypes := #[]
  resolved := Array.replicate 12 none
  statics := none }

def pool23 : Array CpInfo := pool [(2, .class_ 4), (1, u "java/lang/Enum"), (0, u "name"), (0, u "Ljava/lang/String;"), (2, u "ordinal"), (0, u "I"), (1, .class_ 14), (1, u "java/lang/Object"), (4, u "hash"), (86, .class_ 108), (1, u "java/lang/Enum$EnumDesc"), (2, .class_ 112), (0, u "java/lang/constant/Constable"), (0, .class_ 114), (0, u "java/lang/Comparable"), (0, .class_ 116), (0, u "java/io/Serializable")] 87

/-- java/lang/Enum -/
def k23 : Class := { plain "java/lang/Enum" (some 0) with
  accessFlags := 1057
  interfaces := #[21, 22, 10]
  cf := some (fileOf pool23 2 #[.nestMembers #[106]] #[] 1057 12 #[111, 113, 115] #[{ accessFlags := 18, nameIndex := 5, descriptorIndex := 6, attributes := #[] }, { accessFlags := 18, nameIndex := 9, descriptorIndex := 10, attributes := #[] }, { accessFlags := 2, nameIndex := 19, descriptorIndex := 10, attributes := #[] }])
  fields := #[{ name := "name", type := (.object "java/lang/String"), accessFlags := 18, slot := 0, constantValue := 0 }, { name := "ordinal", type := .int, accessFlags := 18, slot := 1, constantValue := 0 }, { name := "hash", type := .int, accessFlags := 2, slot := 2, constantValue := 0 }]
  methods := #[]
  instanceTypes := #[(.object "java/lang/String"), .int, .int]
  staticTypes := #[]
  resolved := Array.replicate 204 none
  statics := none }

def pool24 : Array CpInfo := pool [(1, .class_ 2), (0, u "com/example/seepline/seepline/model/Position$Kind"), (2, u "ARGUMENT"), (0, u "Lcom/example/seepline/seepline/model/Position$Kind;"), (2, u "RECEIVER"), (2, u "ANY"), (2, u "RESULT"), (2, u "$VALUES"), (0, u "[Lcom/example/seepline/seepline/model/Position$Kind;"), (6, .class_ 28), (1, u "java/lang/Enum"), (27, .class_ 57), (0, u "com/example/seepline/seepline/model/Position")] 2

/-- com/example/seepline/seepline/model/Position$Kind -/
def k24 : Class := { plain "com/example/seepline/seepline/model/Position$Kind" (some 23) with
  accessFlags := 16432
  interfaces := #[]
  cf := some (fileOf pool24 1 #[.nestHost 56] #[] 16432 26 #[] #[{ accessFlags := 16409, nameIndex := 5, descriptorIndex := 6, attributes := #[] }, { accessFlags := 16409, nameIndex := 9, descriptorIndex := 6, attributes := #[] }, { accessFlags := 16409, nameIndex := 12, descriptorIndex := 6, attributes := #[] }, { accessFlags := 16409, nameIndex := 15, descriptorIndex := 6, attributes := #[] }, { accessFlags := 4122, nameIndex := 18, descriptorIndex := 19, attributes := #[] }])
  fields := #[{ name := "ARGUMENT", type := (.object "com/example/seepline/seepline/model/Position$Kind"), accessFlags := 16409, slot := 0, constantValue := 0 }, { name := "RECEIVER", type := (.object "com/example/seepline/seepline/model/Position$Kind"), accessFlags := 16409, slot := 1, constantValue := 0 }, { name := "ANY", type := (.object "com/example/seepline/seepline/model/Position$Kind"), accessFlags := 16409, slot := 2, constantValue := 0 }, { name := "RESULT", type := (.object "com/example/seepline/seepline/model/Position$Kind"), accessFlags := 16409, slot := 3, constantValue := 0 }, { name := "$VALUES", type := (.array (.object "com/example/seepline/seepline/model/Position$Kind")), accessFlags := 4122, slot := 4, constantValue := 0 }]
  methods := #[]
  instanceTypes := #[(.object "java/lang/String"), .int, .int]
  staticTypes := #[(.object "com/example/seepline/seepline/model/Position$Kind"), (.object "com/example/seepline/seepline/model/Position$Kind"), (.object "com/example/seepline/seepline/model/Position$Kind"), (.object "com/example/seepline/seepline/model/Position$Kind"), (.array (.object "com/example/seepline/seepline/model/Position$Kind"))]
  resolved := Array.replicate 60 none
  statics := some 4 }

def pool25 : Array CpInfo := pool [(2, .class_ 4), (1, u "java/lang/Object"), (0, u "<init>"), (0, u "()V"), (7, .class_ 16), (1, u "java/util/Arrays"), (57, .class_ 76), (1, u "java/util/Arrays$NaturalOrder"), (9, .methodref 2 87), (0, .nameAndType 88 89), (0, u "getClass"), (0, u "()Ljava/lang/Class;"), (20, .class_ 111), (0, u "[Ljava/lang/Object;"), (1, .class_ 115), (1, u "java/util/Arrays$LegacyMergeSort"), (1, u "Z"), (32, .methodref 151 152), (0, .class_ 153), (0, .nameAndType 154 155), (0, u "java/lang/System"), (0, u "arraycopy"), (0, u "(Ljava/lang/Object;ILjava/lang/Object;II)V"), (144, .methodref 14 301), (0, .nameAndType 302 303), (0, u "copyOf"), (0, u "([Ljava/lang/Object;ILjava/lang/Class;)[Ljava/lang/Object;"), (0, .methodref 305 306), (0, .class_ 307), (0, .nameAndType 308 309), (0, u "java/lang/Math"), (0, u "min"), (0, u "(II)I"), (65, .class_ 376), (0, u "java/util/Arrays$ArrayList"), (68, u "$assertionsDisabled"), (269, u "MIN_ARRAY_SORT_GRAN"), (0, u "I"), (2, u "INSERTIONSORT_THRESHOLD"), (140, u "([Ljava/lang/Object;I)[Ljava/lang/Object;"), (114, .class_ 976), (0, u "java/util/Arrays$ArrayItr")] 52

def k25m0 : Method := { name := "<init>", desc := "()V", sig := { parameters := [], returnType := none }, accessFlags := 2, code := none }
def k25c1 : Code := { maxStack := 3, maxLocals := 2, code := jdk_65_method_119_code, exceptionTable := #[], attributes := #[] }
def k25m1 : Method := { name := "copyOf", desc := "([Ljava/lang/Object;I)[Ljava/lang/Object;", sig := { parameters := [(.array (.object "java/lang/Object")), .int], returnType := some (.array (.object "java/lang/Object")) }, accessFlags := 9, code := some k25c1 }
def k25c2 : Code := { maxStack := 6, maxLocals := 4, code := jdk_65_method_120_code, exceptionTable := #[], attributes := #[] }
def k25m2 : Method := { name := "copyOf", desc := "([Ljava/lang/Object;ILjava/lang/Class;)[Ljava/lang/Object;", sig := { parameters := [(.array (.object "java/lang/Object")), .int, (.object "java/lang/Class")], returnType := some (.array (.object "java/lang/Object")) }, accessFlags := 9, code := some k25c2 }
/-- java/util/Arrays -/
def k25 : Class := { plain "java/util/Arrays" (some 0) with
  accessFlags := 49
  interfaces := #[]
  cf := some (fileOf pool25 14 #[.nestMembers #[975, 375, 113, 74]] #[{ accessFlags := 2, nameIndex := 5, descriptorIndex := 6, attributes := #[] }, { accessFlags := 9, nameIndex := 302, descriptorIndex := 860, attributes := #[] }, { accessFlags := 9, nameIndex := 302, descriptorIndex := 303, attributes := #[] }] 49 2 #[] #[{ accessFlags := 26, nameIndex := 715, descriptorIndex := 716, attributes := #[] }, { accessFlags := 26, nameIndex := 719, descriptorIndex := 716, attributes := #[] }, { accessFlags := 4120, nameIndex := 445, descriptorIndex := 117, attributes := #[] }])
  fields := #[{ name := "MIN_ARRAY_SORT_GRAN", type := .int, accessFlags := 26, slot := 0, constantValue := 0 }, { name := "INSERTIONSORT_THRESHOLD", type := .int, accessFlags := 26, slot := 1, constantValue := 0 }, { name := "$assertionsDisabled", type := .boolean, accessFlags := 4120, slot := 2, constantValue := 0 }]
  methods := #[k25m0, k25m1, k25m2]
  instanceTypes := #[]
  staticTypes := #[.int, .int, .boolean]
  resolved := Array.replicate 1029 none
  statics := none }

def pool26 : Array CpInfo := pool [(2, .class_ 4), (1, u "java/lang/Object"), (0, u "<init>"), (0, u "()V"), (1, .class_ 10), (1, u "java/lang/System"), (0, u "allowSecurityManager"), (0, u "I"), (16, u "cons"), (0, u "Ljava/io/Console;"), (77, .class_ 110), (1, u "java/lang/System$CallersHolder"), (43, u "initialErrStream"), (0, u "Ljava/io/PrintStream;"), (19, u "security"), (0, u "Ljava/lang/SecurityManager;"), (31, .class_ 209), (0, u "java/lang/System$1"), (7, u "props"), (0, u "Ljava/util/Properties;"), (2, u "lineSeparator"), (0, u "Ljava/lang/String;"), (96, .class_ 321), (1, u "java/lang/System$LoggerFinder"), (5, .class_ 328), (0, u "java/lang/System$Logger"), (67, u "err"), (2, u "out"), (91, u "notSupportedJnuEncoding"), (15, u "in"), (17, u "initialIn"), (0, u "Ljava/io/InputStream;"), (35, u "bootLayer"), (0, u "Ljava/lang/ModuleLayer;"), (99, .class_ 664), (0, u "java/lang/System$2"), (9, u "NEVER"), (2, u "MAYBE"), (49, u "arraycopy"), (0, u "(Ljava/lang/Object;ILjava/lang/Object;II)V"), (72, .class_ 802), (0, u "java/lang/System$Logger$Level")] 31

def k26m0 : Method := { name := "<init>", desc := "()V", sig := { parameters := [], returnType := none }, accessFlags := 2, code := none }
def k26m1 : Method := { name := "arraycopy", desc := "(Ljava/lang/Object;ILjava/lang/Object;II)V", sig := { parameters := [(.object "java/lang/Object"), .int, (.object "java/lang/Object"), .int, .int], returnType := none }, accessFlags := 265, code := none }
/-- java/lang/System -/
def k26 : Class := { plain "java/lang/System" (some 0) with
  accessFlags := 49
  interfaces := #[]
  cf := some (fileOf pool26 8 #[.nestMembers #[319, 327, 801, 108, 663, 208]] #[{ accessFlags := 2, nameIndex := 5, descriptorIndex := 6, attributes := #[] }, { accessFlags := 265, nameIndex := 727, descriptorIndex := 728, attributes := #[] }] 49 2 #[] #[{ accessFlags := 25, nameIndex := 507, descriptorIndex := 526, attributes := #[] }, { accessFlags := 25, nameIndex := 399, descriptorIndex := 155, attributes := #[] }, { accessFlags := 25, nameIndex := 396, descriptorIndex := 155, attributes := #[] }, { accessFlags := 10, nameIndex := 525, descriptorIndex := 526, attributes := #[] }, { accessFlags := 26, nameIndex := 674, descriptorIndex := 12, attributes := #[] }, { accessFlags := 26, nameIndex := 677, descriptorIndex := 12, attributes := #[] }, { accessFlags := 10, nameIndex := 11, descriptorIndex := 12, attributes := #[] }, { accessFlags := 74, nameIndex := 175, descriptorIndex := 176, attributes := #[] }, { accessFlags := 10, nameIndex := 491, descriptorIndex := 222, attributes := #[] }, { accessFlags := 74, nameIndex := 29, descriptorIndex := 30, attributes := #[] }, { accessFlags := 74, nameIndex := 154, descriptorIndex := 155, attributes := #[] }, { accessFlags := 10, nameIndex := 217, descriptorIndex := 218, attributes := #[] }, { accessFlags := 10, nameIndex := 221, descriptorIndex := 222, attributes := #[] }, { accessFlags := 8, nameIndex := 562, descriptorIndex := 563, attributes := #[] }])
  fields := #[{ name := "in", type := (.object "java/io/InputStream"), accessFlags := 25, slot := 0, constantValue := 0 }, { name := "out", type := (.object "java/io/PrintStream"), accessFlags := 25, slot := 1, constantValue := 0 }, { name := "err", type := (.object "java/io/PrintStream"), accessFlags := 25, slot := 2, constantValue := 0 }, { name := "initialIn", type := (.object "java/io/InputStream"), accessFlags := 10, slot := 3, constantValue := 0 }, { name := "NEVER", type := .int, accessFlags := 26, slot := 4, constantValue := 0 }, { name := "MAYBE", type := .int, accessFlags := 26, slot := 5, constantValue := 0 }, { name := "allowSecurityManager", type := .int, accessFlags := 10, slot := 6, constantValue := 0 }, { name := "security", type := (.object "java/lang/SecurityManager"), accessFlags := 74, slot := 7, constantValue := 0 }, { name := "notSupportedJnuEncoding", type := (.object "java/lang/String"), accessFlags := 10, slot := 8, constantValue := 0 }, { name := "cons", type := (.object "java/io/Console"), accessFlags := 74, slot := 9, constantValue := 0 }, { name := "initialErrStream", type := (.object "java/io/PrintStream"), accessFlags := 74, slot := 10, constantValue := 0 }, { name := "props", type := (.object "java/util/Properties"), accessFlags := 10, slot := 11, constantValue := 0 }, { name := "lineSeparator", type := (.object "java/lang/String"), accessFlags := 10, slot := 12, constantValue := 0 }, { name := "bootLayer", type := (.object "java/lang/ModuleLayer"), accessFlags := 8, slot := 13, constantValue := 0 }]
  methods := #[k26m0, k26m1]
  instanceTypes := #[]
  staticTypes := #[(.object "java/io/InputStream"), (.object "java/io/PrintStream"), (.object "java/io/PrintStream"), (.object "java/io/InputStream"), .int, .int, .int, (.object "java/lang/SecurityManager"), (.object "java/lang/String"), (.object "java/io/Console"), (.object "java/io/PrintStream"), (.object "java/util/Properties"), (.object "java/lang/String"), (.object "java/lang/ModuleLayer")]
  resolved := Array.replicate 834 none
  statics := none }

def pool27 : Array CpInfo := pool [(2, .class_ 4), (1, u "java/lang/Object"), (0, u "<init>"), (0, u "()V"), (35, .class_ 44), (1, u "java/util/Objects"), (0, u "requireNonNull"), (0, u "(Ljava/lang/Object;)Ljava/lang/Object;")] 137

def k27m0 : Method := { name := "<init>", desc := "()V", sig := { parameters := [], returnType := none }, accessFlags := 2, code := none }
def k27c1 : Code := { maxStack := 2, maxLocals := 1, code := jdk_31_method_10_code, exceptionTable := #[], attributes := #[] }
def k27m1 : Method := { name := "requireNonNull", desc := "(Ljava/lang/Object;)Ljava/lang/Object;", sig := { parameters := [(.object "java/lang/Object")], returnType := some (.object "java/lang/Object") }, accessFlags := 9, code := some k27c1 }
/-- java/util/Objects -/
def k27 : Class := { plain "java/util/Objects" (some 0) with
  accessFlags := 49
  interfaces := #[]
  cf := some (fileOf pool27 42 #[] #[{ accessFlags := 2, nameIndex := 5, descriptorIndex := 6, attributes := #[] }, { accessFlags := 9, nameIndex := 45, descriptorIndex := 46, attributes := #[] }] 49 2 #[] #[])
  fields := #[]
  methods := #[k27m0, k27m1]
  instanceTypes := #[]
  staticTypes := #[]
  resolved := Array.replicate 184 none
  statics := none }

def pool28 : Array CpInfo := pool [(1, u "java/lang/Class"), (0, .class_ 1), (0, u "java/lang/Object"), (0, .class_ 3)] 0

/-- java/lang/Class -/
def k28 : Class := { plain "java/lang/Class" (some 0) with
  accessFlags := 49
  interfaces := #[]
  cf := some (fileOf pool28 2 #[] #[] 49 4 #[] #[])
  fields := #[]
  methods := #[]
  instanceTypes := #[]
  staticTypes := #[]
  resolved := Array.replicate 5 none
  statics := none }

/-- the primitive byte -/
def k29 : Class := { plain "byte" none with kind := .primitive 'B', accessFlags := 0x411 }
/-- [B -/
def k30 : Class := { plain "[B" (some 0) with kind := .array 29 .byte, interfaces := #[9, 10], accessFlags := 1041 }

/-- the primitive int -/
def k31 : Class := { plain "int" none with kind := .primitive 'I', accessFlags := 0x411 }
/-- [I -/
def k32 : Class := { plain "[I" (some 0) with kind := .array 31 .int, interfaces := #[9, 10], accessFlags := 1041 }

/-- [Ljava/lang/Object; -/
def k33 : Class := { plain "[Ljava/lang/Object;" (some 0) with kind := .array 0 (.object "java/lang/Object"), interfaces := #[9, 10], accessFlags := 1041, mirror := some 5 }

def heap : Heap := #[{ cls := 11, slots := #[.long 0, .int 0, .ref 7, .ref 6], vm := .statics 11 },
  { cls := 13, slots := #[.ref 15], vm := .statics 13 },
  { cls := 14, slots := #[.long 0, .int 0, .null, .ref 10, .ref 9, .null, .null, .null, .int 0, .int 1], vm := .statics 14 },
  { cls := 19, slots := #[.ref 11, .ref 12, .ref 13], vm := .statics 19 },
  { cls := 24, slots := #[.ref 14, .null, .null, .null, .null], vm := .statics 24 },
  { cls := 28, slots := #[], vm := .mirror 33 },
  { cls := 33, slots := #[], vm := .none },
  { cls := 33, slots := #[], vm := .none },
  { cls := 33, slots := #[], vm := .none },
  { cls := 18, slots := #[.ref 8, .int 0], vm := .none },
  { cls := 0, slots := #[], vm := .none },
  { cls := 19, slots := #[.null, .int 0], vm := .none },
  { cls := 19, slots := #[.null, .int 0], vm := .none },
  { cls := 19, slots := #[.null, .int 0], vm := .none },
  { cls := 24, slots := #[.null, .int 0, .int 0], vm := .none },
  { cls := 13, slots := #[.ref 9, .int 0, .ref 9], vm := .none }]
def classes : Array Class := #[k0, k1, k2, k3, k4, k5, k6, k7, k8, k9, k10, k11, k12, k13, k14, k15, k16, k17, k18, k19, k20, k21, k22, k23, k24, k25, k26, k27, k28, k29, k30, k31, k32, k33]
def interned : List (Array UInt16 × Addr) := []
def slotsUsed : Nat := 37
def theMethod : MethodId := ⟨1, 2⟩
def args0 : Array Value := #[.int 5, .int 7, .int 1, .int 2, .int 3]
def aboutOver (below : List Frame) : State where
  vm := { classes := classes, interned := interned.toArray }
  heap := heap
  slotsUsed := slotsUsed
  threads := #[{ frames := .invoking theMethod args0 :: below }]
def below0 : List Frame := [.native { method := ⟨0, 0⟩, args := #[] }]
def about1 : State := aboutOver below0
def p0 : Program := .bare "" "" ""
def e0 : Env := launch0.env 0 0 0
theorem w_frames : about1.frames = Frame.invoking theMethod args0 :: below0 := rfl
set_option maxRecDepth 65536 in
theorem w_args : argsFit about1.vm theMethod args0 = true := by decide +kernel
set_option maxRecDepth 65536 in
theorem w_heap : heapFits about1 = true := by decide +kernel
set_option maxRecDepth 65536 in
theorem w_runnable : about1.curStatus? = some .runnable := by decide +kernel
set_option maxRecDepth 65536 in
theorem w_alone : about1.alone = true := by decide +kernel
set_option maxRecDepth 65536 in
theorem w_named : about1.methodNamed? x = some theMethod := by decide +kernel
set_option maxRecDepth 65536 in
theorem w_hears : about1.hears theMethod below0 = true := by decide +kernel
set_option maxRecDepth 65536 in
theorem w_ripe : about1.ripe theMethod args0 below0 = true := by decide +kernel
theorem w_running : about1.status = .running := rfl
set_option maxRecDepth 65536 in
theorem w_room : about1.hasRoom e0.platform room_1 = true :=
  launch0.hasRoom_least _ room_1 (by decide +kernel) (by decide +kernel) (by decide +kernel) (by decide +kernel) (by decide +kernel) (by decide +kernel)
theorem allAtoms_all (ts : List Jvm.Cond) (a : Array Jvm.Value) (st : Jvm.State) : (allAtoms ts).before a st = ts.all (fun c => c.before a st) := by
  induction ts with
  | nil => rfl
  | cons c t ih =>
    show (Jvm.Cond.and c (allAtoms t)).before a st = _
    rw [Jvm.Cond.before_and, ih, List.all_cons]
def words1 : List Jvm.Cond := Jvm.Cond.code x code maxLocals ret :: tables_1
/-- a 'code' word, met by the world's own term for the bytes: nothing is compared byte by byte -/
theorem code_word {y : MethodName} {bytes : ByteArray} {mx : Nat} {rt : Option FieldType} {a : Array Value} {s : State} {m : MethodId} {meth : Method} {c : Code} (h1 : s.methodNamed? y = some m) (h2 : s.vm.method? m = some meth) (h3 : meth.code = some c) (h4 : c.code = bytes)
    (h5 : (c.maxLocals == mx && c.exceptionTable.isEmpty && decide (c.maxStack ≤ mostOperands) && decide (meth.sig.returnType = rt) && !meth.locks && decide (parseMethodDescriptor y.desc = some meth.sig)) = true) : (Jvm.Cond.code y bytes mx rt).before a s = true := by
  simp only [Bool.and_eq_true, beq_iff_eq, Bool.not_eq_true', decide_eq_true_eq] at h5
  obtain ⟨⟨⟨⟨⟨g1, g2⟩, g3⟩, g4⟩, g5⟩, g6⟩ := h5
  simp [Cond.before, Cond.holds, Cond.value, h1, h2, h3, h4, g1, g2, g3, g4, g5, g6]
def isCode : Jvm.Cond → Bool
  | .code _ _ _ _ => true
  | _ => false
theorem all_split {L : List Jvm.Cond} {P : Jvm.Cond → Bool} (h1 : L.all (fun c => isCode c || P c) = true) (h2 : ∀ c ∈ L.filter isCode, P c = true) : L.all P = true := by
  refine List.all_eq_true.mpr fun c hc => ?_
  have h := List.all_eq_true.mp h1 c hc
  rcases Bool.eq_false_or_eq_true (isCode c) with hi | hi
  · exact h2 c (List.mem_filter.mpr ⟨hc, hi⟩)
  · simpa [hi] using h
set_option maxRecDepth 65536 in
theorem w_c0 : (Jvm.Cond.code x code maxLocals ret).before args0 about1 = true := code_word (m := ⟨1, 2⟩) (meth := k1m2) (c := k1c2) (by decide +kernel) rfl rfl rfl (by decide +kernel)
set_option maxRecDepth 65536 in
theorem w_c1 : (Jvm.Cond.code ({ cls := "java/util/ArrayList", name := "<init>", desc := "()V" } : Jvm.MethodName) jdk_38_method_2_code (1 : Nat) (Option.none : Option Jvm.ClassFile.FieldType)).before args0 about1 = true := code_word (m := ⟨11, 0⟩) (meth := k11m0) (c := k11c0) (by decide +kernel) rfl rfl rfl (by decide +kernel)
set_option maxRecDepth 65536 in
theorem w_c2 : (Jvm.Cond.code ({ cls := "java/util/AbstractList", name := "<init>", desc := "()V" } : Jvm.MethodName) jdk_39_method_1_code (1 : Nat) (Option.none : Option Jvm.ClassFile.FieldType)).before args0 about1 = true := code_word (m := ⟨7, 0⟩) (meth := k7m0) (c := k7c0) (by decide +kernel) rfl rfl rfl (by decide +kernel)
set_option maxRecDepth 65536 in
theorem w_c3 : (Jvm.Cond.code ({ cls := "java/util/AbstractCollection", name := "<init>", desc := "()V" } : Jvm.MethodName) jdk_22_method_1_code (1 : Nat) (Option.none : Option Jvm.ClassFile.FieldType)).before args0 about1 = true := code_word (m := ⟨4, 0⟩) (meth := k4m0) (c := k4c0) (by decide +kernel) rfl rfl rfl (by decide +kernel)
set_option maxRecDepth 65536 in
theorem w_c4 : (Jvm.Cond.code ({ cls := "java/lang/Object", name := "<init>", desc := "()V" } : Jvm.MethodName) object_method_1_code (1 : Nat) (Option.none : Option Jvm.ClassFile.FieldType)).before args0 about1 = true := code_word (m := ⟨0, 0⟩) (meth := k0m0) (c := k0c0) (by decide +kernel) rfl rfl rfl (by decide +kernel)
set_option maxRecDepth 65536 in
theorem w_c5 : (Jvm.Cond.code ({ cls := "com/example/seepline/seepline/model/CallRules", name := "<init>", desc := "(Ljava/util/List;ZLjava/util/List;)V" } : Jvm.MethodName) prog_6_method_1_code (4 : Nat) (Option.none : Option Jvm.ClassFile.FieldType)).before args0 about1 = true := code_word (m := ⟨13, 0⟩) (meth := k13m0) (c := k13c0) (by decide +kernel) rfl rfl rfl (by decide +kernel)
set_option maxRecDepth 65536 in
theorem w_c6 : (Jvm.Cond.code ({ cls := "java/lang/Record", name := "<init>", desc := "()V" } : Jvm.MethodName) jdk_30_method_1_code (1 : Nat) (Option.none : Option Jvm.ClassFile.FieldType)).before args0 about1 = true := code_word (m := ⟨12, 0⟩) (meth := k12m0) (c := k12c0) (by decide +kernel) rfl rfl rfl (by decide +kernel)
set_option maxRecDepth 65536 in
theorem w_c7 : (Jvm.Cond.code ({ cls := "java/util/List", name := "copyOf", desc := "(Ljava/util/Collection;)Ljava/util/List;" } : Jvm.MethodName) jdk_40_method_48_code (1 : Nat) (Option.some (Jvm.ClassFile.FieldType.object "java/util/List"))).before args0 about1 = true := code_word (m := ⟨6, 3⟩) (meth := k6m3) (c := k6c3) (by decide +kernel) rfl rfl rfl (by decide +kernel)
set_option maxRecDepth 65536 in
theorem w_c8 : (Jvm.Cond.code ({ cls := "java/util/ImmutableCollections", name := "listCopy", desc := "(Ljava/util/Collection;)Ljava/util/List;" } : Jvm.MethodName) jdk_56_method_3_code (2 : Nat) (Option.some (Jvm.ClassFile.FieldType.object "java/util/List"))).before args0 about1 = true := code_word (m := ⟨14, 1⟩) (meth := k14m1) (c := k14c1) (by decide +kernel) rfl rfl rfl (by decide +kernel)
set_option maxRecDepth 65536 in
theorem w_c9 : (Jvm.Cond.code ({ cls := "java/util/ArrayList", name := "isEmpty", desc := "()Z" } : Jvm.MethodName) jdk_38_method_9_code (1 : Nat) (Option.some Jvm.ClassFile.FieldType.boolean)).before args0 about1 = true := code_word (m := ⟨11, 3⟩) (meth := k11m3) (c := k11c3) (by decide +kernel) rfl rfl rfl (by decide +kernel)
set_option maxRecDepth 65536 in
theorem w_c10 : (Jvm.Cond.code ({ cls := "java/util/List", name := "of", desc := "()Ljava/util/List;" } : Jvm.MethodName) jdk_40_method_36_code (0 : Nat) (Option.some (Jvm.ClassFile.FieldType.object "java/util/List"))).before args0 about1 = true := code_word (m := ⟨6, 1⟩) (meth := k6m1) (c := k6c1) (by decide +kernel) rfl rfl rfl (by decide +kernel)
set_option maxRecDepth 65536 in
theorem w_c11 : (Jvm.Cond.code ({ cls := "java/util/ArrayList", name := "add", desc := "(Ljava/lang/Object;)Z" } : Jvm.MethodName) jdk_38_method_25_code (2 : Nat) (Option.some Jvm.ClassFile.FieldType.boolean)).before args0 about1 = true := code_word (m := ⟨11, 6⟩) (meth := k11m6) (c := k11c6) (by decide +kernel) rfl rfl rfl (by decide +kernel)
set_option maxRecDepth 65536 in
theorem w_c12 : (Jvm.Cond.code ({ cls := "java/util/ArrayList", name := "add", desc := "(Ljava/lang/Object;[Ljava/lang/Object;I)V" } : Jvm.MethodName) jdk_38_method_24_code (4 : Nat) (Option.none : Option Jvm.ClassFile.FieldType)).before args0 about1 = true := code_word (m := ⟨11, 5⟩) (meth := k11m5) (c := k11c5) (by decide +kernel) rfl rfl rfl (by decide +kernel)
set_option maxRecDepth 65536 in
theorem w_c13 : (Jvm.Cond.code ({ cls := "java/util/ArrayList", name := "grow", desc := "()[Ljava/lang/Object;" } : Jvm.MethodName) jdk_38_method_7_code (1 : Nat) (Option.some (Jvm.ClassFile.FieldType.array (Jvm.ClassFile.FieldType.object "java/lang/Object")))).before args0 about1 = true := code_word (m := ⟨11, 2⟩) (meth := k11m2) (c := k11c2) (by decide +kernel) rfl rfl rfl (by decide +kernel)
set_option maxRecDepth 65536 in
theorem w_c14 : (Jvm.Cond.code ({ cls := "java/util/ArrayList", name := "grow", desc := "(I)[Ljava/lang/Object;" } : Jvm.MethodName) jdk_38_method_6_code (4 : Nat) (Option.some (Jvm.ClassFile.FieldType.array (Jvm.ClassFile.FieldType.object "java/lang/Object")))).before args0 about1 = true := code_word (m := ⟨11, 1⟩) (meth := k11m1) (c := k11c1) (by decide +kernel) rfl rfl rfl (by decide +kernel)
set_option maxRecDepth 65536 in
theorem w_c15 : (Jvm.Cond.code ({ cls := "java/lang/Math", name := "max", desc := "(II)I" } : Jvm.MethodName) jdk_29_method_65_code (2 : Nat) (Option.some Jvm.ClassFile.FieldType.int)).before args0 about1 = true := code_word (m := ⟨20, 1⟩) (meth := k20m1) (c := k20c1) (by decide +kernel) rfl rfl rfl (by decide +kernel)
set_option maxRecDepth 65536 in
theorem w_c16 : (Jvm.Cond.code ({ cls := "com/example/seepline/seepline/model/CallRules", name := "isEmpty", desc := "()Z" } : Jvm.MethodName) prog_6_method_3_code (1 : Nat) (Option.some Jvm.ClassFile.FieldType.boolean)).before args0 about1 = true := code_word (m := ⟨13, 1⟩) (meth := k13m1) (c := k13c1) (by decide +kernel) rfl rfl rfl (by decide +kernel)
set_option maxRecDepth 65536 in
theorem w_c17 : (Jvm.Cond.code ({ cls := "java/util/ImmutableCollections$ListN", name := "isEmpty", desc := "()Z" } : Jvm.MethodName) jdk_45_method_2_code (1 : Nat) (Option.some Jvm.ClassFile.FieldType.boolean)).before args0 about1 = true := code_word (m := ⟨18, 0⟩) (meth := k18m0) (c := k18c0) (by decide +kernel) rfl rfl rfl (by decide +kernel)
set_option maxRecDepth 65536 in
theorem w_c18 : (Jvm.Cond.code ({ cls := "com/example/seepline/seepline/model/CallRulesIsEmptyPinLaw", name := "pos", desc := "(II)Lcom/example/seepline/seepline/model/Position;" } : Jvm.MethodName) method_2_code (3 : Nat) (Option.some (Jvm.ClassFile.FieldType.object "com/example/seepline/seepline/model/Position"))).before args0 about1 = true := code_word (m := ⟨1, 1⟩) (meth := k1m1) (c := k1c1) (by decide +kernel) rfl rfl rfl (by decide +kernel)
set_option maxRecDepth 65536 in
theorem w_c19 : (Jvm.Cond.code ({ cls := "com/example/seepline/seepline/model/Position", name := "argument", desc := "(I)Lcom/example/seepline/seepline/model/Position;" } : Jvm.MethodName) prog_13_method_2_code (1 : Nat) (Option.some (Jvm.ClassFile.FieldType.object "com/example/seepline/seepline/model/Position"))).before args0 about1 = true := code_word (m := ⟨19, 1⟩) (meth := k19m1) (c := k19c1) (by decide +kernel) rfl rfl rfl (by decide +kernel)
set_option maxRecDepth 65536 in
theorem w_c20 : (Jvm.Cond.code ({ cls := "com/example/seepline/seepline/model/Position", name := "<init>", desc := "(Lcom/example/seepline/seepline/model/Position$Kind;I)V" } : Jvm.MethodName) prog_13_method_1_code (3 : Nat) (Option.none : Option Jvm.ClassFile.FieldType)).before args0 about1 = true := code_word (m := ⟨19, 0⟩) (meth := k19m0) (c := k19c0) (by decide +kernel) rfl rfl rfl (by decide +kernel)
set_option maxRecDepth 65536 in
theorem w_c21 : (Jvm.Cond.code ({ cls := "java/util/ArrayList", name := "toArray", desc := "()[Ljava/lang/Object;" } : Jvm.MethodName) jdk_38_method_16_code (1 : Nat) (Option.some (Jvm.ClassFile.FieldType.array (Jvm.ClassFile.FieldType.object "java/lang/Object")))).before args0 about1 = true := code_word (m := ⟨11, 4⟩) (meth := k11m4) (c := k11c4) (by decide +kernel) rfl rfl rfl (by decide +kernel)
set_option maxRecDepth 65536 in
theorem w_c22 : (Jvm.Cond.code ({ cls := "java/util/Arrays", name := "copyOf", desc := "([Ljava/lang/Object;I)[Ljava/lang/Object;" } : Jvm.MethodName) jdk_65_method_119_code (2 : Nat) (Option.some (Jvm.ClassFile.FieldType.array (Jvm.ClassFile.FieldType.object "java/lang/Object")))).before args0 about1 = true := code_word (m := ⟨25, 1⟩) (meth := k25m1) (c := k25c1) (by decide +kernel) rfl rfl rfl (by decide +kernel)
set_option maxRecDepth 65536 in
theorem w_c23 : (Jvm.Cond.code ({ cls := "java/util/Arrays", name := "copyOf", desc := "([Ljava/lang/Object;ILjava/lang/Class;)[Ljava/lang/Object;" } : Jvm.MethodName) jdk_65_method_120_code (4 : Nat) (Option.some (Jvm.ClassFile.FieldType.array (Jvm.ClassFile.FieldType.object "java/lang/Object")))).before args0 about1 = true := code_word (m := ⟨25, 2⟩) (meth := k25m2) (c := k25c2) (by decide +kernel) rfl rfl rfl (by decide +kernel)
set_option maxRecDepth 65536 in
theorem w_c24 : (Jvm.Cond.code ({ cls := "java/lang/Math", name := "min", desc := "(II)I" } : Jvm.MethodName) jdk_29_method_69_code (2 : Nat) (Option.some Jvm.ClassFile.FieldType.int)).before args0 about1 = true := code_word (m := ⟨20, 2⟩) (meth := k20m2) (c := k20c2) (by decide +kernel) rfl rfl rfl (by decide +kernel)
set_option maxRecDepth 65536 in
theorem w_c25 : (Jvm.Cond.code ({ cls := "java/util/List", name := "of", desc := "([Ljava/lang/Object;)Ljava/util/List;" } : Jvm.MethodName) jdk_40_method_47_code (2 : Nat) (Option.some (Jvm.ClassFile.FieldType.object "java/util/List"))).before args0 about1 = true := code_word (m := ⟨6, 2⟩) (meth := k6m2) (c := k6c2) (by decide +kernel) rfl rfl rfl (by decide +kernel)
set_option maxRecDepth 65536 in
theorem w_c26 : (Jvm.Cond.code ({ cls := "java/util/ImmutableCollections$List12", name := "<init>", desc := "(Ljava/lang/Object;Ljava/lang/Object;)V" } : Jvm.MethodName) jdk_44_method_2_code (3 : Nat) (Option.none : Option Jvm.ClassFile.FieldType)).before args0 about1 = true := code_word (m := ⟨17, 1⟩) (meth := k17m1) (c := k17c1) (by decide +kernel) rfl rfl rfl (by decide +kernel)
set_option maxRecDepth 65536 in
theorem w_c27 : (Jvm.Cond.code ({ cls := "java/util/ImmutableCollections$AbstractImmutableList", name := "<init>", desc := "()V" } : Jvm.MethodName) jdk_46_method_1_code (1 : Nat) (Option.none : Option Jvm.ClassFile.FieldType)).before args0 about1 = true := code_word (m := ⟨16, 0⟩) (meth := k16m0) (c := k16c0) (by decide +kernel) rfl rfl rfl (by decide +kernel)
set_option maxRecDepth 65536 in
theorem w_c28 : (Jvm.Cond.code ({ cls := "java/util/ImmutableCollections$AbstractImmutableCollection", name := "<init>", desc := "()V" } : Jvm.MethodName) jdk_47_method_1_code (1 : Nat) (Option.none : Option Jvm.ClassFile.FieldType)).before args0 about1 = true := code_word (m := ⟨15, 0⟩) (meth := k15m0) (c := k15c0) (by decide +kernel) rfl rfl rfl (by decide +kernel)
set_option maxRecDepth 65536 in
theorem w_c29 : (Jvm.Cond.code ({ cls := "java/util/Objects", name := "requireNonNull", desc := "(Ljava/lang/Object;)Ljava/lang/Object;" } : Jvm.MethodName) jdk_31_method_10_code (1 : Nat) (Option.some (Jvm.ClassFile.FieldType.object "java/lang/Object"))).before args0 about1 = true := code_word (m := ⟨27, 1⟩) (meth := k27m1) (c := k27c1) (by decide +kernel) rfl rfl rfl (by decide +kernel)
set_option maxRecDepth 65536 in
theorem w_c30 : (Jvm.Cond.code ({ cls := "java/util/ImmutableCollections$List12", name := "<init>", desc := "(Ljava/lang/Object;)V" } : Jvm.MethodName) jdk_44_method_1_code (2 : Nat) (Option.none : Option Jvm.ClassFile.FieldType)).before args0 about1 = true := code_word (m := ⟨17, 0⟩) (meth := k17m0) (c := k17c0) (by decide +kernel) rfl rfl rfl (by decide +kernel)
set_option maxRecDepth 65536 in
theorem w_c31 : (Jvm.Cond.code ({ cls := "java/util/ImmutableCollections$List12", name := "isEmpty", desc := "()Z" } : Jvm.MethodName) jdk_44_method_4_code (1 : Nat) (Option.some Jvm.ClassFile.FieldType.boolean)).before args0 about1 = true := code_word (m := ⟨17, 2⟩) (meth := k17m2) (c := k17c2) (by decide +kernel) rfl rfl rfl (by decide +kernel)
def codes1 : List Jvm.Cond := [Jvm.Cond.code x code maxLocals ret, Jvm.Cond.code ({ cls := "java/util/ArrayList", name := "<init>", desc := "()V" } : Jvm.MethodName) jdk_38_method_2_code (1 : Nat) (Option.none : Option Jvm.ClassFile.FieldType), Jvm.Cond.code ({ cls := "java/util/AbstractList", name := "<init>", desc := "()V" } : Jvm.MethodName) jdk_39_method_1_code (1 : Nat) (Option.none : Option Jvm.ClassFile.FieldType), Jvm.Cond.code ({ cls := "java/util/AbstractCollection", name := "<init>", desc := "()V" } : Jvm.MethodName) jdk_22_method_1_code (1 : Nat) (Option.none : Option Jvm.ClassFile.FieldType), Jvm.Cond.code ({ cls := "java/lang/Object", name := "<init>", desc := "()V" } : Jvm.MethodName) object_method_1_code (1 : Nat) (Option.none : Option Jvm.ClassFile.FieldType), Jvm.Cond.code ({ cls := "com/example/seepline/seepline/model/CallRules", name := "<init>", desc := "(Ljava/util/List;ZLjava/util/List;)V" } : Jvm.MethodName) prog_6_method_1_code (4 : Nat) (Option.none : Option Jvm.ClassFile.FieldType), Jvm.Cond.code ({ cls := "java/lang/Record", name := "<init>", desc := "()V" } : Jvm.MethodName) jdk_30_method_1_code (1 : Nat) (Option.none : Option Jvm.ClassFile.FieldType), Jvm.Cond.code ({ cls := "java/util/List", name := "copyOf", desc := "(Ljava/util/Collection;)Ljava/util/List;" } : Jvm.MethodName) jdk_40_method_48_code (1 : Nat) (Option.some (Jvm.ClassFile.FieldType.object "java/util/List")), Jvm.Cond.code ({ cls := "java/util/ImmutableCollections", name := "listCopy", desc := "(Ljava/util/Collection;)Ljava/util/List;" } : Jvm.MethodName) jdk_56_method_3_code (2 : Nat) (Option.some (Jvm.ClassFile.FieldType.object "java/util/List")), Jvm.Cond.code ({ cls := "java/util/ArrayList", name := "isEmpty", desc := "()Z" } : Jvm.MethodName) jdk_38_method_9_code (1 : Nat) (Option.some Jvm.ClassFile.FieldType.boolean), Jvm.Cond.code ({ cls := "java/util/List", name := "of", desc := "()Ljava/util/List;" } : Jvm.MethodName) jdk_40_method_36_code (0 : Nat) (Option.some (Jvm.ClassFile.FieldType.object "java/util/List")), Jvm.Cond.code ({ cls := "java/util/ArrayList", name := "add", desc := "(Ljava/lang/Object;)Z" } : Jvm.MethodName) jdk_38_method_25_code (2 : Nat) (Option.some Jvm.ClassFile.FieldType.boolean), Jvm.Cond.code ({ cls := "java/util/ArrayList", name := "add", desc := "(Ljava/lang/Object;[Ljava/lang/Object;I)V" } : Jvm.MethodName) jdk_38_method_24_code (4 : Nat) (Option.none : Option Jvm.ClassFile.FieldType), Jvm.Cond.code ({ cls := "java/util/ArrayList", name := "grow", desc := "()[Ljava/lang/Object;" } : Jvm.MethodName) jdk_38_method_7_code (1 : Nat) (Option.some (Jvm.ClassFile.FieldType.array (Jvm.ClassFile.FieldType.object "java/lang/Object"))), Jvm.Cond.code ({ cls := "java/util/ArrayList", name := "grow", desc := "(I)[Ljava/lang/Object;" } : Jvm.MethodName) jdk_38_method_6_code (4 : Nat) (Option.some (Jvm.ClassFile.FieldType.array (Jvm.ClassFile.FieldType.object "java/lang/Object"))), Jvm.Cond.code ({ cls := "java/lang/Math", name := "max", desc := "(II)I" } : Jvm.MethodName) jdk_29_method_65_code (2 : Nat) (Option.some Jvm.ClassFile.FieldType.int), Jvm.Cond.code ({ cls := "com/example/seepline/seepline/model/CallRules", name := "isEmpty", desc := "()Z" } : Jvm.MethodName) prog_6_method_3_code (1 : Nat) (Option.some Jvm.ClassFile.FieldType.boolean), Jvm.Cond.code ({ cls := "java/util/ImmutableCollections$ListN", name := "isEmpty", desc := "()Z" } : Jvm.MethodName) jdk_45_method_2_code (1 : Nat) (Option.some Jvm.ClassFile.FieldType.boolean), Jvm.Cond.code ({ cls := "com/example/seepline/seepline/model/CallRulesIsEmptyPinLaw", name := "pos", desc := "(II)Lcom/example/seepline/seepline/model/Position;" } : Jvm.MethodName) method_2_code (3 : Nat) (Option.some (Jvm.ClassFile.FieldType.object "com/example/seepline/seepline/model/Position")), Jvm.Cond.code ({ cls := "com/example/seepline/seepline/model/Position", name := "argument", desc := "(I)Lcom/example/seepline/seepline/model/Position;" } : Jvm.MethodName) prog_13_method_2_code (1 : Nat) (Option.some (Jvm.ClassFile.FieldType.object "com/example/seepline/seepline/model/Position")), Jvm.Cond.code ({ cls := "com/example/seepline/seepline/model/Position", name := "<init>", desc := "(Lcom/example/seepline/seepline/model/Position$Kind;I)V" } : Jvm.MethodName) prog_13_method_1_code (3 : Nat) (Option.none : Option Jvm.ClassFile.FieldType), Jvm.Cond.code ({ cls := "java/util/ArrayList", name := "toArray", desc := "()[Ljava/lang/Object;" } : Jvm.MethodName) jdk_38_method_16_code (1 : Nat) (Option.some (Jvm.ClassFile.FieldType.array (Jvm.ClassFile.FieldType.object "java/lang/Object"))), Jvm.Cond.code ({ cls := "java/util/Arrays", name := "copyOf", desc := "([Ljava/lang/Object;I)[Ljava/lang/Object;" } : Jvm.MethodName) jdk_65_method_119_code (2 : Nat) (Option.some (Jvm.ClassFile.FieldType.array (Jvm.ClassFile.FieldType.object "java/lang/Object"))), Jvm.Cond.code ({ cls := "java/util/Arrays", name := "copyOf", desc := "([Ljava/lang/Object;ILjava/lang/Class;)[Ljava/lang/Object;" } : Jvm.MethodName) jdk_65_method_120_code (4 : Nat) (Option.some (Jvm.ClassFile.FieldType.array (Jvm.ClassFile.FieldType.object "java/lang/Object"))), Jvm.Cond.code ({ cls := "java/lang/Math", name := "min", desc := "(II)I" } : Jvm.MethodName) jdk_29_method_69_code (2 : Nat) (Option.some Jvm.ClassFile.FieldType.int), Jvm.Cond.code ({ cls := "java/util/List", name := "of", desc := "([Ljava/lang/Object;)Ljava/util/List;" } : Jvm.MethodName) jdk_40_method_47_code (2 : Nat) (Option.some (Jvm.ClassFile.FieldType.object "java/util/List")), Jvm.Cond.code ({ cls := "java/util/ImmutableCollections$List12", name := "<init>", desc := "(Ljava/lang/Object;Ljava/lang/Object;)V" } : Jvm.MethodName) jdk_44_method_2_code (3 : Nat) (Option.none : Option Jvm.ClassFile.FieldType), Jvm.Cond.code ({ cls := "java/util/ImmutableCollections$AbstractImmutableList", name := "<init>", desc := "()V" } : Jvm.MethodName) jdk_46_method_1_code (1 : Nat) (Option.none : Option Jvm.ClassFile.FieldType), Jvm.Cond.code ({ cls := "java/util/ImmutableCollections$AbstractImmutableCollection", name := "<init>", desc := "()V" } : Jvm.MethodName) jdk_47_method_1_code (1 : Nat) (Option.none : Option Jvm.ClassFile.FieldType), Jvm.Cond.code ({ cls := "java/util/Objects", name := "requireNonNull", desc := "(Ljava/lang/Object;)Ljava/lang/Object;" } : Jvm.MethodName) jdk_31_method_10_code (1 : Nat) (Option.some (Jvm.ClassFile.FieldType.object "java/lang/Object")), Jvm.Cond.code ({ cls := "java/util/ImmutableCollections$List12", name := "<init>", desc := "(Ljava/lang/Object;)V" } : Jvm.MethodName) jdk_44_method_1_code (2 : Nat) (Option.none : Option Jvm.ClassFile.FieldType), Jvm.Cond.code ({ cls := "java/util/ImmutableCollections$List12", name := "isEmpty", desc := "()Z" } : Jvm.MethodName) jdk_44_method_4_code (1 : Nat) (Option.some Jvm.ClassFile.FieldType.boolean)]
set_option maxRecDepth 65536 in
theorem codes_eq : words1.filter isCode = codes1 := rfl
theorem w_codes : ∀ c ∈ words1.filter isCode, c.before args0 about1 = true := by
  rw [codes_eq]
  intro c hc
  simp only [codes1, List.mem_cons, List.not_mem_nil, or_false] at hc
  rcases hc with rfl | rfl | rfl | rfl | rfl | rfl | rfl | rfl | rfl | rfl | rfl | rfl | rfl | rfl | rfl | rfl | rfl | rfl | rfl | rfl | rfl | rfl | rfl | rfl | rfl | rfl | rfl | rfl | rfl | rfl | rfl | rfl
  · exact w_c0
  · exact w_c1
  · exact w_c2
  · exact w_c3
  · exact w_c4
  · exact w_c5
  · exact w_c6
  · exact w_c7
  · exact w_c8
  · exact w_c9
  · exact w_c10
  · exact w_c11
  · exact w_c12
  · exact w_c13
  · exact w_c14
  · exact w_c15
  · exact w_c16
  · exact w_c17
  · exact w_c18
  · exact w_c19
  · exact w_c20
  · exact w_c21
  · exact w_c22
  · exact w_c23
  · exact w_c24
  · exact w_c25
  · exact w_c26
  · exact w_c27
  · exact w_c28
  · exact w_c29
  · exact w_c30
  · exact w_c31
set_option maxRecDepth 65536 in
theorem w_t1 : (words1.take 24).all (fun c => isCode c || c.before args0 about1) = true := by decide +kernel
set_option maxRecDepth 65536 in
theorem w_t2 : ((words1.drop 24).take 24).all (fun c => isCode c || c.before args0 about1) = true := by decide +kernel
set_option maxRecDepth 65536 in
theorem w_t3 : (((words1.drop 24).drop 24).take 24).all (fun c => isCode c || c.before args0 about1) = true := by decide +kernel
set_option maxRecDepth 65536 in
theorem w_t4 : ((((words1.drop 24).drop 24).drop 24).take 24).all (fun c => isCode c || c.before args0 about1) = true := by decide +kernel
set_option maxRecDepth 65536 in
theorem w_t5 : (((((words1.drop 24).drop 24).drop 24).drop 24).take 24).all (fun c => isCode c || c.before args0 about1) = true := by decide +kernel
set_option maxRecDepth 65536 in
theorem w_t6 : ((((((words1.drop 24).drop 24).drop 24).drop 24).drop 24).take 24).all (fun c => isCode c || c.before args0 about1) = true := by decide +kernel
set_option maxRecDepth 65536 in
theorem w_t7 : (((((((words1.drop 24).drop 24).drop 24).drop 24).drop 24).drop 24).take 24).all (fun c => isCode c || c.before args0 about1) = true := by decide +kernel
set_option maxRecDepth 65536 in
theorem w_t8 : ((((((((words1.drop 24).drop 24).drop 24).drop 24).drop 24).drop 24).drop 24).take 24).all (fun c => isCode c || c.before args0 about1) = true := by decide +kernel
set_option maxRecDepth 65536 in
theorem w_t9 : (((((((((words1.drop 24).drop 24).drop 24).drop 24).drop 24).drop 24).drop 24).drop 24).take 24).all (fun c => isCode c || c.before args0 about1) = true := by decide +kernel
set_option maxRecDepth 65536 in
theorem w_t10 : (((((((((words1.drop 24).drop 24).drop 24).drop 24).drop 24).drop 24).drop 24).drop 24).drop 24).all (fun c => isCode c || c.before args0 about1) = true := by decide +kernel
theorem w_tables : (allAtoms (Jvm.Cond.code x code maxLocals ret :: tables_1)).before args0 about1 = true := by
  rw [allAtoms_all]
  show words1.all (fun c => c.before args0 about1) = true
  refine all_split ?_ w_codes
  rw [← List.take_append_drop 24 words1, List.all_append, w_t1, ← List.take_append_drop 24 (words1.drop 24), List.all_append, w_t2, ← List.take_append_drop 24 ((words1.drop 24).drop 24), List.all_append, w_t3, ← List.take_append_drop 24 (((words1.drop 24).drop 24).drop 24), List.all_append, w_t4, ← List.take_append_drop 24 ((((words1.drop 24).drop 24).drop 24).drop 24), List.all_append, w_t5, ← List.take_append_drop 24 (((((words1.drop 24).drop 24).drop 24).drop 24).drop 24), List.all_append, w_t6, ← List.take_append_drop 24 ((((((words1.drop 24).drop 24).drop 24).drop 24).drop 24).drop 24), List.all_append, w_t7, ← List.take_append_drop 24 (((((((words1.drop 24).drop 24).drop 24).drop 24).drop 24).drop 24).drop 24), List.all_append, w_t8, ← List.take_append_drop 24 ((((((((words1.drop 24).drop 24).drop 24).drop 24).drop 24).drop 24).drop 24).drop 24), List.all_append, w_t9, w_t10]
  rfl
set_option maxRecDepth 65536 in
theorem w_rest : rest_1_c.before args0 about1 = true := by decide +kernel
set_option maxRecDepth 65536 in
theorem w_case : (Jvm.Cond.and given_1 narrow_1).before args0 about1 = true := by decide +kernel
theorem w_applies : (headSpec (Jvm.Cond.code x code maxLocals ret :: tables_1) room_1).applies x e0.platform about1 = true :=
  (Spec.applies_iff w_frames).mpr ⟨w_running, w_runnable, w_alone, w_named, w_hears, w_ripe, w_room, w_tables⟩
theorem atStart : AtStart classFile x code maxLocals ret World_1 tables_1 room_1 Calls_1 rest_1 Pre_1 launch0 p0 e0 about1 theMethod args0 below0 :=
  ⟨lists_1, trivial, launch0.admits_env _ _ _, launch0.least_env, fairChoices_fair.cas, fairChoices_fair.clock, w_frames, w_args, w_heap, w_applies, ⟨⟨33, k33, 5, by decide +kernel, rfl, rfl, _, rfl, rfl⟩, trivial⟩, w_rest, w_case⟩
end start1
theorem witness_1 : WitnessClaimed_1 := ⟨start1.p0, start1.e0, start1.about1, start1.theMethod, start1.args0, start1.below0, start1.atStart⟩
end Jvm.Pilot.@@N@@
