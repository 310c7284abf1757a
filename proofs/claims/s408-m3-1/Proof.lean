import JvmDerived
import JvmDerived.Pilot.@@N@@Statement
import JvmDerived.Pilot.@@N@@Code
set_option linter.unusedVariables false
set_option linter.unusedSimpArgs false
namespace Jvm.Wk
open Sem ClassFile Op Lib Jvm.Stand Jvm.Free Jvm.LawKit Jvm.RoadKit
section W
variable {p : Program} {l : Launch} {e : Env} {R : Room} {s : State} {m : MethodId} {args : Array Value} {below : List Frame} {meth : Method} {c : Code} {T T' : State} {locs : List Loc} {cells slots : Nat} {Q : Option Value → Heap → List Loc → Prop} {Fe : Outcome → State → List Loc → Nat → Nat → Prop} {vm0 : Vm} {K N pc n t k0 : Nat} {Ls l' : Array Slot} {st rest : List Value} {Z : State} {a0 : Array Value} {h : Heap}
/-- the walk stands at the frame g over T and comes to an end that Q allows -/
def Go (p : Program) (e : Env) (below : List Frame) (Fe : Outcome → State → List Loc → Nat → Nat → Prop) (Q : Option Value → Heap → List Loc → Prop) (K N : Nat) (T : State) (g : JFrame) : Prop :=
  ∃ s₂ o, Steps p.tables e below (T.setTop g) s₂ ∧ s₂.status = .running ∧ Ended s₂ below o ∧ ∃ v L, o = .returned v ∧ Q v s₂.heap L ∧ Fe o s₂ L K N
theorem cut {A B : Prop} (h1 : A → B) (h2 : A) : B := h1 h2
theorem go {g g' : JFrame} (h : ∀ target, Steps p.tables e below (T'.setTop g') target → Steps p.tables e below (T.setTop g) target) (F : Go p e below Fe Q K N T' g') : Go p e below Fe Q K N T g := by
  obtain ⟨s₂, o, h1, r⟩ := F
  exact ⟨s₂, o, h _ h1, r⟩
/-- a boolean as an int -/
def b (P : Prop) [Decidable P] : Int32 := if P then 1 else 0
theorem b_t {P : Prop} [Decidable P] (h : P) : b P = 1 := if_pos h
theorem b_f {P : Prop} [Decidable P] (h : ¬ P) : b P = 0 := if_neg h
theorem b_iff {P P' : Prop} [Decidable P] [Decidable P'] (h : P ↔ P') : b P = b P' := by
  by_cases q : P
  · rw [b_t q, b_t (h.mp q)]
  · rw [b_f q, b_f (fun z => q (h.mpr z))]
theorem b_inj {P P' : Prop} [Decidable P] [Decidable P'] (h : b P = b P') : P ↔ P' := by
  by_cases q : P <;> by_cases q' : P' <;> simp_all [b]
/-- a mask with one more bit, or as it is -/
def ob (P : Prop) [Decidable P] (k x : Int32) : Int32 := if P then x ||| k else x
theorem ob_t {P : Prop} [Decidable P] {k x : Int32} (h : P) : ob P k x = x ||| k := if_pos h
theorem ob_f {P : Prop} [Decidable P] {k x : Int32} (h : ¬ P) : ob P k x = x := if_neg h
theorem goB1 {P : Prop} [Decidable P] (H : Go p e below Fe Q K N T (mkF m pc Ls (.int (b P) :: st))) (hP : P) : Go p e below Fe Q K N T (mkF m pc Ls (.int 1 :: st)) := by rw [b_t hP] at H; exact H
theorem goB0 {P : Prop} [Decidable P] (H : Go p e below Fe Q K N T (mkF m pc Ls (.int (b P) :: st))) (hP : ¬ P) : Go p e below Fe Q K N T (mkF m pc Ls (.int 0 :: st)) := by rw [b_f hP] at H; exact H

theorem iloadN (X : Stand p l e R s m args below meth c T locs cells slots) (hx : p.tables.exec = Jvm.exec) {k : Fin 4} {v : Int32} (hd : decode c.code pc = .ok (.iload_n k, 1)) (hl : Ls[k.val]? = some (.val (.int v))) (hn : pc + 1 = n) (F : Go p e below Fe Q K N T (mkF m n Ls (.int v :: st))) : Go p e below Fe Q K N T (mkF m pc Ls st) := by
  subst hn
  exact go (fun _ h => XS.iloadN X.here hx rfl hd hl h) F
theorem iload (X : Stand p l e R s m args below meth c T locs cells slots) (hx : p.tables.exec = Jvm.exec) {k : Nat} {v : Int32} (hd : decode c.code pc = .ok (.iload k, 2)) (hl : Ls[k]? = some (.val (.int v))) (hn : pc + 2 = n) (F : Go p e below Fe Q K N T (mkF m n Ls (.int v :: st))) : Go p e below Fe Q K N T (mkF m pc Ls st) := by
  subst hn
  exact go (fun _ h => XS.iload X.here hx rfl hd hl h) F
theorem aloadN (X : Stand p l e R s m args below meth c T locs cells slots) (hx : p.tables.exec = Jvm.exec) {k : Fin 4} {v : Value} (hd : decode c.code pc = .ok (.aload_n k, 1)) (hl : Ls[k.val]? = some (.val v)) (hv : v.isRef = true) (hn : pc + 1 = n) (F : Go p e below Fe Q K N T (mkF m n Ls (v :: st))) : Go p e below Fe Q K N T (mkF m pc Ls st) := by
  subst hn
  exact go (fun _ h => XS.aloadN X.here hx rfl hd hl hv h) F
theorem aload (X : Stand p l e R s m args below meth c T locs cells slots) (hx : p.tables.exec = Jvm.exec) {k : Nat} {v : Value} (hd : decode c.code pc = .ok (.aload k, 2)) (hl : Ls[k]? = some (.val v)) (hv : v.isRef = true) (hn : pc + 2 = n) (F : Go p e below Fe Q K N T (mkF m n Ls (v :: st))) : Go p e below Fe Q K N T (mkF m pc Ls st) := by
  subst hn
  exact go (fun _ h => XS.aload X.here hx rfl hd hl hv h) F
theorem lloadN (X : Stand p l e R s m args below meth c T locs cells slots) (hx : p.tables.exec = Jvm.exec) {k : Fin 4} {v : Int64} (hd : decode c.code pc = .ok (.lload_n k, 1)) (hl : Ls[k.val]? = some (.val (.long v))) (hn : pc + 1 = n) (F : Go p e below Fe Q K N T (mkF m n Ls (.long v :: st))) : Go p e below Fe Q K N T (mkF m pc Ls st) := by
  subst hn
  exact go (fun _ h => XT.lloadN X.here hx rfl hd hl h) F
theorem lload (X : Stand p l e R s m args below meth c T locs cells slots) (hx : p.tables.exec = Jvm.exec) {k : Nat} {v : Int64} (hd : decode c.code pc = .ok (.lload k, 2)) (hl : Ls[k]? = some (.val (.long v))) (hn : pc + 2 = n) (F : Go p e below Fe Q K N T (mkF m n Ls (.long v :: st))) : Go p e below Fe Q K N T (mkF m pc Ls st) := by
  subst hn
  exact go (fun _ h => XT.lload X.here hx rfl hd hl h) F
theorem istoreN (X : Stand p l e R s m args below meth c T locs cells slots) (hx : p.tables.exec = Jvm.exec) {k : Fin 4} {x : Int32} (hd : decode c.code pc = .ok (.istore_n k, 1)) (hl : storeLocals Ls k.val (.int x) = some l') (hn : pc + 1 = n) (F : Go p e below Fe Q K N T (mkF m n l' st)) : Go p e below Fe Q K N T (mkF m pc Ls (.int x :: st)) := by
  subst hn
  exact go (fun _ h => XS.istoreN X.here hx rfl hd rfl hl h) F
theorem istore (X : Stand p l e R s m args below meth c T locs cells slots) (hx : p.tables.exec = Jvm.exec) {k : Nat} {x : Int32} (hd : decode c.code pc = .ok (.istore k, 2)) (hl : storeLocals Ls k (.int x) = some l') (hn : pc + 2 = n) (F : Go p e below Fe Q K N T (mkF m n l' st)) : Go p e below Fe Q K N T (mkF m pc Ls (.int x :: st)) := by
  subst hn
  exact go (fun _ h => XS.istore X.here hx rfl hd rfl hl h) F
theorem astoreN (X : Stand p l e R s m args below meth c T locs cells slots) (hx : p.tables.exec = Jvm.exec) {k : Fin 4} {x : Value} (hd : decode c.code pc = .ok (.astore_n k, 1)) (hv : x.isRef = true) (hl : storeLocals Ls k.val x = some l') (hn : pc + 1 = n) (F : Go p e below Fe Q K N T (mkF m n l' st)) : Go p e below Fe Q K N T (mkF m pc Ls (x :: st)) := by
  subst hn
  exact go (fun _ h => XS.astoreN X.here hx rfl hd rfl hv hl h) F
theorem astore (X : Stand p l e R s m args below meth c T locs cells slots) (hx : p.tables.exec = Jvm.exec) {k : Nat} {x : Value} (hd : decode c.code pc = .ok (.astore k, 2)) (hv : x.isRef = true) (hl : storeLocals Ls k x = some l') (hn : pc + 2 = n) (F : Go p e below Fe Q K N T (mkF m n l' st)) : Go p e below Fe Q K N T (mkF m pc Ls (x :: st)) := by
  subst hn
  exact go (fun _ h => XS.astore X.here hx rfl hd rfl hv hl h) F
theorem lstoreN (X : Stand p l e R s m args below meth c T locs cells slots) (hx : p.tables.exec = Jvm.exec) {k : Fin 4} {x : Int64} (hd : decode c.code pc = .ok (.lstore_n k, 1)) (hl : storeLocals Ls k.val (.long x) = some l') (hn : pc + 1 = n) (F : Go p e below Fe Q K N T (mkF m n l' st)) : Go p e below Fe Q K N T (mkF m pc Ls (.long x :: st)) := by
  subst hn
  exact go (fun _ h => XT.lstoreN X.here hx rfl hd rfl hl h) F
theorem lstore (X : Stand p l e R s m args below meth c T locs cells slots) (hx : p.tables.exec = Jvm.exec) {k : Nat} {x : Int64} (hd : decode c.code pc = .ok (.lstore k, 2)) (hl : storeLocals Ls k (.long x) = some l') (hn : pc + 2 = n) (F : Go p e below Fe Q K N T (mkF m n l' st)) : Go p e below Fe Q K N T (mkF m pc Ls (.long x :: st)) := by
  subst hn
  exact go (fun _ h => XT.lstore X.here hx rfl hd rfl hl h) F
theorem iinc (X : Stand p l e R s m args below meth c T locs cells slots) (hx : p.tables.exec = Jvm.exec) {k : Nat} {cst : Int} {x : Int32} (v : Int32) (hd : decode c.code pc = .ok (.iinc k cst, 3)) (hv : Int32.ofInt cst = v) (hl : Ls[k]? = some (.val (.int x))) (hl' : storeLocals Ls k (.int (x + v)) = some l') (hn : pc + 3 = n) (F : Go p e below Fe Q K N T (mkF m n l' st)) : Go p e below Fe Q K N T (mkF m pc Ls st) := by
  subst hn
  exact go (fun _ h => XT.iincV X.here hx rfl v hd hv hl hl' h) F
theorem iconst (X : Stand p l e R s m args below meth c T locs cells slots) (hx : p.tables.exec = Jvm.exec) {i : Int} (v : Int32) (hd : decode c.code pc = .ok (.iconst i, 1)) (hv : Int32.ofInt i = v) (hn : pc + 1 = n) (F : Go p e below Fe Q K N T (mkF m n Ls (.int v :: st))) : Go p e below Fe Q K N T (mkF m pc Ls st) := by
  subst hn
  exact go (fun _ h => XT.iconstV X.here hx rfl v hd hv h) F
theorem bipush (X : Stand p l e R s m args below meth c T locs cells slots) (hx : p.tables.exec = Jvm.exec) {i : Int} (v : Int32) (hd : decode c.code pc = .ok (.bipush i, 2)) (hv : (Int8.ofInt i).toInt32 = v) (hn : pc + 2 = n) (F : Go p e below Fe Q K N T (mkF m n Ls (.int v :: st))) : Go p e below Fe Q K N T (mkF m pc Ls st) := by
  subst hn
  exact go (fun _ h => XT.bipushV X.here hx rfl v hd hv h) F
theorem sipush (X : Stand p l e R s m args below meth c T locs cells slots) (hx : p.tables.exec = Jvm.exec) {i : Int} (v : Int32) (hd : decode c.code pc = .ok (.sipush i, 3)) (hv : (Int16.ofInt i).toInt32 = v) (hn : pc + 3 = n) (F : Go p e below Fe Q K N T (mkF m n Ls (.int v :: st))) : Go p e below Fe Q K N T (mkF m pc Ls st) := by
  subst hn
  exact go (fun _ h => XT.sipushV X.here hx rfl v hd hv h) F
theorem lconst (X : Stand p l e R s m args below meth c T locs cells slots) (hx : p.tables.exec = Jvm.exec) {k : Fin 2} (v : Int64) (hd : decode c.code pc = .ok (.lconst k, 1)) (hv : Int64.ofNat k = v) (hn : pc + 1 = n) (F : Go p e below Fe Q K N T (mkF m n Ls (.long v :: st))) : Go p e below Fe Q K N T (mkF m pc Ls st) := by
  subst hn
  exact go (fun _ h => XT.lconstV X.here hx rfl v hd hv h) F
theorem anull (X : Stand p l e R s m args below meth c T locs cells slots) (hx : p.tables.exec = Jvm.exec)  (hd : decode c.code pc = .ok (.aconst_null, 1)) (hn : pc + 1 = n) (F : Go p e below Fe Q K N T (mkF m n Ls (.null :: st))) : Go p e below Fe Q K N T (mkF m pc Ls st) := by
  subst hn
  exact go (fun _ h => XS.aconstNull X.here hx rfl hd h) F
theorem ldcI (X : Stand p l e R s m args below meth c T locs cells slots) (hx : p.tables.exec = Jvm.exec) {own : String} {index : Nat} {v : Int32} (hZ : Z.Warmed39 s.vm) (hown : s.vm.findClass own = some m.cls) (wd : (Cond.constant own index v).before a0 Z = true) (hd : decode c.code pc = .ok (.ldc index, 2)) (hn : pc + 2 = n) (F : Go p e below Fe Q K N T (mkF m n Ls (.int v :: st))) : Go p e below Fe Q K N T (mkF m pc Ls st) := by
  subst hn
  exact go (fun _ h => X.ldcInt hx hown (mvT hZ wd) (g := mkF m pc Ls st) rfl hd _ h) F
theorem ldcW (X : Stand p l e R s m args below meth c T locs cells slots) (hx : p.tables.exec = Jvm.exec) {own : String} {index : Nat} {v : Int32} (hZ : Z.Warmed39 s.vm) (hown : s.vm.findClass own = some m.cls) (wd : (Cond.constant own index v).before a0 Z = true) (hd : decode c.code pc = .ok (.ldc_w index, 3)) (hn : pc + 3 = n) (F : Go p e below Fe Q K N T (mkF m n Ls (.int v :: st))) : Go p e below Fe Q K N T (mkF m pc Ls st) := by
  subst hn
  exact go (fun _ h => X.ldcwInt hx hown (mvT hZ wd) (g := mkF m pc Ls st) rfl hd _ h) F
theorem ldcJ (X : Stand p l e R s m args below meth c T locs cells slots) (hx : p.tables.exec = Jvm.exec) {own : String} {index : Nat} {v : Int64} (hZ : Z.Warmed39 s.vm) (hown : s.vm.findClass own = some m.cls) (wd : (Cond.constantLong own index v).before a0 Z = true) (hd : decode c.code pc = .ok (.ldc2_w index, 3)) (hn : pc + 3 = n) (F : Go p e below Fe Q K N T (mkF m n Ls (.long v :: st))) : Go p e below Fe Q K N T (mkF m pc Ls st) := by
  subst hn
  exact go (fun _ h => X.ldc2Long hx hown (mvT hZ wd) (g := mkF m pc Ls st) rfl hd _ h) F
theorem iadd (X : Stand p l e R s m args below meth c T locs cells slots) (hx : p.tables.exec = Jvm.exec) {x y : Int32} (hd : decode c.code pc = .ok (.iadd, 1)) (hn : pc + 1 = n) (F : Go p e below Fe Q K N T (mkF m n Ls (.int (x + y) :: st))) : Go p e below Fe Q K N T (mkF m pc Ls (.int y :: .int x :: st)) := by
  subst hn
  exact go (fun _ h => XS.iadd X.here hx rfl hd rfl h) F
theorem isub (X : Stand p l e R s m args below meth c T locs cells slots) (hx : p.tables.exec = Jvm.exec) {x y : Int32} (hd : decode c.code pc = .ok (.isub, 1)) (hn : pc + 1 = n) (F : Go p e below Fe Q K N T (mkF m n Ls (.int (x - y) :: st))) : Go p e below Fe Q K N T (mkF m pc Ls (.int y :: .int x :: st)) := by
  subst hn
  exact go (fun _ h => XS.isub X.here hx rfl hd rfl h) F
theorem iand (X : Stand p l e R s m args below meth c T locs cells slots) (hx : p.tables.exec = Jvm.exec) {x y : Int32} (hd : decode c.code pc = .ok (.iand, 1)) (hn : pc + 1 = n) (F : Go p e below Fe Q K N T (mkF m n Ls (.int (x &&& y) :: st))) : Go p e below Fe Q K N T (mkF m pc Ls (.int y :: .int x :: st)) := by
  subst hn
  exact go (fun _ h => XS.iand X.here hx rfl hd rfl h) F
theorem imul (X : Stand p l e R s m args below meth c T locs cells slots) (hx : p.tables.exec = Jvm.exec) {x y : Int32} (hd : decode c.code pc = .ok (.imul, 1)) (hn : pc + 1 = n) (F : Go p e below Fe Q K N T (mkF m n Ls (.int (x * y) :: st))) : Go p e below Fe Q K N T (mkF m pc Ls (.int y :: .int x :: st)) := by
  subst hn
  exact go (fun _ h => XS.imul X.here hx rfl hd rfl h) F
theorem ixor (X : Stand p l e R s m args below meth c T locs cells slots) (hx : p.tables.exec = Jvm.exec) {x y : Int32} (hd : decode c.code pc = .ok (.ixor, 1)) (hn : pc + 1 = n) (F : Go p e below Fe Q K N T (mkF m n Ls (.int (x ^^^ y) :: st))) : Go p e below Fe Q K N T (mkF m pc Ls (.int y :: .int x :: st)) := by
  subst hn
  exact go (fun _ h => XT.ixor X.here hx rfl hd rfl h) F
theorem ior (X : Stand p l e R s m args below meth c T locs cells slots) (hx : p.tables.exec = Jvm.exec) {x y : Int32} (hd : decode c.code pc = .ok (.ior, 1)) (hn : pc + 1 = n) (F : Go p e below Fe Q K N T (mkF m n Ls (.int (x ||| y) :: st))) : Go p e below Fe Q K N T (mkF m pc Ls (.int y :: .int x :: st)) := by
  subst hn
  exact go (fun _ h => XT.ior X.here hx rfl hd rfl h) F
theorem i2c (X : Stand p l e R s m args below meth c T locs cells slots) (hx : p.tables.exec = Jvm.exec) {x : Int32} (hd : decode c.code pc = .ok (.i2c, 1)) (hn : pc + 1 = n) (F : Go p e below Fe Q K N T (mkF m n Ls (.int x.toUInt32.toUInt16.toUInt32.toInt32 :: st))) : Go p e below Fe Q K N T (mkF m pc Ls (.int x :: st)) := by
  subst hn
  exact go (fun _ h => XT.i2c X.here hx rfl hd rfl h) F
theorem i2b (X : Stand p l e R s m args below meth c T locs cells slots) (hx : p.tables.exec = Jvm.exec) {x : Int32} (hd : decode c.code pc = .ok (.i2b, 1)) (hn : pc + 1 = n) (F : Go p e below Fe Q K N T (mkF m n Ls (.int x.toInt8.toInt32 :: st))) : Go p e below Fe Q K N T (mkF m pc Ls (.int x :: st)) := by
  subst hn
  exact go (fun _ h => XT.i2b X.here hx rfl hd rfl h) F
theorem i2l (X : Stand p l e R s m args below meth c T locs cells slots) (hx : p.tables.exec = Jvm.exec) {x : Int32} (hd : decode c.code pc = .ok (.i2l, 1)) (hn : pc + 1 = n) (F : Go p e below Fe Q K N T (mkF m n Ls (.long x.toInt64 :: st))) : Go p e below Fe Q K N T (mkF m pc Ls (.int x :: st)) := by
  subst hn
  exact go (fun _ h => XT.i2l X.here hx rfl hd rfl h) F
theorem l2i (X : Stand p l e R s m args below meth c T locs cells slots) (hx : p.tables.exec = Jvm.exec) {x : Int64} (hd : decode c.code pc = .ok (.l2i, 1)) (hn : pc + 1 = n) (F : Go p e below Fe Q K N T (mkF m n Ls (.int x.toInt32 :: st))) : Go p e below Fe Q K N T (mkF m pc Ls (.long x :: st)) := by
  subst hn
  exact go (fun _ h => XT.l2i X.here hx rfl hd rfl h) F
theorem ladd (X : Stand p l e R s m args below meth c T locs cells slots) (hx : p.tables.exec = Jvm.exec) {x y : Int64} (hd : decode c.code pc = .ok (.ladd, 1)) (hn : pc + 1 = n) (F : Go p e below Fe Q K N T (mkF m n Ls (.long (x + y) :: st))) : Go p e below Fe Q K N T (mkF m pc Ls (.long y :: .long x :: st)) := by
  subst hn
  exact go (fun _ h => XT.ladd X.here hx rfl hd rfl h) F
theorem lsub (X : Stand p l e R s m args below meth c T locs cells slots) (hx : p.tables.exec = Jvm.exec) {x y : Int64} (hd : decode c.code pc = .ok (.lsub, 1)) (hn : pc + 1 = n) (F : Go p e below Fe Q K N T (mkF m n Ls (.long (x - y) :: st))) : Go p e below Fe Q K N T (mkF m pc Ls (.long y :: .long x :: st)) := by
  subst hn
  exact go (fun _ h => XT.lsub X.here hx rfl hd rfl h) F
theorem lmul (X : Stand p l e R s m args below meth c T locs cells slots) (hx : p.tables.exec = Jvm.exec) {x y : Int64} (hd : decode c.code pc = .ok (.lmul, 1)) (hn : pc + 1 = n) (F : Go p e below Fe Q K N T (mkF m n Ls (.long (x * y) :: st))) : Go p e below Fe Q K N T (mkF m pc Ls (.long y :: .long x :: st)) := by
  subst hn
  exact go (fun _ h => XT.lmul X.here hx rfl hd rfl h) F
theorem land (X : Stand p l e R s m args below meth c T locs cells slots) (hx : p.tables.exec = Jvm.exec) {x y : Int64} (hd : decode c.code pc = .ok (.land, 1)) (hn : pc + 1 = n) (F : Go p e below Fe Q K N T (mkF m n Ls (.long (x &&& y) :: st))) : Go p e below Fe Q K N T (mkF m pc Ls (.long y :: .long x :: st)) := by
  subst hn
  exact go (fun _ h => XT.land X.here hx rfl hd rfl h) F
theorem lor (X : Stand p l e R s m args below meth c T locs cells slots) (hx : p.tables.exec = Jvm.exec) {x y : Int64} (hd : decode c.code pc = .ok (.lor, 1)) (hn : pc + 1 = n) (F : Go p e below Fe Q K N T (mkF m n Ls (.long (x ||| y) :: st))) : Go p e below Fe Q K N T (mkF m pc Ls (.long y :: .long x :: st)) := by
  subst hn
  exact go (fun _ h => XT.lor X.here hx rfl hd rfl h) F
theorem lxor (X : Stand p l e R s m args below meth c T locs cells slots) (hx : p.tables.exec = Jvm.exec) {x y : Int64} (hd : decode c.code pc = .ok (.lxor, 1)) (hn : pc + 1 = n) (F : Go p e below Fe Q K N T (mkF m n Ls (.long (x ^^^ y) :: st))) : Go p e below Fe Q K N T (mkF m pc Ls (.long y :: .long x :: st)) := by
  subst hn
  exact go (fun _ h => XT.lxor X.here hx rfl hd rfl h) F
theorem irem (X : Stand p l e R s m args below meth c T locs cells slots) (hx : p.tables.exec = Jvm.exec) {x y : Int32} (hd : decode c.code pc = .ok (.irem, 1)) (hy : y ≠ 0) (hn : pc + 1 = n) (F : Go p e below Fe Q K N T (mkF m n Ls (.int (x % y) :: st))) : Go p e below Fe Q K N T (mkF m pc Ls (.int y :: .int x :: st)) := by
  subst hn
  exact go (fun _ h => iremM X hx rfl hd rfl hy h) F
theorem idiv (X : Stand p l e R s m args below meth c T locs cells slots) (hx : p.tables.exec = Jvm.exec) {x y : Int32} (hd : decode c.code pc = .ok (.idiv, 1)) (hy : y ≠ 0) (hn : pc + 1 = n) (F : Go p e below Fe Q K N T (mkF m n Ls (.int (x / y) :: st))) : Go p e below Fe Q K N T (mkF m pc Ls (.int y :: .int x :: st)) := by
  subst hn
  exact go (fun _ h => XS.idiv X.here hx rfl hd rfl hy h) F
theorem dup (X : Stand p l e R s m args below meth c T locs cells slots) (hx : p.tables.exec = Jvm.exec) {x : Value} (hd : decode c.code pc = .ok (.dup, 1)) (hc : x.category = 1) (hn : pc + 1 = n) (F : Go p e below Fe Q K N T (mkF m n Ls (x :: x :: st))) : Go p e below Fe Q K N T (mkF m pc Ls (x :: st)) := by
  subst hn
  exact go (fun _ h => XS.dup X.here hx rfl hd rfl hc h) F
theorem pop (X : Stand p l e R s m args below meth c T locs cells slots) (hx : p.tables.exec = Jvm.exec) {x : Value} (hd : decode c.code pc = .ok (.pop, 1)) (hc : x.category = 1) (hn : pc + 1 = n) (F : Go p e below Fe Q K N T (mkF m n Ls st)) : Go p e below Fe Q K N T (mkF m pc Ls (x :: st)) := by
  subst hn
  exact go (fun _ h => XT.pop X.here hx rfl hd rfl hc h) F
theorem pop2L (X : Stand p l e R s m args below meth c T locs cells slots) (hx : p.tables.exec = Jvm.exec) {x : Int64} (hd : decode c.code pc = .ok (.pop2, 1)) (hn : pc + 1 = n) (F : Go p e below Fe Q K N T (mkF m n Ls st)) : Go p e below Fe Q K N T (mkF m pc Ls (.long x :: st)) := by
  subst hn
  refine go (fun _ h => ?_) F
  have ht := X.here
  jvm_step ht [ht.top, hx, hd, Value.category]
  exact h
theorem lshl (X : Stand p l e R s m args below meth c T locs cells slots) (hx : p.tables.exec = Jvm.exec) {x : Int64} {y : Int32} (hd : decode c.code pc = .ok (.lshl, 1)) (hn : pc + 1 = n) (F : Go p e below Fe Q K N T (mkF m n Ls (.long (x <<< (y.toInt64 &&& 63)) :: st))) : Go p e below Fe Q K N T (mkF m pc Ls (.int y :: .long x :: st)) := by
  subst hn
  exact go (fun _ h => XT.lshl X.here hx rfl hd rfl h) F
theorem lushr (X : Stand p l e R s m args below meth c T locs cells slots) (hx : p.tables.exec = Jvm.exec) {x : Int64} {y : Int32} (hd : decode c.code pc = .ok (.lushr, 1)) (hn : pc + 1 = n) (F : Go p e below Fe Q K N T (mkF m n Ls (.long (XT.ushrL x y) :: st))) : Go p e below Fe Q K N T (mkF m pc Ls (.int y :: .long x :: st)) := by
  subst hn
  exact go (fun _ h => XT.lushr X.here hx rfl hd rfl h) F
theorem iushr (X : Stand p l e R s m args below meth c T locs cells slots) (hx : p.tables.exec = Jvm.exec) {x y : Int32} (hd : decode c.code pc = .ok (.iushr, 1)) (hn : pc + 1 = n) (F : Go p e below Fe Q K N T (mkF m n Ls (.int (XT.ushr x y) :: st))) : Go p e below Fe Q K N T (mkF m pc Ls (.int y :: .int x :: st)) := by
  subst hn
  exact go (fun _ h => XT.iushr X.here hx rfl hd rfl h) F
theorem ishr (X : Stand p l e R s m args below meth c T locs cells slots) (hx : p.tables.exec = Jvm.exec) {x y : Int32} (hd : decode c.code pc = .ok (.ishr, 1)) (hn : pc + 1 = n) (F : Go p e below Fe Q K N T (mkF m n Ls (.int (x >>> (y &&& 31)) :: st))) : Go p e below Fe Q K N T (mkF m pc Ls (.int y :: .int x :: st)) := by
  subst hn
  exact go (fun _ h => XT.ishr X.here hx rfl hd rfl h) F
theorem ishl (X : Stand p l e R s m args below meth c T locs cells slots) (hx : p.tables.exec = Jvm.exec) {x y : Int32} (hd : decode c.code pc = .ok (.ishl, 1)) (hn : pc + 1 = n) (F : Go p e below Fe Q K N T (mkF m n Ls (.int (x <<< (y &&& 31)) :: st))) : Go p e below Fe Q K N T (mkF m pc Ls (.int y :: .int x :: st)) := by
  subst hn
  exact go (fun _ h => XT.ishl X.here hx rfl hd rfl h) F
theorem i2s (X : Stand p l e R s m args below meth c T locs cells slots) (hx : p.tables.exec = Jvm.exec) {x : Int32} (hd : decode c.code pc = .ok (.i2s, 1)) (hn : pc + 1 = n) (F : Go p e below Fe Q K N T (mkF m n Ls (.int x.toInt16.toInt32 :: st))) : Go p e below Fe Q K N T (mkF m pc Ls (.int x :: st)) := by
  subst hn
  exact go (fun _ h => XT.i2s X.here hx rfl hd rfl h) F
theorem goto (X : Stand p l e R s m args below meth c T locs cells slots) (hx : p.tables.exec = Jvm.exec) {o : Int} (t : Nat) (hd : decode c.code pc = .ok (.goto o, 3)) (ht : (pc : Int) + o = t) (F : Go p e below Fe Q K N T (mkF m t Ls st)) : Go p e below Fe Q K N T (mkF m pc Ls st) := go (fun _ h => XS.goto X.here hx rfl (pc0 := pc) (pc' := t) rfl hd (by rw [ht]; exact Int.natCast_nonneg _) (by rw [ht]; rfl) h) F
theorem holds_t {cd : ClassFile.Cond} {x y : Int32} : if_icmp.holds cd x y = true ↔ match cd with | .eq => x.toInt = y.toInt | .ne => ¬ x.toInt = y.toInt | .lt => x.toInt < y.toInt | .ge => y.toInt ≤ x.toInt | .gt => y.toInt < x.toInt | .le => x.toInt ≤ y.toInt := by
  cases cd <;> simp [if_icmp.holds, Int32.lt_iff_toInt_lt, Int32.le_iff_toInt_le, Int32.toInt_inj]
theorem icmp (X : Stand p l e R s m args below meth c T locs cells slots) (hx : p.tables.exec = Jvm.exec) {cd : ClassFile.Cond} {x y : Int32} {o : Int} (hd : decode c.code pc = .ok (.if_icmp cd o, 3)) (ht : (pc : Int) + o = t) (hn : pc + 3 = n) (FT : if_icmp.holds cd x y = true → Go p e below Fe Q K N T (mkF m t Ls rest)) (FF : ¬ if_icmp.holds cd x y = true → Go p e below Fe Q K N T (mkF m n Ls rest)) : Go p e below Fe Q K N T (mkF m pc Ls (.int y :: .int x :: rest)) := by
  subst hn
  by_cases q : if_icmp.holds cd x y = true
  · exact go (fun _ h => XS.icmpYes X.here hx rfl (pc0 := pc) (pc' := t) rfl hd rfl q (by rw [ht]; exact Int.natCast_nonneg _) (by rw [ht]; rfl) h) (FT q)
  · exact go (fun _ h => XS.icmpNo X.here hx rfl hd rfl (by simpa using q) h) (FF q)
theorem ifc (X : Stand p l e R s m args below meth c T locs cells slots) (hx : p.tables.exec = Jvm.exec) {cd : ClassFile.Cond} {x : Int32} {o : Int} (hd : decode c.code pc = .ok (.ifCond cd o, 3)) (ht : (pc : Int) + o = t) (hn : pc + 3 = n) (FT : if_icmp.holds cd x 0 = true → Go p e below Fe Q K N T (mkF m t Ls rest)) (FF : ¬ if_icmp.holds cd x 0 = true → Go p e below Fe Q K N T (mkF m n Ls rest)) : Go p e below Fe Q K N T (mkF m pc Ls (.int x :: rest)) := by
  subst hn
  by_cases q : if_icmp.holds cd x 0 = true
  · exact go (fun _ h => XS.ifYes X.here hx rfl (pc0 := pc) (pc' := t) rfl hd rfl ((if0 _ _).trans q) (by rw [ht]; exact Int.natCast_nonneg _) (by rw [ht]; rfl) h) (FT q)
  · exact go (fun _ h => XS.ifNo X.here hx rfl hd rfl ((if0 _ _).trans (by simpa using q)) h) (FF q)
theorem icmp_eq (X : Stand p l e R s m args below meth c T locs cells slots) (hx : p.tables.exec = Jvm.exec) {x y : Int32} {o : Int} (t n : Nat) (hd : decode c.code pc = .ok (.if_icmp .eq o, 3)) (ht : (pc : Int) + o = t) (hn : pc + 3 = n) {a b' : Int} (ha : x.toInt = a) (hb : y.toInt = b') (FT : a = b' → Go p e below Fe Q K N T (mkF m t Ls rest)) (FF : ¬ a = b' → Go p e below Fe Q K N T (mkF m n Ls rest)) : Go p e below Fe Q K N T (mkF m pc Ls (.int y :: .int x :: rest)) := by
  subst ha hb
  exact icmp X hx hd ht hn (fun q => FT (holds_t.mp q)) (fun q => FF (by have := mt holds_t.mpr q; first | exact this | exact Int.not_lt.mp this | exact Int.not_le.mp this | exact Classical.not_not.mp this))
theorem if_eq (X : Stand p l e R s m args below meth c T locs cells slots) (hx : p.tables.exec = Jvm.exec) {x : Int32} {o : Int} (t n : Nat) (hd : decode c.code pc = .ok (.ifCond .eq o, 3)) (ht : (pc : Int) + o = t) (hn : pc + 3 = n) {a : Int} (ha : x.toInt = a) (FT : a = 0 → Go p e below Fe Q K N T (mkF m t Ls rest)) (FF : ¬ a = 0 → Go p e below Fe Q K N T (mkF m n Ls rest)) : Go p e below Fe Q K N T (mkF m pc Ls (.int x :: rest)) := by
  subst ha
  exact ifc X hx hd ht hn (fun q => FT (holds_t.mp q)) (fun q => FF (by have := mt holds_t.mpr q; first | exact this | exact Int.not_lt.mp this | exact Int.not_le.mp this | exact Classical.not_not.mp this))
theorem icmp_ne (X : Stand p l e R s m args below meth c T locs cells slots) (hx : p.tables.exec = Jvm.exec) {x y : Int32} {o : Int} (t n : Nat) (hd : decode c.code pc = .ok (.if_icmp .ne o, 3)) (ht : (pc : Int) + o = t) (hn : pc + 3 = n) {a b' : Int} (ha : x.toInt = a) (hb : y.toInt = b') (FT : ¬ a = b' → Go p e below Fe Q K N T (mkF m t Ls rest)) (FF : a = b' → Go p e below Fe Q K N T (mkF m n Ls rest)) : Go p e below Fe Q K N T (mkF m pc Ls (.int y :: .int x :: rest)) := by
  subst ha hb
  exact icmp X hx hd ht hn (fun q => FT (holds_t.mp q)) (fun q => FF (by have := mt holds_t.mpr q; first | exact this | exact Int.not_lt.mp this | exact Int.not_le.mp this | exact Classical.not_not.mp this))
theorem if_ne (X : Stand p l e R s m args below meth c T locs cells slots) (hx : p.tables.exec = Jvm.exec) {x : Int32} {o : Int} (t n : Nat) (hd : decode c.code pc = .ok (.ifCond .ne o, 3)) (ht : (pc : Int) + o = t) (hn : pc + 3 = n) {a : Int} (ha : x.toInt = a) (FT : ¬ a = 0 → Go p e below Fe Q K N T (mkF m t Ls rest)) (FF : a = 0 → Go p e below Fe Q K N T (mkF m n Ls rest)) : Go p e below Fe Q K N T (mkF m pc Ls (.int x :: rest)) := by
  subst ha
  exact ifc X hx hd ht hn (fun q => FT (holds_t.mp q)) (fun q => FF (by have := mt holds_t.mpr q; first | exact this | exact Int.not_lt.mp this | exact Int.not_le.mp this | exact Classical.not_not.mp this))
theorem icmp_lt (X : Stand p l e R s m args below meth c T locs cells slots) (hx : p.tables.exec = Jvm.exec) {x y : Int32} {o : Int} (t n : Nat) (hd : decode c.code pc = .ok (.if_icmp .lt o, 3)) (ht : (pc : Int) + o = t) (hn : pc + 3 = n) {a b' : Int} (ha : x.toInt = a) (hb : y.toInt = b') (FT : a < b' → Go p e below Fe Q K N T (mkF m t Ls rest)) (FF : b' ≤ a → Go p e below Fe Q K N T (mkF m n Ls rest)) : Go p e below Fe Q K N T (mkF m pc Ls (.int y :: .int x :: rest)) := by
  subst ha hb
  exact icmp X hx hd ht hn (fun q => FT (holds_t.mp q)) (fun q => FF (by have := mt holds_t.mpr q; first | exact this | exact Int.not_lt.mp this | exact Int.not_le.mp this | exact Classical.not_not.mp this))
theorem if_lt (X : Stand p l e R s m args below meth c T locs cells slots) (hx : p.tables.exec = Jvm.exec) {x : Int32} {o : Int} (t n : Nat) (hd : decode c.code pc = .ok (.ifCond .lt o, 3)) (ht : (pc : Int) + o = t) (hn : pc + 3 = n) {a : Int} (ha : x.toInt = a) (FT : a < 0 → Go p e below Fe Q K N T (mkF m t Ls rest)) (FF : 0 ≤ a → Go p e below Fe Q K N T (mkF m n Ls rest)) : Go p e below Fe Q K N T (mkF m pc Ls (.int x :: rest)) := by
  subst ha
  exact ifc X hx hd ht hn (fun q => FT (holds_t.mp q)) (fun q => FF (by have := mt holds_t.mpr q; first | exact this | exact Int.not_lt.mp this | exact Int.not_le.mp this | exact Classical.not_not.mp this))
theorem icmp_ge (X : Stand p l e R s m args below meth c T locs cells slots) (hx : p.tables.exec = Jvm.exec) {x y : Int32} {o : Int} (t n : Nat) (hd : decode c.code pc = .ok (.if_icmp .ge o, 3)) (ht : (pc : Int) + o = t) (hn : pc + 3 = n) {a b' : Int} (ha : x.toInt = a) (hb : y.toInt = b') (FT : b' ≤ a → Go p e below Fe Q K N T (mkF m t Ls rest)) (FF : a < b' → Go p e below Fe Q K N T (mkF m n Ls rest)) : Go p e below Fe Q K N T (mkF m pc Ls (.int y :: .int x :: rest)) := by
  subst ha hb
  exact icmp X hx hd ht hn (fun q => FT (holds_t.mp q)) (fun q => FF (by have := mt holds_t.mpr q; first | exact this | exact Int.not_lt.mp this | exact Int.not_le.mp this | exact Classical.not_not.mp this))
theorem if_ge (X : Stand p l e R s m args below meth c T locs cells slots) (hx : p.tables.exec = Jvm.exec) {x : Int32} {o : Int} (t n : Nat) (hd : decode c.code pc = .ok (.ifCond .ge o, 3)) (ht : (pc : Int) + o = t) (hn : pc + 3 = n) {a : Int} (ha : x.toInt = a) (FT : 0 ≤ a → Go p e below Fe Q K N T (mkF m t Ls rest)) (FF : a < 0 → Go p e below Fe Q K N T (mkF m n Ls rest)) : Go p e below Fe Q K N T (mkF m pc Ls (.int x :: rest)) := by
  subst ha
  exact ifc X hx hd ht hn (fun q => FT (holds_t.mp q)) (fun q => FF (by have := mt holds_t.mpr q; first | exact this | exact Int.not_lt.mp this | exact Int.not_le.mp this | exact Classical.not_not.mp this))
theorem icmp_gt (X : Stand p l e R s m args below meth c T locs cells slots) (hx : p.tables.exec = Jvm.exec) {x y : Int32} {o : Int} (t n : Nat) (hd : decode c.code pc = .ok (.if_icmp .gt o, 3)) (ht : (pc : Int) + o = t) (hn : pc + 3 = n) {a b' : Int} (ha : x.toInt = a) (hb : y.toInt = b') (FT : b' < a → Go p e below Fe Q K N T (mkF m t Ls rest)) (FF : a ≤ b' → Go p e below Fe Q K N T (mkF m n Ls rest)) : Go p e below Fe Q K N T (mkF m pc Ls (.int y :: .int x :: rest)) := by
  subst ha hb
  exact icmp X hx hd ht hn (fun q => FT (holds_t.mp q)) (fun q => FF (by have := mt holds_t.mpr q; first | exact this | exact Int.not_lt.mp this | exact Int.not_le.mp this | exact Classical.not_not.mp this))
theorem if_gt (X : Stand p l e R s m args below meth c T locs cells slots) (hx : p.tables.exec = Jvm.exec) {x : Int32} {o : Int} (t n : Nat) (hd : decode c.code pc = .ok (.ifCond .gt o, 3)) (ht : (pc : Int) + o = t) (hn : pc + 3 = n) {a : Int} (ha : x.toInt = a) (FT : 0 < a → Go p e below Fe Q K N T (mkF m t Ls rest)) (FF : a ≤ 0 → Go p e below Fe Q K N T (mkF m n Ls rest)) : Go p e below Fe Q K N T (mkF m pc Ls (.int x :: rest)) := by
  subst ha
  exact ifc X hx hd ht hn (fun q => FT (holds_t.mp q)) (fun q => FF (by have := mt holds_t.mpr q; first | exact this | exact Int.not_lt.mp this | exact Int.not_le.mp this | exact Classical.not_not.mp this))
theorem icmp_le (X : Stand p l e R s m args below meth c T locs cells slots) (hx : p.tables.exec = Jvm.exec) {x y : Int32} {o : Int} (t n : Nat) (hd : decode c.code pc = .ok (.if_icmp .le o, 3)) (ht : (pc : Int) + o = t) (hn : pc + 3 = n) {a b' : Int} (ha : x.toInt = a) (hb : y.toInt = b') (FT : a ≤ b' → Go p e below Fe Q K N T (mkF m t Ls rest)) (FF : b' < a → Go p e below Fe Q K N T (mkF m n Ls rest)) : Go p e below Fe Q K N T (mkF m pc Ls (.int y :: .int x :: rest)) := by
  subst ha hb
  exact icmp X hx hd ht hn (fun q => FT (holds_t.mp q)) (fun q => FF (by have := mt holds_t.mpr q; first | exact this | exact Int.not_lt.mp this | exact Int.not_le.mp this | exact Classical.not_not.mp this))
theorem if_le (X : Stand p l e R s m args below meth c T locs cells slots) (hx : p.tables.exec = Jvm.exec) {x : Int32} {o : Int} (t n : Nat) (hd : decode c.code pc = .ok (.ifCond .le o, 3)) (ht : (pc : Int) + o = t) (hn : pc + 3 = n) {a : Int} (ha : x.toInt = a) (FT : a ≤ 0 → Go p e below Fe Q K N T (mkF m t Ls rest)) (FF : 0 < a → Go p e below Fe Q K N T (mkF m n Ls rest)) : Go p e below Fe Q K N T (mkF m pc Ls (.int x :: rest)) := by
  subst ha
  exact ifc X hx hd ht hn (fun q => FT (holds_t.mp q)) (fun q => FF (by have := mt holds_t.mpr q; first | exact this | exact Int.not_lt.mp this | exact Int.not_le.mp this | exact Classical.not_not.mp this))
theorem if_neB (X : Stand p l e R s m args below meth c T locs cells slots) (hx : p.tables.exec = Jvm.exec) {P : Prop} [Decidable P] {o : Int} (t n : Nat) (hd : decode c.code pc = .ok (.ifCond .ne o, 3)) (ht : (pc : Int) + o = t) (hn : pc + 3 = n) (FT : P → Go p e below Fe Q K N T (mkF m t Ls rest)) (FF : ¬ P → Go p e below Fe Q K N T (mkF m n Ls rest)) : Go p e below Fe Q K N T (mkF m pc Ls (.int (b P) :: rest)) := by
  refine ifc X hx hd ht hn (fun q => FT ?_) (fun q => FF ?_)
  · by_cases z : P
    · exact z
    · rw [b_f z] at q; exact absurd q (by decide)
  · intro z; rw [b_t z] at q; exact q (by decide)
theorem if_eqB (X : Stand p l e R s m args below meth c T locs cells slots) (hx : p.tables.exec = Jvm.exec) {P : Prop} [Decidable P] {o : Int} (t n : Nat) (hd : decode c.code pc = .ok (.ifCond .eq o, 3)) (ht : (pc : Int) + o = t) (hn : pc + 3 = n) (FT : ¬ P → Go p e below Fe Q K N T (mkF m t Ls rest)) (FF : P → Go p e below Fe Q K N T (mkF m n Ls rest)) : Go p e below Fe Q K N T (mkF m pc Ls (.int (b P) :: rest)) := by
  refine ifc X hx hd ht hn (fun q => FT ?_) (fun q => FF ?_)
  · intro z; rw [b_t z] at q; exact absurd q (by decide)
  · by_cases z : P
    · exact z
    · rw [b_f z] at q; exact absurd (by decide) q
theorem icmp_neB (X : Stand p l e R s m args below meth c T locs cells slots) (hx : p.tables.exec = Jvm.exec) {P P' : Prop} [Decidable P] [Decidable P'] {o : Int} (t n : Nat) (hd : decode c.code pc = .ok (.if_icmp .ne o, 3)) (ht : (pc : Int) + o = t) (hn : pc + 3 = n) (FT : ¬ (P ↔ P') → Go p e below Fe Q K N T (mkF m t Ls rest)) (FF : (P ↔ P') → Go p e below Fe Q K N T (mkF m n Ls rest)) : Go p e below Fe Q K N T (mkF m pc Ls (.int (b P') :: .int (b P) :: rest)) :=
  icmp_ne X hx t n hd ht hn rfl rfl (fun q => FT fun z => q (by rw [b_iff z])) (fun q => FF (b_inj (Int32.toInt_inj.mp q)))
theorem lcmp (X : Stand p l e R s m args below meth c T locs cells slots) (hx : p.tables.exec = Jvm.exec) {x y : Int64} (hd : decode c.code pc = .ok (.lcmp, 1)) (hn : pc + 1 = n) (F : Go p e below Fe Q K N T (mkF m n Ls (.int (lcmpW x y) :: st))) : Go p e below Fe Q K N T (mkF m pc Ls (.long y :: .long x :: st)) := by
  subst hn
  exact go (fun _ h => XT.lcmp X.here hx rfl hd rfl h) F
theorem lc_t {cd : ClassFile.Cond} {x y : Int64} : if_icmp.holds cd (lcmpW x y) 0 = true ↔ match cd with | .eq => x.toInt = y.toInt | .ne => ¬ x.toInt = y.toInt | .lt => x.toInt < y.toInt | .ge => y.toInt ≤ x.toInt | .gt => y.toInt < x.toInt | .le => x.toInt ≤ y.toInt := by
  have hgt : (x > y) ↔ y.toInt < x.toInt := Int64.lt_iff_toInt_lt
  have heq : (x = y) ↔ x.toInt = y.toInt := Int64.toInt_inj.symm
  by_cases q : x > y
  · have := hgt.mp q
    cases cd <;> simp [if_icmp.holds, lcmpW, q] <;> omega
  · have q1 := mt hgt.mpr q
    by_cases r : x = y
    · have := heq.mp r
      cases cd <;> simp [if_icmp.holds, lcmpW, r] 
    · have r1 := mt heq.mpr r
      cases cd <;> simp [if_icmp.holds, lcmpW, q, r] <;> omega
theorem lif_eq (X : Stand p l e R s m args below meth c T locs cells slots) (hx : p.tables.exec = Jvm.exec) {x y : Int64} {o : Int} (t n : Nat) (hd : decode c.code pc = .ok (.ifCond .eq o, 3)) (ht : (pc : Int) + o = t) (hn : pc + 3 = n) {a b' : Int} (ha : x.toInt = a) (hb : y.toInt = b') (FT : a = b' → Go p e below Fe Q K N T (mkF m t Ls rest)) (FF : ¬ a = b' → Go p e below Fe Q K N T (mkF m n Ls rest)) : Go p e below Fe Q K N T (mkF m pc Ls (.int (lcmpW x y) :: rest)) := by
  subst ha hb
  exact ifc X hx hd ht hn (fun q => FT (lc_t.mp q)) (fun q => FF (by have := mt lc_t.mpr q; first | exact this | exact Int.not_lt.mp this | exact Int.not_le.mp this | exact Classical.not_not.mp this))
theorem lif_ne (X : Stand p l e R s m args below meth c T locs cells slots) (hx : p.tables.exec = Jvm.exec) {x y : Int64} {o : Int} (t n : Nat) (hd : decode c.code pc = .ok (.ifCond .ne o, 3)) (ht : (pc : Int) + o = t) (hn : pc + 3 = n) {a b' : Int} (ha : x.toInt = a) (hb : y.toInt = b') (FT : ¬ a = b' → Go p e below Fe Q K N T (mkF m t Ls rest)) (FF : a = b' → Go p e below Fe Q K N T (mkF m n Ls rest)) : Go p e below Fe Q K N T (mkF m pc Ls (.int (lcmpW x y) :: rest)) := by
  subst ha hb
  exact ifc X hx hd ht hn (fun q => FT (lc_t.mp q)) (fun q => FF (by have := mt lc_t.mpr q; first | exact this | exact Int.not_lt.mp this | exact Int.not_le.mp this | exact Classical.not_not.mp this))
theorem lif_lt (X : Stand p l e R s m args below meth c T locs cells slots) (hx : p.tables.exec = Jvm.exec) {x y : Int64} {o : Int} (t n : Nat) (hd : decode c.code pc = .ok (.ifCond .lt o, 3)) (ht : (pc : Int) + o = t) (hn : pc + 3 = n) {a b' : Int} (ha : x.toInt = a) (hb : y.toInt = b') (FT : a < b' → Go p e below Fe Q K N T (mkF m t Ls rest)) (FF : b' ≤ a → Go p e below Fe Q K N T (mkF m n Ls rest)) : Go p e below Fe Q K N T (mkF m pc Ls (.int (lcmpW x y) :: rest)) := by
  subst ha hb
  exact ifc X hx hd ht hn (fun q => FT (lc_t.mp q)) (fun q => FF (by have := mt lc_t.mpr q; first | exact this | exact Int.not_lt.mp this | exact Int.not_le.mp this | exact Classical.not_not.mp this))
theorem lif_ge (X : Stand p l e R s m args below meth c T locs cells slots) (hx : p.tables.exec = Jvm.exec) {x y : Int64} {o : Int} (t n : Nat) (hd : decode c.code pc = .ok (.ifCond .ge o, 3)) (ht : (pc : Int) + o = t) (hn : pc + 3 = n) {a b' : Int} (ha : x.toInt = a) (hb : y.toInt = b') (FT : b' ≤ a → Go p e below Fe Q K N T (mkF m t Ls rest)) (FF : a < b' → Go p e below Fe Q K N T (mkF m n Ls rest)) : Go p e below Fe Q K N T (mkF m pc Ls (.int (lcmpW x y) :: rest)) := by
  subst ha hb
  exact ifc X hx hd ht hn (fun q => FT (lc_t.mp q)) (fun q => FF (by have := mt lc_t.mpr q; first | exact this | exact Int.not_lt.mp this | exact Int.not_le.mp this | exact Classical.not_not.mp this))
theorem lif_gt (X : Stand p l e R s m args below meth c T locs cells slots) (hx : p.tables.exec = Jvm.exec) {x y : Int64} {o : Int} (t n : Nat) (hd : decode c.code pc = .ok (.ifCond .gt o, 3)) (ht : (pc : Int) + o = t) (hn : pc + 3 = n) {a b' : Int} (ha : x.toInt = a) (hb : y.toInt = b') (FT : b' < a → Go p e below Fe Q K N T (mkF m t Ls rest)) (FF : a ≤ b' → Go p e below Fe Q K N T (mkF m n Ls rest)) : Go p e below Fe Q K N T (mkF m pc Ls (.int (lcmpW x y) :: rest)) := by
  subst ha hb
  exact ifc X hx hd ht hn (fun q => FT (lc_t.mp q)) (fun q => FF (by have := mt lc_t.mpr q; first | exact this | exact Int.not_lt.mp this | exact Int.not_le.mp this | exact Classical.not_not.mp this))
theorem lif_le (X : Stand p l e R s m args below meth c T locs cells slots) (hx : p.tables.exec = Jvm.exec) {x y : Int64} {o : Int} (t n : Nat) (hd : decode c.code pc = .ok (.ifCond .le o, 3)) (ht : (pc : Int) + o = t) (hn : pc + 3 = n) {a b' : Int} (ha : x.toInt = a) (hb : y.toInt = b') (FT : a ≤ b' → Go p e below Fe Q K N T (mkF m t Ls rest)) (FF : b' < a → Go p e below Fe Q K N T (mkF m n Ls rest)) : Go p e below Fe Q K N T (mkF m pc Ls (.int (lcmpW x y) :: rest)) := by
  subst ha hb
  exact ifc X hx hd ht hn (fun q => FT (lc_t.mp q)) (fun q => FF (by have := mt lc_t.mpr q; first | exact this | exact Int.not_lt.mp this | exact Int.not_le.mp this | exact Classical.not_not.mp this))
theorem acmp_ne (X : Stand p l e R s m args below meth c T locs cells slots) (hx : p.tables.exec = Jvm.exec) {x y : Value} {o : Int} (t n : Nat) (hd : decode c.code pc = .ok (.if_acmp .ne o, 3)) (ht : (pc : Int) + o = t) (hn : pc + 3 = n) (h1 : x.isRef = true) (h2 : y.isRef = true) (FT : ¬ x = y → Go p e below Fe Q K N T (mkF m t Ls rest)) (FF : x = y → Go p e below Fe Q K N T (mkF m n Ls rest)) : Go p e below Fe Q K N T (mkF m pc Ls (y :: x :: rest)) := by
  subst hn
  by_cases q : x = y
  · exact go (fun _ h => XT.acmpNo X.here hx rfl hd rfl h1 h2 (XT.aa_ne_f q) h) (FF q)
  · exact go (fun _ h => XT.acmpYes X.here hx rfl (pc0 := pc) (pc' := t) rfl hd rfl h1 h2 (XT.aa_ne_t q) (by rw [ht]; exact Int.natCast_nonneg _) (by rw [ht]; rfl) h) (FT q)
theorem acmp_eq (X : Stand p l e R s m args below meth c T locs cells slots) (hx : p.tables.exec = Jvm.exec) {x y : Value} {o : Int} (t n : Nat) (hd : decode c.code pc = .ok (.if_acmp .eq o, 3)) (ht : (pc : Int) + o = t) (hn : pc + 3 = n) (h1 : x.isRef = true) (h2 : y.isRef = true) (FT : x = y → Go p e below Fe Q K N T (mkF m t Ls rest)) (FF : ¬ x = y → Go p e below Fe Q K N T (mkF m n Ls rest)) : Go p e below Fe Q K N T (mkF m pc Ls (y :: x :: rest)) := by
  subst hn
  by_cases q : x = y
  · exact go (fun _ h => XT.acmpYes X.here hx rfl (pc0 := pc) (pc' := t) rfl hd rfl h1 h2 (XT.aa_eq_t q) (by rw [ht]; exact Int.natCast_nonneg _) (by rw [ht]; rfl) h) (FT q)
  · exact go (fun _ h => XT.acmpNo X.here hx rfl hd rfl h1 h2 (XT.aa_eq_f q) h) (FF q)
theorem nonnullR (X : Stand p l e R s m args below meth c T locs cells slots) (hx : p.tables.exec = Jvm.exec) {a : Addr} {o : Int} (t : Nat) (hd : decode c.code pc = .ok (.ifnonnull o, 3)) (ht : (pc : Int) + o = t) (F : Go p e below Fe Q K N T (mkF m t Ls rest)) : Go p e below Fe Q K N T (mkF m pc Ls (.ref a :: rest)) :=
  go (fun _ h => XT.ifnonnullYes X.here hx rfl (pc0 := pc) (pc' := t) rfl hd rfl (by rw [ht]; exact Int.natCast_nonneg _) (by rw [ht]; rfl) h) F
theorem nonnullN (X : Stand p l e R s m args below meth c T locs cells slots) (hx : p.tables.exec = Jvm.exec) {o : Int} (hd : decode c.code pc = .ok (.ifnonnull o, 3)) (hn : pc + 3 = n) (F : Go p e below Fe Q K N T (mkF m n Ls rest)) : Go p e below Fe Q K N T (mkF m pc Ls (.null :: rest)) := by
  subst hn
  exact go (fun _ h => XT.ifnonnullNo X.here hx rfl hd rfl h) F
theorem nullR (X : Stand p l e R s m args below meth c T locs cells slots) (hx : p.tables.exec = Jvm.exec) {a : Addr} {o : Int} (hd : decode c.code pc = .ok (.ifnull o, 3)) (hn : pc + 3 = n) (F : Go p e below Fe Q K N T (mkF m n Ls rest)) : Go p e below Fe Q K N T (mkF m pc Ls (.ref a :: rest)) := by
  subst hn
  exact go (fun _ h => XT.nullNo X.here hx rfl hd rfl rfl (by simp) h) F
theorem nullN (X : Stand p l e R s m args below meth c T locs cells slots) (hx : p.tables.exec = Jvm.exec) {o : Int} (t : Nat) (hd : decode c.code pc = .ok (.ifnull o, 3)) (ht : (pc : Int) + o = t) (F : Go p e below Fe Q K N T (mkF m t Ls rest)) : Go p e below Fe Q K N T (mkF m pc Ls (.null :: rest)) :=
  go (fun _ h => XT.nullYes X.here hx rfl (pc0 := pc) (pc' := t) rfl hd rfl rfl (by rw [ht]; exact Int.natCast_nonneg _) (by rw [ht]; rfl) h) F
theorem getS (X : Stand p l e R s m args below meth c T locs cells slots) (hx : p.tables.exec = Jvm.exec) (hZ : Z.Warmed39 s.vm) {own O f d host : String} {index : Nat} (hown : s.vm.findClass own = some m.cls) (w : (Cond.fieldLink own index O f d).before a0 Z = true ∨ (Cond.fieldLinkNest own index O f d host).before a0 Z = true) (eT : T.heap = h) {v : Value} (S : Sta Z h O f d v) (hd : decode c.code pc = .ok (.getstatic index, 3)) (hn : pc + 3 = n)
    (F : ∀ T', Stand p l e R s m args below meth c T' locs cells slots → T'.heap = h → Go p e below Fe Q K N T' (mkF m n Ls (v :: st))) : Go p e below Fe Q K N T (mkF m pc Ls st) := by
  subst hn
  obtain ⟨T', X', e', st'⟩ := getS2 X hx hZ hown (host := host) w Via.refl eT S (g := mkF m pc Ls st) rfl hd
  exact go (fun _ h => st' _ h) (F T' X' e')
theorem getF (X : Stand p l e R s m args below meth c T locs cells slots) (hx : p.tables.exec = Jvm.exec) (hZ : Z.Warmed39 s.vm) {own O f d host : String} {index : Nat} (hown : s.vm.findClass own = some m.cls) (w : (Cond.fieldLink own index O f d).before a0 Z = true ∨ (Cond.fieldLinkNest own index O f d host).before a0 Z = true) (eT : T.heap = h) {a : Addr} {v : Value} (S : Fld Z h a O f d v) (hd : decode c.code pc = .ok (.getfield index, 3)) (hn : pc + 3 = n)
    (F : ∀ T', Stand p l e R s m args below meth c T' locs cells slots → T'.heap = h → Go p e below Fe Q K N T' (mkF m n Ls (v :: st))) : Go p e below Fe Q K N T (mkF m pc Ls (.ref a :: st)) := by
  subst hn
  obtain ⟨T', X', e', st'⟩ := RoadKit.getF X hx hZ hown (host := host) w Via.refl eT S (g := mkF m pc Ls (.ref a :: st)) rfl rfl hd
  exact go (fun _ h => st' _ h) (F T' X' e')
theorem in_of {cl : Cell} {z j : Int32} (S : cl.slots.size = z.toNatClampNeg) (N : ¬ z < 0) (h1 : 0 ≤ j.toInt) (h2 : j.toInt < z.toInt) : ¬ (j < 0 ∨ cl.slots.size ≤ j.toNatClampNeg) := by
  rw [S, Int32.lt_iff_toInt_lt]
  rw [Int32.lt_iff_toInt_lt] at N
  have e0 : (0 : Int32).toInt = 0 := rfl
  have q1 : z.toNatClampNeg = z.toInt.toNat := rfl
  have q2 : j.toNatClampNeg = j.toInt.toNat := rfl
  omega
theorem alen (X : Stand p l e R s m args below meth c T locs cells slots) (hx : p.tables.exec = Jvm.exec) (hZ : Z.Warmed39 s.vm) {a : Addr} {k : ClassId} {ty : FieldType} {z : Int32} {vs : List Value} {d : Value} (eT : T.heap = h) (A : Arv Z h a k ty z vs d) (hd : decode c.code pc = .ok (.arraylength, 1)) (hn : pc + 1 = n) (F : Go p e below Fe Q K N T (mkF m n Ls (.int z :: st))) : Go p e below Fe Q K N T (mkF m pc Ls (.ref a :: st)) := by
  subst hn
  obtain ⟨cl, Ar, -, S, N, -, -⟩ := A
  refine go (fun _ h => X.arraylength hx (by rw [eT]; exact Ar.1) (State.isArrayOf_alike hZ.alike Ar.2.1) (g := mkF m pc Ls (.ref a :: st)) rfl rfl hd _ h) ?_
  rw [len_of S N]
  exact F
theorem iaload (X : Stand p l e R s m args below meth c T locs cells slots) (hx : p.tables.exec = Jvm.exec) (hZ : Z.Warmed39 s.vm) {a : Addr} {k : ClassId} {z j : Int32} {vs : List Value} {d v : Value} (eT : T.heap = h) (A : Arv Z h a k .int z vs d) (h1 : 0 ≤ j.toInt) (h2 : j.toInt < z.toInt) (hv : vs.getD j.toNatClampNeg d = v) (hd : decode c.code pc = .ok (.iaload, 1)) (hn : pc + 1 = n) (F : Go p e below Fe Q K N T (mkF m n Ls (v :: st))) : Go p e below Fe Q K N T (mkF m pc Ls (.int j :: .ref a :: st)) := by
  subst hn
  obtain ⟨cl, Ar, -, S, N, H, -⟩ := A
  have hin := in_of S N h1 h2
  exact go (fun _ h => X.iaload hx (j := j) (v := v) (by rw [eT]; exact Ar.1) (State.isArrayOf_alike hZ.alike Ar.2.1) Ar.2.2 hin (H.at hin hv) (g := mkF m pc Ls (.int j :: .ref a :: st)) rfl rfl hd _ h) F
theorem caload (X : Stand p l e R s m args below meth c T locs cells slots) (hx : p.tables.exec = Jvm.exec) (hZ : Z.Warmed39 s.vm) {a : Addr} {k : ClassId} {z j : Int32} {vs : List Value} {d v : Value} (eT : T.heap = h) (A : Arv Z h a k .char z vs d) (h1 : 0 ≤ j.toInt) (h2 : j.toInt < z.toInt) (hv : vs.getD j.toNatClampNeg d = v) (hd : decode c.code pc = .ok (.caload, 1)) (hn : pc + 1 = n) (F : Go p e below Fe Q K N T (mkF m n Ls (v :: st))) : Go p e below Fe Q K N T (mkF m pc Ls (.int j :: .ref a :: st)) := by
  subst hn
  obtain ⟨cl, Ar, -, S, N, H, -⟩ := A
  have hin := in_of S N h1 h2
  exact go (fun _ h => X.caload hx (j := j) (v := v) (by rw [eT]; exact Ar.1) (State.isArrayOf_alike hZ.alike Ar.2.1) Ar.2.2 hin (H.at hin hv) (g := mkF m pc Ls (.int j :: .ref a :: st)) rfl rfl hd _ h) F
theorem laload (X : Stand p l e R s m args below meth c T locs cells slots) (hx : p.tables.exec = Jvm.exec) (hZ : Z.Warmed39 s.vm) {a : Addr} {k : ClassId} {z j : Int32} {vs : List Value} {d v : Value} (eT : T.heap = h) (A : Arv Z h a k .long z vs d) (h1 : 0 ≤ j.toInt) (h2 : j.toInt < z.toInt) (hv : vs.getD j.toNatClampNeg d = v) (hd : decode c.code pc = .ok (.laload, 1)) (hn : pc + 1 = n) (F : Go p e below Fe Q K N T (mkF m n Ls (v :: st))) : Go p e below Fe Q K N T (mkF m pc Ls (.int j :: .ref a :: st)) := by
  subst hn
  obtain ⟨cl, Ar, -, S, N, H, -⟩ := A
  have hin := in_of S N h1 h2
  exact go (fun _ h => X.laload hx (j := j) (v := v) (by rw [eT]; exact Ar.1) (State.isArrayOf_alike hZ.alike Ar.2.1) Ar.2.2 hin (H.at hin hv) (g := mkF m pc Ls (.int j :: .ref a :: st)) rfl rfl hd _ h) F
theorem baload (X : Stand p l e R s m args below meth c T locs cells slots) (hx : p.tables.exec = Jvm.exec) (hZ : Z.Warmed39 s.vm) {a : Addr} {k : ClassId} {z j : Int32} {vs : List Value} {d v : Value} (eT : T.heap = h) (A : Arv Z h a k .byte z vs d) (h1 : 0 ≤ j.toInt) (h2 : j.toInt < z.toInt) (hv : vs.getD j.toNatClampNeg d = v) (hd : decode c.code pc = .ok (.baload, 1)) (hn : pc + 1 = n) (F : Go p e below Fe Q K N T (mkF m n Ls (v :: st))) : Go p e below Fe Q K N T (mkF m pc Ls (.int j :: .ref a :: st)) := by
  subst hn
  obtain ⟨cl, Ar, -, S, N, H, -⟩ := A
  have hin := in_of S N h1 h2
  exact go (fun _ h => X.baloadBytes hx (j := j) (v := v) (by rw [eT]; exact Ar.1) (State.isArrayOf_alike hZ.alike Ar.2.1) Ar.2.2 hin (H.at hin hv) (g := mkF m pc Ls (.int j :: .ref a :: st)) rfl rfl hd _ h) F
theorem aaload (X : Stand p l e R s m args below meth c T locs cells slots) (hx : p.tables.exec = Jvm.exec) (hZ : Z.Warmed39 s.vm) {a : Addr} {k : ClassId} {ty : FieldType} {z j : Int32} {vs : List Value} {d v : Value} (eT : T.heap = h) (A : Arv Z h a k ty z vs d) (hty : ty.isReference = true) (h1 : 0 ≤ j.toInt) (h2 : j.toInt < z.toInt) (hv : vs.getD j.toNatClampNeg d = v) (hd : decode c.code pc = .ok (.aaload, 1)) (hn : pc + 1 = n) (F : Go p e below Fe Q K N T (mkF m n Ls (v :: st))) : Go p e below Fe Q K N T (mkF m pc Ls (.int j :: .ref a :: st)) := by
  subst hn
  obtain ⟨cl, Ar, -, S, N, H, -⟩ := A
  have hin := in_of S N h1 h2
  exact go (fun _ h => X.aaload hx (j := j) (v := v) (by rw [eT]; exact Ar.1) (State.isArrayOf_alike hZ.alike Ar.2.1) hty Ar.2.2 hin (H.at hin hv) (g := mkF m pc Ls (.int j :: .ref a :: st)) rfl rfl hd _ h) F
theorem b01 {P : Prop} [Decidable P] : b P = 0 ∨ b P = 1 := by by_cases q : P <;> simp [b, q]
theorem fin {w : Option Value} {g : JFrame} (X : Stand p l e R s m args below meth c T locs cells slots) (hlk : meth.locks = false) (hv : meth.sig.returnType = none → w = none) (hc : cells ≤ K) (hs : slots ≤ N) (hQ : Q w T.heap locs) (step : ∀ fs, (∀ (f : JFrame) (acts : List Action), f.method = m → f.locked = none → f.entered = [] → (doReturn e (T.setTop f) acts w).1 = T.setFrames fs) → Steps p.tables e below (T.setTop g) (T.setFrames fs)) : Go p e below (FrameEnd s) Q K N T g := by
  obtain ⟨fs, hr, hrun, hended, hW, hsame⟩ := X.leave (v := w) hv hlk
  exact ⟨_, _, step fs hr, hrun, hended, _, _, rfl, hQ, ⟨_, rfl⟩, hW, hsame.mono hc hs⟩
theorem finW {w : Option Value} {g : JFrame} (X : Stand p l e R (s.setVm vm0) m args below meth c T locs cells slots) (hS : s.Since vm0 k0) (hk0 : k0 ≤ T.heap.size) (hlk : meth.locks = false) (hv : meth.sig.returnType = none → w = none) (hc : cells ≤ K) (hs : slots ≤ N) (hQ : Q w T.heap locs) (step : ∀ fs, (∀ (f : JFrame) (acts : List Action), f.method = m → f.locked = none → f.entered = [] → (doReturn e (T.setTop f) acts w).1 = T.setFrames fs) → Steps p.tables e below (T.setTop g) (T.setFrames fs)) : Go p e below (ReturnedEndW s) Q K N T g := by
  obtain ⟨fs, hr, hrun, hended, hW, hsame⟩ := X.leave (v := w) hv hlk
  obtain ⟨q1, q2, q3⟩ := hS.ended (U := T.setFrames fs) hW hk0 hsame
  exact ⟨_, _, step fs hr, hrun, hended, _, _, rfl, hQ, ⟨_, rfl⟩, q1, q2, q3.mono hc hs⟩
/-- the wide end, with a word on the tables -/
def EndV (s : State) (Qv : Vm → Prop) (o : Outcome) (t : State) (L : List Loc) (k n : Nat) : Prop := ReturnedEndW s o t L k n ∧ Qv t.vm
theorem finV {w : Option Value} {g : JFrame} {Qv : Vm → Prop} (X : Stand p l e R (s.setVm vm0) m args below meth c T locs cells slots) (hS : s.Since vm0 k0) (hk0 : k0 ≤ T.heap.size) (hV : Qv T.vm) (hlk : meth.locks = false) (hv : meth.sig.returnType = none → w = none) (hc : cells ≤ K) (hs : slots ≤ N) (hQ : Q w T.heap locs) (step : ∀ fs, (∀ (f : JFrame) (acts : List Action), f.method = m → f.locked = none → f.entered = [] → (doReturn e (T.setTop f) acts w).1 = T.setFrames fs) → Steps p.tables e below (T.setTop g) (T.setFrames fs)) : Go p e below (EndV s Qv) Q K N T g := by
  obtain ⟨fs, hr, hrun, hended, hW, hsame⟩ := X.leave (v := w) hv hlk
  obtain ⟨q1, q2, q3⟩ := hS.ended (U := T.setFrames fs) hW hk0 hsame
  exact ⟨_, _, step fs hr, hrun, hended, _, _, rfl, hQ, ⟨⟨_, rfl⟩, q1, q2, q3.mono hc hs⟩, hV⟩
theorem to_wide {g : JFrame} (F : Go p e below (FrameEnd s) Q K N T g) : Go p e below (ReturnedEndW s) Q K N T g := by
  obtain ⟨s₂, o, h1, h2, h3, v, L, h4, h5, h6⟩ := F
  exact ⟨s₂, o, h1, h2, h3, v, L, h4, h5, wide h6⟩
theorem retI (X : Stand p l e R s m args below meth c T locs cells slots) (hx : p.tables.exec = Jvm.exec) (hlk : meth.locks = false) (hret : meth.sig.returnType = some .int) {z : Int32} (hd : decode c.code pc = .ok (.ireturn, 1)) (hc : cells ≤ K) (hs : slots ≤ N) (hQ : Q (some (.int z)) T.heap locs) : Go p e below (FrameEnd s) Q K N T (mkF m pc Ls (.int z :: rest)) :=
  fin X hlk (fun h => by rw [hret] at h; cases h) hc hs hQ (fun _ hr => retOut X hx hret rfl (Or.inl ⟨rfl, Or.inl rfl, _, rfl⟩) hd hr)
theorem retZ (X : Stand p l e R s m args below meth c T locs cells slots) (hx : p.tables.exec = Jvm.exec) (hlk : meth.locks = false) (hret : meth.sig.returnType = some .boolean) {z : Int32} (hd : decode c.code pc = .ok (.ireturn, 1)) (hz : z = 0 ∨ z = 1) (hc : cells ≤ K) (hs : slots ≤ N) (hQ : Q (some (.int z)) T.heap locs) : Go p e below (FrameEnd s) Q K N T (mkF m pc Ls (.int z :: rest)) :=
  fin X hlk (fun h => by rw [hret] at h; cases h) hc hs hQ (fun _ hr => retOut X hx hret (by rcases hz with rfl | rfl <;> rfl) (Or.inl ⟨rfl, Or.inr (Or.inl rfl), _, rfl⟩) hd hr)
theorem retC (X : Stand p l e R s m args below meth c T locs cells slots) (hx : p.tables.exec = Jvm.exec) (hlk : meth.locks = false) (hret : meth.sig.returnType = some .char) {z : Int32} (hd : decode c.code pc = .ok (.ireturn, 1)) (hz : narrow .char (.int z) = .int z) (hc : cells ≤ K) (hs : slots ≤ N) (hQ : Q (some (.int z)) T.heap locs) : Go p e below (FrameEnd s) Q K N T (mkF m pc Ls (.int z :: rest)) :=
  fin X hlk (fun h => by rw [hret] at h; cases h) hc hs hQ (fun _ hr => retOut X hx hret hz (Or.inl ⟨rfl, Or.inr (Or.inr (Or.inr (Or.inl rfl))), _, rfl⟩) hd hr)
theorem retB (X : Stand p l e R s m args below meth c T locs cells slots) (hx : p.tables.exec = Jvm.exec) (hlk : meth.locks = false) (hret : meth.sig.returnType = some .byte) {z : Int32} (hd : decode c.code pc = .ok (.ireturn, 1)) (hz : narrow .byte (.int z) = .int z) (hc : cells ≤ K) (hs : slots ≤ N) (hQ : Q (some (.int z)) T.heap locs) : Go p e below (FrameEnd s) Q K N T (mkF m pc Ls (.int z :: rest)) :=
  fin X hlk (fun h => by rw [hret] at h; cases h) hc hs hQ (fun _ hr => retOut X hx hret hz (Or.inl ⟨rfl, Or.inr (Or.inr (Or.inl rfl)), _, rfl⟩) hd hr)
theorem retL (X : Stand p l e R s m args below meth c T locs cells slots) (hx : p.tables.exec = Jvm.exec) (hlk : meth.locks = false) (hret : meth.sig.returnType = some .long) {z : Int64} (hd : decode c.code pc = .ok (.lreturn, 1)) (hc : cells ≤ K) (hs : slots ≤ N) (hQ : Q (some (.long z)) T.heap locs) : Go p e below (FrameEnd s) Q K N T (mkF m pc Ls (.long z :: rest)) :=
  fin X hlk (fun h => by rw [hret] at h; cases h) hc hs hQ (fun _ hr => retOut X hx hret rfl (Or.inr (Or.inl ⟨rfl, rfl, _, rfl⟩)) hd hr)
theorem retA (X : Stand p l e R s m args below meth c T locs cells slots) (hx : p.tables.exec = Jvm.exec) (hlk : meth.locks = false) {ty : FieldType} (hret : meth.sig.returnType = some ty) (hty : ty.isReference = true) {v : Value} (hv : v.isRef = true) (hd : decode c.code pc = .ok (.areturn, 1)) (hc : cells ≤ K) (hs : slots ≤ N) (hQ : Q (some v) T.heap locs) : Go p e below (FrameEnd s) Q K N T (mkF m pc Ls (v :: rest)) :=
  fin X hlk (fun h => by rw [hret] at h; cases h) hc hs hQ (fun _ hr => retOut X hx hret (by cases ty <;> cases v <;> first | rfl | simp [Value.isRef] at hv | simp [FieldType.isReference] at hty) (Or.inr (Or.inr (Or.inr (Or.inr ⟨rfl, hty, hv⟩)))) hd hr)
theorem retV (X : Stand p l e R s m args below meth c T locs cells slots) (hx : p.tables.exec = Jvm.exec) (hlk : meth.locks = false) (hret : meth.sig.returnType = none) (hd : decode c.code pc = .ok (.return_, 1)) (hc : cells ≤ K) (hs : slots ≤ N) (hQ : Q none T.heap locs) : Go p e below (FrameEnd s) Q K N T (mkF m pc Ls []) :=
  fin X hlk (fun _ => rfl) hc hs hQ (fun _ hr => X.returnOut hx hret hd hr)
theorem retIW (X : Stand p l e R (s.setVm vm0) m args below meth c T locs cells slots) (hx : p.tables.exec = Jvm.exec) (hS : s.Since vm0 k0) (hk0 : k0 ≤ T.heap.size) (hlk : meth.locks = false) (hret : meth.sig.returnType = some .int) {z : Int32} (hd : decode c.code pc = .ok (.ireturn, 1)) (hc : cells ≤ K) (hs : slots ≤ N) (hQ : Q (some (.int z)) T.heap locs) : Go p e below (ReturnedEndW s) Q K N T (mkF m pc Ls (.int z :: rest)) :=
  finW X hS hk0 hlk (fun h => by rw [hret] at h; cases h) hc hs hQ (fun _ hr => retOut X hx hret rfl (Or.inl ⟨rfl, Or.inl rfl, _, rfl⟩) hd hr)
theorem retZW (X : Stand p l e R (s.setVm vm0) m args below meth c T locs cells slots) (hx : p.tables.exec = Jvm.exec) (hS : s.Since vm0 k0) (hk0 : k0 ≤ T.heap.size) (hlk : meth.locks = false) (hret : meth.sig.returnType = some .boolean) {z : Int32} (hd : decode c.code pc = .ok (.ireturn, 1)) (hz : z = 0 ∨ z = 1) (hc : cells ≤ K) (hs : slots ≤ N) (hQ : Q (some (.int z)) T.heap locs) : Go p e below (ReturnedEndW s) Q K N T (mkF m pc Ls (.int z :: rest)) :=
  finW X hS hk0 hlk (fun h => by rw [hret] at h; cases h) hc hs hQ (fun _ hr => retOut X hx hret (by rcases hz with rfl | rfl <;> rfl) (Or.inl ⟨rfl, Or.inr (Or.inl rfl), _, rfl⟩) hd hr)
theorem retCW (X : Stand p l e R (s.setVm vm0) m args below meth c T locs cells slots) (hx : p.tables.exec = Jvm.exec) (hS : s.Since vm0 k0) (hk0 : k0 ≤ T.heap.size) (hlk : meth.locks = false) (hret : meth.sig.returnType = some .char) {z : Int32} (hd : decode c.code pc = .ok (.ireturn, 1)) (hz : narrow .char (.int z) = .int z) (hc : cells ≤ K) (hs : slots ≤ N) (hQ : Q (some (.int z)) T.heap locs) : Go p e below (ReturnedEndW s) Q K N T (mkF m pc Ls (.int z :: rest)) :=
  finW X hS hk0 hlk (fun h => by rw [hret] at h; cases h) hc hs hQ (fun _ hr => retOut X hx hret hz (Or.inl ⟨rfl, Or.inr (Or.inr (Or.inr (Or.inl rfl))), _, rfl⟩) hd hr)
theorem retBW (X : Stand p l e R (s.setVm vm0) m args below meth c T locs cells slots) (hx : p.tables.exec = Jvm.exec) (hS : s.Since vm0 k0) (hk0 : k0 ≤ T.heap.size) (hlk : meth.locks = false) (hret : meth.sig.returnType = some .byte) {z : Int32} (hd : decode c.code pc = .ok (.ireturn, 1)) (hz : narrow .byte (.int z) = .int z) (hc : cells ≤ K) (hs : slots ≤ N) (hQ : Q (some (.int z)) T.heap locs) : Go p e below (ReturnedEndW s) Q K N T (mkF m pc Ls (.int z :: rest)) :=
  finW X hS hk0 hlk (fun h => by rw [hret] at h; cases h) hc hs hQ (fun _ hr => retOut X hx hret hz (Or.inl ⟨rfl, Or.inr (Or.inr (Or.inl rfl)), _, rfl⟩) hd hr)
theorem retLW (X : Stand p l e R (s.setVm vm0) m args below meth c T locs cells slots) (hx : p.tables.exec = Jvm.exec) (hS : s.Since vm0 k0) (hk0 : k0 ≤ T.heap.size) (hlk : meth.locks = false) (hret : meth.sig.returnType = some .long) {z : Int64} (hd : decode c.code pc = .ok (.lreturn, 1)) (hc : cells ≤ K) (hs : slots ≤ N) (hQ : Q (some (.long z)) T.heap locs) : Go p e below (ReturnedEndW s) Q K N T (mkF m pc Ls (.long z :: rest)) :=
  finW X hS hk0 hlk (fun h => by rw [hret] at h; cases h) hc hs hQ (fun _ hr => retOut X hx hret rfl (Or.inr (Or.inl ⟨rfl, rfl, _, rfl⟩)) hd hr)
theorem retAW (X : Stand p l e R (s.setVm vm0) m args below meth c T locs cells slots) (hx : p.tables.exec = Jvm.exec) (hS : s.Since vm0 k0) (hk0 : k0 ≤ T.heap.size) (hlk : meth.locks = false) {ty : FieldType} (hret : meth.sig.returnType = some ty) (hty : ty.isReference = true) {v : Value} (hv : v.isRef = true) (hd : decode c.code pc = .ok (.areturn, 1)) (hc : cells ≤ K) (hs : slots ≤ N) (hQ : Q (some v) T.heap locs) : Go p e below (ReturnedEndW s) Q K N T (mkF m pc Ls (v :: rest)) :=
  finW X hS hk0 hlk (fun h => by rw [hret] at h; cases h) hc hs hQ (fun _ hr => retOut X hx hret (by cases ty <;> cases v <;> first | rfl | simp [Value.isRef] at hv | simp [FieldType.isReference] at hty) (Or.inr (Or.inr (Or.inr (Or.inr ⟨rfl, hty, hv⟩)))) hd hr)
theorem retVW (X : Stand p l e R (s.setVm vm0) m args below meth c T locs cells slots) (hx : p.tables.exec = Jvm.exec) (hS : s.Since vm0 k0) (hk0 : k0 ≤ T.heap.size) (hlk : meth.locks = false) (hret : meth.sig.returnType = none) (hd : decode c.code pc = .ok (.return_, 1)) (hc : cells ≤ K) (hs : slots ≤ N) (hQ : Q none T.heap locs) : Go p e below (ReturnedEndW s) Q K N T (mkF m pc Ls []) :=
  finW X hS hk0 hlk (fun _ => rfl) hc hs hQ (fun _ hr => X.returnOut hx hret hd hr)
theorem retIV (X : Stand p l e R (s.setVm vm0) m args below meth c T locs cells slots) (hx : p.tables.exec = Jvm.exec) {Qv : Vm → Prop} (hS : s.Since vm0 k0) (hk0 : k0 ≤ T.heap.size) (hV : Qv T.vm) (hlk : meth.locks = false) (hret : meth.sig.returnType = some .int) {z : Int32} (hd : decode c.code pc = .ok (.ireturn, 1)) (hc : cells ≤ K) (hs : slots ≤ N) (hQ : Q (some (.int z)) T.heap locs) : Go p e below (EndV s Qv) Q K N T (mkF m pc Ls (.int z :: rest)) :=
  finV X hS hk0 hV hlk (fun h => by rw [hret] at h; cases h) hc hs hQ (fun _ hr => retOut X hx hret rfl (Or.inl ⟨rfl, Or.inl rfl, _, rfl⟩) hd hr)
theorem retZV (X : Stand p l e R (s.setVm vm0) m args below meth c T locs cells slots) (hx : p.tables.exec = Jvm.exec) {Qv : Vm → Prop} (hS : s.Since vm0 k0) (hk0 : k0 ≤ T.heap.size) (hV : Qv T.vm) (hlk : meth.locks = false) (hret : meth.sig.returnType = some .boolean) {z : Int32} (hd : decode c.code pc = .ok (.ireturn, 1)) (hz : z = 0 ∨ z = 1) (hc : cells ≤ K) (hs : slots ≤ N) (hQ : Q (some (.int z)) T.heap locs) : Go p e below (EndV s Qv) Q K N T (mkF m pc Ls (.int z :: rest)) :=
  finV X hS hk0 hV hlk (fun h => by rw [hret] at h; cases h) hc hs hQ (fun _ hr => retOut X hx hret (by rcases hz with rfl | rfl <;> rfl) (Or.inl ⟨rfl, Or.inr (Or.inl rfl), _, rfl⟩) hd hr)
theorem retCV (X : Stand p l e R (s.setVm vm0) m args below meth c T locs cells slots) (hx : p.tables.exec = Jvm.exec) {Qv : Vm → Prop} (hS : s.Since vm0 k0) (hk0 : k0 ≤ T.heap.size) (hV : Qv T.vm) (hlk : meth.locks = false) (hret : meth.sig.returnType = some .char) {z : Int32} (hd : decode c.code pc = .ok (.ireturn, 1)) (hz : narrow .char (.int z) = .int z) (hc : cells ≤ K) (hs : slots ≤ N) (hQ : Q (some (.int z)) T.heap locs) : Go p e below (EndV s Qv) Q K N T (mkF m pc Ls (.int z :: rest)) :=
  finV X hS hk0 hV hlk (fun h => by rw [hret] at h; cases h) hc hs hQ (fun _ hr => retOut X hx hret hz (Or.inl ⟨rfl, Or.inr (Or.inr (Or.inr (Or.inl rfl))), _, rfl⟩) hd hr)
theorem retBV (X : Stand p l e R (s.setVm vm0) m args below meth c T locs cells slots) (hx : p.tables.exec = Jvm.exec) {Qv : Vm → Prop} (hS : s.Since vm0 k0) (hk0 : k0 ≤ T.heap.size) (hV : Qv T.vm) (hlk : meth.locks = false) (hret : meth.sig.returnType = some .byte) {z : Int32} (hd : decode c.code pc = .ok (.ireturn, 1)) (hz : narrow .byte (.int z) = .int z) (hc : cells ≤ K) (hs : slots ≤ N) (hQ : Q (some (.int z)) T.heap locs) : Go p e below (EndV s Qv) Q K N T (mkF m pc Ls (.int z :: rest)) :=
  finV X hS hk0 hV hlk (fun h => by rw [hret] at h; cases h) hc hs hQ (fun _ hr => retOut X hx hret hz (Or.inl ⟨rfl, Or.inr (Or.inr (Or.inl rfl)), _, rfl⟩) hd hr)
theorem retLV (X : Stand p l e R (s.setVm vm0) m args below meth c T locs cells slots) (hx : p.tables.exec = Jvm.exec) {Qv : Vm → Prop} (hS : s.Since vm0 k0) (hk0 : k0 ≤ T.heap.size) (hV : Qv T.vm) (hlk : meth.locks = false) (hret : meth.sig.returnType = some .long) {z : Int64} (hd : decode c.code pc = .ok (.lreturn, 1)) (hc : cells ≤ K) (hs : slots ≤ N) (hQ : Q (some (.long z)) T.heap locs) : Go p e below (EndV s Qv) Q K N T (mkF m pc Ls (.long z :: rest)) :=
  finV X hS hk0 hV hlk (fun h => by rw [hret] at h; cases h) hc hs hQ (fun _ hr => retOut X hx hret rfl (Or.inr (Or.inl ⟨rfl, rfl, _, rfl⟩)) hd hr)
theorem retAV (X : Stand p l e R (s.setVm vm0) m args below meth c T locs cells slots) (hx : p.tables.exec = Jvm.exec) {Qv : Vm → Prop} (hS : s.Since vm0 k0) (hk0 : k0 ≤ T.heap.size) (hV : Qv T.vm) (hlk : meth.locks = false) {ty : FieldType} (hret : meth.sig.returnType = some ty) (hty : ty.isReference = true) {v : Value} (hv : v.isRef = true) (hd : decode c.code pc = .ok (.areturn, 1)) (hc : cells ≤ K) (hs : slots ≤ N) (hQ : Q (some v) T.heap locs) : Go p e below (EndV s Qv) Q K N T (mkF m pc Ls (v :: rest)) :=
  finV X hS hk0 hV hlk (fun h => by rw [hret] at h; cases h) hc hs hQ (fun _ hr => retOut X hx hret (by cases ty <;> cases v <;> first | rfl | simp [Value.isRef] at hv | simp [FieldType.isReference] at hty) (Or.inr (Or.inr (Or.inr (Or.inr ⟨rfl, hty, hv⟩)))) hd hr)
theorem retVV (X : Stand p l e R (s.setVm vm0) m args below meth c T locs cells slots) (hx : p.tables.exec = Jvm.exec) {Qv : Vm → Prop} (hS : s.Since vm0 k0) (hk0 : k0 ≤ T.heap.size) (hV : Qv T.vm) (hlk : meth.locks = false) (hret : meth.sig.returnType = none) (hd : decode c.code pc = .ok (.return_, 1)) (hc : cells ≤ K) (hs : slots ≤ N) (hQ : Q none T.heap locs) : Go p e below (EndV s Qv) Q K N T (mkF m pc Ls []) :=
  finV X hS hk0 hV hlk (fun _ => rfl) hc hs hQ (fun _ hr => X.returnOut hx hret hd hr)
/-- a method's contract: with the arguments as', over the heap h0, it comes back and Q holds -/
def Met (l : Launch) (Z : State) (y : MethodName) (bytes : ByteArray) (maxL : Nat) (ret : Option FieldType) (ws : List Cond) (rm : Room) (as' : Array Value) (h0 : Heap) (Q : Option Value → Heap → List Loc → Prop) : Prop :=
  MetFree l y (head1 (Cond.code y bytes maxL ret :: ws) rm) (fun a U => a = as' ∧ Z.Warmed39 U.vm ∧ U.heap = h0) (fun _ _ _ _ _ => True) (fun _ U o U' => ∃ v L, o = .returned v ∧ Q v U'.heap L ∧ FrameEnd U o U' L rm.cells rm.slots)
/-- nothing written, nothing made: it returns w -/
def Pu (w : Value) (h0 : Heap) (v : Option Value) (h : Heap) (L : List Loc) : Prop := v = some w ∧ L = [] ∧ h = h0
theorem start {y : MethodName} {bytes : ByteArray} {maxL : Nat} {ret : Option FieldType} {ws : List Cond} {rm : Room} {as' : Array Value} {h0 : Heap} (pn : plainName y.cls = true)
    (body : ∀ (p : Program) (e : Env) (s : State) (m : MethodId) (below : List Frame) (meth : Method) (c : Code) (s₁ : State), Stand p l e rm s m as' below meth c s₁ [] 0 0 → p.tables.exec = Jvm.exec → c.code = bytes → c.maxLocals = maxL → s.vm.findClass y.cls = some m.cls → meth.name = y.name → meth.sig.returnType = ret → meth.locks = false → Z.Warmed39 s.vm → s₁.heap = h0 → Go p e below (FrameEnd s) Q rm.cells rm.slots s₁ (entryFrame m as' maxL)) : Met l Z y bytes maxL ret ws rm as' h0 Q := by
  refine MetFree.of_bodySF (plainFor_of_name pn) hisR ?_
  intro p e s m args below meth c s₁ Bd hml0 hP hK
  obtain ⟨rfl, hZ, hh⟩ := hP
  exact body p e s m below meth c s₁ (Stand.of_body Bd) Bd.exec Bd.bytes hml0 (findClass_of_methodNamed Bd.named) (name_of_methodNamed Bd.named Bd.method).1 Bd.returns Bd.notSynchronized hZ (by rw [← hh, Bd.state]; rfl)
theorem enter {g g' : JFrame} (q : g = g') (F : Go p e below Fe Q K N T g') : Go p e below Fe Q K N T g := q ▸ F
theorem callS (X : Stand p l e R s m args below meth c T locs cells slots) (hx : p.tables.exec = Jvm.exec) (hZ : Z.Warmed39 s.vm) {own : String} {index : Nat} {y : MethodName} {bytes : ByteArray} {maxL W : Nat} {ret : Option FieldType} {rm : Room} {Qc : Option Value → Heap → List Loc → Prop} {argsL : List Value} (hown : s.vm.findClass own = some m.cls)
    (wl : (Cond.methodLink own index y).before a0 Z = true) (ws : (Cond.static y).before a0 Z = true) (wi : (Cond.initialized y.cls).before a0 Z = true) (wc : (Cond.code y bytes maxL ret).before a0 Z = true) (hy : y.cls ≠ "java/lang/invoke/MethodHandle" ∧ y.cls ≠ "java/lang/invoke/VarHandle")
    (hM : Met l Z y bytes maxL ret [] rm argsL.toArray h Qc) (eT : T.heap = h) (hf : rm.frames + 1 ≤ R.frames) (hl : W + (maxL + 11) + rm.locals ≤ R.locals) (hck : cells + rm.cells ≤ R.cells) (hsk : slots + rm.slots ≤ R.slots) (hsz : Ls.size = c.maxLocals)
    (hlen : ∀ sig, parseMethodDescriptor y.desc = some sig → argsL.length = sig.parameters.length) (hst : st = argsL.reverse ++ rest) (hW : (rest.map fun v => v.category).sum ≤ W) (hd : decode c.code pc = .ok (.invokestatic index, 3)) (hn : pc + 3 = n)
    (F : ∀ T' v L, Stand p l e R s m args below meth c T' (locs ++ L) (cells + rm.cells) (slots + rm.slots) → Qc v T'.heap L → Go p e below Fe Q K N T' (mkF m n Ls (v.toList ++ rest))) : Go p e below Fe Q K N T (mkF m pc Ls st) := by
  subst hn
  obtain ⟨v, _, ⟨T18, L18, k18, n18⟩, -, X18, ⟨Lc18, hQ18, l18, y18, z18⟩, st18⟩ := Jvm.LawKit.callS X hx (y := y) hown (mvT hZ wl) (mvT hZ ws) (mvT hZ wi) (mvT hZ wc) hy (backOf (W := W) hM hZ wc wi hf hl) (g := mkF m pc Ls st) rfl hsz (argsL := argsL) (rest := rest) hlen hst (by show 2 * 0 + _ ≤ _; omega) hd (fun _ _ => ⟨rfl, eT, hck, hsk⟩)
  dsimp only [Pt.U, Pt.locs, Pt.cells, Pt.slots] at X18 l18 y18 z18 st18 hQ18
  subst l18 y18 z18
  exact go (fun _ h => st18 _ h) (F T18 v Lc18 X18 hQ18)
theorem callP (X : Stand p l e R s m args below meth c T locs cells slots) (hx : p.tables.exec = Jvm.exec) (hZ : Z.Warmed39 s.vm) {own : String} {index : Nat} {y : MethodName} {bytes : ByteArray} {maxL W : Nat} {ret : Option FieldType} {fr lo : Nat} {w : Value} {argsL : List Value} (hown : s.vm.findClass own = some m.cls)
    (wl : (Cond.methodLink own index y).before a0 Z = true) (ws : (Cond.static y).before a0 Z = true) (wi : (Cond.initialized y.cls).before a0 Z = true) (wc : (Cond.code y bytes maxL ret).before a0 Z = true) (hy : y.cls ≠ "java/lang/invoke/MethodHandle" ∧ y.cls ≠ "java/lang/invoke/VarHandle")
    (hM : Met l Z y bytes maxL ret [] { frames := fr, cells := 0, slots := 0, locals := lo } argsL.toArray h (Pu w h)) (eT : T.heap = h) (hf : fr + 1 ≤ R.frames) (hl : W + (maxL + 11) + lo ≤ R.locals) (hck : cells ≤ R.cells) (hsk : slots ≤ R.slots) (hsz : Ls.size = c.maxLocals)
    (hlen : ∀ sig, parseMethodDescriptor y.desc = some sig → argsL.length = sig.parameters.length) (hst : st = argsL.reverse ++ rest) (hW : (rest.map fun v => v.category).sum ≤ W) (hd : decode c.code pc = .ok (.invokestatic index, 3)) (hn : pc + 3 = n)
    (F : ∀ T', Stand p l e R s m args below meth c T' locs cells slots → T'.heap = h → Go p e below Fe Q K N T' (mkF m n Ls (w :: rest))) : Go p e below Fe Q K N T (mkF m pc Ls st) := by
  refine callS X hx hZ hown wl ws wi wc hy hM eT hf hl hck hsk hsz hlen hst hW hd hn ?_
  rintro T' v L X' ⟨rfl, rfl, hh⟩
  rw [List.append_nil] at X'
  exact F T' X' hh
theorem callV (X : Stand p l e R s m args below meth c T locs cells slots) (hx : p.tables.exec = Jvm.exec) (hZ : Z.Warmed39 s.vm) {own C : String} {index : Nat} {y z : MethodName} {bytes : ByteArray} {maxL W : Nat} {ret : Option FieldType} {rm : Room} {Qc : Option Value → Heap → List Loc → Prop} {argsL : List Value} {a : Addr} (hown : s.vm.findClass own = some m.cls)
    (wl : (Cond.methodLink own index y).before a0 Z = true) (wd : (Cond.declares y).before a0 Z = true) (wsel : (Cond.selects C y z).before a0 Z = true) (wm : (Cond.instanceMethod z).before a0 Z = true) (wi : (Cond.initialized z.cls).before a0 Z = true) (wc : (Cond.code z bytes maxL ret).before a0 Z = true) (hnf : NotFace s y) (hy : y.cls ≠ "java/lang/invoke/MethodHandle" ∧ y.cls ≠ "java/lang/invoke/VarHandle")
    (hM : Met l Z z bytes maxL ret [] rm (Value.ref a :: argsL).toArray h Qc) (eT : T.heap = h) (E : Exa Z h a C) (hf : rm.frames + 1 ≤ R.frames) (hl : W + (maxL + 11) + rm.locals ≤ R.locals) (hck : cells + rm.cells ≤ R.cells) (hsk : slots + rm.slots ≤ R.slots) (hsz : Ls.size = c.maxLocals)
    (hlen : ∀ sig, parseMethodDescriptor y.desc = some sig → argsL.length = sig.parameters.length) (hst : st = argsL.reverse ++ .ref a :: rest) (hW : (rest.map fun v => v.category).sum ≤ W) (hd : decode c.code pc = .ok (.invokevirtual index, 3)) (hn : pc + 3 = n)
    (F : ∀ T' v L, Stand p l e R s m args below meth c T' (locs ++ L) (cells + rm.cells) (slots + rm.slots) → Qc v T'.heap L → Go p e below Fe Q K N T' (mkF m n Ls (v.toList ++ rest))) : Go p e below Fe Q K N T (mkF m pc Ls st) := by
  subst hn
  obtain ⟨cq, kq, qa, qb, qc⟩ := isOf hZ eT E
  obtain ⟨v, _, ⟨T18, L18, k18, n18⟩, -, X18, ⟨Lc18, hQ18, l18, y18, z18⟩, st18⟩ := X.virtualBack hx (y := y) (z := z) hown (mvT hZ wl) (mvT hZ wd) hnf (mvT hZ wsel) (mvT hZ wm) hy (backOf (W := W) hM hZ wc wi hf hl) qa qc (g := mkF m pc Ls st) rfl hsz (Steps.refl _) (argsL := argsL) (rest := rest) hlen hst (by show 2 * 0 + _ ≤ _; omega) hd (fun _ _ => ⟨rfl, eT, hck, hsk⟩)
  dsimp only [Pt.U, Pt.locs, Pt.cells, Pt.slots] at X18 l18 y18 z18 st18 hQ18
  subst l18 y18 z18
  exact go (fun _ h => st18.trans h) (F T18 v Lc18 X18 hQ18)
theorem callVP (X : Stand p l e R s m args below meth c T locs cells slots) (hx : p.tables.exec = Jvm.exec) (hZ : Z.Warmed39 s.vm) {own C : String} {index : Nat} {y z : MethodName} {bytes : ByteArray} {maxL W : Nat} {ret : Option FieldType} {fr lo : Nat} {w : Value} {argsL : List Value} {a : Addr} (hown : s.vm.findClass own = some m.cls)
    (wl : (Cond.methodLink own index y).before a0 Z = true) (wd : (Cond.declares y).before a0 Z = true) (wsel : (Cond.selects C y z).before a0 Z = true) (wm : (Cond.instanceMethod z).before a0 Z = true) (wi : (Cond.initialized z.cls).before a0 Z = true) (wc : (Cond.code z bytes maxL ret).before a0 Z = true) (hnf : NotFace s y) (hy : y.cls ≠ "java/lang/invoke/MethodHandle" ∧ y.cls ≠ "java/lang/invoke/VarHandle")
    (hM : Met l Z z bytes maxL ret [] { frames := fr, cells := 0, slots := 0, locals := lo } (Value.ref a :: argsL).toArray h (Pu w h)) (eT : T.heap = h) (E : Exa Z h a C) (hf : fr + 1 ≤ R.frames) (hl : W + (maxL + 11) + lo ≤ R.locals) (hck : cells ≤ R.cells) (hsk : slots ≤ R.slots) (hsz : Ls.size = c.maxLocals)
    (hlen : ∀ sig, parseMethodDescriptor y.desc = some sig → argsL.length = sig.parameters.length) (hst : st = argsL.reverse ++ .ref a :: rest) (hW : (rest.map fun v => v.category).sum ≤ W) (hd : decode c.code pc = .ok (.invokevirtual index, 3)) (hn : pc + 3 = n)
    (F : ∀ T', Stand p l e R s m args below meth c T' locs cells slots → T'.heap = h → Go p e below Fe Q K N T' (mkF m n Ls (w :: rest))) : Go p e below Fe Q K N T (mkF m pc Ls st) := by
  refine callV X hx hZ hown wl wd wsel wm wi wc hnf hy hM eT E hf hl hck hsk hsz hlen hst hW hd hn ?_
  rintro T' v L X' ⟨rfl, rfl, hh⟩
  rw [List.append_nil] at X'
  exact F T' X' hh
theorem icmp_eqB (X : Stand p l e R s m args below meth c T locs cells slots) (hx : p.tables.exec = Jvm.exec) {P P' : Prop} [Decidable P] [Decidable P'] {o : Int} (t n : Nat) (hd : decode c.code pc = .ok (.if_icmp .eq o, 3)) (ht : (pc : Int) + o = t) (hn : pc + 3 = n) (FT : (P ↔ P') → Go p e below Fe Q K N T (mkF m t Ls rest)) (FF : ¬ (P ↔ P') → Go p e below Fe Q K N T (mkF m n Ls rest)) : Go p e below Fe Q K N T (mkF m pc Ls (.int (b P') :: .int (b P) :: rest)) :=
  icmp_eq X hx t n hd ht hn rfl rfl (fun q => FT (b_inj (Int32.toInt_inj.mp q))) (fun q => FF fun z => q (by rw [b_iff z]))
theorem tsw (X : Stand p l e R s m args below meth c T locs cells slots) (hx : p.tables.exec = Jvm.exec) {dflt low high : Int} {offs : Array Int} {len : Nat} {o : Int} {i : Int32} (t : Nat) (hd : decode c.code pc = .ok (.tableswitch dflt low high offs, len)) (hin : ¬ (i.toInt < low ∨ i.toInt > high)) (hoff : offs[(i.toInt - low).toNat]? = some o) (ht : (pc : Int) + o = t) (F : Go p e below Fe Q K N T (mkF m t Ls rest)) : Go p e below Fe Q K N T (mkF m pc Ls (.int i :: rest)) :=
  go (fun _ h => XS.tswIn X.here hx rfl (pc0 := pc) (pc' := t) rfl hd rfl hin hoff (by rw [ht]; exact Int.natCast_nonneg _) (by rw [ht]; rfl) h) F
theorem callVU (X : Stand p l e R s m args below meth c T locs cells slots) (hx : p.tables.exec = Jvm.exec) (hZ : Z.Warmed39 s.vm) {own C owner : String} {index : Nat} {y z : MethodName} {bytes : ByteArray} {maxL W : Nat} {ret : Option FieldType} {rm : Room} {Qc : Option Value → Heap → List Loc → Prop} {argsL : List Value} {a : Addr} (hown : s.vm.findClass own = some m.cls)
    (wl : (Cond.methodLink own index y).before a0 Z = true) (wsm : (Cond.sameMethod y.cls owner y.name y.desc).before a0 Z = true) (wd : (Cond.declares ⟨owner, y.name, y.desc⟩).before a0 Z = true) (wsel : (Cond.selects C y z).before a0 Z = true) (wm : (Cond.instanceMethod z).before a0 Z = true) (wi : (Cond.initialized z.cls).before a0 Z = true) (wc : (Cond.code z bytes maxL ret).before a0 Z = true) (hy : owner ≠ "java/lang/invoke/MethodHandle" ∧ owner ≠ "java/lang/invoke/VarHandle")
    (hM : Met l Z z bytes maxL ret [] rm (Value.ref a :: argsL).toArray h Qc) (eT : T.heap = h) (E : Exa Z h a C) (hf : rm.frames + 1 ≤ R.frames) (hl : W + (maxL + 11) + rm.locals ≤ R.locals) (hck : cells + rm.cells ≤ R.cells) (hsk : slots + rm.slots ≤ R.slots) (hsz : Ls.size = c.maxLocals)
    (hlen : ∀ sig, parseMethodDescriptor y.desc = some sig → argsL.length = sig.parameters.length) (hst : st = argsL.reverse ++ .ref a :: rest) (hW : (rest.map fun v => v.category).sum ≤ W) (hd : decode c.code pc = .ok (.invokevirtual index, 3)) (hn : pc + 3 = n)
    (F : ∀ T' v L, Stand p l e R s m args below meth c T' (locs ++ L) (cells + rm.cells) (slots + rm.slots) → Qc v T'.heap L → Go p e below Fe Q K N T' (mkF m n Ls (v.toList ++ rest))) : Go p e below Fe Q K N T (mkF m pc Ls st) := by
  subst hn
  obtain ⟨cq, kq, qa, qb, qc⟩ := isOf hZ eT E
  obtain ⟨v, _, ⟨T18, L18, k18, n18⟩, -, X18, ⟨Lc18, hQ18, l18, y18, z18⟩, st18⟩ := X.virtualBackUp hx (x := y) (y := z) hown (mvT hZ wl) (mvT hZ wsm) (mvT hZ wd) hy (mvT hZ wsel) (mvT hZ wm) (backOf (W := W) hM hZ wc wi hf hl) qa qc (g := mkF m pc Ls st) rfl hsz (Steps.refl _) (argsL := argsL) (rest := rest) hlen hst (by show 2 * 0 + _ ≤ _; omega) hd (fun _ _ => ⟨rfl, eT, hck, hsk⟩)
  dsimp only [Pt.U, Pt.locs, Pt.cells, Pt.slots] at X18 l18 y18 z18 st18 hQ18
  subst l18 y18 z18
  exact go (fun _ h => st18.trans h) (F T18 v Lc18 X18 hQ18)
theorem callVUP (X : Stand p l e R s m args below meth c T locs cells slots) (hx : p.tables.exec = Jvm.exec) (hZ : Z.Warmed39 s.vm) {own C owner : String} {index : Nat} {y z : MethodName} {bytes : ByteArray} {maxL W : Nat} {ret : Option FieldType} {fr lo : Nat} {w : Value} {argsL : List Value} {a : Addr} (hown : s.vm.findClass own = some m.cls)
    (wl : (Cond.methodLink own index y).before a0 Z = true) (wsm : (Cond.sameMethod y.cls owner y.name y.desc).before a0 Z = true) (wd : (Cond.declares ⟨owner, y.name, y.desc⟩).before a0 Z = true) (wsel : (Cond.selects C y z).before a0 Z = true) (wm : (Cond.instanceMethod z).before a0 Z = true) (wi : (Cond.initialized z.cls).before a0 Z = true) (wc : (Cond.code z bytes maxL ret).before a0 Z = true) (hy : owner ≠ "java/lang/invoke/MethodHandle" ∧ owner ≠ "java/lang/invoke/VarHandle")
    (hM : Met l Z z bytes maxL ret [] { frames := fr, cells := 0, slots := 0, locals := lo } (Value.ref a :: argsL).toArray h (Pu w h)) (eT : T.heap = h) (E : Exa Z h a C) (hf : fr + 1 ≤ R.frames) (hl : W + (maxL + 11) + lo ≤ R.locals) (hck : cells ≤ R.cells) (hsk : slots ≤ R.slots) (hsz : Ls.size = c.maxLocals)
    (hlen : ∀ sig, parseMethodDescriptor y.desc = some sig → argsL.length = sig.parameters.length) (hst : st = argsL.reverse ++ .ref a :: rest) (hW : (rest.map fun v => v.category).sum ≤ W) (hd : decode c.code pc = .ok (.invokevirtual index, 3)) (hn : pc + 3 = n)
    (F : ∀ T', Stand p l e R s m args below meth c T' locs cells slots → T'.heap = h → Go p e below Fe Q K N T' (mkF m n Ls (w :: rest))) : Go p e below Fe Q K N T (mkF m pc Ls st) := by
  refine callVU X hx hZ hown wl wsm wd wsel wm wi wc hy hM eT E hf hl hck hsk hsz hlen hst hW hd hn ?_
  rintro T' v L X' ⟨rfl, rfl, hh⟩
  rw [List.append_nil] at X'
  exact F T' X' hh
theorem cutF (g' : JFrame) {g : JFrame} (h1 : Go p e below Fe Q K N T g' → Go p e below Fe Q K N T g) (h2 : Go p e below Fe Q K N T g') : Go p e below Fe Q K N T g := h1 h2
theorem cutJ (g' : Int32 → JFrame) {g : JFrame} (h1 : (∀ j, Go p e below Fe Q K N T (g' j)) → Go p e below Fe Q K N T g) (h2 : ∀ j, Go p e below Fe Q K N T (g' j)) : Go p e below Fe Q K N T g := h1 h2
theorem cutX (X : Stand p l e R s m args below meth c T locs cells slots) (eT : T.heap = h) (g' : JFrame) {g : JFrame} (h1 : (∀ T', Stand p l e R s m args below meth c T' locs cells slots → T'.heap = h → Go p e below Fe Q K N T' g') → Go p e below Fe Q K N T g) (h2 : ∀ T', Stand p l e R s m args below meth c T' locs cells slots → T'.heap = h → Go p e below Fe Q K N T' g') : Go p e below Fe Q K N T g := h1 h2
theorem pu {w : Value} {h' : Heap} (e : h' = h) : Pu w h (some w) h' [] := ⟨rfl, rfl, e⟩
theorem puE {w w' : Value} {h' : Heap} (q : w' = w) (e : h' = h) : Pu w h (some w') h' [] := ⟨by rw [q], rfl, e⟩
theorem puB1 {P : Prop} [Decidable P] {h' : Heap} (hP : P) (e : h' = h) : Pu (.int (b P)) h (some (.int 1)) h' [] := ⟨by rw [b_t hP], rfl, e⟩
theorem puB0 {P : Prop} [Decidable P] {h' : Heap} (hP : ¬ P) (e : h' = h) : Pu (.int (b P)) h (some (.int 0)) h' [] := ⟨by rw [b_f hP], rfl, e⟩
end W
section A
theorem t_add {x y : Int32} {a b' : Int} (ha : x.toInt = a) (hb : y.toInt = b') (h1 : -2147483648 ≤ a + b') (h2 : a + b' < 2147483648) : (x + y).toInt = a + b' := by
  subst ha hb; rw [Int32.toInt_add]; exact Int.bmod_eq_of_le (by omega) (by omega)
theorem t_sub {x y : Int32} {a b' : Int} (ha : x.toInt = a) (hb : y.toInt = b') (h1 : -2147483648 ≤ a - b') (h2 : a - b' < 2147483648) : (x - y).toInt = a - b' := by
  subst ha hb; rw [Int32.toInt_sub]; exact Int.bmod_eq_of_le (by omega) (by omega)
theorem t_mul {x y : Int32} {a b' : Int} (ha : x.toInt = a) (hb : y.toInt = b') (h1 : -2147483648 ≤ a * b') (h2 : a * b' < 2147483648) : (x * y).toInt = a * b' := by
  subst ha hb; rw [Int32.toInt_mul]; exact Int.bmod_eq_of_le (by omega) (by omega)
theorem t_div {x y : Int32} {a d : Int} (ha : x.toInt = a) (hb : y.toInt = d) (h0 : 0 ≤ a) (hd : 0 < d) : (x / y).toInt = a / d := by
  subst ha hb
  have hy : y ≠ -1 := fun q => by rw [q] at hd; exact absurd hd (by decide)
  exact (c_idiv x y _ rfl hy).1 h0
theorem t_rem {x y : Int32} {a d : Int} (ha : x.toInt = a) (hb : y.toInt = d) (h0 : 0 ≤ a) : (x % y).toInt = a % d := by
  subst ha hb; exact (c_irem x y _ rfl).1 h0
theorem s_add {x y : Int64} {a b' : Int} (ha : x.toInt = a) (hb : y.toInt = b') (h1 : -9223372036854775808 ≤ a + b') (h2 : a + b' < 9223372036854775808) : (x + y).toInt = a + b' := by
  subst ha hb; rw [Int64.toInt_add]; exact Int.bmod_eq_of_le (by omega) (by omega)
theorem s_sub {x y : Int64} {a b' : Int} (ha : x.toInt = a) (hb : y.toInt = b') (h1 : -9223372036854775808 ≤ a - b') (h2 : a - b' < 9223372036854775808) : (x - y).toInt = a - b' := by
  subst ha hb; rw [Int64.toInt_sub]; exact Int.bmod_eq_of_le (by omega) (by omega)
theorem t_i2l {x : Int32} {a : Int} (ha : x.toInt = a) : x.toInt64.toInt = a := by rw [Int32.toInt_toInt64]; exact ha
theorem s_l2i {x : Int64} {a : Int} (ha : x.toInt = a) (h1 : -2147483648 ≤ a) (h2 : a < 2147483648) : x.toInt32.toInt = a := by
  have := c_l2i x; have h3 := x.toInt32.toInt_lt; have h4 := x.toInt32.le_toInt; omega
theorem t_i2s {x : Int32} {a : Int} (ha : x.toInt = a) (h1 : -32768 ≤ a) (h2 : a < 32768) : x.toInt16.toInt32.toInt = a := by
  have := c_i2s x; omega
end A
section V
variable {args : Array Value} {first s : State} {o : Option Outcome} {idx : List Nat} {t : Term}
theorem eqI_v {k : Int32} (h : (Cond.eq t (.int k)).value args first o s idx = some true) : t.eval args first o idx s = some (.int k) := by
  simp only [Cond.value, Term.eval] at h
  cases ht : t.eval args first o idx s with
  | none => simp [ht] at h
  | some x => cases x <;> simp [ht] at h ⊢; exact h
theorem eqJ_v {k : Int64} (h : (Cond.eq t (.long k)).value args first o s idx = some true) : t.eval args first o idx s = some (.long k) := by
  simp only [Cond.value, Term.eval] at h
  cases ht : t.eval args first o idx s with
  | none => simp [ht] at h
  | some x => cases x <;> simp [ht] at h ⊢; exact h
theorem foldl_all {f : Nat → Option Bool} : ∀ (L : List Nat) (acc : Option Bool), L.foldl (fun acc i => match acc with | some true => f i | x => x) acc = some true → acc = some true ∧ ∀ i ∈ L, f i = some true
  | [], acc, h => ⟨h, fun _ q => nomatch q⟩
  | i :: L, acc, h => by
    obtain ⟨h1, h2⟩ := foldl_all L _ h
    match acc, h1 with
    | some true, h1 => exact ⟨rfl, fun j q => (List.mem_cons.mp q).elim (fun z => z ▸ h1) (h2 j)⟩
theorem all_v {c : Cond} {a : Addr} {cell : Cell} (h : (Cond.all t c).value args first o s idx = some true) (ht : t.eval args first o idx s = some (.ref a)) (hc : s.arrayAt? a = some cell) : ∀ i, i < cell.slots.size → c.value args first o s (i :: idx) = some true := by
  simp only [Cond.value, ht, hc] at h
  exact fun i hi => (foldl_all _ _ h).2 i (List.mem_range.mpr hi)
theorem elI {x : Addr} {j k : Int32} {cl : Cell} {i : Nat} (h : (Cond.eq (.elem t (.int j)) (.int k)).value args first o s idx = some true) (ht : t.eval args first o idx s = some (.ref x)) (hc : s.heap[x]? = some cl) (hi : j.toNatClampNeg = i) : cl.slots[i]? = some (.int k) := by
  subst hi; exact (elem_in (eqI_v h) ht rfl hc).2
theorem elN {x : Addr} {j : Int32} {cl : Cell} {i : Nat} (h : (Cond.eq (.elem t (.int j)) .null).value args first o s idx = some true) (ht : t.eval args first o idx s = some (.ref x)) (hc : s.heap[x]? = some cl) (hi : j.toNatClampNeg = i) : cl.slots[i]? = some .null := by
  subst hi; exact (elem_in (null_v h) ht rfl hc).2
theorem eqR_v {t' : Term} {v : Value} (hv : v.isRef = true) (h : (Cond.eq t t').value args first o s idx = some true) (ht : t'.eval args first o idx s = some v) : t.eval args first o idx s = some v := by
  obtain ⟨x, y, e1, e2, k1, k2⟩ := cmp_v (Or.inl h)
  cases ht.symm.trans e2
  have hx : x.isRef = true := by rcases ref_cases hv with rfl | ⟨z, rfl⟩ <;> exact k2.2
  rw [e1, gotT (eq_R e1 e2 hx hv) h]
theorem elR {x y : Addr} {j : Int32} {cl : Cell} {i : Nat} {t' : Term} (h : (Cond.eq (.elem t (.int j)) t').value args first o s idx = some true) (hy : t'.eval args first o idx s = some (.ref y)) (ht : t.eval args first o idx s = some (.ref x)) (hc : s.heap[x]? = some cl) (hi : j.toNatClampNeg = i) : cl.slots[i]? = some (.ref y) := by
  subst hi; exact (elem_in (eqR_v rfl h hy) ht rfl hc).2
theorem or_f {c d : Cond} (h : (Cond.or c d).value args first o s idx = some true) (hc : c.value args first o s idx = some false) : d.value args first o s idx = some true := by
  simpa only [Cond.value, hc] using h
theorem len_fit {x : Addr} {cl : Cell} {ty : FieldType} {k : Int32} {Z : State} (h : (Cond.eq (.length t) (.int k)).value args Z none Z [] = some true) (ht : t.eval args Z none [] Z = some (.ref x)) (A : Arr Z Z.heap x cl ty) : cl.slots.size < 2 ^ 31 ∧ cl.slots.size.toInt32 = k := by
  have h1 := eqI_v h
  have h2 : Z.arrayAt? x = some cl := A.fin (Vm.Alike.refl _)
  simp only [Term.eval, ht, h2, Option.bind_eq_bind, Option.bind_some] at h1
  by_cases q : cl.slots.size < 2 ^ 31
  · simp [q] at h1; exact ⟨q, h1⟩
  · simp [q] at h1
theorem fldI {Z : State} {a : Addr} {C n d : String} {k : Int32} (ev : t.eval args Z none [] Z = some (.ref a)) (h : (Cond.eq (.field t C n d) (.int k)).value args Z none Z [] = some true) : Fld Z Z.heap a C n d (.int k) := Fld.start ((fld_at ev).symm.trans (eqI_v h))
theorem fldJ {Z : State} {a : Addr} {C n d : String} {k : Int64} (ev : t.eval args Z none [] Z = some (.ref a)) (h : (Cond.eq (.field t C n d) (.long k)).value args Z none Z [] = some true) : Fld Z Z.heap a C n d (.long k) := Fld.start ((fld_at ev).symm.trans (eqJ_v h))
end V

section H
variable {p : Program} {l : Launch} {e : Env} {R : Room} {s : State} {m : MethodId} {args : Array Value} {below : List Frame} {meth : Method} {c : Code} {T T' : State} {locs : List Loc} {cells slots : Nat} {Q : Option Value → Heap → List Loc → Prop} {Fe : Outcome → State → List Loc → Nat → Nat → Prop} {vm0 : Vm} {K N pc n t k0 : Nat} {Ls l' : Array Slot} {st rest : List Value} {Z : State} {a0 : Array Value} {h : Heap}
/-- a law that writes only what it made -/
def Fq (w : Value) (n0 : Nat) (v : Option Value) (h : Heap) (L : List Loc) : Prop := v = some w ∧ Fr n0 L
theorem newO (X : Stand p l e R s m args below meth c T locs cells slots) (hx : p.tables.exec = Jvm.exec) (hZ : Z.Warmed39 s.vm) {own C : String} {index k : Nat} (hown : s.vm.findClass own = some m.cls) (w : (Cond.classLink own index C).before a0 Z = true) (wi : (Cond.instantiable C k).before a0 Z = true) (wz : (Cond.initialized C).before a0 Z = true) (eT : T.heap = h) (hd : decode c.code pc = .ok (.new index, 3)) (hc : cells + 1 ≤ R.cells) (hl : slots + k ≤ R.slots) (hn : pc + 3 = n)
    (F : ∀ T' h', Stand p l e R s m args below meth c T' locs (cells + 1) (slots + k) → T'.heap = h' → Ext h h' → Exa Z h' h.size C → (∀ {O nm d : String} {ty : FieldType}, Laid Z a0 C O nm d → parseFieldDescriptor d = some ty → Fld Z h' h.size O nm d (defaultValue ty)) → Go p e below Fe Q K N T' (mkF m n Ls (.ref h.size :: st))) : Go p e below Fe Q K N T (mkF m pc Ls st) := by
  subst hn
  obtain ⟨T2, h2, X2, e2, E2, A2, D2, -, st2⟩ := RoadKit.newO X hx hZ hown w wi wz eT (g := mkF m pc Ls st) rfl hd hc hl
  exact go (fun _ h => st2 _ h) (F T2 h2 X2 e2 E2 A2 D2)
theorem putF (X : Stand p l e R s m args below meth c T locs cells slots) (hx : p.tables.exec = Jvm.exec) (hZ : Z.Warmed39 s.vm) {own O f d host C : String} {index kk : Nat} {ty : FieldType} (hown : s.vm.findClass own = some m.cls) (w : (Cond.fieldLink own index O f d).before a0 Z = true ∨ (Cond.fieldLinkNest own index O f d host).before a0 Z = true) (eT : T.heap = h) {a : Addr} {v old : Value} (S : Fld Z h a O f d old) (E : Exa Z h a C)
    (L : (Cond.lays C O f d).before a0 Z = true ∨ ((Cond.laysFinal C O f d).before a0 Z = true ∧ own = O ∧ meth.name = "<init>")) (wi : (Cond.instantiable C kk).before a0 Z = true) (hty : parseFieldDescriptor d = some ty) (hnr : narrow ty v = v) (hf : fits ty v = true) (hd : decode c.code pc = .ok (.putfield index, 3)) (hn : pc + 3 = n)
    (F : ∀ T' h', Stand p l e R s m args below meth c T' (locs ++ [⟨a, RoadKit.slotOf Z O f d⟩]) cells slots → T'.heap = h' → Wr h h' a (RoadKit.slotOf Z O f d) v → Go p e below Fe Q K N T' (mkF m n Ls st)) : Go p e below Fe Q K N T (mkF m pc Ls (v :: .ref a :: st)) := by
  subst hn
  obtain ⟨T2, h2, X2, e2, W2, st2⟩ := RoadKit.putF X hx hZ hown (host := host) w Via.refl eT S E L wi hty hnr hf (g := mkF m pc Ls (v :: .ref a :: st)) rfl rfl hd
  exact go (fun _ h => st2 _ h) (F T2 h2 X2 e2 W2)
theorem initO (X : Stand p l e R s m args below meth c T locs cells slots) (hx : p.tables.exec = Jvm.exec) (hZ : Z.Warmed39 s.vm) {own : String} {idx W : Nat} (hown : s.vm.findClass own = some m.cls) (w1 : (Cond.methodLink own idx Lib.objectInit).before a0 Z = true) (w2 : (Cond.instanceMethod Lib.objectInit).before a0 Z = true) (w3 : (Cond.code Lib.objectInit ⟨#[0xb1]⟩ 1 none).before a0 Z = true) (eT : T.heap = h) {a : Addr} (hsz : Ls.size = c.maxLocals) (hf : 1 ≤ R.frames) (hW : (st.map fun v => v.category).sum ≤ W) (hl : W + 12 ≤ R.locals) (hd : decode c.code pc = .ok (.invokespecial idx, 3)) (hn : pc + 3 = n)
    (F : ∀ T', Stand p l e R s m args below meth c T' locs cells slots → T'.heap = h → Go p e below Fe Q K N T' (mkF m n Ls st)) : Go p e below Fe Q K N T (mkF m pc Ls (.ref a :: st)) := by
  subst hn
  obtain ⟨T2, X2, e2, st2⟩ := RoadKit.initO X hx hZ hown w1 w2 w3 eT (g := mkF m pc Ls (.ref a :: st)) rfl hsz rfl hd hf (W := W) (by show 2 * 0 + _ ≤ _; omega) hl
  exact go (fun _ h => st2 _ h) (F T2 X2 e2)
theorem callI (X : Stand p l e R s m args below meth c T locs cells slots) (hx : p.tables.exec = Jvm.exec) (hZ : Z.Warmed39 s.vm) {own : String} {index : Nat} {y : MethodName} {bytes : ByteArray} {maxL W : Nat} {rm : Room} {Qc : Option Value → Heap → List Loc → Prop} {argsL : List Value} {a : Addr} (hy1 : y.name = "<init>") (hown : s.vm.findClass own = some m.cls)
    (wl : (Cond.methodLink own index y).before a0 Z = true) (wm : (Cond.instanceMethod y).before a0 Z = true) (wi : (Cond.initialized y.cls).before a0 Z = true) (wc : (Cond.code y bytes maxL none).before a0 Z = true) (hy : y.cls ≠ "java/lang/invoke/MethodHandle" ∧ y.cls ≠ "java/lang/invoke/VarHandle")
    (hM : Met l Z y bytes maxL none [] rm (Value.ref a :: argsL).toArray h Qc) (eT : T.heap = h) (hf : rm.frames + 1 ≤ R.frames) (hl : W + (maxL + 11) + rm.locals ≤ R.locals) (hck : cells + rm.cells ≤ R.cells) (hsk : slots + rm.slots ≤ R.slots) (hsz : Ls.size = c.maxLocals)
    (hlen : ∀ sig, parseMethodDescriptor y.desc = some sig → argsL.length = sig.parameters.length) (hst : st = argsL.reverse ++ .ref a :: rest) (hW : (rest.map fun v => v.category).sum ≤ W) (hd : decode c.code pc = .ok (.invokespecial index, 3)) (hn : pc + 3 = n)
    (F : ∀ T' v L, Stand p l e R s m args below meth c T' (locs ++ L) (cells + rm.cells) (slots + rm.slots) → Qc v T'.heap L → Go p e below Fe Q K N T' (mkF m n Ls (v.toList ++ rest))) : Go p e below Fe Q K N T (mkF m pc Ls st) := by
  subst hn
  obtain ⟨v, _, ⟨T18, L18, k18, n18⟩, -, X18, ⟨Lc18, hQ18, l18, y18, z18⟩, st18⟩ := X.specialBack hx (y := y) hy1 hown (mvT hZ wl) (mvT hZ wm) (mvT hZ wc) hy (backOf (W := W) hM hZ wc wi hf hl) (g := mkF m pc Ls st) rfl hsz (Steps.refl _) (a := a) (argsL := argsL) (rest := rest) hlen hst (by show 2 * 0 + _ ≤ _; omega) hd (fun _ _ => ⟨rfl, eT, hck, hsk⟩)
  dsimp only [Pt.U, Pt.locs, Pt.cells, Pt.slots] at X18 l18 y18 z18 st18 hQ18
  subst l18 y18 z18
  exact go (fun _ h => st18.trans h) (F T18 v Lc18 X18 hQ18)
theorem instY (X : Stand p l e R s m args below meth c T locs cells slots) (hx : p.tables.exec = Jvm.exec) (hZ : Z.Warmed39 s.vm) {own C : String} {index : Nat} (hown : s.vm.findClass own = some m.cls) (w : (Cond.classLink own index C).before a0 Z = true) (eT : T.heap = h) {a : Addr} (E : Exa Z h a C) (hd : decode c.code pc = .ok (.instanceof index, 3)) (hn : pc + 3 = n)
    (F : ∀ T', Stand p l e R s m args below meth c T' locs cells slots → T'.heap = h → Go p e below Fe Q K N T' (mkF m n Ls (.int 1 :: st))) : Go p e below Fe Q K N T (mkF m pc Ls (.ref a :: st)) := by
  subst hn
  obtain ⟨T2, X2, e2, st2⟩ := RoadKit.instY X hx hZ hown w eT (Ins.self E) (g := mkF m pc Ls (.ref a :: st)) rfl rfl hd
  exact go (fun _ h => st2 _ h) (F T2 X2 e2)
theorem castY (X : Stand p l e R s m args below meth c T locs cells slots) (hx : p.tables.exec = Jvm.exec) (hZ : Z.Warmed39 s.vm) {own C : String} {index : Nat} (hown : s.vm.findClass own = some m.cls) (w : (Cond.classLink own index C).before a0 Z = true) (eT : T.heap = h) {a : Addr} (E : Exa Z h a C) (hd : decode c.code pc = .ok (.checkcast index, 3)) (hn : pc + 3 = n)
    (F : ∀ T', Stand p l e R s m args below meth c T' locs cells slots → T'.heap = h → Go p e below Fe Q K N T' (mkF m n Ls (.ref a :: st))) : Go p e below Fe Q K N T (mkF m pc Ls (.ref a :: st)) := by
  subst hn
  obtain ⟨T2, X2, e2, st2⟩ := RoadKit.castY X hx hZ hown w eT (Ins.self E) (g := mkF m pc Ls (.ref a :: st)) rfl rfl hd
  exact go (fun _ h => st2 _ h) (F T2 X2 e2)
theorem newP (X : Stand p l e R s m args below meth c T locs cells slots) (hx : p.tables.exec = Jvm.exec) (hZ : Z.Warmed39 s.vm) {aty : ArrayType} {ty : FieldType} (hty : newarray.typeOf aty = ty) (w : (Cond.arrayClass ty).before a0 Z = true) (eT : T.heap = h) {z : Int32} (hz : ¬ z < 0) (cap : Nat) (hcap : z.toNatClampNeg = cap) (hb : cap * 8 ≤ 536870912) (hc : cells + 1 ≤ R.cells) (hl : slots + cap ≤ R.slots) (hd : decode c.code pc = .ok (.newarray aty, 2)) (hn : pc + 2 = n)
    (F : ∀ T' h' cA, Stand p l e R s m args below meth c T' locs (cells + 1) (slots + cap) → T'.heap = h' → Ext h h' → Arv Z h' h.size cA ty z (List.replicate cap (defaultValue ty)) (defaultValue ty) → Go p e below Fe Q K N T' (mkF m n Ls (.ref h.size :: st))) : Go p e below Fe Q K N T (mkF m pc Ls (.int z :: st)) := by
  subst hn hty
  obtain ⟨T2, h2, cA, X2, e2, E2, A2, st2⟩ := RoadKit.newP X hx hZ w eT (g := mkF m pc Ls (.int z :: st)) rfl hd rfl hz (cap := cap) (Nat.le_of_eq hcap) hb hc hl
  exact go (fun _ h => st2 _ h) (F T2 h2 cA X2 e2 E2 ((Arv.new A2 hz).pad (pad_rep [] _ cap)))

theorem bastore (X : Stand p l e R s m args below meth c T locs cells slots) (hx : p.tables.exec = Jvm.exec) (hZ : Z.Warmed39 s.vm) {a : Addr} {k : ClassId} {z j x : Int32} {vs : List Value} {d : Value} (eT : T.heap = h) (A : Arv Z h a k .byte z vs d) (h1 : 0 ≤ j.toInt) (h2 : j.toInt < z.toInt) (i : Nat) (hj : j.toNatClampNeg = i) (hi : i < vs.length) (hd : decode c.code pc = .ok (.bastore, 1)) (hn : pc + 1 = n)
    (F : ∀ T' h', Stand p l e R s m args below meth c T' (locs ++ [⟨a, j.toNatClampNeg⟩]) cells slots → T'.heap = h' → Wr h h' a j.toNatClampNeg (.int (nar .byte x)) → Arv Z h' a k .byte z (vs.set i (.int (nar .byte x))) d → Go p e below Fe Q K N T' (mkF m n Ls st)) : Go p e below Fe Q K N T (mkF m pc Ls (.int x :: .int j :: .ref a :: st)) := by
  subst hn
  obtain ⟨cl, Ar, q1, S, q3, H, G'⟩ := A
  obtain ⟨T2, h2', X2, e2, W2, st2⟩ := RoadKit.stB X hx hZ eT Ar (in_of S q3 h1 h2) (g := mkF m pc Ls (.int x :: .int j :: .ref a :: st)) rfl rfl hd
  exact go (fun _ h => st2 _ h) (F T2 h2' X2 e2 W2 (Arv.set Ar q1 S q3 H G' (fits_nar_byte x) W2 i hj hi))
theorem castore (X : Stand p l e R s m args below meth c T locs cells slots) (hx : p.tables.exec = Jvm.exec) (hZ : Z.Warmed39 s.vm) {a : Addr} {k : ClassId} {z j x : Int32} {vs : List Value} {d : Value} (eT : T.heap = h) (A : Arv Z h a k .char z vs d) (h1 : 0 ≤ j.toInt) (h2 : j.toInt < z.toInt) (i : Nat) (hj : j.toNatClampNeg = i) (hi : i < vs.length) (hd : decode c.code pc = .ok (.castore, 1)) (hn : pc + 1 = n)
    (F : ∀ T' h', Stand p l e R s m args below meth c T' (locs ++ [⟨a, j.toNatClampNeg⟩]) cells slots → T'.heap = h' → Wr h h' a j.toNatClampNeg (.int (nar .char x)) → Arv Z h' a k .char z (vs.set i (.int (nar .char x))) d → Go p e below Fe Q K N T' (mkF m n Ls st)) : Go p e below Fe Q K N T (mkF m pc Ls (.int x :: .int j :: .ref a :: st)) := by
  subst hn
  obtain ⟨cl, Ar, q1, S, q3, H, G'⟩ := A
  obtain ⟨T2, h2', X2, e2, W2, st2⟩ := RoadKit.stC X hx hZ eT Ar (in_of S q3 h1 h2) (g := mkF m pc Ls (.int x :: .int j :: .ref a :: st)) rfl rfl hd
  exact go (fun _ h => st2 _ h) (F T2 h2' X2 e2 W2 (Arv.set Ar q1 S q3 H G' (fits_nar_char x) W2 i hj hi))
theorem iastore (X : Stand p l e R s m args below meth c T locs cells slots) (hx : p.tables.exec = Jvm.exec) (hZ : Z.Warmed39 s.vm) {a : Addr} {k : ClassId} {z j x : Int32} {vs : List Value} {d : Value} (eT : T.heap = h) (A : Arv Z h a k .int z vs d) (h1 : 0 ≤ j.toInt) (h2 : j.toInt < z.toInt) (i : Nat) (hj : j.toNatClampNeg = i) (hi : i < vs.length) (hd : decode c.code pc = .ok (.iastore, 1)) (hn : pc + 1 = n)
    (F : ∀ T' h', Stand p l e R s m args below meth c T' (locs ++ [⟨a, j.toNatClampNeg⟩]) cells slots → T'.heap = h' → Wr h h' a j.toNatClampNeg (.int (x)) → Arv Z h' a k .int z (vs.set i (.int (x))) d → Go p e below Fe Q K N T' (mkF m n Ls st)) : Go p e below Fe Q K N T (mkF m pc Ls (.int x :: .int j :: .ref a :: st)) := by
  subst hn
  obtain ⟨cl, Ar, q1, S, q3, H, G'⟩ := A
  obtain ⟨T2, h2', X2, e2, W2, st2⟩ := RoadKit.stI X hx hZ eT Ar (in_of S q3 h1 h2) (g := mkF m pc Ls (.int x :: .int j :: .ref a :: st)) rfl rfl hd
  exact go (fun _ h => st2 _ h) (F T2 h2' X2 e2 W2 (Arv.set Ar q1 S q3 H G' (rfl) W2 i hj hi))
def FldE (Z : State) (h : Heap) (a : Addr) (C n d : String) : Prop := ∃ v, Fld Z h a C n d v
theorem FldE.of {Z : State} {h : Heap} {a : Addr} {C n d : String} {v : Value} (F : Fld Z h a C n d v) : FldE Z h a C n d := ⟨v, F⟩
theorem FldE.ext {Z : State} {h h' : Heap} {a : Addr} {C n d : String} (F : FldE Z h a C n d) (E : Ext h h') : FldE Z h' a C n d := by obtain ⟨v, F⟩ := F; exact ⟨v, F.ext E⟩
theorem FldE.keep {Z : State} {h h' : Heap} {ws : List Addr} {a : Addr} {C n d : String} (F : FldE Z h a C n d) (K : Keep h h' ws) : FldE Z h' a C n d := by
  obtain ⟨v, cell, cf, k, i, f, h1, h2, h3, h4, h5, h6, h7⟩ := F
  obtain ⟨c', q, r1, r2, r3⟩ := K.2.2 a cell h1
  have hlt := (Array.getElem?_eq_some_iff.mp h7).1
  exact ⟨_, c', cf, k, i, f, q, h2, h3, r2 ▸ h4, r2 ▸ h5, r1 ▸ h6, Array.getElem?_eq_getElem (r3 ▸ hlt)⟩
theorem FldE.wr {Z : State} {h h' : Heap} {a b' : Addr} {C n d : String} {sl : Nat} {v : Value} (F : FldE Z h b' C n d) (W : Wr h h' a sl v) : FldE Z h' b' C n d := F.keep (Keep.of_wr W)
theorem nfOf {args : Array Value} {s : State} {C : String} {y y' z' : MethodName} (hsel : (Cond.selects C y' z').before args s = true) (hc : z'.cls = y.cls) : NotFace s y := fun r0 h0 => by
  obtain ⟨c2, r2, m2, q1, q2, q3, q4, kP, hkP, hkPi⟩ := Cond.selects_spec hsel
  have h1 := findClass_of_methodNamed q3
  have h2 := findClass_of_methodNamed h0
  rw [hc] at h1
  have e : m2.cls = r0.cls := Option.some.inj (h1.symm.trans h2)
  exact ⟨kP, e ▸ hkP, hkPi⟩
theorem acopy (X : Stand p l e R s m args below meth c T locs cells slots) (hx : p.tables.exec = Jvm.exec) (hZ : Z.Warmed39 s.vm) {own : String} {index : Nat} (hown : s.vm.findClass own = some m.cls) (wl : (Cond.methodLink own index Stand.acN).before a0 Z = true) (wn : (Cond.native Stand.acN).before a0 Z = true) (ws : (Cond.static Stand.acN).before a0 Z = true) (wi : (Cond.initialized "java/lang/System").before a0 Z = true) (eT : T.heap = h)
    {src dst : Addr} {k1 k2 : ClassId} {z1 z2 p1 p2 q : Int32} {vs1 vs2 : List Value} {d1 d2 : Value} (A1 : Arv Z h src k1 .int z1 vs1 d1) (A2 : Arv Z h dst k2 .int z2 vs2 d2) (h1 : 0 ≤ p1.toInt) (h2 : 0 ≤ p2.toInt) (h3 : 0 ≤ q.toInt) (h4 : p1.toInt + q.toInt ≤ z1.toInt) (h5 : p2.toInt + q.toInt ≤ z2.toInt)
    {W : Nat} (hsz : Ls.size = c.maxLocals) (hf : 1 ≤ R.frames) (hW : (st.map fun v => v.category).sum ≤ W) (hl : W + (nativeFrameWords "java/lang/System" "arraycopy" 5 + 11) ≤ R.locals) (hd : decode c.code pc = .ok (.invokestatic index, 3)) (hn : pc + 3 = n)
    (F : ∀ T' h', Stand p l e R s m args below meth c T' (locs ++ Stand.copyLocs dst p2.toNatClampNeg q.toNatClampNeg) cells slots → T'.heap = h' → Keep h h' [dst] → Go p e below Fe Q K N T' (mkF m n Ls st)) : Go p e below Fe Q K N T (mkF m pc Ls (.int q :: .int p2 :: .ref dst :: .int p1 :: .ref src :: st)) := by
  subst hn
  subst eT
  obtain ⟨cs, As, -, Ss, Ns, Hs, Gs⟩ := A1
  obtain ⟨cd, Ad, -, Sd, Nd, Hd, Gd⟩ := A2
  have isA := State.isArrayOf_alike hZ.alike As.2.1
  have idA := State.isArrayOf_alike hZ.alike Ad.2.1
  obtain ⟨-, ks, hks, sC, hsk⟩ := isA
  obtain ⟨-, kd, hkd, dC, hdk⟩ := idA
  have en : ∀ x : Int32, 0 ≤ x.toInt → ¬ x < 0 := fun x hx0 => by rw [Int32.lt_iff_toInt_lt]; have e0 : (0 : Int32).toInt = 0 := rfl; omega
  have ez : ∀ x : Int32, ¬ x < 0 → (x.toNatClampNeg : Int) = x.toInt := fun x hx0 => by
    rw [Int32.lt_iff_toInt_lt] at hx0; have e0 : (0 : Int32).toInt = 0 := rfl; have e1 : x.toNatClampNeg = x.toInt.toNat := rfl; omega
  have e1 := ez z1 Ns; have e2 := ez z2 Nd; have e3 := ez p1 (en p1 h1); have e4 := ez q (en q h3); have e5 := ez p2 (en p2 h2)
  obtain ⟨vm₁, -, X', st'⟩ := X.arraycopyK hx hown (mvT hZ wl) (mvT hZ wn) (mvT hZ ws) (mvT hZ wi) (src := src) (dst := dst) (srcPos := p1) (destPos := p2) (n := q) (cs := cs) (cd := cd) As.1 Ad.1
    (fun z e => by have := As.plain; rw [e] at this; cases this) (fun z e => by have := Ad.plain; rw [e] at this; cases this) As.2.2 Ad.2.2 hks hkd hsk hdk rfl (en p1 h1) (en p2 h2) (en q h3) (by rw [Ss]; omega) (by rw [Sd]; omega)
    (fun vm' _ i hi => by
      have hlt : p1.toNatClampNeg + i < cs.slots.size := by rw [Ss]; omega
      have hh := Hs _ hlt
      have hg := Gs _ hlt
      have hgd : cs.slots.getD (p1.toNatClampNeg + i) .null = vs1.getD (p1.toNatClampNeg + i) d1 := by rw [Array.getD_eq_getD_getElem?, hh]; rfl
      rw [hgd]
      refine ⟨hg, ?_⟩
      obtain ⟨x, hx'⟩ := fit_I hg (Or.inl rfl)
      rw [hx']; trivial)
    (g := mkF m pc Ls (.int q :: .int p2 :: .ref dst :: .int p1 :: .ref src :: st)) rfl hsz rfl hd hf (by show 2 * 0 + _ + _ ≤ _; omega)
  refine go (fun _ h => st' _ h) (F _ _ X' rfl ?_)
  have cf := SB.copied_facts cs cd p1 p2 q
  have hb : dst < T.heap.size := (Array.getElem?_eq_some_iff.mp Ad.1).1
  refine ⟨by show T.heap.size ≤ (T.heap.setIfInBounds dst _).size; simp, fun x c hc hx' => ?_, fun x c hc => ?_⟩
  · show (T.heap.setIfInBounds dst _)[x]? = _
    have hne : dst ≠ x := fun z => hx' (by simp [z])
    rw [Array.getElem?_setIfInBounds_ne hne]; exact hc
  · show ∃ c', (T.heap.setIfInBounds dst _)[x]? = some c' ∧ _
    by_cases z : dst = x
    · subst z; cases Ad.1.symm.trans hc
      exact ⟨_, Array.getElem?_setIfInBounds_self_of_lt hb, cf⟩
    · exact ⟨c, by rw [Array.getElem?_setIfInBounds_ne z]; exact hc, rfl, rfl, rfl⟩
theorem ext_of_keep {h h' : Heap} (K : Keep h h' []) : Ext h h' := ⟨K.1, fun a c q => K.2.1 a c q nin0⟩
theorem keep_of_ext {h h' : Heap} (E : Ext h h') : Keep h h' [] := (Keep.refl _ _).ext E
theorem ext_refl (h : Heap) : Ext h h := ⟨Nat.le_refl _, fun _ _ q => q⟩
theorem ext_trans {h h' h'' : Heap} (E : Ext h h') (E' : Ext h' h'') : Ext h h'' := ⟨Nat.le_trans E.1 E'.1, fun a c q => E'.2 a c (E.2 a c q)⟩
end H
section WD
variable {p : Program} {l : Launch} {e : Env} {R : Room} {s : State} {m : MethodId} {args : Array Value} {below : List Frame} {meth : Method} {c : Code} {T T' : State} {locs : List Loc} {cells slots : Nat} {Q : Option Value → Heap → List Loc → Prop} {Fe : Outcome → State → List Loc → Nat → Nat → Prop} {vm0 : Vm} {K N pc n t k0 : Nat} {Ls l' : Array Slot} {st rest : List Value} {Z : State} {a0 : Array Value} {h : Heap}
/-- a contract of a method that may intern -/
def MetW (l : Launch) (Z : State) (y : MethodName) (bytes : ByteArray) (maxL : Nat) (ret : Option FieldType) (ws : List Cond) (rm : Room) (as' : Array Value) (h0 : Heap) (Q : Option Value → Heap → List Loc → Prop) : Prop :=
  MetFree l y (head1 (Cond.code y bytes maxL ret :: ws) rm) (fun a U => a = as' ∧ Z.Warmed39 U.vm ∧ U.heap = h0) (fun _ _ _ _ _ => True) (fun _ U o U' => ∃ v L, o = .returned v ∧ Q v U'.heap L ∧ ReturnedEndW U o U' L rm.cells rm.slots)
theorem startW {y : MethodName} {bytes : ByteArray} {maxL : Nat} {ret : Option FieldType} {ws : List Cond} {rm : Room} {as' : Array Value} {h0 : Heap} (pn : plainName y.cls = true)
    (body : ∀ (p : Program) (e : Env) (s : State) (vm0 : Vm) (m : MethodId) (below : List Frame) (meth : Method) (c : Code) (s₁ : State), Stand p l e rm (s.setVm vm0) m as' below meth c s₁ [] 0 0 → p.tables.exec = Jvm.exec → c.code = bytes → c.maxLocals = maxL → (s.setVm vm0).vm.findClass y.cls = some m.cls → meth.name = y.name → meth.sig.returnType = ret → meth.locks = false → Z.Warmed39 (s.setVm vm0).vm → s.Since vm0 0 → s₁.heap = h0 → s₁.heap = s.heap → Go p e below (ReturnedEndW s) Q rm.cells rm.slots s₁ (entryFrame m as' maxL)) : MetW l Z y bytes maxL ret ws rm as' h0 Q := by
  refine MetFree.of_bodySF (plainFor_of_name pn) hisR ?_
  intro p e s m args below meth c s₁ Bd hml0 hP hK
  obtain ⟨rfl, hZ, hh⟩ := hP
  exact body p e s s.vm m below meth c s₁ (show Stand p l e rm s m _ below meth c s₁ [] 0 0 from Stand.of_body Bd) Bd.exec Bd.bytes hml0 (findClass_of_methodNamed Bd.named) (name_of_methodNamed Bd.named Bd.method).1 Bd.returns Bd.notSynchronized hZ ((State.WarmedH.refl s).since 0) (by rw [← hh, Bd.state]; rfl) (by rw [Bd.state]; rfl)
theorem ldcW0 (X : Stand p l e R (s.setVm vm0) m args below meth c T locs cells slots) (hx : p.tables.exec = Jvm.exec) (hZ : Z.Warmed39 (s.setVm vm0).vm) (hS : s.Since vm0 k0) {own text : String} {index : Nat} (hown : (s.setVm vm0).vm.findClass own = some m.cls) (w : (Cond.stringLink own index text).before a0 Z = true) (wS : ∀ a ∈ Bundle.stringAtoms, a.before a0 Z = true) (eT : T.heap = h) (hk0 : k0 ≤ h.size) (len : Nat) (hlen : 4 * text.toList.length ≤ len) (hbig : len ≤ 536870912) (hc : cells + 2 ≤ R.cells) (hl : slots + (len + 4) ≤ R.slots) (hd : decode c.code pc = .ok (.ldc index, 2)) (hn : pc + 2 = n)
    (F : ∀ a T' h' vm1 k1, Stand p l e R (s.setVm vm1) m args below meth c T' locs (cells + 2) (slots + (len + 4)) → T'.heap = h' → Ext h h' → s.Since vm1 k1 → k1 ≤ h'.size → Z.Warmed39 (s.setVm vm1).vm → (s.setVm vm1).vm.findClass own = some m.cls → Go p e below Fe Q K N T' (mkF m n Ls (.ref a :: st))) : Go p e below Fe Q K N T (mkF m pc Ls st) := by
  subst hn
  obtain ⟨a, T', h', k1, X', e', E, hS', hk', hZ', ho', st'⟩ := RoadKit.ldcS X hx hZ hown w wS eT hS hk0 (g := mkF m pc Ls st) rfl hd hlen hbig hc hl
  exact go (fun _ h => st' _ h) (F a T' h' T'.vm k1 X' e' E hS' hk' hZ' ho')
theorem callSW (X : Stand p l e R (s.setVm vm0) m args below meth c T locs cells slots) (hx : p.tables.exec = Jvm.exec) (hZ : Z.Warmed39 (s.setVm vm0).vm) (hS : s.Since vm0 k0) {own : String} {index : Nat} {y : MethodName} {bytes : ByteArray} {maxL W : Nat} {ret : Option FieldType} {rm : Room} {Qc : Option Value → Heap → List Loc → Prop} {argsL : List Value} (hown : (s.setVm vm0).vm.findClass own = some m.cls)
    (wl : (Cond.methodLink own index y).before a0 Z = true) (ws : (Cond.static y).before a0 Z = true) (wi : (Cond.initialized y.cls).before a0 Z = true) (wc : (Cond.code y bytes maxL ret).before a0 Z = true) (hy : y.cls ≠ "java/lang/invoke/MethodHandle" ∧ y.cls ≠ "java/lang/invoke/VarHandle")
    (hM : MetW l Z y bytes maxL ret [] rm argsL.toArray h Qc) (eT : T.heap = h) (hk0 : k0 ≤ h.size) (hf : rm.frames + 1 ≤ R.frames) (hl : W + (maxL + 11) + rm.locals ≤ R.locals) (hck : cells + rm.cells ≤ R.cells) (hsk : slots + rm.slots ≤ R.slots) (hsz : Ls.size = c.maxLocals)
    (hlen : ∀ sig, parseMethodDescriptor y.desc = some sig → argsL.length = sig.parameters.length) (hst : st = argsL.reverse ++ rest) (hW : (rest.map fun v => v.category).sum ≤ W) (hd : decode c.code pc = .ok (.invokestatic index, 3)) (hn : pc + 3 = n)
    (F : ∀ T' vm1 k1 v L, Stand p l e R (s.setVm vm1) m args below meth c T' (locs ++ L) (cells + rm.cells) (slots + rm.slots) → s.Since vm1 k1 → k1 ≤ T'.heap.size → Z.Warmed39 (s.setVm vm1).vm → (s.setVm vm1).vm.findClass own = some m.cls → Qc v T'.heap L → Go p e below Fe Q K N T' (mkF m n Ls (v.toList ++ rest))) : Go p e below Fe Q K N T (mkF m pc Ls st) := by
  subst hn
  obtain ⟨v, _, ⟨T18, L18, k18, n18⟩, -, X18, hS18, hg18, ⟨Lc18, hQ18, l18, y18, z18⟩, st18⟩ := RoadKit.callSS X hx (y := y) hown (mvT hZ wl) (mvT hZ ws) (mvT hZ wi) (mvT hZ wc) hy (backOfS (W := W) hM hZ wc wi hf hl) (g := mkF m pc Ls st) rfl hsz (argsL := argsL) (rest := rest) hlen hst (by show 2 * 0 + _ ≤ _; omega) hd (fun _ _ => ⟨rfl, eT, hck, hsk⟩)
  dsimp only [Pt.U, Pt.locs, Pt.cells, Pt.slots] at X18 l18 y18 z18 st18 hQ18 hS18 hg18
  subst l18 y18 z18
  exact go (fun _ h => st18.trans h) (F T18 T18.vm _ v Lc18 X18 (foldS hS (by rw [eT]; exact hk0) hS18 hg18) (Nat.le_refl _) (State.Warmed39.trans (t := s.setVm vm0) hZ hS18.1) (by rw [show (s.setVm T18.vm).vm = T18.vm from rfl, hS18.1.alike.findClass]; exact hown) hQ18)
theorem callIW (X : Stand p l e R (s.setVm vm0) m args below meth c T locs cells slots) (hx : p.tables.exec = Jvm.exec) (hZ : Z.Warmed39 (s.setVm vm0).vm) (hS : s.Since vm0 k0) {own : String} {index : Nat} {y : MethodName} {bytes : ByteArray} {maxL W : Nat} {rm : Room} {Qc : Option Value → Heap → List Loc → Prop} {argsL : List Value} {a : Addr} (hy1 : y.name = "<init>") (hown : (s.setVm vm0).vm.findClass own = some m.cls)
    (wl : (Cond.methodLink own index y).before a0 Z = true) (wm : (Cond.instanceMethod y).before a0 Z = true) (wi : (Cond.initialized y.cls).before a0 Z = true) (wc : (Cond.code y bytes maxL none).before a0 Z = true) (hy : y.cls ≠ "java/lang/invoke/MethodHandle" ∧ y.cls ≠ "java/lang/invoke/VarHandle")
    (hM : MetW l Z y bytes maxL none [] rm (Value.ref a :: argsL).toArray h Qc) (eT : T.heap = h) (hk0 : k0 ≤ h.size) (hf : rm.frames + 1 ≤ R.frames) (hl : W + (maxL + 11) + rm.locals ≤ R.locals) (hck : cells + rm.cells ≤ R.cells) (hsk : slots + rm.slots ≤ R.slots) (hsz : Ls.size = c.maxLocals)
    (hlen : ∀ sig, parseMethodDescriptor y.desc = some sig → argsL.length = sig.parameters.length) (hst : st = argsL.reverse ++ .ref a :: rest) (hW : (rest.map fun v => v.category).sum ≤ W) (hd : decode c.code pc = .ok (.invokespecial index, 3)) (hn : pc + 3 = n)
    (F : ∀ T' vm1 k1 v L, Stand p l e R (s.setVm vm1) m args below meth c T' (locs ++ L) (cells + rm.cells) (slots + rm.slots) → s.Since vm1 k1 → k1 ≤ T'.heap.size → Z.Warmed39 (s.setVm vm1).vm → (s.setVm vm1).vm.findClass own = some m.cls → Qc v T'.heap L → Go p e below Fe Q K N T' (mkF m n Ls (v.toList ++ rest))) : Go p e below Fe Q K N T (mkF m pc Ls st) := by
  subst hn
  obtain ⟨v, _, ⟨T18, L18, k18, n18⟩, -, X18, hS18, hg18, ⟨Lc18, hQ18, l18, y18, z18⟩, st18⟩ := X.specialBackS hx (y := y) hy1 hown (mvT hZ wl) (mvT hZ wm) (mvT hZ wc) hy (backOfS (W := W) hM hZ wc wi hf hl) (g := mkF m pc Ls st) rfl hsz (Steps.refl _) (a := a) (argsL := argsL) (rest := rest) hlen hst (by show 2 * 0 + _ ≤ _; omega) hd (fun _ _ => ⟨rfl, eT, hck, hsk⟩)
  dsimp only [Pt.U, Pt.locs, Pt.cells, Pt.slots] at X18 l18 y18 z18 st18 hQ18 hS18 hg18
  subst l18 y18 z18
  exact go (fun _ h => st18.trans h) (F T18 T18.vm _ v Lc18 X18 (foldS hS (by rw [eT]; exact hk0) hS18 hg18) (Nat.le_refl _) (State.Warmed39.trans (t := s.setVm vm0) hZ hS18.1) (by rw [show (s.setVm T18.vm).vm = T18.vm from rfl, hS18.1.alike.findClass]; exact hown) hQ18)
/-- a contract of a method that may intern, with words on the tables before and behind -/
def MetV (l : Launch) (Z : State) (y : MethodName) (bytes : ByteArray) (maxL : Nat) (ret : Option FieldType) (ws : List Cond) (rm : Room) (as' : Array Value) (h0 : Heap) (Q : Option Value → Heap → List Loc → Prop) (Pv Qv : Vm → Prop) : Prop :=
  MetFree l y (head1 (Cond.code y bytes maxL ret :: ws) rm) (fun a U => a = as' ∧ Z.Warmed39 U.vm ∧ U.heap = h0 ∧ Pv U.vm) (fun _ _ _ _ _ => True) (fun _ U o U' => ∃ v L, o = .returned v ∧ Q v U'.heap L ∧ EndV U Qv o U' L rm.cells rm.slots)
theorem startV {y : MethodName} {bytes : ByteArray} {maxL : Nat} {ret : Option FieldType} {ws : List Cond} {rm : Room} {as' : Array Value} {h0 : Heap} {Pv Qv : Vm → Prop} (pn : plainName y.cls = true)
    (body : ∀ (p : Program) (e : Env) (s : State) (vm0 : Vm) (m : MethodId) (below : List Frame) (meth : Method) (c : Code) (s₁ : State), Stand p l e rm (s.setVm vm0) m as' below meth c s₁ [] 0 0 → p.tables.exec = Jvm.exec → c.code = bytes → c.maxLocals = maxL → (s.setVm vm0).vm.findClass y.cls = some m.cls → meth.name = y.name → meth.sig.returnType = ret → meth.locks = false → Z.Warmed39 (s.setVm vm0).vm → s.Since vm0 0 → s₁.heap = h0 → s₁.heap = s.heap → Pv vm0 → Go p e below (EndV s Qv) Q rm.cells rm.slots s₁ (entryFrame m as' maxL)) : MetV l Z y bytes maxL ret ws rm as' h0 Q Pv Qv := by
  refine MetFree.of_bodySF (plainFor_of_name pn) hisR ?_
  intro p e s m args below meth c s₁ Bd hml0 hP hK
  obtain ⟨rfl, hZ, hh, hPv⟩ := hP
  exact body p e s s.vm m below meth c s₁ (show Stand p l e rm s m _ below meth c s₁ [] 0 0 from Stand.of_body Bd) Bd.exec Bd.bytes hml0 (findClass_of_methodNamed Bd.named) (name_of_methodNamed Bd.named Bd.method).1 Bd.returns Bd.notSynchronized hZ ((State.WarmedH.refl s).since 0) (by rw [← hh, Bd.state]; rfl) (by rw [Bd.state]; rfl) hPv
theorem backOfV {y : MethodName} {bytes : ByteArray} {maxL : Nat} {ret : Option FieldType} {rm : Room} {len W : Nat} {as' : Array Value} {Q : Option Value → Heap → List Loc → Prop} {Pv Qv : Vm → Prop}
    (hM : MetV l Z y bytes maxL ret [] rm as' h Q Pv Qv)
    (hZ : Z.Warmed39 s.vm) (wc : (Cond.code y bytes maxL ret).before a0 Z = true) (wz : (Cond.initialized y.cls).before a0 Z = true) (hf : rm.frames + 1 ≤ R.frames) (hl : W + (maxL + 11) + rm.locals ≤ R.locals) :
    BackS l R p e below s args y len W (fun A a => a = as' ∧ A.U.heap = h ∧ A.cells + rm.cells ≤ R.cells ∧ A.slots + rm.slots ≤ R.slots ∧ Pv A.U.vm)
      (fun A _ v B => ∃ L, Q v B.U.heap L ∧ B.locs = A.locs ++ L ∧ B.cells = A.cells + rm.cells ∧ B.slots = A.slots + rm.slots ∧ Qv B.U.vm) :=
  BackS.of_freeW (bytes := bytes) (maxL := maxL) (ret := ret) (E := fun _ _ o t L k n => k = rm.cells ∧ n = rm.slots ∧ ∃ v, o = .returned v ∧ Q v t.heap L ∧ Qv t.vm) hM hf hl
    (fun m meth c A a Y hp => have hU : Z.Warmed39 A.U.vm := wtrans hZ Y.warmed
      ⟨by show (Cond.and _ .tt).before a A.U = true; rw [Cond.before_and, mv hU wc]; rfl, mv hU wc, mv hU wz, hp.2.2.1, hp.2.2.2.1⟩)
    (fun m meth c A a g mk Y hp => ⟨hp.1, wtrans hZ Y.warmed, hp.2.1, hp.2.2.2.2⟩) (fun _ _ _ _ _ _ _ _ _ => trivial)
    (fun _ _ _ _ ⟨v, L, h1, h2, h3⟩ => ⟨L, _, _, h3.1, rfl, rfl, v, h1, h2, h3.2⟩)
    (fun m meth c A a g mk v t L k n Y hp _ _ ⟨e1, e2, v', e3, e4, e5⟩ => by cases e3; subst e1 e2; exact ⟨L, e4, rfl, rfl, rfl, e5⟩)
theorem callSV (X : Stand p l e R (s.setVm vm0) m args below meth c T locs cells slots) (hx : p.tables.exec = Jvm.exec) (hZ : Z.Warmed39 (s.setVm vm0).vm) (hS : s.Since vm0 k0) {own : String} {index : Nat} {y : MethodName} {bytes : ByteArray} {maxL W : Nat} {ret : Option FieldType} {rm : Room} {Qc : Option Value → Heap → List Loc → Prop} {Pv Qv : Vm → Prop} {argsL : List Value} (hown : (s.setVm vm0).vm.findClass own = some m.cls)
    (wl : (Cond.methodLink own index y).before a0 Z = true) (ws : (Cond.static y).before a0 Z = true) (wi : (Cond.initialized y.cls).before a0 Z = true) (wc : (Cond.code y bytes maxL ret).before a0 Z = true) (hy : y.cls ≠ "java/lang/invoke/MethodHandle" ∧ y.cls ≠ "java/lang/invoke/VarHandle")
    (hM : MetV l Z y bytes maxL ret [] rm argsL.toArray h Qc Pv Qv) (eT : T.heap = h) (hk0 : k0 ≤ h.size) (hP : ∀ vm₁, (s.setVm vm0).WarmedH vm₁ → Pv vm₁) (hf : rm.frames + 1 ≤ R.frames) (hl : W + (maxL + 11) + rm.locals ≤ R.locals) (hck : cells + rm.cells ≤ R.cells) (hsk : slots + rm.slots ≤ R.slots) (hsz : Ls.size = c.maxLocals)
    (hlen : ∀ sig, parseMethodDescriptor y.desc = some sig → argsL.length = sig.parameters.length) (hst : st = argsL.reverse ++ rest) (hW : (rest.map fun v => v.category).sum ≤ W) (hd : decode c.code pc = .ok (.invokestatic index, 3)) (hn : pc + 3 = n)
    (F : ∀ T' vm1 k1 v L, Stand p l e R (s.setVm vm1) m args below meth c T' (locs ++ L) (cells + rm.cells) (slots + rm.slots) → s.Since vm1 k1 → k1 ≤ T'.heap.size → Z.Warmed39 (s.setVm vm1).vm → (s.setVm vm1).vm.findClass own = some m.cls → Qc v T'.heap L → Qv vm1 → (s.setVm vm0).Warmed39 vm1 → Go p e below Fe Q K N T' (mkF m n Ls (v.toList ++ rest))) : Go p e below Fe Q K N T (mkF m pc Ls st) := by
  subst hn
  obtain ⟨v, _, ⟨T18, L18, k18, n18⟩, -, X18, hS18, hg18, ⟨Lc18, hQ18, l18, y18, z18, hV18⟩, st18⟩ := RoadKit.callSS X hx (y := y) hown (mvT hZ wl) (mvT hZ ws) (mvT hZ wi) (mvT hZ wc) hy (backOfV (W := W) hM hZ wc wi hf hl) (g := mkF m pc Ls st) rfl hsz (argsL := argsL) (rest := rest) hlen hst (by show 2 * 0 + _ ≤ _; omega) hd (fun vm₁ hw₁ => ⟨rfl, eT, hck, hsk, hP vm₁ hw₁⟩)
  dsimp only [Pt.U, Pt.locs, Pt.cells, Pt.slots] at X18 l18 y18 z18 st18 hQ18 hS18 hg18 hV18
  subst l18 y18 z18
  exact go (fun _ h => st18.trans h) (F T18 T18.vm _ v Lc18 X18 (foldS hS (by rw [eT]; exact hk0) hS18 hg18) (Nat.le_refl _) (State.Warmed39.trans (t := s.setVm vm0) hZ hS18.1) (by rw [show (s.setVm T18.vm).vm = T18.vm from rfl, hS18.1.alike.findClass]; exact hown) hQ18 hV18 hS18.1)
theorem callIV (X : Stand p l e R (s.setVm vm0) m args below meth c T locs cells slots) (hx : p.tables.exec = Jvm.exec) (hZ : Z.Warmed39 (s.setVm vm0).vm) (hS : s.Since vm0 k0) {own : String} {index : Nat} {y : MethodName} {bytes : ByteArray} {maxL W : Nat} {rm : Room} {Qc : Option Value → Heap → List Loc → Prop} {Pv Qv : Vm → Prop} {argsL : List Value} {a : Addr} (hy1 : y.name = "<init>") (hown : (s.setVm vm0).vm.findClass own = some m.cls)
    (wl : (Cond.methodLink own index y).before a0 Z = true) (wm : (Cond.instanceMethod y).before a0 Z = true) (wi : (Cond.initialized y.cls).before a0 Z = true) (wc : (Cond.code y bytes maxL none).before a0 Z = true) (hy : y.cls ≠ "java/lang/invoke/MethodHandle" ∧ y.cls ≠ "java/lang/invoke/VarHandle")
    (hM : MetV l Z y bytes maxL none [] rm (Value.ref a :: argsL).toArray h Qc Pv Qv) (eT : T.heap = h) (hk0 : k0 ≤ h.size) (hP : ∀ vm₁, (s.setVm vm0).WarmedH vm₁ → Pv vm₁) (hf : rm.frames + 1 ≤ R.frames) (hl : W + (maxL + 11) + rm.locals ≤ R.locals) (hck : cells + rm.cells ≤ R.cells) (hsk : slots + rm.slots ≤ R.slots) (hsz : Ls.size = c.maxLocals)
    (hlen : ∀ sig, parseMethodDescriptor y.desc = some sig → argsL.length = sig.parameters.length) (hst : st = argsL.reverse ++ .ref a :: rest) (hW : (rest.map fun v => v.category).sum ≤ W) (hd : decode c.code pc = .ok (.invokespecial index, 3)) (hn : pc + 3 = n)
    (F : ∀ T' vm1 k1 v L, Stand p l e R (s.setVm vm1) m args below meth c T' (locs ++ L) (cells + rm.cells) (slots + rm.slots) → s.Since vm1 k1 → k1 ≤ T'.heap.size → Z.Warmed39 (s.setVm vm1).vm → (s.setVm vm1).vm.findClass own = some m.cls → Qc v T'.heap L → Qv vm1 → (s.setVm vm0).Warmed39 vm1 → Go p e below Fe Q K N T' (mkF m n Ls (v.toList ++ rest))) : Go p e below Fe Q K N T (mkF m pc Ls st) := by
  subst hn
  obtain ⟨v, _, ⟨T18, L18, k18, n18⟩, -, X18, hS18, hg18, ⟨Lc18, hQ18, l18, y18, z18, hV18⟩, st18⟩ := X.specialBackS hx (y := y) hy1 hown (mvT hZ wl) (mvT hZ wm) (mvT hZ wc) hy (backOfV (W := W) hM hZ wc wi hf hl) (g := mkF m pc Ls st) rfl hsz (Steps.refl _) (a := a) (argsL := argsL) (rest := rest) hlen hst (by show 2 * 0 + _ ≤ _; omega) hd (fun vm₁ hw₁ => ⟨rfl, eT, hck, hsk, hP vm₁ hw₁⟩)
  dsimp only [Pt.U, Pt.locs, Pt.cells, Pt.slots] at X18 l18 y18 z18 st18 hQ18 hS18 hg18 hV18
  subst l18 y18 z18
  exact go (fun _ h => st18.trans h) (F T18 T18.vm _ v Lc18 X18 (foldS hS (by rw [eT]; exact hk0) hS18 hg18) (Nat.le_refl _) (State.Warmed39.trans (t := s.setVm vm0) hZ hS18.1) (by rw [show (s.setVm T18.vm).vm = T18.vm from rfl, hS18.1.alike.findClass]; exact hown) hQ18 hV18 hS18.1)
theorem IBw {vm1 : Vm} {Ts : List String} (I : Jvm.RoadKit.IB Z vm0 Ts) (hW : (s.setVm vm0).WarmedH vm1) : Jvm.RoadKit.IB Z vm1 Ts := by
  obtain ⟨more, h1, h2⟩ := I
  exact ⟨more, (show vm1.interned = vm0.interned from hW.interned_eq).trans h1, h2⟩
theorem IBt {Ts : List String} (I : Jvm.RoadKit.IB Z vm0 Ts) (X : Stand p l e R (s.setVm vm0) m args below meth c T locs cells slots) : Jvm.RoadKit.IB Z T.vm Ts := IBw I X.warmed
/-- the start's cells stand -/
def Old (Z : State) (h : Heap) : Prop := ∀ (b' : Addr) (cl : Cell), Z.heap[b']? = some cl → h[b']? = some cl
theorem old_refl : Old Z Z.heap := fun _ _ q => q
theorem old_ext {h' : Heap} (O : Old Z h) (E : Ext h h') : Old Z h' := fun b' cl q => E.2 b' cl (O b' cl q)
theorem old_keep {h' : Heap} {a : Addr} (O : Old Z h) (Kp : Keep h h' [a]) (ha : Z.heap.size ≤ a) : Old Z h' := fun b' cl q => Kp.2.1 b' cl (O b' cl q) (fun z => by
  cases List.mem_singleton.mp z
  exact absurd (Array.getElem?_eq_some_iff.mp q).1 (by omega))
theorem old_wr {h' : Heap} {a : Addr} {sl : Nat} {v : Value} (O : Old Z h) (W : Wr h h' a sl v) (ha : Z.heap.size ≤ a) : Old Z h' := old_keep O (Keep.of_wr W) ha
theorem ldcV (X : Stand p l e R (s.setVm vm0) m args below meth c T locs cells slots) (hx : p.tables.exec = Jvm.exec) (hZ : Z.Warmed39 (s.setVm vm0).vm) (hS : s.Since vm0 k0) {own text : String} {index : Nat} (hown : (s.setVm vm0).vm.findClass own = some m.cls) (w : (Cond.stringLink own index text).before a0 Z = true) (wS : ∀ a ∈ Bundle.stringAtoms, a.before a0 Z = true) (eT : T.heap = h) (hk0 : k0 ≤ h.size) (Nn : Fr s.heap.size locs) (O : Old Z s.heap) {Ts : List String} (I : Jvm.RoadKit.IB Z vm0 Ts) (hnot : text ∉ Ts) (hh : Jvm.Lit.constHeld Z own index) (hcw : Jvm.Lit.compactW.before a0 Z = true)
    {vs : List Value} {z : Int32} (ht : (∀ c ∈ text.toList, c.toNat < 256) ∧ text.toList.map (fun c => Value.int (Jvm.Lit.byteI c.toNat.toUInt16)) = vs) (hz : ¬ z < 0) (hlz : z.toNatClampNeg = vs.length) (len : Nat) (hlen : 4 * text.toList.length ≤ len) (hbig : len ≤ 536870912) (hc : cells + 2 ≤ R.cells) (hl : slots + (len + 4) ≤ R.slots) (hd : decode c.code pc = .ok (.ldc index, 2)) (hn : pc + 2 = n)
    (F : ∀ a T' h' vm1 k1 b' kb, Stand p l e R (s.setVm vm1) m args below meth c T' locs (cells + 2) (slots + (len + 4)) → T'.heap = h' → Ext h h' → s.Since vm1 k1 → k1 ≤ h'.size → Z.Warmed39 (s.setVm vm1).vm → (s.setVm vm1).vm.findClass own = some m.cls → Exa Z h' a "java/lang/String" → Fld Z h' a "java/lang/String" "coder" "B" (.int 0) → Fld Z h' a "java/lang/String" "value" "[B" (.ref b') → Arv Z h' b' kb .byte z vs (.int 0) → Jvm.RoadKit.IB Z vm1 (text :: Ts) → Jvm.RoadKit.Lit (s.setVm vm1) own index a → (s.setVm vm0).Warmed39 vm1 → (a < s.heap.size ∨ h.size ≤ a) → Go p e below Fe Q K N T' (mkF m n Ls (.ref a :: st))) : Go p e below Fe Q K N T (mkF m pc Ls st) := by
  subst hn
  obtain ⟨a, T', h', k1, b', kb, X', e', E, hS', hk', hZ', ho', r1, r2, r3, r4, -, -, r5, r6, r7, st'⟩ := RoadKit.ldcSVd (s := s.setVm vm0) (vm0 := vm0) X hx hZ hown w wS eT ((State.WarmedH.refl (s.setVm vm0)).since 0) (Nat.zero_le _) Nn O I hnot hh hcw ht hz hlz (g := mkF m pc Ls st) rfl hd hlen hbig hc hl
  have hS2 : (s.setVm vm0).Since T'.vm h'.size := ⟨hS'.1, fun j p u w => ⟨(hS'.2 j p u w).1, Nat.lt_of_lt_of_le (hS'.2 j p u w).2 hk'⟩⟩
  exact go (fun _ h => st' _ h) (F a T' h' T'.vm h'.size b' kb X' e' E (hS.trans hS2 (Nat.le_trans hk0 E.1)) (Nat.le_refl _) hZ' ho' r1 r2 r3 r4 r5 r6 hS'.1 (r7.elim (fun q => Or.inl q.1) (fun q => Or.inr q.1)))
theorem ldcA (X : Stand p l e R (s.setVm vm0) m args below meth c T locs cells slots) (hx : p.tables.exec = Jvm.exec) (hZ : Z.Warmed39 (s.setVm vm0).vm) {own text : String} {index : Nat} (hown : (s.setVm vm0).vm.findClass own = some m.cls) (w : (Cond.stringLink own index text).before a0 Z = true) {a : Addr} (L : Jvm.RoadKit.Lit (s.setVm vm0) own index a) (hd : decode c.code pc = .ok (.ldc index, 2)) (hn : pc + 2 = n) (F : Go p e below Fe Q K N T (mkF m n Ls (.ref a :: st))) : Go p e below Fe Q K N T (mkF m pc Ls st) := by
  subst hn
  exact go (fun _ h => RoadKit.ldcAgain X hx hZ hown w L (g := mkF m pc Ls st) rfl hd _ h) F
theorem IBcons {text : String} {Ts : List String} (I : Jvm.RoadKit.IB Z vm0 Ts) : Jvm.RoadKit.IB Z vm0 (text :: Ts) := by
  obtain ⟨more, h1, h2⟩ := I
  exact ⟨more, h1, fun q hq => by obtain ⟨t, m, e⟩ := h2 q hq; exact ⟨t, List.mem_cons_of_mem _ m, e⟩⟩
theorem ldcE (X : Stand p l e R (s.setVm vm0) m args below meth c T locs cells slots) (hx : p.tables.exec = Jvm.exec) (hZ : Z.Warmed39 (s.setVm vm0).vm) (hS : s.Since vm0 k0) {own text : String} {index : Nat} (hown : (s.setVm vm0).vm.findClass own = some m.cls) (w : (Cond.stringLink own index text).before a0 Z = true) (wS : ∀ a ∈ Bundle.stringAtoms, a.before a0 Z = true) (eT : T.heap = h) (hk0 : k0 ≤ h.size) (Nn : Fr s.heap.size locs) (O : Old Z s.heap) {Ts : List String} (I : Jvm.RoadKit.IB Z vm0 Ts) {Pr : Addr → Heap → Prop} (hL : text ∉ Ts ∨ ∃ x, Jvm.RoadKit.Lit (s.setVm vm0) own index x ∧ Pr x h) (hh : Jvm.Lit.constHeld Z own index) (hcw : Jvm.Lit.compactW.before a0 Z = true)
    {vs : List Value} {z : Int32} (ht : (∀ c ∈ text.toList, c.toNat < 256) ∧ text.toList.map (fun c => Value.int (Jvm.Lit.byteI c.toNat.toUInt16)) = vs) (hz : ¬ z < 0) (hlz : z.toNatClampNeg = vs.length) (hmk : ∀ x h' b' kb, Ext h h' → Exa Z h' x "java/lang/String" → Fld Z h' x "java/lang/String" "coder" "B" (.int 0) → Fld Z h' x "java/lang/String" "value" "[B" (.ref b') → Arv Z h' b' kb .byte z vs (.int 0) → (x < s.heap.size ∨ h.size ≤ x) → Pr x h') (len : Nat) (hlen : 4 * text.toList.length ≤ len) (hbig : len ≤ 536870912) (hc : cells + 2 ≤ R.cells) (hl : slots + (len + 4) ≤ R.slots) (hd : decode c.code pc = .ok (.ldc index, 2)) (hn : pc + 2 = n)
    (F : ∀ x T' h' vm1 k1, Stand p l e R (s.setVm vm1) m args below meth c T' locs (cells + 2) (slots + (len + 4)) → T'.heap = h' → Ext h h' → s.Since vm1 k1 → k1 ≤ h'.size → Z.Warmed39 (s.setVm vm1).vm → (s.setVm vm1).vm.findClass own = some m.cls → Pr x h' → Jvm.RoadKit.IB Z vm1 (text :: Ts) → (s.setVm vm0).Warmed39 vm1 → Jvm.RoadKit.Lit (s.setVm vm1) own index x → Go p e below Fe Q K N T' (mkF m n Ls (.ref x :: st))) : Go p e below Fe Q K N T (mkF m pc Ls st) := by
  rcases hL with hnot | ⟨x, L, P⟩
  · exact ldcV X hx hZ hS hown w wS eT hk0 Nn O I hnot hh hcw ht hz hlz len hlen hbig hc hl hd hn (fun a T' h' vm1 k1 b' kb r1 r2 r3 r4 r5 r6 r7 r8 r9 r10 r11 r12 r13 r14 r15 => F a T' h' vm1 k1 r1 r2 r3 r4 r5 r6 r7 (hmk a h' b' kb r3 r8 r9 r10 r11 r15) r12 r14 r13)
  · refine ldcA X hx hZ hown w L hd hn (F x T h vm0 k0 (X.mono (by omega) (by omega)) eT ⟨Nat.le_refl _, fun _ _ q => q⟩ hS hk0 hZ hown P (IBcons I) (State.Warmed39.refl (s.setVm vm0)) L)
theorem cloneV (X : Stand p l e R s m args below meth c T locs cells slots) (hx : p.tables.exec = Jvm.exec) (hZ : Z.Warmed39 s.vm) {own ad : String} {index : Nat} (hown : s.vm.findClass own = some m.cls)
    (w1 : (Cond.methodLink own index ⟨ad, "clone", "()Ljava/lang/Object;"⟩).before a0 Z = true) (w2 : (Cond.sameMethod ad "java/lang/Object" "clone" "()Ljava/lang/Object;").before a0 Z = true) (w3 : (Cond.native ⟨"java/lang/Object", "clone", "()Ljava/lang/Object;"⟩).before a0 Z = true)
    (w4 : (Cond.instanceMethod ⟨"java/lang/Object", "clone", "()Ljava/lang/Object;"⟩).before a0 Z = true) (w5 : (Cond.selects ad ⟨ad, "clone", "()Ljava/lang/Object;"⟩ ⟨"java/lang/Object", "clone", "()Ljava/lang/Object;"⟩).before a0 Z = true) (w6 : (Cond.castable ad "java/lang/Cloneable").before a0 Z = true)
    (eT : T.heap = h) {a : Addr} {k : ClassId} {ty : FieldType} {z : Int32} {vs : List Value} {d : Value} (A : Arv Z h a k ty z vs d) (E : Exa Z h a ad) (hsz : Ls.size = c.maxLocals) (hf : 1 ≤ R.frames) {W : Nat} (cap : Nat) (hW : (st.map fun v => v.category).sum ≤ W) (hl : W + 14 ≤ R.locals) (hcap : z.toNatClampNeg ≤ cap) (hc : cells + 1 ≤ R.cells) (hsl : slots + cap ≤ R.slots) (hd : decode c.code pc = .ok (.invokevirtual index, 3)) (hn : pc + 3 = n)
    (F : ∀ T' h', Stand p l e R s m args below meth c T' locs (cells + 1) (slots + cap) → T'.heap = h' → Ext h h' → Arv Z h' h.size k ty z vs d → Exa Z h' h.size ad → Go p e below Fe Q K N T' (mkF m n Ls (.ref h.size :: st))) : Go p e below Fe Q K N T (mkF m pc Ls (.ref a :: st)) := by
  subst hn
  obtain ⟨cl, Ar, q1, S, q3, H, G'⟩ := A
  have FC : FitC Z cl := fitC_of Ar fun i hi v hv => by rw [H i hi] at hv; cases hv; exact G' i hi
  obtain ⟨T', h', X', e', ex, A', E', st'⟩ := RoadKit.cloneA X hx hZ hown w1 w2 w3 w4 w5 w6 eT Ar E FC (g := mkF m pc Ls (.ref a :: st)) rfl hsz rfl hd hf (W := W) (cap := cap) (by show 2 * 0 + _ ≤ _; omega) hl (by rw [S]; exact hcap) hc hsl
  exact go (fun _ h => st' _ h) (F T' h' X' e' ex ⟨cloneOf cl, A', q1, S, q3, H, G'⟩ E')
theorem instNul (X : Stand p l e R s m args below meth c T locs cells slots) (hx : p.tables.exec = Jvm.exec) {index : Nat} (hd : decode c.code pc = .ok (.instanceof index, 3)) (hn : pc + 3 = n) (F : Go p e below Fe Q K N T (mkF m n Ls (.int 0 :: st))) : Go p e below Fe Q K N T (mkF m pc Ls (.null :: st)) := by
  subst hn
  exact go (fun _ h => X.instanceofNull hx (g := mkF m pc Ls (.null :: st)) rfl rfl hd _ h) F
end WD
end Jvm.Wk
namespace Jvm.Pilot.@@N@@
open Jvm Jvm.ClassFile Sem Op Lib Jvm.Free Jvm.Stand Jvm.LawKit Jvm.RoadKit Bundle Jvm.Pilot.@@N@@.Jvm.D
theorem d1_0 : decode jdk_42_method_3_code 0 = .ok (.aload_n 0, 1) := by decide +kernel
theorem d1_1 : decode jdk_42_method_3_code 1 = .ok (.aload_n 1, 1) := by decide +kernel
theorem d1_2 : decode jdk_42_method_3_code 2 = .ok (.iconst 0, 1) := by decide +kernel
theorem d1_3 : decode jdk_42_method_3_code 3 = .ok (.aload_n 1, 1) := by decide +kernel
theorem d1_4 : decode jdk_42_method_3_code 4 = .ok (.arraylength, 1) := by decide +kernel
theorem d1_5 : decode jdk_42_method_3_code 5 = .ok (.aconst_null, 1) := by decide +kernel
theorem d1_6 : decode jdk_42_method_3_code 6 = .ok (.invokespecial 27, 3) := by decide +kernel
theorem d1_9 : decode jdk_42_method_3_code 9 = .ok (.return_, 1) := by decide +kernel
theorem pd1 : parseMethodDescriptor "([C)V" = some ⟨[(.array .char)], none⟩ := by decide +kernel
theorem pn1 : plainName "java/lang/String" = true := by first | (simp [plainName, overriddenIn]; done) | decide +kernel
theorem d2_0 : decode jdk_42_method_149_code 0 = .ok (.aload_n 0, 1) := by decide +kernel
theorem d2_1 : decode jdk_42_method_149_code 1 = .ok (.invokespecial 1, 3) := by decide +kernel
theorem d2_4 : decode jdk_42_method_149_code 4 = .ok (.iload_n 3, 1) := by decide +kernel
theorem d2_5 : decode jdk_42_method_149_code 5 = .ok (.ifCond .ne 22, 3) := by decide +kernel
theorem d2_8 : decode jdk_42_method_149_code 8 = .ok (.aload_n 0, 1) := by decide +kernel
theorem d2_9 : decode jdk_42_method_149_code 9 = .ok (.ldc 7, 2) := by decide +kernel
theorem d2_11 : decode jdk_42_method_149_code 11 = .ok (.getfield 9, 3) := by decide +kernel
theorem d2_14 : decode jdk_42_method_149_code 14 = .ok (.putfield 9, 3) := by decide +kernel
theorem d2_17 : decode jdk_42_method_149_code 17 = .ok (.aload_n 0, 1) := by decide +kernel
theorem d2_18 : decode jdk_42_method_149_code 18 = .ok (.ldc 7, 2) := by decide +kernel
theorem d2_20 : decode jdk_42_method_149_code 20 = .ok (.getfield 15, 3) := by decide +kernel
theorem d2_23 : decode jdk_42_method_149_code 23 = .ok (.putfield 15, 3) := by decide +kernel
theorem d2_26 : decode jdk_42_method_149_code 26 = .ok (.return_, 1) := by decide +kernel
theorem d2_27 : decode jdk_42_method_149_code 27 = .ok (.getstatic 38, 3) := by decide +kernel
theorem d2_30 : decode jdk_42_method_149_code 30 = .ok (.ifCond .eq 28, 3) := by decide +kernel
theorem d2_33 : decode jdk_42_method_149_code 33 = .ok (.aload_n 1, 1) := by decide +kernel
theorem d2_34 : decode jdk_42_method_149_code 34 = .ok (.iload_n 2, 1) := by decide +kernel
theorem d2_35 : decode jdk_42_method_149_code 35 = .ok (.iload_n 3, 1) := by decide +kernel
theorem d2_36 : decode jdk_42_method_149_code 36 = .ok (.invokestatic 177, 3) := by decide +kernel
theorem d2_39 : decode jdk_42_method_149_code 39 = .ok (.astore 5, 2) := by decide +kernel
theorem d2_41 : decode jdk_42_method_149_code 41 = .ok (.aload_n 0, 1) := by decide +kernel
theorem d2_42 : decode jdk_42_method_149_code 42 = .ok (.aload 5, 2) := by decide +kernel
theorem d2_44 : decode jdk_42_method_149_code 44 = .ok (.iload_n 3, 1) := by decide +kernel
theorem d2_45 : decode jdk_42_method_149_code 45 = .ok (.invokestatic 47, 3) := by decide +kernel
theorem d2_48 : decode jdk_42_method_149_code 48 = .ok (.putfield 15, 3) := by decide +kernel
theorem d2_51 : decode jdk_42_method_149_code 51 = .ok (.aload_n 0, 1) := by decide +kernel
theorem d2_52 : decode jdk_42_method_149_code 52 = .ok (.aload 5, 2) := by decide +kernel
theorem d2_54 : decode jdk_42_method_149_code 54 = .ok (.putfield 9, 3) := by decide +kernel
theorem d2_57 : decode jdk_42_method_149_code 57 = .ok (.return_, 1) := by decide +kernel
theorem pd2 : parseMethodDescriptor "([CIILjava/lang/Void;)V" = some ⟨[(.array .char), .int, .int, (.object "java/lang/Void")], none⟩ := by decide +kernel
theorem pn2 : plainName "java/lang/String" = true := by first | (simp [plainName, overriddenIn]; done) | decide +kernel
theorem d4_0 : decode prog_13_method_4_code 0 = .ok (.getstatic 13, 3) := by decide +kernel
theorem d4_3 : decode prog_13_method_4_code 3 = .ok (.astore_n 1, 1) := by decide +kernel
theorem d4_4 : decode prog_13_method_4_code 4 = .ok (.invokestatic 42, 3) := by decide +kernel
theorem d4_7 : decode prog_13_method_4_code 7 = .ok (.astore_n 2, 1) := by decide +kernel
theorem d4_8 : decode prog_13_method_4_code 8 = .ok (.aload_n 2, 1) := by decide +kernel
theorem d4_9 : decode prog_13_method_4_code 9 = .ok (.arraylength, 1) := by decide +kernel
theorem d4_10 : decode prog_13_method_4_code 10 = .ok (.istore_n 3, 1) := by decide +kernel
theorem d4_11 : decode prog_13_method_4_code 11 = .ok (.iconst 0, 1) := by decide +kernel
theorem d4_12 : decode prog_13_method_4_code 12 = .ok (.istore 4, 2) := by decide +kernel
theorem d4_14 : decode prog_13_method_4_code 14 = .ok (.iload 4, 2) := by decide +kernel
theorem d4_16 : decode prog_13_method_4_code 16 = .ok (.iload_n 3, 1) := by decide +kernel
theorem d4_17 : decode prog_13_method_4_code 17 = .ok (.if_icmp .ge 33, 3) := by decide +kernel
theorem d4_20 : decode prog_13_method_4_code 20 = .ok (.aload_n 2, 1) := by decide +kernel
theorem d4_21 : decode prog_13_method_4_code 21 = .ok (.iload 4, 2) := by decide +kernel
theorem d4_23 : decode prog_13_method_4_code 23 = .ok (.aaload, 1) := by decide +kernel
theorem d4_24 : decode prog_13_method_4_code 24 = .ok (.astore 5, 2) := by decide +kernel
theorem d4_26 : decode prog_13_method_4_code 26 = .ok (.aload_n 0, 1) := by decide +kernel
theorem d4_27 : decode prog_13_method_4_code 27 = .ok (.aload 5, 2) := by decide +kernel
theorem d4_29 : decode prog_13_method_4_code 29 = .ok (.getfield 35, 3) := by decide +kernel
theorem d4_32 : decode prog_13_method_4_code 32 = .ok (.invokevirtual 46, 3) := by decide +kernel
theorem d4_35 : decode prog_13_method_4_code 35 = .ok (.ifCond .eq 9, 3) := by decide +kernel
theorem d4_38 : decode prog_13_method_4_code 38 = .ok (.aload 5, 2) := by decide +kernel
theorem d4_40 : decode prog_13_method_4_code 40 = .ok (.astore_n 1, 1) := by decide +kernel
theorem d4_41 : decode prog_13_method_4_code 41 = .ok (.goto 9, 3) := by decide +kernel
theorem d4_44 : decode prog_13_method_4_code 44 = .ok (.iinc 4 1, 3) := by decide +kernel
theorem d4_47 : decode prog_13_method_4_code 47 = .ok (.goto (-33), 3) := by decide +kernel
theorem d4_50 : decode prog_13_method_4_code 50 = .ok (.aload_n 1, 1) := by decide +kernel
theorem d4_51 : decode prog_13_method_4_code 51 = .ok (.areturn, 1) := by decide +kernel
theorem pd4 : parseMethodDescriptor "(Ljava/lang/String;)Lcom/example/kuri/kuri/normalize/SchemeRules;" = some ⟨[(.object "java/lang/String")], some (.object "com/example/kuri/kuri/normalize/SchemeRules")⟩ := by decide +kernel
theorem pn4 : plainName "com/example/kuri/kuri/normalize/SchemeRules" = true := by first | (simp [plainName, overriddenIn]; done) | decide +kernel
theorem d5_0 : decode prog_13_method_1_code 0 = .ok (.getstatic 16, 3) := by decide +kernel
theorem d5_3 : decode prog_13_method_1_code 3 = .ok (.invokevirtual 20, 3) := by decide +kernel
theorem d5_6 : decode prog_13_method_1_code 6 = .ok (.checkcast 21, 3) := by decide +kernel
theorem d5_9 : decode prog_13_method_1_code 9 = .ok (.areturn, 1) := by decide +kernel
theorem pd5 : parseMethodDescriptor "()[Lcom/example/kuri/kuri/normalize/SchemeRules;" = some ⟨[], some (.array (.object "com/example/kuri/kuri/normalize/SchemeRules"))⟩ := by decide +kernel
theorem pn5 : plainName "com/example/kuri/kuri/normalize/SchemeRules" = true := by first | (simp [plainName, overriddenIn]; done) | decide +kernel
theorem d6_0 : decode jdk_42_method_66_code 0 = .ok (.aload_n 0, 1) := by decide +kernel
theorem d6_1 : decode jdk_42_method_66_code 1 = .ok (.aload_n 1, 1) := by decide +kernel
theorem d6_2 : decode jdk_42_method_66_code 2 = .ok (.if_acmp .ne 5, 3) := by decide +kernel
theorem d6_5 : decode jdk_42_method_66_code 5 = .ok (.iconst 1, 1) := by decide +kernel
theorem d6_6 : decode jdk_42_method_66_code 6 = .ok (.ireturn, 1) := by decide +kernel
theorem d6_7 : decode jdk_42_method_66_code 7 = .ok (.aload_n 1, 1) := by decide +kernel
theorem d6_8 : decode jdk_42_method_66_code 8 = .ok (.instanceof 10, 3) := by decide +kernel
theorem d6_11 : decode jdk_42_method_66_code 11 = .ok (.ifCond .eq 43, 3) := by decide +kernel
theorem d6_14 : decode jdk_42_method_66_code 14 = .ok (.aload_n 1, 1) := by decide +kernel
theorem d6_15 : decode jdk_42_method_66_code 15 = .ok (.checkcast 10, 3) := by decide +kernel
theorem d6_18 : decode jdk_42_method_66_code 18 = .ok (.astore_n 2, 1) := by decide +kernel
theorem d6_19 : decode jdk_42_method_66_code 19 = .ok (.getstatic 38, 3) := by decide +kernel
theorem d6_22 : decode jdk_42_method_66_code 22 = .ok (.ifCond .eq 14, 3) := by decide +kernel
theorem d6_25 : decode jdk_42_method_66_code 25 = .ok (.aload_n 0, 1) := by decide +kernel
theorem d6_26 : decode jdk_42_method_66_code 26 = .ok (.getfield 15, 3) := by decide +kernel
theorem d6_29 : decode jdk_42_method_66_code 29 = .ok (.aload_n 2, 1) := by decide +kernel
theorem d6_30 : decode jdk_42_method_66_code 30 = .ok (.getfield 15, 3) := by decide +kernel
theorem d6_33 : decode jdk_42_method_66_code 33 = .ok (.if_icmp .ne 21, 3) := by decide +kernel
theorem d6_36 : decode jdk_42_method_66_code 36 = .ok (.aload_n 0, 1) := by decide +kernel
theorem d6_37 : decode jdk_42_method_66_code 37 = .ok (.getfield 9, 3) := by decide +kernel
theorem d6_40 : decode jdk_42_method_66_code 40 = .ok (.aload_n 2, 1) := by decide +kernel
theorem d6_41 : decode jdk_42_method_66_code 41 = .ok (.getfield 9, 3) := by decide +kernel
theorem d6_44 : decode jdk_42_method_66_code 44 = .ok (.invokestatic 541, 3) := by decide +kernel
theorem d6_47 : decode jdk_42_method_66_code 47 = .ok (.ifCond .eq 7, 3) := by decide +kernel
theorem d6_50 : decode jdk_42_method_66_code 50 = .ok (.iconst 1, 1) := by decide +kernel
theorem d6_51 : decode jdk_42_method_66_code 51 = .ok (.goto 4, 3) := by decide +kernel
theorem d6_54 : decode jdk_42_method_66_code 54 = .ok (.iconst 0, 1) := by decide +kernel
theorem d6_55 : decode jdk_42_method_66_code 55 = .ok (.ireturn, 1) := by decide +kernel
theorem pd6 : parseMethodDescriptor "(Ljava/lang/Object;)Z" = some ⟨[(.object "java/lang/Object")], some .boolean⟩ := by decide +kernel
theorem pn6 : plainName "java/lang/String" = true := by first | (simp [plainName, overriddenIn]; done) | decide +kernel
theorem d7_0 : decode jdk_43_method_13_code 0 = .ok (.aload_n 0, 1) := by decide +kernel
theorem d7_1 : decode jdk_43_method_13_code 1 = .ok (.arraylength, 1) := by decide +kernel
theorem d7_2 : decode jdk_43_method_13_code 2 = .ok (.aload_n 1, 1) := by decide +kernel
theorem d7_3 : decode jdk_43_method_13_code 3 = .ok (.arraylength, 1) := by decide +kernel
theorem d7_4 : decode jdk_43_method_13_code 4 = .ok (.if_icmp .ne 30, 3) := by decide +kernel
theorem d7_7 : decode jdk_43_method_13_code 7 = .ok (.iconst 0, 1) := by decide +kernel
theorem d7_8 : decode jdk_43_method_13_code 8 = .ok (.istore_n 2, 1) := by decide +kernel
theorem d7_9 : decode jdk_43_method_13_code 9 = .ok (.iload_n 2, 1) := by decide +kernel
theorem d7_10 : decode jdk_43_method_13_code 10 = .ok (.aload_n 0, 1) := by decide +kernel
theorem d7_11 : decode jdk_43_method_13_code 11 = .ok (.arraylength, 1) := by decide +kernel
theorem d7_12 : decode jdk_43_method_13_code 12 = .ok (.if_icmp .ge 20, 3) := by decide +kernel
theorem d7_15 : decode jdk_43_method_13_code 15 = .ok (.aload_n 0, 1) := by decide +kernel
theorem d7_16 : decode jdk_43_method_13_code 16 = .ok (.iload_n 2, 1) := by decide +kernel
theorem d7_17 : decode jdk_43_method_13_code 17 = .ok (.baload, 1) := by decide +kernel
theorem d7_18 : decode jdk_43_method_13_code 18 = .ok (.aload_n 1, 1) := by decide +kernel
theorem d7_19 : decode jdk_43_method_13_code 19 = .ok (.iload_n 2, 1) := by decide +kernel
theorem d7_20 : decode jdk_43_method_13_code 20 = .ok (.baload, 1) := by decide +kernel
theorem d7_21 : decode jdk_43_method_13_code 21 = .ok (.if_icmp .eq 5, 3) := by decide +kernel
theorem d7_24 : decode jdk_43_method_13_code 24 = .ok (.iconst 0, 1) := by decide +kernel
theorem d7_25 : decode jdk_43_method_13_code 25 = .ok (.ireturn, 1) := by decide +kernel
theorem d7_26 : decode jdk_43_method_13_code 26 = .ok (.iinc 2 1, 3) := by decide +kernel
theorem d7_29 : decode jdk_43_method_13_code 29 = .ok (.goto (-20), 3) := by decide +kernel
theorem d7_32 : decode jdk_43_method_13_code 32 = .ok (.iconst 1, 1) := by decide +kernel
theorem d7_33 : decode jdk_43_method_13_code 33 = .ok (.ireturn, 1) := by decide +kernel
theorem d7_34 : decode jdk_43_method_13_code 34 = .ok (.iconst 0, 1) := by decide +kernel
theorem d7_35 : decode jdk_43_method_13_code 35 = .ok (.ireturn, 1) := by decide +kernel
theorem pd7 : parseMethodDescriptor "([B[B)Z" = some ⟨[(.array .byte), (.array .byte)], some .boolean⟩ := by decide +kernel
theorem pn7 : plainName "java/lang/StringLatin1" = true := by first | (simp [plainName, overriddenIn]; done) | decide +kernel
theorem d8_0 : decode method_2_code 0 = .ok (.iload 4, 2) := by decide +kernel
theorem d8_2 : decode method_2_code 2 = .ok (.ifCond .eq 23, 3) := by decide +kernel
theorem d8_5 : decode method_2_code 5 = .ok (.iload_n 2, 1) := by decide +kernel
theorem d8_6 : decode method_2_code 6 = .ok (.aload_n 3, 1) := by decide +kernel
theorem d8_7 : decode method_2_code 7 = .ok (.invokevirtual 7, 3) := by decide +kernel
theorem d8_10 : decode method_2_code 10 = .ok (.if_icmp .ge 15, 3) := by decide +kernel
theorem d8_13 : decode method_2_code 13 = .ok (.iload_n 2, 1) := by decide +kernel
theorem d8_14 : decode method_2_code 14 = .ok (.iload 5, 2) := by decide +kernel
theorem d8_16 : decode method_2_code 16 = .ok (.if_icmp .eq 9, 3) := by decide +kernel
theorem d8_19 : decode method_2_code 19 = .ok (.aload_n 3, 1) := by decide +kernel
theorem d8_20 : decode method_2_code 20 = .ok (.iload_n 2, 1) := by decide +kernel
theorem d8_21 : decode method_2_code 21 = .ok (.invokevirtual 13, 3) := by decide +kernel
theorem d8_24 : decode method_2_code 24 = .ok (.ireturn, 1) := by decide +kernel
theorem d8_25 : decode method_2_code 25 = .ok (.lload_n 0, 1) := by decide +kernel
theorem d8_26 : decode method_2_code 26 = .ok (.bipush 8, 2) := by decide +kernel
theorem d8_28 : decode method_2_code 28 = .ok (.iload_n 2, 1) := by decide +kernel
theorem d8_29 : decode method_2_code 29 = .ok (.imul, 1) := by decide +kernel
theorem d8_30 : decode method_2_code 30 = .ok (.lushr, 1) := by decide +kernel
theorem d8_31 : decode method_2_code 31 = .ok (.ldc2_w 17, 3) := by decide +kernel
theorem d8_34 : decode method_2_code 34 = .ok (.land, 1) := by decide +kernel
theorem d8_35 : decode method_2_code 35 = .ok (.l2i, 1) := by decide +kernel
theorem d8_36 : decode method_2_code 36 = .ok (.i2c, 1) := by decide +kernel
theorem d8_37 : decode method_2_code 37 = .ok (.ireturn, 1) := by decide +kernel
theorem pd8 : parseMethodDescriptor "(JILjava/lang/String;ZI)C" = some ⟨[.long, .int, (.object "java/lang/String"), .boolean, .int], some .char⟩ := by decide +kernel
theorem pn8 : plainName "com/example/kuri/kuri/normalize/SchemeRulesOfPinLaw" = true := by first | (simp [plainName, overriddenIn]; done) | decide +kernel
theorem d9_0 : decode jdk_52_method_16_code 0 = .ok (.iload_n 2, 1) := by decide +kernel
theorem d9_1 : decode jdk_52_method_16_code 1 = .ok (.newarray .byte, 2) := by decide +kernel
theorem d9_3 : decode jdk_52_method_16_code 3 = .ok (.astore_n 3, 1) := by decide +kernel
theorem d9_4 : decode jdk_52_method_16_code 4 = .ok (.aload_n 0, 1) := by decide +kernel
theorem d9_5 : decode jdk_52_method_16_code 5 = .ok (.iload_n 1, 1) := by decide +kernel
theorem d9_6 : decode jdk_52_method_16_code 6 = .ok (.aload_n 3, 1) := by decide +kernel
theorem d9_7 : decode jdk_52_method_16_code 7 = .ok (.iconst 0, 1) := by decide +kernel
theorem d9_8 : decode jdk_52_method_16_code 8 = .ok (.iload_n 2, 1) := by decide +kernel
theorem d9_9 : decode jdk_52_method_16_code 9 = .ok (.invokestatic 115, 3) := by decide +kernel
theorem d9_12 : decode jdk_52_method_16_code 12 = .ok (.istore 4, 2) := by decide +kernel
theorem d9_14 : decode jdk_52_method_16_code 14 = .ok (.iload 4, 2) := by decide +kernel
theorem d9_16 : decode jdk_52_method_16_code 16 = .ok (.iload_n 2, 1) := by decide +kernel
theorem d9_17 : decode jdk_52_method_16_code 17 = .ok (.if_icmp .eq 40, 3) := by decide +kernel
theorem d9_57 : decode jdk_52_method_16_code 57 = .ok (.aload_n 3, 1) := by decide +kernel
theorem d9_58 : decode jdk_52_method_16_code 58 = .ok (.areturn, 1) := by decide +kernel
theorem pd9 : parseMethodDescriptor "([CII)[B" = some ⟨[(.array .char), .int, .int], some (.array .byte)⟩ := by decide +kernel
theorem pn9 : plainName "java/lang/StringUTF16" = true := by first | (simp [plainName, overriddenIn]; done) | decide +kernel
theorem d10_0 : decode jdk_52_method_21_code 0 = .ok (.iconst 0, 1) := by decide +kernel
theorem d10_1 : decode jdk_52_method_21_code 1 = .ok (.istore 5, 2) := by decide +kernel
theorem d10_3 : decode jdk_52_method_21_code 3 = .ok (.iload 5, 2) := by decide +kernel
theorem d10_5 : decode jdk_52_method_21_code 5 = .ok (.iload 4, 2) := by decide +kernel
theorem d10_7 : decode jdk_52_method_21_code 7 = .ok (.if_icmp .ge 37, 3) := by decide +kernel
theorem d10_10 : decode jdk_52_method_21_code 10 = .ok (.aload_n 0, 1) := by decide +kernel
theorem d10_11 : decode jdk_52_method_21_code 11 = .ok (.iload_n 1, 1) := by decide +kernel
theorem d10_12 : decode jdk_52_method_21_code 12 = .ok (.caload, 1) := by decide +kernel
theorem d10_13 : decode jdk_52_method_21_code 13 = .ok (.istore 6, 2) := by decide +kernel
theorem d10_15 : decode jdk_52_method_21_code 15 = .ok (.iload 6, 2) := by decide +kernel
theorem d10_17 : decode jdk_52_method_21_code 17 = .ok (.sipush 255, 3) := by decide +kernel
theorem d10_20 : decode jdk_52_method_21_code 20 = .ok (.if_icmp .le 6, 3) := by decide +kernel
theorem d10_23 : decode jdk_52_method_21_code 23 = .ok (.iload 5, 2) := by decide +kernel
theorem d10_25 : decode jdk_52_method_21_code 25 = .ok (.ireturn, 1) := by decide +kernel
theorem d10_26 : decode jdk_52_method_21_code 26 = .ok (.aload_n 2, 1) := by decide +kernel
theorem d10_27 : decode jdk_52_method_21_code 27 = .ok (.iload_n 3, 1) := by decide +kernel
theorem d10_28 : decode jdk_52_method_21_code 28 = .ok (.iload 6, 2) := by decide +kernel
theorem d10_30 : decode jdk_52_method_21_code 30 = .ok (.i2b, 1) := by decide +kernel
theorem d10_31 : decode jdk_52_method_21_code 31 = .ok (.bastore, 1) := by decide +kernel
theorem d10_32 : decode jdk_52_method_21_code 32 = .ok (.iinc 1 1, 3) := by decide +kernel
theorem d10_35 : decode jdk_52_method_21_code 35 = .ok (.iinc 3 1, 3) := by decide +kernel
theorem d10_38 : decode jdk_52_method_21_code 38 = .ok (.iinc 5 1, 3) := by decide +kernel
theorem d10_41 : decode jdk_52_method_21_code 41 = .ok (.goto (-38), 3) := by decide +kernel
theorem d10_44 : decode jdk_52_method_21_code 44 = .ok (.iload 4, 2) := by decide +kernel
theorem d10_46 : decode jdk_52_method_21_code 46 = .ok (.ireturn, 1) := by decide +kernel
theorem pd10 : parseMethodDescriptor "([CI[BII)I" = some ⟨[(.array .char), .int, (.array .byte), .int, .int], some .int⟩ := by decide +kernel
theorem pn10 : plainName "java/lang/StringUTF16" = true := by first | (simp [plainName, overriddenIn]; done) | decide +kernel
theorem d11_0 : decode jdk_52_method_15_code 0 = .ok (.iload_n 1, 1) := by decide +kernel
theorem d11_1 : decode jdk_52_method_15_code 1 = .ok (.aload_n 0, 1) := by decide +kernel
theorem d11_2 : decode jdk_52_method_15_code 2 = .ok (.arraylength, 1) := by decide +kernel
theorem d11_3 : decode jdk_52_method_15_code 3 = .ok (.isub, 1) := by decide +kernel
theorem d11_4 : decode jdk_52_method_15_code 4 = .ok (.bipush 31, 2) := by decide +kernel
theorem d11_6 : decode jdk_52_method_15_code 6 = .ok (.iushr, 1) := by decide +kernel
theorem d11_7 : decode jdk_52_method_15_code 7 = .ok (.i2b, 1) := by decide +kernel
theorem d11_8 : decode jdk_52_method_15_code 8 = .ok (.ireturn, 1) := by decide +kernel
theorem pd11 : parseMethodDescriptor "([BI)B" = some ⟨[(.array .byte), .int], some .byte⟩ := by decide +kernel
theorem pn11 : plainName "java/lang/StringUTF16" = true := by first | (simp [plainName, overriddenIn]; done) | decide +kernel
theorem d12_0 : decode jdk_42_method_54_code 0 = .ok (.aload_n 0, 1) := by decide +kernel
theorem d12_1 : decode jdk_42_method_54_code 1 = .ok (.getfield 9, 3) := by decide +kernel
theorem d12_4 : decode jdk_42_method_54_code 4 = .ok (.arraylength, 1) := by decide +kernel
theorem d12_5 : decode jdk_42_method_54_code 5 = .ok (.aload_n 0, 1) := by decide +kernel
theorem d12_6 : decode jdk_42_method_54_code 6 = .ok (.invokevirtual 335, 3) := by decide +kernel
theorem d12_9 : decode jdk_42_method_54_code 9 = .ok (.ishr, 1) := by decide +kernel
theorem d12_10 : decode jdk_42_method_54_code 10 = .ok (.ireturn, 1) := by decide +kernel
theorem pd12 : parseMethodDescriptor "()I" = some ⟨[], some .int⟩ := by decide +kernel
theorem pn12 : plainName "java/lang/String" = true := by first | (simp [plainName, overriddenIn]; done) | decide +kernel
theorem d13_0 : decode jdk_42_method_152_code 0 = .ok (.getstatic 38, 3) := by decide +kernel
theorem d13_3 : decode jdk_42_method_152_code 3 = .ok (.ifCond .eq 10, 3) := by decide +kernel
theorem d13_6 : decode jdk_42_method_152_code 6 = .ok (.aload_n 0, 1) := by decide +kernel
theorem d13_7 : decode jdk_42_method_152_code 7 = .ok (.getfield 15, 3) := by decide +kernel
theorem d13_10 : decode jdk_42_method_152_code 10 = .ok (.goto 4, 3) := by decide +kernel
theorem d13_13 : decode jdk_42_method_152_code 13 = .ok (.iconst 1, 1) := by decide +kernel
theorem d13_14 : decode jdk_42_method_152_code 14 = .ok (.ireturn, 1) := by decide +kernel
theorem pd13 : parseMethodDescriptor "()B" = some ⟨[], some .byte⟩ := by decide +kernel
theorem pn13 : plainName "java/lang/String" = true := by first | (simp [plainName, overriddenIn]; done) | decide +kernel
theorem d14_0 : decode jdk_42_method_56_code 0 = .ok (.aload_n 0, 1) := by decide +kernel
theorem d14_1 : decode jdk_42_method_56_code 1 = .ok (.invokevirtual 492, 3) := by decide +kernel
theorem d14_4 : decode jdk_42_method_56_code 4 = .ok (.ifCond .eq 12, 3) := by decide +kernel
theorem d14_7 : decode jdk_42_method_56_code 7 = .ok (.aload_n 0, 1) := by decide +kernel
theorem d14_8 : decode jdk_42_method_56_code 8 = .ok (.getfield 9, 3) := by decide +kernel
theorem d14_11 : decode jdk_42_method_56_code 11 = .ok (.iload_n 1, 1) := by decide +kernel
theorem d14_12 : decode jdk_42_method_56_code 12 = .ok (.invokestatic 495, 3) := by decide +kernel
theorem d14_15 : decode jdk_42_method_56_code 15 = .ok (.ireturn, 1) := by decide +kernel
theorem pd14 : parseMethodDescriptor "(I)C" = some ⟨[.int], some .char⟩ := by decide +kernel
theorem pn14 : plainName "java/lang/String" = true := by first | (simp [plainName, overriddenIn]; done) | decide +kernel
theorem d15_0 : decode jdk_42_method_154_code 0 = .ok (.getstatic 38, 3) := by decide +kernel
theorem d15_3 : decode jdk_42_method_154_code 3 = .ok (.ifCond .eq 14, 3) := by decide +kernel
theorem d15_6 : decode jdk_42_method_154_code 6 = .ok (.aload_n 0, 1) := by decide +kernel
theorem d15_7 : decode jdk_42_method_154_code 7 = .ok (.getfield 15, 3) := by decide +kernel
theorem d15_10 : decode jdk_42_method_154_code 10 = .ok (.ifCond .ne 7, 3) := by decide +kernel
theorem d15_13 : decode jdk_42_method_154_code 13 = .ok (.iconst 1, 1) := by decide +kernel
theorem d15_14 : decode jdk_42_method_154_code 14 = .ok (.goto 4, 3) := by decide +kernel
theorem d15_17 : decode jdk_42_method_154_code 17 = .ok (.iconst 0, 1) := by decide +kernel
theorem d15_18 : decode jdk_42_method_154_code 18 = .ok (.ireturn, 1) := by decide +kernel
theorem pd15 : parseMethodDescriptor "()Z" = some ⟨[], some .boolean⟩ := by decide +kernel
theorem pn15 : plainName "java/lang/String" = true := by first | (simp [plainName, overriddenIn]; done) | decide +kernel
theorem d16_0 : decode jdk_43_method_2_code 0 = .ok (.iload_n 1, 1) := by decide +kernel
theorem d16_1 : decode jdk_43_method_2_code 1 = .ok (.aload_n 0, 1) := by decide +kernel
theorem d16_2 : decode jdk_43_method_2_code 2 = .ok (.arraylength, 1) := by decide +kernel
theorem d16_3 : decode jdk_43_method_2_code 3 = .ok (.invokestatic 9, 3) := by decide +kernel
theorem d16_6 : decode jdk_43_method_2_code 6 = .ok (.aload_n 0, 1) := by decide +kernel
theorem d16_7 : decode jdk_43_method_2_code 7 = .ok (.iload_n 1, 1) := by decide +kernel
theorem d16_8 : decode jdk_43_method_2_code 8 = .ok (.baload, 1) := by decide +kernel
theorem d16_9 : decode jdk_43_method_2_code 9 = .ok (.sipush 255, 3) := by decide +kernel
theorem d16_12 : decode jdk_43_method_2_code 12 = .ok (.iand, 1) := by decide +kernel
theorem d16_13 : decode jdk_43_method_2_code 13 = .ok (.i2c, 1) := by decide +kernel
theorem d16_14 : decode jdk_43_method_2_code 14 = .ok (.ireturn, 1) := by decide +kernel
theorem pd16 : parseMethodDescriptor "([BI)C" = some ⟨[(.array .byte), .int], some .char⟩ := by decide +kernel
theorem pn16 : plainName "java/lang/StringLatin1" = true := by first | (simp [plainName, overriddenIn]; done) | decide +kernel
theorem d17_0 : decode jdk_42_method_155_code 0 = .ok (.iload_n 0, 1) := by decide +kernel
theorem d17_1 : decode jdk_42_method_155_code 1 = .ok (.iload_n 1, 1) := by decide +kernel
theorem d17_2 : decode jdk_42_method_155_code 2 = .ok (.getstatic 1053, 3) := by decide +kernel
theorem d17_5 : decode jdk_42_method_155_code 5 = .ok (.invokestatic 1059, 3) := by decide +kernel
theorem d17_8 : decode jdk_42_method_155_code 8 = .ok (.pop, 1) := by decide +kernel
theorem d17_9 : decode jdk_42_method_155_code 9 = .ok (.return_, 1) := by decide +kernel
theorem pd17 : parseMethodDescriptor "(II)V" = some ⟨[.int, .int], none⟩ := by decide +kernel
theorem pn17 : plainName "java/lang/String" = true := by first | (simp [plainName, overriddenIn]; done) | decide +kernel
theorem d18_0 : decode jdk_41_method_11_code 0 = .ok (.iload_n 0, 1) := by decide +kernel
theorem d18_1 : decode jdk_41_method_11_code 1 = .ok (.ifCond .lt 8, 3) := by decide +kernel
theorem d18_4 : decode jdk_41_method_11_code 4 = .ok (.iload_n 0, 1) := by decide +kernel
theorem d18_5 : decode jdk_41_method_11_code 5 = .ok (.iload_n 1, 1) := by decide +kernel
theorem d18_6 : decode jdk_41_method_11_code 6 = .ok (.if_icmp .lt 10, 3) := by decide +kernel
theorem d18_16 : decode jdk_41_method_11_code 16 = .ok (.iload_n 0, 1) := by decide +kernel
theorem d18_17 : decode jdk_41_method_11_code 17 = .ok (.ireturn, 1) := by decide +kernel
theorem pd18 : parseMethodDescriptor "(IILjava/util/function/BiFunction;)I" = some ⟨[.int, .int, (.object "java/util/function/BiFunction")], some .int⟩ := by decide +kernel
theorem pn18 : plainName "jdk/internal/util/Preconditions" = true := by first | (simp [plainName, overriddenIn]; done) | decide +kernel
theorem pnL : plainName "com/example/kuri/kuri/normalize/SchemeRulesOfPinLaw" = true := by first | (simp [plainName, overriddenIn]; done) | decide +kernel
def bb (u : Int32) : Int32 := nar .byte (u.toInt8.toInt32)
def lob (u : Int32) : Int32 := nar .byte (u >>> ((0 : Int32) &&& 31)).toInt8.toInt32
def hib (u : Int32) : Int32 := nar .byte (u >>> ((8 : Int32) &&& 31)).toInt8.toInt32
def bl (us : List Int32) : List Value := us.map fun u => .int (bb u)
def wl (us : List Int32) : List Value := us.flatMap fun u => [.int (lob u), .int (hib u)]
def cl (us : List Int32) : List Value := us.map .int
def Ch (us : List Int32) : Prop := ∀ u ∈ us, 0 ≤ u.toInt ∧ u.toInt ≤ 65535
theorem bb_and (u : Int32) (h0 : 0 ≤ u.toInt) (h1 : u.toInt ≤ 255) : bb u &&& (255 : Int32) = u := by
  apply Int32.toInt_inj.mp
  rw [c_mask _ (255 : Int32) 8 (by decide) (by decide)]
  have e : (bb u).toInt = (u.toInt8.toInt32.toInt8.toInt32).toInt := rfl
  have h2 := c_i2b u
  have h3 := c_i2b u.toInt8.toInt32
  rw [e]; omega
theorem getc (u : Int32) (h0 : 0 ≤ u.toInt) (h1 : u.toInt ≤ 65535) : (((lob u &&& (255 : Int32)) <<< ((0 : Int32) &&& 31)) ||| ((hib u &&& (255 : Int32)) <<< ((8 : Int32) &&& 31))).toUInt32.toUInt16.toUInt32.toInt32 = u := by
  apply Int32.toInt_inj.mp
  have a1 := c_ishr u (0 : Int32) 0 (by decide)
  have a2 := c_ishr u (8 : Int32) 8 (by decide)
  have b1 := c_i2b (u >>> ((0 : Int32) &&& 31))
  have b2 := c_i2b (u >>> ((0 : Int32) &&& 31)).toInt8.toInt32
  have b3 := c_i2b (u >>> ((8 : Int32) &&& 31))
  have b4 := c_i2b (u >>> ((8 : Int32) &&& 31)).toInt8.toInt32
  have e1 : (lob u).toInt = ((u >>> ((0 : Int32) &&& 31)).toInt8.toInt32.toInt8.toInt32).toInt := rfl
  have e2 : (hib u).toInt = ((u >>> ((8 : Int32) &&& 31)).toInt8.toInt32.toInt8.toInt32).toInt := rfl
  have m1 := c_mask (lob u) (255 : Int32) 8 (by decide) (by decide)
  have m2 := c_mask (hib u) (255 : Int32) 8 (by decide) (by decide)
  have f1 : (lob u &&& (255 : Int32)).toInt = u.toInt % 256 := by omega
  have f2 : (hib u &&& (255 : Int32)).toInt = u.toInt / 256 := by omega
  clear a1 a2 b1 b2 b3 b4 e1 e2 m1 m2
  generalize lob u &&& (255 : Int32) = x at f1 ⊢
  generalize hib u &&& (255 : Int32) = y at f2 ⊢
  have s1 := c_ishl x (0 : Int32) 0 (by decide)
  have s2 := c_ishl y (8 : Int32) 8 (by decide)
  have g1 := (x <<< ((0 : Int32) &&& 31)).toInt_lt
  have g2 := (x <<< ((0 : Int32) &&& 31)).le_toInt
  have g3 := (y <<< ((8 : Int32) &&& 31)).toInt_lt
  have g4 := (y <<< ((8 : Int32) &&& 31)).le_toInt
  generalize x <<< ((0 : Int32) &&& 31) = x' at s1 g1 g2 ⊢
  generalize y <<< ((8 : Int32) &&& 31) = y' at s2 g3 g4 ⊢
  have q1 : x'.toInt = u.toInt % 256 := by omega
  have q2 : y'.toInt = u.toInt / 256 * 256 := by omega
  have o := c_or' x' y' 8 (by decide) 256 (by decide) (by omega) (by omega) (by omega)
  have c := c_i2c (x' ||| y')
  omega
theorem bl_at {us pre rem : List Int32} {u : Int32} {i : Int32} (hus : us = pre ++ u :: rem) (hi : i.toInt = (pre.length : Int)) : (bl us).getD i.toNatClampNeg (.int 0) = .int (bb u) := by
  have : i.toNatClampNeg = pre.length := by show i.toInt.toNat = _; omega
  rw [this, hus]; simp [bl, List.getD]
theorem cl_at {us pre rem : List Int32} {u : Int32} {i : Int32} (hus : us = pre ++ u :: rem) (hi : i.toInt = (pre.length : Int)) : (cl us).getD i.toNatClampNeg (.int 0) = .int u := by
  have : i.toNatClampNeg = pre.length := by show i.toInt.toNat = _; omega
  rw [this, hus]; simp [cl, List.getD]
theorem wl_len (us : List Int32) : (wl us).length = 2 * us.length := by
  induction us with
  | nil => rfl
  | cons u us ih => simp only [wl, List.flatMap_cons, List.length_append, List.length_cons, List.length_nil] at ih ⊢; omega
theorem wl_app (us vs : List Int32) : wl (us ++ vs) = wl us ++ wl vs := by simp [wl]
theorem wl_lo {us pre rem : List Int32} {u : Int32} {i : Int32} (hus : us = pre ++ u :: rem) (hi : i.toInt = 2 * (pre.length : Int)) : (wl us).getD i.toNatClampNeg (.int 0) = .int (lob u) := by
  have : i.toNatClampNeg = (wl pre).length := by show i.toInt.toNat = _; rw [wl_len]; omega
  rw [this, hus, wl_app]; simp [List.getD, wl]
theorem wl_hi {us pre rem : List Int32} {u : Int32} {i : Int32} (hus : us = pre ++ u :: rem) (hi : i.toInt = 2 * (pre.length : Int) + 1) : (wl us).getD i.toNatClampNeg (.int 0) = .int (hib u) := by
  have : i.toNatClampNeg = (wl pre).length + 1 := by show i.toInt.toNat = _; rw [wl_len]; omega
  rw [this, hus, wl_app]; simp [List.getD, wl]
theorem bl_set {pre rem : List Int32} {u : Int32} {i : Nat} (hi : i = pre.length) : (bl pre ++ List.replicate (rem.length + 1) (Value.int 0)).set i (.int (bb u)) = bl (pre ++ [u]) ++ List.replicate rem.length (.int 0) := by
  subst hi
  rw [List.replicate_succ, show pre.length = (bl pre).length from by simp [bl], List.set_append_right _ _ (Nat.le_refl _)]
  simp [bl]
theorem wl_set {pre rem : List Int32} {u : Int32} {i j : Nat} (hi : i = 2 * pre.length) (hj : j = 2 * pre.length + 1) : ((wl pre ++ List.replicate (2 * (rem.length + 1)) (Value.int 0)).set i (.int (lob u))).set j (.int (hib u)) = wl (pre ++ [u]) ++ List.replicate (2 * rem.length) (.int 0) := by
  subst hi hj
  rw [show 2 * (rem.length + 1) = 2 * rem.length + 1 + 1 from by omega, List.replicate_succ, List.replicate_succ, ← wl_len pre, List.set_append_right _ _ (Nat.le_refl _), List.set_append_right _ _ (Nat.le_succ _), wl_app]
  simp [wl]
theorem dbl_t (z : Int32) (h1 : 0 ≤ z.toInt) (h2 : z.toInt < 1073741824) : (z <<< ((1 : Int32) &&& 31)).toInt = 2 * z.toInt := by
  have s1 := c_ishl z (1 : Int32) 1 (by decide)
  have g1 := (z <<< ((1 : Int32) &&& 31)).toInt_lt
  have g2 := (z <<< ((1 : Int32) &&& 31)).le_toInt
  omega
theorem i2cE (u : Int32) (h0 : 0 ≤ u.toInt) (h1 : u.toInt ≤ 65535) : u.toUInt32.toUInt16.toUInt32.toInt32 = u := by
  apply Int32.toInt_inj.mp
  have := c_i2c u
  omega
theorem narC (u : Int32) (h0 : 0 ≤ u.toInt) (h1 : u.toInt ≤ 65535) : narrow .char (.int u) = .int u := by
  show Value.int u.toUInt32.toUInt16.toUInt32.toInt32 = _
  rw [i2cE u h0 h1]
theorem cfa1 (z z' : Int32) (h0 : 0 ≤ z.toInt) (h1 : z.toInt < z'.toInt) : (XT.ushr (z - z') (31 : Int32)).toInt8.toInt32 = (1 : Int32) := by
  have a := c_isub z z'
  have g1 := (z - z').toInt_lt
  have g2 := (z - z').le_toInt
  have g3 := z.toInt_lt
  have g4 := z'.toInt_lt
  have e : (z - z').toInt < 0 := by omega
  have u : (XT.ushr (z - z') (31 : Int32)).toInt = ((z - z').toInt % 4294967296) / (2 ^ 31 : Nat) := c_iushr (z - z') (31 : Int32) 31 (by decide) (by decide)
  have u1 : (XT.ushr (z - z') (31 : Int32)).toInt = 1 := by rw [u]; omega
  rw [show XT.ushr (z - z') (31 : Int32) = 1 from Int32.toInt_inj.mp (u1.trans (by decide))]
  decide
theorem sta_keep {Z : State} {h h' : Heap} {a : Addr} {C n d : String} {v : Value} (S : Sta Z h C n d v) (K : Keep h h' [a]) (pl : ∀ cell, h[a]? = some cell → cell.vm.isStatics = false) : Sta Z h' C n d v := by
  obtain ⟨cf, i, k, f, st, cell, h1, h2, h3, h4, h5, h6, h7⟩ := S
  have ne : st ∉ [a] := fun q => by
    cases List.mem_singleton.mp q
    rw [pl _ h5] at h6; cases h6
  exact ⟨cf, i, k, f, st, cell, h1, h2, h3, h4, K.2.1 _ _ h5 ne, h6, h7⟩
theorem sta_wr {Z : State} {h h' : Heap} {a : Addr} {sl : Nat} {w : Value} {C n d : String} {v : Value} (S : Sta Z h C n d v) (W : Wr h h' a sl w) (pl : ∀ cell, h[a]? = some cell → cell.vm.isStatics = false) : Sta Z h' C n d v := sta_keep S (Keep.of_wr W) pl
theorem exa_plain {Z : State} {h : Heap} {a : Addr} {C : String} (E : Exa Z h a C) : ∀ cell, h[a]? = some cell → cell.vm.isStatics = false := fun cell hc => by
  obtain ⟨c, k, h1, -, -, h4, -⟩ := E
  cases h1.symm.trans hc; exact h4
theorem arv_plain {Z : State} {h : Heap} {a : Addr} {k : ClassId} {ty : FieldType} {z : Int32} {vs : List Value} {d : Value} (A : Arv Z h a k ty z vs d) : ∀ cell, h[a]? = some cell → cell.vm.isStatics = false := fun cell hc => by
  obtain ⟨c, Ar, -⟩ := A
  cases Ar.1.symm.trans hc; exact Ar.plain
def Sg (Z : State) (h : Heap) (cs : Int32) (fv : Value) : Prop := Sta Z h "java/lang/String" "COMPACT_STRINGS" "Z" (.int cs) ∧ Sta Z h "jdk/internal/util/Preconditions" "SIOOBE_FORMATTER" "Ljava/util/function/BiFunction;" (fv)
theorem Sg.ext {Z : State} {h : Heap} {cs : Int32} {fv : Value} (G : Sg Z h cs fv) {h' : Heap} (E : Ext h h') : Sg Z h' cs fv := ⟨G.1.ext E, G.2.ext E⟩
theorem Sg.wr {Z : State} {h : Heap} {cs : Int32} {fv : Value} (G : Sg Z h cs fv) {h' : Heap} {a : Addr} {sl : Nat} {v : Value} (W : Wr h h' a sl v) (q : ∀ cell, h[a]? = some cell → cell.vm.isStatics = false) : Sg Z h' cs fv := ⟨sta_wr G.1 W q, sta_wr G.2 W q⟩
theorem Sg.keep {Z : State} {h : Heap} {cs : Int32} {fv : Value} (G : Sg Z h cs fv) {h' : Heap} {a : Addr} (K : Keep h h' [a]) (q : ∀ cell, h[a]? = some cell → cell.vm.isStatics = false) : Sg Z h' cs fv := ⟨sta_keep G.1 K q, sta_keep G.2 K q⟩
def Sv (Z : State) (h : Heap) (a : Addr) (us : List Int32) : Prop := Ch us ∧ Exa Z h a "java/lang/String" ∧ ∃ (v : Addr) (kb : ClassId) (z : Int32), Fld Z h a "java/lang/String" "value" "[B" (.ref v) ∧ Fld Z h a "java/lang/String" "coder" "B" (.int 0) ∧ z.toInt = (us.length : Int) ∧ (∀ u ∈ us, u.toInt ≤ 255) ∧ Arv Z h v kb .byte z (bl us) (.int 0)
theorem Sv.ext {Z : State} {h h' : Heap} {a : Addr} {us : List Int32} (S : Sv Z h a us) (E : Ext h h') : Sv Z h' a us := by
  obtain ⟨h0, h1, v, kb, z, h2, q1, q2, q3, q4⟩ := S
  exact ⟨h0, h1.ext E, v, kb, z, h2.ext E, q1.ext E, q2, q3, q4.ext E⟩
theorem hStr {a0 : Array Value} {Z : State} (hw : ∀ d ∈ tables_1, d.before a0 Z = true) : ∀ d ∈ Bundle.stringAtoms, d.before a0 Z = true := by
  intro d hd
  simp only [Bundle.stringAtoms, List.mem_cons, List.not_mem_nil, or_false] at hd
  rcases hd with rfl | rfl | rfl | rfl | rfl | rfl | rfl
  · exact (hw _ (List.mem_of_getElem? (i := 1) rfl))
  · exact (hw _ (List.mem_of_getElem? (i := 2) rfl))
  · exact (hw _ (List.mem_of_getElem? (i := 3) rfl))
  · exact (hw _ (List.mem_of_getElem? (i := 4) rfl))
  · exact (hw _ (List.mem_of_getElem? (i := 5) rfl))
  · exact (hw _ (List.mem_of_getElem? (i := 6) rfl))
  · exact (hw _ (List.mem_of_getElem? (i := 7) rfl))
def Q5 (Z : State) (t : Addr) (kb : ClassId) (z : Int32) (us : List Int32) (h0 : Heap) (n0 : Nat) (v : Option Value) (h : Heap) (L : List Loc) : Prop := Fr n0 L ∧ Keep h0 h [t] ∧ ∃ r : Int32, v = some (.int r) ∧ ((r = z ∧ (∀ u ∈ us, u.toInt ≤ 255) ∧ Arv Z h t kb .byte z (bl us) (.int 0)) ∨ ∃ pre u rem, us = pre ++ u :: rem ∧ r.toInt = (pre.length : Int) ∧ 255 < u.toInt)
set_option maxRecDepth 65536 in
set_option maxHeartbeats 40000000 in
theorem c5loop {l : Launch} {Z : State} {p : Program} {e : Env} {R : Room} {s : State} {m : MethodId} {args : Array Value} {below : List Frame} {meth : Method} {c : Code} {K N : Nat} (hx : p.tables.exec = Jvm.exec) (hby : c.code = jdk_52_method_21_code) (hret : meth.sig.returnType = some .int) (hlk : meth.locks = false) (hZ : Z.Warmed39 s.vm) (h0 : Heap) (la t : Addr) (kc kb : ClassId) (us : List Int32) (z : Int32) (hz : z.toInt = (us.length : Int)) (hch : Ch us) (n0 : Nat) (hnt : n0 ≤ t) (hct : la ≠ t) :
    ∀ (rem pre : List Int32) (i : Int32) (sl6 : Slot) (T : State) (h : Heap) (locs : List Loc) (cells slots : Nat), (∀ u : Int32, storeLocals #[.val (.ref la), .val (.int i), .val (.ref t), .val (.int i), .val (.int z), .val (.int i), sl6] 6 (.int u) = some #[.val (.ref la), .val (.int i), .val (.ref t), .val (.int i), .val (.int z), .val (.int i), .val (.int u)]) → us = pre ++ rem → i.toInt = (pre.length : Int) → (∀ u ∈ pre, u.toInt ≤ 255) → Stand p l e R s m args below meth c T locs cells slots → T.heap = h → Fr n0 locs → Keep h0 h [t] → Arv Z h la kc .char z (cl us) (.int 0) → Arv Z h t kb .byte z (bl pre ++ List.replicate rem.length (.int 0)) (.int 0) → cells ≤ K → slots ≤ N → Wk.Go p e below (FrameEnd s) (Q5 Z t kb z us h0 n0) K N T (mkF m 3 #[.val (.ref la), .val (.int i), .val (.ref t), .val (.int i), .val (.int z), .val (.int i), sl6] [])
  | [], pre, i, sl6, T, h, locs, cells, slots, hs6, hus, hi, hpre, X0, e0, N0, K0, C, A, hcK, hsN => by
    have hl : us.length = pre.length := by rw [hus]; simp
    refine Wk.iload X0 hx (hb hby d10_3) rfl rfl ?_
    refine Wk.iload X0 hx (hb hby d10_5) rfl rfl ?_
    refine Wk.icmp_ge X0 hx 44 10 (hb hby d10_7) rfl rfl (show (i : Int32).toInt = (i).toInt from rfl) (show (z : Int32).toInt = (z).toInt from rfl) (fun h1 => ?_) (fun h1 => absurd h1 (by omega))
    refine Wk.iload X0 hx (hb hby d10_44) rfl rfl ?_
    exact Wk.retI X0 hx hlk hret (hb hby d10_46) hcK hsN (by rw [e0]; exact ⟨N0, K0, _, rfl, Or.inl ⟨rfl, by rw [hus, List.append_nil]; exact hpre, by rw [hus]; simpa using A⟩⟩)
  | u :: rem, pre, i, sl6, T, h, locs, cells, slots, hs6, hus, hi, hpre, X0, e0, N0, K0, C, A, hcK, hsN => by
    have hl : us.length = pre.length + (rem.length + 1) := by rw [hus]; simp
    have hzl := z.toInt_lt
    have hi1 : (i + 1).toInt = i.toInt + 1 := by have := c_iadd i 1; have h1 := (i + 1).toInt_lt; have h2 := (i + 1).le_toInt; have : (1 : Int32).toInt = 1 := rfl; omega
    refine Wk.iload X0 hx (hb hby d10_3) rfl rfl ?_
    refine Wk.iload X0 hx (hb hby d10_5) rfl rfl ?_
    refine Wk.icmp_ge X0 hx 44 10 (hb hby d10_7) rfl rfl (show (i : Int32).toInt = (i).toInt from rfl) (show (z : Int32).toInt = (z).toInt from rfl) (fun h1 => absurd h1 (by omega)) (fun h1 => ?_)
    refine Wk.aloadN X0 hx (hb hby d10_10) rfl rfl rfl ?_
    refine Wk.iloadN X0 hx (hb hby d10_11) rfl rfl ?_
    refine Wk.caload X0 hx hZ e0 C (by omega) (by omega) (cl_at hus hi) (hb hby d10_12) rfl ?_
    refine Wk.istore (l' := #[.val (.ref la), .val (.int i), .val (.ref t), .val (.int i), .val (.int z), .val (.int i), .val (.int u)]) X0 hx (hb hby d10_13) (hs6 u) rfl ?_
    refine Wk.iload X0 hx (hb hby d10_15) rfl rfl ?_
    refine Wk.sipush X0 hx (255 : Int32) (hb hby d10_17) rfl rfl ?_
    refine Wk.icmp_le X0 hx 26 23 (hb hby d10_20) rfl rfl (show (u : Int32).toInt = (u).toInt from rfl) (show ((255 : Int32) : Int32).toInt = 255 from (by decide)) (fun h2 => ?_) (fun h2 => ?_)
    · skip
      refine Wk.aloadN X0 hx (hb hby d10_26) rfl rfl rfl ?_
      refine Wk.iloadN X0 hx (hb hby d10_27) rfl rfl ?_
      refine Wk.iload X0 hx (hb hby d10_28) rfl rfl ?_
      refine Wk.i2b X0 hx (hb hby d10_30) rfl ?_
      refine Wk.bastore X0 hx hZ e0 A (by omega) (by omega) pre.length (by show i.toInt.toNat = _; omega) (by simp [bl]) (hb hby d10_31) rfl (fun T2 h2 X2 e2 W2 A2 => ?_)
      refine Wk.iinc (l' := #[.val (.ref la), .val (.int (i + (1 : Int32))), .val (.ref t), .val (.int i), .val (.int z), .val (.int i), .val (.int u)]) X2 hx (1 : Int32) (hb hby d10_32) rfl rfl rfl rfl ?_
      refine Wk.iinc (l' := #[.val (.ref la), .val (.int (i + (1 : Int32))), .val (.ref t), .val (.int (i + (1 : Int32))), .val (.int z), .val (.int i), .val (.int u)]) X2 hx (1 : Int32) (hb hby d10_35) rfl rfl rfl rfl ?_
      refine Wk.iinc (l' := #[.val (.ref la), .val (.int (i + (1 : Int32))), .val (.ref t), .val (.int (i + (1 : Int32))), .val (.int z), .val (.int (i + (1 : Int32))), .val (.int u)]) X2 hx (1 : Int32) (hb hby d10_38) rfl rfl rfl rfl ?_
      refine Wk.goto X2 hx 3 (hb hby d10_41) rfl ?_
      have A3 : Arv Z h2 t kb .byte z (bl (pre ++ [u]) ++ List.replicate rem.length (.int 0)) (.int 0) := by rw [← bl_set (rem := rem) rfl]; exact A2
      exact c5loop hx hby hret hlk hZ h0 la t kc kb us z hz hch n0 hnt hct rem (pre ++ [u]) (i + 1) _ T2 h2 _ _ _ (fun _ => rfl) (by rw [hus]; simp) (by rw [List.length_append, hi1, hi]; rfl) (fun y hy => (List.mem_append.mp hy).elim (hpre y) (fun q => by cases List.mem_singleton.mp q; omega)) X2 e2 (Fr.snoc X2 N0 hnt) (K0.wr W2 (Or.inl (List.mem_singleton.mpr rfl))) (C.other W2 hct) A3 hcK hsN
    · skip
      refine Wk.iload X0 hx (hb hby d10_23) rfl rfl ?_
      exact Wk.retI X0 hx hlk hret (hb hby d10_25) hcK hsN (by rw [e0]; exact ⟨N0, K0, _, rfl, Or.inr ⟨pre, u, rem, hus, hi, by omega⟩⟩)
set_option maxRecDepth 65536 in
set_option maxHeartbeats 40000000 in
theorem mc5 (l : Launch) (Z : State) (a0 : Array Value) (hw : ∀ d ∈ tables_1, d.before a0 Z = true) (la t : Addr) (kc kb : ClassId) (us : List Int32) (z : Int32) (hz : z.toInt = (us.length : Int)) (hch : Ch us) (n0 : Nat) (hnt : n0 ≤ t) (hct : la ≠ t) (h0 : Heap) (C : Arv Z h0 la kc .char z (cl us) (.int 0)) (A : Arv Z h0 t kb .byte z (List.replicate us.length (.int 0)) (.int 0)) : Wk.Met l Z (⟨"java/lang/StringUTF16", "compress", "([CI[BII)I"⟩ : MethodName) jdk_52_method_21_code 7 (some .int) [] { frames := 0, cells := 0, slots := 0, locals := 0 } #[(.ref la), (.int (0 : Int32)), (.ref t), (.int (0 : Int32)), (.int z)] h0 (Q5 Z t kb z us h0 n0) := by
  refine Wk.start pn10 ?_
  intro p e s m below meth c s₁ X0 hx hby hml hown0 hnm hret hlk hZ e0
  have hown : s.vm.findClass "java/lang/StringUTF16" = some m.cls := hown0
  refine Wk.enter (g' := (mkF m 0 #[.val (.ref la), .val (.int (0 : Int32)), .val (.ref t), .val (.int (0 : Int32)), .val (.int z), .unset, .unset] [])) (by first | rfl | (simp [entryFrame, mkF, argsToLocals, Value.category, maxLocals]; done) | (simp [entryFrame, mkF, argsToLocals, hcat]; done) | (simp [entryFrame, mkF, argsToLocals, hcat]; rfl)) ?_
  refine Wk.iconst X0 hx (0 : Int32) (hb hby d10_0) rfl rfl ?_
  refine Wk.istore (l' := #[.val (.ref la), .val (.int (0 : Int32)), .val (.ref t), .val (.int (0 : Int32)), .val (.int z), .val (.int (0 : Int32)), .unset]) X0 hx (hb hby d10_1) rfl rfl ?_
  exact c5loop hx hby hret hlk hZ h0 la t kc kb us z hz hch n0 hnt hct us [] 0 _ s₁ h0 [] 0 0 (fun _ => rfl) rfl rfl (fun _ q => nomatch q) X0 e0 (Fr.nil n0) (Keep.refl _ _) C A (Nat.zero_le _) (Nat.zero_le _)
def Qc (Z : State) (us : List Int32) (z : Int32) (h0 : Heap) (n0 : Nat) (v : Option Value) (h : Heap) (L : List Loc) : Prop := ∃ t kb, v = some (.ref t) ∧ h0.size ≤ t ∧ Fr n0 L ∧ Ext h0 h ∧ (∀ u ∈ us, u.toInt ≤ 255) ∧ Arv Z h t kb .byte z (bl us) (.int 0)
set_option maxRecDepth 65536 in
set_option maxHeartbeats 40000000 in
theorem mc3 (l : Launch) (Z : State) (a0 : Array Value) (hw : ∀ d ∈ tables_1, d.before a0 Z = true) (cs : Int32) (hcs : ¬ cs.toInt = 0) (fv : Value) (hfv : fv.isRef = true) (la : Addr) (kc : ClassId) (us : List Int32) (z : Int32) (hz : z.toInt = (us.length : Int)) (hch : Ch us) (hz0 : ¬ z < 0) (hzn : z.toNatClampNeg = us.length) (hcap : us.length ≤ 7) (hlat : ∀ u ∈ us, u.toInt ≤ 255) (n0 : Nat) (h0 : Heap) (hn0 : n0 ≤ h0.size) (G : Sg Z h0 cs fv) (C : Arv Z h0 la kc .char z (cl us) (.int 0)) : Wk.Met l Z (⟨"java/lang/StringUTF16", "compress", "([CII)[B"⟩ : MethodName) jdk_52_method_16_code 6 (some (.array .byte)) [] { frames := 1, cells := 1, slots := 7, locals := 18 } #[(.ref la), (.int (0 : Int32)), (.int z)] h0 (Qc Z us z h0 n0) := by
  refine Wk.start pn9 ?_
  intro p e s m below meth c s₁ X0 hx hby hml hown0 hnm hret hlk hZ e0
  have hown : s.vm.findClass "java/lang/StringUTF16" = some m.cls := hown0
  refine Wk.enter (g' := (mkF m 0 #[.val (.ref la), .val (.int (0 : Int32)), .val (.int z), .unset, .unset, .unset] [])) (by first | rfl | (simp [entryFrame, mkF, argsToLocals, Value.category, maxLocals]; done) | (simp [entryFrame, mkF, argsToLocals, hcat]; done) | (simp [entryFrame, mkF, argsToLocals, hcat]; rfl)) ?_
  refine Wk.iloadN X0 hx (hb hby d9_0) rfl rfl ?_
  refine Wk.newP (z := z) X0 hx hZ rfl (hw _ (List.mem_of_getElem? (i := 3) rfl)) e0 hz0 us.length hzn (by omega) (by decide) (show 0 + us.length ≤ 7 by omega) (hb hby d9_1) rfl (fun T1 h1 kb X1 e1 Ex1 Av1 => ?_)
  have B1 : Arv Z h1 h0.size kb .byte z (List.replicate us.length (.int 0)) (.int 0) := Av1
  have lt1 : la < h0.size := C.lt
  have X1 := X1.mono (cells' := 1) (slots' := 7) (by decide) (show 0 + us.length ≤ 7 by omega)
  refine Wk.astoreN (l' := #[.val (.ref la), .val (.int (0 : Int32)), .val (.int z), .val (.ref h0.size), .unset, .unset]) X1 hx (hb hby d9_3) rfl rfl rfl ?_
  refine Wk.aloadN X1 hx (hb hby d9_4) rfl rfl rfl ?_
  refine Wk.iloadN X1 hx (hb hby d9_5) rfl rfl ?_
  refine Wk.aloadN X1 hx (hb hby d9_6) rfl rfl rfl ?_
  refine Wk.iconst X1 hx (0 : Int32) (hb hby d9_7) rfl rfl ?_
  refine Wk.iloadN X1 hx (hb hby d9_8) rfl rfl ?_
  refine Wk.callS (W := 0) X1 hx hZ (argsL := [(.ref la), (.int (0 : Int32)), (.ref h0.size), (.int (0 : Int32)), (.int z)]) (rest := []) hown (hw _ (List.mem_of_getElem? (i := 73) rfl)) (hw _ (List.mem_of_getElem? (i := 74) rfl)) (hw _ (List.mem_of_getElem? (i := 71) rfl)) (hw _ (List.mem_of_getElem? (i := 75) rfl)) (by decide) (mc5 l Z a0 hw la h0.size kc kb us z hz hch n0 hn0 (Nat.ne_of_lt lt1) h1 (C.ext Ex1) B1) e1 (by decide) (by decide) (by decide) (by decide) (by rw [hml]; rfl) (lenOf pd10 rfl) rfl (Nat.le_of_eq rfl) (hb hby d9_9) rfl (fun T6 v6 L6 X6 hq6 => ?_)
  obtain ⟨N6, K6, r, rfl, hr6⟩ := hq6
  show Wk.Go p e below _ _ _ _ T6 (mkF m 12 #[.val (.ref la), .val (.int (0 : Int32)), .val (.int z), .val (.ref h0.size), .unset, .unset] [(.int r)])
  have Ex2 : Ext h0 T6.heap := Wk.ext_of_keep (((Keep.refl _ _).ext Ex1).trans K6 (allS (Or.inr (Nat.le_refl _)) all0))
  rcases hr6 with ⟨erz, hle, B2⟩ | ⟨pre, u, rem, hus, hr, hu⟩
  · skip
    rw [erz]
    refine Wk.istore (l' := #[.val (.ref la), .val (.int (0 : Int32)), .val (.int z), .val (.ref h0.size), .val (.int z), .unset]) X6 hx (hb hby d9_12) rfl rfl ?_
    refine Wk.iload X6 hx (hb hby d9_14) rfl rfl ?_
    refine Wk.iloadN X6 hx (hb hby d9_16) rfl rfl ?_
    refine Wk.icmp_eq X6 hx 57 20 (hb hby d9_17) rfl rfl (show (z : Int32).toInt = (z).toInt from rfl) (show (z : Int32).toInt = (z).toInt from rfl) (fun h7 => ?_) (fun h7 => absurd h7 (by omega))
    refine Wk.aloadN X6 hx (hb hby d9_57) rfl rfl rfl ?_
    exact Wk.retA X6 hx hlk hret rfl rfl (hb hby d9_58) (by decide) (by decide) ⟨_, _, rfl, Nat.le_refl _, Fr.app (Fr.nil n0) N6, Ex2, hle, B2⟩
  · skip
    have hl : us.length = pre.length + (rem.length + 1) := by rw [hus]; simp
    exact absurd hu (by have := hlat u (by rw [hus]; simp); omega)
set_option maxRecDepth 65536 in
set_option maxHeartbeats 40000000 in
theorem mcfa0 (l : Launch) (Z : State) (a0 : Array Value) (hw : ∀ d ∈ tables_1, d.before a0 Z = true) (t : Addr) (kb : ClassId) (us : List Int32) (z : Int32) (hz : z.toInt = (us.length : Int)) (h0 : Heap) (A : Arv Z h0 t kb .byte z (bl us) (.int 0)) : Wk.Met l Z (⟨"java/lang/StringUTF16", "coderFromArrayLen", "([BI)B"⟩ : MethodName) jdk_52_method_15_code 2 (some .byte) [] { frames := 0, cells := 0, slots := 0, locals := 0 } #[(.ref t), (.int z)] h0 (Wk.Pu (.int 0) h0) := by
  refine Wk.start pn11 ?_
  intro p e s m below meth c s₁ X0 hx hby hml hown0 hnm hret hlk hZ e0
  have hown : s.vm.findClass "java/lang/StringUTF16" = some m.cls := hown0
  refine Wk.enter (g' := (mkF m 0 #[.val (.ref t), .val (.int z)] [])) (by first | rfl | (simp [entryFrame, mkF, argsToLocals, Value.category, maxLocals]; done) | (simp [entryFrame, mkF, argsToLocals, hcat]; done) | (simp [entryFrame, mkF, argsToLocals, hcat]; rfl)) ?_
  refine Wk.iloadN X0 hx (hb hby d11_0) rfl rfl ?_
  refine Wk.aloadN X0 hx (hb hby d11_1) rfl rfl rfl ?_
  refine Wk.alen X0 hx hZ e0 A (hb hby d11_2) rfl ?_
  refine Wk.isub X0 hx (hb hby d11_3) rfl ?_
  refine Wk.bipush X0 hx (31 : Int32) (hb hby d11_4) rfl rfl ?_
  refine Wk.iushr X0 hx (hb hby d11_6) rfl ?_
  refine Wk.i2b X0 hx (hb hby d11_7) rfl ?_
  rw [show (XT.ushr (z - z) (31 : Int32)).toInt8.toInt32 = (0 : Int32) from by rw [Int32.sub_self]; decide]
  exact Wk.retB X0 hx hlk hret (hb hby d11_8) rfl (Nat.zero_le _) (Nat.zero_le _) (Wk.pu e0)
def Qs (Z : State) (a : Addr) (us : List Int32) (h0 : Heap) (n0 : Nat) (v : Option Value) (h : Heap) (L : List Loc) : Prop := v = none ∧ Fr n0 L ∧ Keep h0 h [a] ∧ Sv Z h a us
set_option maxRecDepth 65536 in
set_option maxHeartbeats 40000000 in
theorem mi149 (l : Launch) (Z : State) (a0 : Array Value) (hw : ∀ d ∈ tables_1, d.before a0 Z = true) (cs : Int32) (hcs : ¬ cs.toInt = 0) (fv : Value) (hfv : fv.isRef = true) (a la : Addr) (kc : ClassId) (us : List Int32) (z : Int32) (hz : z.toInt = (us.length : Int)) (hch : Ch us) (hz0 : ¬ z < 0) (hzn : z.toNatClampNeg = us.length) (hcap : us.length ≤ 7) (hlat : ∀ u ∈ us, u.toInt ≤ 255) (hne : 0 < us.length) (n0 : Nat) (hna : n0 ≤ a) (h0 : Heap) (hn0 : n0 ≤ h0.size) (G : Sg Z h0 cs fv) (E : Exa Z h0 a "java/lang/String") (Fv : Wk.FldE Z h0 a "java/lang/String" "value" "[B") (Fc : Wk.FldE Z h0 a "java/lang/String" "coder" "B") (C : Arv Z h0 la kc .char z (cl us) (.int 0)) : Wk.Met l Z (⟨"java/lang/String", "<init>", "([CIILjava/lang/Void;)V"⟩ : MethodName) jdk_42_method_149_code 6 none [] { frames := 2, cells := 1, slots := 7, locals := 35 } #[(.ref a), (.ref la), (.int (0 : Int32)), (.int z), (.null)] h0 (Qs Z a us h0 n0) := by
  refine Wk.start pn2 ?_
  intro p e s m below meth c s₁ X0 hx hby hml hown0 hnm hret hlk hZ e0
  have hown : s.vm.findClass "java/lang/String" = some m.cls := hown0
  refine Wk.enter (g' := (mkF m 0 #[.val (.ref a), .val (.ref la), .val (.int (0 : Int32)), .val (.int z), .val (.null), .unset] [])) (by first | rfl | (simp [entryFrame, mkF, argsToLocals, Value.category, maxLocals]; done) | (simp [entryFrame, mkF, argsToLocals, hcat]; done) | (simp [entryFrame, mkF, argsToLocals, hcat]; rfl)) ?_
  refine Wk.aloadN X0 hx (hb hby d2_0) rfl rfl rfl ?_
  refine Wk.initO (W := 0) X0 hx hZ hown (hw _ (List.mem_of_getElem? (i := 17) rfl)) (hw _ (List.mem_of_getElem? (i := 18) rfl)) (hw _ (List.mem_of_getElem? (i := 19) rfl)) e0 (by rw [hml]; rfl) (by decide) (Nat.le_of_eq rfl) (by decide) (hb hby d2_1) rfl (fun T1 X1 e1 => ?_)
  refine Wk.iloadN X1 hx (hb hby d2_4) rfl rfl ?_
  refine Wk.if_ne X1 hx 27 8 (hb hby d2_5) rfl rfl (show (z : Int32).toInt = (z).toInt from rfl) (fun h21 => ?_) (fun h21 => absurd h21 (by omega))
  refine Wk.getS (host := "") X1 hx hZ hown (Or.inl (hw _ (List.mem_of_getElem? (i := 55) rfl))) e1 G.1 (hb hby d2_27) rfl (fun T22 X22 e22 => ?_)
  refine Wk.if_eq X22 hx 58 33 (hb hby d2_30) rfl rfl (show (cs : Int32).toInt = (cs).toInt from rfl) (fun h23 => absurd h23 (by omega)) (fun h23 => ?_)
  refine Wk.aloadN X22 hx (hb hby d2_33) rfl rfl rfl ?_
  refine Wk.iloadN X22 hx (hb hby d2_34) rfl rfl ?_
  refine Wk.iloadN X22 hx (hb hby d2_35) rfl rfl ?_
  refine Wk.callS (W := 0) X22 hx hZ (argsL := [(.ref la), (.int (0 : Int32)), (.int z)]) (rest := []) hown (hw _ (List.mem_of_getElem? (i := 69) rfl)) (hw _ (List.mem_of_getElem? (i := 70) rfl)) (hw _ (List.mem_of_getElem? (i := 71) rfl)) (hw _ (List.mem_of_getElem? (i := 72) rfl)) (by decide) (mc3 l Z a0 hw cs hcs fv hfv la kc us z hz hch hz0 hzn hcap hlat n0 h0 hn0 G C) e22 (by decide) (by decide) (by decide) (by decide) (by rw [hml]; rfl) (lenOf pd9 rfl) rfl (Nat.le_of_eq rfl) (hb hby d2_36) rfl (fun T24 v24 L24 X24 hq24 => ?_)
  obtain ⟨t, kb, rfl, ht, Nc, Ec, hc⟩ := hq24
  have hta : t ≠ a := Nat.ne_of_gt (Nat.lt_of_lt_of_le E.lt ht)
  show Wk.Go p e below _ _ _ _ T24 (mkF m 39 #[.val (.ref a), .val (.ref la), .val (.int (0 : Int32)), .val (.int z), .val (.null), .unset] [(.ref t)])
  obtain ⟨hle, B0⟩ := hc
  · skip
    refine Wk.astore (l' := #[.val (.ref a), .val (.ref la), .val (.int (0 : Int32)), .val (.int z), .val (.null), .val (.ref t)]) X24 hx (hb hby d2_39) rfl rfl rfl ?_
    refine Wk.aloadN X24 hx (hb hby d2_41) rfl rfl rfl ?_
    refine Wk.aload X24 hx (hb hby d2_42) rfl rfl rfl ?_
    refine Wk.iloadN X24 hx (hb hby d2_44) rfl rfl ?_
    refine Wk.callP (W := 1) X24 hx hZ (argsL := [(.ref t), (.int z)]) (rest := [(.ref a)]) hown (hw _ (List.mem_of_getElem? (i := 76) rfl)) (hw _ (List.mem_of_getElem? (i := 77) rfl)) (hw _ (List.mem_of_getElem? (i := 71) rfl)) (hw _ (List.mem_of_getElem? (i := 78) rfl)) (by decide) (mcfa0 l Z a0 hw t kb us z hz T24.heap B0) rfl (by decide) (by decide) (by decide) (by decide) (by rw [hml]; rfl) (lenOf pd11 rfl) rfl (Nat.le_of_eq rfl) (hb hby d2_45) rfl (fun T25 X25 e25 => ?_)
    obtain ⟨old11, Fo11⟩ := (Fc.ext Ec)
    refine Wk.putF (host := "") (ty := .byte) X25 hx hZ hown (Or.inl (hw _ (List.mem_of_getElem? (i := 22) rfl))) e25 Fo11 (E.ext Ec) (Or.inr ⟨(hw _ (List.mem_of_getElem? (i := 5) rfl)), rfl, hnm⟩) (hw _ (List.mem_of_getElem? (i := 2) rfl)) (by decide) rfl rfl (hb hby d2_48) rfl (fun T11 h11 X11 e11 W11 => ?_)
    have Fc11 := Fo11.same W11
    have B11 := B0.other W11 hta
    have N11 := Fr.snoc X11 (Fr.app (Fr.nil n0) Nc) hna
    refine Wk.aloadN X11 hx (hb hby d2_51) rfl rfl rfl ?_
    refine Wk.aload X11 hx (hb hby d2_52) rfl rfl rfl ?_
    obtain ⟨old12, Fo12⟩ := ((Fv.ext Ec).wr W11)
    refine Wk.putF (host := "") (ty := (.array .byte)) X11 hx hZ hown (Or.inl (hw _ (List.mem_of_getElem? (i := 21) rfl))) e11 Fo12 ((E.ext Ec).wr W11) (Or.inr ⟨(hw _ (List.mem_of_getElem? (i := 4) rfl)), rfl, hnm⟩) (hw _ (List.mem_of_getElem? (i := 2) rfl)) (by decide) rfl rfl (hb hby d2_54) rfl (fun T12 h12 X12 e12 W12 => ?_)
    have Fv12 := Fo12.same W12
    have Fc12 := Fc11.other W12 (Or.inr (slot_ne (t := .byte) (t' := .array .byte) (Or.inr (hw _ (List.mem_of_getElem? (i := 5) rfl))) (Or.inr (hw _ (List.mem_of_getElem? (i := 4) rfl))) (by decide) (by decide) (by decide)))
    have B12 := B11.other W12 hta
    have N12 := Fr.snoc X12 N11 hna
    exact Wk.retV X12 hx hlk hret (hb hby d2_57) (by decide) (by decide) (by rw [e12]; exact ⟨rfl, N12, ((((Keep.refl h0 [a]).ext Ec).wr W11 (Or.inl (List.mem_singleton.mpr rfl))).wr W12 (Or.inl (List.mem_singleton.mpr rfl))), hch, (((E.ext Ec).wr W11).wr W12), t, kb, z, Fv12, Fc12, hz, hle, B12⟩)
set_option maxRecDepth 65536 in
set_option maxHeartbeats 40000000 in
theorem mi3 (l : Launch) (Z : State) (a0 : Array Value) (hw : ∀ d ∈ tables_1, d.before a0 Z = true) (cs : Int32) (hcs : ¬ cs.toInt = 0) (fv : Value) (hfv : fv.isRef = true) (a la : Addr) (kc : ClassId) (us : List Int32) (z : Int32) (hz : z.toInt = (us.length : Int)) (hch : Ch us) (hz0 : ¬ z < 0) (hzn : z.toNatClampNeg = us.length) (hcap : us.length ≤ 7) (hlat : ∀ u ∈ us, u.toInt ≤ 255) (hne : 0 < us.length) (n0 : Nat) (hna : n0 ≤ a) (h0 : Heap) (hn0 : n0 ≤ h0.size) (G : Sg Z h0 cs fv) (E : Exa Z h0 a "java/lang/String") (Fv : Wk.FldE Z h0 a "java/lang/String" "value" "[B") (Fc : Wk.FldE Z h0 a "java/lang/String" "coder" "B") (C : Arv Z h0 la kc .char z (cl us) (.int 0)) : Wk.Met l Z (⟨"java/lang/String", "<init>", "([C)V"⟩ : MethodName) jdk_42_method_3_code 2 none [] { frames := 3, cells := 1, slots := 7, locals := 52 } #[(.ref a), (.ref la)] h0 (Qs Z a us h0 n0) := by
  refine Wk.start pn1 ?_
  intro p e s m below meth c s₁ X0 hx hby hml hown0 hnm hret hlk hZ e0
  have hown : s.vm.findClass "java/lang/String" = some m.cls := hown0
  refine Wk.enter (g' := (mkF m 0 #[.val (.ref a), .val (.ref la)] [])) (by first | rfl | (simp [entryFrame, mkF, argsToLocals, Value.category, maxLocals]; done) | (simp [entryFrame, mkF, argsToLocals, hcat]; done) | (simp [entryFrame, mkF, argsToLocals, hcat]; rfl)) ?_
  refine Wk.aloadN X0 hx (hb hby d1_0) rfl rfl rfl ?_
  refine Wk.aloadN X0 hx (hb hby d1_1) rfl rfl rfl ?_
  refine Wk.iconst X0 hx (0 : Int32) (hb hby d1_2) rfl rfl ?_
  refine Wk.aloadN X0 hx (hb hby d1_3) rfl rfl rfl ?_
  refine Wk.alen X0 hx hZ e0 C (hb hby d1_4) rfl ?_
  refine Wk.anull X0 hx (hb hby d1_5) rfl ?_
  refine Wk.callI (W := 0) X0 hx hZ (argsL := [(.ref la), (.int (0 : Int32)), (.int z), (.null)]) (rest := []) rfl hown (hw _ (List.mem_of_getElem? (i := 13) rfl)) (hw _ (List.mem_of_getElem? (i := 14) rfl)) (hw _ (List.mem_of_getElem? (i := 1) rfl)) (hw _ (List.mem_of_getElem? (i := 16) rfl)) (by decide) (mi149 l Z a0 hw cs hcs fv hfv a la kc us z hz hch hz0 hzn hcap hlat hne n0 hna h0 hn0 G E Fv Fc C) e0 (by decide) (by decide) (by decide) (by decide) (by rw [hml]; rfl) (lenOf pd2 rfl) rfl (Nat.le_of_eq rfl) (hb hby d1_6) rfl (fun T1 v1 L1 X1 hq1 => ?_)
  obtain ⟨rfl, N1, K1, S1⟩ := hq1
  show Wk.Go p e below _ _ _ _ T1 (mkF m 9 #[.val (.ref a), .val (.ref la)] [])
  exact Wk.retV X1 hx hlk hret (hb hby d1_9) (by decide) (by decide) ⟨rfl, Fr.app (Fr.nil n0) N1, K1, S1⟩
set_option maxRecDepth 65536 in
set_option maxHeartbeats 40000000 in
theorem mi149e (l : Launch) (Z : State) (a0 : Array Value) (hw : ∀ d ∈ tables_1, d.before a0 Z = true) (a la : Addr) (n0 : Nat) (hna : n0 ≤ a) (Ts : List String) (hnot : "" ∉ Ts) (hh : Jvm.Lit.constHeld Z "java/lang/String" 7) (hcw : Jvm.Lit.compactW.before a0 Z = true) (h0 : Heap) (hO : Wk.Old Z h0) (E : Exa Z h0 a "java/lang/String") (Fv : Fld Z h0 a "java/lang/String" "value" "[B" .null) (Fc : Wk.FldE Z h0 a "java/lang/String" "coder" "B") : Wk.MetV l Z (⟨"java/lang/String", "<init>", "([CIILjava/lang/Void;)V"⟩ : MethodName) jdk_42_method_149_code 6 none [] { frames := 1, cells := 2, slots := 4, locals := 12 } #[(.ref a), (.ref la), (.int (0 : Int32)), (.int (0 : Int32)), (.null)] h0 (Qs Z a [] h0 n0) (fun vm => Jvm.RoadKit.IB Z vm Ts) (fun vm => Jvm.RoadKit.IB Z vm ("" :: Ts)) := by
  refine Wk.startV pn2 ?_
  intro p e s vm0 m below meth c s₁ X0 hx hby hml hown0 hnm hret hlk hZ hS e0 eS hPv
  have hown : (s.setVm vm0).vm.findClass "java/lang/String" = some m.cls := hown0
  refine Wk.enter (g' := (mkF m 0 #[.val (.ref a), .val (.ref la), .val (.int (0 : Int32)), .val (.int (0 : Int32)), .val (.null), .unset] [])) (by first | rfl | (simp [entryFrame, mkF, argsToLocals, Value.category, maxLocals]; done) | (simp [entryFrame, mkF, argsToLocals, hcat]; done) | (simp [entryFrame, mkF, argsToLocals, hcat]; rfl)) ?_
  refine Wk.aloadN X0 hx (hb hby d2_0) rfl rfl rfl ?_
  refine Wk.initO (W := 0) X0 hx hZ hown (hw _ (List.mem_of_getElem? (i := 17) rfl)) (hw _ (List.mem_of_getElem? (i := 18) rfl)) (hw _ (List.mem_of_getElem? (i := 19) rfl)) e0 (by rw [hml]; rfl) (by decide) (Nat.le_of_eq rfl) (by decide) (hb hby d2_1) rfl (fun T1 X1 e1 => ?_)
  refine Wk.iloadN X1 hx (hb hby d2_4) rfl rfl ?_
  refine Wk.if_ne X1 hx 27 8 (hb hby d2_5) rfl rfl (show ((0 : Int32) : Int32).toInt = 0 from (by decide)) (fun h21 => absurd h21 (by omega)) (fun h21 => ?_)
  refine Wk.aloadN X1 hx (hb hby d2_8) rfl rfl rfl ?_
  have O0 : Wk.Old Z s.heap := by rw [← eS, e0]; exact hO
  refine Wk.ldcV X1 hx hZ hS hown (hw _ (List.mem_of_getElem? (i := 20) rfl)) (hStr hw) e1 (Nat.zero_le _) (Fr.nil _) O0 hPv hnot hh hcw (vs := []) (z := 0) (by first | exact ⟨by decide, rfl⟩ | exact ⟨by simp, by simp⟩) (by decide) rfl 0 (by decide) (by decide) (by decide) (by decide) (hb hby d2_9) rfl (fun x T2 h2 vm2 k2 b2 kb2 X2 e2 Ex2 hS hk2 hZ hown E' Fcx Fvx Ax hI hLit _ _ => ?_)
  have hxa : x ≠ a := Fld.ne Fvx (Fv.ext Ex2) (by simp)
  have hba : b2 ≠ a := (Exa.neArv (E.ext Ex2) Ax (hw _ (List.mem_of_getElem? (i := 2) rfl))).symm
  refine Wk.getF (host := "") X2 hx hZ hown (Or.inl (hw _ (List.mem_of_getElem? (i := 21) rfl))) e2 Fvx (hb hby d2_11) rfl (fun T22 X22 e22 => ?_)
  refine Wk.putF (host := "") (ty := (.array .byte)) X22 hx hZ hown (Or.inl (hw _ (List.mem_of_getElem? (i := 21) rfl))) e22 (Fv.ext Ex2) (E.ext Ex2) (Or.inr ⟨(hw _ (List.mem_of_getElem? (i := 4) rfl)), rfl, hnm⟩) (hw _ (List.mem_of_getElem? (i := 2) rfl)) (by decide) rfl rfl (hb hby d2_14) rfl (fun T3 h3 X3 e3 W3 => ?_)
  have Fv3 := (Fv.ext Ex2).same W3
  have E3 := (E.ext Ex2).wr W3
  have Fcx3 := Fcx.other W3 (Or.inl hxa)
  have Ax3 := Ax.other W3 hba
  obtain ⟨oc, Foc⟩ := (Fc.ext Ex2).wr W3
  have N3 := Fr.snoc X3 (Fr.nil n0) hna
  refine Wk.aloadN X3 hx (hb hby d2_17) rfl rfl rfl ?_
  refine Wk.ldcA X3 hx hZ hown (hw _ (List.mem_of_getElem? (i := 20) rfl)) hLit (hb hby d2_18) rfl ?_
  refine Wk.getF (host := "") X3 hx hZ hown (Or.inl (hw _ (List.mem_of_getElem? (i := 22) rfl))) e3 Fcx3 (hb hby d2_20) rfl (fun T23 X23 e23 => ?_)
  refine Wk.putF (host := "") (ty := .byte) X23 hx hZ hown (Or.inl (hw _ (List.mem_of_getElem? (i := 22) rfl))) e23 Foc E3 (Or.inr ⟨(hw _ (List.mem_of_getElem? (i := 5) rfl)), rfl, hnm⟩) (hw _ (List.mem_of_getElem? (i := 2) rfl)) (by decide) rfl rfl (hb hby d2_23) rfl (fun T4 h4 X4 e4 W4 => ?_)
  have Fc4 := Foc.same W4
  have E4 := E3.wr W4
  have Fv4 := Fv3.other W4 (Or.inr (slot_ne (t := .array .byte) (t' := .byte) (Or.inr (hw _ (List.mem_of_getElem? (i := 4) rfl))) (Or.inr (hw _ (List.mem_of_getElem? (i := 5) rfl))) (by decide) (by decide) (by decide)))
  have Ax4 := Ax3.other W4 hba
  have N4 := Fr.snoc X4 N3 hna
  exact Wk.retVV X4 hx hS (by rw [e4]; exact Nat.le_trans hk2 (Nat.le_trans (Keep.of_wr W3).1 (Keep.of_wr W4).1)) (Wk.IBt hI X4) hlk hret (hb hby d2_26) (by decide) (by decide) (by rw [e4]; exact ⟨rfl, N4, (((Keep.refl h0 [a]).ext Ex2).wr W3 (Or.inl (List.mem_singleton.mpr rfl))).wr W4 (Or.inl (List.mem_singleton.mpr rfl)), (fun _ q => nomatch q), E4, b2, kb2, 0, Fv4, Fc4, rfl, (fun _ q => nomatch q), Ax4⟩)
set_option maxRecDepth 65536 in
set_option maxHeartbeats 40000000 in
theorem mi3e (l : Launch) (Z : State) (a0 : Array Value) (hw : ∀ d ∈ tables_1, d.before a0 Z = true) (a la : Addr) (kc : ClassId) (n0 : Nat) (hna : n0 ≤ a) (Ts : List String) (hnot : "" ∉ Ts) (hh : Jvm.Lit.constHeld Z "java/lang/String" 7) (hcw : Jvm.Lit.compactW.before a0 Z = true) (h0 : Heap) (hO : Wk.Old Z h0) (E : Exa Z h0 a "java/lang/String") (Fv : Fld Z h0 a "java/lang/String" "value" "[B" .null) (Fc : Wk.FldE Z h0 a "java/lang/String" "coder" "B") (C : Arv Z h0 la kc .char (0 : Int32) [] (.int 0)) : Wk.MetV l Z (⟨"java/lang/String", "<init>", "([C)V"⟩ : MethodName) jdk_42_method_3_code 2 none [] { frames := 2, cells := 2, slots := 4, locals := 29 } #[(.ref a), (.ref la)] h0 (Qs Z a [] h0 n0) (fun vm => Jvm.RoadKit.IB Z vm Ts) (fun vm => Jvm.RoadKit.IB Z vm ("" :: Ts)) := by
  refine Wk.startV pn1 ?_
  intro p e s vm0 m below meth c s₁ X0 hx hby hml hown0 hnm hret hlk hZ hS e0 eS hPv
  have hown : (s.setVm vm0).vm.findClass "java/lang/String" = some m.cls := hown0
  refine Wk.enter (g' := (mkF m 0 #[.val (.ref a), .val (.ref la)] [])) (by first | rfl | (simp [entryFrame, mkF, argsToLocals, Value.category, maxLocals]; done) | (simp [entryFrame, mkF, argsToLocals, hcat]; done) | (simp [entryFrame, mkF, argsToLocals, hcat]; rfl)) ?_
  refine Wk.aloadN X0 hx (hb hby d1_0) rfl rfl rfl ?_
  refine Wk.aloadN X0 hx (hb hby d1_1) rfl rfl rfl ?_
  refine Wk.iconst X0 hx (0 : Int32) (hb hby d1_2) rfl rfl ?_
  refine Wk.aloadN X0 hx (hb hby d1_3) rfl rfl rfl ?_
  refine Wk.alen X0 hx hZ e0 C (hb hby d1_4) rfl ?_
  refine Wk.anull X0 hx (hb hby d1_5) rfl ?_
  refine Wk.callIV (W := 0) X0 hx hZ hS (argsL := [(.ref la), (.int (0 : Int32)), (.int (0 : Int32)), (.null)]) (rest := []) rfl hown (hw _ (List.mem_of_getElem? (i := 13) rfl)) (hw _ (List.mem_of_getElem? (i := 14) rfl)) (hw _ (List.mem_of_getElem? (i := 1) rfl)) (hw _ (List.mem_of_getElem? (i := 16) rfl)) (by decide) (mi149e l Z a0 hw a la n0 hna Ts hnot hh hcw h0 hO E Fv Fc) e0 (Nat.zero_le _) (fun _ q => Wk.IBw hPv q) (by decide) (by decide) (by decide) (by decide) (by rw [hml]; rfl) (lenOf pd2 rfl) rfl (Nat.le_of_eq rfl) (hb hby d1_6) rfl (fun T1 vm1 k1 v1 L1 X1 hS hk0 hZ hown hq1 hV1 hWm1 => ?_)
  obtain ⟨rfl, N1, K1, S1⟩ := hq1
  show Wk.Go p e below _ _ _ _ T1 (mkF m 9 #[.val (.ref a), .val (.ref la)] [])
  exact Wk.retVV X1 hx hS hk0 (Wk.IBt hV1 X1) hlk hret (hb hby d1_9) (by decide) (by decide) ⟨rfl, Fr.app (Fr.nil n0) N1, K1, S1⟩
set_option maxRecDepth 65536 in
set_option maxHeartbeats 40000000 in
theorem mcod0 (l : Launch) (Z : State) (a0 : Array Value) (hw : ∀ d ∈ tables_1, d.before a0 Z = true) (cs : Int32) (hcs : ¬ cs.toInt = 0) (fv : Value) (hfv : fv.isRef = true) (a : Addr) (h0 : Heap) (G : Sg Z h0 cs fv) (Fc : Fld Z h0 a "java/lang/String" "coder" "B" (.int 0)) : Wk.Met l Z (⟨"java/lang/String", "coder", "()B"⟩ : MethodName) jdk_42_method_152_code 1 (some .byte) [] { frames := 0, cells := 0, slots := 0, locals := 0 } #[(.ref a)] h0 (Wk.Pu (.int 0) h0) := by
  refine Wk.start pn13 ?_
  intro p e s m below meth c s₁ X0 hx hby hml hown0 hnm hret hlk hZ e0
  have hown : s.vm.findClass "java/lang/String" = some m.cls := hown0
  refine Wk.enter (g' := (mkF m 0 #[.val (.ref a)] [])) (by first | rfl | (simp [entryFrame, mkF, argsToLocals, Value.category, maxLocals]; done) | (simp [entryFrame, mkF, argsToLocals, hcat]; done) | (simp [entryFrame, mkF, argsToLocals, hcat]; rfl)) ?_
  refine Wk.getS (host := "") X0 hx hZ hown (Or.inl (hw _ (List.mem_of_getElem? (i := 55) rfl))) e0 G.1 (hb hby d13_0) rfl (fun T1 X1 e1 => ?_)
  refine Wk.if_eq X1 hx 13 6 (hb hby d13_3) rfl rfl (show (cs : Int32).toInt = (cs).toInt from rfl) (fun h2 => absurd h2 (by omega)) (fun h2 => ?_)
  refine Wk.aloadN X1 hx (hb hby d13_6) rfl rfl rfl ?_
  refine Wk.getF (host := "") X1 hx hZ hown (Or.inl (hw _ (List.mem_of_getElem? (i := 22) rfl))) e1 Fc (hb hby d13_7) rfl (fun T3 X3 e3 => ?_)
  refine Wk.goto X3 hx 14 (hb hby d13_10) rfl ?_
  exact Wk.retB X3 hx hlk hret (hb hby d13_14) rfl (Nat.zero_le _) (Nat.zero_le _) (Wk.pu e3)
set_option maxRecDepth 65536 in
set_option maxHeartbeats 40000000 in
theorem mil0 (l : Launch) (Z : State) (a0 : Array Value) (hw : ∀ d ∈ tables_1, d.before a0 Z = true) (cs : Int32) (hcs : ¬ cs.toInt = 0) (fv : Value) (hfv : fv.isRef = true) (a : Addr) (h0 : Heap) (G : Sg Z h0 cs fv) (Fc : Fld Z h0 a "java/lang/String" "coder" "B" (.int 0)) : Wk.Met l Z (⟨"java/lang/String", "isLatin1", "()Z"⟩ : MethodName) jdk_42_method_154_code 1 (some .boolean) [] { frames := 0, cells := 0, slots := 0, locals := 0 } #[(.ref a)] h0 (Wk.Pu (.int 1) h0) := by
  refine Wk.start pn15 ?_
  intro p e s m below meth c s₁ X0 hx hby hml hown0 hnm hret hlk hZ e0
  have hown : s.vm.findClass "java/lang/String" = some m.cls := hown0
  refine Wk.enter (g' := (mkF m 0 #[.val (.ref a)] [])) (by first | rfl | (simp [entryFrame, mkF, argsToLocals, Value.category, maxLocals]; done) | (simp [entryFrame, mkF, argsToLocals, hcat]; done) | (simp [entryFrame, mkF, argsToLocals, hcat]; rfl)) ?_
  refine Wk.getS (host := "") X0 hx hZ hown (Or.inl (hw _ (List.mem_of_getElem? (i := 55) rfl))) e0 G.1 (hb hby d15_0) rfl (fun T1 X1 e1 => ?_)
  refine Wk.if_eq X1 hx 17 6 (hb hby d15_3) rfl rfl (show (cs : Int32).toInt = (cs).toInt from rfl) (fun h2 => absurd h2 (by omega)) (fun h2 => ?_)
  refine Wk.aloadN X1 hx (hb hby d15_6) rfl rfl rfl ?_
  refine Wk.getF (host := "") X1 hx hZ hown (Or.inl (hw _ (List.mem_of_getElem? (i := 22) rfl))) e1 Fc (hb hby d15_7) rfl (fun T3 X3 e3 => ?_)
  refine Wk.if_ne X3 hx 17 13 (hb hby d15_10) rfl rfl (show ((0 : Int32) : Int32).toInt = 0 from (by decide)) (fun h4 => absurd h4 (by omega)) (fun h4 => ?_)
  refine Wk.iconst X3 hx (1 : Int32) (hb hby d15_13) rfl rfl ?_
  refine Wk.goto X3 hx 18 (hb hby d15_14) rfl ?_
  exact Wk.retZ X3 hx hlk hret (hb hby d15_18) (by decide) (Nat.zero_le _) (Nat.zero_le _) (Wk.pu e3)
set_option maxRecDepth 65536 in
set_option maxHeartbeats 40000000 in
theorem mlen0 (l : Launch) (Z : State) (a0 : Array Value) (hw : ∀ d ∈ tables_1, d.before a0 Z = true) (cs : Int32) (hcs : ¬ cs.toInt = 0) (fv : Value) (hfv : fv.isRef = true) (a v : Addr) (kb : ClassId) (z : Int32) (us : List Int32) (hz : z.toInt = (us.length : Int)) (n : Int32) (hn : n.toInt = (us.length : Int)) (h0 : Heap) (G : Sg Z h0 cs fv) (E : Exa Z h0 a "java/lang/String") (Fv : Fld Z h0 a "java/lang/String" "value" "[B" (.ref v)) (Fc : Fld Z h0 a "java/lang/String" "coder" "B" (.int 0)) (A : Arv Z h0 v kb .byte z (bl us) (.int 0)) : Wk.Met l Z (⟨"java/lang/String", "length", "()I"⟩ : MethodName) jdk_42_method_54_code 1 (some .int) [] { frames := 1, cells := 0, slots := 0, locals := 13 } #[(.ref a)] h0 (Wk.Pu (.int n) h0) := by
  refine Wk.start pn12 ?_
  intro p e s m below meth c s₁ X0 hx hby hml hown0 hnm hret hlk hZ e0
  have hown : s.vm.findClass "java/lang/String" = some m.cls := hown0
  refine Wk.enter (g' := (mkF m 0 #[.val (.ref a)] [])) (by first | rfl | (simp [entryFrame, mkF, argsToLocals, Value.category, maxLocals]; done) | (simp [entryFrame, mkF, argsToLocals, hcat]; done) | (simp [entryFrame, mkF, argsToLocals, hcat]; rfl)) ?_
  refine Wk.aloadN X0 hx (hb hby d12_0) rfl rfl rfl ?_
  refine Wk.getF (host := "") X0 hx hZ hown (Or.inl (hw _ (List.mem_of_getElem? (i := 21) rfl))) e0 Fv (hb hby d12_1) rfl (fun T1 X1 e1 => ?_)
  refine Wk.alen X1 hx hZ e1 A (hb hby d12_4) rfl ?_
  refine Wk.aloadN X1 hx (hb hby d12_5) rfl rfl rfl ?_
  refine Wk.callVP (W := 1) X1 hx hZ (argsL := []) (rest := [(.int z)]) hown (hw _ (List.mem_of_getElem? (i := 84) rfl)) (hw _ (List.mem_of_getElem? (i := 85) rfl)) (hw _ (List.mem_of_getElem? (i := 87) rfl)) (hw _ (List.mem_of_getElem? (i := 86) rfl)) (hw _ (List.mem_of_getElem? (i := 1) rfl)) (hw _ (List.mem_of_getElem? (i := 88) rfl)) (notFace_of_selects (args := #[]) (mvT hZ (hw _ (List.mem_of_getElem? (i := 87) rfl)))) (by decide) (mcod0 l Z a0 hw cs hcs fv hfv a h0 G Fc) e1 E (by decide) (by decide) (by decide) (by decide) (by rw [hml]; rfl) (lenOf pd13 rfl) rfl (Nat.le_of_eq rfl) (hb hby d12_6) rfl (fun T2 X2 e2 => ?_)
  refine Wk.ishr X2 hx (hb hby d12_9) rfl ?_
  rw [show z >>> ((0 : Int32) &&& 31) = n from Int32.toInt_inj.mp (by rw [c_ishr z (0 : Int32) 0 (by decide)]; omega)]
  exact Wk.retI X2 hx hlk hret (hb hby d12_10) (Nat.zero_le _) (Nat.zero_le _) (Wk.pu e2)
theorem mlen (l : Launch) (Z : State) (a0 : Array Value) (hw : ∀ d ∈ tables_1, d.before a0 Z = true) (cs : Int32) (hcs : ¬ cs.toInt = 0) (fv : Value) (hfv : fv.isRef = true) (a : Addr) (us : List Int32) (n : Int32) (hn : n.toInt = (us.length : Int)) (h0 : Heap) (S : Sv Z h0 a us) (G : Sg Z h0 cs fv) : Wk.Met l Z (⟨"java/lang/String", "length", "()I"⟩ : MethodName) jdk_42_method_54_code 1 (some .int) [] { frames := 1, cells := 0, slots := 0, locals := 13 } #[(.ref a)] h0 (Wk.Pu (.int n) h0) := by
  obtain ⟨hch, E, v, kb, z, Fv, Fc, hz, hle, A⟩ := S
  exact mlen0 l Z a0 hw cs hcs fv hfv a v kb z us hz n hn h0 G E Fv Fc A
set_option maxRecDepth 65536 in
set_option maxHeartbeats 40000000 in
theorem mpci (l : Launch) (Z : State) (a0 : Array Value) (hw : ∀ d ∈ tables_1, d.before a0 Z = true) (i n : Int32) (fv : Value) (hfv : fv.isRef = true) (h1 : 0 ≤ i.toInt) (h2 : i.toInt < n.toInt) (h0 : Heap)  : Wk.Met l Z (⟨"jdk/internal/util/Preconditions", "checkIndex", "(IILjava/util/function/BiFunction;)I"⟩ : MethodName) jdk_41_method_11_code 3 (some .int) [] { frames := 0, cells := 0, slots := 0, locals := 0 } #[(.int i), (.int n), (fv)] h0 (Wk.Pu (.int i) h0) := by
  refine Wk.start pn18 ?_
  intro p e s m below meth c s₁ X0 hx hby hml hown0 hnm hret hlk hZ e0
  have hown : s.vm.findClass "jdk/internal/util/Preconditions" = some m.cls := hown0
  have hcat : fv.category = 1 := by rcases ref_cases hfv with rfl | ⟨_, rfl⟩ <;> rfl
  refine Wk.enter (g' := (mkF m 0 #[.val (.int i), .val (.int n), .val (fv)] [])) (by first | rfl | (simp [entryFrame, mkF, argsToLocals, Value.category, maxLocals]; done) | (simp [entryFrame, mkF, argsToLocals, hcat]; done) | (simp [entryFrame, mkF, argsToLocals, hcat]; rfl)) ?_
  refine Wk.iloadN X0 hx (hb hby d18_0) rfl rfl ?_
  refine Wk.if_lt X0 hx 9 4 (hb hby d18_1) rfl rfl (show (i : Int32).toInt = (i).toInt from rfl) (fun h1 => absurd h1 (by omega)) (fun h1 => ?_)
  refine Wk.iloadN X0 hx (hb hby d18_4) rfl rfl ?_
  refine Wk.iloadN X0 hx (hb hby d18_5) rfl rfl ?_
  refine Wk.icmp_lt X0 hx 16 9 (hb hby d18_6) rfl rfl (show (i : Int32).toInt = (i).toInt from rfl) (show (n : Int32).toInt = (n).toInt from rfl) (fun h2 => ?_) (fun h2 => absurd h2 (by omega))
  refine Wk.iloadN X0 hx (hb hby d18_16) rfl rfl ?_
  exact Wk.retI X0 hx hlk hret (hb hby d18_17) (Nat.zero_le _) (Nat.zero_le _) (Wk.pu e0)
def Pv (h0 : Heap) (v : Option Value) (h : Heap) (L : List Loc) : Prop := v = none ∧ L = [] ∧ h = h0
set_option maxRecDepth 65536 in
set_option maxHeartbeats 40000000 in
theorem msci (l : Launch) (Z : State) (a0 : Array Value) (hw : ∀ d ∈ tables_1, d.before a0 Z = true) (cs : Int32) (hcs : ¬ cs.toInt = 0) (fv : Value) (hfv : fv.isRef = true) (i n : Int32) (h1 : 0 ≤ i.toInt) (h2 : i.toInt < n.toInt) (h0 : Heap) (G : Sg Z h0 cs fv) : Wk.Met l Z (⟨"java/lang/String", "checkIndex", "(II)V"⟩ : MethodName) jdk_42_method_155_code 2 none [] { frames := 1, cells := 0, slots := 0, locals := 14 } #[(.int i), (.int n)] h0 (Pv h0) := by
  refine Wk.start pn17 ?_
  intro p e s m below meth c s₁ X0 hx hby hml hown0 hnm hret hlk hZ e0
  have hown : s.vm.findClass "java/lang/String" = some m.cls := hown0
  refine Wk.enter (g' := (mkF m 0 #[.val (.int i), .val (.int n)] [])) (by first | rfl | (simp [entryFrame, mkF, argsToLocals, Value.category, maxLocals]; done) | (simp [entryFrame, mkF, argsToLocals, hcat]; done) | (simp [entryFrame, mkF, argsToLocals, hcat]; rfl)) ?_
  refine Wk.iloadN X0 hx (hb hby d17_0) rfl rfl ?_
  refine Wk.iloadN X0 hx (hb hby d17_1) rfl rfl ?_
  refine Wk.getS (host := "") X0 hx hZ hown (Or.inl (hw _ (List.mem_of_getElem? (i := 105) rfl))) e0 G.2 (hb hby d17_2) rfl (fun T1 X1 e1 => ?_)
  refine Wk.callP (W := 0) X1 hx hZ (argsL := [(.int i), (.int n), (fv)]) (rest := []) hown (hw _ (List.mem_of_getElem? (i := 107) rfl)) (hw _ (List.mem_of_getElem? (i := 108) rfl)) (hw _ (List.mem_of_getElem? (i := 106) rfl)) (hw _ (List.mem_of_getElem? (i := 109) rfl)) (by decide) (mpci l Z a0 hw i n fv hfv h1 h2 h0) e1 (by decide) (by decide) (by decide) (by decide) (by rw [hml]; rfl) (lenOf pd18 rfl) rfl (Nat.le_of_eq rfl) (hb hby d17_5) rfl (fun T2 X2 e2 => ?_)
  refine Wk.pop X2 hx (hb hby d17_8) rfl rfl ?_
  exact Wk.retV X2 hx hlk hret (hb hby d17_9) (Nat.zero_le _) (Nat.zero_le _) ⟨rfl, rfl, e2⟩
set_option maxRecDepth 65536 in
set_option maxHeartbeats 40000000 in
theorem mlc (l : Launch) (Z : State) (a0 : Array Value) (hw : ∀ d ∈ tables_1, d.before a0 Z = true) (cs : Int32) (hcs : ¬ cs.toInt = 0) (fv : Value) (hfv : fv.isRef = true) (v : Addr) (kb : ClassId) (z : Int32) (us pre rem : List Int32) (u : Int32) (hus : us = pre ++ u :: rem) (i : Int32) (hi : i.toInt = (pre.length : Int)) (hcu : 0 ≤ u.toInt ∧ u.toInt ≤ 65535) (hz : z.toInt = (us.length : Int)) (hle : ∀ u ∈ us, u.toInt ≤ 255) (h0 : Heap) (G : Sg Z h0 cs fv) (A : Arv Z h0 v kb .byte z (bl us) (.int 0)) : Wk.Met l Z (⟨"java/lang/StringLatin1", "charAt", "([BI)C"⟩ : MethodName) jdk_43_method_2_code 2 (some .char) [] { frames := 2, cells := 0, slots := 0, locals := 27 } #[(.ref v), (.int i)] h0 (Wk.Pu (.int u) h0) := by
  refine Wk.start pn16 ?_
  intro p e s m below meth c s₁ X0 hx hby hml hown0 hnm hret hlk hZ e0
  have hown : s.vm.findClass "java/lang/StringLatin1" = some m.cls := hown0
  have hl : us.length = pre.length + (rem.length + 1) := by rw [hus]; simp
  refine Wk.enter (g' := (mkF m 0 #[.val (.ref v), .val (.int i)] [])) (by first | rfl | (simp [entryFrame, mkF, argsToLocals, Value.category, maxLocals]; done) | (simp [entryFrame, mkF, argsToLocals, hcat]; done) | (simp [entryFrame, mkF, argsToLocals, hcat]; rfl)) ?_
  refine Wk.iloadN X0 hx (hb hby d16_0) rfl rfl ?_
  refine Wk.aloadN X0 hx (hb hby d16_1) rfl rfl rfl ?_
  refine Wk.alen X0 hx hZ e0 A (hb hby d16_2) rfl ?_
  refine Wk.callS (W := 0) X0 hx hZ (argsL := [(.int i), (.int z)]) (rest := []) hown (hw _ (List.mem_of_getElem? (i := 102) rfl)) (hw _ (List.mem_of_getElem? (i := 103) rfl)) (hw _ (List.mem_of_getElem? (i := 1) rfl)) (hw _ (List.mem_of_getElem? (i := 104) rfl)) (by decide) (msci l Z a0 hw cs hcs fv hfv i z (by omega) (by omega) h0 G) e0 (by decide) (by decide) (by decide) (by decide) (by rw [hml]; rfl) (lenOf pd17 rfl) rfl (Nat.le_of_eq rfl) (hb hby d16_3) rfl (fun T1 v1 L1 X1 hq1 => ?_)
  obtain ⟨rfl, rfl, hh1⟩ := hq1
  rw [List.append_nil] at X1
  show Wk.Go p e below _ _ _ _ T1 (mkF m 6 #[.val (.ref v), .val (.int i)] [])
  refine Wk.aloadN X1 hx (hb hby d16_6) rfl rfl rfl ?_
  refine Wk.iloadN X1 hx (hb hby d16_7) rfl rfl ?_
  refine Wk.baload X1 hx hZ hh1 A (by omega) (by omega) (bl_at hus hi) (hb hby d16_8) rfl ?_
  refine Wk.sipush X1 hx (255 : Int32) (hb hby d16_9) rfl rfl ?_
  refine Wk.iand X1 hx (hb hby d16_12) rfl ?_
  rw [bb_and u hcu.1 (hle u (by rw [hus]; simp))]
  refine Wk.i2c X1 hx (hb hby d16_13) rfl ?_
  rw [i2cE u hcu.1 hcu.2]
  exact Wk.retC X1 hx hlk hret (hb hby d16_14) (narC u hcu.1 hcu.2) (Nat.zero_le _) (Nat.zero_le _) (Wk.pu hh1)
set_option maxRecDepth 65536 in
set_option maxHeartbeats 40000000 in
theorem mch0 (l : Launch) (Z : State) (a0 : Array Value) (hw : ∀ d ∈ tables_1, d.before a0 Z = true) (cs : Int32) (hcs : ¬ cs.toInt = 0) (fv : Value) (hfv : fv.isRef = true) (a v : Addr) (kb : ClassId) (z : Int32) (us : List Int32) (hz : z.toInt = (us.length : Int)) (pre rem : List Int32) (u : Int32) (hus : us = pre ++ u :: rem) (i : Int32) (hi : i.toInt = (pre.length : Int)) (hcu : 0 ≤ u.toInt ∧ u.toInt ≤ 65535) (hle : ∀ u ∈ us, u.toInt ≤ 255) (h0 : Heap) (G : Sg Z h0 cs fv) (E : Exa Z h0 a "java/lang/String") (Fv : Fld Z h0 a "java/lang/String" "value" "[B" (.ref v)) (Fc : Fld Z h0 a "java/lang/String" "coder" "B" (.int 0)) (A : Arv Z h0 v kb .byte z (bl us) (.int 0)) : Wk.Met l Z (⟨"java/lang/String", "charAt", "(I)C"⟩ : MethodName) jdk_42_method_56_code 2 (some .char) [] { frames := 3, cells := 0, slots := 0, locals := 40 } #[(.ref a), (.int i)] h0 (Wk.Pu (.int u) h0) := by
  refine Wk.start pn14 ?_
  intro p e s m below meth c s₁ X0 hx hby hml hown0 hnm hret hlk hZ e0
  have hown : s.vm.findClass "java/lang/String" = some m.cls := hown0
  refine Wk.enter (g' := (mkF m 0 #[.val (.ref a), .val (.int i)] [])) (by first | rfl | (simp [entryFrame, mkF, argsToLocals, Value.category, maxLocals]; done) | (simp [entryFrame, mkF, argsToLocals, hcat]; done) | (simp [entryFrame, mkF, argsToLocals, hcat]; rfl)) ?_
  refine Wk.aloadN X0 hx (hb hby d14_0) rfl rfl rfl ?_
  refine Wk.callVP (W := 0) X0 hx hZ (argsL := []) (rest := []) hown (hw _ (List.mem_of_getElem? (i := 94) rfl)) (hw _ (List.mem_of_getElem? (i := 95) rfl)) (hw _ (List.mem_of_getElem? (i := 97) rfl)) (hw _ (List.mem_of_getElem? (i := 96) rfl)) (hw _ (List.mem_of_getElem? (i := 1) rfl)) (hw _ (List.mem_of_getElem? (i := 98) rfl)) (notFace_of_selects (args := #[]) (mvT hZ (hw _ (List.mem_of_getElem? (i := 97) rfl)))) (by decide) (mil0 l Z a0 hw cs hcs fv hfv a h0 G Fc) e0 E (by decide) (by decide) (by decide) (by decide) (by rw [hml]; rfl) (lenOf pd15 rfl) rfl (Nat.le_of_eq rfl) (hb hby d14_1) rfl (fun T1 X1 e1 => ?_)
  refine Wk.if_eq X1 hx 16 7 (hb hby d14_4) rfl rfl (show ((1 : Int32) : Int32).toInt = 1 from (by decide)) (fun h2 => absurd h2 (by omega)) (fun h2 => ?_)
  refine Wk.aloadN X1 hx (hb hby d14_7) rfl rfl rfl ?_
  refine Wk.getF (host := "") X1 hx hZ hown (Or.inl (hw _ (List.mem_of_getElem? (i := 21) rfl))) e1 Fv (hb hby d14_8) rfl (fun T3 X3 e3 => ?_)
  refine Wk.iloadN X3 hx (hb hby d14_11) rfl rfl ?_
  refine Wk.callP (W := 0) X3 hx hZ (argsL := [(.ref v), (.int i)]) (rest := []) hown (hw _ (List.mem_of_getElem? (i := 99) rfl)) (hw _ (List.mem_of_getElem? (i := 100) rfl)) (hw _ (List.mem_of_getElem? (i := 58) rfl)) (hw _ (List.mem_of_getElem? (i := 101) rfl)) (by decide) (mlc l Z a0 hw cs hcs fv hfv v kb z us pre rem u hus i hi hcu hz hle h0 G A) e3 (by decide) (by decide) (by decide) (by decide) (by rw [hml]; rfl) (lenOf pd16 rfl) rfl (Nat.le_of_eq rfl) (hb hby d14_12) rfl (fun T4 X4 e4 => ?_)
  exact Wk.retC X4 hx hlk hret (hb hby d14_15) (narC u hcu.1 hcu.2) (Nat.zero_le _) (Nat.zero_le _) (Wk.pu e4)
theorem mch (l : Launch) (Z : State) (a0 : Array Value) (hw : ∀ d ∈ tables_1, d.before a0 Z = true) (cs : Int32) (hcs : ¬ cs.toInt = 0) (fv : Value) (hfv : fv.isRef = true) (a : Addr) (us : List Int32) (pre rem : List Int32) (u : Int32) (hus : us = pre ++ u :: rem) (i : Int32) (hi : i.toInt = (pre.length : Int)) (hcu : 0 ≤ u.toInt ∧ u.toInt ≤ 65535) (n : Int32) (hn : n.toInt = (us.length : Int)) (h0 : Heap) (S : Sv Z h0 a us) (G : Sg Z h0 cs fv) : Wk.Met l Z (⟨"java/lang/String", "charAt", "(I)C"⟩ : MethodName) jdk_42_method_56_code 2 (some .char) [] { frames := 3, cells := 0, slots := 0, locals := 40 } #[(.ref a), (.int i)] h0 (Wk.Pu (.int u) h0) := by
  obtain ⟨hch, E, v, kb, z, Fv, Fc, hz, hle, A⟩ := S
  exact mch0 l Z a0 hw cs hcs fv hfv a v kb z us hz pre rem u hus i hi hcu hle h0 G E Fv Fc A
def tH : List Int32 := [104, 116, 116, 112]
theorem ch_tH : Ch tH := by show ∀ u ∈ ([104, 116, 116, 112] : List Int32), _; decide
theorem le_tH : ∀ u ∈ tH, u.toInt ≤ 255 := by show ∀ u ∈ ([104, 116, 116, 112] : List Int32), _; decide
theorem lit_tH : (∀ c ∈ "http".toList, c.toNat < 256) ∧ "http".toList.map (fun c => Value.int (Jvm.Lit.byteI c.toNat.toUInt16)) = bl tH := ⟨by decide, by first | rfl | decide | (simp [bl, tH]; decide)⟩
def tS : List Int32 := [104, 116, 116, 112, 115]
theorem ch_tS : Ch tS := by show ∀ u ∈ ([104, 116, 116, 112, 115] : List Int32), _; decide
theorem le_tS : ∀ u ∈ tS, u.toInt ≤ 255 := by show ∀ u ∈ ([104, 116, 116, 112, 115] : List Int32), _; decide
theorem lit_tS : (∀ c ∈ "https".toList, c.toNat < 256) ∧ "https".toList.map (fun c => Value.int (Jvm.Lit.byteI c.toNat.toUInt16)) = bl tS := ⟨by decide, by first | rfl | decide | (simp [bl, tS]; decide)⟩
def tM : List Int32 := [109, 97, 105, 108, 116, 111]
theorem ch_tM : Ch tM := by show ∀ u ∈ ([109, 97, 105, 108, 116, 111] : List Int32), _; decide
theorem le_tM : ∀ u ∈ tM, u.toInt ≤ 255 := by show ∀ u ∈ ([109, 97, 105, 108, 116, 111] : List Int32), _; decide
theorem lit_tM : (∀ c ∈ "mailto".toList, c.toNat < 256) ∧ "mailto".toList.map (fun c => Value.int (Jvm.Lit.byteI c.toNat.toUInt16)) = bl tM := ⟨by decide, by first | rfl | decide | (simp [bl, tM]; decide)⟩
def tF : List Int32 := [102, 116, 112]
theorem ch_tF : Ch tF := by show ∀ u ∈ ([102, 116, 112] : List Int32), _; decide
theorem le_tF : ∀ u ∈ tF, u.toInt ≤ 255 := by show ∀ u ∈ ([102, 116, 112] : List Int32), _; decide
theorem lit_tF : (∀ c ∈ "ftp".toList, c.toNat < 256) ∧ "ftp".toList.map (fun c => Value.int (Jvm.Lit.byteI c.toNat.toUInt16)) = bl tF := ⟨by decide, by first | rfl | decide | (simp [bl, tF]; decide)⟩
theorem bb_inj {u y : Int32} (hu : 0 ≤ u.toInt ∧ u.toInt ≤ 255) (hy : 0 ≤ y.toInt ∧ y.toInt ≤ 255) (h : (bb u).toInt = (bb y).toInt) : u = y := by
  rw [← bb_and u hu.1 hu.2, ← bb_and y hy.1 hy.2, Int32.toInt_inj.mp h]
theorem split_at (tl : List Int32) (k : Nat) (hk : k < tl.length) : ∃ pre u rem, tl = pre ++ u :: rem ∧ pre.length = k := ⟨tl.take k, tl[k], tl.drop (k + 1), by simp, by simp; omega⟩
theorem narCE (u : Int32) (h0 : 0 ≤ u.toInt) (h1 : u.toInt ≤ 65535) : nar .char u = u := i2cE u h0 h1
theorem c8 (x : Int32) (h1 : 0 ≤ x.toInt) (h2 : x.toInt ≤ 7) : x = 0 ∨ x = 1 ∨ x = 2 ∨ x = 3 ∨ x = 4 ∨ x = 5 ∨ x = 6 ∨ x = 7 := by
  have e : ∀ k : Int32, x.toInt = k.toInt → x = k := fun k q => Int32.toInt_inj.mp q
  rcases (show x.toInt = 0 ∨ x.toInt = 1 ∨ x.toInt = 2 ∨ x.toInt = 3 ∨ x.toInt = 4 ∨ x.toInt = 5 ∨ x.toInt = 6 ∨ x.toInt = 7 by omega) with h | h | h | h | h | h | h | h
  · exact (Or.inl (e 0 h))
  · exact (Or.inr (Or.inl (e 1 h)))
  · exact (Or.inr (Or.inr (Or.inl (e 2 h))))
  · exact (Or.inr (Or.inr (Or.inr (Or.inl (e 3 h)))))
  · exact (Or.inr (Or.inr (Or.inr (Or.inr (Or.inl (e 4 h))))))
  · exact (Or.inr (Or.inr (Or.inr (Or.inr (Or.inr (Or.inl (e 5 h)))))))
  · exact (Or.inr (Or.inr (Or.inr (Or.inr (Or.inr (Or.inr (Or.inl (e 6 h))))))))
  · exact (Or.inr (Or.inr (Or.inr (Or.inr (Or.inr (Or.inr (Or.inr (e 7 h))))))))
def Q8 (h0 : Heap) (v : Option Value) (h : Heap) (L : List Loc) : Prop := ∃ u : Int32, v = some (.int u) ∧ (0 ≤ u.toInt ∧ u.toInt ≤ 255) ∧ L = [] ∧ h = h0
theorem eq_II {args : Array Value} {first s : State} {o : Option Outcome} {idx : List Nat} {a b' : Term} {x y : Int32} (ha : a.eval args first o idx s = some (.int x)) (hb : b'.eval args first o idx s = some (.int y)) : (Jvm.Cond.eq a b').value args first o s idx = some (decide (x = y)) := by simp [Cond.value, ha, hb]
set_option maxRecDepth 65536 in
set_option maxHeartbeats 40000000 in
theorem mche (l : Launch) (Z : State) (a0 : Array Value) (hw : ∀ d ∈ tables_1, d.before a0 Z = true) (cs : Int32) (hcs : ¬ cs.toInt = 0) (fv : Value) (hfv : fv.isRef = true) (x : Int64) (i tm fp : Int32) (h0i : 0 ≤ i.toInt) (t : Addr) (tl : List Int32) (n : Int32) (hn : n.toInt = (tl.length : Int)) (h0 : Heap) (St : Sv Z h0 t tl) (G : Sg Z h0 cs fv) : Wk.Met l Z (⟨"com/example/kuri/kuri/normalize/SchemeRulesOfPinLaw", "ch", "(JILjava/lang/String;ZI)C"⟩ : MethodName) method_2_code 6 (some .char) [] { frames := 4, cells := 0, slots := 0, locals := 53 } #[(.long x), (.int i), (.ref t), (.int tm), (.int fp)] h0 (Q8 h0) := by
  refine Wk.start pn8 ?_
  intro p e s m below meth c s₁ X0 hx hby hml hown0 hnm hret hlk hZ e0
  have hown : s.vm.findClass "com/example/kuri/kuri/normalize/SchemeRulesOfPinLaw" = some m.cls := hown0
  refine Wk.enter (g' := (mkF m 0 #[.val (.long x), .second, .val (.int i), .val (.ref t), .val (.int tm), .val (.int fp)] [])) (by first | rfl | (simp [entryFrame, mkF, argsToLocals, Value.category, maxLocals]; done) | (simp [entryFrame, mkF, argsToLocals, hcat]; done) | (simp [entryFrame, mkF, argsToLocals, hcat]; rfl)) ?_
  refine Wk.iload X0 hx (hb hby d8_0) rfl rfl ?_
  refine Wk.if_eq X0 hx 25 5 (hb hby d8_2) rfl rfl (show (tm : Int32).toInt = (tm).toInt from rfl) (fun h1 => ?_) (fun h1 => ?_)
  · skip
    refine Wk.lloadN X0 hx (hb hby d8_25) rfl rfl ?_
    refine Wk.bipush X0 hx (8 : Int32) (hb hby d8_26) rfl rfl ?_
    refine Wk.iloadN X0 hx (hb hby d8_28) rfl rfl ?_
    refine Wk.imul X0 hx (hb hby d8_29) rfl ?_
    refine Wk.lushr X0 hx (hb hby d8_30) rfl ?_
    refine Wk.ldcJ X0 hx hZ hown (hw _ (List.mem_of_getElem? (i := 68) rfl)) (hb hby d8_31) rfl ?_
    refine Wk.land X0 hx (hb hby d8_34) rfl ?_
    have tm1 := c_maskL (XT.ushrL x ((8 : Int32) * i)) (255 : Int64) 8 (by decide) (by decide)
    generalize (XT.ushrL x ((8 : Int32) * i)) &&& (255 : Int64) = yy at tm1 ⊢
    refine Wk.l2i X0 hx (hb hby d8_35) rfl ?_
    have tm2 : yy.toInt32.toInt = yy.toInt := Wk.s_l2i rfl (by omega) (by omega)
    generalize yy.toInt32 = u at tm2 ⊢
    refine Wk.i2c X0 hx (hb hby d8_36) rfl ?_
    rw [i2cE u (by omega) (by omega)]
    exact Wk.retC X0 hx hlk hret (hb hby d8_37) (narC u (by omega) (by omega)) (Nat.zero_le _) (Nat.zero_le _) ⟨u, rfl, ⟨by omega, by omega⟩, rfl, e0⟩
  · skip
    refine Wk.iloadN X0 hx (hb hby d8_5) rfl rfl ?_
    refine Wk.aloadN X0 hx (hb hby d8_6) rfl rfl rfl ?_
    refine Wk.callVP (W := 1) X0 hx hZ (argsL := []) (rest := [(.int i)]) hown (hw _ (List.mem_of_getElem? (i := 79) rfl)) (hw _ (List.mem_of_getElem? (i := 80) rfl)) (hw _ (List.mem_of_getElem? (i := 82) rfl)) (hw _ (List.mem_of_getElem? (i := 81) rfl)) (hw _ (List.mem_of_getElem? (i := 1) rfl)) (hw _ (List.mem_of_getElem? (i := 83) rfl)) (notFace_of_selects (args := #[]) (mvT hZ (hw _ (List.mem_of_getElem? (i := 82) rfl)))) (by decide) (mlen l Z a0 hw cs hcs fv hfv t tl n hn h0 St G) e0 St.2.1 (by decide) (by decide) (by decide) (by decide) (by rw [hml]; rfl) (lenOf pd12 rfl) rfl (Nat.le_of_eq rfl) (hb hby d8_7) rfl (fun T2 X2 e2 => ?_)
    refine Wk.icmp_ge X2 hx 25 13 (hb hby d8_10) rfl rfl (show (i : Int32).toInt = (i).toInt from rfl) (show (n : Int32).toInt = (n).toInt from rfl) (fun h3 => ?_) (fun h3 => ?_)
    · skip
      refine Wk.lloadN X2 hx (hb hby d8_25) rfl rfl ?_
      refine Wk.bipush X2 hx (8 : Int32) (hb hby d8_26) rfl rfl ?_
      refine Wk.iloadN X2 hx (hb hby d8_28) rfl rfl ?_
      refine Wk.imul X2 hx (hb hby d8_29) rfl ?_
      refine Wk.lushr X2 hx (hb hby d8_30) rfl ?_
      refine Wk.ldcJ X2 hx hZ hown (hw _ (List.mem_of_getElem? (i := 68) rfl)) (hb hby d8_31) rfl ?_
      refine Wk.land X2 hx (hb hby d8_34) rfl ?_
      have tm1 := c_maskL (XT.ushrL x ((8 : Int32) * i)) (255 : Int64) 8 (by decide) (by decide)
      generalize (XT.ushrL x ((8 : Int32) * i)) &&& (255 : Int64) = yy at tm1 ⊢
      refine Wk.l2i X2 hx (hb hby d8_35) rfl ?_
      have tm2 : yy.toInt32.toInt = yy.toInt := Wk.s_l2i rfl (by omega) (by omega)
      generalize yy.toInt32 = u at tm2 ⊢
      refine Wk.i2c X2 hx (hb hby d8_36) rfl ?_
      rw [i2cE u (by omega) (by omega)]
      exact Wk.retC X2 hx hlk hret (hb hby d8_37) (narC u (by omega) (by omega)) (Nat.zero_le _) (Nat.zero_le _) ⟨u, rfl, ⟨by omega, by omega⟩, rfl, e2⟩
    · skip
      refine Wk.iloadN X2 hx (hb hby d8_13) rfl rfl ?_
      refine Wk.iload X2 hx (hb hby d8_14) rfl rfl ?_
      refine Wk.icmp_eq X2 hx 25 19 (hb hby d8_16) rfl rfl (show (i : Int32).toInt = (i).toInt from rfl) (show (fp : Int32).toInt = (fp).toInt from rfl) (fun h4 => ?_) (fun h4 => ?_)
      · skip
        refine Wk.lloadN X2 hx (hb hby d8_25) rfl rfl ?_
        refine Wk.bipush X2 hx (8 : Int32) (hb hby d8_26) rfl rfl ?_
        refine Wk.iloadN X2 hx (hb hby d8_28) rfl rfl ?_
        refine Wk.imul X2 hx (hb hby d8_29) rfl ?_
        refine Wk.lushr X2 hx (hb hby d8_30) rfl ?_
        refine Wk.ldcJ X2 hx hZ hown (hw _ (List.mem_of_getElem? (i := 68) rfl)) (hb hby d8_31) rfl ?_
        refine Wk.land X2 hx (hb hby d8_34) rfl ?_
        have tm1 := c_maskL (XT.ushrL x ((8 : Int32) * i)) (255 : Int64) 8 (by decide) (by decide)
        generalize (XT.ushrL x ((8 : Int32) * i)) &&& (255 : Int64) = yy at tm1 ⊢
        refine Wk.l2i X2 hx (hb hby d8_35) rfl ?_
        have tm2 : yy.toInt32.toInt = yy.toInt := Wk.s_l2i rfl (by omega) (by omega)
        generalize yy.toInt32 = u at tm2 ⊢
        refine Wk.i2c X2 hx (hb hby d8_36) rfl ?_
        rw [i2cE u (by omega) (by omega)]
        exact Wk.retC X2 hx hlk hret (hb hby d8_37) (narC u (by omega) (by omega)) (Nat.zero_le _) (Nat.zero_le _) ⟨u, rfl, ⟨by omega, by omega⟩, rfl, e2⟩
      · skip
        obtain ⟨pre, u, rem, hus, hp⟩ := split_at tl i.toInt.toNat (by omega)
        have hi : i.toInt = (pre.length : Int) := by omega
        have hcu := St.1 u (by rw [hus]; simp)
        have hcl : u.toInt ≤ 255 := by obtain ⟨-, -, v, kb, z, -, -, -, hle, -⟩ := St; exact hle u (by rw [hus]; simp)
        refine Wk.aloadN X2 hx (hb hby d8_19) rfl rfl rfl ?_
        refine Wk.iloadN X2 hx (hb hby d8_20) rfl rfl ?_
        refine Wk.callVP (W := 0) X2 hx hZ (argsL := [(.int i)]) (rest := []) hown (hw _ (List.mem_of_getElem? (i := 89) rfl)) (hw _ (List.mem_of_getElem? (i := 90) rfl)) (hw _ (List.mem_of_getElem? (i := 92) rfl)) (hw _ (List.mem_of_getElem? (i := 91) rfl)) (hw _ (List.mem_of_getElem? (i := 1) rfl)) (hw _ (List.mem_of_getElem? (i := 93) rfl)) (notFace_of_selects (args := #[]) (mvT hZ (hw _ (List.mem_of_getElem? (i := 92) rfl)))) (by decide) (mch l Z a0 hw cs hcs fv hfv t tl pre rem u hus i hi hcu n hn h0 St G) e2 St.2.1 (by decide) (by decide) (by decide) (by decide) (by rw [hml]; rfl) (lenOf pd14 rfl) rfl (Nat.le_of_eq rfl) (hb hby d8_21) rfl (fun T5 X5 e5 => ?_)
        exact Wk.retC X5 hx hlk hret (hb hby d8_24) (narC u (by omega) (by omega)) (Nat.zero_le _) (Nat.zero_le _) ⟨u, rfl, ⟨by omega, by omega⟩, rfl, e5⟩
set_option maxRecDepth 65536 in
set_option maxHeartbeats 40000000 in
theorem leql {l : Launch} {Z : State} {p : Program} {e : Env} {R : Room} {s : State} {m : MethodId} {args : Array Value} {below : List Frame} {meth : Method} {c : Code} {s₁ : State} {K N : Nat} (X0 : Stand p l e R s m args below meth c s₁ [] 0 0) (hx : p.tables.exec = Jvm.exec) (hby : c.code = jdk_43_method_13_code) (hret : meth.sig.returnType = some .boolean) (hlk : meth.locks = false) (hZ : Z.Warmed39 s.vm) (h0 : Heap) (e0 : s₁.heap = h0) (v w : Addr) (kv kw : ClassId) (us ys : List Int32) (z1 z2 : Int32) (hz1 : z1.toInt = (us.length : Int)) (hz2 : z2.toInt = (ys.length : Int)) (hc1 : Ch us) (hc2 : Ch ys) (hl1 : ∀ u ∈ us, u.toInt ≤ 255) (hl2 : ∀ u ∈ ys, u.toInt ≤ 255) (A : Arv Z h0 v kv .byte z1 (bl us) (.int 0)) (A' : Arv Z h0 w kw .byte z2 (bl ys) (.int 0)) :
    ∀ (r1 r2 pre : List Int32) (i : Int32), us = pre ++ r1 → ys = pre ++ r2 → r1.length = r2.length → i.toInt = (pre.length : Int) → Wk.Go p e below (FrameEnd s) (Wk.Pu (.int (Wk.b (us = ys))) h0) K N s₁ (mkF m 9 #[.val (.ref v), .val (.ref w), .val (.int i)] [])
  | [], [], pre, i, hus, hys, hll, hi => by
    have hl : us.length = pre.length := by rw [hus]; simp
    refine Wk.iloadN X0 hx (hb hby d7_9) rfl rfl ?_
    refine Wk.aloadN X0 hx (hb hby d7_10) rfl rfl rfl ?_
    refine Wk.alen X0 hx hZ e0 A (hb hby d7_11) rfl ?_
    refine Wk.icmp_ge X0 hx 32 15 (hb hby d7_12) rfl rfl (show (i : Int32).toInt = (i).toInt from rfl) (show (z1 : Int32).toInt = (z1).toInt from rfl) (fun h1 => ?_) (fun h1 => absurd h1 (by omega))
    refine Wk.iconst X0 hx (1 : Int32) (hb hby d7_32) rfl rfl ?_
    exact Wk.retZ X0 hx hlk hret (hb hby d7_33) (by decide) (Nat.zero_le _) (Nat.zero_le _) (Wk.puB1 (by rw [hus, hys]) e0)
  | u :: r1, y :: r2, pre, i, hus, hys, hll, hi => by
    have hl : us.length = pre.length + (r1.length + 1) := by rw [hus]; simp
    have hl' : ys.length = pre.length + (r2.length + 1) := by rw [hys]; simp
    have hzl := z1.toInt_lt
    have hi1 : (i + 1).toInt = i.toInt + 1 := by have := c_iadd i 1; have h1 := (i + 1).toInt_lt; have h2 := (i + 1).le_toInt; have : (1 : Int32).toInt = 1 := rfl; omega
    refine Wk.iloadN X0 hx (hb hby d7_9) rfl rfl ?_
    refine Wk.aloadN X0 hx (hb hby d7_10) rfl rfl rfl ?_
    refine Wk.alen X0 hx hZ e0 A (hb hby d7_11) rfl ?_
    refine Wk.icmp_ge X0 hx 32 15 (hb hby d7_12) rfl rfl (show (i : Int32).toInt = (i).toInt from rfl) (show (z1 : Int32).toInt = (z1).toInt from rfl) (fun h1 => absurd h1 (by omega)) (fun h1 => ?_)
    refine Wk.aloadN X0 hx (hb hby d7_15) rfl rfl rfl ?_
    refine Wk.iloadN X0 hx (hb hby d7_16) rfl rfl ?_
    refine Wk.baload X0 hx hZ e0 A (by omega) (by omega) (bl_at hus hi) (hb hby d7_17) rfl ?_
    refine Wk.aloadN X0 hx (hb hby d7_18) rfl rfl rfl ?_
    refine Wk.iloadN X0 hx (hb hby d7_19) rfl rfl ?_
    refine Wk.baload X0 hx hZ e0 A' (by omega) (by omega) (bl_at hys hi) (hb hby d7_20) rfl ?_
    refine Wk.icmp_eq X0 hx 26 24 (hb hby d7_21) rfl rfl (show (bb u : Int32).toInt = (bb u).toInt from rfl) (show (bb y : Int32).toInt = (bb y).toInt from rfl) (fun h2 => ?_) (fun h2 => ?_)
    · skip
      refine Wk.iinc (l' := #[.val (.ref v), .val (.ref w), .val (.int (i + (1 : Int32)))]) X0 hx (1 : Int32) (hb hby d7_26) rfl rfl rfl rfl ?_
      refine Wk.goto X0 hx 9 (hb hby d7_29) rfl ?_
      obtain rfl : u = y := bb_inj ⟨(hc1 u (by rw [hus]; simp)).1, hl1 u (by rw [hus]; simp)⟩ ⟨(hc2 y (by rw [hys]; simp)).1, hl2 y (by rw [hys]; simp)⟩ ‹_›
      exact leql X0 hx hby hret hlk hZ h0 e0 v w kv kw us ys z1 z2 hz1 hz2 hc1 hc2 hl1 hl2 A A' r1 r2 (pre ++ [u]) (i + 1) (by rw [hus]; simp) (by rw [hys]; simp) (by simpa using hll) (by rw [hi1, hi, List.length_append]; rfl)
    · skip
      refine Wk.iconst X0 hx (0 : Int32) (hb hby d7_24) rfl rfl ?_
      exact Wk.retZ X0 hx hlk hret (hb hby d7_25) (by decide) (Nat.zero_le _) (Nat.zero_le _) (Wk.puB0 (fun q => by rw [hus, hys] at q; exact absurd (congrArg (fun x => (bb x).toInt) (List.cons.inj (List.append_cancel_left q)).1) ‹_›) e0)
  | [], _ :: _, pre, i, hus, hys, hll, hi => by simp at hll
  | _ :: _, [], pre, i, hus, hys, hll, hi => by simp at hll
set_option maxRecDepth 65536 in
set_option maxHeartbeats 40000000 in
theorem mleq (l : Launch) (Z : State) (a0 : Array Value) (hw : ∀ d ∈ tables_1, d.before a0 Z = true) (v w : Addr) (kv kw : ClassId) (us ys : List Int32) (z1 z2 : Int32) (hz1 : z1.toInt = (us.length : Int)) (hz2 : z2.toInt = (ys.length : Int)) (hc1 : Ch us) (hc2 : Ch ys) (hl1 : ∀ u ∈ us, u.toInt ≤ 255) (hl2 : ∀ u ∈ ys, u.toInt ≤ 255) (h0 : Heap) (A : Arv Z h0 v kv .byte z1 (bl us) (.int 0)) (A' : Arv Z h0 w kw .byte z2 (bl ys) (.int 0)) : Wk.Met l Z (⟨"java/lang/StringLatin1", "equals", "([B[B)Z"⟩ : MethodName) jdk_43_method_13_code 3 (some .boolean) [] { frames := 0, cells := 0, slots := 0, locals := 0 } #[(.ref v), (.ref w)] h0 (Wk.Pu (.int (Wk.b (us = ys))) h0) := by
  refine Wk.start pn7 ?_
  intro p e s m below meth c s₁ X0 hx hby hml hown0 hnm hret hlk hZ e0
  have hown : s.vm.findClass "java/lang/StringLatin1" = some m.cls := hown0
  refine Wk.enter (g' := (mkF m 0 #[.val (.ref v), .val (.ref w), .unset] [])) (by first | rfl | (simp [entryFrame, mkF, argsToLocals, Value.category, maxLocals]; done) | (simp [entryFrame, mkF, argsToLocals, hcat]; done) | (simp [entryFrame, mkF, argsToLocals, hcat]; rfl)) ?_
  refine Wk.aloadN X0 hx (hb hby d7_0) rfl rfl rfl ?_
  refine Wk.alen X0 hx hZ e0 A (hb hby d7_1) rfl ?_
  refine Wk.aloadN X0 hx (hb hby d7_2) rfl rfl rfl ?_
  refine Wk.alen X0 hx hZ e0 A' (hb hby d7_3) rfl ?_
  refine Wk.icmp_ne X0 hx 34 7 (hb hby d7_4) rfl rfl (show (z1 : Int32).toInt = (z1).toInt from rfl) (show (z2 : Int32).toInt = (z2).toInt from rfl) (fun h1 => ?_) (fun h1 => ?_)
  · skip
    refine Wk.iconst X0 hx (0 : Int32) (hb hby d7_34) rfl rfl ?_
    exact Wk.retZ X0 hx hlk hret (hb hby d7_35) (by decide) (Nat.zero_le _) (Nat.zero_le _) (Wk.puB0 (fun q => by have := congrArg List.length q; omega) e0)
  · skip
    refine Wk.iconst X0 hx (0 : Int32) (hb hby d7_7) rfl rfl ?_
    refine Wk.istoreN (l' := #[.val (.ref v), .val (.ref w), .val (.int (0 : Int32))]) X0 hx (hb hby d7_8) rfl rfl ?_
    exact leql X0 hx hby hret hlk hZ h0 e0 v w kv kw us ys z1 z2 hz1 hz2 hc1 hc2 hl1 hl2 A A' us ys [] 0 rfl rfl (by omega) rfl
set_option maxRecDepth 65536 in
set_option maxHeartbeats 40000000 in
theorem meqs (l : Launch) (Z : State) (a0 : Array Value) (hw : ∀ d ∈ tables_1, d.before a0 Z = true) (cs : Int32) (hcs : ¬ cs.toInt = 0) (fv : Value) (hfv : fv.isRef = true) (a x : Addr) (us ys : List Int32) (hax : a ≠ x) (h0 : Heap) (Sa : Sv Z h0 a us) (Sx : Sv Z h0 x ys) (G : Sg Z h0 cs fv) : Wk.Met l Z (⟨"java/lang/String", "equals", "(Ljava/lang/Object;)Z"⟩ : MethodName) jdk_42_method_66_code 3 (some .boolean) [] { frames := 1, cells := 0, slots := 0, locals := 14 } #[(.ref a), (.ref x)] h0 (Wk.Pu (.int (Wk.b (us = ys))) h0) := by
  refine Wk.start pn6 ?_
  intro p e s m below meth c s₁ X0 hx hby hml hown0 hnm hret hlk hZ e0
  have hown : s.vm.findClass "java/lang/String" = some m.cls := hown0
  obtain ⟨hch, E, v, kb, z, Fv, Fc, hz, hle, A⟩ := Sa
  obtain ⟨hch', E', v', kb', z', Fv', Fc', hz', hle', A'⟩ := Sx
  refine Wk.enter (g' := (mkF m 0 #[.val (.ref a), .val (.ref x), .unset] [])) (by first | rfl | (simp [entryFrame, mkF, argsToLocals, Value.category, maxLocals]; done) | (simp [entryFrame, mkF, argsToLocals, hcat]; done) | (simp [entryFrame, mkF, argsToLocals, hcat]; rfl)) ?_
  refine Wk.aloadN X0 hx (hb hby d6_0) rfl rfl rfl ?_
  refine Wk.aloadN X0 hx (hb hby d6_1) rfl rfl rfl ?_
  refine Wk.acmp_ne X0 hx 7 5 (hb hby d6_2) rfl rfl rfl rfl (fun h1 => ?_) (fun h1 => absurd h1 (fun q => hax (Value.ref.inj q)))
  refine Wk.aloadN X0 hx (hb hby d6_7) rfl rfl rfl ?_
  refine Wk.instY X0 hx hZ hown (hw _ (List.mem_of_getElem? (i := 54) rfl)) e0 E' (hb hby d6_8) rfl (fun T2 X2 e2 => ?_)
  refine Wk.if_eq X2 hx 54 14 (hb hby d6_11) rfl rfl (show ((1 : Int32) : Int32).toInt = 1 from (by decide)) (fun h3 => absurd h3 (by omega)) (fun h3 => ?_)
  refine Wk.aloadN X2 hx (hb hby d6_14) rfl rfl rfl ?_
  refine Wk.castY X2 hx hZ hown (hw _ (List.mem_of_getElem? (i := 54) rfl)) e2 E' (hb hby d6_15) rfl (fun T4 X4 e4 => ?_)
  refine Wk.astoreN (l' := #[.val (.ref a), .val (.ref x), .val (.ref x)]) X4 hx (hb hby d6_18) rfl rfl rfl ?_
  refine Wk.getS (host := "") X4 hx hZ hown (Or.inl (hw _ (List.mem_of_getElem? (i := 55) rfl))) e4 G.1 (hb hby d6_19) rfl (fun T5 X5 e5 => ?_)
  refine Wk.if_eq X5 hx 36 25 (hb hby d6_22) rfl rfl (show (cs : Int32).toInt = (cs).toInt from rfl) (fun h6 => absurd h6 (by omega)) (fun h6 => ?_)
  refine Wk.aloadN X5 hx (hb hby d6_25) rfl rfl rfl ?_
  refine Wk.getF (host := "") X5 hx hZ hown (Or.inl (hw _ (List.mem_of_getElem? (i := 22) rfl))) e5 Fc (hb hby d6_26) rfl (fun T7 X7 e7 => ?_)
  refine Wk.aloadN X7 hx (hb hby d6_29) rfl rfl rfl ?_
  refine Wk.getF (host := "") X7 hx hZ hown (Or.inl (hw _ (List.mem_of_getElem? (i := 22) rfl))) e7 Fc' (hb hby d6_30) rfl (fun T8 X8 e8 => ?_)
  refine Wk.icmp_ne X8 hx 54 36 (hb hby d6_33) rfl rfl (show ((0 : Int32) : Int32).toInt = 0 from (by decide)) (show ((0 : Int32) : Int32).toInt = 0 from (by decide)) (fun h9 => absurd h9 (by omega)) (fun h9 => ?_)
  refine Wk.aloadN X8 hx (hb hby d6_36) rfl rfl rfl ?_
  refine Wk.getF (host := "") X8 hx hZ hown (Or.inl (hw _ (List.mem_of_getElem? (i := 21) rfl))) e8 Fv (hb hby d6_37) rfl (fun T10 X10 e10 => ?_)
  refine Wk.aloadN X10 hx (hb hby d6_40) rfl rfl rfl ?_
  refine Wk.getF (host := "") X10 hx hZ hown (Or.inl (hw _ (List.mem_of_getElem? (i := 21) rfl))) e10 Fv' (hb hby d6_41) rfl (fun T11 X11 e11 => ?_)
  refine Wk.callP (W := 0) X11 hx hZ (argsL := [(.ref v), (.ref v')]) (rest := []) hown (hw _ (List.mem_of_getElem? (i := 56) rfl)) (hw _ (List.mem_of_getElem? (i := 57) rfl)) (hw _ (List.mem_of_getElem? (i := 58) rfl)) (hw _ (List.mem_of_getElem? (i := 59) rfl)) (by decide) (mleq l Z a0 hw v v' kb kb' us ys z z' hz hz' hch hch' hle hle' h0 A A') e11 (by decide) (by decide) (by decide) (by decide) (by rw [hml]; rfl) (lenOf pd7 rfl) rfl (Nat.le_of_eq rfl) (hb hby d6_44) rfl (fun T12 X12 e12 => ?_)
  refine Wk.if_eqB X12 hx 54 50 (hb hby d6_47) rfl rfl (fun h13 => ?_) (fun h13 => ?_)
  · skip
    refine Wk.iconst X12 hx (0 : Int32) (hb hby d6_54) rfl rfl ?_
    exact Wk.retZ X12 hx hlk hret (hb hby d6_55) (by decide) (Nat.zero_le _) (Nat.zero_le _) (Wk.puB0 (by assumption) e12)
  · skip
    refine Wk.iconst X12 hx (1 : Int32) (hb hby d6_50) rfl rfl ?_
    refine Wk.goto X12 hx 55 (hb hby d6_51) rfl ?_
    exact Wk.retZ X12 hx hlk hret (hb hby d6_55) (by decide) (Nat.zero_le _) (Nat.zero_le _) (Wk.puB1 (by assumption) e12)
set_option maxRecDepth 65536 in
set_option maxHeartbeats 40000000 in
theorem meqn (l : Launch) (Z : State) (a0 : Array Value) (hw : ∀ d ∈ tables_1, d.before a0 Z = true) (a : Addr) (h0 : Heap)  : Wk.Met l Z (⟨"java/lang/String", "equals", "(Ljava/lang/Object;)Z"⟩ : MethodName) jdk_42_method_66_code 3 (some .boolean) [] { frames := 1, cells := 0, slots := 0, locals := 14 } #[(.ref a), (.null)] h0 (Wk.Pu (.int 0) h0) := by
  refine Wk.start pn6 ?_
  intro p e s m below meth c s₁ X0 hx hby hml hown0 hnm hret hlk hZ e0
  have hown : s.vm.findClass "java/lang/String" = some m.cls := hown0
  refine Wk.enter (g' := (mkF m 0 #[.val (.ref a), .val (.null), .unset] [])) (by first | rfl | (simp [entryFrame, mkF, argsToLocals, Value.category, maxLocals]; done) | (simp [entryFrame, mkF, argsToLocals, hcat]; done) | (simp [entryFrame, mkF, argsToLocals, hcat]; rfl)) ?_
  refine Wk.aloadN X0 hx (hb hby d6_0) rfl rfl rfl ?_
  refine Wk.aloadN X0 hx (hb hby d6_1) rfl rfl rfl ?_
  refine Wk.acmp_ne X0 hx 7 5 (hb hby d6_2) rfl rfl rfl rfl (fun h1 => ?_) (fun h1 => absurd h1 (fun q => nomatch q))
  refine Wk.aloadN X0 hx (hb hby d6_7) rfl rfl rfl ?_
  refine Wk.instNul X0 hx (hb hby d6_8) rfl ?_
  refine Wk.if_eq X0 hx 54 14 (hb hby d6_11) rfl rfl (show ((0 : Int32) : Int32).toInt = 0 from (by decide)) (fun h2 => ?_) (fun h2 => absurd h2 (by omega))
  refine Wk.iconst X0 hx (0 : Int32) (hb hby d6_54) rfl rfl ?_
  exact Wk.retZ X0 hx hlk hret (hb hby d6_55) (by decide) (Nat.zero_le _) (Nat.zero_le _) (Wk.pu e0)
def Sb (Z : State) (h : Heap) (r0 r1 r2 r3 rv x0 x1 x2 : Addr) (kv : ClassId) : Prop := Sta Z h "com/example/kuri/kuri/normalize/SchemeRules" "OTHER" "Lcom/example/kuri/kuri/normalize/SchemeRules;" (.ref r3) ∧ Sta Z h "com/example/kuri/kuri/normalize/SchemeRules" "HTTP" "Lcom/example/kuri/kuri/normalize/SchemeRules;" (.ref r0) ∧ Sta Z h "com/example/kuri/kuri/normalize/SchemeRules" "HTTPS" "Lcom/example/kuri/kuri/normalize/SchemeRules;" (.ref r1) ∧ Sta Z h "com/example/kuri/kuri/normalize/SchemeRules" "MAILTO" "Lcom/example/kuri/kuri/normalize/SchemeRules;" (.ref r2) ∧ Sta Z h "com/example/kuri/kuri/normalize/SchemeRules" "$VALUES" "[Lcom/example/kuri/kuri/normalize/SchemeRules;" (.ref rv) ∧ Exa Z h rv "[Lcom/example/kuri/kuri/normalize/SchemeRules;" ∧ Arv Z h rv kv (.object "com/example/kuri/kuri/normalize/SchemeRules") 4 [.ref r0, .ref r1, .ref r2, .ref r3] .null ∧ Fld Z h r0 "com/example/kuri/kuri/normalize/SchemeRules" "scheme" "Ljava/lang/String;" (.ref x0) ∧ Fld Z h r1 "com/example/kuri/kuri/normalize/SchemeRules" "scheme" "Ljava/lang/String;" (.ref x1) ∧ Fld Z h r2 "com/example/kuri/kuri/normalize/SchemeRules" "scheme" "Ljava/lang/String;" (.ref x2) ∧ Fld Z h r3 "com/example/kuri/kuri/normalize/SchemeRules" "scheme" "Ljava/lang/String;" (.null) ∧ Sv Z h x0 tH ∧ Sv Z h x1 tS ∧ Sv Z h x2 tM
theorem Sb.ext {Z : State} {h h' : Heap} {r0 r1 r2 r3 rv x0 x1 x2 : Addr} {kv : ClassId} (S : Sb Z h r0 r1 r2 r3 rv x0 x1 x2 kv) (E : Ext h h') : Sb Z h' r0 r1 r2 r3 rv x0 x1 x2 kv := ⟨(S.1).ext E, (S.2.1).ext E, (S.2.2.1).ext E, (S.2.2.2.1).ext E, (S.2.2.2.2.1).ext E, (S.2.2.2.2.2.1).ext E, (S.2.2.2.2.2.2.1).ext E, (S.2.2.2.2.2.2.2.1).ext E, (S.2.2.2.2.2.2.2.2.1).ext E, (S.2.2.2.2.2.2.2.2.2.1).ext E, (S.2.2.2.2.2.2.2.2.2.2.1).ext E, (S.2.2.2.2.2.2.2.2.2.2.2.1).ext E, (S.2.2.2.2.2.2.2.2.2.2.2.2.1).ext E, (S.2.2.2.2.2.2.2.2.2.2.2.2.2).ext E⟩
def Qv4 (Z : State) (r0 r1 r2 r3 rv x0 x1 x2 : Addr) (kv : ClassId) (h0 : Heap) (v : Option Value) (h : Heap) (L : List Loc) : Prop := v = some (.ref h0.size) ∧ L = [] ∧ Ext h0 h ∧ Arv Z h h0.size kv (.object "com/example/kuri/kuri/normalize/SchemeRules") 4 [.ref r0, .ref r1, .ref r2, .ref r3] .null
def Qof (r : Addr) (h0 : Heap) (v : Option Value) (h : Heap) (L : List Loc) : Prop := v = some (.ref r) ∧ L = [] ∧ Ext h0 h
set_option maxRecDepth 65536 in
set_option maxHeartbeats 40000000 in
theorem mval (l : Launch) (Z : State) (a0 : Array Value) (hw : ∀ d ∈ tables_1, d.before a0 Z = true) (r0 r1 r2 r3 rv x0 x1 x2 : Addr) (kv : ClassId) (h0 : Heap) (S : Sb Z h0 r0 r1 r2 r3 rv x0 x1 x2 kv) : Wk.Met l Z (⟨"com/example/kuri/kuri/normalize/SchemeRules", "values", "()[Lcom/example/kuri/kuri/normalize/SchemeRules;"⟩ : MethodName) prog_13_method_1_code 0 (some (.array (.object "com/example/kuri/kuri/normalize/SchemeRules"))) [] { frames := 1, cells := 1, slots := 4, locals := 14 } #[] h0 (Qv4 Z r0 r1 r2 r3 rv x0 x1 x2 kv h0) := by
  refine Wk.start pn5 ?_
  intro p e s m below meth c s₁ X0 hx hby hml hown0 hnm hret hlk hZ e0
  have hown : s.vm.findClass "com/example/kuri/kuri/normalize/SchemeRules" = some m.cls := hown0
  refine Wk.enter (g' := (mkF m 0 #[] [])) (by first | rfl | (simp [entryFrame, mkF, argsToLocals, Value.category, maxLocals]; done) | (simp [entryFrame, mkF, argsToLocals, hcat]; done) | (simp [entryFrame, mkF, argsToLocals, hcat]; rfl)) ?_
  refine Wk.getS (host := "") X0 hx hZ hown (Or.inl (hw _ (List.mem_of_getElem? (i := 32) rfl))) e0 S.2.2.2.2.1 (hb hby d5_0) rfl (fun T6 X6 e6 => ?_)
  refine Wk.cloneV (W := 0) X6 hx hZ hown (hw _ (List.mem_of_getElem? (i := 34) rfl)) (hw _ (List.mem_of_getElem? (i := 35) rfl)) (hw _ (List.mem_of_getElem? (i := 39) rfl)) (hw _ (List.mem_of_getElem? (i := 37) rfl)) (hw _ (List.mem_of_getElem? (i := 38) rfl)) (hw _ (List.mem_of_getElem? (i := 40) rfl)) e6 S.2.2.2.2.2.2.1 S.2.2.2.2.2.1 (by rw [hml]; rfl) (by decide) 4 (Nat.le_of_eq rfl) (by decide) (by decide) (by decide) (by decide) (hb hby d5_3) rfl (fun T1 h1 X1 e1 Ex1 A1 E1 => ?_)
  refine Wk.castY X1 hx hZ hown (hw _ (List.mem_of_getElem? (i := 45) rfl)) e1 E1 (hb hby d5_6) rfl (fun T7 X7 e7 => ?_)
  exact Wk.retA X7 hx hlk hret rfl rfl (hb hby d5_9) (by decide) (by decide) (by rw [e7]; exact ⟨rfl, rfl, Ex1, A1⟩)
set_option maxRecDepth 65536 in
set_option maxHeartbeats 40000000 in
theorem mof0 (l : Launch) (Z : State) (a0 : Array Value) (hw : ∀ d ∈ tables_1, d.before a0 Z = true) (cs : Int32) (hcs : ¬ cs.toInt = 0) (fv : Value) (hfv : fv.isRef = true) (a : Addr) (us : List Int32) (cc : us = tH) (r0 r1 r2 r3 rv x0 x1 x2 : Addr) (kv : ClassId) (hx0 : a ≠ x0) (hx1 : a ≠ x1) (hx2 : a ≠ x2) (h0 : Heap) (Sa : Sv Z h0 a us) (S : Sb Z h0 r0 r1 r2 r3 rv x0 x1 x2 kv) (G : Sg Z h0 cs fv) : Wk.Met l Z (⟨"com/example/kuri/kuri/normalize/SchemeRules", "of", "(Ljava/lang/String;)Lcom/example/kuri/kuri/normalize/SchemeRules;"⟩ : MethodName) prog_13_method_4_code 6 (some (.object "com/example/kuri/kuri/normalize/SchemeRules")) [] { frames := 2, cells := 1, slots := 4, locals := 28 } #[(.ref a)] h0 (Qof r0 h0) := by
  refine Wk.start pn4 ?_
  intro p e s m below meth c s₁ X0 hx hby hml hown0 hnm hret hlk hZ e0
  have hown : s.vm.findClass "com/example/kuri/kuri/normalize/SchemeRules" = some m.cls := hown0
  refine Wk.enter (g' := (mkF m 0 #[.val (.ref a), .unset, .unset, .unset, .unset, .unset] [])) (by first | rfl | (simp [entryFrame, mkF, argsToLocals, Value.category, maxLocals]; done) | (simp [entryFrame, mkF, argsToLocals, hcat]; done) | (simp [entryFrame, mkF, argsToLocals, hcat]; rfl)) ?_
  refine Wk.getS (host := "") X0 hx hZ hown (Or.inl (hw _ (List.mem_of_getElem? (i := 27) rfl))) e0 S.1 (hb hby d4_0) rfl (fun T6 X6 e6 => ?_)
  refine Wk.astoreN (l' := #[.val (.ref a), .val (.ref r3), .unset, .unset, .unset, .unset]) X6 hx (hb hby d4_3) rfl rfl rfl ?_
  refine Wk.callS (W := 0) X6 hx hZ (argsL := []) (rest := []) hown (hw _ (List.mem_of_getElem? (i := 29) rfl)) (hw _ (List.mem_of_getElem? (i := 30) rfl)) (hw _ (List.mem_of_getElem? (i := 25) rfl)) (hw _ (List.mem_of_getElem? (i := 31) rfl)) (by decide) (mval l Z a0 hw r0 r1 r2 r3 rv x0 x1 x2 kv h0 S) e6 (by decide) (by decide) (by decide) (by decide) (by rw [hml]; rfl) (lenOf pd5 rfl) rfl (Nat.le_of_eq rfl) (hb hby d4_4) rfl (fun T7 v7 L7 X7 hq7 => ?_)
  obtain ⟨rfl, rfl, Ex1, A1⟩ := hq7
  rw [List.append_nil] at X7
  have S1 := S.ext Ex1
  have Sa1 := Sa.ext Ex1
  have G1 := G.ext Ex1
  show Wk.Go p e below _ _ _ _ T7 (mkF m 7 #[.val (.ref a), .val (.ref r3), .unset, .unset, .unset, .unset] [(.ref h0.size)])
  refine Wk.astoreN (l' := #[.val (.ref a), .val (.ref r3), .val (.ref h0.size), .unset, .unset, .unset]) X7 hx (hb hby d4_7) rfl rfl rfl ?_
  refine Wk.aloadN X7 hx (hb hby d4_8) rfl rfl rfl ?_
  refine Wk.alen X7 hx hZ rfl A1 (hb hby d4_9) rfl ?_
  refine Wk.istoreN (l' := #[.val (.ref a), .val (.ref r3), .val (.ref h0.size), .val (.int (4 : Int32)), .unset, .unset]) X7 hx (hb hby d4_10) rfl rfl ?_
  refine Wk.iconst X7 hx (0 : Int32) (hb hby d4_11) rfl rfl ?_
  refine Wk.istore (l' := #[.val (.ref a), .val (.ref r3), .val (.ref h0.size), .val (.int (4 : Int32)), .val (.int (0 : Int32)), .unset]) X7 hx (hb hby d4_12) rfl rfl ?_
  refine Wk.iload X7 hx (hb hby d4_14) rfl rfl ?_
  refine Wk.iloadN X7 hx (hb hby d4_16) rfl rfl ?_
  refine Wk.icmp_ge X7 hx 50 20 (hb hby d4_17) rfl rfl (show ((0 : Int32) : Int32).toInt = 0 from (by decide)) (show ((4 : Int32) : Int32).toInt = 4 from (by decide)) (fun h8 => absurd h8 (by omega)) (fun h8 => ?_)
  refine Wk.aloadN X7 hx (hb hby d4_20) rfl rfl rfl ?_
  refine Wk.iload X7 hx (hb hby d4_21) rfl rfl ?_
  refine Wk.aaload X7 hx hZ rfl A1 rfl (by decide) (by decide) rfl (hb hby d4_23) rfl ?_
  refine Wk.astore (l' := #[.val (.ref a), .val (.ref r3), .val (.ref h0.size), .val (.int (4 : Int32)), .val (.int (0 : Int32)), .val (.ref r0)]) X7 hx (hb hby d4_24) rfl rfl rfl ?_
  refine Wk.aloadN X7 hx (hb hby d4_26) rfl rfl rfl ?_
  refine Wk.aload X7 hx (hb hby d4_27) rfl rfl rfl ?_
  refine Wk.getF (host := "") X7 hx hZ hown (Or.inl (hw _ (List.mem_of_getElem? (i := 47) rfl))) rfl S1.2.2.2.2.2.2.2.1 (hb hby d4_29) rfl (fun T9 X9 e9 => ?_)
  refine Wk.callVP (W := 0) X9 hx hZ (argsL := [(.ref x0)]) (rest := []) hown (hw _ (List.mem_of_getElem? (i := 49) rfl)) (hw _ (List.mem_of_getElem? (i := 50) rfl)) (hw _ (List.mem_of_getElem? (i := 52) rfl)) (hw _ (List.mem_of_getElem? (i := 51) rfl)) (hw _ (List.mem_of_getElem? (i := 1) rfl)) (hw _ (List.mem_of_getElem? (i := 53) rfl)) (notFace_of_selects (args := #[]) (mvT hZ (hw _ (List.mem_of_getElem? (i := 52) rfl)))) (by decide) (meqs l Z a0 hw cs hcs fv hfv a x0 us tH hx0 T7.heap Sa1 S1.2.2.2.2.2.2.2.2.2.2.2.1 G1) e9 Sa1.2.1 (by decide) (by decide) (by decide) (by decide) (by rw [hml]; rfl) (lenOf pd6 rfl) rfl (Nat.le_of_eq rfl) (hb hby d4_32) rfl (fun T10 X10 e10 => ?_)
  refine Wk.if_eqB X10 hx 44 38 (hb hby d4_35) rfl rfl (fun h11 => absurd h11 (by exact fun q => q cc)) (fun h11 => ?_)
  refine Wk.aload X10 hx (hb hby d4_38) rfl rfl rfl ?_
  refine Wk.astoreN (l' := #[.val (.ref a), .val (.ref r0), .val (.ref h0.size), .val (.int (4 : Int32)), .val (.int (0 : Int32)), .val (.ref r0)]) X10 hx (hb hby d4_40) rfl rfl rfl ?_
  refine Wk.goto X10 hx 50 (hb hby d4_41) rfl ?_
  refine Wk.aloadN X10 hx (hb hby d4_50) rfl rfl rfl ?_
  exact Wk.retA X10 hx hlk hret rfl rfl (hb hby d4_51) (by decide) (by decide) (by rw [e10]; exact ⟨rfl, rfl, Ex1⟩)
set_option maxRecDepth 65536 in
set_option maxHeartbeats 40000000 in
theorem mof1 (l : Launch) (Z : State) (a0 : Array Value) (hw : ∀ d ∈ tables_1, d.before a0 Z = true) (cs : Int32) (hcs : ¬ cs.toInt = 0) (fv : Value) (hfv : fv.isRef = true) (a : Addr) (us : List Int32) (m0 : ¬ us = tH) (cc : us = tS) (r0 r1 r2 r3 rv x0 x1 x2 : Addr) (kv : ClassId) (hx0 : a ≠ x0) (hx1 : a ≠ x1) (hx2 : a ≠ x2) (h0 : Heap) (Sa : Sv Z h0 a us) (S : Sb Z h0 r0 r1 r2 r3 rv x0 x1 x2 kv) (G : Sg Z h0 cs fv) : Wk.Met l Z (⟨"com/example/kuri/kuri/normalize/SchemeRules", "of", "(Ljava/lang/String;)Lcom/example/kuri/kuri/normalize/SchemeRules;"⟩ : MethodName) prog_13_method_4_code 6 (some (.object "com/example/kuri/kuri/normalize/SchemeRules")) [] { frames := 2, cells := 1, slots := 4, locals := 28 } #[(.ref a)] h0 (Qof r1 h0) := by
  refine Wk.start pn4 ?_
  intro p e s m below meth c s₁ X0 hx hby hml hown0 hnm hret hlk hZ e0
  have hown : s.vm.findClass "com/example/kuri/kuri/normalize/SchemeRules" = some m.cls := hown0
  refine Wk.enter (g' := (mkF m 0 #[.val (.ref a), .unset, .unset, .unset, .unset, .unset] [])) (by first | rfl | (simp [entryFrame, mkF, argsToLocals, Value.category, maxLocals]; done) | (simp [entryFrame, mkF, argsToLocals, hcat]; done) | (simp [entryFrame, mkF, argsToLocals, hcat]; rfl)) ?_
  refine Wk.getS (host := "") X0 hx hZ hown (Or.inl (hw _ (List.mem_of_getElem? (i := 27) rfl))) e0 S.1 (hb hby d4_0) rfl (fun T6 X6 e6 => ?_)
  refine Wk.astoreN (l' := #[.val (.ref a), .val (.ref r3), .unset, .unset, .unset, .unset]) X6 hx (hb hby d4_3) rfl rfl rfl ?_
  refine Wk.callS (W := 0) X6 hx hZ (argsL := []) (rest := []) hown (hw _ (List.mem_of_getElem? (i := 29) rfl)) (hw _ (List.mem_of_getElem? (i := 30) rfl)) (hw _ (List.mem_of_getElem? (i := 25) rfl)) (hw _ (List.mem_of_getElem? (i := 31) rfl)) (by decide) (mval l Z a0 hw r0 r1 r2 r3 rv x0 x1 x2 kv h0 S) e6 (by decide) (by decide) (by decide) (by decide) (by rw [hml]; rfl) (lenOf pd5 rfl) rfl (Nat.le_of_eq rfl) (hb hby d4_4) rfl (fun T7 v7 L7 X7 hq7 => ?_)
  obtain ⟨rfl, rfl, Ex1, A1⟩ := hq7
  rw [List.append_nil] at X7
  have S1 := S.ext Ex1
  have Sa1 := Sa.ext Ex1
  have G1 := G.ext Ex1
  show Wk.Go p e below _ _ _ _ T7 (mkF m 7 #[.val (.ref a), .val (.ref r3), .unset, .unset, .unset, .unset] [(.ref h0.size)])
  refine Wk.astoreN (l' := #[.val (.ref a), .val (.ref r3), .val (.ref h0.size), .unset, .unset, .unset]) X7 hx (hb hby d4_7) rfl rfl rfl ?_
  refine Wk.aloadN X7 hx (hb hby d4_8) rfl rfl rfl ?_
  refine Wk.alen X7 hx hZ rfl A1 (hb hby d4_9) rfl ?_
  refine Wk.istoreN (l' := #[.val (.ref a), .val (.ref r3), .val (.ref h0.size), .val (.int (4 : Int32)), .unset, .unset]) X7 hx (hb hby d4_10) rfl rfl ?_
  refine Wk.iconst X7 hx (0 : Int32) (hb hby d4_11) rfl rfl ?_
  refine Wk.istore (l' := #[.val (.ref a), .val (.ref r3), .val (.ref h0.size), .val (.int (4 : Int32)), .val (.int (0 : Int32)), .unset]) X7 hx (hb hby d4_12) rfl rfl ?_
  refine Wk.iload X7 hx (hb hby d4_14) rfl rfl ?_
  refine Wk.iloadN X7 hx (hb hby d4_16) rfl rfl ?_
  refine Wk.icmp_ge X7 hx 50 20 (hb hby d4_17) rfl rfl (show ((0 : Int32) : Int32).toInt = 0 from (by decide)) (show ((4 : Int32) : Int32).toInt = 4 from (by decide)) (fun h8 => absurd h8 (by omega)) (fun h8 => ?_)
  refine Wk.aloadN X7 hx (hb hby d4_20) rfl rfl rfl ?_
  refine Wk.iload X7 hx (hb hby d4_21) rfl rfl ?_
  refine Wk.aaload X7 hx hZ rfl A1 rfl (by decide) (by decide) rfl (hb hby d4_23) rfl ?_
  refine Wk.astore (l' := #[.val (.ref a), .val (.ref r3), .val (.ref h0.size), .val (.int (4 : Int32)), .val (.int (0 : Int32)), .val (.ref r0)]) X7 hx (hb hby d4_24) rfl rfl rfl ?_
  refine Wk.aloadN X7 hx (hb hby d4_26) rfl rfl rfl ?_
  refine Wk.aload X7 hx (hb hby d4_27) rfl rfl rfl ?_
  refine Wk.getF (host := "") X7 hx hZ hown (Or.inl (hw _ (List.mem_of_getElem? (i := 47) rfl))) rfl S1.2.2.2.2.2.2.2.1 (hb hby d4_29) rfl (fun T9 X9 e9 => ?_)
  refine Wk.callVP (W := 0) X9 hx hZ (argsL := [(.ref x0)]) (rest := []) hown (hw _ (List.mem_of_getElem? (i := 49) rfl)) (hw _ (List.mem_of_getElem? (i := 50) rfl)) (hw _ (List.mem_of_getElem? (i := 52) rfl)) (hw _ (List.mem_of_getElem? (i := 51) rfl)) (hw _ (List.mem_of_getElem? (i := 1) rfl)) (hw _ (List.mem_of_getElem? (i := 53) rfl)) (notFace_of_selects (args := #[]) (mvT hZ (hw _ (List.mem_of_getElem? (i := 52) rfl)))) (by decide) (meqs l Z a0 hw cs hcs fv hfv a x0 us tH hx0 T7.heap Sa1 S1.2.2.2.2.2.2.2.2.2.2.2.1 G1) e9 Sa1.2.1 (by decide) (by decide) (by decide) (by decide) (by rw [hml]; rfl) (lenOf pd6 rfl) rfl (Nat.le_of_eq rfl) (hb hby d4_32) rfl (fun T10 X10 e10 => ?_)
  refine Wk.if_eqB X10 hx 44 38 (hb hby d4_35) rfl rfl (fun h11 => ?_) (fun h11 => absurd h11 (by exact m0))
  refine Wk.iinc (l' := #[.val (.ref a), .val (.ref r3), .val (.ref h0.size), .val (.int (4 : Int32)), .val (.int ((0 : Int32) + (1 : Int32))), .val (.ref r0)]) X10 hx (1 : Int32) (hb hby d4_44) rfl rfl rfl rfl ?_
  rw [show ((0 : Int32) + (1 : Int32)) = (1 : Int32) from by decide]
  refine Wk.goto X10 hx 14 (hb hby d4_47) rfl ?_
  refine Wk.iload X10 hx (hb hby d4_14) rfl rfl ?_
  refine Wk.iloadN X10 hx (hb hby d4_16) rfl rfl ?_
  refine Wk.icmp_ge X10 hx 50 20 (hb hby d4_17) rfl rfl (show ((1 : Int32) : Int32).toInt = 1 from (by decide)) (show ((4 : Int32) : Int32).toInt = 4 from (by decide)) (fun h12 => absurd h12 (by omega)) (fun h12 => ?_)
  refine Wk.aloadN X10 hx (hb hby d4_20) rfl rfl rfl ?_
  refine Wk.iload X10 hx (hb hby d4_21) rfl rfl ?_
  refine Wk.aaload X10 hx hZ e10 A1 rfl (by decide) (by decide) rfl (hb hby d4_23) rfl ?_
  refine Wk.astore (l' := #[.val (.ref a), .val (.ref r3), .val (.ref h0.size), .val (.int (4 : Int32)), .val (.int (1 : Int32)), .val (.ref r1)]) X10 hx (hb hby d4_24) rfl rfl rfl ?_
  refine Wk.aloadN X10 hx (hb hby d4_26) rfl rfl rfl ?_
  refine Wk.aload X10 hx (hb hby d4_27) rfl rfl rfl ?_
  refine Wk.getF (host := "") X10 hx hZ hown (Or.inl (hw _ (List.mem_of_getElem? (i := 47) rfl))) e10 S1.2.2.2.2.2.2.2.2.1 (hb hby d4_29) rfl (fun T13 X13 e13 => ?_)
  refine Wk.callVP (W := 0) X13 hx hZ (argsL := [(.ref x1)]) (rest := []) hown (hw _ (List.mem_of_getElem? (i := 49) rfl)) (hw _ (List.mem_of_getElem? (i := 50) rfl)) (hw _ (List.mem_of_getElem? (i := 52) rfl)) (hw _ (List.mem_of_getElem? (i := 51) rfl)) (hw _ (List.mem_of_getElem? (i := 1) rfl)) (hw _ (List.mem_of_getElem? (i := 53) rfl)) (notFace_of_selects (args := #[]) (mvT hZ (hw _ (List.mem_of_getElem? (i := 52) rfl)))) (by decide) (meqs l Z a0 hw cs hcs fv hfv a x1 us tS hx1 T7.heap Sa1 S1.2.2.2.2.2.2.2.2.2.2.2.2.1 G1) e13 Sa1.2.1 (by decide) (by decide) (by decide) (by decide) (by rw [hml]; rfl) (lenOf pd6 rfl) rfl (Nat.le_of_eq rfl) (hb hby d4_32) rfl (fun T14 X14 e14 => ?_)
  refine Wk.if_eqB X14 hx 44 38 (hb hby d4_35) rfl rfl (fun h15 => absurd h15 (by exact fun q => q cc)) (fun h15 => ?_)
  refine Wk.aload X14 hx (hb hby d4_38) rfl rfl rfl ?_
  refine Wk.astoreN (l' := #[.val (.ref a), .val (.ref r1), .val (.ref h0.size), .val (.int (4 : Int32)), .val (.int (1 : Int32)), .val (.ref r1)]) X14 hx (hb hby d4_40) rfl rfl rfl ?_
  refine Wk.goto X14 hx 50 (hb hby d4_41) rfl ?_
  refine Wk.aloadN X14 hx (hb hby d4_50) rfl rfl rfl ?_
  exact Wk.retA X14 hx hlk hret rfl rfl (hb hby d4_51) (by decide) (by decide) (by rw [e14]; exact ⟨rfl, rfl, Ex1⟩)
set_option maxRecDepth 65536 in
set_option maxHeartbeats 40000000 in
theorem mof2 (l : Launch) (Z : State) (a0 : Array Value) (hw : ∀ d ∈ tables_1, d.before a0 Z = true) (cs : Int32) (hcs : ¬ cs.toInt = 0) (fv : Value) (hfv : fv.isRef = true) (a : Addr) (us : List Int32) (m0 : ¬ us = tH) (m1 : ¬ us = tS) (cc : us = tM) (r0 r1 r2 r3 rv x0 x1 x2 : Addr) (kv : ClassId) (hx0 : a ≠ x0) (hx1 : a ≠ x1) (hx2 : a ≠ x2) (h0 : Heap) (Sa : Sv Z h0 a us) (S : Sb Z h0 r0 r1 r2 r3 rv x0 x1 x2 kv) (G : Sg Z h0 cs fv) : Wk.Met l Z (⟨"com/example/kuri/kuri/normalize/SchemeRules", "of", "(Ljava/lang/String;)Lcom/example/kuri/kuri/normalize/SchemeRules;"⟩ : MethodName) prog_13_method_4_code 6 (some (.object "com/example/kuri/kuri/normalize/SchemeRules")) [] { frames := 2, cells := 1, slots := 4, locals := 28 } #[(.ref a)] h0 (Qof r2 h0) := by
  refine Wk.start pn4 ?_
  intro p e s m below meth c s₁ X0 hx hby hml hown0 hnm hret hlk hZ e0
  have hown : s.vm.findClass "com/example/kuri/kuri/normalize/SchemeRules" = some m.cls := hown0
  refine Wk.enter (g' := (mkF m 0 #[.val (.ref a), .unset, .unset, .unset, .unset, .unset] [])) (by first | rfl | (simp [entryFrame, mkF, argsToLocals, Value.category, maxLocals]; done) | (simp [entryFrame, mkF, argsToLocals, hcat]; done) | (simp [entryFrame, mkF, argsToLocals, hcat]; rfl)) ?_
  refine Wk.getS (host := "") X0 hx hZ hown (Or.inl (hw _ (List.mem_of_getElem? (i := 27) rfl))) e0 S.1 (hb hby d4_0) rfl (fun T6 X6 e6 => ?_)
  refine Wk.astoreN (l' := #[.val (.ref a), .val (.ref r3), .unset, .unset, .unset, .unset]) X6 hx (hb hby d4_3) rfl rfl rfl ?_
  refine Wk.callS (W := 0) X6 hx hZ (argsL := []) (rest := []) hown (hw _ (List.mem_of_getElem? (i := 29) rfl)) (hw _ (List.mem_of_getElem? (i := 30) rfl)) (hw _ (List.mem_of_getElem? (i := 25) rfl)) (hw _ (List.mem_of_getElem? (i := 31) rfl)) (by decide) (mval l Z a0 hw r0 r1 r2 r3 rv x0 x1 x2 kv h0 S) e6 (by decide) (by decide) (by decide) (by decide) (by rw [hml]; rfl) (lenOf pd5 rfl) rfl (Nat.le_of_eq rfl) (hb hby d4_4) rfl (fun T7 v7 L7 X7 hq7 => ?_)
  obtain ⟨rfl, rfl, Ex1, A1⟩ := hq7
  rw [List.append_nil] at X7
  have S1 := S.ext Ex1
  have Sa1 := Sa.ext Ex1
  have G1 := G.ext Ex1
  show Wk.Go p e below _ _ _ _ T7 (mkF m 7 #[.val (.ref a), .val (.ref r3), .unset, .unset, .unset, .unset] [(.ref h0.size)])
  refine Wk.astoreN (l' := #[.val (.ref a), .val (.ref r3), .val (.ref h0.size), .unset, .unset, .unset]) X7 hx (hb hby d4_7) rfl rfl rfl ?_
  refine Wk.aloadN X7 hx (hb hby d4_8) rfl rfl rfl ?_
  refine Wk.alen X7 hx hZ rfl A1 (hb hby d4_9) rfl ?_
  refine Wk.istoreN (l' := #[.val (.ref a), .val (.ref r3), .val (.ref h0.size), .val (.int (4 : Int32)), .unset, .unset]) X7 hx (hb hby d4_10) rfl rfl ?_
  refine Wk.iconst X7 hx (0 : Int32) (hb hby d4_11) rfl rfl ?_
  refine Wk.istore (l' := #[.val (.ref a), .val (.ref r3), .val (.ref h0.size), .val (.int (4 : Int32)), .val (.int (0 : Int32)), .unset]) X7 hx (hb hby d4_12) rfl rfl ?_
  refine Wk.iload X7 hx (hb hby d4_14) rfl rfl ?_
  refine Wk.iloadN X7 hx (hb hby d4_16) rfl rfl ?_
  refine Wk.icmp_ge X7 hx 50 20 (hb hby d4_17) rfl rfl (show ((0 : Int32) : Int32).toInt = 0 from (by decide)) (show ((4 : Int32) : Int32).toInt = 4 from (by decide)) (fun h8 => absurd h8 (by omega)) (fun h8 => ?_)
  refine Wk.aloadN X7 hx (hb hby d4_20) rfl rfl rfl ?_
  refine Wk.iload X7 hx (hb hby d4_21) rfl rfl ?_
  refine Wk.aaload X7 hx hZ rfl A1 rfl (by decide) (by decide) rfl (hb hby d4_23) rfl ?_
  refine Wk.astore (l' := #[.val (.ref a), .val (.ref r3), .val (.ref h0.size), .val (.int (4 : Int32)), .val (.int (0 : Int32)), .val (.ref r0)]) X7 hx (hb hby d4_24) rfl rfl rfl ?_
  refine Wk.aloadN X7 hx (hb hby d4_26) rfl rfl rfl ?_
  refine Wk.aload X7 hx (hb hby d4_27) rfl rfl rfl ?_
  refine Wk.getF (host := "") X7 hx hZ hown (Or.inl (hw _ (List.mem_of_getElem? (i := 47) rfl))) rfl S1.2.2.2.2.2.2.2.1 (hb hby d4_29) rfl (fun T9 X9 e9 => ?_)
  refine Wk.callVP (W := 0) X9 hx hZ (argsL := [(.ref x0)]) (rest := []) hown (hw _ (List.mem_of_getElem? (i := 49) rfl)) (hw _ (List.mem_of_getElem? (i := 50) rfl)) (hw _ (List.mem_of_getElem? (i := 52) rfl)) (hw _ (List.mem_of_getElem? (i := 51) rfl)) (hw _ (List.mem_of_getElem? (i := 1) rfl)) (hw _ (List.mem_of_getElem? (i := 53) rfl)) (notFace_of_selects (args := #[]) (mvT hZ (hw _ (List.mem_of_getElem? (i := 52) rfl)))) (by decide) (meqs l Z a0 hw cs hcs fv hfv a x0 us tH hx0 T7.heap Sa1 S1.2.2.2.2.2.2.2.2.2.2.2.1 G1) e9 Sa1.2.1 (by decide) (by decide) (by decide) (by decide) (by rw [hml]; rfl) (lenOf pd6 rfl) rfl (Nat.le_of_eq rfl) (hb hby d4_32) rfl (fun T10 X10 e10 => ?_)
  refine Wk.if_eqB X10 hx 44 38 (hb hby d4_35) rfl rfl (fun h11 => ?_) (fun h11 => absurd h11 (by exact m0))
  refine Wk.iinc (l' := #[.val (.ref a), .val (.ref r3), .val (.ref h0.size), .val (.int (4 : Int32)), .val (.int ((0 : Int32) + (1 : Int32))), .val (.ref r0)]) X10 hx (1 : Int32) (hb hby d4_44) rfl rfl rfl rfl ?_
  rw [show ((0 : Int32) + (1 : Int32)) = (1 : Int32) from by decide]
  refine Wk.goto X10 hx 14 (hb hby d4_47) rfl ?_
  refine Wk.iload X10 hx (hb hby d4_14) rfl rfl ?_
  refine Wk.iloadN X10 hx (hb hby d4_16) rfl rfl ?_
  refine Wk.icmp_ge X10 hx 50 20 (hb hby d4_17) rfl rfl (show ((1 : Int32) : Int32).toInt = 1 from (by decide)) (show ((4 : Int32) : Int32).toInt = 4 from (by decide)) (fun h12 => absurd h12 (by omega)) (fun h12 => ?_)
  refine Wk.aloadN X10 hx (hb hby d4_20) rfl rfl rfl ?_
  refine Wk.iload X10 hx (hb hby d4_21) rfl rfl ?_
  refine Wk.aaload X10 hx hZ e10 A1 rfl (by decide) (by decide) rfl (hb hby d4_23) rfl ?_
  refine Wk.astore (l' := #[.val (.ref a), .val (.ref r3), .val (.ref h0.size), .val (.int (4 : Int32)), .val (.int (1 : Int32)), .val (.ref r1)]) X10 hx (hb hby d4_24) rfl rfl rfl ?_
  refine Wk.aloadN X10 hx (hb hby d4_26) rfl rfl rfl ?_
  refine Wk.aload X10 hx (hb hby d4_27) rfl rfl rfl ?_
  refine Wk.getF (host := "") X10 hx hZ hown (Or.inl (hw _ (List.mem_of_getElem? (i := 47) rfl))) e10 S1.2.2.2.2.2.2.2.2.1 (hb hby d4_29) rfl (fun T13 X13 e13 => ?_)
  refine Wk.callVP (W := 0) X13 hx hZ (argsL := [(.ref x1)]) (rest := []) hown (hw _ (List.mem_of_getElem? (i := 49) rfl)) (hw _ (List.mem_of_getElem? (i := 50) rfl)) (hw _ (List.mem_of_getElem? (i := 52) rfl)) (hw _ (List.mem_of_getElem? (i := 51) rfl)) (hw _ (List.mem_of_getElem? (i := 1) rfl)) (hw _ (List.mem_of_getElem? (i := 53) rfl)) (notFace_of_selects (args := #[]) (mvT hZ (hw _ (List.mem_of_getElem? (i := 52) rfl)))) (by decide) (meqs l Z a0 hw cs hcs fv hfv a x1 us tS hx1 T7.heap Sa1 S1.2.2.2.2.2.2.2.2.2.2.2.2.1 G1) e13 Sa1.2.1 (by decide) (by decide) (by decide) (by decide) (by rw [hml]; rfl) (lenOf pd6 rfl) rfl (Nat.le_of_eq rfl) (hb hby d4_32) rfl (fun T14 X14 e14 => ?_)
  refine Wk.if_eqB X14 hx 44 38 (hb hby d4_35) rfl rfl (fun h15 => ?_) (fun h15 => absurd h15 (by exact m1))
  refine Wk.iinc (l' := #[.val (.ref a), .val (.ref r3), .val (.ref h0.size), .val (.int (4 : Int32)), .val (.int ((1 : Int32) + (1 : Int32))), .val (.ref r1)]) X14 hx (1 : Int32) (hb hby d4_44) rfl rfl rfl rfl ?_
  rw [show ((1 : Int32) + (1 : Int32)) = (2 : Int32) from by decide]
  refine Wk.goto X14 hx 14 (hb hby d4_47) rfl ?_
  refine Wk.iload X14 hx (hb hby d4_14) rfl rfl ?_
  refine Wk.iloadN X14 hx (hb hby d4_16) rfl rfl ?_
  refine Wk.icmp_ge X14 hx 50 20 (hb hby d4_17) rfl rfl (show ((2 : Int32) : Int32).toInt = 2 from (by decide)) (show ((4 : Int32) : Int32).toInt = 4 from (by decide)) (fun h16 => absurd h16 (by omega)) (fun h16 => ?_)
  refine Wk.aloadN X14 hx (hb hby d4_20) rfl rfl rfl ?_
  refine Wk.iload X14 hx (hb hby d4_21) rfl rfl ?_
  refine Wk.aaload X14 hx hZ e14 A1 rfl (by decide) (by decide) rfl (hb hby d4_23) rfl ?_
  refine Wk.astore (l' := #[.val (.ref a), .val (.ref r3), .val (.ref h0.size), .val (.int (4 : Int32)), .val (.int (2 : Int32)), .val (.ref r2)]) X14 hx (hb hby d4_24) rfl rfl rfl ?_
  refine Wk.aloadN X14 hx (hb hby d4_26) rfl rfl rfl ?_
  refine Wk.aload X14 hx (hb hby d4_27) rfl rfl rfl ?_
  refine Wk.getF (host := "") X14 hx hZ hown (Or.inl (hw _ (List.mem_of_getElem? (i := 47) rfl))) e14 S1.2.2.2.2.2.2.2.2.2.1 (hb hby d4_29) rfl (fun T17 X17 e17 => ?_)
  refine Wk.callVP (W := 0) X17 hx hZ (argsL := [(.ref x2)]) (rest := []) hown (hw _ (List.mem_of_getElem? (i := 49) rfl)) (hw _ (List.mem_of_getElem? (i := 50) rfl)) (hw _ (List.mem_of_getElem? (i := 52) rfl)) (hw _ (List.mem_of_getElem? (i := 51) rfl)) (hw _ (List.mem_of_getElem? (i := 1) rfl)) (hw _ (List.mem_of_getElem? (i := 53) rfl)) (notFace_of_selects (args := #[]) (mvT hZ (hw _ (List.mem_of_getElem? (i := 52) rfl)))) (by decide) (meqs l Z a0 hw cs hcs fv hfv a x2 us tM hx2 T7.heap Sa1 S1.2.2.2.2.2.2.2.2.2.2.2.2.2 G1) e17 Sa1.2.1 (by decide) (by decide) (by decide) (by decide) (by rw [hml]; rfl) (lenOf pd6 rfl) rfl (Nat.le_of_eq rfl) (hb hby d4_32) rfl (fun T18 X18 e18 => ?_)
  refine Wk.if_eqB X18 hx 44 38 (hb hby d4_35) rfl rfl (fun h19 => absurd h19 (by exact fun q => q cc)) (fun h19 => ?_)
  refine Wk.aload X18 hx (hb hby d4_38) rfl rfl rfl ?_
  refine Wk.astoreN (l' := #[.val (.ref a), .val (.ref r2), .val (.ref h0.size), .val (.int (4 : Int32)), .val (.int (2 : Int32)), .val (.ref r2)]) X18 hx (hb hby d4_40) rfl rfl rfl ?_
  refine Wk.goto X18 hx 50 (hb hby d4_41) rfl ?_
  refine Wk.aloadN X18 hx (hb hby d4_50) rfl rfl rfl ?_
  exact Wk.retA X18 hx hlk hret rfl rfl (hb hby d4_51) (by decide) (by decide) (by rw [e18]; exact ⟨rfl, rfl, Ex1⟩)
set_option maxRecDepth 65536 in
set_option maxHeartbeats 40000000 in
theorem mof3 (l : Launch) (Z : State) (a0 : Array Value) (hw : ∀ d ∈ tables_1, d.before a0 Z = true) (cs : Int32) (hcs : ¬ cs.toInt = 0) (fv : Value) (hfv : fv.isRef = true) (a : Addr) (us : List Int32) (m0 : ¬ us = tH) (m1 : ¬ us = tS) (m2 : ¬ us = tM) (r0 r1 r2 r3 rv x0 x1 x2 : Addr) (kv : ClassId) (hx0 : a ≠ x0) (hx1 : a ≠ x1) (hx2 : a ≠ x2) (h0 : Heap) (Sa : Sv Z h0 a us) (S : Sb Z h0 r0 r1 r2 r3 rv x0 x1 x2 kv) (G : Sg Z h0 cs fv) : Wk.Met l Z (⟨"com/example/kuri/kuri/normalize/SchemeRules", "of", "(Ljava/lang/String;)Lcom/example/kuri/kuri/normalize/SchemeRules;"⟩ : MethodName) prog_13_method_4_code 6 (some (.object "com/example/kuri/kuri/normalize/SchemeRules")) [] { frames := 2, cells := 1, slots := 4, locals := 28 } #[(.ref a)] h0 (Qof r3 h0) := by
  refine Wk.start pn4 ?_
  intro p e s m below meth c s₁ X0 hx hby hml hown0 hnm hret hlk hZ e0
  have hown : s.vm.findClass "com/example/kuri/kuri/normalize/SchemeRules" = some m.cls := hown0
  refine Wk.enter (g' := (mkF m 0 #[.val (.ref a), .unset, .unset, .unset, .unset, .unset] [])) (by first | rfl | (simp [entryFrame, mkF, argsToLocals, Value.category, maxLocals]; done) | (simp [entryFrame, mkF, argsToLocals, hcat]; done) | (simp [entryFrame, mkF, argsToLocals, hcat]; rfl)) ?_
  refine Wk.getS (host := "") X0 hx hZ hown (Or.inl (hw _ (List.mem_of_getElem? (i := 27) rfl))) e0 S.1 (hb hby d4_0) rfl (fun T6 X6 e6 => ?_)
  refine Wk.astoreN (l' := #[.val (.ref a), .val (.ref r3), .unset, .unset, .unset, .unset]) X6 hx (hb hby d4_3) rfl rfl rfl ?_
  refine Wk.callS (W := 0) X6 hx hZ (argsL := []) (rest := []) hown (hw _ (List.mem_of_getElem? (i := 29) rfl)) (hw _ (List.mem_of_getElem? (i := 30) rfl)) (hw _ (List.mem_of_getElem? (i := 25) rfl)) (hw _ (List.mem_of_getElem? (i := 31) rfl)) (by decide) (mval l Z a0 hw r0 r1 r2 r3 rv x0 x1 x2 kv h0 S) e6 (by decide) (by decide) (by decide) (by decide) (by rw [hml]; rfl) (lenOf pd5 rfl) rfl (Nat.le_of_eq rfl) (hb hby d4_4) rfl (fun T7 v7 L7 X7 hq7 => ?_)
  obtain ⟨rfl, rfl, Ex1, A1⟩ := hq7
  rw [List.append_nil] at X7
  have S1 := S.ext Ex1
  have Sa1 := Sa.ext Ex1
  have G1 := G.ext Ex1
  show Wk.Go p e below _ _ _ _ T7 (mkF m 7 #[.val (.ref a), .val (.ref r3), .unset, .unset, .unset, .unset] [(.ref h0.size)])
  refine Wk.astoreN (l' := #[.val (.ref a), .val (.ref r3), .val (.ref h0.size), .unset, .unset, .unset]) X7 hx (hb hby d4_7) rfl rfl rfl ?_
  refine Wk.aloadN X7 hx (hb hby d4_8) rfl rfl rfl ?_
  refine Wk.alen X7 hx hZ rfl A1 (hb hby d4_9) rfl ?_
  refine Wk.istoreN (l' := #[.val (.ref a), .val (.ref r3), .val (.ref h0.size), .val (.int (4 : Int32)), .unset, .unset]) X7 hx (hb hby d4_10) rfl rfl ?_
  refine Wk.iconst X7 hx (0 : Int32) (hb hby d4_11) rfl rfl ?_
  refine Wk.istore (l' := #[.val (.ref a), .val (.ref r3), .val (.ref h0.size), .val (.int (4 : Int32)), .val (.int (0 : Int32)), .unset]) X7 hx (hb hby d4_12) rfl rfl ?_
  refine Wk.iload X7 hx (hb hby d4_14) rfl rfl ?_
  refine Wk.iloadN X7 hx (hb hby d4_16) rfl rfl ?_
  refine Wk.icmp_ge X7 hx 50 20 (hb hby d4_17) rfl rfl (show ((0 : Int32) : Int32).toInt = 0 from (by decide)) (show ((4 : Int32) : Int32).toInt = 4 from (by decide)) (fun h8 => absurd h8 (by omega)) (fun h8 => ?_)
  refine Wk.aloadN X7 hx (hb hby d4_20) rfl rfl rfl ?_
  refine Wk.iload X7 hx (hb hby d4_21) rfl rfl ?_
  refine Wk.aaload X7 hx hZ rfl A1 rfl (by decide) (by decide) rfl (hb hby d4_23) rfl ?_
  refine Wk.astore (l' := #[.val (.ref a), .val (.ref r3), .val (.ref h0.size), .val (.int (4 : Int32)), .val (.int (0 : Int32)), .val (.ref r0)]) X7 hx (hb hby d4_24) rfl rfl rfl ?_
  refine Wk.aloadN X7 hx (hb hby d4_26) rfl rfl rfl ?_
  refine Wk.aload X7 hx (hb hby d4_27) rfl rfl rfl ?_
  refine Wk.getF (host := "") X7 hx hZ hown (Or.inl (hw _ (List.mem_of_getElem? (i := 47) rfl))) rfl S1.2.2.2.2.2.2.2.1 (hb hby d4_29) rfl (fun T9 X9 e9 => ?_)
  refine Wk.callVP (W := 0) X9 hx hZ (argsL := [(.ref x0)]) (rest := []) hown (hw _ (List.mem_of_getElem? (i := 49) rfl)) (hw _ (List.mem_of_getElem? (i := 50) rfl)) (hw _ (List.mem_of_getElem? (i := 52) rfl)) (hw _ (List.mem_of_getElem? (i := 51) rfl)) (hw _ (List.mem_of_getElem? (i := 1) rfl)) (hw _ (List.mem_of_getElem? (i := 53) rfl)) (notFace_of_selects (args := #[]) (mvT hZ (hw _ (List.mem_of_getElem? (i := 52) rfl)))) (by decide) (meqs l Z a0 hw cs hcs fv hfv a x0 us tH hx0 T7.heap Sa1 S1.2.2.2.2.2.2.2.2.2.2.2.1 G1) e9 Sa1.2.1 (by decide) (by decide) (by decide) (by decide) (by rw [hml]; rfl) (lenOf pd6 rfl) rfl (Nat.le_of_eq rfl) (hb hby d4_32) rfl (fun T10 X10 e10 => ?_)
  refine Wk.if_eqB X10 hx 44 38 (hb hby d4_35) rfl rfl (fun h11 => ?_) (fun h11 => absurd h11 (by exact m0))
  refine Wk.iinc (l' := #[.val (.ref a), .val (.ref r3), .val (.ref h0.size), .val (.int (4 : Int32)), .val (.int ((0 : Int32) + (1 : Int32))), .val (.ref r0)]) X10 hx (1 : Int32) (hb hby d4_44) rfl rfl rfl rfl ?_
  rw [show ((0 : Int32) + (1 : Int32)) = (1 : Int32) from by decide]
  refine Wk.goto X10 hx 14 (hb hby d4_47) rfl ?_
  refine Wk.iload X10 hx (hb hby d4_14) rfl rfl ?_
  refine Wk.iloadN X10 hx (hb hby d4_16) rfl rfl ?_
  refine Wk.icmp_ge X10 hx 50 20 (hb hby d4_17) rfl rfl (show ((1 : Int32) : Int32).toInt = 1 from (by decide)) (show ((4 : Int32) : Int32).toInt = 4 from (by decide)) (fun h12 => absurd h12 (by omega)) (fun h12 => ?_)
  refine Wk.aloadN X10 hx (hb hby d4_20) rfl rfl rfl ?_
  refine Wk.iload X10 hx (hb hby d4_21) rfl rfl ?_
  refine Wk.aaload X10 hx hZ e10 A1 rfl (by decide) (by decide) rfl (hb hby d4_23) rfl ?_
  refine Wk.astore (l' := #[.val (.ref a), .val (.ref r3), .val (.ref h0.size), .val (.int (4 : Int32)), .val (.int (1 : Int32)), .val (.ref r1)]) X10 hx (hb hby d4_24) rfl rfl rfl ?_
  refine Wk.aloadN X10 hx (hb hby d4_26) rfl rfl rfl ?_
  refine Wk.aload X10 hx (hb hby d4_27) rfl rfl rfl ?_
  refine Wk.getF (host := "") X10 hx hZ hown (Or.inl (hw _ (List.mem_of_getElem? (i := 47) rfl))) e10 S1.2.2.2.2.2.2.2.2.1 (hb hby d4_29) rfl (fun T13 X13 e13 => ?_)
  refine Wk.callVP (W := 0) X13 hx hZ (argsL := [(.ref x1)]) (rest := []) hown (hw _ (List.mem_of_getElem? (i := 49) rfl)) (hw _ (List.mem_of_getElem? (i := 50) rfl)) (hw _ (List.mem_of_getElem? (i := 52) rfl)) (hw _ (List.mem_of_getElem? (i := 51) rfl)) (hw _ (List.mem_of_getElem? (i := 1) rfl)) (hw _ (List.mem_of_getElem? (i := 53) rfl)) (notFace_of_selects (args := #[]) (mvT hZ (hw _ (List.mem_of_getElem? (i := 52) rfl)))) (by decide) (meqs l Z a0 hw cs hcs fv hfv a x1 us tS hx1 T7.heap Sa1 S1.2.2.2.2.2.2.2.2.2.2.2.2.1 G1) e13 Sa1.2.1 (by decide) (by decide) (by decide) (by decide) (by rw [hml]; rfl) (lenOf pd6 rfl) rfl (Nat.le_of_eq rfl) (hb hby d4_32) rfl (fun T14 X14 e14 => ?_)
  refine Wk.if_eqB X14 hx 44 38 (hb hby d4_35) rfl rfl (fun h15 => ?_) (fun h15 => absurd h15 (by exact m1))
  refine Wk.iinc (l' := #[.val (.ref a), .val (.ref r3), .val (.ref h0.size), .val (.int (4 : Int32)), .val (.int ((1 : Int32) + (1 : Int32))), .val (.ref r1)]) X14 hx (1 : Int32) (hb hby d4_44) rfl rfl rfl rfl ?_
  rw [show ((1 : Int32) + (1 : Int32)) = (2 : Int32) from by decide]
  refine Wk.goto X14 hx 14 (hb hby d4_47) rfl ?_
  refine Wk.iload X14 hx (hb hby d4_14) rfl rfl ?_
  refine Wk.iloadN X14 hx (hb hby d4_16) rfl rfl ?_
  refine Wk.icmp_ge X14 hx 50 20 (hb hby d4_17) rfl rfl (show ((2 : Int32) : Int32).toInt = 2 from (by decide)) (show ((4 : Int32) : Int32).toInt = 4 from (by decide)) (fun h16 => absurd h16 (by omega)) (fun h16 => ?_)
  refine Wk.aloadN X14 hx (hb hby d4_20) rfl rfl rfl ?_
  refine Wk.iload X14 hx (hb hby d4_21) rfl rfl ?_
  refine Wk.aaload X14 hx hZ e14 A1 rfl (by decide) (by decide) rfl (hb hby d4_23) rfl ?_
  refine Wk.astore (l' := #[.val (.ref a), .val (.ref r3), .val (.ref h0.size), .val (.int (4 : Int32)), .val (.int (2 : Int32)), .val (.ref r2)]) X14 hx (hb hby d4_24) rfl rfl rfl ?_
  refine Wk.aloadN X14 hx (hb hby d4_26) rfl rfl rfl ?_
  refine Wk.aload X14 hx (hb hby d4_27) rfl rfl rfl ?_
  refine Wk.getF (host := "") X14 hx hZ hown (Or.inl (hw _ (List.mem_of_getElem? (i := 47) rfl))) e14 S1.2.2.2.2.2.2.2.2.2.1 (hb hby d4_29) rfl (fun T17 X17 e17 => ?_)
  refine Wk.callVP (W := 0) X17 hx hZ (argsL := [(.ref x2)]) (rest := []) hown (hw _ (List.mem_of_getElem? (i := 49) rfl)) (hw _ (List.mem_of_getElem? (i := 50) rfl)) (hw _ (List.mem_of_getElem? (i := 52) rfl)) (hw _ (List.mem_of_getElem? (i := 51) rfl)) (hw _ (List.mem_of_getElem? (i := 1) rfl)) (hw _ (List.mem_of_getElem? (i := 53) rfl)) (notFace_of_selects (args := #[]) (mvT hZ (hw _ (List.mem_of_getElem? (i := 52) rfl)))) (by decide) (meqs l Z a0 hw cs hcs fv hfv a x2 us tM hx2 T7.heap Sa1 S1.2.2.2.2.2.2.2.2.2.2.2.2.2 G1) e17 Sa1.2.1 (by decide) (by decide) (by decide) (by decide) (by rw [hml]; rfl) (lenOf pd6 rfl) rfl (Nat.le_of_eq rfl) (hb hby d4_32) rfl (fun T18 X18 e18 => ?_)
  refine Wk.if_eqB X18 hx 44 38 (hb hby d4_35) rfl rfl (fun h19 => ?_) (fun h19 => absurd h19 (by exact m2))
  refine Wk.iinc (l' := #[.val (.ref a), .val (.ref r3), .val (.ref h0.size), .val (.int (4 : Int32)), .val (.int ((2 : Int32) + (1 : Int32))), .val (.ref r2)]) X18 hx (1 : Int32) (hb hby d4_44) rfl rfl rfl rfl ?_
  rw [show ((2 : Int32) + (1 : Int32)) = (3 : Int32) from by decide]
  refine Wk.goto X18 hx 14 (hb hby d4_47) rfl ?_
  refine Wk.iload X18 hx (hb hby d4_14) rfl rfl ?_
  refine Wk.iloadN X18 hx (hb hby d4_16) rfl rfl ?_
  refine Wk.icmp_ge X18 hx 50 20 (hb hby d4_17) rfl rfl (show ((3 : Int32) : Int32).toInt = 3 from (by decide)) (show ((4 : Int32) : Int32).toInt = 4 from (by decide)) (fun h20 => absurd h20 (by omega)) (fun h20 => ?_)
  refine Wk.aloadN X18 hx (hb hby d4_20) rfl rfl rfl ?_
  refine Wk.iload X18 hx (hb hby d4_21) rfl rfl ?_
  refine Wk.aaload X18 hx hZ e18 A1 rfl (by decide) (by decide) rfl (hb hby d4_23) rfl ?_
  refine Wk.astore (l' := #[.val (.ref a), .val (.ref r3), .val (.ref h0.size), .val (.int (4 : Int32)), .val (.int (3 : Int32)), .val (.ref r3)]) X18 hx (hb hby d4_24) rfl rfl rfl ?_
  refine Wk.aloadN X18 hx (hb hby d4_26) rfl rfl rfl ?_
  refine Wk.aload X18 hx (hb hby d4_27) rfl rfl rfl ?_
  refine Wk.getF (host := "") X18 hx hZ hown (Or.inl (hw _ (List.mem_of_getElem? (i := 47) rfl))) e18 S1.2.2.2.2.2.2.2.2.2.2.1 (hb hby d4_29) rfl (fun T21 X21 e21 => ?_)
  refine Wk.callVP (W := 0) X21 hx hZ (argsL := [(.null)]) (rest := []) hown (hw _ (List.mem_of_getElem? (i := 49) rfl)) (hw _ (List.mem_of_getElem? (i := 50) rfl)) (hw _ (List.mem_of_getElem? (i := 52) rfl)) (hw _ (List.mem_of_getElem? (i := 51) rfl)) (hw _ (List.mem_of_getElem? (i := 1) rfl)) (hw _ (List.mem_of_getElem? (i := 53) rfl)) (notFace_of_selects (args := #[]) (mvT hZ (hw _ (List.mem_of_getElem? (i := 52) rfl)))) (by decide) (meqn l Z a0 hw a T7.heap) e21 Sa1.2.1 (by decide) (by decide) (by decide) (by decide) (by rw [hml]; rfl) (lenOf pd6 rfl) rfl (Nat.le_of_eq rfl) (hb hby d4_32) rfl (fun T22 X22 e22 => ?_)
  refine Wk.if_eq X22 hx 44 38 (hb hby d4_35) rfl rfl (show ((0 : Int32) : Int32).toInt = 0 from (by decide)) (fun h23 => ?_) (fun h23 => absurd h23 (by omega))
  refine Wk.iinc (l' := #[.val (.ref a), .val (.ref r3), .val (.ref h0.size), .val (.int (4 : Int32)), .val (.int ((3 : Int32) + (1 : Int32))), .val (.ref r3)]) X22 hx (1 : Int32) (hb hby d4_44) rfl rfl rfl rfl ?_
  rw [show ((3 : Int32) + (1 : Int32)) = (4 : Int32) from by decide]
  refine Wk.goto X22 hx 14 (hb hby d4_47) rfl ?_
  refine Wk.iload X22 hx (hb hby d4_14) rfl rfl ?_
  refine Wk.iloadN X22 hx (hb hby d4_16) rfl rfl ?_
  refine Wk.icmp_ge X22 hx 50 20 (hb hby d4_17) rfl rfl (show ((4 : Int32) : Int32).toInt = 4 from (by decide)) (show ((4 : Int32) : Int32).toInt = 4 from (by decide)) (fun h24 => ?_) (fun h24 => absurd h24 (by omega))
  refine Wk.aloadN X22 hx (hb hby d4_50) rfl rfl rfl ?_
  exact Wk.retA X22 hx hlk hret rfl rfl (hb hby d4_51) (by decide) (by decide) (by rw [e22]; exact ⟨rfl, rfl, Ex1⟩)
def LO (Z s : State) (vm : Vm) (index : Nat) (text : String) (lst : List Int32) (h : Heap) (Ts : List String) : Prop := text ∉ Ts ∨ ∃ x, Jvm.RoadKit.Lit (s.setVm vm) "com/example/kuri/kuri/normalize/SchemeRulesOfPinLaw" index x ∧ Sv Z h x lst
def LOK (Z s : State) (vm : Vm) (index : Nat) (text : String) (lst : List Int32) (a : Addr) (h : Heap) (Ts : List String) : Prop := text ∉ Ts ∨ ∃ x, Jvm.RoadKit.Lit (s.setVm vm) "com/example/kuri/kuri/normalize/SchemeRulesOfPinLaw" index x ∧ (Sv Z h x lst ∧ x ≠ a)
theorem LO.ext {Z s : State} {vm : Vm} {index : Nat} {text : String} {lst : List Int32} {h h' : Heap} {Ts : List String} (L : LO Z s vm index text lst h Ts) (E : Ext h h') : LO Z s vm index text lst h' Ts := L.imp id (fun ⟨x, l1, s1⟩ => ⟨x, l1, s1.ext E⟩)
theorem LO.to {Z s : State} {vm : Vm} {index : Nat} {text : String} {lst : List Int32} {h h' : Heap} {Ts : List String} (L : LO Z s vm index text lst h Ts) (E : Ext h h') : LOK Z s vm index text lst h.size h' Ts := L.imp id (fun ⟨x, l1, s1⟩ => ⟨x, l1, s1.ext E, Nat.ne_of_lt s1.2.1.lt⟩)
theorem LOK.ext {Z s : State} {vm : Vm} {index : Nat} {text : String} {lst : List Int32} {a : Addr} {h h' : Heap} {Ts : List String} (L : LOK Z s vm index text lst a h Ts) (E : Ext h h') : LOK Z s vm index text lst a h' Ts := L.imp id (fun ⟨x, l1, s1, n1⟩ => ⟨x, l1, s1.ext E, n1⟩)
theorem LOK.step {Z s : State} {vm vm1 : Vm} {index : Nat} {text t' : String} {lst : List Int32} {a : Addr} {h h' : Heap} {Ts : List String} (hne : text ≠ t') (L : LOK Z s vm index text lst a h Ts) (hW : (s.setVm vm).Warmed39 vm1) (E : Ext h h') : LOK Z s vm1 index text lst a h' (t' :: Ts) :=
  L.elim (fun q => Or.inl fun z => (List.mem_cons.mp z).elim hne q) (fun ⟨x, l1, s1, n1⟩ => Or.inr ⟨x, Jvm.RoadKit.Lit.stays l1 hW, s1.ext E, n1⟩)
theorem mkSv {Z : State} {h : Heap} {x v : Addr} {kb : ClassId} {z : Int32} {lst : List Int32} (hc : Ch lst) (hl : ∀ u ∈ lst, u.toInt ≤ 255) (hz : z.toInt = (lst.length : Int)) (E : Exa Z h x "java/lang/String") (Fc : Fld Z h x "java/lang/String" "coder" "B" (.int 0)) (Fv : Fld Z h x "java/lang/String" "value" "[B" (.ref v)) (A : Arv Z h v kb .byte z (bl lst) (.int 0)) : Sv Z h x lst := ⟨hc, E, v, kb, z, Fv, Fc, hz, hl, A⟩
set_option maxRecDepth 65536 in
set_option maxHeartbeats 40000000 in
theorem stD0 {l : Launch} {Z : State} (a0 : Array Value) (hw : ∀ d ∈ tables_1, d.before a0 Z = true) {p : Program} {e : Env} {s : State} {vm0 : Vm} {k0 : Nat} {m : MethodId} {args : Array Value} {below : List Frame} {meth : Method} {c : Code} (hx : p.tables.exec = Jvm.exec) (hby : c.code = code) (hml : c.maxLocals = maxLocals) (hown : (s.setVm vm0).vm.findClass "com/example/kuri/kuri/normalize/SchemeRulesOfPinLaw" = some m.cls) (hret : meth.sig.returnType = some .boolean) (hlk : meth.locks = false) (hZ : Z.Warmed39 (s.setVm vm0).vm) (hS : s.Since vm0 k0) (cs : Int32) (hcs : ¬ cs.toInt = 0) (fv : Value) (hfv : fv.isRef = true) (hO : Wk.Old Z s.heap) (hcw : Jvm.Lit.compactW.before a0 Z = true) (hhE : Jvm.Lit.constHeld Z "java/lang/String" 7) (hh19 : Jvm.Lit.constHeld Z "com/example/kuri/kuri/normalize/SchemeRulesOfPinLaw" 19) (hh21 : Jvm.Lit.constHeld Z "com/example/kuri/kuri/normalize/SchemeRulesOfPinLaw" 21) (hh23 : Jvm.Lit.constHeld Z "com/example/kuri/kuri/normalize/SchemeRulesOfPinLaw" 23) (hh25 : Jvm.Lit.constHeld Z "com/example/kuri/kuri/normalize/SchemeRulesOfPinLaw" 25) (n0 : Nat) (hns : s.heap.size = n0) (r0 r1 r2 r3 rv x0 x1 x2 : Addr) (kv : ClassId) (hx0 : x0 < n0) (hx1 : x1 < n0) (hx2 : x2 < n0) (q0 q1 q2 q3 q4 q5 q6 q7 : Slot) (la a : Addr) (us : List Int32) (cc : us = tH) {Ts : List String} (hI : Jvm.RoadKit.IB Z vm0 Ts) (T : State) (h : Heap) (hL19 : LOK Z s vm0 19 "http" tH a h Ts) (hL21 : LOK Z s vm0 21 "https" tS a h Ts) (hL23 : LOK Z s vm0 23 "mailto" tM a h Ts) (L0 : List Loc) (X0 : Stand p l e room_1 (s.setVm vm0) m args below meth c T L0 6 46) (e0 : T.heap = h) (hk0 : k0 ≤ h.size) (N0 : Fr n0 L0) (ha0 : n0 ≤ a) (Sa : Sv Z h a us) (S : Sb Z h r0 r1 r2 r3 rv x0 x1 x2 kv) (G : Sg Z h cs fv) : Wk.Go p e below (Wk.EndV s (fun _ => True)) (Wk.Fq (.int 1) n0) 32 5248 T (mkF m 228 #[q0, q1, q2, q3, q4, q5, q6, q7, .val (.ref la), .unset, .unset, .unset] [(.ref a)]) := by
  have hal : a < h.size := Sa.2.1.lt
  refine Wk.astore (l' := #[q0, q1, q2, q3, q4, q5, q6, q7, .val (.ref la), .val (.ref a), .unset, .unset]) X0 hx (hb hby at_228) rfl rfl rfl ?_
  refine Wk.aload X0 hx (hb hby at_230) rfl rfl rfl ?_
  refine Wk.callS (W := 0) X0 hx hZ (argsL := [(.ref a)]) (rest := []) hown (hw _ (List.mem_of_getElem? (i := 23) rfl)) (hw _ (List.mem_of_getElem? (i := 24) rfl)) (hw _ (List.mem_of_getElem? (i := 25) rfl)) (hw _ (List.mem_of_getElem? (i := 26) rfl)) (by decide) (mof0 l Z a0 hw cs hcs fv hfv a us cc r0 r1 r2 r3 rv x0 x1 x2 kv (fun q => Nat.lt_irrefl n0 (Nat.lt_of_le_of_lt ha0 (q.symm ▸ hx0))) (fun q => Nat.lt_irrefl n0 (Nat.lt_of_le_of_lt ha0 (q.symm ▸ hx1))) (fun q => Nat.lt_irrefl n0 (Nat.lt_of_le_of_lt ha0 (q.symm ▸ hx2))) h Sa S G) e0 (by decide) (by decide) (by decide) (by decide) (by rw [hml]; rfl) (lenOf pd4 rfl) rfl (Nat.le_of_eq rfl) (hb hby at_232) rfl (fun T21 v21 L21 X21 hq21 => ?_)
  obtain ⟨rfl, rfl, Ex1⟩ := hq21
  rw [List.append_nil] at X21
  show Wk.Go p e below _ _ _ _ T21 (mkF m 235 #[q0, q1, q2, q3, q4, q5, q6, q7, .val (.ref la), .val (.ref a), .unset, .unset] [(.ref r0)])
  refine Wk.astore (l' := #[q0, q1, q2, q3, q4, q5, q6, q7, .val (.ref la), .val (.ref a), .val (.ref r0), .unset]) X21 hx (hb hby at_235) rfl rfl rfl ?_
  refine Wk.getS (host := "") X21 hx hZ hown (Or.inl (hw _ (List.mem_of_getElem? (i := 60) rfl))) rfl ((S.ext Ex1).1) (hb hby at_237) rfl (fun T22 X22 e22 => ?_)
  refine Wk.astore (l' := #[q0, q1, q2, q3, q4, q5, q6, q7, .val (.ref la), .val (.ref a), .val (.ref r0), .val (.ref r3)]) X22 hx (hb hby at_240) rfl rfl rfl ?_
  refine Wk.aload X22 hx (hb hby at_242) rfl rfl rfl ?_
  refine Wk.ldcE X22 hx hZ hS hown (hw _ (List.mem_of_getElem? (i := 0) rfl)) (hStr hw) e22 (Nat.le_trans hk0 Ex1.1) (by rw [hns]; exact N0) hO hI (Pr := fun x h => Sv Z h x tH ∧ x ≠ a) (hL19.ext Ex1) hh19 hcw lit_tH (z := 4) (by decide) rfl (fun x h' b2 kb E1 E2 F1 F2 A1 hsep => ⟨mkSv ch_tH le_tH rfl E2 F1 F2 A1, fun q => hsep.elim (fun u => Nat.lt_irrefl n0 (Nat.lt_of_le_of_lt ha0 (by rw [hns] at u; exact q ▸ u))) (fun u => Nat.lt_irrefl a (Nat.lt_of_lt_of_le hal (Nat.le_trans Ex1.1 (q ▸ u))))⟩) 16 (by decide) (by decide) (by decide) (by decide) (hb hby at_244) rfl (fun y2 T2 h2 vm2 k2 X2 e2 Ex2 hS hk2 hZ hown hP2 hI2 hWm2 _ => ?_)
  have EX2 := Wk.ext_trans Ex1 Ex2
  refine Wk.callVP (W := 0) X2 hx hZ (argsL := [(.ref y2)]) (rest := []) hown (hw _ (List.mem_of_getElem? (i := 61) rfl)) (hw _ (List.mem_of_getElem? (i := 50) rfl)) (hw _ (List.mem_of_getElem? (i := 52) rfl)) (hw _ (List.mem_of_getElem? (i := 51) rfl)) (hw _ (List.mem_of_getElem? (i := 1) rfl)) (hw _ (List.mem_of_getElem? (i := 53) rfl)) (notFace_of_selects (args := #[]) (mvT hZ (hw _ (List.mem_of_getElem? (i := 52) rfl)))) (by decide) (meqs l Z a0 hw cs hcs fv hfv a y2 us tH (fun q => hP2.2 q.symm) h2 (Sa.ext EX2) hP2.1 (G.ext EX2)) e2 (Sa.ext EX2).2.1 (by decide) (by decide) (by decide) (by decide) (by rw [hml]; rfl) (lenOf pd6 rfl) rfl (Nat.le_of_eq rfl) (hb hby at_246) rfl (fun T23 X23 e23 => ?_)
  refine Wk.if_eqB X23 hx 260 252 (hb hby at_249) rfl rfl (fun h24 => absurd h24 (by exact fun q => q cc)) (fun h24 => ?_)
  refine Wk.getS (host := "") X23 hx hZ hown (Or.inl (hw _ (List.mem_of_getElem? (i := 111) rfl))) e23 ((S.ext EX2).2.1) (hb hby at_252) rfl (fun T25 X25 e25 => ?_)
  refine Wk.astore (l' := #[q0, q1, q2, q3, q4, q5, q6, q7, .val (.ref la), .val (.ref a), .val (.ref r0), .val (.ref r0)]) X25 hx (hb hby at_255) rfl rfl rfl ?_
  refine Wk.goto X25 hx 293 (hb hby at_257) rfl ?_
  refine Wk.aload X25 hx (hb hby at_293) rfl rfl rfl ?_
  refine Wk.aload X25 hx (hb hby at_295) rfl rfl rfl ?_
  refine Wk.acmp_ne X25 hx 304 300 (hb hby at_297) rfl rfl rfl rfl (fun h26 => absurd h26 (fun q => q rfl)) (fun h26 => ?_)
  refine Wk.iconst X25 hx (1 : Int32) (hb hby at_300) rfl rfl ?_
  refine Wk.goto X25 hx 305 (hb hby at_301) rfl ?_
  exact Wk.retZV X25 hx hS (by rw [e25]; exact hk2) trivial hlk hret (hb hby at_305) (by decide) (by decide) (by decide) ⟨rfl, N0⟩
set_option maxRecDepth 65536 in
set_option maxHeartbeats 40000000 in
theorem stD1 {l : Launch} {Z : State} (a0 : Array Value) (hw : ∀ d ∈ tables_1, d.before a0 Z = true) {p : Program} {e : Env} {s : State} {vm0 : Vm} {k0 : Nat} {m : MethodId} {args : Array Value} {below : List Frame} {meth : Method} {c : Code} (hx : p.tables.exec = Jvm.exec) (hby : c.code = code) (hml : c.maxLocals = maxLocals) (hown : (s.setVm vm0).vm.findClass "com/example/kuri/kuri/normalize/SchemeRulesOfPinLaw" = some m.cls) (hret : meth.sig.returnType = some .boolean) (hlk : meth.locks = false) (hZ : Z.Warmed39 (s.setVm vm0).vm) (hS : s.Since vm0 k0) (cs : Int32) (hcs : ¬ cs.toInt = 0) (fv : Value) (hfv : fv.isRef = true) (hO : Wk.Old Z s.heap) (hcw : Jvm.Lit.compactW.before a0 Z = true) (hhE : Jvm.Lit.constHeld Z "java/lang/String" 7) (hh19 : Jvm.Lit.constHeld Z "com/example/kuri/kuri/normalize/SchemeRulesOfPinLaw" 19) (hh21 : Jvm.Lit.constHeld Z "com/example/kuri/kuri/normalize/SchemeRulesOfPinLaw" 21) (hh23 : Jvm.Lit.constHeld Z "com/example/kuri/kuri/normalize/SchemeRulesOfPinLaw" 23) (hh25 : Jvm.Lit.constHeld Z "com/example/kuri/kuri/normalize/SchemeRulesOfPinLaw" 25) (n0 : Nat) (hns : s.heap.size = n0) (r0 r1 r2 r3 rv x0 x1 x2 : Addr) (kv : ClassId) (hx0 : x0 < n0) (hx1 : x1 < n0) (hx2 : x2 < n0) (q0 q1 q2 q3 q4 q5 q6 q7 : Slot) (la a : Addr) (us : List Int32) (m0 : ¬ us = tH) (cc : us = tS) {Ts : List String} (hI : Jvm.RoadKit.IB Z vm0 Ts) (T : State) (h : Heap) (hL19 : LOK Z s vm0 19 "http" tH a h Ts) (hL21 : LOK Z s vm0 21 "https" tS a h Ts) (hL23 : LOK Z s vm0 23 "mailto" tM a h Ts) (L0 : List Loc) (X0 : Stand p l e room_1 (s.setVm vm0) m args below meth c T L0 6 46) (e0 : T.heap = h) (hk0 : k0 ≤ h.size) (N0 : Fr n0 L0) (ha0 : n0 ≤ a) (Sa : Sv Z h a us) (S : Sb Z h r0 r1 r2 r3 rv x0 x1 x2 kv) (G : Sg Z h cs fv) : Wk.Go p e below (Wk.EndV s (fun _ => True)) (Wk.Fq (.int 1) n0) 32 5248 T (mkF m 228 #[q0, q1, q2, q3, q4, q5, q6, q7, .val (.ref la), .unset, .unset, .unset] [(.ref a)]) := by
  have hal : a < h.size := Sa.2.1.lt
  refine Wk.astore (l' := #[q0, q1, q2, q3, q4, q5, q6, q7, .val (.ref la), .val (.ref a), .unset, .unset]) X0 hx (hb hby at_228) rfl rfl rfl ?_
  refine Wk.aload X0 hx (hb hby at_230) rfl rfl rfl ?_
  refine Wk.callS (W := 0) X0 hx hZ (argsL := [(.ref a)]) (rest := []) hown (hw _ (List.mem_of_getElem? (i := 23) rfl)) (hw _ (List.mem_of_getElem? (i := 24) rfl)) (hw _ (List.mem_of_getElem? (i := 25) rfl)) (hw _ (List.mem_of_getElem? (i := 26) rfl)) (by decide) (mof1 l Z a0 hw cs hcs fv hfv a us m0 cc r0 r1 r2 r3 rv x0 x1 x2 kv (fun q => Nat.lt_irrefl n0 (Nat.lt_of_le_of_lt ha0 (q.symm ▸ hx0))) (fun q => Nat.lt_irrefl n0 (Nat.lt_of_le_of_lt ha0 (q.symm ▸ hx1))) (fun q => Nat.lt_irrefl n0 (Nat.lt_of_le_of_lt ha0 (q.symm ▸ hx2))) h Sa S G) e0 (by decide) (by decide) (by decide) (by decide) (by rw [hml]; rfl) (lenOf pd4 rfl) rfl (Nat.le_of_eq rfl) (hb hby at_232) rfl (fun T21 v21 L21 X21 hq21 => ?_)
  obtain ⟨rfl, rfl, Ex1⟩ := hq21
  rw [List.append_nil] at X21
  show Wk.Go p e below _ _ _ _ T21 (mkF m 235 #[q0, q1, q2, q3, q4, q5, q6, q7, .val (.ref la), .val (.ref a), .unset, .unset] [(.ref r1)])
  refine Wk.astore (l' := #[q0, q1, q2, q3, q4, q5, q6, q7, .val (.ref la), .val (.ref a), .val (.ref r1), .unset]) X21 hx (hb hby at_235) rfl rfl rfl ?_
  refine Wk.getS (host := "") X21 hx hZ hown (Or.inl (hw _ (List.mem_of_getElem? (i := 60) rfl))) rfl ((S.ext Ex1).1) (hb hby at_237) rfl (fun T22 X22 e22 => ?_)
  refine Wk.astore (l' := #[q0, q1, q2, q3, q4, q5, q6, q7, .val (.ref la), .val (.ref a), .val (.ref r1), .val (.ref r3)]) X22 hx (hb hby at_240) rfl rfl rfl ?_
  refine Wk.aload X22 hx (hb hby at_242) rfl rfl rfl ?_
  refine Wk.ldcE X22 hx hZ hS hown (hw _ (List.mem_of_getElem? (i := 0) rfl)) (hStr hw) e22 (Nat.le_trans hk0 Ex1.1) (by rw [hns]; exact N0) hO hI (Pr := fun x h => Sv Z h x tH ∧ x ≠ a) (hL19.ext Ex1) hh19 hcw lit_tH (z := 4) (by decide) rfl (fun x h' b2 kb E1 E2 F1 F2 A1 hsep => ⟨mkSv ch_tH le_tH rfl E2 F1 F2 A1, fun q => hsep.elim (fun u => Nat.lt_irrefl n0 (Nat.lt_of_le_of_lt ha0 (by rw [hns] at u; exact q ▸ u))) (fun u => Nat.lt_irrefl a (Nat.lt_of_lt_of_le hal (Nat.le_trans Ex1.1 (q ▸ u))))⟩) 16 (by decide) (by decide) (by decide) (by decide) (hb hby at_244) rfl (fun y2 T2 h2 vm2 k2 X2 e2 Ex2 hS hk2 hZ hown hP2 hI2 hWm2 _ => ?_)
  have EX2 := Wk.ext_trans Ex1 Ex2
  refine Wk.callVP (W := 0) X2 hx hZ (argsL := [(.ref y2)]) (rest := []) hown (hw _ (List.mem_of_getElem? (i := 61) rfl)) (hw _ (List.mem_of_getElem? (i := 50) rfl)) (hw _ (List.mem_of_getElem? (i := 52) rfl)) (hw _ (List.mem_of_getElem? (i := 51) rfl)) (hw _ (List.mem_of_getElem? (i := 1) rfl)) (hw _ (List.mem_of_getElem? (i := 53) rfl)) (notFace_of_selects (args := #[]) (mvT hZ (hw _ (List.mem_of_getElem? (i := 52) rfl)))) (by decide) (meqs l Z a0 hw cs hcs fv hfv a y2 us tH (fun q => hP2.2 q.symm) h2 (Sa.ext EX2) hP2.1 (G.ext EX2)) e2 (Sa.ext EX2).2.1 (by decide) (by decide) (by decide) (by decide) (by rw [hml]; rfl) (lenOf pd6 rfl) rfl (Nat.le_of_eq rfl) (hb hby at_246) rfl (fun T23 X23 e23 => ?_)
  refine Wk.if_eqB X23 hx 260 252 (hb hby at_249) rfl rfl (fun h24 => ?_) (fun h24 => absurd h24 (by exact m0))
  refine Wk.aload X23 hx (hb hby at_260) rfl rfl rfl ?_
  refine Wk.ldcE X23 hx hZ hS hown (hw _ (List.mem_of_getElem? (i := 62) rfl)) (hStr hw) e23 hk2 (by rw [hns]; exact N0) hO hI2 (Pr := fun x h => Sv Z h x tS ∧ x ≠ a) (LOK.step (by decide) (hL21.ext Ex1) hWm2 Ex2) hh21 hcw lit_tS (z := 5) (by decide) rfl (fun x h' b2 kb E1 E2 F1 F2 A1 hsep => ⟨mkSv ch_tS le_tS rfl E2 F1 F2 A1, fun q => hsep.elim (fun u => Nat.lt_irrefl n0 (Nat.lt_of_le_of_lt ha0 (by rw [hns] at u; exact q ▸ u))) (fun u => Nat.lt_irrefl a (Nat.lt_of_lt_of_le hal (Nat.le_trans EX2.1 (q ▸ u))))⟩) 20 (by decide) (by decide) (by decide) (by decide) (hb hby at_262) rfl (fun y3 T3 h3 vm3 k3 X3 e3 Ex3 hS hk3 hZ hown hP3 hI3 hWm3 _ => ?_)
  have EX3 := Wk.ext_trans EX2 Ex3
  refine Wk.callVP (W := 0) X3 hx hZ (argsL := [(.ref y3)]) (rest := []) hown (hw _ (List.mem_of_getElem? (i := 61) rfl)) (hw _ (List.mem_of_getElem? (i := 50) rfl)) (hw _ (List.mem_of_getElem? (i := 52) rfl)) (hw _ (List.mem_of_getElem? (i := 51) rfl)) (hw _ (List.mem_of_getElem? (i := 1) rfl)) (hw _ (List.mem_of_getElem? (i := 53) rfl)) (notFace_of_selects (args := #[]) (mvT hZ (hw _ (List.mem_of_getElem? (i := 52) rfl)))) (by decide) (meqs l Z a0 hw cs hcs fv hfv a y3 us tS (fun q => hP3.2 q.symm) h3 (Sa.ext EX3) hP3.1 (G.ext EX3)) e3 (Sa.ext EX3).2.1 (by decide) (by decide) (by decide) (by decide) (by rw [hml]; rfl) (lenOf pd6 rfl) rfl (Nat.le_of_eq rfl) (hb hby at_264) rfl (fun T25 X25 e25 => ?_)
  refine Wk.if_eqB X25 hx 278 270 (hb hby at_267) rfl rfl (fun h26 => absurd h26 (by exact fun q => q cc)) (fun h26 => ?_)
  refine Wk.getS (host := "") X25 hx hZ hown (Or.inl (hw _ (List.mem_of_getElem? (i := 112) rfl))) e25 ((S.ext EX3).2.2.1) (hb hby at_270) rfl (fun T27 X27 e27 => ?_)
  refine Wk.astore (l' := #[q0, q1, q2, q3, q4, q5, q6, q7, .val (.ref la), .val (.ref a), .val (.ref r1), .val (.ref r1)]) X27 hx (hb hby at_273) rfl rfl rfl ?_
  refine Wk.goto X27 hx 293 (hb hby at_275) rfl ?_
  refine Wk.aload X27 hx (hb hby at_293) rfl rfl rfl ?_
  refine Wk.aload X27 hx (hb hby at_295) rfl rfl rfl ?_
  refine Wk.acmp_ne X27 hx 304 300 (hb hby at_297) rfl rfl rfl rfl (fun h28 => absurd h28 (fun q => q rfl)) (fun h28 => ?_)
  refine Wk.iconst X27 hx (1 : Int32) (hb hby at_300) rfl rfl ?_
  refine Wk.goto X27 hx 305 (hb hby at_301) rfl ?_
  exact Wk.retZV X27 hx hS (by rw [e27]; exact hk3) trivial hlk hret (hb hby at_305) (by decide) (by decide) (by decide) ⟨rfl, N0⟩
set_option maxRecDepth 65536 in
set_option maxHeartbeats 40000000 in
theorem stD2 {l : Launch} {Z : State} (a0 : Array Value) (hw : ∀ d ∈ tables_1, d.before a0 Z = true) {p : Program} {e : Env} {s : State} {vm0 : Vm} {k0 : Nat} {m : MethodId} {args : Array Value} {below : List Frame} {meth : Method} {c : Code} (hx : p.tables.exec = Jvm.exec) (hby : c.code = code) (hml : c.maxLocals = maxLocals) (hown : (s.setVm vm0).vm.findClass "com/example/kuri/kuri/normalize/SchemeRulesOfPinLaw" = some m.cls) (hret : meth.sig.returnType = some .boolean) (hlk : meth.locks = false) (hZ : Z.Warmed39 (s.setVm vm0).vm) (hS : s.Since vm0 k0) (cs : Int32) (hcs : ¬ cs.toInt = 0) (fv : Value) (hfv : fv.isRef = true) (hO : Wk.Old Z s.heap) (hcw : Jvm.Lit.compactW.before a0 Z = true) (hhE : Jvm.Lit.constHeld Z "java/lang/String" 7) (hh19 : Jvm.Lit.constHeld Z "com/example/kuri/kuri/normalize/SchemeRulesOfPinLaw" 19) (hh21 : Jvm.Lit.constHeld Z "com/example/kuri/kuri/normalize/SchemeRulesOfPinLaw" 21) (hh23 : Jvm.Lit.constHeld Z "com/example/kuri/kuri/normalize/SchemeRulesOfPinLaw" 23) (hh25 : Jvm.Lit.constHeld Z "com/example/kuri/kuri/normalize/SchemeRulesOfPinLaw" 25) (n0 : Nat) (hns : s.heap.size = n0) (r0 r1 r2 r3 rv x0 x1 x2 : Addr) (kv : ClassId) (hx0 : x0 < n0) (hx1 : x1 < n0) (hx2 : x2 < n0) (q0 q1 q2 q3 q4 q5 q6 q7 : Slot) (la a : Addr) (us : List Int32) (m0 : ¬ us = tH) (m1 : ¬ us = tS) (cc : us = tM) {Ts : List String} (hI : Jvm.RoadKit.IB Z vm0 Ts) (T : State) (h : Heap) (hL19 : LOK Z s vm0 19 "http" tH a h Ts) (hL21 : LOK Z s vm0 21 "https" tS a h Ts) (hL23 : LOK Z s vm0 23 "mailto" tM a h Ts) (L0 : List Loc) (X0 : Stand p l e room_1 (s.setVm vm0) m args below meth c T L0 6 46) (e0 : T.heap = h) (hk0 : k0 ≤ h.size) (N0 : Fr n0 L0) (ha0 : n0 ≤ a) (Sa : Sv Z h a us) (S : Sb Z h r0 r1 r2 r3 rv x0 x1 x2 kv) (G : Sg Z h cs fv) : Wk.Go p e below (Wk.EndV s (fun _ => True)) (Wk.Fq (.int 1) n0) 32 5248 T (mkF m 228 #[q0, q1, q2, q3, q4, q5, q6, q7, .val (.ref la), .unset, .unset, .unset] [(.ref a)]) := by
  have hal : a < h.size := Sa.2.1.lt
  refine Wk.astore (l' := #[q0, q1, q2, q3, q4, q5, q6, q7, .val (.ref la), .val (.ref a), .unset, .unset]) X0 hx (hb hby at_228) rfl rfl rfl ?_
  refine Wk.aload X0 hx (hb hby at_230) rfl rfl rfl ?_
  refine Wk.callS (W := 0) X0 hx hZ (argsL := [(.ref a)]) (rest := []) hown (hw _ (List.mem_of_getElem? (i := 23) rfl)) (hw _ (List.mem_of_getElem? (i := 24) rfl)) (hw _ (List.mem_of_getElem? (i := 25) rfl)) (hw _ (List.mem_of_getElem? (i := 26) rfl)) (by decide) (mof2 l Z a0 hw cs hcs fv hfv a us m0 m1 cc r0 r1 r2 r3 rv x0 x1 x2 kv (fun q => Nat.lt_irrefl n0 (Nat.lt_of_le_of_lt ha0 (q.symm ▸ hx0))) (fun q => Nat.lt_irrefl n0 (Nat.lt_of_le_of_lt ha0 (q.symm ▸ hx1))) (fun q => Nat.lt_irrefl n0 (Nat.lt_of_le_of_lt ha0 (q.symm ▸ hx2))) h Sa S G) e0 (by decide) (by decide) (by decide) (by decide) (by rw [hml]; rfl) (lenOf pd4 rfl) rfl (Nat.le_of_eq rfl) (hb hby at_232) rfl (fun T21 v21 L21 X21 hq21 => ?_)
  obtain ⟨rfl, rfl, Ex1⟩ := hq21
  rw [List.append_nil] at X21
  show Wk.Go p e below _ _ _ _ T21 (mkF m 235 #[q0, q1, q2, q3, q4, q5, q6, q7, .val (.ref la), .val (.ref a), .unset, .unset] [(.ref r2)])
  refine Wk.astore (l' := #[q0, q1, q2, q3, q4, q5, q6, q7, .val (.ref la), .val (.ref a), .val (.ref r2), .unset]) X21 hx (hb hby at_235) rfl rfl rfl ?_
  refine Wk.getS (host := "") X21 hx hZ hown (Or.inl (hw _ (List.mem_of_getElem? (i := 60) rfl))) rfl ((S.ext Ex1).1) (hb hby at_237) rfl (fun T22 X22 e22 => ?_)
  refine Wk.astore (l' := #[q0, q1, q2, q3, q4, q5, q6, q7, .val (.ref la), .val (.ref a), .val (.ref r2), .val (.ref r3)]) X22 hx (hb hby at_240) rfl rfl rfl ?_
  refine Wk.aload X22 hx (hb hby at_242) rfl rfl rfl ?_
  refine Wk.ldcE X22 hx hZ hS hown (hw _ (List.mem_of_getElem? (i := 0) rfl)) (hStr hw) e22 (Nat.le_trans hk0 Ex1.1) (by rw [hns]; exact N0) hO hI (Pr := fun x h => Sv Z h x tH ∧ x ≠ a) (hL19.ext Ex1) hh19 hcw lit_tH (z := 4) (by decide) rfl (fun x h' b2 kb E1 E2 F1 F2 A1 hsep => ⟨mkSv ch_tH le_tH rfl E2 F1 F2 A1, fun q => hsep.elim (fun u => Nat.lt_irrefl n0 (Nat.lt_of_le_of_lt ha0 (by rw [hns] at u; exact q ▸ u))) (fun u => Nat.lt_irrefl a (Nat.lt_of_lt_of_le hal (Nat.le_trans Ex1.1 (q ▸ u))))⟩) 16 (by decide) (by decide) (by decide) (by decide) (hb hby at_244) rfl (fun y2 T2 h2 vm2 k2 X2 e2 Ex2 hS hk2 hZ hown hP2 hI2 hWm2 _ => ?_)
  have EX2 := Wk.ext_trans Ex1 Ex2
  refine Wk.callVP (W := 0) X2 hx hZ (argsL := [(.ref y2)]) (rest := []) hown (hw _ (List.mem_of_getElem? (i := 61) rfl)) (hw _ (List.mem_of_getElem? (i := 50) rfl)) (hw _ (List.mem_of_getElem? (i := 52) rfl)) (hw _ (List.mem_of_getElem? (i := 51) rfl)) (hw _ (List.mem_of_getElem? (i := 1) rfl)) (hw _ (List.mem_of_getElem? (i := 53) rfl)) (notFace_of_selects (args := #[]) (mvT hZ (hw _ (List.mem_of_getElem? (i := 52) rfl)))) (by decide) (meqs l Z a0 hw cs hcs fv hfv a y2 us tH (fun q => hP2.2 q.symm) h2 (Sa.ext EX2) hP2.1 (G.ext EX2)) e2 (Sa.ext EX2).2.1 (by decide) (by decide) (by decide) (by decide) (by rw [hml]; rfl) (lenOf pd6 rfl) rfl (Nat.le_of_eq rfl) (hb hby at_246) rfl (fun T23 X23 e23 => ?_)
  refine Wk.if_eqB X23 hx 260 252 (hb hby at_249) rfl rfl (fun h24 => ?_) (fun h24 => absurd h24 (by exact m0))
  refine Wk.aload X23 hx (hb hby at_260) rfl rfl rfl ?_
  refine Wk.ldcE X23 hx hZ hS hown (hw _ (List.mem_of_getElem? (i := 62) rfl)) (hStr hw) e23 hk2 (by rw [hns]; exact N0) hO hI2 (Pr := fun x h => Sv Z h x tS ∧ x ≠ a) (LOK.step (by decide) (hL21.ext Ex1) hWm2 Ex2) hh21 hcw lit_tS (z := 5) (by decide) rfl (fun x h' b2 kb E1 E2 F1 F2 A1 hsep => ⟨mkSv ch_tS le_tS rfl E2 F1 F2 A1, fun q => hsep.elim (fun u => Nat.lt_irrefl n0 (Nat.lt_of_le_of_lt ha0 (by rw [hns] at u; exact q ▸ u))) (fun u => Nat.lt_irrefl a (Nat.lt_of_lt_of_le hal (Nat.le_trans EX2.1 (q ▸ u))))⟩) 20 (by decide) (by decide) (by decide) (by decide) (hb hby at_262) rfl (fun y3 T3 h3 vm3 k3 X3 e3 Ex3 hS hk3 hZ hown hP3 hI3 hWm3 _ => ?_)
  have EX3 := Wk.ext_trans EX2 Ex3
  refine Wk.callVP (W := 0) X3 hx hZ (argsL := [(.ref y3)]) (rest := []) hown (hw _ (List.mem_of_getElem? (i := 61) rfl)) (hw _ (List.mem_of_getElem? (i := 50) rfl)) (hw _ (List.mem_of_getElem? (i := 52) rfl)) (hw _ (List.mem_of_getElem? (i := 51) rfl)) (hw _ (List.mem_of_getElem? (i := 1) rfl)) (hw _ (List.mem_of_getElem? (i := 53) rfl)) (notFace_of_selects (args := #[]) (mvT hZ (hw _ (List.mem_of_getElem? (i := 52) rfl)))) (by decide) (meqs l Z a0 hw cs hcs fv hfv a y3 us tS (fun q => hP3.2 q.symm) h3 (Sa.ext EX3) hP3.1 (G.ext EX3)) e3 (Sa.ext EX3).2.1 (by decide) (by decide) (by decide) (by decide) (by rw [hml]; rfl) (lenOf pd6 rfl) rfl (Nat.le_of_eq rfl) (hb hby at_264) rfl (fun T25 X25 e25 => ?_)
  refine Wk.if_eqB X25 hx 278 270 (hb hby at_267) rfl rfl (fun h26 => ?_) (fun h26 => absurd h26 (by exact m1))
  refine Wk.aload X25 hx (hb hby at_278) rfl rfl rfl ?_
  refine Wk.ldcE X25 hx hZ hS hown (hw _ (List.mem_of_getElem? (i := 63) rfl)) (hStr hw) e25 hk3 (by rw [hns]; exact N0) hO hI3 (Pr := fun x h => Sv Z h x tM ∧ x ≠ a) (LOK.step (by decide) (LOK.step (by decide) (hL23.ext Ex1) hWm2 Ex2) hWm3 Ex3) hh23 hcw lit_tM (z := 6) (by decide) rfl (fun x h' b2 kb E1 E2 F1 F2 A1 hsep => ⟨mkSv ch_tM le_tM rfl E2 F1 F2 A1, fun q => hsep.elim (fun u => Nat.lt_irrefl n0 (Nat.lt_of_le_of_lt ha0 (by rw [hns] at u; exact q ▸ u))) (fun u => Nat.lt_irrefl a (Nat.lt_of_lt_of_le hal (Nat.le_trans EX3.1 (q ▸ u))))⟩) 24 (by decide) (by decide) (by decide) (by decide) (hb hby at_280) rfl (fun y4 T4 h4 vm4 k4 X4 e4 Ex4 hS hk4 hZ hown hP4 hI4 hWm4 _ => ?_)
  have EX4 := Wk.ext_trans EX3 Ex4
  refine Wk.callVP (W := 0) X4 hx hZ (argsL := [(.ref y4)]) (rest := []) hown (hw _ (List.mem_of_getElem? (i := 61) rfl)) (hw _ (List.mem_of_getElem? (i := 50) rfl)) (hw _ (List.mem_of_getElem? (i := 52) rfl)) (hw _ (List.mem_of_getElem? (i := 51) rfl)) (hw _ (List.mem_of_getElem? (i := 1) rfl)) (hw _ (List.mem_of_getElem? (i := 53) rfl)) (notFace_of_selects (args := #[]) (mvT hZ (hw _ (List.mem_of_getElem? (i := 52) rfl)))) (by decide) (meqs l Z a0 hw cs hcs fv hfv a y4 us tM (fun q => hP4.2 q.symm) h4 (Sa.ext EX4) hP4.1 (G.ext EX4)) e4 (Sa.ext EX4).2.1 (by decide) (by decide) (by decide) (by decide) (by rw [hml]; rfl) (lenOf pd6 rfl) rfl (Nat.le_of_eq rfl) (hb hby at_282) rfl (fun T27 X27 e27 => ?_)
  refine Wk.if_eqB X27 hx 293 288 (hb hby at_285) rfl rfl (fun h28 => absurd h28 (by exact fun q => q cc)) (fun h28 => ?_)
  refine Wk.getS (host := "") X27 hx hZ hown (Or.inl (hw _ (List.mem_of_getElem? (i := 113) rfl))) e27 ((S.ext EX4).2.2.2.1) (hb hby at_288) rfl (fun T29 X29 e29 => ?_)
  refine Wk.astore (l' := #[q0, q1, q2, q3, q4, q5, q6, q7, .val (.ref la), .val (.ref a), .val (.ref r2), .val (.ref r2)]) X29 hx (hb hby at_291) rfl rfl rfl ?_
  refine Wk.aload X29 hx (hb hby at_293) rfl rfl rfl ?_
  refine Wk.aload X29 hx (hb hby at_295) rfl rfl rfl ?_
  refine Wk.acmp_ne X29 hx 304 300 (hb hby at_297) rfl rfl rfl rfl (fun h30 => absurd h30 (fun q => q rfl)) (fun h30 => ?_)
  refine Wk.iconst X29 hx (1 : Int32) (hb hby at_300) rfl rfl ?_
  refine Wk.goto X29 hx 305 (hb hby at_301) rfl ?_
  exact Wk.retZV X29 hx hS (by rw [e29]; exact hk4) trivial hlk hret (hb hby at_305) (by decide) (by decide) (by decide) ⟨rfl, N0⟩
set_option maxRecDepth 65536 in
set_option maxHeartbeats 40000000 in
theorem stD3 {l : Launch} {Z : State} (a0 : Array Value) (hw : ∀ d ∈ tables_1, d.before a0 Z = true) {p : Program} {e : Env} {s : State} {vm0 : Vm} {k0 : Nat} {m : MethodId} {args : Array Value} {below : List Frame} {meth : Method} {c : Code} (hx : p.tables.exec = Jvm.exec) (hby : c.code = code) (hml : c.maxLocals = maxLocals) (hown : (s.setVm vm0).vm.findClass "com/example/kuri/kuri/normalize/SchemeRulesOfPinLaw" = some m.cls) (hret : meth.sig.returnType = some .boolean) (hlk : meth.locks = false) (hZ : Z.Warmed39 (s.setVm vm0).vm) (hS : s.Since vm0 k0) (cs : Int32) (hcs : ¬ cs.toInt = 0) (fv : Value) (hfv : fv.isRef = true) (hO : Wk.Old Z s.heap) (hcw : Jvm.Lit.compactW.before a0 Z = true) (hhE : Jvm.Lit.constHeld Z "java/lang/String" 7) (hh19 : Jvm.Lit.constHeld Z "com/example/kuri/kuri/normalize/SchemeRulesOfPinLaw" 19) (hh21 : Jvm.Lit.constHeld Z "com/example/kuri/kuri/normalize/SchemeRulesOfPinLaw" 21) (hh23 : Jvm.Lit.constHeld Z "com/example/kuri/kuri/normalize/SchemeRulesOfPinLaw" 23) (hh25 : Jvm.Lit.constHeld Z "com/example/kuri/kuri/normalize/SchemeRulesOfPinLaw" 25) (n0 : Nat) (hns : s.heap.size = n0) (r0 r1 r2 r3 rv x0 x1 x2 : Addr) (kv : ClassId) (hx0 : x0 < n0) (hx1 : x1 < n0) (hx2 : x2 < n0) (q0 q1 q2 q3 q4 q5 q6 q7 : Slot) (la a : Addr) (us : List Int32) (m0 : ¬ us = tH) (m1 : ¬ us = tS) (m2 : ¬ us = tM) {Ts : List String} (hI : Jvm.RoadKit.IB Z vm0 Ts) (T : State) (h : Heap) (hL19 : LOK Z s vm0 19 "http" tH a h Ts) (hL21 : LOK Z s vm0 21 "https" tS a h Ts) (hL23 : LOK Z s vm0 23 "mailto" tM a h Ts) (L0 : List Loc) (X0 : Stand p l e room_1 (s.setVm vm0) m args below meth c T L0 6 46) (e0 : T.heap = h) (hk0 : k0 ≤ h.size) (N0 : Fr n0 L0) (ha0 : n0 ≤ a) (Sa : Sv Z h a us) (S : Sb Z h r0 r1 r2 r3 rv x0 x1 x2 kv) (G : Sg Z h cs fv) : Wk.Go p e below (Wk.EndV s (fun _ => True)) (Wk.Fq (.int 1) n0) 32 5248 T (mkF m 228 #[q0, q1, q2, q3, q4, q5, q6, q7, .val (.ref la), .unset, .unset, .unset] [(.ref a)]) := by
  have hal : a < h.size := Sa.2.1.lt
  refine Wk.astore (l' := #[q0, q1, q2, q3, q4, q5, q6, q7, .val (.ref la), .val (.ref a), .unset, .unset]) X0 hx (hb hby at_228) rfl rfl rfl ?_
  refine Wk.aload X0 hx (hb hby at_230) rfl rfl rfl ?_
  refine Wk.callS (W := 0) X0 hx hZ (argsL := [(.ref a)]) (rest := []) hown (hw _ (List.mem_of_getElem? (i := 23) rfl)) (hw _ (List.mem_of_getElem? (i := 24) rfl)) (hw _ (List.mem_of_getElem? (i := 25) rfl)) (hw _ (List.mem_of_getElem? (i := 26) rfl)) (by decide) (mof3 l Z a0 hw cs hcs fv hfv a us m0 m1 m2 r0 r1 r2 r3 rv x0 x1 x2 kv (fun q => Nat.lt_irrefl n0 (Nat.lt_of_le_of_lt ha0 (q.symm ▸ hx0))) (fun q => Nat.lt_irrefl n0 (Nat.lt_of_le_of_lt ha0 (q.symm ▸ hx1))) (fun q => Nat.lt_irrefl n0 (Nat.lt_of_le_of_lt ha0 (q.symm ▸ hx2))) h Sa S G) e0 (by decide) (by decide) (by decide) (by decide) (by rw [hml]; rfl) (lenOf pd4 rfl) rfl (Nat.le_of_eq rfl) (hb hby at_232) rfl (fun T21 v21 L21 X21 hq21 => ?_)
  obtain ⟨rfl, rfl, Ex1⟩ := hq21
  rw [List.append_nil] at X21
  show Wk.Go p e below _ _ _ _ T21 (mkF m 235 #[q0, q1, q2, q3, q4, q5, q6, q7, .val (.ref la), .val (.ref a), .unset, .unset] [(.ref r3)])
  refine Wk.astore (l' := #[q0, q1, q2, q3, q4, q5, q6, q7, .val (.ref la), .val (.ref a), .val (.ref r3), .unset]) X21 hx (hb hby at_235) rfl rfl rfl ?_
  refine Wk.getS (host := "") X21 hx hZ hown (Or.inl (hw _ (List.mem_of_getElem? (i := 60) rfl))) rfl ((S.ext Ex1).1) (hb hby at_237) rfl (fun T22 X22 e22 => ?_)
  refine Wk.astore (l' := #[q0, q1, q2, q3, q4, q5, q6, q7, .val (.ref la), .val (.ref a), .val (.ref r3), .val (.ref r3)]) X22 hx (hb hby at_240) rfl rfl rfl ?_
  refine Wk.aload X22 hx (hb hby at_242) rfl rfl rfl ?_
  refine Wk.ldcE X22 hx hZ hS hown (hw _ (List.mem_of_getElem? (i := 0) rfl)) (hStr hw) e22 (Nat.le_trans hk0 Ex1.1) (by rw [hns]; exact N0) hO hI (Pr := fun x h => Sv Z h x tH ∧ x ≠ a) (hL19.ext Ex1) hh19 hcw lit_tH (z := 4) (by decide) rfl (fun x h' b2 kb E1 E2 F1 F2 A1 hsep => ⟨mkSv ch_tH le_tH rfl E2 F1 F2 A1, fun q => hsep.elim (fun u => Nat.lt_irrefl n0 (Nat.lt_of_le_of_lt ha0 (by rw [hns] at u; exact q ▸ u))) (fun u => Nat.lt_irrefl a (Nat.lt_of_lt_of_le hal (Nat.le_trans Ex1.1 (q ▸ u))))⟩) 16 (by decide) (by decide) (by decide) (by decide) (hb hby at_244) rfl (fun y2 T2 h2 vm2 k2 X2 e2 Ex2 hS hk2 hZ hown hP2 hI2 hWm2 _ => ?_)
  have EX2 := Wk.ext_trans Ex1 Ex2
  refine Wk.callVP (W := 0) X2 hx hZ (argsL := [(.ref y2)]) (rest := []) hown (hw _ (List.mem_of_getElem? (i := 61) rfl)) (hw _ (List.mem_of_getElem? (i := 50) rfl)) (hw _ (List.mem_of_getElem? (i := 52) rfl)) (hw _ (List.mem_of_getElem? (i := 51) rfl)) (hw _ (List.mem_of_getElem? (i := 1) rfl)) (hw _ (List.mem_of_getElem? (i := 53) rfl)) (notFace_of_selects (args := #[]) (mvT hZ (hw _ (List.mem_of_getElem? (i := 52) rfl)))) (by decide) (meqs l Z a0 hw cs hcs fv hfv a y2 us tH (fun q => hP2.2 q.symm) h2 (Sa.ext EX2) hP2.1 (G.ext EX2)) e2 (Sa.ext EX2).2.1 (by decide) (by decide) (by decide) (by decide) (by rw [hml]; rfl) (lenOf pd6 rfl) rfl (Nat.le_of_eq rfl) (hb hby at_246) rfl (fun T23 X23 e23 => ?_)
  refine Wk.if_eqB X23 hx 260 252 (hb hby at_249) rfl rfl (fun h24 => ?_) (fun h24 => absurd h24 (by exact m0))
  refine Wk.aload X23 hx (hb hby at_260) rfl rfl rfl ?_
  refine Wk.ldcE X23 hx hZ hS hown (hw _ (List.mem_of_getElem? (i := 62) rfl)) (hStr hw) e23 hk2 (by rw [hns]; exact N0) hO hI2 (Pr := fun x h => Sv Z h x tS ∧ x ≠ a) (LOK.step (by decide) (hL21.ext Ex1) hWm2 Ex2) hh21 hcw lit_tS (z := 5) (by decide) rfl (fun x h' b2 kb E1 E2 F1 F2 A1 hsep => ⟨mkSv ch_tS le_tS rfl E2 F1 F2 A1, fun q => hsep.elim (fun u => Nat.lt_irrefl n0 (Nat.lt_of_le_of_lt ha0 (by rw [hns] at u; exact q ▸ u))) (fun u => Nat.lt_irrefl a (Nat.lt_of_lt_of_le hal (Nat.le_trans EX2.1 (q ▸ u))))⟩) 20 (by decide) (by decide) (by decide) (by decide) (hb hby at_262) rfl (fun y3 T3 h3 vm3 k3 X3 e3 Ex3 hS hk3 hZ hown hP3 hI3 hWm3 _ => ?_)
  have EX3 := Wk.ext_trans EX2 Ex3
  refine Wk.callVP (W := 0) X3 hx hZ (argsL := [(.ref y3)]) (rest := []) hown (hw _ (List.mem_of_getElem? (i := 61) rfl)) (hw _ (List.mem_of_getElem? (i := 50) rfl)) (hw _ (List.mem_of_getElem? (i := 52) rfl)) (hw _ (List.mem_of_getElem? (i := 51) rfl)) (hw _ (List.mem_of_getElem? (i := 1) rfl)) (hw _ (List.mem_of_getElem? (i := 53) rfl)) (notFace_of_selects (args := #[]) (mvT hZ (hw _ (List.mem_of_getElem? (i := 52) rfl)))) (by decide) (meqs l Z a0 hw cs hcs fv hfv a y3 us tS (fun q => hP3.2 q.symm) h3 (Sa.ext EX3) hP3.1 (G.ext EX3)) e3 (Sa.ext EX3).2.1 (by decide) (by decide) (by decide) (by decide) (by rw [hml]; rfl) (lenOf pd6 rfl) rfl (Nat.le_of_eq rfl) (hb hby at_264) rfl (fun T25 X25 e25 => ?_)
  refine Wk.if_eqB X25 hx 278 270 (hb hby at_267) rfl rfl (fun h26 => ?_) (fun h26 => absurd h26 (by exact m1))
  refine Wk.aload X25 hx (hb hby at_278) rfl rfl rfl ?_
  refine Wk.ldcE X25 hx hZ hS hown (hw _ (List.mem_of_getElem? (i := 63) rfl)) (hStr hw) e25 hk3 (by rw [hns]; exact N0) hO hI3 (Pr := fun x h => Sv Z h x tM ∧ x ≠ a) (LOK.step (by decide) (LOK.step (by decide) (hL23.ext Ex1) hWm2 Ex2) hWm3 Ex3) hh23 hcw lit_tM (z := 6) (by decide) rfl (fun x h' b2 kb E1 E2 F1 F2 A1 hsep => ⟨mkSv ch_tM le_tM rfl E2 F1 F2 A1, fun q => hsep.elim (fun u => Nat.lt_irrefl n0 (Nat.lt_of_le_of_lt ha0 (by rw [hns] at u; exact q ▸ u))) (fun u => Nat.lt_irrefl a (Nat.lt_of_lt_of_le hal (Nat.le_trans EX3.1 (q ▸ u))))⟩) 24 (by decide) (by decide) (by decide) (by decide) (hb hby at_280) rfl (fun y4 T4 h4 vm4 k4 X4 e4 Ex4 hS hk4 hZ hown hP4 hI4 hWm4 _ => ?_)
  have EX4 := Wk.ext_trans EX3 Ex4
  refine Wk.callVP (W := 0) X4 hx hZ (argsL := [(.ref y4)]) (rest := []) hown (hw _ (List.mem_of_getElem? (i := 61) rfl)) (hw _ (List.mem_of_getElem? (i := 50) rfl)) (hw _ (List.mem_of_getElem? (i := 52) rfl)) (hw _ (List.mem_of_getElem? (i := 51) rfl)) (hw _ (List.mem_of_getElem? (i := 1) rfl)) (hw _ (List.mem_of_getElem? (i := 53) rfl)) (notFace_of_selects (args := #[]) (mvT hZ (hw _ (List.mem_of_getElem? (i := 52) rfl)))) (by decide) (meqs l Z a0 hw cs hcs fv hfv a y4 us tM (fun q => hP4.2 q.symm) h4 (Sa.ext EX4) hP4.1 (G.ext EX4)) e4 (Sa.ext EX4).2.1 (by decide) (by decide) (by decide) (by decide) (by rw [hml]; rfl) (lenOf pd6 rfl) rfl (Nat.le_of_eq rfl) (hb hby at_282) rfl (fun T27 X27 e27 => ?_)
  refine Wk.if_eqB X27 hx 293 288 (hb hby at_285) rfl rfl (fun h28 => ?_) (fun h28 => absurd h28 (by exact m2))
  refine Wk.aload X27 hx (hb hby at_293) rfl rfl rfl ?_
  refine Wk.aload X27 hx (hb hby at_295) rfl rfl rfl ?_
  refine Wk.acmp_ne X27 hx 304 300 (hb hby at_297) rfl rfl rfl rfl (fun h29 => absurd h29 (fun q => q rfl)) (fun h29 => ?_)
  refine Wk.iconst X27 hx (1 : Int32) (hb hby at_300) rfl rfl ?_
  refine Wk.goto X27 hx 305 (hb hby at_301) rfl ?_
  exact Wk.retZV X27 hx hS (by rw [e27]; exact hk4) trivial hlk hret (hb hby at_305) (by decide) (by decide) (by decide) ⟨rfl, N0⟩
theorem stD {l : Launch} {Z : State} (a0 : Array Value) (hw : ∀ d ∈ tables_1, d.before a0 Z = true) {p : Program} {e : Env} {s : State} {vm0 : Vm} {k0 : Nat} {m : MethodId} {args : Array Value} {below : List Frame} {meth : Method} {c : Code} (hx : p.tables.exec = Jvm.exec) (hby : c.code = code) (hml : c.maxLocals = maxLocals) (hown : (s.setVm vm0).vm.findClass "com/example/kuri/kuri/normalize/SchemeRulesOfPinLaw" = some m.cls) (hret : meth.sig.returnType = some .boolean) (hlk : meth.locks = false) (hZ : Z.Warmed39 (s.setVm vm0).vm) (hS : s.Since vm0 k0) (cs : Int32) (hcs : ¬ cs.toInt = 0) (fv : Value) (hfv : fv.isRef = true) (hO : Wk.Old Z s.heap) (hcw : Jvm.Lit.compactW.before a0 Z = true) (hhE : Jvm.Lit.constHeld Z "java/lang/String" 7) (hh19 : Jvm.Lit.constHeld Z "com/example/kuri/kuri/normalize/SchemeRulesOfPinLaw" 19) (hh21 : Jvm.Lit.constHeld Z "com/example/kuri/kuri/normalize/SchemeRulesOfPinLaw" 21) (hh23 : Jvm.Lit.constHeld Z "com/example/kuri/kuri/normalize/SchemeRulesOfPinLaw" 23) (hh25 : Jvm.Lit.constHeld Z "com/example/kuri/kuri/normalize/SchemeRulesOfPinLaw" 25) (n0 : Nat) (hns : s.heap.size = n0) (r0 r1 r2 r3 rv x0 x1 x2 : Addr) (kv : ClassId) (hx0 : x0 < n0) (hx1 : x1 < n0) (hx2 : x2 < n0) (q0 q1 q2 q3 q4 q5 q6 q7 : Slot) (la a : Addr) (us : List Int32)  {Ts : List String} (hI : Jvm.RoadKit.IB Z vm0 Ts) (T : State) (h : Heap) (hL19 : LOK Z s vm0 19 "http" tH a h Ts) (hL21 : LOK Z s vm0 21 "https" tS a h Ts) (hL23 : LOK Z s vm0 23 "mailto" tM a h Ts) (L0 : List Loc) (X0 : Stand p l e room_1 (s.setVm vm0) m args below meth c T L0 6 46) (e0 : T.heap = h) (hk0 : k0 ≤ h.size) (N0 : Fr n0 L0) (ha0 : n0 ≤ a) (Sa : Sv Z h a us) (S : Sb Z h r0 r1 r2 r3 rv x0 x1 x2 kv) (G : Sg Z h cs fv) : Wk.Go p e below (Wk.EndV s (fun _ => True)) (Wk.Fq (.int 1) n0) 32 5248 T (mkF m 228 #[q0, q1, q2, q3, q4, q5, q6, q7, .val (.ref la), .unset, .unset, .unset] [(.ref a)]) := by
  by_cases m0 : us = tH
  · exact stD0 a0 hw hx hby hml hown hret hlk hZ hS cs hcs fv hfv hO hcw hhE hh19 hh21 hh23 hh25 n0 hns r0 r1 r2 r3 rv x0 x1 x2 kv hx0 hx1 hx2 q0 q1 q2 q3 q4 q5 q6 q7 la a us m0 hI T h hL19 hL21 hL23 L0 X0 e0 hk0 N0 ha0 Sa S G
  · by_cases m1 : us = tS
    · exact stD1 a0 hw hx hby hml hown hret hlk hZ hS cs hcs fv hfv hO hcw hhE hh19 hh21 hh23 hh25 n0 hns r0 r1 r2 r3 rv x0 x1 x2 kv hx0 hx1 hx2 q0 q1 q2 q3 q4 q5 q6 q7 la a us m0 m1 hI T h hL19 hL21 hL23 L0 X0 e0 hk0 N0 ha0 Sa S G
    · by_cases m2 : us = tM
      · exact stD2 a0 hw hx hby hml hown hret hlk hZ hS cs hcs fv hfv hO hcw hhE hh19 hh21 hh23 hh25 n0 hns r0 r1 r2 r3 rv x0 x1 x2 kv hx0 hx1 hx2 q0 q1 q2 q3 q4 q5 q6 q7 la a us m0 m1 m2 hI T h hL19 hL21 hL23 L0 X0 e0 hk0 N0 ha0 Sa S G
      · exact stD3 a0 hw hx hby hml hown hret hlk hZ hS cs hcs fv hfv hO hcw hhE hh19 hh21 hh23 hh25 n0 hns r0 r1 r2 r3 rv x0 x1 x2 kv hx0 hx1 hx2 q0 q1 q2 q3 q4 q5 q6 q7 la a us m0 m1 m2 hI T h hL19 hL21 hL23 L0 X0 e0 hk0 N0 ha0 Sa S G
set_option maxRecDepth 65536 in
set_option maxHeartbeats 40000000 in
theorem stC0 {l : Launch} {Z : State} (a0 : Array Value) (hw : ∀ d ∈ tables_1, d.before a0 Z = true) {p : Program} {e : Env} {s : State} {vm0 : Vm} {k0 : Nat} {m : MethodId} {args : Array Value} {below : List Frame} {meth : Method} {c : Code} (hx : p.tables.exec = Jvm.exec) (hby : c.code = code) (hml : c.maxLocals = maxLocals) (hown : (s.setVm vm0).vm.findClass "com/example/kuri/kuri/normalize/SchemeRulesOfPinLaw" = some m.cls) (hret : meth.sig.returnType = some .boolean) (hlk : meth.locks = false) (hZ : Z.Warmed39 (s.setVm vm0).vm) (hS : s.Since vm0 k0) (cs : Int32) (hcs : ¬ cs.toInt = 0) (fv : Value) (hfv : fv.isRef = true) (hO : Wk.Old Z s.heap) (hcw : Jvm.Lit.compactW.before a0 Z = true) (hhE : Jvm.Lit.constHeld Z "java/lang/String" 7) (hh19 : Jvm.Lit.constHeld Z "com/example/kuri/kuri/normalize/SchemeRulesOfPinLaw" 19) (hh21 : Jvm.Lit.constHeld Z "com/example/kuri/kuri/normalize/SchemeRulesOfPinLaw" 21) (hh23 : Jvm.Lit.constHeld Z "com/example/kuri/kuri/normalize/SchemeRulesOfPinLaw" 23) (hh25 : Jvm.Lit.constHeld Z "com/example/kuri/kuri/normalize/SchemeRulesOfPinLaw" 25) (n0 : Nat) (hns : s.heap.size = n0) (r0 r1 r2 r3 rv x0 x1 x2 : Addr) (kv : ClassId) (hx0 : x0 < n0) (hx1 : x1 < n0) (hx2 : x2 < n0) (q0 q1 q2 q3 q4 q5 q6 q7 : Slot) (la : Addr) (kc : ClassId) (us : List Int32) (z : Int32) (hz : z.toInt = (us.length : Int)) (hch : Ch us) (hz0 : ¬ z < 0) (hzn : z.toNatClampNeg = us.length) (hcap : us.length ≤ 7) (hlat : ∀ u ∈ us, u.toInt ≤ 255) (hne : 0 < us.length) {Ts : List String} (hnE : "" ∉ Ts) (hI : Jvm.RoadKit.IB Z vm0 Ts) (T : State) (h : Heap) (hL19 : LO Z s vm0 19 "http" tH h Ts) (hL21 : LO Z s vm0 21 "https" tS h Ts) (hL23 : LO Z s vm0 23 "mailto" tM h Ts) (L0 : List Loc) (X0 : Stand p l e room_1 (s.setVm vm0) m args below meth c T L0 3 35) (e0 : T.heap = h) (hk0 : k0 ≤ h.size) (N0 : Fr n0 L0) (hn0 : n0 ≤ h.size) (hOh : Wk.Old Z h) (S : Sb Z h r0 r1 r2 r3 rv x0 x1 x2 kv) (G : Sg Z h cs fv) (C : Arv Z h la kc .char z (cl us) (.int 0)) : Wk.Go p e below (Wk.EndV s (fun _ => True)) (Wk.Fq (.int 1) n0) 32 5248 T (mkF m 219 #[q0, q1, q2, q3, q4, q5, q6, q7, .val (.ref la), .unset, .unset, .unset] []) := by
  refine Wk.newO X0 hx hZ hown (hw _ (List.mem_of_getElem? (i := 9) rfl)) (hw _ (List.mem_of_getElem? (i := 2) rfl)) (hw _ (List.mem_of_getElem? (i := 1) rfl)) e0 (hb hby at_219) (by decide) (by decide) rfl (fun T1 h1 X1 e1 Ex1 A1 D1 => ?_)
  have hn1 : n0 ≤ h1.size := Nat.le_trans hn0 Ex1.1
  refine Wk.dup X1 hx (hb hby at_222) rfl rfl ?_
  refine Wk.aload X1 hx (hb hby at_223) rfl rfl rfl ?_
  refine Wk.callI (W := 1) X1 hx hZ (argsL := [(.ref la)]) (rest := [(.ref h.size)]) rfl hown (hw _ (List.mem_of_getElem? (i := 10) rfl)) (hw _ (List.mem_of_getElem? (i := 11) rfl)) (hw _ (List.mem_of_getElem? (i := 1) rfl)) (hw _ (List.mem_of_getElem? (i := 12) rfl)) (by decide) (mi3 l Z a0 hw cs hcs fv hfv h.size la kc us z hz hch hz0 hzn hcap hlat hne n0 hn0 h1 hn1 (G.ext Ex1) A1 (Wk.FldE.of (D1 (Or.inr (hw _ (List.mem_of_getElem? (i := 4) rfl))) (ty := .array .byte) (by decide))) (Wk.FldE.of (D1 (Or.inr (hw _ (List.mem_of_getElem? (i := 5) rfl))) (ty := .byte) (by decide))) (C.ext Ex1)) e1 (by decide) (by decide) (by decide) (by decide) (by rw [hml]; rfl) (lenOf pd1 rfl) rfl (Nat.le_of_eq rfl) (hb hby at_225) rfl (fun T2 v2 L2 X2 hq2 => ?_)
  obtain ⟨rfl, N2, K2, Sa⟩ := hq2
  have EX : Ext h T2.heap := Wk.ext_of_keep ((Wk.keep_of_ext Ex1).trans K2 (allS (Or.inr (Nat.le_refl _)) all0))
  show Wk.Go p e below _ _ _ _ T2 (mkF m 228 #[q0, q1, q2, q3, q4, q5, q6, q7, .val (.ref la), .unset, .unset, .unset] [(.ref h.size)])
  have X9 := X2.mono (cells' := 6) (slots' := 46) (by decide) (by decide)
  exact stD a0 hw hx hby hml hown hret hlk hZ hS cs hcs fv hfv hO hcw hhE hh19 hh21 hh23 hh25 n0 hns r0 r1 r2 r3 rv x0 x1 x2 kv hx0 hx1 hx2 _ _ _ _ _ _ _ _ la h.size us hI T2 T2.heap (hL19.to EX) (hL21.to EX) (hL23.to EX) _ X9 rfl (Nat.le_trans hk0 EX.1) (Fr.app N0 N2) hn0 Sa (S.ext EX) (G.ext EX)
set_option maxRecDepth 65536 in
set_option maxHeartbeats 40000000 in
theorem stC1 {l : Launch} {Z : State} (a0 : Array Value) (hw : ∀ d ∈ tables_1, d.before a0 Z = true) {p : Program} {e : Env} {s : State} {vm0 : Vm} {k0 : Nat} {m : MethodId} {args : Array Value} {below : List Frame} {meth : Method} {c : Code} (hx : p.tables.exec = Jvm.exec) (hby : c.code = code) (hml : c.maxLocals = maxLocals) (hown : (s.setVm vm0).vm.findClass "com/example/kuri/kuri/normalize/SchemeRulesOfPinLaw" = some m.cls) (hret : meth.sig.returnType = some .boolean) (hlk : meth.locks = false) (hZ : Z.Warmed39 (s.setVm vm0).vm) (hS : s.Since vm0 k0) (cs : Int32) (hcs : ¬ cs.toInt = 0) (fv : Value) (hfv : fv.isRef = true) (hO : Wk.Old Z s.heap) (hcw : Jvm.Lit.compactW.before a0 Z = true) (hhE : Jvm.Lit.constHeld Z "java/lang/String" 7) (hh19 : Jvm.Lit.constHeld Z "com/example/kuri/kuri/normalize/SchemeRulesOfPinLaw" 19) (hh21 : Jvm.Lit.constHeld Z "com/example/kuri/kuri/normalize/SchemeRulesOfPinLaw" 21) (hh23 : Jvm.Lit.constHeld Z "com/example/kuri/kuri/normalize/SchemeRulesOfPinLaw" 23) (hh25 : Jvm.Lit.constHeld Z "com/example/kuri/kuri/normalize/SchemeRulesOfPinLaw" 25) (n0 : Nat) (hns : s.heap.size = n0) (r0 r1 r2 r3 rv x0 x1 x2 : Addr) (kv : ClassId) (hx0 : x0 < n0) (hx1 : x1 < n0) (hx2 : x2 < n0) (q0 q1 q2 q3 q4 q5 q6 q7 : Slot) (la : Addr) (kc : ClassId)  {Ts : List String} (hnE : "" ∉ Ts) (hI : Jvm.RoadKit.IB Z vm0 Ts) (T : State) (h : Heap) (hL19 : LO Z s vm0 19 "http" tH h Ts) (hL21 : LO Z s vm0 21 "https" tS h Ts) (hL23 : LO Z s vm0 23 "mailto" tM h Ts) (L0 : List Loc) (X0 : Stand p l e room_1 (s.setVm vm0) m args below meth c T L0 3 35) (e0 : T.heap = h) (hk0 : k0 ≤ h.size) (N0 : Fr n0 L0) (hn0 : n0 ≤ h.size) (hOh : Wk.Old Z h) (S : Sb Z h r0 r1 r2 r3 rv x0 x1 x2 kv) (G : Sg Z h cs fv) (C : Arv Z h la kc .char (0 : Int32) [] (.int 0)) : Wk.Go p e below (Wk.EndV s (fun _ => True)) (Wk.Fq (.int 1) n0) 32 5248 T (mkF m 219 #[q0, q1, q2, q3, q4, q5, q6, q7, .val (.ref la), .unset, .unset, .unset] []) := by
  refine Wk.newO X0 hx hZ hown (hw _ (List.mem_of_getElem? (i := 9) rfl)) (hw _ (List.mem_of_getElem? (i := 2) rfl)) (hw _ (List.mem_of_getElem? (i := 1) rfl)) e0 (hb hby at_219) (by decide) (by decide) rfl (fun T1 h1 X1 e1 Ex1 A1 D1 => ?_)
  have hn1 : n0 ≤ h1.size := Nat.le_trans hn0 Ex1.1
  refine Wk.dup X1 hx (hb hby at_222) rfl rfl ?_
  refine Wk.aload X1 hx (hb hby at_223) rfl rfl rfl ?_
  refine Wk.callIV (W := 1) X1 hx hZ hS (argsL := [(.ref la)]) (rest := [(.ref h.size)]) rfl hown (hw _ (List.mem_of_getElem? (i := 10) rfl)) (hw _ (List.mem_of_getElem? (i := 11) rfl)) (hw _ (List.mem_of_getElem? (i := 1) rfl)) (hw _ (List.mem_of_getElem? (i := 12) rfl)) (by decide) (mi3e l Z a0 hw h.size la kc n0 hn0 Ts hnE hhE hcw h1 (Wk.old_ext hOh Ex1) A1 (D1 (Or.inr (hw _ (List.mem_of_getElem? (i := 4) rfl))) (ty := .array .byte) (by decide)) (Wk.FldE.of (D1 (Or.inr (hw _ (List.mem_of_getElem? (i := 5) rfl))) (ty := .byte) (by decide))) (C.ext Ex1)) e1 (Nat.le_trans hk0 Ex1.1) (fun _ q => Wk.IBw hI q) (by decide) (by decide) (by decide) (by decide) (by rw [hml]; rfl) (lenOf pd1 rfl) rfl (Nat.le_of_eq rfl) (hb hby at_225) rfl (fun T2 vm2 k2 v2 L2 X2 hS hk0 hZ hown hq2 hV2 hWm2 => ?_)
  obtain ⟨rfl, N2, K2, Sa⟩ := hq2
  have EX : Ext h T2.heap := Wk.ext_of_keep ((Wk.keep_of_ext Ex1).trans K2 (allS (Or.inr (Nat.le_refl _)) all0))
  show Wk.Go p e below _ _ _ _ T2 (mkF m 228 #[q0, q1, q2, q3, q4, q5, q6, q7, .val (.ref la), .unset, .unset, .unset] [(.ref h.size)])
  have X9 := X2.mono (cells' := 6) (slots' := 46) (by decide) (by decide)
  exact stD a0 hw hx hby hml hown hret hlk hZ hS cs hcs fv hfv hO hcw hhE hh19 hh21 hh23 hh25 n0 hns r0 r1 r2 r3 rv x0 x1 x2 kv hx0 hx1 hx2 _ _ _ _ _ _ _ _ la h.size [] hV2 T2 T2.heap (LOK.step (by decide) (hL19.to (Wk.ext_refl h)) hWm2 EX) (LOK.step (by decide) (hL21.to (Wk.ext_refl h)) hWm2 EX) (LOK.step (by decide) (hL23.to (Wk.ext_refl h)) hWm2 EX) _ X9 rfl hk0 (Fr.app N0 N2) hn0 Sa (S.ext EX) (G.ext EX)
set_option maxRecDepth 65536 in
set_option maxHeartbeats 40000000 in
theorem stB {l : Launch} {Z : State} (a0 : Array Value) (hw : ∀ d ∈ tables_1, d.before a0 Z = true) {p : Program} {e : Env} {s : State} {vm0 : Vm} {k0 : Nat} {m : MethodId} {args : Array Value} {below : List Frame} {meth : Method} {c : Code} (hx : p.tables.exec = Jvm.exec) (hby : c.code = code) (hml : c.maxLocals = maxLocals) (hown : (s.setVm vm0).vm.findClass "com/example/kuri/kuri/normalize/SchemeRulesOfPinLaw" = some m.cls) (hret : meth.sig.returnType = some .boolean) (hlk : meth.locks = false) (hZ : Z.Warmed39 (s.setVm vm0).vm) (hS : s.Since vm0 k0) (cs : Int32) (hcs : ¬ cs.toInt = 0) (fv : Value) (hfv : fv.isRef = true) (hO : Wk.Old Z s.heap) (hcw : Jvm.Lit.compactW.before a0 Z = true) (hhE : Jvm.Lit.constHeld Z "java/lang/String" 7) (hh19 : Jvm.Lit.constHeld Z "com/example/kuri/kuri/normalize/SchemeRulesOfPinLaw" 19) (hh21 : Jvm.Lit.constHeld Z "com/example/kuri/kuri/normalize/SchemeRulesOfPinLaw" 21) (hh23 : Jvm.Lit.constHeld Z "com/example/kuri/kuri/normalize/SchemeRulesOfPinLaw" 23) (hh25 : Jvm.Lit.constHeld Z "com/example/kuri/kuri/normalize/SchemeRulesOfPinLaw" 25) (n0 : Nat) (hns : s.heap.size = n0) (r0 r1 r2 r3 rv x0 x1 x2 : Addr) (kv : ClassId) (hx0 : x0 < n0) (hx1 : x1 < n0) (hx2 : x2 < n0) (i0 : Int32) (i1 : Int64) (ln tm ti : Int32) (hln1 : 0 ≤ ln.toInt) (hln2 : ln.toInt ≤ 7) (t : Addr) (tl : List Int32) (n : Int32) (hn : n.toInt = (tl.length : Int)) {Ts : List String} (hnE : "" ∉ Ts) (hI : Jvm.RoadKit.IB Z vm0 Ts) (T : State) (h : Heap) (hL19 : LO Z s vm0 19 "http" tH h Ts) (hL21 : LO Z s vm0 21 "https" tS h Ts) (hL23 : LO Z s vm0 23 "mailto" tM h Ts) (L0 : List Loc) (X0 : Stand p l e room_1 (s.setVm vm0) m args below meth c T L0 2 28) (e0 : T.heap = h) (hk0 : k0 ≤ h.size) (N0 : Fr n0 L0) (hn0 : n0 ≤ h.size) (hOh : Wk.Old Z h) (St : Sv Z h t tl) (S : Sb Z h r0 r1 r2 r3 rv x0 x1 x2 kv) (G : Sg Z h cs fv) : Wk.Go p e below (Wk.EndV s (fun _ => True)) (Wk.Fq (.int 1) n0) 32 5248 T (mkF m 61 #[.val (.int i0), .val (.long i1), .second, .val (.int ln), .val (.int tm), .val (.int ti), .unset, .unset, .unset, .unset, .unset, .unset] [(.ref t)]) := by
  refine Wk.astore (l' := #[.val (.int i0), .val (.long i1), .second, .val (.int ln), .val (.int tm), .val (.int ti), .val (.ref t), .unset, .unset, .unset, .unset, .unset]) X0 hx (hb hby at_61) rfl rfl rfl ?_
  refine Wk.iloadN X0 hx (hb hby at_63) rfl rfl ?_
  refine Wk.bipush X0 hx (6 : Int32) (hb hby at_64) rfl rfl ?_
  refine Wk.iushr X0 hx (hb hby at_66) rfl ?_
  refine Wk.bipush X0 hx (15 : Int32) (hb hby at_67) rfl rfl ?_
  refine Wk.iand X0 hx (hb hby at_69) rfl ?_
  generalize (XT.ushr i0 (6 : Int32)) &&& (15 : Int32) = fp
  refine Wk.istore (l' := #[.val (.int i0), .val (.long i1), .second, .val (.int ln), .val (.int tm), .val (.int ti), .val (.ref t), .val (.int fp), .unset, .unset, .unset, .unset]) X0 hx (hb hby at_70) rfl rfl ?_
  rcases c8 ln hln1 hln2 with rfl | rfl | rfl | rfl | rfl | rfl | rfl | rfl
  · skip
    refine Wk.iloadN X0 hx (hb hby at_72) rfl rfl ?_
    refine Wk.newP (z := (0 : Int32)) X0 hx hZ rfl (hw _ (List.mem_of_getElem? (i := 8) rfl)) e0 (by decide) 0 (by decide) (by decide) (by decide) (by decide) (hb hby at_73) rfl (fun T1 g1 kc X1 e1 Ex1 Av1 => ?_)
    have C1 : Arv Z g1 h.size kc .char (0 : Int32) (List.replicate 0 (.int 0)) (.int 0) := Av1
    have K1 := Wk.keep_of_ext Ex1
    refine Wk.astore (l' := #[.val (.int i0), .val (.long i1), .second, .val (.int (0 : Int32)), .val (.int tm), .val (.int ti), .val (.ref t), .val (.int fp), .val (.ref h.size), .unset, .unset, .unset]) X1 hx (hb hby at_75) rfl rfl rfl ?_
    refine Wk.iloadN X1 hx (hb hby at_77) rfl rfl ?_
    refine Wk.if_le X1 hx 96 81 (hb hby at_78) rfl rfl (show ((0 : Int32) : Int32).toInt = 0 from (by decide)) (fun h61 => ?_) (fun h61 => absurd h61 (by omega))
    refine Wk.iloadN X1 hx (hb hby at_96) rfl rfl ?_
    refine Wk.iconst X1 hx (1 : Int32) (hb hby at_97) rfl rfl ?_
    refine Wk.icmp_le X1 hx 116 101 (hb hby at_98) rfl rfl (show ((0 : Int32) : Int32).toInt = 0 from (by decide)) (show ((1 : Int32) : Int32).toInt = 1 from (by decide)) (fun h62 => ?_) (fun h62 => absurd h62 (by omega))
    refine Wk.iloadN X1 hx (hb hby at_116) rfl rfl ?_
    refine Wk.iconst X1 hx (2 : Int32) (hb hby at_117) rfl rfl ?_
    refine Wk.icmp_le X1 hx 136 121 (hb hby at_118) rfl rfl (show ((0 : Int32) : Int32).toInt = 0 from (by decide)) (show ((2 : Int32) : Int32).toInt = 2 from (by decide)) (fun h63 => ?_) (fun h63 => absurd h63 (by omega))
    refine Wk.iloadN X1 hx (hb hby at_136) rfl rfl ?_
    refine Wk.iconst X1 hx (3 : Int32) (hb hby at_137) rfl rfl ?_
    refine Wk.icmp_le X1 hx 156 141 (hb hby at_138) rfl rfl (show ((0 : Int32) : Int32).toInt = 0 from (by decide)) (show ((3 : Int32) : Int32).toInt = 3 from (by decide)) (fun h64 => ?_) (fun h64 => absurd h64 (by omega))
    refine Wk.iloadN X1 hx (hb hby at_156) rfl rfl ?_
    refine Wk.iconst X1 hx (4 : Int32) (hb hby at_157) rfl rfl ?_
    refine Wk.icmp_le X1 hx 176 161 (hb hby at_158) rfl rfl (show ((0 : Int32) : Int32).toInt = 0 from (by decide)) (show ((4 : Int32) : Int32).toInt = 4 from (by decide)) (fun h65 => ?_) (fun h65 => absurd h65 (by omega))
    refine Wk.iloadN X1 hx (hb hby at_176) rfl rfl ?_
    refine Wk.iconst X1 hx (5 : Int32) (hb hby at_177) rfl rfl ?_
    refine Wk.icmp_le X1 hx 196 181 (hb hby at_178) rfl rfl (show ((0 : Int32) : Int32).toInt = 0 from (by decide)) (show ((5 : Int32) : Int32).toInt = 5 from (by decide)) (fun h66 => ?_) (fun h66 => absurd h66 (by omega))
    refine Wk.iloadN X1 hx (hb hby at_196) rfl rfl ?_
    refine Wk.bipush X1 hx (6 : Int32) (hb hby at_197) rfl rfl ?_
    refine Wk.icmp_le X1 hx 219 202 (hb hby at_199) rfl rfl (show ((0 : Int32) : Int32).toInt = 0 from (by decide)) (show ((6 : Int32) : Int32).toInt = 6 from (by decide)) (fun h67 => ?_) (fun h67 => absurd h67 (by omega))
    have EX := Wk.ext_of_keep K1
    have X9 := X1.mono (cells' := 3) (slots' := 35) (by decide) (by decide)
    exact stC1 a0 hw hx hby hml hown hret hlk hZ hS cs hcs fv hfv hO hcw hhE hh19 hh21 hh23 hh25 n0 hns r0 r1 r2 r3 rv x0 x1 x2 kv hx0 hx1 hx2 _ _ _ _ _ _ _ _ h.size kc hnE hI T1 g1 (hL19.ext EX) (hL21.ext EX) (hL23.ext EX) _ X9 e1 (Nat.le_trans hk0 EX.1) N0 (Nat.le_trans hn0 EX.1) (Wk.old_ext hOh EX) (S.ext EX) (G.ext EX) C1
  · skip
    refine Wk.iloadN X0 hx (hb hby at_72) rfl rfl ?_
    refine Wk.newP (z := (1 : Int32)) X0 hx hZ rfl (hw _ (List.mem_of_getElem? (i := 8) rfl)) e0 (by decide) 1 (by decide) (by decide) (by decide) (by decide) (hb hby at_73) rfl (fun T1 g1 kc X1 e1 Ex1 Av1 => ?_)
    have C1 : Arv Z g1 h.size kc .char (1 : Int32) (List.replicate 1 (.int 0)) (.int 0) := Av1
    have K1 := Wk.keep_of_ext Ex1
    refine Wk.astore (l' := #[.val (.int i0), .val (.long i1), .second, .val (.int (1 : Int32)), .val (.int tm), .val (.int ti), .val (.ref t), .val (.int fp), .val (.ref h.size), .unset, .unset, .unset]) X1 hx (hb hby at_75) rfl rfl rfl ?_
    refine Wk.iloadN X1 hx (hb hby at_77) rfl rfl ?_
    refine Wk.if_le X1 hx 96 81 (hb hby at_78) rfl rfl (show ((1 : Int32) : Int32).toInt = 1 from (by decide)) (fun h68 => absurd h68 (by omega)) (fun h68 => ?_)
    refine Wk.aload X1 hx (hb hby at_81) rfl rfl rfl ?_
    refine Wk.iconst X1 hx (0 : Int32) (hb hby at_83) rfl rfl ?_
    refine Wk.lloadN X1 hx (hb hby at_84) rfl rfl ?_
    refine Wk.iconst X1 hx (0 : Int32) (hb hby at_85) rfl rfl ?_
    refine Wk.aload X1 hx (hb hby at_86) rfl rfl rfl ?_
    refine Wk.iload X1 hx (hb hby at_88) rfl rfl ?_
    refine Wk.iload X1 hx (hb hby at_90) rfl rfl ?_
    refine Wk.callS (W := 2) X1 hx hZ (argsL := [(.long i1), (.int (0 : Int32)), (.ref t), (.int tm), (.int fp)]) (rest := [(.int (0 : Int32)), (.ref h.size)]) hown (hw _ (List.mem_of_getElem? (i := 64) rfl)) (hw _ (List.mem_of_getElem? (i := 65) rfl)) (hw _ (List.mem_of_getElem? (i := 66) rfl)) (hw _ (List.mem_of_getElem? (i := 67) rfl)) (by decide) (mche l Z a0 hw cs hcs fv hfv i1 (0 : Int32) tm fp (by decide) t tl n hn g1 (St.ext (Wk.ext_of_keep K1)) (G.ext (Wk.ext_of_keep K1))) e1 (by decide) (by decide) (by decide) (by decide) (by rw [hml]; rfl) (lenOf pd8 rfl) rfl (Nat.le_of_eq rfl) (hb hby at_92) rfl (fun T69 v69 L69 X69 hq69 => ?_)
    obtain ⟨u0, rfl, hu0, rfl, hh69⟩ := hq69
    rw [List.append_nil] at X69
    show Wk.Go p e below _ _ _ _ T69 (mkF m 95 #[.val (.int i0), .val (.long i1), .second, .val (.int (1 : Int32)), .val (.int tm), .val (.int ti), .val (.ref t), .val (.int fp), .val (.ref h.size), .unset, .unset, .unset] [(.int u0), (.int (0 : Int32)), (.ref h.size)])
    refine Wk.castore X69 hx hZ hh69 C1 (by decide) (by decide) 0 (by decide) (by simp only [List.length_set, List.length_replicate]; decide) (hb hby at_95) rfl (fun T70 g70 X70 e70 W70 C70 => ?_)
    rw [narCE u0 hu0.1 (Int.le_trans hu0.2 (by decide))] at C70
    have N70 := Fr.snoc X70 N0 hn0
    have K70 := K1.wr W70 (Or.inr (Nat.le_refl _))
    refine Wk.iloadN X70 hx (hb hby at_96) rfl rfl ?_
    refine Wk.iconst X70 hx (1 : Int32) (hb hby at_97) rfl rfl ?_
    refine Wk.icmp_le X70 hx 116 101 (hb hby at_98) rfl rfl (show ((1 : Int32) : Int32).toInt = 1 from (by decide)) (show ((1 : Int32) : Int32).toInt = 1 from (by decide)) (fun h71 => ?_) (fun h71 => absurd h71 (by omega))
    refine Wk.iloadN X70 hx (hb hby at_116) rfl rfl ?_
    refine Wk.iconst X70 hx (2 : Int32) (hb hby at_117) rfl rfl ?_
    refine Wk.icmp_le X70 hx 136 121 (hb hby at_118) rfl rfl (show ((1 : Int32) : Int32).toInt = 1 from (by decide)) (show ((2 : Int32) : Int32).toInt = 2 from (by decide)) (fun h72 => ?_) (fun h72 => absurd h72 (by omega))
    refine Wk.iloadN X70 hx (hb hby at_136) rfl rfl ?_
    refine Wk.iconst X70 hx (3 : Int32) (hb hby at_137) rfl rfl ?_
    refine Wk.icmp_le X70 hx 156 141 (hb hby at_138) rfl rfl (show ((1 : Int32) : Int32).toInt = 1 from (by decide)) (show ((3 : Int32) : Int32).toInt = 3 from (by decide)) (fun h73 => ?_) (fun h73 => absurd h73 (by omega))
    refine Wk.iloadN X70 hx (hb hby at_156) rfl rfl ?_
    refine Wk.iconst X70 hx (4 : Int32) (hb hby at_157) rfl rfl ?_
    refine Wk.icmp_le X70 hx 176 161 (hb hby at_158) rfl rfl (show ((1 : Int32) : Int32).toInt = 1 from (by decide)) (show ((4 : Int32) : Int32).toInt = 4 from (by decide)) (fun h74 => ?_) (fun h74 => absurd h74 (by omega))
    refine Wk.iloadN X70 hx (hb hby at_176) rfl rfl ?_
    refine Wk.iconst X70 hx (5 : Int32) (hb hby at_177) rfl rfl ?_
    refine Wk.icmp_le X70 hx 196 181 (hb hby at_178) rfl rfl (show ((1 : Int32) : Int32).toInt = 1 from (by decide)) (show ((5 : Int32) : Int32).toInt = 5 from (by decide)) (fun h75 => ?_) (fun h75 => absurd h75 (by omega))
    refine Wk.iloadN X70 hx (hb hby at_196) rfl rfl ?_
    refine Wk.bipush X70 hx (6 : Int32) (hb hby at_197) rfl rfl ?_
    refine Wk.icmp_le X70 hx 219 202 (hb hby at_199) rfl rfl (show ((1 : Int32) : Int32).toInt = 1 from (by decide)) (show ((6 : Int32) : Int32).toInt = 6 from (by decide)) (fun h76 => ?_) (fun h76 => absurd h76 (by omega))
    have EX := Wk.ext_of_keep K70
    have X9 := X70.mono (cells' := 3) (slots' := 35) (by decide) (by decide)
    have C9 : Arv Z g70 h.size kc .char (1 : Int32) (cl [u0]) (.int 0) := C70
    have hlat : ∀ u ∈ [u0], 0 ≤ u.toInt ∧ u.toInt ≤ 255 := by intro u hu; simp only [List.mem_cons, List.not_mem_nil, or_false] at hu; rcases hu with rfl <;> assumption
    exact stC0 a0 hw hx hby hml hown hret hlk hZ hS cs hcs fv hfv hO hcw hhE hh19 hh21 hh23 hh25 n0 hns r0 r1 r2 r3 rv x0 x1 x2 kv hx0 hx1 hx2 _ _ _ _ _ _ _ _ h.size kc [u0] (1 : Int32) rfl (fun u q => ⟨(hlat u q).1, Int.le_trans (hlat u q).2 (by decide)⟩) (by decide) rfl (by show 1 ≤ 7; decide) (fun u q => (hlat u q).2) (by show 0 < 1; decide) hnE hI T70 g70 (hL19.ext EX) (hL21.ext EX) (hL23.ext EX) _ X9 e70 (Nat.le_trans hk0 EX.1) N70 (Nat.le_trans hn0 EX.1) (Wk.old_ext hOh EX) (S.ext EX) (G.ext EX) C9
  · skip
    refine Wk.iloadN X0 hx (hb hby at_72) rfl rfl ?_
    refine Wk.newP (z := (2 : Int32)) X0 hx hZ rfl (hw _ (List.mem_of_getElem? (i := 8) rfl)) e0 (by decide) 2 (by decide) (by decide) (by decide) (by decide) (hb hby at_73) rfl (fun T1 g1 kc X1 e1 Ex1 Av1 => ?_)
    have C1 : Arv Z g1 h.size kc .char (2 : Int32) (List.replicate 2 (.int 0)) (.int 0) := Av1
    have K1 := Wk.keep_of_ext Ex1
    refine Wk.astore (l' := #[.val (.int i0), .val (.long i1), .second, .val (.int (2 : Int32)), .val (.int tm), .val (.int ti), .val (.ref t), .val (.int fp), .val (.ref h.size), .unset, .unset, .unset]) X1 hx (hb hby at_75) rfl rfl rfl ?_
    refine Wk.iloadN X1 hx (hb hby at_77) rfl rfl ?_
    refine Wk.if_le X1 hx 96 81 (hb hby at_78) rfl rfl (show ((2 : Int32) : Int32).toInt = 2 from (by decide)) (fun h77 => absurd h77 (by omega)) (fun h77 => ?_)
    refine Wk.aload X1 hx (hb hby at_81) rfl rfl rfl ?_
    refine Wk.iconst X1 hx (0 : Int32) (hb hby at_83) rfl rfl ?_
    refine Wk.lloadN X1 hx (hb hby at_84) rfl rfl ?_
    refine Wk.iconst X1 hx (0 : Int32) (hb hby at_85) rfl rfl ?_
    refine Wk.aload X1 hx (hb hby at_86) rfl rfl rfl ?_
    refine Wk.iload X1 hx (hb hby at_88) rfl rfl ?_
    refine Wk.iload X1 hx (hb hby at_90) rfl rfl ?_
    refine Wk.callS (W := 2) X1 hx hZ (argsL := [(.long i1), (.int (0 : Int32)), (.ref t), (.int tm), (.int fp)]) (rest := [(.int (0 : Int32)), (.ref h.size)]) hown (hw _ (List.mem_of_getElem? (i := 64) rfl)) (hw _ (List.mem_of_getElem? (i := 65) rfl)) (hw _ (List.mem_of_getElem? (i := 66) rfl)) (hw _ (List.mem_of_getElem? (i := 67) rfl)) (by decide) (mche l Z a0 hw cs hcs fv hfv i1 (0 : Int32) tm fp (by decide) t tl n hn g1 (St.ext (Wk.ext_of_keep K1)) (G.ext (Wk.ext_of_keep K1))) e1 (by decide) (by decide) (by decide) (by decide) (by rw [hml]; rfl) (lenOf pd8 rfl) rfl (Nat.le_of_eq rfl) (hb hby at_92) rfl (fun T78 v78 L78 X78 hq78 => ?_)
    obtain ⟨u0, rfl, hu0, rfl, hh78⟩ := hq78
    rw [List.append_nil] at X78
    show Wk.Go p e below _ _ _ _ T78 (mkF m 95 #[.val (.int i0), .val (.long i1), .second, .val (.int (2 : Int32)), .val (.int tm), .val (.int ti), .val (.ref t), .val (.int fp), .val (.ref h.size), .unset, .unset, .unset] [(.int u0), (.int (0 : Int32)), (.ref h.size)])
    refine Wk.castore X78 hx hZ hh78 C1 (by decide) (by decide) 0 (by decide) (by simp only [List.length_set, List.length_replicate]; decide) (hb hby at_95) rfl (fun T79 g79 X79 e79 W79 C79 => ?_)
    rw [narCE u0 hu0.1 (Int.le_trans hu0.2 (by decide))] at C79
    have N79 := Fr.snoc X79 N0 hn0
    have K79 := K1.wr W79 (Or.inr (Nat.le_refl _))
    refine Wk.iloadN X79 hx (hb hby at_96) rfl rfl ?_
    refine Wk.iconst X79 hx (1 : Int32) (hb hby at_97) rfl rfl ?_
    refine Wk.icmp_le X79 hx 116 101 (hb hby at_98) rfl rfl (show ((2 : Int32) : Int32).toInt = 2 from (by decide)) (show ((1 : Int32) : Int32).toInt = 1 from (by decide)) (fun h80 => absurd h80 (by omega)) (fun h80 => ?_)
    refine Wk.aload X79 hx (hb hby at_101) rfl rfl rfl ?_
    refine Wk.iconst X79 hx (1 : Int32) (hb hby at_103) rfl rfl ?_
    refine Wk.lloadN X79 hx (hb hby at_104) rfl rfl ?_
    refine Wk.iconst X79 hx (1 : Int32) (hb hby at_105) rfl rfl ?_
    refine Wk.aload X79 hx (hb hby at_106) rfl rfl rfl ?_
    refine Wk.iload X79 hx (hb hby at_108) rfl rfl ?_
    refine Wk.iload X79 hx (hb hby at_110) rfl rfl ?_
    refine Wk.callS (W := 2) X79 hx hZ (argsL := [(.long i1), (.int (1 : Int32)), (.ref t), (.int tm), (.int fp)]) (rest := [(.int (1 : Int32)), (.ref h.size)]) hown (hw _ (List.mem_of_getElem? (i := 64) rfl)) (hw _ (List.mem_of_getElem? (i := 65) rfl)) (hw _ (List.mem_of_getElem? (i := 66) rfl)) (hw _ (List.mem_of_getElem? (i := 67) rfl)) (by decide) (mche l Z a0 hw cs hcs fv hfv i1 (1 : Int32) tm fp (by decide) t tl n hn g79 (St.ext (Wk.ext_of_keep K79)) (G.ext (Wk.ext_of_keep K79))) e79 (by decide) (by decide) (by decide) (by decide) (by rw [hml]; rfl) (lenOf pd8 rfl) rfl (Nat.le_of_eq rfl) (hb hby at_112) rfl (fun T81 v81 L81 X81 hq81 => ?_)
    obtain ⟨u1, rfl, hu1, rfl, hh81⟩ := hq81
    rw [List.append_nil] at X81
    show Wk.Go p e below _ _ _ _ T81 (mkF m 115 #[.val (.int i0), .val (.long i1), .second, .val (.int (2 : Int32)), .val (.int tm), .val (.int ti), .val (.ref t), .val (.int fp), .val (.ref h.size), .unset, .unset, .unset] [(.int u1), (.int (1 : Int32)), (.ref h.size)])
    refine Wk.castore X81 hx hZ hh81 C79 (by decide) (by decide) 1 (by decide) (by simp only [List.length_set, List.length_replicate]; decide) (hb hby at_115) rfl (fun T82 g82 X82 e82 W82 C82 => ?_)
    rw [narCE u1 hu1.1 (Int.le_trans hu1.2 (by decide))] at C82
    have N82 := Fr.snoc X82 N79 hn0
    have K82 := K79.wr W82 (Or.inr (Nat.le_refl _))
    refine Wk.iloadN X82 hx (hb hby at_116) rfl rfl ?_
    refine Wk.iconst X82 hx (2 : Int32) (hb hby at_117) rfl rfl ?_
    refine Wk.icmp_le X82 hx 136 121 (hb hby at_118) rfl rfl (show ((2 : Int32) : Int32).toInt = 2 from (by decide)) (show ((2 : Int32) : Int32).toInt = 2 from (by decide)) (fun h83 => ?_) (fun h83 => absurd h83 (by omega))
    refine Wk.iloadN X82 hx (hb hby at_136) rfl rfl ?_
    refine Wk.iconst X82 hx (3 : Int32) (hb hby at_137) rfl rfl ?_
    refine Wk.icmp_le X82 hx 156 141 (hb hby at_138) rfl rfl (show ((2 : Int32) : Int32).toInt = 2 from (by decide)) (show ((3 : Int32) : Int32).toInt = 3 from (by decide)) (fun h84 => ?_) (fun h84 => absurd h84 (by omega))
    refine Wk.iloadN X82 hx (hb hby at_156) rfl rfl ?_
    refine Wk.iconst X82 hx (4 : Int32) (hb hby at_157) rfl rfl ?_
    refine Wk.icmp_le X82 hx 176 161 (hb hby at_158) rfl rfl (show ((2 : Int32) : Int32).toInt = 2 from (by decide)) (show ((4 : Int32) : Int32).toInt = 4 from (by decide)) (fun h85 => ?_) (fun h85 => absurd h85 (by omega))
    refine Wk.iloadN X82 hx (hb hby at_176) rfl rfl ?_
    refine Wk.iconst X82 hx (5 : Int32) (hb hby at_177) rfl rfl ?_
    refine Wk.icmp_le X82 hx 196 181 (hb hby at_178) rfl rfl (show ((2 : Int32) : Int32).toInt = 2 from (by decide)) (show ((5 : Int32) : Int32).toInt = 5 from (by decide)) (fun h86 => ?_) (fun h86 => absurd h86 (by omega))
    refine Wk.iloadN X82 hx (hb hby at_196) rfl rfl ?_
    refine Wk.bipush X82 hx (6 : Int32) (hb hby at_197) rfl rfl ?_
    refine Wk.icmp_le X82 hx 219 202 (hb hby at_199) rfl rfl (show ((2 : Int32) : Int32).toInt = 2 from (by decide)) (show ((6 : Int32) : Int32).toInt = 6 from (by decide)) (fun h87 => ?_) (fun h87 => absurd h87 (by omega))
    have EX := Wk.ext_of_keep K82
    have X9 := X82.mono (cells' := 3) (slots' := 35) (by decide) (by decide)
    have C9 : Arv Z g82 h.size kc .char (2 : Int32) (cl [u0, u1]) (.int 0) := C82
    have hlat : ∀ u ∈ [u0, u1], 0 ≤ u.toInt ∧ u.toInt ≤ 255 := by intro u hu; simp only [List.mem_cons, List.not_mem_nil, or_false] at hu; rcases hu with rfl | rfl <;> assumption
    exact stC0 a0 hw hx hby hml hown hret hlk hZ hS cs hcs fv hfv hO hcw hhE hh19 hh21 hh23 hh25 n0 hns r0 r1 r2 r3 rv x0 x1 x2 kv hx0 hx1 hx2 _ _ _ _ _ _ _ _ h.size kc [u0, u1] (2 : Int32) rfl (fun u q => ⟨(hlat u q).1, Int.le_trans (hlat u q).2 (by decide)⟩) (by decide) rfl (by show 2 ≤ 7; decide) (fun u q => (hlat u q).2) (by show 0 < 2; decide) hnE hI T82 g82 (hL19.ext EX) (hL21.ext EX) (hL23.ext EX) _ X9 e82 (Nat.le_trans hk0 EX.1) N82 (Nat.le_trans hn0 EX.1) (Wk.old_ext hOh EX) (S.ext EX) (G.ext EX) C9
  · skip
    refine Wk.iloadN X0 hx (hb hby at_72) rfl rfl ?_
    refine Wk.newP (z := (3 : Int32)) X0 hx hZ rfl (hw _ (List.mem_of_getElem? (i := 8) rfl)) e0 (by decide) 3 (by decide) (by decide) (by decide) (by decide) (hb hby at_73) rfl (fun T1 g1 kc X1 e1 Ex1 Av1 => ?_)
    have C1 : Arv Z g1 h.size kc .char (3 : Int32) (List.replicate 3 (.int 0)) (.int 0) := Av1
    have K1 := Wk.keep_of_ext Ex1
    refine Wk.astore (l' := #[.val (.int i0), .val (.long i1), .second, .val (.int (3 : Int32)), .val (.int tm), .val (.int ti), .val (.ref t), .val (.int fp), .val (.ref h.size), .unset, .unset, .unset]) X1 hx (hb hby at_75) rfl rfl rfl ?_
    refine Wk.iloadN X1 hx (hb hby at_77) rfl rfl ?_
    refine Wk.if_le X1 hx 96 81 (hb hby at_78) rfl rfl (show ((3 : Int32) : Int32).toInt = 3 from (by decide)) (fun h88 => absurd h88 (by omega)) (fun h88 => ?_)
    refine Wk.aload X1 hx (hb hby at_81) rfl rfl rfl ?_
    refine Wk.iconst X1 hx (0 : Int32) (hb hby at_83) rfl rfl ?_
    refine Wk.lloadN X1 hx (hb hby at_84) rfl rfl ?_
    refine Wk.iconst X1 hx (0 : Int32) (hb hby at_85) rfl rfl ?_
    refine Wk.aload X1 hx (hb hby at_86) rfl rfl rfl ?_
    refine Wk.iload X1 hx (hb hby at_88) rfl rfl ?_
    refine Wk.iload X1 hx (hb hby at_90) rfl rfl ?_
    refine Wk.callS (W := 2) X1 hx hZ (argsL := [(.long i1), (.int (0 : Int32)), (.ref t), (.int tm), (.int fp)]) (rest := [(.int (0 : Int32)), (.ref h.size)]) hown (hw _ (List.mem_of_getElem? (i := 64) rfl)) (hw _ (List.mem_of_getElem? (i := 65) rfl)) (hw _ (List.mem_of_getElem? (i := 66) rfl)) (hw _ (List.mem_of_getElem? (i := 67) rfl)) (by decide) (mche l Z a0 hw cs hcs fv hfv i1 (0 : Int32) tm fp (by decide) t tl n hn g1 (St.ext (Wk.ext_of_keep K1)) (G.ext (Wk.ext_of_keep K1))) e1 (by decide) (by decide) (by decide) (by decide) (by rw [hml]; rfl) (lenOf pd8 rfl) rfl (Nat.le_of_eq rfl) (hb hby at_92) rfl (fun T89 v89 L89 X89 hq89 => ?_)
    obtain ⟨u0, rfl, hu0, rfl, hh89⟩ := hq89
    rw [List.append_nil] at X89
    show Wk.Go p e below _ _ _ _ T89 (mkF m 95 #[.val (.int i0), .val (.long i1), .second, .val (.int (3 : Int32)), .val (.int tm), .val (.int ti), .val (.ref t), .val (.int fp), .val (.ref h.size), .unset, .unset, .unset] [(.int u0), (.int (0 : Int32)), (.ref h.size)])
    refine Wk.castore X89 hx hZ hh89 C1 (by decide) (by decide) 0 (by decide) (by simp only [List.length_set, List.length_replicate]; decide) (hb hby at_95) rfl (fun T90 g90 X90 e90 W90 C90 => ?_)
    rw [narCE u0 hu0.1 (Int.le_trans hu0.2 (by decide))] at C90
    have N90 := Fr.snoc X90 N0 hn0
    have K90 := K1.wr W90 (Or.inr (Nat.le_refl _))
    refine Wk.iloadN X90 hx (hb hby at_96) rfl rfl ?_
    refine Wk.iconst X90 hx (1 : Int32) (hb hby at_97) rfl rfl ?_
    refine Wk.icmp_le X90 hx 116 101 (hb hby at_98) rfl rfl (show ((3 : Int32) : Int32).toInt = 3 from (by decide)) (show ((1 : Int32) : Int32).toInt = 1 from (by decide)) (fun h91 => absurd h91 (by omega)) (fun h91 => ?_)
    refine Wk.aload X90 hx (hb hby at_101) rfl rfl rfl ?_
    refine Wk.iconst X90 hx (1 : Int32) (hb hby at_103) rfl rfl ?_
    refine Wk.lloadN X90 hx (hb hby at_104) rfl rfl ?_
    refine Wk.iconst X90 hx (1 : Int32) (hb hby at_105) rfl rfl ?_
    refine Wk.aload X90 hx (hb hby at_106) rfl rfl rfl ?_
    refine Wk.iload X90 hx (hb hby at_108) rfl rfl ?_
    refine Wk.iload X90 hx (hb hby at_110) rfl rfl ?_
    refine Wk.callS (W := 2) X90 hx hZ (argsL := [(.long i1), (.int (1 : Int32)), (.ref t), (.int tm), (.int fp)]) (rest := [(.int (1 : Int32)), (.ref h.size)]) hown (hw _ (List.mem_of_getElem? (i := 64) rfl)) (hw _ (List.mem_of_getElem? (i := 65) rfl)) (hw _ (List.mem_of_getElem? (i := 66) rfl)) (hw _ (List.mem_of_getElem? (i := 67) rfl)) (by decide) (mche l Z a0 hw cs hcs fv hfv i1 (1 : Int32) tm fp (by decide) t tl n hn g90 (St.ext (Wk.ext_of_keep K90)) (G.ext (Wk.ext_of_keep K90))) e90 (by decide) (by decide) (by decide) (by decide) (by rw [hml]; rfl) (lenOf pd8 rfl) rfl (Nat.le_of_eq rfl) (hb hby at_112) rfl (fun T92 v92 L92 X92 hq92 => ?_)
    obtain ⟨u1, rfl, hu1, rfl, hh92⟩ := hq92
    rw [List.append_nil] at X92
    show Wk.Go p e below _ _ _ _ T92 (mkF m 115 #[.val (.int i0), .val (.long i1), .second, .val (.int (3 : Int32)), .val (.int tm), .val (.int ti), .val (.ref t), .val (.int fp), .val (.ref h.size), .unset, .unset, .unset] [(.int u1), (.int (1 : Int32)), (.ref h.size)])
    refine Wk.castore X92 hx hZ hh92 C90 (by decide) (by decide) 1 (by decide) (by simp only [List.length_set, List.length_replicate]; decide) (hb hby at_115) rfl (fun T93 g93 X93 e93 W93 C93 => ?_)
    rw [narCE u1 hu1.1 (Int.le_trans hu1.2 (by decide))] at C93
    have N93 := Fr.snoc X93 N90 hn0
    have K93 := K90.wr W93 (Or.inr (Nat.le_refl _))
    refine Wk.iloadN X93 hx (hb hby at_116) rfl rfl ?_
    refine Wk.iconst X93 hx (2 : Int32) (hb hby at_117) rfl rfl ?_
    refine Wk.icmp_le X93 hx 136 121 (hb hby at_118) rfl rfl (show ((3 : Int32) : Int32).toInt = 3 from (by decide)) (show ((2 : Int32) : Int32).toInt = 2 from (by decide)) (fun h94 => absurd h94 (by omega)) (fun h94 => ?_)
    refine Wk.aload X93 hx (hb hby at_121) rfl rfl rfl ?_
    refine Wk.iconst X93 hx (2 : Int32) (hb hby at_123) rfl rfl ?_
    refine Wk.lloadN X93 hx (hb hby at_124) rfl rfl ?_
    refine Wk.iconst X93 hx (2 : Int32) (hb hby at_125) rfl rfl ?_
    refine Wk.aload X93 hx (hb hby at_126) rfl rfl rfl ?_
    refine Wk.iload X93 hx (hb hby at_128) rfl rfl ?_
    refine Wk.iload X93 hx (hb hby at_130) rfl rfl ?_
    refine Wk.callS (W := 2) X93 hx hZ (argsL := [(.long i1), (.int (2 : Int32)), (.ref t), (.int tm), (.int fp)]) (rest := [(.int (2 : Int32)), (.ref h.size)]) hown (hw _ (List.mem_of_getElem? (i := 64) rfl)) (hw _ (List.mem_of_getElem? (i := 65) rfl)) (hw _ (List.mem_of_getElem? (i := 66) rfl)) (hw _ (List.mem_of_getElem? (i := 67) rfl)) (by decide) (mche l Z a0 hw cs hcs fv hfv i1 (2 : Int32) tm fp (by decide) t tl n hn g93 (St.ext (Wk.ext_of_keep K93)) (G.ext (Wk.ext_of_keep K93))) e93 (by decide) (by decide) (by decide) (by decide) (by rw [hml]; rfl) (lenOf pd8 rfl) rfl (Nat.le_of_eq rfl) (hb hby at_132) rfl (fun T95 v95 L95 X95 hq95 => ?_)
    obtain ⟨u2, rfl, hu2, rfl, hh95⟩ := hq95
    rw [List.append_nil] at X95
    show Wk.Go p e below _ _ _ _ T95 (mkF m 135 #[.val (.int i0), .val (.long i1), .second, .val (.int (3 : Int32)), .val (.int tm), .val (.int ti), .val (.ref t), .val (.int fp), .val (.ref h.size), .unset, .unset, .unset] [(.int u2), (.int (2 : Int32)), (.ref h.size)])
    refine Wk.castore X95 hx hZ hh95 C93 (by decide) (by decide) 2 (by decide) (by simp only [List.length_set, List.length_replicate]; decide) (hb hby at_135) rfl (fun T96 g96 X96 e96 W96 C96 => ?_)
    rw [narCE u2 hu2.1 (Int.le_trans hu2.2 (by decide))] at C96
    have N96 := Fr.snoc X96 N93 hn0
    have K96 := K93.wr W96 (Or.inr (Nat.le_refl _))
    refine Wk.iloadN X96 hx (hb hby at_136) rfl rfl ?_
    refine Wk.iconst X96 hx (3 : Int32) (hb hby at_137) rfl rfl ?_
    refine Wk.icmp_le X96 hx 156 141 (hb hby at_138) rfl rfl (show ((3 : Int32) : Int32).toInt = 3 from (by decide)) (show ((3 : Int32) : Int32).toInt = 3 from (by decide)) (fun h97 => ?_) (fun h97 => absurd h97 (by omega))
    refine Wk.iloadN X96 hx (hb hby at_156) rfl rfl ?_
    refine Wk.iconst X96 hx (4 : Int32) (hb hby at_157) rfl rfl ?_
    refine Wk.icmp_le X96 hx 176 161 (hb hby at_158) rfl rfl (show ((3 : Int32) : Int32).toInt = 3 from (by decide)) (show ((4 : Int32) : Int32).toInt = 4 from (by decide)) (fun h98 => ?_) (fun h98 => absurd h98 (by omega))
    refine Wk.iloadN X96 hx (hb hby at_176) rfl rfl ?_
    refine Wk.iconst X96 hx (5 : Int32) (hb hby at_177) rfl rfl ?_
    refine Wk.icmp_le X96 hx 196 181 (hb hby at_178) rfl rfl (show ((3 : Int32) : Int32).toInt = 3 from (by decide)) (show ((5 : Int32) : Int32).toInt = 5 from (by decide)) (fun h99 => ?_) (fun h99 => absurd h99 (by omega))
    refine Wk.iloadN X96 hx (hb hby at_196) rfl rfl ?_
    refine Wk.bipush X96 hx (6 : Int32) (hb hby at_197) rfl rfl ?_
    refine Wk.icmp_le X96 hx 219 202 (hb hby at_199) rfl rfl (show ((3 : Int32) : Int32).toInt = 3 from (by decide)) (show ((6 : Int32) : Int32).toInt = 6 from (by decide)) (fun h100 => ?_) (fun h100 => absurd h100 (by omega))
    have EX := Wk.ext_of_keep K96
    have X9 := X96.mono (cells' := 3) (slots' := 35) (by decide) (by decide)
    have C9 : Arv Z g96 h.size kc .char (3 : Int32) (cl [u0, u1, u2]) (.int 0) := C96
    have hlat : ∀ u ∈ [u0, u1, u2], 0 ≤ u.toInt ∧ u.toInt ≤ 255 := by intro u hu; simp only [List.mem_cons, List.not_mem_nil, or_false] at hu; rcases hu with rfl | rfl | rfl <;> assumption
    exact stC0 a0 hw hx hby hml hown hret hlk hZ hS cs hcs fv hfv hO hcw hhE hh19 hh21 hh23 hh25 n0 hns r0 r1 r2 r3 rv x0 x1 x2 kv hx0 hx1 hx2 _ _ _ _ _ _ _ _ h.size kc [u0, u1, u2] (3 : Int32) rfl (fun u q => ⟨(hlat u q).1, Int.le_trans (hlat u q).2 (by decide)⟩) (by decide) rfl (by show 3 ≤ 7; decide) (fun u q => (hlat u q).2) (by show 0 < 3; decide) hnE hI T96 g96 (hL19.ext EX) (hL21.ext EX) (hL23.ext EX) _ X9 e96 (Nat.le_trans hk0 EX.1) N96 (Nat.le_trans hn0 EX.1) (Wk.old_ext hOh EX) (S.ext EX) (G.ext EX) C9
  · skip
    refine Wk.iloadN X0 hx (hb hby at_72) rfl rfl ?_
    refine Wk.newP (z := (4 : Int32)) X0 hx hZ rfl (hw _ (List.mem_of_getElem? (i := 8) rfl)) e0 (by decide) 4 (by decide) (by decide) (by decide) (by decide) (hb hby at_73) rfl (fun T1 g1 kc X1 e1 Ex1 Av1 => ?_)
    have C1 : Arv Z g1 h.size kc .char (4 : Int32) (List.replicate 4 (.int 0)) (.int 0) := Av1
    have K1 := Wk.keep_of_ext Ex1
    refine Wk.astore (l' := #[.val (.int i0), .val (.long i1), .second, .val (.int (4 : Int32)), .val (.int tm), .val (.int ti), .val (.ref t), .val (.int fp), .val (.ref h.size), .unset, .unset, .unset]) X1 hx (hb hby at_75) rfl rfl rfl ?_
    refine Wk.iloadN X1 hx (hb hby at_77) rfl rfl ?_
    refine Wk.if_le X1 hx 96 81 (hb hby at_78) rfl rfl (show ((4 : Int32) : Int32).toInt = 4 from (by decide)) (fun h101 => absurd h101 (by omega)) (fun h101 => ?_)
    refine Wk.aload X1 hx (hb hby at_81) rfl rfl rfl ?_
    refine Wk.iconst X1 hx (0 : Int32) (hb hby at_83) rfl rfl ?_
    refine Wk.lloadN X1 hx (hb hby at_84) rfl rfl ?_
    refine Wk.iconst X1 hx (0 : Int32) (hb hby at_85) rfl rfl ?_
    refine Wk.aload X1 hx (hb hby at_86) rfl rfl rfl ?_
    refine Wk.iload X1 hx (hb hby at_88) rfl rfl ?_
    refine Wk.iload X1 hx (hb hby at_90) rfl rfl ?_
    refine Wk.callS (W := 2) X1 hx hZ (argsL := [(.long i1), (.int (0 : Int32)), (.ref t), (.int tm), (.int fp)]) (rest := [(.int (0 : Int32)), (.ref h.size)]) hown (hw _ (List.mem_of_getElem? (i := 64) rfl)) (hw _ (List.mem_of_getElem? (i := 65) rfl)) (hw _ (List.mem_of_getElem? (i := 66) rfl)) (hw _ (List.mem_of_getElem? (i := 67) rfl)) (by decide) (mche l Z a0 hw cs hcs fv hfv i1 (0 : Int32) tm fp (by decide) t tl n hn g1 (St.ext (Wk.ext_of_keep K1)) (G.ext (Wk.ext_of_keep K1))) e1 (by decide) (by decide) (by decide) (by decide) (by rw [hml]; rfl) (lenOf pd8 rfl) rfl (Nat.le_of_eq rfl) (hb hby at_92) rfl (fun T102 v102 L102 X102 hq102 => ?_)
    obtain ⟨u0, rfl, hu0, rfl, hh102⟩ := hq102
    rw [List.append_nil] at X102
    show Wk.Go p e below _ _ _ _ T102 (mkF m 95 #[.val (.int i0), .val (.long i1), .second, .val (.int (4 : Int32)), .val (.int tm), .val (.int ti), .val (.ref t), .val (.int fp), .val (.ref h.size), .unset, .unset, .unset] [(.int u0), (.int (0 : Int32)), (.ref h.size)])
    refine Wk.castore X102 hx hZ hh102 C1 (by decide) (by decide) 0 (by decide) (by simp only [List.length_set, List.length_replicate]; decide) (hb hby at_95) rfl (fun T103 g103 X103 e103 W103 C103 => ?_)
    rw [narCE u0 hu0.1 (Int.le_trans hu0.2 (by decide))] at C103
    have N103 := Fr.snoc X103 N0 hn0
    have K103 := K1.wr W103 (Or.inr (Nat.le_refl _))
    refine Wk.iloadN X103 hx (hb hby at_96) rfl rfl ?_
    refine Wk.iconst X103 hx (1 : Int32) (hb hby at_97) rfl rfl ?_
    refine Wk.icmp_le X103 hx 116 101 (hb hby at_98) rfl rfl (show ((4 : Int32) : Int32).toInt = 4 from (by decide)) (show ((1 : Int32) : Int32).toInt = 1 from (by decide)) (fun h104 => absurd h104 (by omega)) (fun h104 => ?_)
    refine Wk.aload X103 hx (hb hby at_101) rfl rfl rfl ?_
    refine Wk.iconst X103 hx (1 : Int32) (hb hby at_103) rfl rfl ?_
    refine Wk.lloadN X103 hx (hb hby at_104) rfl rfl ?_
    refine Wk.iconst X103 hx (1 : Int32) (hb hby at_105) rfl rfl ?_
    refine Wk.aload X103 hx (hb hby at_106) rfl rfl rfl ?_
    refine Wk.iload X103 hx (hb hby at_108) rfl rfl ?_
    refine Wk.iload X103 hx (hb hby at_110) rfl rfl ?_
    refine Wk.callS (W := 2) X103 hx hZ (argsL := [(.long i1), (.int (1 : Int32)), (.ref t), (.int tm), (.int fp)]) (rest := [(.int (1 : Int32)), (.ref h.size)]) hown (hw _ (List.mem_of_getElem? (i := 64) rfl)) (hw _ (List.mem_of_getElem? (i := 65) rfl)) (hw _ (List.mem_of_getElem? (i := 66) rfl)) (hw _ (List.mem_of_getElem? (i := 67) rfl)) (by decide) (mche l Z a0 hw cs hcs fv hfv i1 (1 : Int32) tm fp (by decide) t tl n hn g103 (St.ext (Wk.ext_of_keep K103)) (G.ext (Wk.ext_of_keep K103))) e103 (by decide) (by decide) (by decide) (by decide) (by rw [hml]; rfl) (lenOf pd8 rfl) rfl (Nat.le_of_eq rfl) (hb hby at_112) rfl (fun T105 v105 L105 X105 hq105 => ?_)
    obtain ⟨u1, rfl, hu1, rfl, hh105⟩ := hq105
    rw [List.append_nil] at X105
    show Wk.Go p e below _ _ _ _ T105 (mkF m 115 #[.val (.int i0), .val (.long i1), .second, .val (.int (4 : Int32)), .val (.int tm), .val (.int ti), .val (.ref t), .val (.int fp), .val (.ref h.size), .unset, .unset, .unset] [(.int u1), (.int (1 : Int32)), (.ref h.size)])
    refine Wk.castore X105 hx hZ hh105 C103 (by decide) (by decide) 1 (by decide) (by simp only [List.length_set, List.length_replicate]; decide) (hb hby at_115) rfl (fun T106 g106 X106 e106 W106 C106 => ?_)
    rw [narCE u1 hu1.1 (Int.le_trans hu1.2 (by decide))] at C106
    have N106 := Fr.snoc X106 N103 hn0
    have K106 := K103.wr W106 (Or.inr (Nat.le_refl _))
    refine Wk.iloadN X106 hx (hb hby at_116) rfl rfl ?_
    refine Wk.iconst X106 hx (2 : Int32) (hb hby at_117) rfl rfl ?_
    refine Wk.icmp_le X106 hx 136 121 (hb hby at_118) rfl rfl (show ((4 : Int32) : Int32).toInt = 4 from (by decide)) (show ((2 : Int32) : Int32).toInt = 2 from (by decide)) (fun h107 => absurd h107 (by omega)) (fun h107 => ?_)
    refine Wk.aload X106 hx (hb hby at_121) rfl rfl rfl ?_
    refine Wk.iconst X106 hx (2 : Int32) (hb hby at_123) rfl rfl ?_
    refine Wk.lloadN X106 hx (hb hby at_124) rfl rfl ?_
    refine Wk.iconst X106 hx (2 : Int32) (hb hby at_125) rfl rfl ?_
    refine Wk.aload X106 hx (hb hby at_126) rfl rfl rfl ?_
    refine Wk.iload X106 hx (hb hby at_128) rfl rfl ?_
    refine Wk.iload X106 hx (hb hby at_130) rfl rfl ?_
    refine Wk.callS (W := 2) X106 hx hZ (argsL := [(.long i1), (.int (2 : Int32)), (.ref t), (.int tm), (.int fp)]) (rest := [(.int (2 : Int32)), (.ref h.size)]) hown (hw _ (List.mem_of_getElem? (i := 64) rfl)) (hw _ (List.mem_of_getElem? (i := 65) rfl)) (hw _ (List.mem_of_getElem? (i := 66) rfl)) (hw _ (List.mem_of_getElem? (i := 67) rfl)) (by decide) (mche l Z a0 hw cs hcs fv hfv i1 (2 : Int32) tm fp (by decide) t tl n hn g106 (St.ext (Wk.ext_of_keep K106)) (G.ext (Wk.ext_of_keep K106))) e106 (by decide) (by decide) (by decide) (by decide) (by rw [hml]; rfl) (lenOf pd8 rfl) rfl (Nat.le_of_eq rfl) (hb hby at_132) rfl (fun T108 v108 L108 X108 hq108 => ?_)
    obtain ⟨u2, rfl, hu2, rfl, hh108⟩ := hq108
    rw [List.append_nil] at X108
    show Wk.Go p e below _ _ _ _ T108 (mkF m 135 #[.val (.int i0), .val (.long i1), .second, .val (.int (4 : Int32)), .val (.int tm), .val (.int ti), .val (.ref t), .val (.int fp), .val (.ref h.size), .unset, .unset, .unset] [(.int u2), (.int (2 : Int32)), (.ref h.size)])
    refine Wk.castore X108 hx hZ hh108 C106 (by decide) (by decide) 2 (by decide) (by simp only [List.length_set, List.length_replicate]; decide) (hb hby at_135) rfl (fun T109 g109 X109 e109 W109 C109 => ?_)
    rw [narCE u2 hu2.1 (Int.le_trans hu2.2 (by decide))] at C109
    have N109 := Fr.snoc X109 N106 hn0
    have K109 := K106.wr W109 (Or.inr (Nat.le_refl _))
    refine Wk.iloadN X109 hx (hb hby at_136) rfl rfl ?_
    refine Wk.iconst X109 hx (3 : Int32) (hb hby at_137) rfl rfl ?_
    refine Wk.icmp_le X109 hx 156 141 (hb hby at_138) rfl rfl (show ((4 : Int32) : Int32).toInt = 4 from (by decide)) (show ((3 : Int32) : Int32).toInt = 3 from (by decide)) (fun h110 => absurd h110 (by omega)) (fun h110 => ?_)
    refine Wk.aload X109 hx (hb hby at_141) rfl rfl rfl ?_
    refine Wk.iconst X109 hx (3 : Int32) (hb hby at_143) rfl rfl ?_
    refine Wk.lloadN X109 hx (hb hby at_144) rfl rfl ?_
    refine Wk.iconst X109 hx (3 : Int32) (hb hby at_145) rfl rfl ?_
    refine Wk.aload X109 hx (hb hby at_146) rfl rfl rfl ?_
    refine Wk.iload X109 hx (hb hby at_148) rfl rfl ?_
    refine Wk.iload X109 hx (hb hby at_150) rfl rfl ?_
    refine Wk.callS (W := 2) X109 hx hZ (argsL := [(.long i1), (.int (3 : Int32)), (.ref t), (.int tm), (.int fp)]) (rest := [(.int (3 : Int32)), (.ref h.size)]) hown (hw _ (List.mem_of_getElem? (i := 64) rfl)) (hw _ (List.mem_of_getElem? (i := 65) rfl)) (hw _ (List.mem_of_getElem? (i := 66) rfl)) (hw _ (List.mem_of_getElem? (i := 67) rfl)) (by decide) (mche l Z a0 hw cs hcs fv hfv i1 (3 : Int32) tm fp (by decide) t tl n hn g109 (St.ext (Wk.ext_of_keep K109)) (G.ext (Wk.ext_of_keep K109))) e109 (by decide) (by decide) (by decide) (by decide) (by rw [hml]; rfl) (lenOf pd8 rfl) rfl (Nat.le_of_eq rfl) (hb hby at_152) rfl (fun T111 v111 L111 X111 hq111 => ?_)
    obtain ⟨u3, rfl, hu3, rfl, hh111⟩ := hq111
    rw [List.append_nil] at X111
    show Wk.Go p e below _ _ _ _ T111 (mkF m 155 #[.val (.int i0), .val (.long i1), .second, .val (.int (4 : Int32)), .val (.int tm), .val (.int ti), .val (.ref t), .val (.int fp), .val (.ref h.size), .unset, .unset, .unset] [(.int u3), (.int (3 : Int32)), (.ref h.size)])
    refine Wk.castore X111 hx hZ hh111 C109 (by decide) (by decide) 3 (by decide) (by simp only [List.length_set, List.length_replicate]; decide) (hb hby at_155) rfl (fun T112 g112 X112 e112 W112 C112 => ?_)
    rw [narCE u3 hu3.1 (Int.le_trans hu3.2 (by decide))] at C112
    have N112 := Fr.snoc X112 N109 hn0
    have K112 := K109.wr W112 (Or.inr (Nat.le_refl _))
    refine Wk.iloadN X112 hx (hb hby at_156) rfl rfl ?_
    refine Wk.iconst X112 hx (4 : Int32) (hb hby at_157) rfl rfl ?_
    refine Wk.icmp_le X112 hx 176 161 (hb hby at_158) rfl rfl (show ((4 : Int32) : Int32).toInt = 4 from (by decide)) (show ((4 : Int32) : Int32).toInt = 4 from (by decide)) (fun h113 => ?_) (fun h113 => absurd h113 (by omega))
    refine Wk.iloadN X112 hx (hb hby at_176) rfl rfl ?_
    refine Wk.iconst X112 hx (5 : Int32) (hb hby at_177) rfl rfl ?_
    refine Wk.icmp_le X112 hx 196 181 (hb hby at_178) rfl rfl (show ((4 : Int32) : Int32).toInt = 4 from (by decide)) (show ((5 : Int32) : Int32).toInt = 5 from (by decide)) (fun h114 => ?_) (fun h114 => absurd h114 (by omega))
    refine Wk.iloadN X112 hx (hb hby at_196) rfl rfl ?_
    refine Wk.bipush X112 hx (6 : Int32) (hb hby at_197) rfl rfl ?_
    refine Wk.icmp_le X112 hx 219 202 (hb hby at_199) rfl rfl (show ((4 : Int32) : Int32).toInt = 4 from (by decide)) (show ((6 : Int32) : Int32).toInt = 6 from (by decide)) (fun h115 => ?_) (fun h115 => absurd h115 (by omega))
    have EX := Wk.ext_of_keep K112
    have X9 := X112.mono (cells' := 3) (slots' := 35) (by decide) (by decide)
    have C9 : Arv Z g112 h.size kc .char (4 : Int32) (cl [u0, u1, u2, u3]) (.int 0) := C112
    have hlat : ∀ u ∈ [u0, u1, u2, u3], 0 ≤ u.toInt ∧ u.toInt ≤ 255 := by intro u hu; simp only [List.mem_cons, List.not_mem_nil, or_false] at hu; rcases hu with rfl | rfl | rfl | rfl <;> assumption
    exact stC0 a0 hw hx hby hml hown hret hlk hZ hS cs hcs fv hfv hO hcw hhE hh19 hh21 hh23 hh25 n0 hns r0 r1 r2 r3 rv x0 x1 x2 kv hx0 hx1 hx2 _ _ _ _ _ _ _ _ h.size kc [u0, u1, u2, u3] (4 : Int32) rfl (fun u q => ⟨(hlat u q).1, Int.le_trans (hlat u q).2 (by decide)⟩) (by decide) rfl (by show 4 ≤ 7; decide) (fun u q => (hlat u q).2) (by show 0 < 4; decide) hnE hI T112 g112 (hL19.ext EX) (hL21.ext EX) (hL23.ext EX) _ X9 e112 (Nat.le_trans hk0 EX.1) N112 (Nat.le_trans hn0 EX.1) (Wk.old_ext hOh EX) (S.ext EX) (G.ext EX) C9
  · skip
    refine Wk.iloadN X0 hx (hb hby at_72) rfl rfl ?_
    refine Wk.newP (z := (5 : Int32)) X0 hx hZ rfl (hw _ (List.mem_of_getElem? (i := 8) rfl)) e0 (by decide) 5 (by decide) (by decide) (by decide) (by decide) (hb hby at_73) rfl (fun T1 g1 kc X1 e1 Ex1 Av1 => ?_)
    have C1 : Arv Z g1 h.size kc .char (5 : Int32) (List.replicate 5 (.int 0)) (.int 0) := Av1
    have K1 := Wk.keep_of_ext Ex1
    refine Wk.astore (l' := #[.val (.int i0), .val (.long i1), .second, .val (.int (5 : Int32)), .val (.int tm), .val (.int ti), .val (.ref t), .val (.int fp), .val (.ref h.size), .unset, .unset, .unset]) X1 hx (hb hby at_75) rfl rfl rfl ?_
    refine Wk.iloadN X1 hx (hb hby at_77) rfl rfl ?_
    refine Wk.if_le X1 hx 96 81 (hb hby at_78) rfl rfl (show ((5 : Int32) : Int32).toInt = 5 from (by decide)) (fun h116 => absurd h116 (by omega)) (fun h116 => ?_)
    refine Wk.aload X1 hx (hb hby at_81) rfl rfl rfl ?_
    refine Wk.iconst X1 hx (0 : Int32) (hb hby at_83) rfl rfl ?_
    refine Wk.lloadN X1 hx (hb hby at_84) rfl rfl ?_
    refine Wk.iconst X1 hx (0 : Int32) (hb hby at_85) rfl rfl ?_
    refine Wk.aload X1 hx (hb hby at_86) rfl rfl rfl ?_
    refine Wk.iload X1 hx (hb hby at_88) rfl rfl ?_
    refine Wk.iload X1 hx (hb hby at_90) rfl rfl ?_
    refine Wk.callS (W := 2) X1 hx hZ (argsL := [(.long i1), (.int (0 : Int32)), (.ref t), (.int tm), (.int fp)]) (rest := [(.int (0 : Int32)), (.ref h.size)]) hown (hw _ (List.mem_of_getElem? (i := 64) rfl)) (hw _ (List.mem_of_getElem? (i := 65) rfl)) (hw _ (List.mem_of_getElem? (i := 66) rfl)) (hw _ (List.mem_of_getElem? (i := 67) rfl)) (by decide) (mche l Z a0 hw cs hcs fv hfv i1 (0 : Int32) tm fp (by decide) t tl n hn g1 (St.ext (Wk.ext_of_keep K1)) (G.ext (Wk.ext_of_keep K1))) e1 (by decide) (by decide) (by decide) (by decide) (by rw [hml]; rfl) (lenOf pd8 rfl) rfl (Nat.le_of_eq rfl) (hb hby at_92) rfl (fun T117 v117 L117 X117 hq117 => ?_)
    obtain ⟨u0, rfl, hu0, rfl, hh117⟩ := hq117
    rw [List.append_nil] at X117
    show Wk.Go p e below _ _ _ _ T117 (mkF m 95 #[.val (.int i0), .val (.long i1), .second, .val (.int (5 : Int32)), .val (.int tm), .val (.int ti), .val (.ref t), .val (.int fp), .val (.ref h.size), .unset, .unset, .unset] [(.int u0), (.int (0 : Int32)), (.ref h.size)])
    refine Wk.castore X117 hx hZ hh117 C1 (by decide) (by decide) 0 (by decide) (by simp only [List.length_set, List.length_replicate]; decide) (hb hby at_95) rfl (fun T118 g118 X118 e118 W118 C118 => ?_)
    rw [narCE u0 hu0.1 (Int.le_trans hu0.2 (by decide))] at C118
    have N118 := Fr.snoc X118 N0 hn0
    have K118 := K1.wr W118 (Or.inr (Nat.le_refl _))
    refine Wk.iloadN X118 hx (hb hby at_96) rfl rfl ?_
    refine Wk.iconst X118 hx (1 : Int32) (hb hby at_97) rfl rfl ?_
    refine Wk.icmp_le X118 hx 116 101 (hb hby at_98) rfl rfl (show ((5 : Int32) : Int32).toInt = 5 from (by decide)) (show ((1 : Int32) : Int32).toInt = 1 from (by decide)) (fun h119 => absurd h119 (by omega)) (fun h119 => ?_)
    refine Wk.aload X118 hx (hb hby at_101) rfl rfl rfl ?_
    refine Wk.iconst X118 hx (1 : Int32) (hb hby at_103) rfl rfl ?_
    refine Wk.lloadN X118 hx (hb hby at_104) rfl rfl ?_
    refine Wk.iconst X118 hx (1 : Int32) (hb hby at_105) rfl rfl ?_
    refine Wk.aload X118 hx (hb hby at_106) rfl rfl rfl ?_
    refine Wk.iload X118 hx (hb hby at_108) rfl rfl ?_
    refine Wk.iload X118 hx (hb hby at_110) rfl rfl ?_
    refine Wk.callS (W := 2) X118 hx hZ (argsL := [(.long i1), (.int (1 : Int32)), (.ref t), (.int tm), (.int fp)]) (rest := [(.int (1 : Int32)), (.ref h.size)]) hown (hw _ (List.mem_of_getElem? (i := 64) rfl)) (hw _ (List.mem_of_getElem? (i := 65) rfl)) (hw _ (List.mem_of_getElem? (i := 66) rfl)) (hw _ (List.mem_of_getElem? (i := 67) rfl)) (by decide) (mche l Z a0 hw cs hcs fv hfv i1 (1 : Int32) tm fp (by decide) t tl n hn g118 (St.ext (Wk.ext_of_keep K118)) (G.ext (Wk.ext_of_keep K118))) e118 (by decide) (by decide) (by decide) (by decide) (by rw [hml]; rfl) (lenOf pd8 rfl) rfl (Nat.le_of_eq rfl) (hb hby at_112) rfl (fun T120 v120 L120 X120 hq120 => ?_)
    obtain ⟨u1, rfl, hu1, rfl, hh120⟩ := hq120
    rw [List.append_nil] at X120
    show Wk.Go p e below _ _ _ _ T120 (mkF m 115 #[.val (.int i0), .val (.long i1), .second, .val (.int (5 : Int32)), .val (.int tm), .val (.int ti), .val (.ref t), .val (.int fp), .val (.ref h.size), .unset, .unset, .unset] [(.int u1), (.int (1 : Int32)), (.ref h.size)])
    refine Wk.castore X120 hx hZ hh120 C118 (by decide) (by decide) 1 (by decide) (by simp only [List.length_set, List.length_replicate]; decide) (hb hby at_115) rfl (fun T121 g121 X121 e121 W121 C121 => ?_)
    rw [narCE u1 hu1.1 (Int.le_trans hu1.2 (by decide))] at C121
    have N121 := Fr.snoc X121 N118 hn0
    have K121 := K118.wr W121 (Or.inr (Nat.le_refl _))
    refine Wk.iloadN X121 hx (hb hby at_116) rfl rfl ?_
    refine Wk.iconst X121 hx (2 : Int32) (hb hby at_117) rfl rfl ?_
    refine Wk.icmp_le X121 hx 136 121 (hb hby at_118) rfl rfl (show ((5 : Int32) : Int32).toInt = 5 from (by decide)) (show ((2 : Int32) : Int32).toInt = 2 from (by decide)) (fun h122 => absurd h122 (by omega)) (fun h122 => ?_)
    refine Wk.aload X121 hx (hb hby at_121) rfl rfl rfl ?_
    refine Wk.iconst X121 hx (2 : Int32) (hb hby at_123) rfl rfl ?_
    refine Wk.lloadN X121 hx (hb hby at_124) rfl rfl ?_
    refine Wk.iconst X121 hx (2 : Int32) (hb hby at_125) rfl rfl ?_
    refine Wk.aload X121 hx (hb hby at_126) rfl rfl rfl ?_
    refine Wk.iload X121 hx (hb hby at_128) rfl rfl ?_
    refine Wk.iload X121 hx (hb hby at_130) rfl rfl ?_
    refine Wk.callS (W := 2) X121 hx hZ (argsL := [(.long i1), (.int (2 : Int32)), (.ref t), (.int tm), (.int fp)]) (rest := [(.int (2 : Int32)), (.ref h.size)]) hown (hw _ (List.mem_of_getElem? (i := 64) rfl)) (hw _ (List.mem_of_getElem? (i := 65) rfl)) (hw _ (List.mem_of_getElem? (i := 66) rfl)) (hw _ (List.mem_of_getElem? (i := 67) rfl)) (by decide) (mche l Z a0 hw cs hcs fv hfv i1 (2 : Int32) tm fp (by decide) t tl n hn g121 (St.ext (Wk.ext_of_keep K121)) (G.ext (Wk.ext_of_keep K121))) e121 (by decide) (by decide) (by decide) (by decide) (by rw [hml]; rfl) (lenOf pd8 rfl) rfl (Nat.le_of_eq rfl) (hb hby at_132) rfl (fun T123 v123 L123 X123 hq123 => ?_)
    obtain ⟨u2, rfl, hu2, rfl, hh123⟩ := hq123
    rw [List.append_nil] at X123
    show Wk.Go p e below _ _ _ _ T123 (mkF m 135 #[.val (.int i0), .val (.long i1), .second, .val (.int (5 : Int32)), .val (.int tm), .val (.int ti), .val (.ref t), .val (.int fp), .val (.ref h.size), .unset, .unset, .unset] [(.int u2), (.int (2 : Int32)), (.ref h.size)])
    refine Wk.castore X123 hx hZ hh123 C121 (by decide) (by decide) 2 (by decide) (by simp only [List.length_set, List.length_replicate]; decide) (hb hby at_135) rfl (fun T124 g124 X124 e124 W124 C124 => ?_)
    rw [narCE u2 hu2.1 (Int.le_trans hu2.2 (by decide))] at C124
    have N124 := Fr.snoc X124 N121 hn0
    have K124 := K121.wr W124 (Or.inr (Nat.le_refl _))
    refine Wk.iloadN X124 hx (hb hby at_136) rfl rfl ?_
    refine Wk.iconst X124 hx (3 : Int32) (hb hby at_137) rfl rfl ?_
    refine Wk.icmp_le X124 hx 156 141 (hb hby at_138) rfl rfl (show ((5 : Int32) : Int32).toInt = 5 from (by decide)) (show ((3 : Int32) : Int32).toInt = 3 from (by decide)) (fun h125 => absurd h125 (by omega)) (fun h125 => ?_)
    refine Wk.aload X124 hx (hb hby at_141) rfl rfl rfl ?_
    refine Wk.iconst X124 hx (3 : Int32) (hb hby at_143) rfl rfl ?_
    refine Wk.lloadN X124 hx (hb hby at_144) rfl rfl ?_
    refine Wk.iconst X124 hx (3 : Int32) (hb hby at_145) rfl rfl ?_
    refine Wk.aload X124 hx (hb hby at_146) rfl rfl rfl ?_
    refine Wk.iload X124 hx (hb hby at_148) rfl rfl ?_
    refine Wk.iload X124 hx (hb hby at_150) rfl rfl ?_
    refine Wk.callS (W := 2) X124 hx hZ (argsL := [(.long i1), (.int (3 : Int32)), (.ref t), (.int tm), (.int fp)]) (rest := [(.int (3 : Int32)), (.ref h.size)]) hown (hw _ (List.mem_of_getElem? (i := 64) rfl)) (hw _ (List.mem_of_getElem? (i := 65) rfl)) (hw _ (List.mem_of_getElem? (i := 66) rfl)) (hw _ (List.mem_of_getElem? (i := 67) rfl)) (by decide) (mche l Z a0 hw cs hcs fv hfv i1 (3 : Int32) tm fp (by decide) t tl n hn g124 (St.ext (Wk.ext_of_keep K124)) (G.ext (Wk.ext_of_keep K124))) e124 (by decide) (by decide) (by decide) (by decide) (by rw [hml]; rfl) (lenOf pd8 rfl) rfl (Nat.le_of_eq rfl) (hb hby at_152) rfl (fun T126 v126 L126 X126 hq126 => ?_)
    obtain ⟨u3, rfl, hu3, rfl, hh126⟩ := hq126
    rw [List.append_nil] at X126
    show Wk.Go p e below _ _ _ _ T126 (mkF m 155 #[.val (.int i0), .val (.long i1), .second, .val (.int (5 : Int32)), .val (.int tm), .val (.int ti), .val (.ref t), .val (.int fp), .val (.ref h.size), .unset, .unset, .unset] [(.int u3), (.int (3 : Int32)), (.ref h.size)])
    refine Wk.castore X126 hx hZ hh126 C124 (by decide) (by decide) 3 (by decide) (by simp only [List.length_set, List.length_replicate]; decide) (hb hby at_155) rfl (fun T127 g127 X127 e127 W127 C127 => ?_)
    rw [narCE u3 hu3.1 (Int.le_trans hu3.2 (by decide))] at C127
    have N127 := Fr.snoc X127 N124 hn0
    have K127 := K124.wr W127 (Or.inr (Nat.le_refl _))
    refine Wk.iloadN X127 hx (hb hby at_156) rfl rfl ?_
    refine Wk.iconst X127 hx (4 : Int32) (hb hby at_157) rfl rfl ?_
    refine Wk.icmp_le X127 hx 176 161 (hb hby at_158) rfl rfl (show ((5 : Int32) : Int32).toInt = 5 from (by decide)) (show ((4 : Int32) : Int32).toInt = 4 from (by decide)) (fun h128 => absurd h128 (by omega)) (fun h128 => ?_)
    refine Wk.aload X127 hx (hb hby at_161) rfl rfl rfl ?_
    refine Wk.iconst X127 hx (4 : Int32) (hb hby at_163) rfl rfl ?_
    refine Wk.lloadN X127 hx (hb hby at_164) rfl rfl ?_
    refine Wk.iconst X127 hx (4 : Int32) (hb hby at_165) rfl rfl ?_
    refine Wk.aload X127 hx (hb hby at_166) rfl rfl rfl ?_
    refine Wk.iload X127 hx (hb hby at_168) rfl rfl ?_
    refine Wk.iload X127 hx (hb hby at_170) rfl rfl ?_
    refine Wk.callS (W := 2) X127 hx hZ (argsL := [(.long i1), (.int (4 : Int32)), (.ref t), (.int tm), (.int fp)]) (rest := [(.int (4 : Int32)), (.ref h.size)]) hown (hw _ (List.mem_of_getElem? (i := 64) rfl)) (hw _ (List.mem_of_getElem? (i := 65) rfl)) (hw _ (List.mem_of_getElem? (i := 66) rfl)) (hw _ (List.mem_of_getElem? (i := 67) rfl)) (by decide) (mche l Z a0 hw cs hcs fv hfv i1 (4 : Int32) tm fp (by decide) t tl n hn g127 (St.ext (Wk.ext_of_keep K127)) (G.ext (Wk.ext_of_keep K127))) e127 (by decide) (by decide) (by decide) (by decide) (by rw [hml]; rfl) (lenOf pd8 rfl) rfl (Nat.le_of_eq rfl) (hb hby at_172) rfl (fun T129 v129 L129 X129 hq129 => ?_)
    obtain ⟨u4, rfl, hu4, rfl, hh129⟩ := hq129
    rw [List.append_nil] at X129
    show Wk.Go p e below _ _ _ _ T129 (mkF m 175 #[.val (.int i0), .val (.long i1), .second, .val (.int (5 : Int32)), .val (.int tm), .val (.int ti), .val (.ref t), .val (.int fp), .val (.ref h.size), .unset, .unset, .unset] [(.int u4), (.int (4 : Int32)), (.ref h.size)])
    refine Wk.castore X129 hx hZ hh129 C127 (by decide) (by decide) 4 (by decide) (by simp only [List.length_set, List.length_replicate]; decide) (hb hby at_175) rfl (fun T130 g130 X130 e130 W130 C130 => ?_)
    rw [narCE u4 hu4.1 (Int.le_trans hu4.2 (by decide))] at C130
    have N130 := Fr.snoc X130 N127 hn0
    have K130 := K127.wr W130 (Or.inr (Nat.le_refl _))
    refine Wk.iloadN X130 hx (hb hby at_176) rfl rfl ?_
    refine Wk.iconst X130 hx (5 : Int32) (hb hby at_177) rfl rfl ?_
    refine Wk.icmp_le X130 hx 196 181 (hb hby at_178) rfl rfl (show ((5 : Int32) : Int32).toInt = 5 from (by decide)) (show ((5 : Int32) : Int32).toInt = 5 from (by decide)) (fun h131 => ?_) (fun h131 => absurd h131 (by omega))
    refine Wk.iloadN X130 hx (hb hby at_196) rfl rfl ?_
    refine Wk.bipush X130 hx (6 : Int32) (hb hby at_197) rfl rfl ?_
    refine Wk.icmp_le X130 hx 219 202 (hb hby at_199) rfl rfl (show ((5 : Int32) : Int32).toInt = 5 from (by decide)) (show ((6 : Int32) : Int32).toInt = 6 from (by decide)) (fun h132 => ?_) (fun h132 => absurd h132 (by omega))
    have EX := Wk.ext_of_keep K130
    have X9 := X130.mono (cells' := 3) (slots' := 35) (by decide) (by decide)
    have C9 : Arv Z g130 h.size kc .char (5 : Int32) (cl [u0, u1, u2, u3, u4]) (.int 0) := C130
    have hlat : ∀ u ∈ [u0, u1, u2, u3, u4], 0 ≤ u.toInt ∧ u.toInt ≤ 255 := by intro u hu; simp only [List.mem_cons, List.not_mem_nil, or_false] at hu; rcases hu with rfl | rfl | rfl | rfl | rfl <;> assumption
    exact stC0 a0 hw hx hby hml hown hret hlk hZ hS cs hcs fv hfv hO hcw hhE hh19 hh21 hh23 hh25 n0 hns r0 r1 r2 r3 rv x0 x1 x2 kv hx0 hx1 hx2 _ _ _ _ _ _ _ _ h.size kc [u0, u1, u2, u3, u4] (5 : Int32) rfl (fun u q => ⟨(hlat u q).1, Int.le_trans (hlat u q).2 (by decide)⟩) (by decide) rfl (by show 5 ≤ 7; decide) (fun u q => (hlat u q).2) (by show 0 < 5; decide) hnE hI T130 g130 (hL19.ext EX) (hL21.ext EX) (hL23.ext EX) _ X9 e130 (Nat.le_trans hk0 EX.1) N130 (Nat.le_trans hn0 EX.1) (Wk.old_ext hOh EX) (S.ext EX) (G.ext EX) C9
  · skip
    refine Wk.iloadN X0 hx (hb hby at_72) rfl rfl ?_
    refine Wk.newP (z := (6 : Int32)) X0 hx hZ rfl (hw _ (List.mem_of_getElem? (i := 8) rfl)) e0 (by decide) 6 (by decide) (by decide) (by decide) (by decide) (hb hby at_73) rfl (fun T1 g1 kc X1 e1 Ex1 Av1 => ?_)
    have C1 : Arv Z g1 h.size kc .char (6 : Int32) (List.replicate 6 (.int 0)) (.int 0) := Av1
    have K1 := Wk.keep_of_ext Ex1
    refine Wk.astore (l' := #[.val (.int i0), .val (.long i1), .second, .val (.int (6 : Int32)), .val (.int tm), .val (.int ti), .val (.ref t), .val (.int fp), .val (.ref h.size), .unset, .unset, .unset]) X1 hx (hb hby at_75) rfl rfl rfl ?_
    refine Wk.iloadN X1 hx (hb hby at_77) rfl rfl ?_
    refine Wk.if_le X1 hx 96 81 (hb hby at_78) rfl rfl (show ((6 : Int32) : Int32).toInt = 6 from (by decide)) (fun h133 => absurd h133 (by omega)) (fun h133 => ?_)
    refine Wk.aload X1 hx (hb hby at_81) rfl rfl rfl ?_
    refine Wk.iconst X1 hx (0 : Int32) (hb hby at_83) rfl rfl ?_
    refine Wk.lloadN X1 hx (hb hby at_84) rfl rfl ?_
    refine Wk.iconst X1 hx (0 : Int32) (hb hby at_85) rfl rfl ?_
    refine Wk.aload X1 hx (hb hby at_86) rfl rfl rfl ?_
    refine Wk.iload X1 hx (hb hby at_88) rfl rfl ?_
    refine Wk.iload X1 hx (hb hby at_90) rfl rfl ?_
    refine Wk.callS (W := 2) X1 hx hZ (argsL := [(.long i1), (.int (0 : Int32)), (.ref t), (.int tm), (.int fp)]) (rest := [(.int (0 : Int32)), (.ref h.size)]) hown (hw _ (List.mem_of_getElem? (i := 64) rfl)) (hw _ (List.mem_of_getElem? (i := 65) rfl)) (hw _ (List.mem_of_getElem? (i := 66) rfl)) (hw _ (List.mem_of_getElem? (i := 67) rfl)) (by decide) (mche l Z a0 hw cs hcs fv hfv i1 (0 : Int32) tm fp (by decide) t tl n hn g1 (St.ext (Wk.ext_of_keep K1)) (G.ext (Wk.ext_of_keep K1))) e1 (by decide) (by decide) (by decide) (by decide) (by rw [hml]; rfl) (lenOf pd8 rfl) rfl (Nat.le_of_eq rfl) (hb hby at_92) rfl (fun T134 v134 L134 X134 hq134 => ?_)
    obtain ⟨u0, rfl, hu0, rfl, hh134⟩ := hq134
    rw [List.append_nil] at X134
    show Wk.Go p e below _ _ _ _ T134 (mkF m 95 #[.val (.int i0), .val (.long i1), .second, .val (.int (6 : Int32)), .val (.int tm), .val (.int ti), .val (.ref t), .val (.int fp), .val (.ref h.size), .unset, .unset, .unset] [(.int u0), (.int (0 : Int32)), (.ref h.size)])
    refine Wk.castore X134 hx hZ hh134 C1 (by decide) (by decide) 0 (by decide) (by simp only [List.length_set, List.length_replicate]; decide) (hb hby at_95) rfl (fun T135 g135 X135 e135 W135 C135 => ?_)
    rw [narCE u0 hu0.1 (Int.le_trans hu0.2 (by decide))] at C135
    have N135 := Fr.snoc X135 N0 hn0
    have K135 := K1.wr W135 (Or.inr (Nat.le_refl _))
    refine Wk.iloadN X135 hx (hb hby at_96) rfl rfl ?_
    refine Wk.iconst X135 hx (1 : Int32) (hb hby at_97) rfl rfl ?_
    refine Wk.icmp_le X135 hx 116 101 (hb hby at_98) rfl rfl (show ((6 : Int32) : Int32).toInt = 6 from (by decide)) (show ((1 : Int32) : Int32).toInt = 1 from (by decide)) (fun h136 => absurd h136 (by omega)) (fun h136 => ?_)
    refine Wk.aload X135 hx (hb hby at_101) rfl rfl rfl ?_
    refine Wk.iconst X135 hx (1 : Int32) (hb hby at_103) rfl rfl ?_
    refine Wk.lloadN X135 hx (hb hby at_104) rfl rfl ?_
    refine Wk.iconst X135 hx (1 : Int32) (hb hby at_105) rfl rfl ?_
    refine Wk.aload X135 hx (hb hby at_106) rfl rfl rfl ?_
    refine Wk.iload X135 hx (hb hby at_108) rfl rfl ?_
    refine Wk.iload X135 hx (hb hby at_110) rfl rfl ?_
    refine Wk.callS (W := 2) X135 hx hZ (argsL := [(.long i1), (.int (1 : Int32)), (.ref t), (.int tm), (.int fp)]) (rest := [(.int (1 : Int32)), (.ref h.size)]) hown (hw _ (List.mem_of_getElem? (i := 64) rfl)) (hw _ (List.mem_of_getElem? (i := 65) rfl)) (hw _ (List.mem_of_getElem? (i := 66) rfl)) (hw _ (List.mem_of_getElem? (i := 67) rfl)) (by decide) (mche l Z a0 hw cs hcs fv hfv i1 (1 : Int32) tm fp (by decide) t tl n hn g135 (St.ext (Wk.ext_of_keep K135)) (G.ext (Wk.ext_of_keep K135))) e135 (by decide) (by decide) (by decide) (by decide) (by rw [hml]; rfl) (lenOf pd8 rfl) rfl (Nat.le_of_eq rfl) (hb hby at_112) rfl (fun T137 v137 L137 X137 hq137 => ?_)
    obtain ⟨u1, rfl, hu1, rfl, hh137⟩ := hq137
    rw [List.append_nil] at X137
    show Wk.Go p e below _ _ _ _ T137 (mkF m 115 #[.val (.int i0), .val (.long i1), .second, .val (.int (6 : Int32)), .val (.int tm), .val (.int ti), .val (.ref t), .val (.int fp), .val (.ref h.size), .unset, .unset, .unset] [(.int u1), (.int (1 : Int32)), (.ref h.size)])
    refine Wk.castore X137 hx hZ hh137 C135 (by decide) (by decide) 1 (by decide) (by simp only [List.length_set, List.length_replicate]; decide) (hb hby at_115) rfl (fun T138 g138 X138 e138 W138 C138 => ?_)
    rw [narCE u1 hu1.1 (Int.le_trans hu1.2 (by decide))] at C138
    have N138 := Fr.snoc X138 N135 hn0
    have K138 := K135.wr W138 (Or.inr (Nat.le_refl _))
    refine Wk.iloadN X138 hx (hb hby at_116) rfl rfl ?_
    refine Wk.iconst X138 hx (2 : Int32) (hb hby at_117) rfl rfl ?_
    refine Wk.icmp_le X138 hx 136 121 (hb hby at_118) rfl rfl (show ((6 : Int32) : Int32).toInt = 6 from (by decide)) (show ((2 : Int32) : Int32).toInt = 2 from (by decide)) (fun h139 => absurd h139 (by omega)) (fun h139 => ?_)
    refine Wk.aload X138 hx (hb hby at_121) rfl rfl rfl ?_
    refine Wk.iconst X138 hx (2 : Int32) (hb hby at_123) rfl rfl ?_
    refine Wk.lloadN X138 hx (hb hby at_124) rfl rfl ?_
    refine Wk.iconst X138 hx (2 : Int32) (hb hby at_125) rfl rfl ?_
    refine Wk.aload X138 hx (hb hby at_126) rfl rfl rfl ?_
    refine Wk.iload X138 hx (hb hby at_128) rfl rfl ?_
    refine Wk.iload X138 hx (hb hby at_130) rfl rfl ?_
    refine Wk.callS (W := 2) X138 hx hZ (argsL := [(.long i1), (.int (2 : Int32)), (.ref t), (.int tm), (.int fp)]) (rest := [(.int (2 : Int32)), (.ref h.size)]) hown (hw _ (List.mem_of_getElem? (i := 64) rfl)) (hw _ (List.mem_of_getElem? (i := 65) rfl)) (hw _ (List.mem_of_getElem? (i := 66) rfl)) (hw _ (List.mem_of_getElem? (i := 67) rfl)) (by decide) (mche l Z a0 hw cs hcs fv hfv i1 (2 : Int32) tm fp (by decide) t tl n hn g138 (St.ext (Wk.ext_of_keep K138)) (G.ext (Wk.ext_of_keep K138))) e138 (by decide) (by decide) (by decide) (by decide) (by rw [hml]; rfl) (lenOf pd8 rfl) rfl (Nat.le_of_eq rfl) (hb hby at_132) rfl (fun T140 v140 L140 X140 hq140 => ?_)
    obtain ⟨u2, rfl, hu2, rfl, hh140⟩ := hq140
    rw [List.append_nil] at X140
    show Wk.Go p e below _ _ _ _ T140 (mkF m 135 #[.val (.int i0), .val (.long i1), .second, .val (.int (6 : Int32)), .val (.int tm), .val (.int ti), .val (.ref t), .val (.int fp), .val (.ref h.size), .unset, .unset, .unset] [(.int u2), (.int (2 : Int32)), (.ref h.size)])
    refine Wk.castore X140 hx hZ hh140 C138 (by decide) (by decide) 2 (by decide) (by simp only [List.length_set, List.length_replicate]; decide) (hb hby at_135) rfl (fun T141 g141 X141 e141 W141 C141 => ?_)
    rw [narCE u2 hu2.1 (Int.le_trans hu2.2 (by decide))] at C141
    have N141 := Fr.snoc X141 N138 hn0
    have K141 := K138.wr W141 (Or.inr (Nat.le_refl _))
    refine Wk.iloadN X141 hx (hb hby at_136) rfl rfl ?_
    refine Wk.iconst X141 hx (3 : Int32) (hb hby at_137) rfl rfl ?_
    refine Wk.icmp_le X141 hx 156 141 (hb hby at_138) rfl rfl (show ((6 : Int32) : Int32).toInt = 6 from (by decide)) (show ((3 : Int32) : Int32).toInt = 3 from (by decide)) (fun h142 => absurd h142 (by omega)) (fun h142 => ?_)
    refine Wk.aload X141 hx (hb hby at_141) rfl rfl rfl ?_
    refine Wk.iconst X141 hx (3 : Int32) (hb hby at_143) rfl rfl ?_
    refine Wk.lloadN X141 hx (hb hby at_144) rfl rfl ?_
    refine Wk.iconst X141 hx (3 : Int32) (hb hby at_145) rfl rfl ?_
    refine Wk.aload X141 hx (hb hby at_146) rfl rfl rfl ?_
    refine Wk.iload X141 hx (hb hby at_148) rfl rfl ?_
    refine Wk.iload X141 hx (hb hby at_150) rfl rfl ?_
    refine Wk.callS (W := 2) X141 hx hZ (argsL := [(.long i1), (.int (3 : Int32)), (.ref t), (.int tm), (.int fp)]) (rest := [(.int (3 : Int32)), (.ref h.size)]) hown (hw _ (List.mem_of_getElem? (i := 64) rfl)) (hw _ (List.mem_of_getElem? (i := 65) rfl)) (hw _ (List.mem_of_getElem? (i := 66) rfl)) (hw _ (List.mem_of_getElem? (i := 67) rfl)) (by decide) (mche l Z a0 hw cs hcs fv hfv i1 (3 : Int32) tm fp (by decide) t tl n hn g141 (St.ext (Wk.ext_of_keep K141)) (G.ext (Wk.ext_of_keep K141))) e141 (by decide) (by decide) (by decide) (by decide) (by rw [hml]; rfl) (lenOf pd8 rfl) rfl (Nat.le_of_eq rfl) (hb hby at_152) rfl (fun T143 v143 L143 X143 hq143 => ?_)
    obtain ⟨u3, rfl, hu3, rfl, hh143⟩ := hq143
    rw [List.append_nil] at X143
    show Wk.Go p e below _ _ _ _ T143 (mkF m 155 #[.val (.int i0), .val (.long i1), .second, .val (.int (6 : Int32)), .val (.int tm), .val (.int ti), .val (.ref t), .val (.int fp), .val (.ref h.size), .unset, .unset, .unset] [(.int u3), (.int (3 : Int32)), (.ref h.size)])
    refine Wk.castore X143 hx hZ hh143 C141 (by decide) (by decide) 3 (by decide) (by simp only [List.length_set, List.length_replicate]; decide) (hb hby at_155) rfl (fun T144 g144 X144 e144 W144 C144 => ?_)
    rw [narCE u3 hu3.1 (Int.le_trans hu3.2 (by decide))] at C144
    have N144 := Fr.snoc X144 N141 hn0
    have K144 := K141.wr W144 (Or.inr (Nat.le_refl _))
    refine Wk.iloadN X144 hx (hb hby at_156) rfl rfl ?_
    refine Wk.iconst X144 hx (4 : Int32) (hb hby at_157) rfl rfl ?_
    refine Wk.icmp_le X144 hx 176 161 (hb hby at_158) rfl rfl (show ((6 : Int32) : Int32).toInt = 6 from (by decide)) (show ((4 : Int32) : Int32).toInt = 4 from (by decide)) (fun h145 => absurd h145 (by omega)) (fun h145 => ?_)
    refine Wk.aload X144 hx (hb hby at_161) rfl rfl rfl ?_
    refine Wk.iconst X144 hx (4 : Int32) (hb hby at_163) rfl rfl ?_
    refine Wk.lloadN X144 hx (hb hby at_164) rfl rfl ?_
    refine Wk.iconst X144 hx (4 : Int32) (hb hby at_165) rfl rfl ?_
    refine Wk.aload X144 hx (hb hby at_166) rfl rfl rfl ?_
    refine Wk.iload X144 hx (hb hby at_168) rfl rfl ?_
    refine Wk.iload X144 hx (hb hby at_170) rfl rfl ?_
    refine Wk.callS (W := 2) X144 hx hZ (argsL := [(.long i1), (.int (4 : Int32)), (.ref t), (.int tm), (.int fp)]) (rest := [(.int (4 : Int32)), (.ref h.size)]) hown (hw _ (List.mem_of_getElem? (i := 64) rfl)) (hw _ (List.mem_of_getElem? (i := 65) rfl)) (hw _ (List.mem_of_getElem? (i := 66) rfl)) (hw _ (List.mem_of_getElem? (i := 67) rfl)) (by decide) (mche l Z a0 hw cs hcs fv hfv i1 (4 : Int32) tm fp (by decide) t tl n hn g144 (St.ext (Wk.ext_of_keep K144)) (G.ext (Wk.ext_of_keep K144))) e144 (by decide) (by decide) (by decide) (by decide) (by rw [hml]; rfl) (lenOf pd8 rfl) rfl (Nat.le_of_eq rfl) (hb hby at_172) rfl (fun T146 v146 L146 X146 hq146 => ?_)
    obtain ⟨u4, rfl, hu4, rfl, hh146⟩ := hq146
    rw [List.append_nil] at X146
    show Wk.Go p e below _ _ _ _ T146 (mkF m 175 #[.val (.int i0), .val (.long i1), .second, .val (.int (6 : Int32)), .val (.int tm), .val (.int ti), .val (.ref t), .val (.int fp), .val (.ref h.size), .unset, .unset, .unset] [(.int u4), (.int (4 : Int32)), (.ref h.size)])
    refine Wk.castore X146 hx hZ hh146 C144 (by decide) (by decide) 4 (by decide) (by simp only [List.length_set, List.length_replicate]; decide) (hb hby at_175) rfl (fun T147 g147 X147 e147 W147 C147 => ?_)
    rw [narCE u4 hu4.1 (Int.le_trans hu4.2 (by decide))] at C147
    have N147 := Fr.snoc X147 N144 hn0
    have K147 := K144.wr W147 (Or.inr (Nat.le_refl _))
    refine Wk.iloadN X147 hx (hb hby at_176) rfl rfl ?_
    refine Wk.iconst X147 hx (5 : Int32) (hb hby at_177) rfl rfl ?_
    refine Wk.icmp_le X147 hx 196 181 (hb hby at_178) rfl rfl (show ((6 : Int32) : Int32).toInt = 6 from (by decide)) (show ((5 : Int32) : Int32).toInt = 5 from (by decide)) (fun h148 => absurd h148 (by omega)) (fun h148 => ?_)
    refine Wk.aload X147 hx (hb hby at_181) rfl rfl rfl ?_
    refine Wk.iconst X147 hx (5 : Int32) (hb hby at_183) rfl rfl ?_
    refine Wk.lloadN X147 hx (hb hby at_184) rfl rfl ?_
    refine Wk.iconst X147 hx (5 : Int32) (hb hby at_185) rfl rfl ?_
    refine Wk.aload X147 hx (hb hby at_186) rfl rfl rfl ?_
    refine Wk.iload X147 hx (hb hby at_188) rfl rfl ?_
    refine Wk.iload X147 hx (hb hby at_190) rfl rfl ?_
    refine Wk.callS (W := 2) X147 hx hZ (argsL := [(.long i1), (.int (5 : Int32)), (.ref t), (.int tm), (.int fp)]) (rest := [(.int (5 : Int32)), (.ref h.size)]) hown (hw _ (List.mem_of_getElem? (i := 64) rfl)) (hw _ (List.mem_of_getElem? (i := 65) rfl)) (hw _ (List.mem_of_getElem? (i := 66) rfl)) (hw _ (List.mem_of_getElem? (i := 67) rfl)) (by decide) (mche l Z a0 hw cs hcs fv hfv i1 (5 : Int32) tm fp (by decide) t tl n hn g147 (St.ext (Wk.ext_of_keep K147)) (G.ext (Wk.ext_of_keep K147))) e147 (by decide) (by decide) (by decide) (by decide) (by rw [hml]; rfl) (lenOf pd8 rfl) rfl (Nat.le_of_eq rfl) (hb hby at_192) rfl (fun T149 v149 L149 X149 hq149 => ?_)
    obtain ⟨u5, rfl, hu5, rfl, hh149⟩ := hq149
    rw [List.append_nil] at X149
    show Wk.Go p e below _ _ _ _ T149 (mkF m 195 #[.val (.int i0), .val (.long i1), .second, .val (.int (6 : Int32)), .val (.int tm), .val (.int ti), .val (.ref t), .val (.int fp), .val (.ref h.size), .unset, .unset, .unset] [(.int u5), (.int (5 : Int32)), (.ref h.size)])
    refine Wk.castore X149 hx hZ hh149 C147 (by decide) (by decide) 5 (by decide) (by simp only [List.length_set, List.length_replicate]; decide) (hb hby at_195) rfl (fun T150 g150 X150 e150 W150 C150 => ?_)
    rw [narCE u5 hu5.1 (Int.le_trans hu5.2 (by decide))] at C150
    have N150 := Fr.snoc X150 N147 hn0
    have K150 := K147.wr W150 (Or.inr (Nat.le_refl _))
    refine Wk.iloadN X150 hx (hb hby at_196) rfl rfl ?_
    refine Wk.bipush X150 hx (6 : Int32) (hb hby at_197) rfl rfl ?_
    refine Wk.icmp_le X150 hx 219 202 (hb hby at_199) rfl rfl (show ((6 : Int32) : Int32).toInt = 6 from (by decide)) (show ((6 : Int32) : Int32).toInt = 6 from (by decide)) (fun h151 => ?_) (fun h151 => absurd h151 (by omega))
    have EX := Wk.ext_of_keep K150
    have X9 := X150.mono (cells' := 3) (slots' := 35) (by decide) (by decide)
    have C9 : Arv Z g150 h.size kc .char (6 : Int32) (cl [u0, u1, u2, u3, u4, u5]) (.int 0) := C150
    have hlat : ∀ u ∈ [u0, u1, u2, u3, u4, u5], 0 ≤ u.toInt ∧ u.toInt ≤ 255 := by intro u hu; simp only [List.mem_cons, List.not_mem_nil, or_false] at hu; rcases hu with rfl | rfl | rfl | rfl | rfl | rfl <;> assumption
    exact stC0 a0 hw hx hby hml hown hret hlk hZ hS cs hcs fv hfv hO hcw hhE hh19 hh21 hh23 hh25 n0 hns r0 r1 r2 r3 rv x0 x1 x2 kv hx0 hx1 hx2 _ _ _ _ _ _ _ _ h.size kc [u0, u1, u2, u3, u4, u5] (6 : Int32) rfl (fun u q => ⟨(hlat u q).1, Int.le_trans (hlat u q).2 (by decide)⟩) (by decide) rfl (by show 6 ≤ 7; decide) (fun u q => (hlat u q).2) (by show 0 < 6; decide) hnE hI T150 g150 (hL19.ext EX) (hL21.ext EX) (hL23.ext EX) _ X9 e150 (Nat.le_trans hk0 EX.1) N150 (Nat.le_trans hn0 EX.1) (Wk.old_ext hOh EX) (S.ext EX) (G.ext EX) C9
  · skip
    refine Wk.iloadN X0 hx (hb hby at_72) rfl rfl ?_
    refine Wk.newP (z := (7 : Int32)) X0 hx hZ rfl (hw _ (List.mem_of_getElem? (i := 8) rfl)) e0 (by decide) 7 (by decide) (by decide) (by decide) (by decide) (hb hby at_73) rfl (fun T1 g1 kc X1 e1 Ex1 Av1 => ?_)
    have C1 : Arv Z g1 h.size kc .char (7 : Int32) (List.replicate 7 (.int 0)) (.int 0) := Av1
    have K1 := Wk.keep_of_ext Ex1
    refine Wk.astore (l' := #[.val (.int i0), .val (.long i1), .second, .val (.int (7 : Int32)), .val (.int tm), .val (.int ti), .val (.ref t), .val (.int fp), .val (.ref h.size), .unset, .unset, .unset]) X1 hx (hb hby at_75) rfl rfl rfl ?_
    refine Wk.iloadN X1 hx (hb hby at_77) rfl rfl ?_
    refine Wk.if_le X1 hx 96 81 (hb hby at_78) rfl rfl (show ((7 : Int32) : Int32).toInt = 7 from (by decide)) (fun h152 => absurd h152 (by omega)) (fun h152 => ?_)
    refine Wk.aload X1 hx (hb hby at_81) rfl rfl rfl ?_
    refine Wk.iconst X1 hx (0 : Int32) (hb hby at_83) rfl rfl ?_
    refine Wk.lloadN X1 hx (hb hby at_84) rfl rfl ?_
    refine Wk.iconst X1 hx (0 : Int32) (hb hby at_85) rfl rfl ?_
    refine Wk.aload X1 hx (hb hby at_86) rfl rfl rfl ?_
    refine Wk.iload X1 hx (hb hby at_88) rfl rfl ?_
    refine Wk.iload X1 hx (hb hby at_90) rfl rfl ?_
    refine Wk.callS (W := 2) X1 hx hZ (argsL := [(.long i1), (.int (0 : Int32)), (.ref t), (.int tm), (.int fp)]) (rest := [(.int (0 : Int32)), (.ref h.size)]) hown (hw _ (List.mem_of_getElem? (i := 64) rfl)) (hw _ (List.mem_of_getElem? (i := 65) rfl)) (hw _ (List.mem_of_getElem? (i := 66) rfl)) (hw _ (List.mem_of_getElem? (i := 67) rfl)) (by decide) (mche l Z a0 hw cs hcs fv hfv i1 (0 : Int32) tm fp (by decide) t tl n hn g1 (St.ext (Wk.ext_of_keep K1)) (G.ext (Wk.ext_of_keep K1))) e1 (by decide) (by decide) (by decide) (by decide) (by rw [hml]; rfl) (lenOf pd8 rfl) rfl (Nat.le_of_eq rfl) (hb hby at_92) rfl (fun T153 v153 L153 X153 hq153 => ?_)
    obtain ⟨u0, rfl, hu0, rfl, hh153⟩ := hq153
    rw [List.append_nil] at X153
    show Wk.Go p e below _ _ _ _ T153 (mkF m 95 #[.val (.int i0), .val (.long i1), .second, .val (.int (7 : Int32)), .val (.int tm), .val (.int ti), .val (.ref t), .val (.int fp), .val (.ref h.size), .unset, .unset, .unset] [(.int u0), (.int (0 : Int32)), (.ref h.size)])
    refine Wk.castore X153 hx hZ hh153 C1 (by decide) (by decide) 0 (by decide) (by simp only [List.length_set, List.length_replicate]; decide) (hb hby at_95) rfl (fun T154 g154 X154 e154 W154 C154 => ?_)
    rw [narCE u0 hu0.1 (Int.le_trans hu0.2 (by decide))] at C154
    have N154 := Fr.snoc X154 N0 hn0
    have K154 := K1.wr W154 (Or.inr (Nat.le_refl _))
    refine Wk.iloadN X154 hx (hb hby at_96) rfl rfl ?_
    refine Wk.iconst X154 hx (1 : Int32) (hb hby at_97) rfl rfl ?_
    refine Wk.icmp_le X154 hx 116 101 (hb hby at_98) rfl rfl (show ((7 : Int32) : Int32).toInt = 7 from (by decide)) (show ((1 : Int32) : Int32).toInt = 1 from (by decide)) (fun h155 => absurd h155 (by omega)) (fun h155 => ?_)
    refine Wk.aload X154 hx (hb hby at_101) rfl rfl rfl ?_
    refine Wk.iconst X154 hx (1 : Int32) (hb hby at_103) rfl rfl ?_
    refine Wk.lloadN X154 hx (hb hby at_104) rfl rfl ?_
    refine Wk.iconst X154 hx (1 : Int32) (hb hby at_105) rfl rfl ?_
    refine Wk.aload X154 hx (hb hby at_106) rfl rfl rfl ?_
    refine Wk.iload X154 hx (hb hby at_108) rfl rfl ?_
    refine Wk.iload X154 hx (hb hby at_110) rfl rfl ?_
    refine Wk.callS (W := 2) X154 hx hZ (argsL := [(.long i1), (.int (1 : Int32)), (.ref t), (.int tm), (.int fp)]) (rest := [(.int (1 : Int32)), (.ref h.size)]) hown (hw _ (List.mem_of_getElem? (i := 64) rfl)) (hw _ (List.mem_of_getElem? (i := 65) rfl)) (hw _ (List.mem_of_getElem? (i := 66) rfl)) (hw _ (List.mem_of_getElem? (i := 67) rfl)) (by decide) (mche l Z a0 hw cs hcs fv hfv i1 (1 : Int32) tm fp (by decide) t tl n hn g154 (St.ext (Wk.ext_of_keep K154)) (G.ext (Wk.ext_of_keep K154))) e154 (by decide) (by decide) (by decide) (by decide) (by rw [hml]; rfl) (lenOf pd8 rfl) rfl (Nat.le_of_eq rfl) (hb hby at_112) rfl (fun T156 v156 L156 X156 hq156 => ?_)
    obtain ⟨u1, rfl, hu1, rfl, hh156⟩ := hq156
    rw [List.append_nil] at X156
    show Wk.Go p e below _ _ _ _ T156 (mkF m 115 #[.val (.int i0), .val (.long i1), .second, .val (.int (7 : Int32)), .val (.int tm), .val (.int ti), .val (.ref t), .val (.int fp), .val (.ref h.size), .unset, .unset, .unset] [(.int u1), (.int (1 : Int32)), (.ref h.size)])
    refine Wk.castore X156 hx hZ hh156 C154 (by decide) (by decide) 1 (by decide) (by simp only [List.length_set, List.length_replicate]; decide) (hb hby at_115) rfl (fun T157 g157 X157 e157 W157 C157 => ?_)
    rw [narCE u1 hu1.1 (Int.le_trans hu1.2 (by decide))] at C157
    have N157 := Fr.snoc X157 N154 hn0
    have K157 := K154.wr W157 (Or.inr (Nat.le_refl _))
    refine Wk.iloadN X157 hx (hb hby at_116) rfl rfl ?_
    refine Wk.iconst X157 hx (2 : Int32) (hb hby at_117) rfl rfl ?_
    refine Wk.icmp_le X157 hx 136 121 (hb hby at_118) rfl rfl (show ((7 : Int32) : Int32).toInt = 7 from (by decide)) (show ((2 : Int32) : Int32).toInt = 2 from (by decide)) (fun h158 => absurd h158 (by omega)) (fun h158 => ?_)
    refine Wk.aload X157 hx (hb hby at_121) rfl rfl rfl ?_
    refine Wk.iconst X157 hx (2 : Int32) (hb hby at_123) rfl rfl ?_
    refine Wk.lloadN X157 hx (hb hby at_124) rfl rfl ?_
    refine Wk.iconst X157 hx (2 : Int32) (hb hby at_125) rfl rfl ?_
    refine Wk.aload X157 hx (hb hby at_126) rfl rfl rfl ?_
    refine Wk.iload X157 hx (hb hby at_128) rfl rfl ?_
    refine Wk.iload X157 hx (hb hby at_130) rfl rfl ?_
    refine Wk.callS (W := 2) X157 hx hZ (argsL := [(.long i1), (.int (2 : Int32)), (.ref t), (.int tm), (.int fp)]) (rest := [(.int (2 : Int32)), (.ref h.size)]) hown (hw _ (List.mem_of_getElem? (i := 64) rfl)) (hw _ (List.mem_of_getElem? (i := 65) rfl)) (hw _ (List.mem_of_getElem? (i := 66) rfl)) (hw _ (List.mem_of_getElem? (i := 67) rfl)) (by decide) (mche l Z a0 hw cs hcs fv hfv i1 (2 : Int32) tm fp (by decide) t tl n hn g157 (St.ext (Wk.ext_of_keep K157)) (G.ext (Wk.ext_of_keep K157))) e157 (by decide) (by decide) (by decide) (by decide) (by rw [hml]; rfl) (lenOf pd8 rfl) rfl (Nat.le_of_eq rfl) (hb hby at_132) rfl (fun T159 v159 L159 X159 hq159 => ?_)
    obtain ⟨u2, rfl, hu2, rfl, hh159⟩ := hq159
    rw [List.append_nil] at X159
    show Wk.Go p e below _ _ _ _ T159 (mkF m 135 #[.val (.int i0), .val (.long i1), .second, .val (.int (7 : Int32)), .val (.int tm), .val (.int ti), .val (.ref t), .val (.int fp), .val (.ref h.size), .unset, .unset, .unset] [(.int u2), (.int (2 : Int32)), (.ref h.size)])
    refine Wk.castore X159 hx hZ hh159 C157 (by decide) (by decide) 2 (by decide) (by simp only [List.length_set, List.length_replicate]; decide) (hb hby at_135) rfl (fun T160 g160 X160 e160 W160 C160 => ?_)
    rw [narCE u2 hu2.1 (Int.le_trans hu2.2 (by decide))] at C160
    have N160 := Fr.snoc X160 N157 hn0
    have K160 := K157.wr W160 (Or.inr (Nat.le_refl _))
    refine Wk.iloadN X160 hx (hb hby at_136) rfl rfl ?_
    refine Wk.iconst X160 hx (3 : Int32) (hb hby at_137) rfl rfl ?_
    refine Wk.icmp_le X160 hx 156 141 (hb hby at_138) rfl rfl (show ((7 : Int32) : Int32).toInt = 7 from (by decide)) (show ((3 : Int32) : Int32).toInt = 3 from (by decide)) (fun h161 => absurd h161 (by omega)) (fun h161 => ?_)
    refine Wk.aload X160 hx (hb hby at_141) rfl rfl rfl ?_
    refine Wk.iconst X160 hx (3 : Int32) (hb hby at_143) rfl rfl ?_
    refine Wk.lloadN X160 hx (hb hby at_144) rfl rfl ?_
    refine Wk.iconst X160 hx (3 : Int32) (hb hby at_145) rfl rfl ?_
    refine Wk.aload X160 hx (hb hby at_146) rfl rfl rfl ?_
    refine Wk.iload X160 hx (hb hby at_148) rfl rfl ?_
    refine Wk.iload X160 hx (hb hby at_150) rfl rfl ?_
    refine Wk.callS (W := 2) X160 hx hZ (argsL := [(.long i1), (.int (3 : Int32)), (.ref t), (.int tm), (.int fp)]) (rest := [(.int (3 : Int32)), (.ref h.size)]) hown (hw _ (List.mem_of_getElem? (i := 64) rfl)) (hw _ (List.mem_of_getElem? (i := 65) rfl)) (hw _ (List.mem_of_getElem? (i := 66) rfl)) (hw _ (List.mem_of_getElem? (i := 67) rfl)) (by decide) (mche l Z a0 hw cs hcs fv hfv i1 (3 : Int32) tm fp (by decide) t tl n hn g160 (St.ext (Wk.ext_of_keep K160)) (G.ext (Wk.ext_of_keep K160))) e160 (by decide) (by decide) (by decide) (by decide) (by rw [hml]; rfl) (lenOf pd8 rfl) rfl (Nat.le_of_eq rfl) (hb hby at_152) rfl (fun T162 v162 L162 X162 hq162 => ?_)
    obtain ⟨u3, rfl, hu3, rfl, hh162⟩ := hq162
    rw [List.append_nil] at X162
    show Wk.Go p e below _ _ _ _ T162 (mkF m 155 #[.val (.int i0), .val (.long i1), .second, .val (.int (7 : Int32)), .val (.int tm), .val (.int ti), .val (.ref t), .val (.int fp), .val (.ref h.size), .unset, .unset, .unset] [(.int u3), (.int (3 : Int32)), (.ref h.size)])
    refine Wk.castore X162 hx hZ hh162 C160 (by decide) (by decide) 3 (by decide) (by simp only [List.length_set, List.length_replicate]; decide) (hb hby at_155) rfl (fun T163 g163 X163 e163 W163 C163 => ?_)
    rw [narCE u3 hu3.1 (Int.le_trans hu3.2 (by decide))] at C163
    have N163 := Fr.snoc X163 N160 hn0
    have K163 := K160.wr W163 (Or.inr (Nat.le_refl _))
    refine Wk.iloadN X163 hx (hb hby at_156) rfl rfl ?_
    refine Wk.iconst X163 hx (4 : Int32) (hb hby at_157) rfl rfl ?_
    refine Wk.icmp_le X163 hx 176 161 (hb hby at_158) rfl rfl (show ((7 : Int32) : Int32).toInt = 7 from (by decide)) (show ((4 : Int32) : Int32).toInt = 4 from (by decide)) (fun h164 => absurd h164 (by omega)) (fun h164 => ?_)
    refine Wk.aload X163 hx (hb hby at_161) rfl rfl rfl ?_
    refine Wk.iconst X163 hx (4 : Int32) (hb hby at_163) rfl rfl ?_
    refine Wk.lloadN X163 hx (hb hby at_164) rfl rfl ?_
    refine Wk.iconst X163 hx (4 : Int32) (hb hby at_165) rfl rfl ?_
    refine Wk.aload X163 hx (hb hby at_166) rfl rfl rfl ?_
    refine Wk.iload X163 hx (hb hby at_168) rfl rfl ?_
    refine Wk.iload X163 hx (hb hby at_170) rfl rfl ?_
    refine Wk.callS (W := 2) X163 hx hZ (argsL := [(.long i1), (.int (4 : Int32)), (.ref t), (.int tm), (.int fp)]) (rest := [(.int (4 : Int32)), (.ref h.size)]) hown (hw _ (List.mem_of_getElem? (i := 64) rfl)) (hw _ (List.mem_of_getElem? (i := 65) rfl)) (hw _ (List.mem_of_getElem? (i := 66) rfl)) (hw _ (List.mem_of_getElem? (i := 67) rfl)) (by decide) (mche l Z a0 hw cs hcs fv hfv i1 (4 : Int32) tm fp (by decide) t tl n hn g163 (St.ext (Wk.ext_of_keep K163)) (G.ext (Wk.ext_of_keep K163))) e163 (by decide) (by decide) (by decide) (by decide) (by rw [hml]; rfl) (lenOf pd8 rfl) rfl (Nat.le_of_eq rfl) (hb hby at_172) rfl (fun T165 v165 L165 X165 hq165 => ?_)
    obtain ⟨u4, rfl, hu4, rfl, hh165⟩ := hq165
    rw [List.append_nil] at X165
    show Wk.Go p e below _ _ _ _ T165 (mkF m 175 #[.val (.int i0), .val (.long i1), .second, .val (.int (7 : Int32)), .val (.int tm), .val (.int ti), .val (.ref t), .val (.int fp), .val (.ref h.size), .unset, .unset, .unset] [(.int u4), (.int (4 : Int32)), (.ref h.size)])
    refine Wk.castore X165 hx hZ hh165 C163 (by decide) (by decide) 4 (by decide) (by simp only [List.length_set, List.length_replicate]; decide) (hb hby at_175) rfl (fun T166 g166 X166 e166 W166 C166 => ?_)
    rw [narCE u4 hu4.1 (Int.le_trans hu4.2 (by decide))] at C166
    have N166 := Fr.snoc X166 N163 hn0
    have K166 := K163.wr W166 (Or.inr (Nat.le_refl _))
    refine Wk.iloadN X166 hx (hb hby at_176) rfl rfl ?_
    refine Wk.iconst X166 hx (5 : Int32) (hb hby at_177) rfl rfl ?_
    refine Wk.icmp_le X166 hx 196 181 (hb hby at_178) rfl rfl (show ((7 : Int32) : Int32).toInt = 7 from (by decide)) (show ((5 : Int32) : Int32).toInt = 5 from (by decide)) (fun h167 => absurd h167 (by omega)) (fun h167 => ?_)
    refine Wk.aload X166 hx (hb hby at_181) rfl rfl rfl ?_
    refine Wk.iconst X166 hx (5 : Int32) (hb hby at_183) rfl rfl ?_
    refine Wk.lloadN X166 hx (hb hby at_184) rfl rfl ?_
    refine Wk.iconst X166 hx (5 : Int32) (hb hby at_185) rfl rfl ?_
    refine Wk.aload X166 hx (hb hby at_186) rfl rfl rfl ?_
    refine Wk.iload X166 hx (hb hby at_188) rfl rfl ?_
    refine Wk.iload X166 hx (hb hby at_190) rfl rfl ?_
    refine Wk.callS (W := 2) X166 hx hZ (argsL := [(.long i1), (.int (5 : Int32)), (.ref t), (.int tm), (.int fp)]) (rest := [(.int (5 : Int32)), (.ref h.size)]) hown (hw _ (List.mem_of_getElem? (i := 64) rfl)) (hw _ (List.mem_of_getElem? (i := 65) rfl)) (hw _ (List.mem_of_getElem? (i := 66) rfl)) (hw _ (List.mem_of_getElem? (i := 67) rfl)) (by decide) (mche l Z a0 hw cs hcs fv hfv i1 (5 : Int32) tm fp (by decide) t tl n hn g166 (St.ext (Wk.ext_of_keep K166)) (G.ext (Wk.ext_of_keep K166))) e166 (by decide) (by decide) (by decide) (by decide) (by rw [hml]; rfl) (lenOf pd8 rfl) rfl (Nat.le_of_eq rfl) (hb hby at_192) rfl (fun T168 v168 L168 X168 hq168 => ?_)
    obtain ⟨u5, rfl, hu5, rfl, hh168⟩ := hq168
    rw [List.append_nil] at X168
    show Wk.Go p e below _ _ _ _ T168 (mkF m 195 #[.val (.int i0), .val (.long i1), .second, .val (.int (7 : Int32)), .val (.int tm), .val (.int ti), .val (.ref t), .val (.int fp), .val (.ref h.size), .unset, .unset, .unset] [(.int u5), (.int (5 : Int32)), (.ref h.size)])
    refine Wk.castore X168 hx hZ hh168 C166 (by decide) (by decide) 5 (by decide) (by simp only [List.length_set, List.length_replicate]; decide) (hb hby at_195) rfl (fun T169 g169 X169 e169 W169 C169 => ?_)
    rw [narCE u5 hu5.1 (Int.le_trans hu5.2 (by decide))] at C169
    have N169 := Fr.snoc X169 N166 hn0
    have K169 := K166.wr W169 (Or.inr (Nat.le_refl _))
    refine Wk.iloadN X169 hx (hb hby at_196) rfl rfl ?_
    refine Wk.bipush X169 hx (6 : Int32) (hb hby at_197) rfl rfl ?_
    refine Wk.icmp_le X169 hx 219 202 (hb hby at_199) rfl rfl (show ((7 : Int32) : Int32).toInt = 7 from (by decide)) (show ((6 : Int32) : Int32).toInt = 6 from (by decide)) (fun h170 => absurd h170 (by omega)) (fun h170 => ?_)
    refine Wk.aload X169 hx (hb hby at_202) rfl rfl rfl ?_
    refine Wk.bipush X169 hx (6 : Int32) (hb hby at_204) rfl rfl ?_
    refine Wk.lloadN X169 hx (hb hby at_206) rfl rfl ?_
    refine Wk.bipush X169 hx (6 : Int32) (hb hby at_207) rfl rfl ?_
    refine Wk.aload X169 hx (hb hby at_209) rfl rfl rfl ?_
    refine Wk.iload X169 hx (hb hby at_211) rfl rfl ?_
    refine Wk.iload X169 hx (hb hby at_213) rfl rfl ?_
    refine Wk.callS (W := 2) X169 hx hZ (argsL := [(.long i1), (.int (6 : Int32)), (.ref t), (.int tm), (.int fp)]) (rest := [(.int (6 : Int32)), (.ref h.size)]) hown (hw _ (List.mem_of_getElem? (i := 64) rfl)) (hw _ (List.mem_of_getElem? (i := 65) rfl)) (hw _ (List.mem_of_getElem? (i := 66) rfl)) (hw _ (List.mem_of_getElem? (i := 67) rfl)) (by decide) (mche l Z a0 hw cs hcs fv hfv i1 (6 : Int32) tm fp (by decide) t tl n hn g169 (St.ext (Wk.ext_of_keep K169)) (G.ext (Wk.ext_of_keep K169))) e169 (by decide) (by decide) (by decide) (by decide) (by rw [hml]; rfl) (lenOf pd8 rfl) rfl (Nat.le_of_eq rfl) (hb hby at_215) rfl (fun T171 v171 L171 X171 hq171 => ?_)
    obtain ⟨u6, rfl, hu6, rfl, hh171⟩ := hq171
    rw [List.append_nil] at X171
    show Wk.Go p e below _ _ _ _ T171 (mkF m 218 #[.val (.int i0), .val (.long i1), .second, .val (.int (7 : Int32)), .val (.int tm), .val (.int ti), .val (.ref t), .val (.int fp), .val (.ref h.size), .unset, .unset, .unset] [(.int u6), (.int (6 : Int32)), (.ref h.size)])
    refine Wk.castore X171 hx hZ hh171 C169 (by decide) (by decide) 6 (by decide) (by simp only [List.length_set, List.length_replicate]; decide) (hb hby at_218) rfl (fun T172 g172 X172 e172 W172 C172 => ?_)
    rw [narCE u6 hu6.1 (Int.le_trans hu6.2 (by decide))] at C172
    have N172 := Fr.snoc X172 N169 hn0
    have K172 := K169.wr W172 (Or.inr (Nat.le_refl _))
    have EX := Wk.ext_of_keep K172
    have X9 := X172.mono (cells' := 3) (slots' := 35) (by decide) (by decide)
    have C9 : Arv Z g172 h.size kc .char (7 : Int32) (cl [u0, u1, u2, u3, u4, u5, u6]) (.int 0) := C172
    have hlat : ∀ u ∈ [u0, u1, u2, u3, u4, u5, u6], 0 ≤ u.toInt ∧ u.toInt ≤ 255 := by intro u hu; simp only [List.mem_cons, List.not_mem_nil, or_false] at hu; rcases hu with rfl | rfl | rfl | rfl | rfl | rfl | rfl <;> assumption
    exact stC0 a0 hw hx hby hml hown hret hlk hZ hS cs hcs fv hfv hO hcw hhE hh19 hh21 hh23 hh25 n0 hns r0 r1 r2 r3 rv x0 x1 x2 kv hx0 hx1 hx2 _ _ _ _ _ _ _ _ h.size kc [u0, u1, u2, u3, u4, u5, u6] (7 : Int32) rfl (fun u q => ⟨(hlat u q).1, Int.le_trans (hlat u q).2 (by decide)⟩) (by decide) rfl (by show 7 ≤ 7; decide) (fun u q => (hlat u q).2) (by show 0 < 7; decide) hnE hI T172 g172 (hL19.ext EX) (hL21.ext EX) (hL23.ext EX) _ X9 e172 (Nat.le_trans hk0 EX.1) N172 (Nat.le_trans hn0 EX.1) (Wk.old_ext hOh EX) (S.ext EX) (G.ext EX) C9
set_option maxRecDepth 65536 in
set_option maxHeartbeats 40000000 in
theorem rmL (l : Launch) (Z : State) (a0 : Array Value) (hw : ∀ d ∈ tables_1, d.before a0 Z = true) (i0 : Int32) (i1 : Int64) (cs : Int32) (hcs : ¬ cs.toInt = 0) (fv : Value) (hfv : fv.isRef = true) (hcw : Jvm.Lit.compactW.before a0 Z = true) (hhE : Jvm.Lit.constHeld Z "java/lang/String" 7) (hh19 : Jvm.Lit.constHeld Z "com/example/kuri/kuri/normalize/SchemeRulesOfPinLaw" 19) (hh21 : Jvm.Lit.constHeld Z "com/example/kuri/kuri/normalize/SchemeRulesOfPinLaw" 21) (hh23 : Jvm.Lit.constHeld Z "com/example/kuri/kuri/normalize/SchemeRulesOfPinLaw" 23) (hh25 : Jvm.Lit.constHeld Z "com/example/kuri/kuri/normalize/SchemeRulesOfPinLaw" 25) (n0 : Nat) (r0 r1 r2 r3 rv x0 x1 x2 : Addr) (kv : ClassId) (hx0 : x0 < n0) (hx1 : x1 < n0) (hx2 : x2 < n0) (h0 : Heap) (hn0 : h0.size = n0) (hO0 : Wk.Old Z h0) (S : Sb Z h0 r0 r1 r2 r3 rv x0 x1 x2 kv) (G : Sg Z h0 cs fv) : Wk.MetV l Z x code maxLocals ret tables_1 room_1 #[(.int i0), (.long i1)] h0 (Wk.Fq (.int 1) n0) (fun vm => Jvm.RoadKit.IB Z vm []) (fun _ => True) := by
  refine Wk.startV pnL ?_
  intro p e s vm0 m below meth c s₁ X0 hx hby hml hown0 hnm hret hlk hZ hS e0 eS hPv
  have hown : (s.setVm vm0).vm.findClass "com/example/kuri/kuri/normalize/SchemeRulesOfPinLaw" = some m.cls := hown0
  refine Wk.enter (g' := (mkF m 0 #[.val (.int i0), .val (.long i1), .second, .unset, .unset, .unset, .unset, .unset, .unset, .unset, .unset, .unset] [])) (by first | rfl | (simp [entryFrame, mkF, argsToLocals, Value.category, maxLocals]; done) | (simp [entryFrame, mkF, argsToLocals, hcat]; done) | (simp [entryFrame, mkF, argsToLocals, hcat]; rfl)) ?_
  have hO : Wk.Old Z s.heap := by rw [← eS, e0]; exact hO0
  have hns : s.heap.size = n0 := by rw [← eS, e0]; exact hn0
  have hn0' : n0 ≤ h0.size := Nat.le_of_eq hn0.symm
  refine Wk.iloadN X0 hx (hb hby at_0) rfl rfl ?_
  refine Wk.bipush X0 hx (7 : Int32) (hb hby at_1) rfl rfl ?_
  refine Wk.iand X0 hx (hb hby at_3) rfl ?_
  have tln := c_mask i0 (7 : Int32) 3 (by decide) (by decide)
  generalize i0 &&& (7 : Int32) = ln at tln ⊢
  have hln1 : 0 ≤ ln.toInt := by omega
  have hln2 : ln.toInt ≤ 7 := by omega
  refine Wk.istoreN (l' := #[.val (.int i0), .val (.long i1), .second, .val (.int ln), .unset, .unset, .unset, .unset, .unset, .unset, .unset, .unset]) X0 hx (hb hby at_4) rfl rfl ?_
  refine Wk.iloadN X0 hx (hb hby at_5) rfl rfl ?_
  refine Wk.iconst X0 hx (3 : Int32) (hb hby at_6) rfl rfl ?_
  refine Wk.iushr X0 hx (hb hby at_7) rfl ?_
  refine Wk.iconst X0 hx (1 : Int32) (hb hby at_8) rfl rfl ?_
  refine Wk.iand X0 hx (hb hby at_9) rfl ?_
  generalize (XT.ushr i0 (3 : Int32)) &&& (1 : Int32) = xx
  refine Wk.cutJ (fun j => mkF m 18 #[.val (.int i0), .val (.long i1), .second, .val (.int ln), .unset, .unset, .unset, .unset, .unset, .unset, .unset, .unset] [(.int j)]) (fun J => ?_) (fun tm => ?_)
  · skip
    refine Wk.if_eq X0 hx 17 13 (hb hby at_10) rfl rfl (show (xx : Int32).toInt = (xx).toInt from rfl) (fun h41 => ?_) (fun h41 => ?_)
    · skip
      refine Wk.iconst X0 hx (0 : Int32) (hb hby at_17) rfl rfl ?_
      exact J (0 : Int32)
    · skip
      refine Wk.iconst X0 hx (1 : Int32) (hb hby at_13) rfl rfl ?_
      refine Wk.goto X0 hx 18 (hb hby at_14) rfl ?_
      exact J (1 : Int32)
  refine Wk.istore (l' := #[.val (.int i0), .val (.long i1), .second, .val (.int ln), .val (.int tm), .unset, .unset, .unset, .unset, .unset, .unset, .unset]) X0 hx (hb hby at_18) rfl rfl ?_
  refine Wk.iloadN X0 hx (hb hby at_20) rfl rfl ?_
  refine Wk.iconst X0 hx (4 : Int32) (hb hby at_21) rfl rfl ?_
  refine Wk.iushr X0 hx (hb hby at_22) rfl ?_
  refine Wk.iconst X0 hx (3 : Int32) (hb hby at_23) rfl rfl ?_
  refine Wk.iand X0 hx (hb hby at_24) rfl ?_
  generalize (XT.ushr i0 (4 : Int32)) &&& (3 : Int32) = ti
  refine Wk.istore (l' := #[.val (.int i0), .val (.long i1), .second, .val (.int ln), .val (.int tm), .val (.int ti), .unset, .unset, .unset, .unset, .unset, .unset]) X0 hx (hb hby at_25) rfl rfl ?_
  refine Wk.iload X0 hx (hb hby at_27) rfl rfl ?_
  refine Wk.if_ne X0 hx 37 32 (hb hby at_29) rfl rfl (show (ti : Int32).toInt = (ti).toInt from rfl) (fun h42 => ?_) (fun h42 => ?_)
  · skip
    refine Wk.iload X0 hx (hb hby at_37) rfl rfl ?_
    refine Wk.iconst X0 hx (1 : Int32) (hb hby at_39) rfl rfl ?_
    refine Wk.icmp_ne X0 hx 48 43 (hb hby at_40) rfl rfl (show (ti : Int32).toInt = (ti).toInt from rfl) (show ((1 : Int32) : Int32).toInt = 1 from (by decide)) (fun h43 => ?_) (fun h43 => ?_)
    · skip
      refine Wk.iload X0 hx (hb hby at_48) rfl rfl ?_
      refine Wk.iconst X0 hx (2 : Int32) (hb hby at_50) rfl rfl ?_
      refine Wk.icmp_ne X0 hx 59 54 (hb hby at_51) rfl rfl (show (ti : Int32).toInt = (ti).toInt from rfl) (show ((2 : Int32) : Int32).toInt = 2 from (by decide)) (fun h44 => ?_) (fun h44 => ?_)
      · skip
        refine Wk.ldcV X0 hx hZ hS hown (hw _ (List.mem_of_getElem? (i := 110) rfl)) (hStr hw) e0 (Nat.zero_le _) (Fr.nil _) hO hPv (by simp) hh25 hcw lit_tF (z := 3) (by decide) rfl 24 (by decide) (by decide) (by decide) (by decide) (hb hby at_59) rfl (fun t T9 h9 vm9 k9 b9 kb9 X9 e9 Ex9 hS hk9 hZ hown E' Fcx Fvx Ax hI hLit _ _ => ?_)
        have St : Sv Z h9 t tF := mkSv ch_tF le_tF rfl E' Fcx Fvx Ax
        exact stB a0 hw hx hby hml hown hret hlk hZ hS cs hcs fv hfv hO hcw hhE hh19 hh21 hh23 hh25 n0 hns r0 r1 r2 r3 rv x0 x1 x2 kv hx0 hx1 hx2 i0 i1 ln tm ti hln1 hln2 t tF (3 : Int32) rfl (by decide) hI T9 h9 (Or.inl (by decide)) (Or.inl (by decide)) (Or.inl (by decide)) _ X9 e9 hk9 (Fr.nil _) (Nat.le_trans hn0' Ex9.1) (Wk.old_ext hO0 Ex9) St (S.ext Ex9) (G.ext Ex9)
      · skip
        refine Wk.ldcV X0 hx hZ hS hown (hw _ (List.mem_of_getElem? (i := 63) rfl)) (hStr hw) e0 (Nat.zero_le _) (Fr.nil _) hO hPv (by simp) hh23 hcw lit_tM (z := 6) (by decide) rfl 24 (by decide) (by decide) (by decide) (by decide) (hb hby at_54) rfl (fun t T9 h9 vm9 k9 b9 kb9 X9 e9 Ex9 hS hk9 hZ hown E' Fcx Fvx Ax hI hLit _ _ => ?_)
        have St : Sv Z h9 t tM := mkSv ch_tM le_tM rfl E' Fcx Fvx Ax
        refine Wk.goto X9 hx 61 (hb hby at_56) rfl ?_
        exact stB a0 hw hx hby hml hown hret hlk hZ hS cs hcs fv hfv hO hcw hhE hh19 hh21 hh23 hh25 n0 hns r0 r1 r2 r3 rv x0 x1 x2 kv hx0 hx1 hx2 i0 i1 ln tm ti hln1 hln2 t tM (6 : Int32) rfl (by decide) hI T9 h9 (Or.inl (by decide)) (Or.inl (by decide)) (Or.inr ⟨t, hLit, St⟩) _ X9 e9 hk9 (Fr.nil _) (Nat.le_trans hn0' Ex9.1) (Wk.old_ext hO0 Ex9) St (S.ext Ex9) (G.ext Ex9)
    · skip
      refine Wk.ldcV X0 hx hZ hS hown (hw _ (List.mem_of_getElem? (i := 62) rfl)) (hStr hw) e0 (Nat.zero_le _) (Fr.nil _) hO hPv (by simp) hh21 hcw lit_tS (z := 5) (by decide) rfl 24 (by decide) (by decide) (by decide) (by decide) (hb hby at_43) rfl (fun t T9 h9 vm9 k9 b9 kb9 X9 e9 Ex9 hS hk9 hZ hown E' Fcx Fvx Ax hI hLit _ _ => ?_)
      have St : Sv Z h9 t tS := mkSv ch_tS le_tS rfl E' Fcx Fvx Ax
      refine Wk.goto X9 hx 61 (hb hby at_45) rfl ?_
      exact stB a0 hw hx hby hml hown hret hlk hZ hS cs hcs fv hfv hO hcw hhE hh19 hh21 hh23 hh25 n0 hns r0 r1 r2 r3 rv x0 x1 x2 kv hx0 hx1 hx2 i0 i1 ln tm ti hln1 hln2 t tS (5 : Int32) rfl (by decide) hI T9 h9 (Or.inl (by decide)) (Or.inr ⟨t, hLit, St⟩) (Or.inl (by decide)) _ X9 e9 hk9 (Fr.nil _) (Nat.le_trans hn0' Ex9.1) (Wk.old_ext hO0 Ex9) St (S.ext Ex9) (G.ext Ex9)
  · skip
    refine Wk.ldcV X0 hx hZ hS hown (hw _ (List.mem_of_getElem? (i := 0) rfl)) (hStr hw) e0 (Nat.zero_le _) (Fr.nil _) hO hPv (by simp) hh19 hcw lit_tH (z := 4) (by decide) rfl 24 (by decide) (by decide) (by decide) (by decide) (hb hby at_32) rfl (fun t T9 h9 vm9 k9 b9 kb9 X9 e9 Ex9 hS hk9 hZ hown E' Fcx Fvx Ax hI hLit _ _ => ?_)
    have St : Sv Z h9 t tH := mkSv ch_tH le_tH rfl E' Fcx Fvx Ax
    refine Wk.goto X9 hx 61 (hb hby at_34) rfl ?_
    exact stB a0 hw hx hby hml hown hret hlk hZ hS cs hcs fv hfv hO hcw hhE hh19 hh21 hh23 hh25 n0 hns r0 r1 r2 r3 rv x0 x1 x2 kv hx0 hx1 hx2 i0 i1 ln tm ti hln1 hln2 t tH (4 : Int32) rfl (by decide) hI T9 h9 (Or.inr ⟨t, hLit, St⟩) (Or.inl (by decide)) (Or.inl (by decide)) _ X9 e9 hk9 (Fr.nil _) (Nat.le_trans hn0' Ex9.1) (Wk.old_ext hO0 Ex9) St (S.ext Ex9) (G.ext Ex9)
set_option maxRecDepth 65536 in
set_option maxHeartbeats 40000000 in
theorem comes_1 {Post : Tables → Env → Array Value → State → Outcome → State → Prop} (hpost : ∀ tb e args s v u, (limb_1_1.after args s (.returned v) u = true ∧ limb_1_2.after args s (.returned v) u = true ∧ True) → FramedW s (.returned v) u (Jvm.fieldLocs frame_1_writes args s ++ Jvm.arrayLocs frame_1_arrays args s ++ Jvm.staticLocs frame_1_statics s) 32 5248 → Post tb e args s (.returned v) u) :
    ArmFor flags0 classFile x code maxLocals ret World_1 tables_1 room_1 Calls_1 rest_1 Pre_1 Post := by
  intro l hfl _ _ p e ha hc hk s m args below hf hA hF happ hP
  obtain ⟨hcalls, hrest, hpre⟩ := hP
  obtain ⟨-, -, -, hnamed, -, -, -, hat⟩ := (Spec.applies_iff hf).mp happ
  obtain ⟨hg, hn⟩ := and_e (Cond.before_iff.mp (show (Jvm.Cond.and given_1 narrow_1).before args s = true from hpre))
  obtain ⟨hg0, hg⟩ := and_e hg
  obtain ⟨w0, w1, rfl⟩ : ∃ w0 w1 : Value, args = #[w0, w1] := by
    have hs : args.size = 2 := by simpa [Cond.value, given_1] using hg0
    obtain ⟨L⟩ := args
    match L, hs with
    | [w0, w1], _ => exact ⟨w0, w1, rfl⟩
  have hw := fun d (hd : d ∈ tables_1) => atoms_spec (ws := Jvm.Cond.code x code maxLocals ret :: tables_1) hat d (List.mem_cons_of_mem _ hd)
  have hfit : Fit s := fun {y c} hc i hi => by
    obtain ⟨ha, rfl⟩ := Array.getElem?_eq_some_iff.mp hc
    have q := List.all_eq_true.mp ((Array.all_eq_true_iff_forall_mem.mp hF) _ (Array.getElem_mem ha)) i (List.mem_range.mpr hi)
    simpa [Array.getElem?_eq_getElem hi] using q
  obtain ⟨hg1, hg⟩ := and_e hg
  obtain ⟨i0, ei0⟩ := is_v hg1
  obtain rfl : w0 = (.int i0) := Option.some.inj ei0
  have hg2 := hg
  obtain ⟨i1, ei1⟩ := isL_v hg2
  obtain rfl : w1 = (.long i1) := Option.some.inj ei1
  obtain ⟨q0, hn⟩ := and_e hn
  obtain ⟨q1, hn⟩ := and_e hn
  obtain ⟨q2, hn⟩ := and_e hn
  obtain ⟨q3, hn⟩ := and_e hn
  obtain ⟨q4, hn⟩ := and_e hn
  obtain ⟨q5, hn⟩ := and_e hn
  obtain ⟨q6, hn⟩ := and_e hn
  obtain ⟨q7, hn⟩ := and_e hn
  obtain ⟨q8, hn⟩ := and_e hn
  obtain ⟨q9, hn⟩ := and_e hn
  obtain ⟨q10, hn⟩ := and_e hn
  obtain ⟨q11, hn⟩ := and_e hn
  obtain ⟨q12, hn⟩ := and_e hn
  obtain ⟨q13, hn⟩ := and_e hn
  obtain ⟨q14, hn⟩ := and_e hn
  obtain ⟨q15, hn⟩ := and_e hn
  obtain ⟨q16, hn⟩ := and_e hn
  obtain ⟨q17, hn⟩ := and_e hn
  obtain ⟨q18, hn⟩ := and_e hn
  obtain ⟨q19, hn⟩ := and_e hn
  obtain ⟨q20, hn⟩ := and_e hn
  obtain ⟨q21, hn⟩ := and_e hn
  obtain ⟨q22, hn⟩ := and_e hn
  obtain ⟨q23, hn⟩ := and_e hn
  obtain ⟨q24, hn⟩ := and_e hn
  obtain ⟨q25, hn⟩ := and_e hn
  obtain ⟨q26, hn⟩ := and_e hn
  obtain ⟨q27, hn⟩ := and_e hn
  obtain ⟨q28, hn⟩ := and_e hn
  obtain ⟨q29, hn⟩ := and_e hn
  obtain ⟨q30, hn⟩ := and_e hn
  obtain ⟨q31, hn⟩ := and_e hn
  obtain ⟨q32, hn⟩ := and_e hn
  obtain ⟨q33, hn⟩ := and_e hn
  obtain ⟨q34, hn⟩ := and_e hn
  obtain ⟨q35, hn⟩ := and_e hn
  obtain ⟨q36, hn⟩ := and_e hn
  obtain ⟨q37, hn⟩ := and_e hn
  have q38 := hn
  have hs := (atoms_of jdkStatics_1 (show (jdkStatics_1.foldr Jvm.Cond.and restOwn_1).before _ s = true from hrest)).1
  obtain ⟨cs, vcs⟩ := is_v (Cond.before_iff.mp (hs _ (List.mem_of_getElem? (i := 1) rfl)))
  have hcs : ¬ cs.toInt = 0 := fun z => gotF (eq_II vcs (Term.int_eval 0)) (not_v (Cond.before_iff.mp (hs _ (List.mem_of_getElem? (i := 2) rfl)))) (Int32.toInt_inj.mp (z.trans (by decide)))
  obtain ⟨fv, vfv, hfv⟩ := isR_v (Cond.before_iff.mp (hs _ (List.mem_of_getElem? (i := 8) rfl)))
  have G : Sg s s.heap cs fv := ⟨Sta.start vcs (Or.inl (hs _ (List.mem_of_getElem? (i := 0) rfl))), Sta.start vfv (Or.inl (hs _ (List.mem_of_getElem? (i := 7) rfl)))⟩
  have hhE : Jvm.Lit.constHeld s "java/lang/String" 7 := hcalls.1 ("java/lang/String", 7) (by simp [consts_1])
  have hh19 : Jvm.Lit.constHeld s "com/example/kuri/kuri/normalize/SchemeRulesOfPinLaw" 19 := hcalls.1 ("com/example/kuri/kuri/normalize/SchemeRulesOfPinLaw", 19) (by simp [consts_1])
  have hh21 : Jvm.Lit.constHeld s "com/example/kuri/kuri/normalize/SchemeRulesOfPinLaw" 21 := hcalls.1 ("com/example/kuri/kuri/normalize/SchemeRulesOfPinLaw", 21) (by simp [consts_1])
  have hh23 : Jvm.Lit.constHeld s "com/example/kuri/kuri/normalize/SchemeRulesOfPinLaw" 23 := hcalls.1 ("com/example/kuri/kuri/normalize/SchemeRulesOfPinLaw", 23) (by simp [consts_1])
  have hh25 : Jvm.Lit.constHeld s "com/example/kuri/kuri/normalize/SchemeRulesOfPinLaw" 25 := hcalls.1 ("com/example/kuri/kuri/normalize/SchemeRulesOfPinLaw", 25) (by simp [consts_1])
  obtain ⟨r0, vr0⟩ := exa_v q4
  obtain ⟨r1, vr1⟩ := exa_v q6
  obtain ⟨r2, vr2⟩ := exa_v q8
  obtain ⟨r3, vr3⟩ := exa_v q0
  obtain ⟨rv, vv⟩ := arr_v q1
  obtain ⟨clv, Arv'⟩ := Arr.start vv q1
  obtain ⟨hz1, hz2⟩ := Wk.len_fit q3 vv Arv'
  have AV : Arv s s.heap rv clv.cls (.object "com/example/kuri/kuri/normalize/SchemeRules") 4 [.ref r0, .ref r1, .ref r2, .ref r3] .null := Arv.start hfit Arv' hz1 hz2 (by decide) rfl ⟨Wk.elR q5 vr0 vv Arv'.1 (by decide), Wk.elR q7 vr1 vv Arv'.1 (by decide), Wk.elR q9 vr2 vv Arv'.1 (by decide), Wk.elR q10 vr3 vv Arv'.1 (by decide), trivial⟩
  have EV : Exa s s.heap rv "[Lcom/example/kuri/kuri/normalize/SchemeRules;" := Exa.start vv q2
  obtain ⟨x0, vx0⟩ := exa_v q11
  have F0 := Fld.start ((fld_at vr0).symm.trans vx0)
  have E0 : Exa s s.heap x0 "java/lang/String" := Exa.start vx0 q11
  have Fc0 := Wk.fldI vx0 q12
  obtain ⟨w0v, vw0⟩ := arr_v q13
  have Fv0 := Fld.start ((fld_at vx0).symm.trans vw0)
  obtain ⟨cl0, Ar0⟩ := Arr.start vw0 q13
  obtain ⟨hy0, hy0'⟩ := Wk.len_fit q14 vw0 Ar0
  have A0 : Arv s s.heap w0v cl0.cls .byte 4 [.int 104, .int 116, .int 116, .int 112] (.int 0) := Arv.start hfit Ar0 hy0 hy0' (by decide) (by decide) ⟨Wk.elI q24 vw0 Ar0.1 (by decide), Wk.elI q25 vw0 Ar0.1 (by decide), Wk.elI q26 vw0 Ar0.1 (by decide), Wk.elI q27 vw0 Ar0.1 (by decide), trivial⟩
  have A0' : Arv s s.heap w0v cl0.cls .byte 4 (bl tH) (.int 0) := by rw [show bl tH = [.int 104, .int 116, .int 116, .int 112] from by first | rfl | decide]; exact A0
  have S0 : Sv s s.heap x0 tH := mkSv ch_tH le_tH rfl E0 Fc0 Fv0 A0'
  obtain ⟨x1, vx1⟩ := exa_v q15
  have F1 := Fld.start ((fld_at vr1).symm.trans vx1)
  have E1 : Exa s s.heap x1 "java/lang/String" := Exa.start vx1 q15
  have Fc1 := Wk.fldI vx1 q16
  obtain ⟨w1v, vw1⟩ := arr_v q17
  have Fv1 := Fld.start ((fld_at vx1).symm.trans vw1)
  obtain ⟨cl1, Ar1⟩ := Arr.start vw1 q17
  obtain ⟨hy1, hy1'⟩ := Wk.len_fit q18 vw1 Ar1
  have A1 : Arv s s.heap w1v cl1.cls .byte 5 [.int 104, .int 116, .int 116, .int 112, .int 115] (.int 0) := Arv.start hfit Ar1 hy1 hy1' (by decide) (by decide) ⟨Wk.elI q28 vw1 Ar1.1 (by decide), Wk.elI q29 vw1 Ar1.1 (by decide), Wk.elI q30 vw1 Ar1.1 (by decide), Wk.elI q31 vw1 Ar1.1 (by decide), Wk.elI q32 vw1 Ar1.1 (by decide), trivial⟩
  have A1' : Arv s s.heap w1v cl1.cls .byte 5 (bl tS) (.int 0) := by rw [show bl tS = [.int 104, .int 116, .int 116, .int 112, .int 115] from by first | rfl | decide]; exact A1
  have S1 : Sv s s.heap x1 tS := mkSv ch_tS le_tS rfl E1 Fc1 Fv1 A1'
  obtain ⟨x2, vx2⟩ := exa_v q19
  have F2 := Fld.start ((fld_at vr2).symm.trans vx2)
  have E2 : Exa s s.heap x2 "java/lang/String" := Exa.start vx2 q19
  have Fc2 := Wk.fldI vx2 q20
  obtain ⟨w2v, vw2⟩ := arr_v q21
  have Fv2 := Fld.start ((fld_at vx2).symm.trans vw2)
  obtain ⟨cl2, Ar2⟩ := Arr.start vw2 q21
  obtain ⟨hy2, hy2'⟩ := Wk.len_fit q22 vw2 Ar2
  have A2 : Arv s s.heap w2v cl2.cls .byte 6 [.int 109, .int 97, .int 105, .int 108, .int 116, .int 111] (.int 0) := Arv.start hfit Ar2 hy2 hy2' (by decide) (by decide) ⟨Wk.elI q33 vw2 Ar2.1 (by decide), Wk.elI q34 vw2 Ar2.1 (by decide), Wk.elI q35 vw2 Ar2.1 (by decide), Wk.elI q36 vw2 Ar2.1 (by decide), Wk.elI q37 vw2 Ar2.1 (by decide), Wk.elI q38 vw2 Ar2.1 (by decide), trivial⟩
  have A2' : Arv s s.heap w2v cl2.cls .byte 6 (bl tM) (.int 0) := by rw [show bl tM = [.int 109, .int 97, .int 105, .int 108, .int 116, .int 111] from by first | rfl | decide]; exact A2
  have S2 : Sv s s.heap x2 tM := mkSv ch_tM le_tM rfl E2 Fc2 Fv2 A2'
  have F3 : Fld s s.heap r3 "com/example/kuri/kuri/normalize/SchemeRules" "scheme" "Ljava/lang/String;" .null := Fld.start ((fld_at vr3).symm.trans (null_v q23))
  have S : Sb s s.heap r0 r1 r2 r3 rv x0 x1 x2 clv.cls := ⟨Sta.start vr3 (Or.inr ⟨(hw _ (List.mem_of_getElem? (i := 25) rfl)), (hw _ (List.mem_of_getElem? (i := 28) rfl))⟩), Sta.start vr0 (Or.inr ⟨(hw _ (List.mem_of_getElem? (i := 25) rfl)), (hw _ (List.mem_of_getElem? (i := 41) rfl))⟩), Sta.start vr1 (Or.inr ⟨(hw _ (List.mem_of_getElem? (i := 25) rfl)), (hw _ (List.mem_of_getElem? (i := 42) rfl))⟩), Sta.start vr2 (Or.inr ⟨(hw _ (List.mem_of_getElem? (i := 25) rfl)), (hw _ (List.mem_of_getElem? (i := 43) rfl))⟩), Sta.start vv (Or.inr ⟨(hw _ (List.mem_of_getElem? (i := 25) rfl)), (hw _ (List.mem_of_getElem? (i := 33) rfl))⟩), EV, AV, F0, F1, F2, F3, S0, S1, S2⟩
  have H := rmL l s _ hw i0 i1 cs hcs fv hfv (hs _ (List.mem_of_getElem? (i := 2) rfl)) hhE hh19 hh21 hh23 hh25 s.heap.size r0 r1 r2 r3 rv x0 x1 x2 _ E0.lt E1.lt E2.lt s.heap rfl Wk.old_refl S G
  obtain ⟨n, o, h1, h2, h3, _, L, rfl, ⟨rfl, N⟩, hq, -⟩ := H p e ha hc hk s m _ below hf ((Spec.applies_iff_loose hf).mp happ).1 ⟨rfl, State.Warmed39.refl s, rfl, Jvm.RoadKit.IB.start⟩ trivial
  refine ⟨n, _, h1, h2, h3, hpost _ _ _ _ _ _ ⟨Cond.after_iff.mpr rfl, Cond.after_iff.mpr (eq_i res_at (Term.int_eval (1)) rfl), trivial⟩ ⟨hq.1, hq.2.1, hq.2.2.1, (hq.2.2.2.sift fun y hy => Or.inr (N y hy)).mono (by decide) (by decide)⟩⟩
theorem main_1_1 : Claimed_1_1 := comes_1 fun _ _ _ _ _ _ h hF => ⟨h.1, hF⟩
theorem main_1_2 : Claimed_1_2 := comes_1 fun _ _ _ _ _ _ h hF => ⟨h.2.1, hF⟩
end Jvm.Pilot.@@N@@
namespace Jvm.Pilot.@@N@@
open Jvm Jvm.ClassFile Sem Op Lib Jvm.Free Jvm.Stand Jvm.Pilot.@@N@@.Jvm.D
/-! MADE BY PROGRAM (witnessworld.py) out of the Statement's table words and the real class files: 22 classes; the members and pool entries that the words name. The judged class is class 1, her method 2. -/
namespace start1
open Jvm.ClassFile
def u (s : String) : CpInfo := .utf8 (stringToUtf16 s)
/-- a pool by its gaps: so many unusable entries, then the entry; so many at the end -/
def gap : Nat → List CpInfo → List CpInfo
  | 0, r => r
  | n + 1, r => .unusable :: gap n r
def poolList (es : List (Nat × CpInfo)) (last : Nat) : List CpInfo := es.foldr (fun e r => gap e.1 (e.2 :: r)) (gap last [])
def pool (es : List (Nat × CpInfo)) (last : Nat) : Array CpInfo := ⟨poolList es last⟩
def fileOf (pool : Array CpInfo) (this : Nat) (attrs : Array Attribute := #[]) (ms : Array MethodInfo := #[]) (fl : Nat := 33) (sup : Nat := 0) (ifs : Array Nat := #[]) (fds : Array FieldInfo := #[]) : ClassFile where
  minorVersion := 0
  majorVersion := 65
  constantPool := pool
  accessFlags := fl
  thisClass := this
  superClass := sup
  interfaces := ifs
  fields := fds
  methods := ms
  attributes := attrs
def plain (name : String) (sup : Option ClassId) : Class where
  name := name
  kind := .ordinary
  loader := none
  accessFlags := 33
  super := sup
  interfaces := #[]
  cf := none
  fields := #[]
  methods := #[]
  instanceTypes := #[]
  staticTypes := #[]
  resolved := #[]
  callSites := []
  init := .initialized
  statics := none
  mirror := none

def pool0 : Array CpInfo := pool [(5, u "<init>"), (0, u "()V"), (1, .class_ 10), (1, u "java/lang/Object"), (85, u "clone"), (0, u "()Ljava/lang/Object;")] 26

def k0c0 : Code := { maxStack := 0, maxLocals := 1, code := object_method_1_code, exceptionTable := #[], attributes := #[] }
def k0m0 : Method := { name := "<init>", desc := "()V", sig := { parameters := [], returnType := none }, accessFlags := 1, code := some k0c0 }
def k0m1 : Method := { name := "clone", desc := "()Ljava/lang/Object;", sig := { parameters := [], returnType := some (.object "java/lang/Object") }, accessFlags := 260, code := none }
/-- java/lang/Object -/
def k0 : Class := { plain "java/lang/Object" none with
  accessFlags := 33
  interfaces := #[]
  cf := some (fileOf pool0 8 #[] #[{ accessFlags := 1, nameIndex := 5, descriptorIndex := 6, attributes := #[] }, { accessFlags := 260, nameIndex := 96, descriptorIndex := 97, attributes := #[] }] 33 0 #[] #[])
  fields := #[]
  methods := #[k0m0, k0m1]
  instanceTypes := #[]
  staticTypes := #[]
  resolved := Array.replicate 124 none
  statics := none }

def pool1 : Array CpInfo := pool [(2, .class_ 4), (1, u "java/lang/Object"), (0, u "<init>"), (0, u "()V"), (0, .methodref 8 9), (0, .class_ 10), (0, .nameAndType 11 12), (0, u "java/lang/String"), (0, u "length"), (0, u "()I"), (0, .methodref 8 14), (0, .nameAndType 15 16), (0, u "charAt"), (0, u "(I)C"), (0, .long 255), (1, .string 20), (0, u "http"), (0, .string 22), (0, u "https"), (0, .string 24), (0, u "mailto"), (0, .string 26), (0, u "ftp"), (0, .methodref 28 29), (0, .class_ 30), (0, .nameAndType 31 32), (0, u "com/example/kuri/kuri/normalize/SchemeRulesOfPinLaw"), (0, u "ch"), (0, u "(JILjava/lang/String;ZI)C"), (0, .methodref 8 34), (0, .nameAndType 5 35), (0, u "([C)V"), (0, .methodref 37 38), (0, .class_ 39), (0, .nameAndType 40 41), (0, u "com/example/kuri/kuri/normalize/SchemeRules"), (0, u "of"), (0, u "(Ljava/lang/String;)Lcom/example/kuri/kuri/normalize/SchemeRules;"), (0, .fieldref 37 43), (0, .nameAndType 44 45), (0, u "OTHER"), (0, u "Lcom/example/kuri/kuri/normalize/SchemeRules;"), (0, .methodref 8 47), (0, .nameAndType 48 49), (0, u "equals"), (0, u "(Ljava/lang/Object;)Z"), (0, .fieldref 37 51), (0, .nameAndType 52 45), (0, u "HTTP"), (0, .fieldref 37 54), (0, .nameAndType 55 45), (0, u "HTTPS"), (0, .fieldref 37 57), (0, .nameAndType 58 45), (0, u "MAILTO"), (3, u "law"), (0, u "(IJ)Z")] 4

def k1m0 : Method := { name := "<init>", desc := "()V", sig := { parameters := [], returnType := none }, accessFlags := 2, code := none }
def k1c1 : Code := { maxStack := 4, maxLocals := 6, code := method_2_code, exceptionTable := #[], attributes := #[] }
def k1m1 : Method := { name := "ch", desc := "(JILjava/lang/String;ZI)C", sig := { parameters := [.long, .int, (.object "java/lang/String"), .boolean, .int], returnType := some .char }, accessFlags := 10, code := some k1c1 }
def k1c2 : Code := { maxStack := 8, maxLocals := 12, code := code, exceptionTable := #[], attributes := #[] }
def k1m2 : Method := { name := "law", desc := "(IJ)Z", sig := { parameters := [.int, .long], returnType := some .boolean }, accessFlags := 9, code := some k1c2 }
/-- com/example/kuri/kuri/normalize/SchemeRulesOfPinLaw -/
def k1 : Class := { plain "com/example/kuri/kuri/normalize/SchemeRulesOfPinLaw" (some 0) with
  accessFlags := 49
  interfaces := #[]
  cf := some (fileOf pool1 28 #[] #[{ accessFlags := 2, nameIndex := 5, descriptorIndex := 6, attributes := #[] }, { accessFlags := 10, nameIndex := 31, descriptorIndex := 32, attributes := #[] }, { accessFlags := 9, nameIndex := 62, descriptorIndex := 63, attributes := #[] }] 49 2 #[] #[])
  fields := #[]
  methods := #[k1m0, k1m1, k1m2]
  instanceTypes := #[]
  staticTypes := #[]
  resolved := Array.replicate 68 none
  statics := none }

def pool2 : Array CpInfo := pool [(1, .class_ 2), (0, u "java/io/Serializable"), (0, .class_ 4), (0, u "java/lang/Object")] 2

/-- java/io/Serializable -/
def k2 : Class := { plain "java/io/Serializable" (some 0) with
  accessFlags := 1537
  interfaces := #[]
  cf := some (fileOf pool2 1 #[] #[] 1537 3 #[] #[])
  fields := #[]
  methods := #[]
  instanceTypes := #[]
  staticTypes := #[]
  resolved := Array.replicate 7 none
  statics := none }

def pool3 : Array CpInfo := pool [(1, .class_ 2), (0, u "java/lang/Comparable"), (0, .class_ 4), (0, u "java/lang/Object")] 7

/-- java/lang/Comparable -/
def k3 : Class := { plain "java/lang/Comparable" (some 0) with
  accessFlags := 1537
  interfaces := #[]
  cf := some (fileOf pool3 1 #[] #[] 1537 3 #[] #[])
  fields := #[]
  methods := #[]
  instanceTypes := #[]
  staticTypes := #[]
  resolved := Array.replicate 12 none
  statics := none }

def pool4 : Array CpInfo := pool [(2, .class_ 4), (1, u "java/lang/CharSequence"), (42, .class_ 48), (0, u "java/lang/CharSequence$1CodePointIterator"), (10, .class_ 60), (0, u "java/lang/CharSequence$1CharIterator"), (5, .class_ 67), (0, u "java/lang/Object")] 63

/-- java/lang/CharSequence -/
def k4 : Class := { plain "java/lang/CharSequence" (some 0) with
  accessFlags := 1537
  interfaces := #[]
  cf := some (fileOf pool4 2 #[.nestMembers #[47, 59]] #[] 1537 66 #[] #[])
  fields := #[]
  methods := #[]
  instanceTypes := #[]
  staticTypes := #[]
  resolved := Array.replicate 131 none
  statics := none }

def pool5 : Array CpInfo := pool [(1, .class_ 2), (0, u "java/lang/constant/Constable"), (0, .class_ 4), (0, u "java/lang/Object")] 6

/-- java/lang/constant/Constable -/
def k5 : Class := { plain "java/lang/constant/Constable" (some 0) with
  accessFlags := 1537
  interfaces := #[]
  cf := some (fileOf pool5 1 #[] #[] 1537 3 #[] #[])
  fields := #[]
  methods := #[]
  instanceTypes := #[]
  staticTypes := #[]
  resolved := Array.replicate 11 none
  statics := none }

def pool6 : Array CpInfo := pool [(1, .class_ 2), (0, u "java/lang/constant/ConstantDesc"), (0, .class_ 4), (0, u "java/lang/Object")] 32

/-- java/lang/constant/ConstantDesc -/
def k6 : Class := { plain "java/lang/constant/ConstantDesc" (some 0) with
  accessFlags := 1537
  interfaces := #[]
  cf := some (fileOf pool6 1 #[] #[] 1537 3 #[] #[])
  fields := #[]
  methods := #[]
  instanceTypes := #[]
  staticTypes := #[]
  resolved := Array.replicate 37 none
  statics := none }

def pool7 : Array CpInfo := pool [(1, .methodref 2 3), (0, .class_ 4), (0, .nameAndType 5 6), (0, u "java/lang/Object"), (0, u "<init>"), (0, u "()V"), (0, .string 8), (0, u ""), (0, .fieldref 10 11), (0, .class_ 12), (0, .nameAndType 13 14), (0, u "java/lang/String"), (0, u "value"), (0, u "[B"), (0, .fieldref 10 16), (0, .nameAndType 17 18), (0, u "coder"), (0, u "B"), (2, u "hash"), (0, u "I"), (2, u "hashIsZero"), (0, u "Z"), (0, .methodref 10 28), (0, .nameAndType 5 29), (0, u "([CIILjava/lang/Void;)V"), (8, .fieldref 10 39), (0, .nameAndType 40 26), (0, u "COMPACT_STRINGS"), (1, .class_ 44), (1, u "java/lang/StringUTF16"), (0, u "compress"), (1, .methodref 42 48), (0, .nameAndType 49 50), (0, u "coderFromArrayLen"), (0, u "([BI)B"), (56, .class_ 109), (1, u "java/lang/StringLatin1"), (32, u "()Z"), (34, .methodref 42 178), (0, .nameAndType 45 179), (0, u "([CII)[B"), (154, u "()I"), (0, .methodref 10 336), (0, .nameAndType 17 337), (0, u "()B"), (25, u "([BI)C"), (27, u "(II)V"), (35, u "(I)C"), (64, .methodref 10 493), (0, .nameAndType 494 142), (0, u "isLatin1"), (0, .methodref 107 496), (0, .nameAndType 497 363), (0, u "charAt"), (3, u "checkIndex"), (5, u "length"), (33, .methodref 107 542), (0, .nameAndType 543 544), (0, u "equals"), (0, u "([B[B)Z"), (28, u "(Ljava/lang/Object;)Z"), (1, .class_ 576), (0, u "java/lang/CharSequence"), (22, u "CASE_INSENSITIVE_ORDER"), (0, u "Ljava/util/Comparator;"), (409, u "([C)V"), (42, .fieldref 1054 1055), (0, .class_ 1056), (0, .nameAndType 1057 1058), (0, u "jdk/internal/util/Preconditions"), (0, u "SIOOBE_FORMATTER"), (0, u "Ljava/util/function/BiFunction;"), (0, .methodref 1054 1060), (0, .nameAndType 501 1061), (0, u "(IILjava/util/function/BiFunction;)I"), (39, u "serialPersistentFields"), (0, u "[Ljava/io/ObjectStreamField;"), (0, .class_ 1104), (0, u "java/lang/String$CaseInsensitiveComparator"), (1, .class_ 1107), (0, u "java/io/Serializable"), (0, .class_ 1109), (0, u "java/lang/Comparable"), (0, .class_ 1111), (0, u "java/lang/constant/Constable"), (0, .class_ 1113), (0, u "java/lang/constant/ConstantDesc"), (2, u "serialVersionUID"), (0, u "J"), (3, u "REPL"), (0, u "C"), (2, u "LATIN1"), (1, u "UTF16")] 323

def k7m0 : Method := { name := "<init>", desc := "()V", sig := { parameters := [], returnType := none }, accessFlags := 1, code := none }
def k7c1 : Code := { maxStack := 5, maxLocals := 2, code := jdk_42_method_3_code, exceptionTable := #[], attributes := #[] }
def k7m1 : Method := { name := "<init>", desc := "([C)V", sig := { parameters := [(.array .char)], returnType := none }, accessFlags := 1, code := some k7c1 }
def k7c2 : Code := { maxStack := 2, maxLocals := 1, code := jdk_42_method_54_code, exceptionTable := #[], attributes := #[] }
def k7m2 : Method := { name := "length", desc := "()I", sig := { parameters := [], returnType := some .int }, accessFlags := 1, code := some k7c2 }
def k7c3 : Code := { maxStack := 2, maxLocals := 2, code := jdk_42_method_56_code, exceptionTable := #[], attributes := #[] }
def k7m3 : Method := { name := "charAt", desc := "(I)C", sig := { parameters := [.int], returnType := some .char }, accessFlags := 1, code := some k7c3 }
def k7c4 : Code := { maxStack := 2, maxLocals := 3, code := jdk_42_method_66_code, exceptionTable := #[], attributes := #[] }
def k7m4 : Method := { name := "equals", desc := "(Ljava/lang/Object;)Z", sig := { parameters := [(.object "java/lang/Object")], returnType := some .boolean }, accessFlags := 1, code := some k7c4 }
def k7c5 : Code := { maxStack := 4, maxLocals := 6, code := jdk_42_method_149_code, exceptionTable := #[], attributes := #[] }
def k7m5 : Method := { name := "<init>", desc := "([CIILjava/lang/Void;)V", sig := { parameters := [(.array .char), .int, .int, (.object "java/lang/Void")], returnType := none }, accessFlags := 2, code := some k7c5 }
def k7c6 : Code := { maxStack := 1, maxLocals := 1, code := jdk_42_method_152_code, exceptionTable := #[], attributes := #[] }
def k7m6 : Method := { name := "coder", desc := "()B", sig := { parameters := [], returnType := some .byte }, accessFlags := 0, code := some k7c6 }
def k7c7 : Code := { maxStack := 1, maxLocals := 1, code := jdk_42_method_154_code, exceptionTable := #[], attributes := #[] }
def k7m7 : Method := { name := "isLatin1", desc := "()Z", sig := { parameters := [], returnType := some .boolean }, accessFlags := 0, code := some k7c7 }
def k7c8 : Code := { maxStack := 3, maxLocals := 2, code := jdk_42_method_155_code, exceptionTable := #[], attributes := #[] }
def k7m8 : Method := { name := "checkIndex", desc := "(II)V", sig := { parameters := [.int, .int], returnType := none }, accessFlags := 8, code := some k7c8 }
/-- java/lang/String -/
def k7 : Class := { plain "java/lang/String" (some 0) with
  accessFlags := 49
  interfaces := #[2, 3, 4, 5, 6]
  cf := some (fileOf pool7 10 #[.nestMembers #[1103]] #[{ accessFlags := 1, nameIndex := 5, descriptorIndex := 6, attributes := #[] }, { accessFlags := 1, nameIndex := 5, descriptorIndex := 1010, attributes := #[] }, { accessFlags := 1, nameIndex := 507, descriptorIndex := 334, attributes := #[] }, { accessFlags := 1, nameIndex := 497, descriptorIndex := 427, attributes := #[] }, { accessFlags := 1, nameIndex := 543, descriptorIndex := 573, attributes := #[] }, { accessFlags := 2, nameIndex := 5, descriptorIndex := 29, attributes := #[] }, { accessFlags := 0, nameIndex := 17, descriptorIndex := 337, attributes := #[] }, { accessFlags := 0, nameIndex := 494, descriptorIndex := 142, attributes := #[] }, { accessFlags := 8, nameIndex := 501, descriptorIndex := 391, attributes := #[] }] 49 2 #[1106, 1108, 575, 1110, 1112] #[{ accessFlags := 18, nameIndex := 13, descriptorIndex := 14, attributes := #[] }, { accessFlags := 18, nameIndex := 17, descriptorIndex := 18, attributes := #[] }, { accessFlags := 2, nameIndex := 21, descriptorIndex := 22, attributes := #[] }, { accessFlags := 2, nameIndex := 25, descriptorIndex := 26, attributes := #[] }, { accessFlags := 26, nameIndex := 1116, descriptorIndex := 1117, attributes := #[] }, { accessFlags := 24, nameIndex := 40, descriptorIndex := 26, attributes := #[] }, { accessFlags := 26, nameIndex := 1101, descriptorIndex := 1102, attributes := #[] }, { accessFlags := 26, nameIndex := 1121, descriptorIndex := 1122, attributes := #[] }, { accessFlags := 25, nameIndex := 599, descriptorIndex := 600, attributes := #[] }, { accessFlags := 24, nameIndex := 1125, descriptorIndex := 18, attributes := #[] }, { accessFlags := 24, nameIndex := 1127, descriptorIndex := 18, attributes := #[] }])
  fields := #[{ name := "value", type := (.array .byte), accessFlags := 18, slot := 0, constantValue := 0 }, { name := "coder", type := .byte, accessFlags := 18, slot := 1, constantValue := 0 }, { name := "hash", type := .int, accessFlags := 2, slot := 2, constantValue := 0 }, { name := "hashIsZero", type := .boolean, accessFlags := 2, slot := 3, constantValue := 0 }, { name := "serialVersionUID", type := .long, accessFlags := 26, slot := 0, constantValue := 0 }, { name := "COMPACT_STRINGS", type := .boolean, accessFlags := 24, slot := 1, constantValue := 0 }, { name := "serialPersistentFields", type := (.array (.object "java/io/ObjectStreamField")), accessFlags := 26, slot := 2, constantValue := 0 }, { name := "REPL", type := .char, accessFlags := 26, slot := 3, constantValue := 0 }, { name := "CASE_INSENSITIVE_ORDER", type := (.object "java/util/Comparator"), accessFlags := 25, slot := 4, constantValue := 0 }, { name := "LATIN1", type := .byte, accessFlags := 24, slot := 5, constantValue := 0 }, { name := "UTF16", type := .byte, accessFlags := 24, slot := 6, constantValue := 0 }]
  methods := #[k7m0, k7m1, k7m2, k7m3, k7m4, k7m5, k7m6, k7m7, k7m8]
  instanceTypes := #[(.array .byte), .byte, .int, .boolean]
  staticTypes := #[.long, .boolean, (.array (.object "java/io/ObjectStreamField")), .char, (.object "java/util/Comparator"), .byte, .byte]
  resolved := Array.replicate 1451 none
  statics := some 0 }

def pool8 : Array CpInfo := pool [(2, .class_ 4), (1, u "java/lang/Enum"), (0, u "name"), (0, u "Ljava/lang/String;"), (2, u "ordinal"), (0, u "I"), (1, .class_ 14), (1, u "java/lang/Object"), (4, u "hash"), (86, .class_ 108), (1, u "java/lang/Enum$EnumDesc"), (2, .class_ 112), (0, u "java/lang/constant/Constable"), (0, .class_ 114), (0, u "java/lang/Comparable"), (0, .class_ 116), (0, u "java/io/Serializable")] 87

/-- java/lang/Enum -/
def k8 : Class := { plain "java/lang/Enum" (some 0) with
  accessFlags := 1057
  interfaces := #[5, 3, 2]
  cf := some (fileOf pool8 2 #[.nestMembers #[106]] #[] 1057 12 #[111, 113, 115] #[{ accessFlags := 18, nameIndex := 5, descriptorIndex := 6, attributes := #[] }, { accessFlags := 18, nameIndex := 9, descriptorIndex := 10, attributes := #[] }, { accessFlags := 2, nameIndex := 19, descriptorIndex := 10, attributes := #[] }])
  fields := #[{ name := "name", type := (.object "java/lang/String"), accessFlags := 18, slot := 0, constantValue := 0 }, { name := "ordinal", type := .int, accessFlags := 18, slot := 1, constantValue := 0 }, { name := "hash", type := .int, accessFlags := 2, slot := 2, constantValue := 0 }]
  methods := #[]
  instanceTypes := #[(.object "java/lang/String"), .int, .int]
  staticTypes := #[]
  resolved := Array.replicate 204 none
  statics := none }

def pool9 : Array CpInfo := pool [(1, .class_ 2), (0, u "com/example/kuri/kuri/normalize/SchemeRules"), (2, u "HTTP"), (0, u "Lcom/example/kuri/kuri/normalize/SchemeRules;"), (2, u "HTTPS"), (2, u "MAILTO"), (0, .fieldref 1 14), (0, .nameAndType 15 6), (0, u "OTHER"), (0, .fieldref 1 17), (0, .nameAndType 18 19), (0, u "$VALUES"), (0, u "[Lcom/example/kuri/kuri/normalize/SchemeRules;"), (0, .methodref 21 22), (0, .class_ 19), (0, .nameAndType 23 24), (0, u "clone"), (0, u "()Ljava/lang/Object;"), (1, .class_ 28), (1, u "java/lang/Enum"), (6, .fieldref 1 36), (0, .nameAndType 37 38), (0, u "scheme"), (0, u "Ljava/lang/String;"), (2, u "defaultPort"), (0, .methodref 1 43), (0, .nameAndType 44 45), (0, u "values"), (0, u "()[Lcom/example/kuri/kuri/normalize/SchemeRules;"), (0, .methodref 47 48), (0, .class_ 49), (0, .nameAndType 50 51), (0, u "java/lang/String"), (0, u "equals"), (0, u "(Ljava/lang/Object;)Z"), (90, u "(Ljava/lang/String;)Lcom/example/kuri/kuri/normalize/SchemeRules;"), (3, u "of")] 25

def k9c0 : Code := { maxStack := 1, maxLocals := 0, code := prog_13_method_1_code, exceptionTable := #[], attributes := #[] }
def k9m0 : Method := { name := "values", desc := "()[Lcom/example/kuri/kuri/normalize/SchemeRules;", sig := { parameters := [], returnType := some (.array (.object "com/example/kuri/kuri/normalize/SchemeRules")) }, accessFlags := 9, code := some k9c0 }
def k9c1 : Code := { maxStack := 2, maxLocals := 6, code := prog_13_method_4_code, exceptionTable := #[], attributes := #[] }
def k9m1 : Method := { name := "of", desc := "(Ljava/lang/String;)Lcom/example/kuri/kuri/normalize/SchemeRules;", sig := { parameters := [(.object "java/lang/String")], returnType := some (.object "com/example/kuri/kuri/normalize/SchemeRules") }, accessFlags := 8, code := some k9c1 }
/-- com/example/kuri/kuri/normalize/SchemeRules -/
def k9 : Class := { plain "com/example/kuri/kuri/normalize/SchemeRules" (some 8) with
  accessFlags := 16432
  interfaces := #[]
  cf := some (fileOf pool9 1 #[] #[{ accessFlags := 9, nameIndex := 44, descriptorIndex := 45, attributes := #[] }, { accessFlags := 8, nameIndex := 146, descriptorIndex := 142, attributes := #[] }] 16432 26 #[] #[{ accessFlags := 16409, nameIndex := 5, descriptorIndex := 6, attributes := #[] }, { accessFlags := 16409, nameIndex := 9, descriptorIndex := 6, attributes := #[] }, { accessFlags := 16409, nameIndex := 12, descriptorIndex := 6, attributes := #[] }, { accessFlags := 16409, nameIndex := 15, descriptorIndex := 6, attributes := #[] }, { accessFlags := 18, nameIndex := 37, descriptorIndex := 38, attributes := #[] }, { accessFlags := 18, nameIndex := 41, descriptorIndex := 38, attributes := #[] }, { accessFlags := 4122, nameIndex := 18, descriptorIndex := 19, attributes := #[] }])
  fields := #[{ name := "HTTP", type := (.object "com/example/kuri/kuri/normalize/SchemeRules"), accessFlags := 16409, slot := 0, constantValue := 0 }, { name := "HTTPS", type := (.object "com/example/kuri/kuri/normalize/SchemeRules"), accessFlags := 16409, slot := 1, constantValue := 0 }, { name := "MAILTO", type := (.object "com/example/kuri/kuri/normalize/SchemeRules"), accessFlags := 16409, slot := 2, constantValue := 0 }, { name := "OTHER", type := (.object "com/example/kuri/kuri/normalize/SchemeRules"), accessFlags := 16409, slot := 3, constantValue := 0 }, { name := "scheme", type := (.object "java/lang/String"), accessFlags := 18, slot := 3, constantValue := 0 }, { name := "defaultPort", type := (.object "java/lang/String"), accessFlags := 18, slot := 4, constantValue := 0 }, { name := "$VALUES", type := (.array (.object "com/example/kuri/kuri/normalize/SchemeRules")), accessFlags := 4122, slot := 4, constantValue := 0 }]
  methods := #[k9m0, k9m1]
  instanceTypes := #[(.object "java/lang/String"), .int, .int, (.object "java/lang/String"), (.object "java/lang/String")]
  staticTypes := #[(.object "com/example/kuri/kuri/normalize/SchemeRules"), (.object "com/example/kuri/kuri/normalize/SchemeRules"), (.object "com/example/kuri/kuri/normalize/SchemeRules"), (.object "com/example/kuri/kuri/normalize/SchemeRules"), (.array (.object "com/example/kuri/kuri/normalize/SchemeRules"))]
  resolved := Array.replicate 172 none
  statics := some 1 }

def pool10 : Array CpInfo := pool [(1, .class_ 2), (0, u "java/lang/Cloneable"), (0, .class_ 4), (0, u "java/lang/Object")] 2

/-- java/lang/Cloneable -/
def k10 : Class := { plain "java/lang/Cloneable" (some 0) with
  accessFlags := 1537
  interfaces := #[]
  cf := some (fileOf pool10 1 #[] #[] 1537 3 #[] #[])
  fields := #[]
  methods := #[]
  instanceTypes := #[]
  staticTypes := #[]
  resolved := Array.replicate 7 none
  statics := none }

def pool11 : Array CpInfo := pool [(1, .class_ 2), (0, u "java/lang/String"), (1, .class_ 6), (1, u "java/lang/Object"), (0, u "<init>"), (0, u "()V"), (0, .methodref 1 10), (0, .nameAndType 11 12), (0, u "checkIndex"), (0, u "(II)V"), (1, .class_ 16), (1, u "java/lang/StringLatin1"), (36, u "([BI)C"), (67, u "$assertionsDisabled"), (0, u "Z"), (98, .class_ 223), (1, u "java/lang/StringLatin1$LinesSpliterator"), (28, u "charAt"), (28, u "equals"), (0, u "([B[B)Z"), (107, .class_ 391), (0, u "java/lang/StringLatin1$CharsSpliterator")] 3

def k11m0 : Method := { name := "<init>", desc := "()V", sig := { parameters := [], returnType := none }, accessFlags := 0, code := none }
def k11c1 : Code := { maxStack := 2, maxLocals := 2, code := jdk_43_method_2_code, exceptionTable := #[], attributes := #[] }
def k11m1 : Method := { name := "charAt", desc := "([BI)C", sig := { parameters := [(.array .byte), .int], returnType := some .char }, accessFlags := 9, code := some k11c1 }
def k11c2 : Code := { maxStack := 3, maxLocals := 3, code := jdk_43_method_13_code, exceptionTable := #[], attributes := #[] }
def k11m2 : Method := { name := "equals", desc := "([B[B)Z", sig := { parameters := [(.array .byte), (.array .byte)], returnType := some .boolean }, accessFlags := 9, code := some k11c2 }
/-- java/lang/StringLatin1 -/
def k11 : Class := { plain "java/lang/StringLatin1" (some 0) with
  accessFlags := 48
  interfaces := #[]
  cf := some (fileOf pool11 14 #[.nestMembers #[390, 221]] #[{ accessFlags := 0, nameIndex := 7, descriptorIndex := 8, attributes := #[] }, { accessFlags := 9, nameIndex := 252, descriptorIndex := 53, attributes := #[] }, { accessFlags := 9, nameIndex := 281, descriptorIndex := 282, attributes := #[] }] 48 4 #[] #[{ accessFlags := 4120, nameIndex := 121, descriptorIndex := 122, attributes := #[] }])
  fields := #[{ name := "$assertionsDisabled", type := .boolean, accessFlags := 4120, slot := 0, constantValue := 0 }]
  methods := #[k11m0, k11m1, k11m2]
  instanceTypes := #[]
  staticTypes := #[.boolean]
  resolved := Array.replicate 395 none
  statics := none }

def pool12 : Array CpInfo := pool [(6, .class_ 8), (1, u "java/lang/Object"), (0, u "<init>"), (0, u "()V"), (1, .class_ 14), (1, u "java/lang/StringUTF16"), (31, u "$assertionsDisabled"), (0, u "Z"), (13, u "HI_BYTE_SHIFT"), (0, u "I"), (2, u "LO_BYTE_SHIFT"), (49, .methodref 12 116), (0, .nameAndType 117 118), (0, u "compress"), (0, u "([CI[BII)I"), (3, u "([CII)[B"), (138, u "coderFromArrayLen"), (0, u "([BI)B"), (106, .class_ 371), (1, u "java/lang/StringUTF16$LinesSpliterator"), (58, u "MAX_LENGTH"), (196, .class_ 628), (0, u "java/lang/StringUTF16$CodePointsSpliterator"), (0, .class_ 630), (0, u "java/lang/StringUTF16$CharsSpliterator")] 4

def k12m0 : Method := { name := "<init>", desc := "()V", sig := { parameters := [], returnType := none }, accessFlags := 0, code := none }
def k12c1 : Code := { maxStack := 2, maxLocals := 2, code := jdk_52_method_15_code, exceptionTable := #[], attributes := #[] }
def k12m1 : Method := { name := "coderFromArrayLen", desc := "([BI)B", sig := { parameters := [(.array .byte), .int], returnType := some .byte }, accessFlags := 8, code := some k12c1 }
def k12c2 : Code := { maxStack := 5, maxLocals := 6, code := jdk_52_method_16_code, exceptionTable := #[], attributes := #[] }
def k12m2 : Method := { name := "compress", desc := "([CII)[B", sig := { parameters := [(.array .char), .int, .int], returnType := some (.array .byte) }, accessFlags := 9, code := some k12c2 }
def k12c3 : Code := { maxStack := 3, maxLocals := 7, code := jdk_52_method_21_code, exceptionTable := #[], attributes := #[] }
def k12m3 : Method := { name := "compress", desc := "([CI[BII)I", sig := { parameters := [(.array .char), .int, (.array .byte), .int, .int], returnType := some .int }, accessFlags := 9, code := some k12c3 }
/-- java/lang/StringUTF16 -/
def k12 : Class := { plain "java/lang/StringUTF16" (some 0) with
  accessFlags := 48
  interfaces := #[]
  cf := some (fileOf pool12 12 #[.nestMembers #[627, 629, 369]] #[{ accessFlags := 0, nameIndex := 9, descriptorIndex := 10, attributes := #[] }, { accessFlags := 8, nameIndex := 261, descriptorIndex := 262, attributes := #[] }, { accessFlags := 9, nameIndex := 117, descriptorIndex := 122, attributes := #[] }, { accessFlags := 9, nameIndex := 117, descriptorIndex := 118, attributes := #[] }] 48 6 #[] #[{ accessFlags := 26, nameIndex := 61, descriptorIndex := 62, attributes := #[] }, { accessFlags := 26, nameIndex := 65, descriptorIndex := 62, attributes := #[] }, { accessFlags := 24, nameIndex := 430, descriptorIndex := 62, attributes := #[] }, { accessFlags := 4120, nameIndex := 46, descriptorIndex := 47, attributes := #[] }])
  fields := #[{ name := "HI_BYTE_SHIFT", type := .int, accessFlags := 26, slot := 0, constantValue := 0 }, { name := "LO_BYTE_SHIFT", type := .int, accessFlags := 26, slot := 1, constantValue := 0 }, { name := "MAX_LENGTH", type := .int, accessFlags := 24, slot := 2, constantValue := 0 }, { name := "$assertionsDisabled", type := .boolean, accessFlags := 4120, slot := 3, constantValue := 0 }]
  methods := #[k12m0, k12m1, k12m2, k12m3]
  instanceTypes := #[]
  staticTypes := #[.int, .int, .int, .boolean]
  resolved := Array.replicate 635 none
  statics := none }

def pool13 : Array CpInfo := pool [(2, .class_ 4), (1, u "java/lang/Object"), (0, u "<init>"), (0, u "()V"), (17, .class_ 26), (1, u "jdk/internal/util/Preconditions"), (6, u "checkIndex"), (21, .class_ 56), (0, u "jdk/internal/util/Preconditions$4"), (57, .class_ 115), (0, u "jdk/internal/util/Preconditions$1"), (7, u "SIOOBE_FORMATTER"), (0, u "Ljava/util/function/BiFunction;"), (0, .class_ 126), (0, u "jdk/internal/util/Preconditions$2"), (3, u "AIOOBE_FORMATTER"), (0, .class_ 132), (0, u "jdk/internal/util/Preconditions$3"), (3, u "IOOBE_FORMATTER"), (41, u "(IILjava/util/function/BiFunction;)I")] 15

def k13m0 : Method := { name := "<init>", desc := "()V", sig := { parameters := [], returnType := none }, accessFlags := 1, code := none }
def k13c1 : Code := { maxStack := 3, maxLocals := 3, code := jdk_41_method_11_code, exceptionTable := #[], attributes := #[] }
def k13m1 : Method := { name := "checkIndex", desc := "(IILjava/util/function/BiFunction;)I", sig := { parameters := [.int, .int, (.object "java/util/function/BiFunction")], returnType := some .int }, accessFlags := 9, code := some k13c1 }
/-- jdk/internal/util/Preconditions -/
def k13 : Class := { plain "jdk/internal/util/Preconditions" (some 0) with
  accessFlags := 33
  interfaces := #[]
  cf := some (fileOf pool13 24 #[.nestMembers #[55, 131, 125, 114]] #[{ accessFlags := 1, nameIndex := 5, descriptorIndex := 6, attributes := #[] }, { accessFlags := 9, nameIndex := 33, descriptorIndex := 178, attributes := #[] }] 33 2 #[] #[{ accessFlags := 25, nameIndex := 123, descriptorIndex := 124, attributes := #[] }, { accessFlags := 25, nameIndex := 130, descriptorIndex := 124, attributes := #[] }, { accessFlags := 25, nameIndex := 136, descriptorIndex := 124, attributes := #[] }])
  fields := #[{ name := "SIOOBE_FORMATTER", type := (.object "java/util/function/BiFunction"), accessFlags := 25, slot := 0, constantValue := 0 }, { name := "AIOOBE_FORMATTER", type := (.object "java/util/function/BiFunction"), accessFlags := 25, slot := 1, constantValue := 0 }, { name := "IOOBE_FORMATTER", type := (.object "java/util/function/BiFunction"), accessFlags := 25, slot := 2, constantValue := 0 }]
  methods := #[k13m0, k13m1]
  instanceTypes := #[]
  staticTypes := #[(.object "java/util/function/BiFunction"), (.object "java/util/function/BiFunction"), (.object "java/util/function/BiFunction")]
  resolved := Array.replicate 194 none
  statics := some 2 }

def pool14 : Array CpInfo := pool [(9, u "<init>"), (6, .class_ 18), (1, u "java/lang/Object"), (0, u "()V"), (1, .class_ 23), (1, u "jdk/internal/util/ArraysSupport"), (0, u "LOG2_ARRAY_LONG_INDEX_SCALE"), (0, u "I"), (2, u "U"), (0, u "Ljdk/internal/misc/Unsafe;"), (8, u "BIG_ENDIAN"), (0, u "Z"), (8, u "LOG2_BYTE_BIT_SIZE"), (4, u "LOG2_ARRAY_INT_INDEX_SCALE"), (54, u "JLA"), (0, u "Ljdk/internal/access/JavaLangAccess;"), (11, u "LOG2_ARRAY_BOOLEAN_INDEX_SCALE"), (9, u "LOG2_ARRAY_BYTE_INDEX_SCALE"), (5, u "LOG2_ARRAY_CHAR_INDEX_SCALE"), (5, u "LOG2_ARRAY_SHORT_INDEX_SCALE"), (18, u "LOG2_ARRAY_FLOAT_INDEX_SCALE"), (24, u "LOG2_ARRAY_DOUBLE_INDEX_SCALE"), (89, u "T_BOOLEAN"), (2, u "T_CHAR"), (1, u "T_FLOAT"), (1, u "T_DOUBLE"), (1, u "T_BYTE"), (1, u "T_SHORT"), (1, u "T_INT"), (1, u "T_LONG"), (1, u "SOFT_MAX_ARRAY_LENGTH")] 83

def k14m0 : Method := { name := "<init>", desc := "()V", sig := { parameters := [], returnType := none }, accessFlags := 2, code := none }
/-- jdk/internal/util/ArraysSupport -/
def k14 : Class := { plain "jdk/internal/util/ArraysSupport" (some 0) with
  accessFlags := 33
  interfaces := #[]
  cf := some (fileOf pool14 21 #[] #[{ accessFlags := 2, nameIndex := 9, descriptorIndex := 19, attributes := #[] }] 33 16 #[] #[{ accessFlags := 24, nameIndex := 28, descriptorIndex := 29, attributes := #[] }, { accessFlags := 26, nameIndex := 38, descriptorIndex := 39, attributes := #[] }, { accessFlags := 25, nameIndex := 121, descriptorIndex := 25, attributes := #[] }, { accessFlags := 25, nameIndex := 131, descriptorIndex := 25, attributes := #[] }, { accessFlags := 25, nameIndex := 137, descriptorIndex := 25, attributes := #[] }, { accessFlags := 25, nameIndex := 143, descriptorIndex := 25, attributes := #[] }, { accessFlags := 25, nameIndex := 53, descriptorIndex := 25, attributes := #[] }, { accessFlags := 25, nameIndex := 24, descriptorIndex := 25, attributes := #[] }, { accessFlags := 25, nameIndex := 162, descriptorIndex := 25, attributes := #[] }, { accessFlags := 25, nameIndex := 187, descriptorIndex := 25, attributes := #[] }, { accessFlags := 26, nameIndex := 48, descriptorIndex := 25, attributes := #[] }, { accessFlags := 25, nameIndex := 277, descriptorIndex := 25, attributes := #[] }, { accessFlags := 25, nameIndex := 280, descriptorIndex := 25, attributes := #[] }, { accessFlags := 25, nameIndex := 282, descriptorIndex := 25, attributes := #[] }, { accessFlags := 25, nameIndex := 284, descriptorIndex := 25, attributes := #[] }, { accessFlags := 25, nameIndex := 286, descriptorIndex := 25, attributes := #[] }, { accessFlags := 25, nameIndex := 288, descriptorIndex := 25, attributes := #[] }, { accessFlags := 25, nameIndex := 290, descriptorIndex := 25, attributes := #[] }, { accessFlags := 25, nameIndex := 292, descriptorIndex := 25, attributes := #[] }, { accessFlags := 26, nameIndex := 108, descriptorIndex := 109, attributes := #[] }, { accessFlags := 25, nameIndex := 294, descriptorIndex := 25, attributes := #[] }])
  fields := #[{ name := "U", type := (.object "jdk/internal/misc/Unsafe"), accessFlags := 24, slot := 0, constantValue := 0 }, { name := "BIG_ENDIAN", type := .boolean, accessFlags := 26, slot := 1, constantValue := 0 }, { name := "LOG2_ARRAY_BOOLEAN_INDEX_SCALE", type := .int, accessFlags := 25, slot := 2, constantValue := 0 }, { name := "LOG2_ARRAY_BYTE_INDEX_SCALE", type := .int, accessFlags := 25, slot := 3, constantValue := 0 }, { name := "LOG2_ARRAY_CHAR_INDEX_SCALE", type := .int, accessFlags := 25, slot := 4, constantValue := 0 }, { name := "LOG2_ARRAY_SHORT_INDEX_SCALE", type := .int, accessFlags := 25, slot := 5, constantValue := 0 }, { name := "LOG2_ARRAY_INT_INDEX_SCALE", type := .int, accessFlags := 25, slot := 6, constantValue := 0 }, { name := "LOG2_ARRAY_LONG_INDEX_SCALE", type := .int, accessFlags := 25, slot := 7, constantValue := 0 }, { name := "LOG2_ARRAY_FLOAT_INDEX_SCALE", type := .int, accessFlags := 25, slot := 8, constantValue := 0 }, { name := "LOG2_ARRAY_DOUBLE_INDEX_SCALE", type := .int, accessFlags := 25, slot := 9, constantValue := 0 }, { name := "LOG2_BYTE_BIT_SIZE", type := .int, accessFlags := 26, slot := 10, constantValue := 0 }, { name := "T_BOOLEAN", type := .int, accessFlags := 25, slot := 11, constantValue := 0 }, { name := "T_CHAR", type := .int, accessFlags := 25, slot := 12, constantValue := 0 }, { name := "T_FLOAT", type := .int, accessFlags := 25, slot := 13, constantValue := 0 }, { name := "T_DOUBLE", type := .int, accessFlags := 25, slot := 14, constantValue := 0 }, { name := "T_BYTE", type := .int, accessFlags := 25, slot := 15, constantValue := 0 }, { name := "T_SHORT", type := .int, accessFlags := 25, slot := 16, constantValue := 0 }, { name := "T_INT", type := .int, accessFlags := 25, slot := 17, constantValue := 0 }, { name := "T_LONG", type := .int, accessFlags := 25, slot := 18, constantValue := 0 }, { name := "JLA", type := (.object "jdk/internal/access/JavaLangAccess"), accessFlags := 26, slot := 19, constantValue := 0 }, { name := "SOFT_MAX_ARRAY_LENGTH", type := .int, accessFlags := 25, slot := 20, constantValue := 0 }]
  methods := #[k14m0]
  instanceTypes := #[]
  staticTypes := #[(.object "jdk/internal/misc/Unsafe"), .boolean, .int, .int, .int, .int, .int, .int, .int, .int, .int, .int, .int, .int, .int, .int, .int, .int, .int, (.object "jdk/internal/access/JavaLangAccess"), .int]
  resolved := Array.replicate 378 none
  statics := none }

/-- the primitive byte -/
def k15 : Class := { plain "byte" none with kind := .primitive 'B', accessFlags := 0x411 }
/-- [B -/
def k16 : Class := { plain "[B" (some 0) with kind := .array 15 .byte, interfaces := #[10, 2], accessFlags := 1041 }

/-- the primitive char -/
def k17 : Class := { plain "char" none with kind := .primitive 'C', accessFlags := 0x411 }
/-- [C -/
def k18 : Class := { plain "[C" (some 0) with kind := .array 17 .char, interfaces := #[10, 2], accessFlags := 1041 }

/-- the primitive int -/
def k19 : Class := { plain "int" none with kind := .primitive 'I', accessFlags := 0x411 }
/-- [I -/
def k20 : Class := { plain "[I" (some 0) with kind := .array 19 .int, interfaces := #[10, 2], accessFlags := 1041 }

/-- [Lcom/example/kuri/kuri/normalize/SchemeRules; -/
def k21 : Class := { plain "[Lcom/example/kuri/kuri/normalize/SchemeRules;" (some 0) with kind := .array 9 (.object "com/example/kuri/kuri/normalize/SchemeRules"), interfaces := #[10, 2], accessFlags := 1041 }

def heap : Heap := #[{ cls := 7, slots := #[.long 0, .int 1, .null, .int 0, .null, .int 0, .int 0], vm := .statics 7 },
  { cls := 9, slots := #[.ref 9, .ref 10, .ref 11, .ref 12, .ref 13], vm := .statics 9 },
  { cls := 13, slots := #[.null, .null, .null], vm := .statics 13 },
  { cls := 16, slots := #[.int 104, .int 116, .int 116, .int 112], vm := .none },
  { cls := 16, slots := #[.int 104, .int 116, .int 116, .int 112, .int 115], vm := .none },
  { cls := 16, slots := #[.int 109, .int 97, .int 105, .int 108, .int 116, .int 111], vm := .none },
  { cls := 7, slots := #[.ref 3, .int 0, .int 0, .int 0], vm := .none },
  { cls := 7, slots := #[.ref 4, .int 0, .int 0, .int 0], vm := .none },
  { cls := 7, slots := #[.ref 5, .int 0, .int 0, .int 0], vm := .none },
  { cls := 9, slots := #[.null, .int 0, .int 0, .ref 6, .null], vm := .none },
  { cls := 9, slots := #[.null, .int 0, .int 0, .ref 7, .null], vm := .none },
  { cls := 9, slots := #[.null, .int 0, .int 0, .ref 8, .null], vm := .none },
  { cls := 9, slots := #[.null, .int 0, .int 0, .null, .null], vm := .none },
  { cls := 21, slots := #[.ref 9, .ref 10, .ref 11, .ref 12], vm := .none }]
def classes : Array Class := #[k0, k1, k2, k3, k4, k5, k6, k7, k8, k9, k10, k11, k12, k13, k14, k15, k16, k17, k18, k19, k20, k21]
def interned : List (Array UInt16 × Addr) := []
def slotsUsed : Nat := 66
def theMethod : MethodId := ⟨1, 2⟩
def args0 : Array Value := #[.int 5, .long 7]
def aboutOver (below : List Frame) : State where
  vm := { classes := classes, interned := interned.toArray }
  heap := heap
  slotsUsed := slotsUsed
  threads := #[{ frames := .invoking theMethod args0 :: below }]
def below0 : List Frame := [.native { method := ⟨0, 0⟩, args := #[] }]
def about1 : State := aboutOver below0
def p0 : Program := .bare "" "" ""
def e0 : Env := launch0.env 0 0 0
theorem w_frames : about1.frames = Frame.invoking theMethod args0 :: below0 := rfl
set_option maxRecDepth 65536 in
theorem w_args : argsFit about1.vm theMethod args0 = true := by decide +kernel
set_option maxRecDepth 65536 in
theorem w_heap : heapFits about1 = true := by decide +kernel
set_option maxRecDepth 65536 in
theorem w_runnable : about1.curStatus? = some .runnable := by decide +kernel
set_option maxRecDepth 65536 in
theorem w_alone : about1.alone = true := by decide +kernel
set_option maxRecDepth 65536 in
theorem w_named : about1.methodNamed? x = some theMethod := by decide +kernel
set_option maxRecDepth 65536 in
theorem w_hears : about1.hears theMethod below0 = true := by decide +kernel
set_option maxRecDepth 65536 in
theorem w_ripe : about1.ripe theMethod args0 below0 = true := by decide +kernel
theorem w_running : about1.status = .running := rfl
set_option maxRecDepth 65536 in
theorem w_room : about1.hasRoom e0.platform room_1 = true :=
  launch0.hasRoom_least _ room_1 (by decide +kernel) (by decide +kernel) (by decide +kernel) (by decide +kernel) (by decide +kernel) (by decide +kernel)
theorem allAtoms_all (ts : List Jvm.Cond) (a : Array Jvm.Value) (st : Jvm.State) : (allAtoms ts).before a st = ts.all (fun c => c.before a st) := by
  induction ts with
  | nil => rfl
  | cons c t ih =>
    show (Jvm.Cond.and c (allAtoms t)).before a st = _
    rw [Jvm.Cond.before_and, ih, List.all_cons]
def words1 : List Jvm.Cond := Jvm.Cond.code x code maxLocals ret :: tables_1
/-- a 'code' word, met by the world's own term for the bytes: nothing is compared byte by byte -/
theorem code_word {y : MethodName} {bytes : ByteArray} {mx : Nat} {rt : Option FieldType} {a : Array Value} {s : State} {m : MethodId} {meth : Method} {c : Code} (h1 : s.methodNamed? y = some m) (h2 : s.vm.method? m = some meth) (h3 : meth.code = some c) (h4 : c.code = bytes)
    (h5 : (c.maxLocals == mx && c.exceptionTable.isEmpty && decide (c.maxStack ≤ mostOperands) && decide (meth.sig.returnType = rt) && !meth.locks && decide (parseMethodDescriptor y.desc = some meth.sig)) = true) : (Jvm.Cond.code y bytes mx rt).before a s = true := by
  simp only [Bool.and_eq_true, beq_iff_eq, Bool.not_eq_true', decide_eq_true_eq] at h5
  obtain ⟨⟨⟨⟨⟨g1, g2⟩, g3⟩, g4⟩, g5⟩, g6⟩ := h5
  simp [Cond.before, Cond.holds, Cond.value, h1, h2, h3, h4, g1, g2, g3, g4, g5, g6]
def isCode : Jvm.Cond → Bool
  | .code _ _ _ _ => true
  | _ => false
theorem all_split {L : List Jvm.Cond} {P : Jvm.Cond → Bool} (h1 : L.all (fun c => isCode c || P c) = true) (h2 : ∀ c ∈ L.filter isCode, P c = true) : L.all P = true := by
  refine List.all_eq_true.mpr fun c hc => ?_
  have h := List.all_eq_true.mp h1 c hc
  rcases Bool.eq_false_or_eq_true (isCode c) with hi | hi
  · exact h2 c (List.mem_filter.mpr ⟨hc, hi⟩)
  · simpa [hi] using h
set_option maxRecDepth 65536 in
theorem w_c0 : (Jvm.Cond.code x code maxLocals ret).before args0 about1 = true := code_word (m := ⟨1, 2⟩) (meth := k1m2) (c := k1c2) (by decide +kernel) rfl rfl rfl (by decide +kernel)
set_option maxRecDepth 65536 in
theorem w_c1 : (Jvm.Cond.code ({ cls := "java/lang/String", name := "<init>", desc := "([C)V" } : Jvm.MethodName) jdk_42_method_3_code (2 : Nat) (Option.none : Option Jvm.ClassFile.FieldType)).before args0 about1 = true := code_word (m := ⟨7, 1⟩) (meth := k7m1) (c := k7c1) (by decide +kernel) rfl rfl rfl (by decide +kernel)
set_option maxRecDepth 65536 in
theorem w_c2 : (Jvm.Cond.code ({ cls := "java/lang/String", name := "<init>", desc := "([CIILjava/lang/Void;)V" } : Jvm.MethodName) jdk_42_method_149_code (6 : Nat) (Option.none : Option Jvm.ClassFile.FieldType)).before args0 about1 = true := code_word (m := ⟨7, 5⟩) (meth := k7m5) (c := k7c5) (by decide +kernel) rfl rfl rfl (by decide +kernel)
set_option maxRecDepth 65536 in
theorem w_c3 : (Jvm.Cond.code ({ cls := "java/lang/Object", name := "<init>", desc := "()V" } : Jvm.MethodName) object_method_1_code (1 : Nat) (Option.none : Option Jvm.ClassFile.FieldType)).before args0 about1 = true := code_word (m := ⟨0, 0⟩) (meth := k0m0) (c := k0c0) (by decide +kernel) rfl rfl rfl (by decide +kernel)
set_option maxRecDepth 65536 in
theorem w_c4 : (Jvm.Cond.code ({ cls := "com/example/kuri/kuri/normalize/SchemeRules", name := "of", desc := "(Ljava/lang/String;)Lcom/example/kuri/kuri/normalize/SchemeRules;" } : Jvm.MethodName) prog_13_method_4_code (6 : Nat) (Option.some (Jvm.ClassFile.FieldType.object "com/example/kuri/kuri/normalize/SchemeRules"))).before args0 about1 = true := code_word (m := ⟨9, 1⟩) (meth := k9m1) (c := k9c1) (by decide +kernel) rfl rfl rfl (by decide +kernel)
set_option maxRecDepth 65536 in
theorem w_c5 : (Jvm.Cond.code ({ cls := "com/example/kuri/kuri/normalize/SchemeRules", name := "values", desc := "()[Lcom/example/kuri/kuri/normalize/SchemeRules;" } : Jvm.MethodName) prog_13_method_1_code (0 : Nat) (Option.some (Jvm.ClassFile.FieldType.array (Jvm.ClassFile.FieldType.object "com/example/kuri/kuri/normalize/SchemeRules")))).before args0 about1 = true := code_word (m := ⟨9, 0⟩) (meth := k9m0) (c := k9c0) (by decide +kernel) rfl rfl rfl (by decide +kernel)
set_option maxRecDepth 65536 in
theorem w_c6 : (Jvm.Cond.code ({ cls := "java/lang/String", name := "equals", desc := "(Ljava/lang/Object;)Z" } : Jvm.MethodName) jdk_42_method_66_code (3 : Nat) (Option.some Jvm.ClassFile.FieldType.boolean)).before args0 about1 = true := code_word (m := ⟨7, 4⟩) (meth := k7m4) (c := k7c4) (by decide +kernel) rfl rfl rfl (by decide +kernel)
set_option maxRecDepth 65536 in
theorem w_c7 : (Jvm.Cond.code ({ cls := "java/lang/StringLatin1", name := "equals", desc := "([B[B)Z" } : Jvm.MethodName) jdk_43_method_13_code (3 : Nat) (Option.some Jvm.ClassFile.FieldType.boolean)).before args0 about1 = true := code_word (m := ⟨11, 2⟩) (meth := k11m2) (c := k11c2) (by decide +kernel) rfl rfl rfl (by decide +kernel)
set_option maxRecDepth 65536 in
theorem w_c8 : (Jvm.Cond.code ({ cls := "com/example/kuri/kuri/normalize/SchemeRulesOfPinLaw", name := "ch", desc := "(JILjava/lang/String;ZI)C" } : Jvm.MethodName) method_2_code (6 : Nat) (Option.some Jvm.ClassFile.FieldType.char)).before args0 about1 = true := code_word (m := ⟨1, 1⟩) (meth := k1m1) (c := k1c1) (by decide +kernel) rfl rfl rfl (by decide +kernel)
set_option maxRecDepth 65536 in
theorem w_c9 : (Jvm.Cond.code ({ cls := "java/lang/StringUTF16", name := "compress", desc := "([CII)[B" } : Jvm.MethodName) jdk_52_method_16_code (6 : Nat) (Option.some (Jvm.ClassFile.FieldType.array Jvm.ClassFile.FieldType.byte))).before args0 about1 = true := code_word (m := ⟨12, 2⟩) (meth := k12m2) (c := k12c2) (by decide +kernel) rfl rfl rfl (by decide +kernel)
set_option maxRecDepth 65536 in
theorem w_c10 : (Jvm.Cond.code ({ cls := "java/lang/StringUTF16", name := "compress", desc := "([CI[BII)I" } : Jvm.MethodName) jdk_52_method_21_code (7 : Nat) (Option.some Jvm.ClassFile.FieldType.int)).before args0 about1 = true := code_word (m := ⟨12, 3⟩) (meth := k12m3) (c := k12c3) (by decide +kernel) rfl rfl rfl (by decide +kernel)
set_option maxRecDepth 65536 in
theorem w_c11 : (Jvm.Cond.code ({ cls := "java/lang/StringUTF16", name := "coderFromArrayLen", desc := "([BI)B" } : Jvm.MethodName) jdk_52_method_15_code (2 : Nat) (Option.some Jvm.ClassFile.FieldType.byte)).before args0 about1 = true := code_word (m := ⟨12, 1⟩) (meth := k12m1) (c := k12c1) (by decide +kernel) rfl rfl rfl (by decide +kernel)
set_option maxRecDepth 65536 in
theorem w_c12 : (Jvm.Cond.code ({ cls := "java/lang/String", name := "length", desc := "()I" } : Jvm.MethodName) jdk_42_method_54_code (1 : Nat) (Option.some Jvm.ClassFile.FieldType.int)).before args0 about1 = true := code_word (m := ⟨7, 2⟩) (meth := k7m2) (c := k7c2) (by decide +kernel) rfl rfl rfl (by decide +kernel)
set_option maxRecDepth 65536 in
theorem w_c13 : (Jvm.Cond.code ({ cls := "java/lang/String", name := "coder", desc := "()B" } : Jvm.MethodName) jdk_42_method_152_code (1 : Nat) (Option.some Jvm.ClassFile.FieldType.byte)).before args0 about1 = true := code_word (m := ⟨7, 6⟩) (meth := k7m6) (c := k7c6) (by decide +kernel) rfl rfl rfl (by decide +kernel)
set_option maxRecDepth 65536 in
theorem w_c14 : (Jvm.Cond.code ({ cls := "java/lang/String", name := "charAt", desc := "(I)C" } : Jvm.MethodName) jdk_42_method_56_code (2 : Nat) (Option.some Jvm.ClassFile.FieldType.char)).before args0 about1 = true := code_word (m := ⟨7, 3⟩) (meth := k7m3) (c := k7c3) (by decide +kernel) rfl rfl rfl (by decide +kernel)
set_option maxRecDepth 65536 in
theorem w_c15 : (Jvm.Cond.code ({ cls := "java/lang/String", name := "isLatin1", desc := "()Z" } : Jvm.MethodName) jdk_42_method_154_code (1 : Nat) (Option.some Jvm.ClassFile.FieldType.boolean)).before args0 about1 = true := code_word (m := ⟨7, 7⟩) (meth := k7m7) (c := k7c7) (by decide +kernel) rfl rfl rfl (by decide +kernel)
set_option maxRecDepth 65536 in
theorem w_c16 : (Jvm.Cond.code ({ cls := "java/lang/StringLatin1", name := "charAt", desc := "([BI)C" } : Jvm.MethodName) jdk_43_method_2_code (2 : Nat) (Option.some Jvm.ClassFile.FieldType.char)).before args0 about1 = true := code_word (m := ⟨11, 1⟩) (meth := k11m1) (c := k11c1) (by decide +kernel) rfl rfl rfl (by decide +kernel)
set_option maxRecDepth 65536 in
theorem w_c17 : (Jvm.Cond.code ({ cls := "java/lang/String", name := "checkIndex", desc := "(II)V" } : Jvm.MethodName) jdk_42_method_155_code (2 : Nat) (Option.none : Option Jvm.ClassFile.FieldType)).before args0 about1 = true := code_word (m := ⟨7, 8⟩) (meth := k7m8) (c := k7c8) (by decide +kernel) rfl rfl rfl (by decide +kernel)
set_option maxRecDepth 65536 in
theorem w_c18 : (Jvm.Cond.code ({ cls := "jdk/internal/util/Preconditions", name := "checkIndex", desc := "(IILjava/util/function/BiFunction;)I" } : Jvm.MethodName) jdk_41_method_11_code (3 : Nat) (Option.some Jvm.ClassFile.FieldType.int)).before args0 about1 = true := code_word (m := ⟨13, 1⟩) (meth := k13m1) (c := k13c1) (by decide +kernel) rfl rfl rfl (by decide +kernel)
def codes1 : List Jvm.Cond := [Jvm.Cond.code x code maxLocals ret, Jvm.Cond.code ({ cls := "java/lang/String", name := "<init>", desc := "([C)V" } : Jvm.MethodName) jdk_42_method_3_code (2 : Nat) (Option.none : Option Jvm.ClassFile.FieldType), Jvm.Cond.code ({ cls := "java/lang/String", name := "<init>", desc := "([CIILjava/lang/Void;)V" } : Jvm.MethodName) jdk_42_method_149_code (6 : Nat) (Option.none : Option Jvm.ClassFile.FieldType), Jvm.Cond.code ({ cls := "java/lang/Object", name := "<init>", desc := "()V" } : Jvm.MethodName) object_method_1_code (1 : Nat) (Option.none : Option Jvm.ClassFile.FieldType), Jvm.Cond.code ({ cls := "com/example/kuri/kuri/normalize/SchemeRules", name := "of", desc := "(Ljava/lang/String;)Lcom/example/kuri/kuri/normalize/SchemeRules;" } : Jvm.MethodName) prog_13_method_4_code (6 : Nat) (Option.some (Jvm.ClassFile.FieldType.object "com/example/kuri/kuri/normalize/SchemeRules")), Jvm.Cond.code ({ cls := "com/example/kuri/kuri/normalize/SchemeRules", name := "values", desc := "()[Lcom/example/kuri/kuri/normalize/SchemeRules;" } : Jvm.MethodName) prog_13_method_1_code (0 : Nat) (Option.some (Jvm.ClassFile.FieldType.array (Jvm.ClassFile.FieldType.object "com/example/kuri/kuri/normalize/SchemeRules"))), Jvm.Cond.code ({ cls := "java/lang/String", name := "equals", desc := "(Ljava/lang/Object;)Z" } : Jvm.MethodName) jdk_42_method_66_code (3 : Nat) (Option.some Jvm.ClassFile.FieldType.boolean), Jvm.Cond.code ({ cls := "java/lang/StringLatin1", name := "equals", desc := "([B[B)Z" } : Jvm.MethodName) jdk_43_method_13_code (3 : Nat) (Option.some Jvm.ClassFile.FieldType.boolean), Jvm.Cond.code ({ cls := "com/example/kuri/kuri/normalize/SchemeRulesOfPinLaw", name := "ch", desc := "(JILjava/lang/String;ZI)C" } : Jvm.MethodName) method_2_code (6 : Nat) (Option.some Jvm.ClassFile.FieldType.char), Jvm.Cond.code ({ cls := "java/lang/StringUTF16", name := "compress", desc := "([CII)[B" } : Jvm.MethodName) jdk_52_method_16_code (6 : Nat) (Option.some (Jvm.ClassFile.FieldType.array Jvm.ClassFile.FieldType.byte)), Jvm.Cond.code ({ cls := "java/lang/StringUTF16", name := "compress", desc := "([CI[BII)I" } : Jvm.MethodName) jdk_52_method_21_code (7 : Nat) (Option.some Jvm.ClassFile.FieldType.int), Jvm.Cond.code ({ cls := "java/lang/StringUTF16", name := "coderFromArrayLen", desc := "([BI)B" } : Jvm.MethodName) jdk_52_method_15_code (2 : Nat) (Option.some Jvm.ClassFile.FieldType.byte), Jvm.Cond.code ({ cls := "java/lang/String", name := "length", desc := "()I" } : Jvm.MethodName) jdk_42_method_54_code (1 : Nat) (Option.some Jvm.ClassFile.FieldType.int), Jvm.Cond.code ({ cls := "java/lang/String", name := "coder", desc := "()B" } : Jvm.MethodName) jdk_42_method_152_code (1 : Nat) (Option.some Jvm.ClassFile.FieldType.byte), Jvm.Cond.code ({ cls := "java/lang/String", name := "charAt", desc := "(I)C" } : Jvm.MethodName) jdk_42_method_56_code (2 : Nat) (Option.some Jvm.ClassFile.FieldType.char), Jvm.Cond.code ({ cls := "java/lang/String", name := "isLatin1", desc := "()Z" } : Jvm.MethodName) jdk_42_method_154_code (1 : Nat) (Option.some Jvm.ClassFile.FieldType.boolean), Jvm.Cond.code ({ cls := "java/lang/StringLatin1", name := "charAt", desc := "([BI)C" } : Jvm.MethodName) jdk_43_method_2_code (2 : Nat) (Option.some Jvm.ClassFile.FieldType.char), Jvm.Cond.code ({ cls := "java/lang/String", name := "checkIndex", desc := "(II)V" } : Jvm.MethodName) jdk_42_method_155_code (2 : Nat) (Option.none : Option Jvm.ClassFile.FieldType), Jvm.Cond.code ({ cls := "jdk/internal/util/Preconditions", name := "checkIndex", desc := "(IILjava/util/function/BiFunction;)I" } : Jvm.MethodName) jdk_41_method_11_code (3 : Nat) (Option.some Jvm.ClassFile.FieldType.int)]
set_option maxRecDepth 65536 in
theorem codes_eq : words1.filter isCode = codes1 := rfl
theorem w_codes : ∀ c ∈ words1.filter isCode, c.before args0 about1 = true := by
  rw [codes_eq]
  intro c hc
  simp only [codes1, List.mem_cons, List.not_mem_nil, or_false] at hc
  rcases hc with rfl | rfl | rfl | rfl | rfl | rfl | rfl | rfl | rfl | rfl | rfl | rfl | rfl | rfl | rfl | rfl | rfl | rfl | rfl
  · exact w_c0
  · exact w_c1
  · exact w_c2
  · exact w_c3
  · exact w_c4
  · exact w_c5
  · exact w_c6
  · exact w_c7
  · exact w_c8
  · exact w_c9
  · exact w_c10
  · exact w_c11
  · exact w_c12
  · exact w_c13
  · exact w_c14
  · exact w_c15
  · exact w_c16
  · exact w_c17
  · exact w_c18
set_option maxRecDepth 65536 in
theorem w_t1 : (words1.take 24).all (fun c => isCode c || c.before args0 about1) = true := by decide +kernel
set_option maxRecDepth 65536 in
theorem w_t2 : ((words1.drop 24).take 24).all (fun c => isCode c || c.before args0 about1) = true := by decide +kernel
set_option maxRecDepth 65536 in
theorem w_t3 : (((words1.drop 24).drop 24).take 24).all (fun c => isCode c || c.before args0 about1) = true := by decide +kernel
set_option maxRecDepth 65536 in
theorem w_t4 : ((((words1.drop 24).drop 24).drop 24).take 24).all (fun c => isCode c || c.before args0 about1) = true := by decide +kernel
set_option maxRecDepth 65536 in
theorem w_t5 : ((((words1.drop 24).drop 24).drop 24).drop 24).all (fun c => isCode c || c.before args0 about1) = true := by decide +kernel
theorem w_tables : (allAtoms (Jvm.Cond.code x code maxLocals ret :: tables_1)).before args0 about1 = true := by
  rw [allAtoms_all]
  show words1.all (fun c => c.before args0 about1) = true
  refine all_split ?_ w_codes
  rw [← List.take_append_drop 24 words1, List.all_append, w_t1, ← List.take_append_drop 24 (words1.drop 24), List.all_append, w_t2, ← List.take_append_drop 24 ((words1.drop 24).drop 24), List.all_append, w_t3, ← List.take_append_drop 24 (((words1.drop 24).drop 24).drop 24), List.all_append, w_t4, w_t5]
  rfl
set_option maxRecDepth 65536 in
theorem w_rest : rest_1_c.before args0 about1 = true := by decide +kernel
set_option maxRecDepth 65536 in
theorem w_case : (Jvm.Cond.and given_1 narrow_1).before args0 about1 = true := by decide +kernel
set_option maxRecDepth 65536 in
theorem w_consts : constsHeld consts_1 about1 := Jvm.Lit.constsHeldB_iff.mp (by decide +kernel)
theorem w_applies : (headSpec (Jvm.Cond.code x code maxLocals ret :: tables_1) room_1).applies x e0.platform about1 = true :=
  (Spec.applies_iff w_frames).mpr ⟨w_running, w_runnable, w_alone, w_named, w_hears, w_ripe, w_room, w_tables⟩
theorem atStart : AtStart classFile x code maxLocals ret World_1 tables_1 room_1 Calls_1 rest_1 Pre_1 launch0 p0 e0 about1 theMethod args0 below0 :=
  ⟨lists_1, trivial, launch0.admits_env _ _ _, launch0.least_env, fairChoices_fair.cas, fairChoices_fair.clock, w_frames, w_args, w_heap, w_applies, ⟨w_consts, trivial⟩, w_rest, w_case⟩
end start1
theorem witness_1 : WitnessClaimed_1 := ⟨start1.p0, start1.e0, start1.about1, start1.theMethod, start1.args0, start1.below0, start1.atStart⟩
end Jvm.Pilot.@@N@@
